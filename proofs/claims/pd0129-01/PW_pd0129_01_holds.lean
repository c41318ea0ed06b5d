import PyProof.Rows.All
import Wide.All
import OpenK.AllK
import Wide.FinOn
import Lean
import PySem.Challenge.RW_pd0129_01
set_option Elab.async false
set_option rowWalk.seconds 0
section
open PySem PySem.W PyProof.Rows
set_option maxRecDepth 100000
set_option maxHeartbeats 0
namespace Mine
open_top hd for PySem.Challenge.rw_pd0129_01
end Mine
end
section
open PySem PySem.W PyProof.Rows
set_option maxRecDepth 100000
set_option maxHeartbeats 0
namespace Mine

noncomputable abbrev lz : List Str := looseW Mine.hd.view_39 [Str.ofString "_twin_re_1", Str.ofString "_twin_re_2"]

/-- a def of the text, called with these values, hands back a value as R says, and may have made `more` -/
def Says (w : World) (mean : ExcName → Option Value) (mg mb : Str → Option Value) (lv : Nat) (f : Addr) (P : List (Addr × Obj) → Prop) (vs : List Value) (R : Value → List (Addr × Obj) → Prop) : Prop :=
  ∀ (dp un : Nat) (gd : Option (List Code)) (cn : Str) (cs : Scope) (a : Addr) (ccd : Value) (cl : List (Str × Addr)) (outer : List Env) (A₀ : Around) (base h₀ : Heap) (L : Addr) (m : Str → Option Value) (news : List (Addr × Obj)) (s : Shared) (Q E : Value → Shared → Prop),
    Below A₀ base outer h₀ → Fr h₀ L s.heap m → (Mine.hd.heap_39 w.params).In h₀ → News h₀ L s.heap news → Top Mine.hd.view_39 lz mean mg mb h₀ → cs.kind = .function → P news →
    dp + lv < recursionLimit → un + 10 * lv < cLine →
    (∀ (v : Value) (more : List (Addr × Obj)) (h' : Heap) (tk' : Nat), R v more → Fr h₀ L h' m → News h₀ L h' (more ++ news) → (∀ q ∈ news, ∀ p ∈ more, q.1 < p.1) → Q v { s with heap := h', toks := tk' }) →
    wpAny (model PySem.Challenge.rw_pd0129_01.row.prog w) (ktrTop dp un gd cn cs L a ccd cl outer) (call (.ref f) vs) Q E s
theorem says_end {h₀ h' : Heap} {L : Addr} {m : Str → Option Value} {news news' : List (Addr × Obj)} {s : Shared} {tk' : Nat} {Q : Value → Shared → Prop} {R : Value → List (Addr × Obj) → Prop} {v : Value}
    (hret : ∀ (v : Value) (more : List (Addr × Obj)) (h' : Heap) (tk' : Nat), R v more → Fr h₀ L h' m → News h₀ L h' (more ++ news) → (∀ q ∈ news, ∀ p ∈ more, q.1 < p.1) → Q v { s with heap := h', toks := tk' })
    (F : Fr h₀ L h' m) (N : News h₀ L h' news') (hs : ∀ p ∈ news, p ∈ news') (hR : R v []) : Q v { s with heap := h', toks := tk' } :=
  hret v [] h' tk' hR F (fun p hp => N p (hs p hp)) (fun _ _ _ h => nomatch h)
theorem says_end1 {h₀ h' : Heap} {L : Addr} {m : Str → Option Value} {news : List (Addr × Obj)} {s : Shared} {tk' : Nat} {Q : Value → Shared → Prop} {R : Value → List (Addr × Obj) → Prop} {v : Value} {D : Addr} {o : Obj}
    (hret : ∀ (v : Value) (more : List (Addr × Obj)) (h' : Heap) (tk' : Nat), R v more → Fr h₀ L h' m → News h₀ L h' (more ++ news) → (∀ q ∈ news, ∀ p ∈ more, q.1 < p.1) → Q v { s with heap := h', toks := tk' })
    (F : Fr h₀ L h' m) (N : News h₀ L h' ((D, o) :: news)) (hl : ∀ p ∈ news, p.1 < D) (hR : R v [(D, o)]) : Q v { s with heap := h', toks := tk' } :=
  hret v [(D, o)] h' tk' hR F N (fun q hq p hp => by rw [List.mem_singleton.mp hp]; exact hl q hq)
/-- a contract used at a call -/
theorem Says.use {w : World} {mean : ExcName → Option Value} {mg mb : Str → Option Value} {lv : Nat} {f : Addr} {P : List (Addr × Obj) → Prop} {vs : List Value} {R : Value → List (Addr × Obj) → Prop} (S : Says w mean mg mb lv f P vs R)
    {dp un : Nat} {gd : Option (List Code)} {cn : Str} {cs : Scope} {a : Addr} {ccd : Value} {cl : List (Str × Addr)} {outer : List Env} {A₀ : Around} {base h₀ : Heap} {L : Addr} {m : Str → Option Value} {news : List (Addr × Obj)} {s : Shared} {Q E : Value → Shared → Prop}
    (B : Below A₀ base outer h₀) (F : Fr h₀ L s.heap m) (X : (Mine.hd.heap_39 w.params).In h₀) (N : News h₀ L s.heap news) (T : Top Mine.hd.view_39 lz mean mg mb h₀) (hk : cs.kind = .function) (hd : dp + lv < recursionLimit) (hu : un + 10 * lv < cLine) (hP : P news)
    (h : ∀ (v : Value) (more : List (Addr × Obj)) (h' : Heap) (tk' : Nat), R v more → Fr h₀ L h' m → News h₀ L h' (more ++ news) → (∀ q ∈ news, ∀ p ∈ more, q.1 < p.1) → Q v { s with heap := h', toks := tk' }) :
    wpAny (model PySem.Challenge.rw_pd0129_01.row.prog w) (ktrTop dp un gd cn cs L a ccd cl outer) (call (.ref f) vs) Q E s := S dp un gd cn cs a ccd cl outer A₀ base h₀ L m news s Q E B F X N T hk hP hd hu h
/-- it hands back r t, and keeps nothing -/
def Ret (r : Tok → Value) : Value → List (Addr × Obj) → Prop := fun v more => more = [] ∧ ∃ t, v = r t
theorem Ret.intro {r : Tok → Value} (t : Tok) {v : Value} (e : v = r t) : Ret r v [] := ⟨rfl, t, e⟩
theorem Says.use0 {w : World} {mean : ExcName → Option Value} {mg mb : Str → Option Value} {lv : Nat} {f : Addr} {P : List (Addr × Obj) → Prop} {vs : List Value} {r : Tok → Value} (S : Says w mean mg mb lv f P vs (Ret r))
    {dp un : Nat} {gd : Option (List Code)} {cn : Str} {cs : Scope} {a : Addr} {ccd : Value} {cl : List (Str × Addr)} {outer : List Env} {A₀ : Around} {base h₀ : Heap} {L : Addr} {m : Str → Option Value} {news : List (Addr × Obj)} {s : Shared} {Q E : Value → Shared → Prop}
    (B : Below A₀ base outer h₀) (F : Fr h₀ L s.heap m) (X : (Mine.hd.heap_39 w.params).In h₀) (N : News h₀ L s.heap news) (T : Top Mine.hd.view_39 lz mean mg mb h₀) (hk : cs.kind = .function) (hd : dp + lv < recursionLimit) (hu : un + 10 * lv < cLine) (hP : P news)
    (h : ∀ (t : Tok) (h' : Heap) (tk' : Nat), Fr h₀ L h' m → News h₀ L h' news → Q (r t) { s with heap := h', toks := tk' }) :
    wpAny (model PySem.Challenge.rw_pd0129_01.row.prog w) (ktrTop dp un gd cn cs L a ccd cl outer) (call (.ref f) vs) Q E s :=
  S.use B F X N T hk hd hu hP fun v more h' tk' hR F' N' _ => by
    obtain ⟨rfl, t, rfl⟩ := hR
    exact h t h' tk' F' N'
/-- as Says, what is kept is told apart by address alone -/
def SaysN (w : World) (mean : ExcName → Option Value) (mg mb : Str → Option Value) (lv : Nat) (f : Addr) (P : List (Addr × Obj) → Prop) (vs : List Value) (R : Value → List (Addr × Obj) → Prop) : Prop :=
  ∀ (dp un : Nat) (gd : Option (List Code)) (cn : Str) (cs : Scope) (a : Addr) (ccd : Value) (cl : List (Str × Addr)) (outer : List Env) (A₀ : Around) (base h₀ : Heap) (L : Addr) (m : Str → Option Value) (news : List (Addr × Obj)) (s : Shared) (Q E : Value → Shared → Prop),
    Below A₀ base outer h₀ → Fr h₀ L s.heap m → (Mine.hd.heap_39 w.params).In h₀ → News h₀ L s.heap news → Top Mine.hd.view_39 lz mean mg mb h₀ → cs.kind = .function → P news →
    dp + lv < recursionLimit → un + 10 * lv < cLine →
    (∀ (v : Value) (more : List (Addr × Obj)) (h' : Heap) (tk' : Nat), R v more → Fr h₀ L h' m → News h₀ L h' (more ++ news) → (∀ q ∈ news, ∀ p ∈ more, q.1 ≠ p.1) → Q v { s with heap := h', toks := tk' }) →
    wpAny (model PySem.Challenge.rw_pd0129_01.row.prog w) (ktrTop dp un gd cn cs L a ccd cl outer) (call (.ref f) vs) Q E s
theorem saysN_end2 {h₀ h' : Heap} {L : Addr} {m : Str → Option Value} {news news' : List (Addr × Obj)} {s : Shared} {tk' : Nat} {Q : Value → Shared → Prop} {R : Value → List (Addr × Obj) → Prop} {v : Value} {D D1 : Addr} {o o1 : Obj}
    (hret : ∀ (v : Value) (more : List (Addr × Obj)) (h' : Heap) (tk' : Nat), R v more → Fr h₀ L h' m → News h₀ L h' (more ++ news) → (∀ q ∈ news, ∀ p ∈ more, q.1 ≠ p.1) → Q v { s with heap := h', toks := tk' })
    (F : Fr h₀ L h' m) (N : News h₀ L h' news') (hm : (D, o) ∈ news') (hm1 : (D1, o1) ∈ news') (hs : ∀ p ∈ news, p ∈ news') (hl : ∀ p ∈ news, p.1 < D) (hl1 : ∀ p ∈ news, p.1 ≠ D1) (hR : R v [(D, o), (D1, o1)]) : Q v { s with heap := h', toks := tk' } :=
  hret v [(D, o), (D1, o1)] h' tk' hR F (fun p hp => by
    rcases List.mem_cons.mp hp with rfl | hp
    · exact N _ hm
    · rcases List.mem_cons.mp hp with rfl | hp
      · exact N _ hm1
      · exact N _ (hs p hp)) (fun q hq p hp => by
    rcases List.mem_cons.mp hp with rfl | hp
    · exact Nat.ne_of_lt (hl q hq)
    · rw [List.mem_singleton.mp hp]; exact hl1 q hq)
end Mine
end
section
open PySem PySem.W PyProof.Rows PySem.Calls
set_option maxRecDepth 100000
set_option maxHeartbeats 0
namespace Mine
theorem plain_issub_nested : plainId "issubclass.nested" = true := by decide +kernel
theorem check_issub (a b c : Value) : checkBuiltinCall "issubclass.nested" ⟨[a, b, c], []⟩ = pure () := by kernel_rfl
theorem sub_str_str : isSubtype (.type "str") (.type "str") = pure true := by rw [isSubtype_type]; kernel_rfl
theorem metaTypeOf_str : typeOf (.type "str") = pure (.type "type") := by kernel_rfl
section
variable {prog : Program} {w : World} {A : Around} {E : Value → Shared → Prop} {s : Shared}
theorem issub_str_nested {dep : Int} {tk : Tok} {Q : Fin → Shared → Prop} (hq : Q (.done (.ret (.bool true))) s) :
    wpAny (model prog w) A (Builtin.«issubclass.nested» ⟨[.type "str", .type "str", .int dep tk], []⟩) Q E s := by
  have hm := metaTypeOf_str
  have hself := sub_str_str
  repeat (any_goals (first | assumption | (rw [hself]) | wp_step))
theorem issub_str_meets (dep : Int) (tk : Tok) : Meets (Builtin.«issubclass.nested» ⟨[.type "str", .type "str", .int dep tk], []⟩) (fun _ R s => R (.ok (.ret (.bool true))) s) :=
  fun _ _ _ _ _ hs => issub_str_nested hs
theorem code_issub {dep : Int} {tk : Tok} {R : Result → Shared → Prop} (h : R (.ok (.ret (.bool true))) s) : codeAny (model prog w) A (.call (.builtin "issubclass.nested") ⟨[.type "str", .type "str", .int dep tk], []⟩) R s :=
  codeAny_call_builtin plain_issub_nested F.entry_issubclass_nested (by rw [check_issub]; exact wpAny_pure (issub_str_meets dep tk prog w A R s h))
theorem issub_tuple {c : Value} {tp : Addr} {Q : Value → Shared → Prop} (htp : s.heap.get? tp = some { cls := .type "tuple", data := .seq #[.type "str", c] })
    (hq : Q (.bool true) s) : wpAny (model prog w) A (call (.builtin "issubclass") [.type "str", .ref tp]) Q E s := by
  refine call_function_meets F.kind_issubclass F.plain_issubclass F.entry_issubclass (F.args_issubclass_2 _ _) (S := fun _ R s' => s'.heap.get? tp = some { cls := .type "tuple", data := .seq #[.type "str", c] } ∧ R (.ok (.ret (.bool true))) s') ?_ ⟨htp, hq⟩
  intro prog w A R s hs
  refine issubclass_outer ?_
  obtain ⟨h, g, d, t, os⟩ := s
  have hT2 : (⟨h, g, d, t, os⟩ : Shared).TypeIs (.ref tp) "tuple" := ⟨_, hs.1, rfl⟩
  have f1 := F.isi_sub_tuple
  have htp := hs.1
  repeat (any_goals (first | assumption | wp_step))
  refine code_issub ?_
  repeat (any_goals (first | assumption | wp_step))
  exact hs.2
end
end Mine
end
section
open PySem PySem.W PyProof.Rows PySem.Calls
set_option maxRecDepth 100000
set_option maxHeartbeats 0
namespace Mine
/-- the end of a turn: what is named stands, the ledger is told by a letter -/
def TurnEnd {σ : Type} (h₀ : Heap) (L : Addr) (Led : σ → List (Addr × Obj)) (ps : σ → List (Str × Value)) (P : σ → Prop) (own : List (Addr × Obj)) (I : Addr) (s₁ : Shared) (Q : Flow → Shared → Prop) (f : Flow) (s₂ : Shared) : Prop :=
  match f with
  | .ret v => Q (.ret v) s₂
  | .brk => Q .next s₂
  | _ => ∃ c h' tk m' news', s₂ = { s₁ with heap := h', toks := tk } ∧ Fr h₀ L h' m' ∧ News h₀ L h' news' ∧ (∀ p ∈ Led c, p ∈ news') ∧ (∀ p ∈ own, p ∈ news') ∧ (∀ p ∈ Led c, p.1 ≠ I) ∧ (∀ p ∈ ps c, m' p.1 = some p.2) ∧ P c
section
variable {prog : Program} {w : World} {A : Around} {E : Value → Shared → Prop} {s : Shared} {env : Env} {h₀ : Heap} {x : Str} {body : List Stmt} {Q : Flow → Shared → Prop}
theorem TurnEnd.intro {σ : Type} {L : Addr} {Led : σ → List (Addr × Obj)} {ps : σ → List (Str × Value)} {P : σ → Prop} {own news' : List (Addr × Obj)} {I : Addr} {s₁ : Shared} {m' : Str → Option Value} {h' : Heap} {tk : Nat} (c : σ)
    (F : Fr h₀ L h' m') (N : News h₀ L h' news') (hl : ∀ p ∈ Led c, p ∈ news') (ho : ∀ p ∈ own, p ∈ news') (hI : ∀ p ∈ Led c, p.1 ≠ I) (hk : ∀ p ∈ ps c, m' p.1 = some p.2) (hp : P c) :
    TurnEnd h₀ L Led ps P own I s₁ Q .next { s₁ with heap := h', toks := tk } := ⟨c, h', tk, m', news', rfl, F, N, hl, ho, hI, hk, hp⟩
theorem TurnEnd.introC {σ : Type} {L : Addr} {Led : σ → List (Addr × Obj)} {ps : σ → List (Str × Value)} {P : σ → Prop} {own news' : List (Addr × Obj)} {I : Addr} {s₁ : Shared} {m' : Str → Option Value} {h' : Heap} {tk : Nat} (c : σ)
    (F : Fr h₀ L h' m') (N : News h₀ L h' news') (hl : ∀ p ∈ Led c, p ∈ news') (ho : ∀ p ∈ own, p ∈ news') (hI : ∀ p ∈ Led c, p.1 ≠ I) (hk : ∀ p ∈ ps c, m' p.1 = some p.2) (hp : P c) :
    TurnEnd h₀ L Led ps P own I s₁ Q .cont { s₁ with heap := h', toks := tk } := ⟨c, h', tk, m', news', rfl, F, N, hl, ho, hI, hk, hp⟩
theorem kstB_self {u : Str → Option Value} {ps : List (Str × Value)} (h : ∀ p ∈ ps, u p.1 = some p.2) : kstB u ps = u := by
  funext z
  exact kstB_eq h fun _ => rfl
theorem loop_go {σ : Type} {I : Addr} {fp : List Addr} {n : Nat} {Pv : Nat → Value → Prop} {St : Nat → Heap → Prop} {m₀ : Str → Option Value} (Led : σ → List (Addr × Obj)) (ps : σ → List (Str × Value)) (P : Nat → σ → Prop) (c₀ : σ)
    (W : Walks prog w A I fp [I] n Pv St) (hSt : ∀ i h, St i h → ∃ o, h.get? I = some o) (hLf : env.locals ∉ fp) (hwr : h₀.get? I = none)
    (hnw : ∀ p ∈ Led c₀, p.1 ≠ I) (hst : St 0 s.heap) (F : Fr h₀ env.locals s.heap m₀) (N : News h₀ env.locals s.heap (Led c₀)) (hk : ∀ p ∈ ps c₀, m₀ p.1 = some p.2) (hp : P 0 c₀)
    (turn : ∀ (c : σ) i v (u : Str → Option Value) h tk own, i < n → Pv i v → P i c → (∀ p ∈ Led c, p.1 ≠ I) → (∀ p ∈ own, p.1 ∈ fp) → (∃ o, (I, o) ∈ own) →
      Fr h₀ env.locals h (fun y => if y = x then some v else kstB u (ps c) y) → News h₀ env.locals h (Led c ++ own) →
      wpAny (model prog w) A (execs body env) (TurnEnd h₀ env.locals Led ps (P (i + 1)) own I { s with heap := h, toks := tk } Q) E { s with heap := h, toks := tk })
    (done : ∀ (c : σ) (u : Str → Option Value) h tk, P n c → Fr h₀ env.locals h (kstB u (ps c)) → News h₀ env.locals h (Led c) → Q .next { s with heap := h, toks := tk }) :
    LoopAtV prog w A h₀ env x body Q E (.ref I) s := by
  refine ⟨I, fp, [I], n, Pv, St, m₀, Led c₀, fun i m nx => ∃ c, nx = Led c ∧ (∀ p ∈ ps c, m p.1 = some p.2) ∧ P i c, rfl, W, hLf, fun b hb => by rw [List.mem_singleton.mp hb]; exact hwr,
    fun p hp hI => hnw p hp (List.mem_singleton.mp hI), hst, F, N, ⟨c₀, rfl, hk, hp⟩, ?_, ?_⟩
  · rintro i v m₁ news₁ s₁ own ⟨hh', tk', rfl⟩ hin hP ⟨c, rfl, hps, hpc⟩ hoff hown _ hall hSt' F₁ N₁
    obtain ⟨oI, hoI⟩ := hSt _ _ hSt'
    have hI : (I, oI) ∈ own := hall I (W.sub I (List.mem_singleton.mpr rfl)) hwr oI hoI
    have hoff' : ∀ p ∈ Led c, p.1 ≠ I := fun p hp e => hoff p hp (List.mem_singleton.mpr e)
    have N₂ : News h₀ env.locals hh' (Led c ++ own) := fun p hp => N₁ p ((List.mem_append.mp hp).elim (fun h => List.mem_append.mpr (.inr h)) fun h => List.mem_append.mpr (.inl h))
    refine wpAny_mono (turn c i v m₁ hh' tk' own hin hP hpc hoff' hown ⟨oI, hI⟩ (by rw [kstB_self hps]; exact F₁) N₂) (fun f s₂ p => ?_) fun _ _ e => e
    have fin : (∃ c h' tk m' news', s₂ = { ({ s with heap := hh', toks := tk' } : Shared) with heap := h', toks := tk } ∧ Fr h₀ env.locals h' m' ∧ News h₀ env.locals h' news' ∧ (∀ p ∈ Led c, p ∈ news') ∧ (∀ p ∈ own, p ∈ news') ∧ (∀ p ∈ Led c, p.1 ≠ I) ∧ (∀ p ∈ ps c, m' p.1 = some p.2) ∧ P (i + 1) c) →
        LoopStepU h₀ env.locals [I] own (fun m nx => ∃ c, nx = Led c ∧ (∀ p ∈ ps c, m p.1 = some p.2) ∧ P (i + 1) c) { s with heap := hh', toks := tk' } .next s₂ := by
      rintro ⟨c', h', tk, m', news', e, F', N', hl, ho, hI', hk', hp'⟩
      exact ⟨rfl, h', tk, m', Led c', e, F', fun p hp => N' p ((List.mem_append.mp hp).elim (ho p) (hl p)), fun p hp hq => hI' p hp (List.mem_singleton.mp hq), c', rfl, hk', hp'⟩
    cases f with
    | ret v => exact .ret p
    | brk => exact .brk p
    | next => exact .next (fin p)
    | cont => exact .cont (fin p)
  · rintro h' tk m' news' F' N' _ ⟨c, rfl, hps, hpc⟩
    exact done c m' h' tk hpc (by rw [kstB_self hps]; exact F') N'
theorem for_list {σ : Type} {l : Addr} {items : Array Value} {m₀ : Str → Option Value} (Led : σ → List (Addr × Obj)) (ps : σ → List (Str × Value)) (P : Nat → σ → Prop) (c₀ : σ)
    (hh : A.handled = none) (hl : s.heap.IsList l items) (hlL : l ≠ env.locals) (F : Fr h₀ env.locals s.heap m₀) (N : News h₀ env.locals s.heap (Led c₀)) (hk : ∀ p ∈ ps c₀, m₀ p.1 = some p.2) (hp : P 0 c₀)
    (turn : ∀ I, (∀ p ∈ Led c₀, p.1 < I) → l < I → ∀ (c : σ) i v (u : Str → Option Value) h tk own, i < items.size → items[i]? = some v → P i c → (∀ p ∈ Led c, p.1 ≠ I) → (∀ p ∈ own, p.1 ∈ [I, l]) → (∃ o, (I, o) ∈ own) →
      Fr h₀ env.locals h (fun y => if y = x then some v else kstB u (ps c) y) → News h₀ env.locals h (Led c ++ own) →
      wpAny (model prog w) A (execs body env) (TurnEnd h₀ env.locals Led ps (P (i + 1)) own I { s with heap := h, toks := tk } Q) E { s with heap := h, toks := tk })
    (done : ∀ (c : σ) (u : Str → Option Value) h tk, P items.size c → Fr h₀ env.locals h (kstB u (ps c)) → News h₀ env.locals h (Led c) → Q .next { s with heap := h, toks := tk }) :
    wpAny (model prog w) A (pyIter (.ref l)) (fun it s₂ => LoopAtV prog w A h₀ env x body Q E it s₂) E s := by
  obtain ⟨ol, hol, _⟩ := id hl
  have hlt : l < s.heap.objs.size := Heap.lt_size hol
  refine wpAny_pyIter_list hl ?_
  have W := Walks.list (prog := prog) (w := w) hh s.heap.objs.size l (Nat.ne_of_lt hlt) items
  have hlt' : ∀ p ∈ Led c₀, p.1 < s.heap.objs.size := fun p hp => Heap.lt_size (N p hp).1
  refine loop_go Led ps P c₀ W (fun i h st => let ⟨o, ho, _⟩ := st.1; ⟨o, ho⟩) ?_ (next_is_new F) (fun p hp => Nat.ne_of_lt (hlt' p hp)) ⟨⟨_, Heap.get?_push_size _ rfl, rfl, rfl⟩, hl.at fun o e => Heap.get?_push_of_some _ e⟩ (F.push _)
    (fun p hp => ⟨Heap.get?_push_of_some _ (N p hp).1, (N p hp).2⟩) hk hp (turn _ hlt' hlt) done
  intro hm
  rcases List.mem_cons.mp hm with e | hm
  · exact absurd F.ns.lt (e ▸ Nat.lt_irrefl _)
  · exact hlL (List.mem_singleton.mp hm).symm
theorem for_tuple {σ : Type} {l : Addr} {items : Array Value} {m₀ : Str → Option Value} (Led : σ → List (Addr × Obj)) (ps : σ → List (Str × Value)) (P : Nat → σ → Prop) (c₀ : σ)
    (hh : A.handled = none) (hl : s.heap.IsTuple l items) (hlL : l ≠ env.locals) (F : Fr h₀ env.locals s.heap m₀) (N : News h₀ env.locals s.heap (Led c₀)) (hk : ∀ p ∈ ps c₀, m₀ p.1 = some p.2) (hp : P 0 c₀)
    (turn : ∀ I, (∀ p ∈ Led c₀, p.1 < I) → l < I → ∀ (c : σ) i v (u : Str → Option Value) h tk own, i < items.size → items[i]? = some v → P i c → (∀ p ∈ Led c, p.1 ≠ I) → (∀ p ∈ own, p.1 ∈ [I, l]) → (∃ o, (I, o) ∈ own) →
      Fr h₀ env.locals h (fun y => if y = x then some v else kstB u (ps c) y) → News h₀ env.locals h (Led c ++ own) →
      wpAny (model prog w) A (execs body env) (TurnEnd h₀ env.locals Led ps (P (i + 1)) own I { s with heap := h, toks := tk } Q) E { s with heap := h, toks := tk })
    (done : ∀ (c : σ) (u : Str → Option Value) h tk, P items.size c → Fr h₀ env.locals h (kstB u (ps c)) → News h₀ env.locals h (Led c) → Q .next { s with heap := h, toks := tk }) :
    wpAny (model prog w) A (pyIter (.ref l)) (fun it s₂ => LoopAtV prog w A h₀ env x body Q E it s₂) E s := by
  obtain ⟨ol, hol, _⟩ := id hl
  have hlt : l < s.heap.objs.size := Heap.lt_size hol
  refine wpAny_pyIter_tuple hl ?_
  have W := Walks.tuple (prog := prog) (w := w) hh s.heap.objs.size l (Nat.ne_of_lt hlt) items
  have hlt' : ∀ p ∈ Led c₀, p.1 < s.heap.objs.size := fun p hp => Heap.lt_size (N p hp).1
  refine loop_go Led ps P c₀ W (fun i h st => let ⟨o, ho, _⟩ := st.1; ⟨o, ho⟩) ?_ (next_is_new F) (fun p hp => Nat.ne_of_lt (hlt' p hp)) ⟨⟨_, Heap.get?_push_size _ rfl, rfl, rfl⟩, hl.at fun o e => Heap.get?_push_of_some _ e⟩ (F.push _)
    (fun p hp => ⟨Heap.get?_push_of_some _ (N p hp).1, (N p hp).2⟩) hk hp (turn _ hlt' hlt) done
  intro hm
  rcases List.mem_cons.mp hm with e | hm
  · exact absurd F.ns.lt (e ▸ Nat.lt_irrefl _)
  · exact hlL (List.mem_singleton.mp hm).symm
theorem for_text {σ : Type} {xt : Str} {tx : Tok} {m₀ : Str → Option Value} (Led : σ → List (Addr × Obj)) (ps : σ → List (Str × Value)) (P : Nat → σ → Prop) (c₀ : σ)
    (hh : A.handled = none) (F : Fr h₀ env.locals s.heap m₀) (N : News h₀ env.locals s.heap (Led c₀)) (hk : ∀ p ∈ ps c₀, m₀ p.1 = some p.2) (hp : P 0 c₀)
    (turn : ∀ I, (∀ p ∈ Led c₀, p.1 < I) → ∀ (c : σ) i (n : Nat) t (u : Str → Option Value) h tk own, i < xt.cps.toList.length → xt.cps.toList[i]? = some n → P i c → (∀ p ∈ Led c, p.1 ≠ I) → (∀ p ∈ own, p.1 ∈ [I]) → (∃ o, (I, o) ∈ own) →
      Fr h₀ env.locals h (fun y => if y = x then some (.str ⟨#[n]⟩ t) else kstB u (ps c) y) → News h₀ env.locals h (Led c ++ own) →
      wpAny (model prog w) A (execs body env) (TurnEnd h₀ env.locals Led ps (P (i + 1)) own I { s with heap := h, toks := tk } Q) E { s with heap := h, toks := tk })
    (done : ∀ (c : σ) (u : Str → Option Value) h tk, P xt.cps.toList.length c → Fr h₀ env.locals h (kstB u (ps c)) → News h₀ env.locals h (Led c) → Q .next { s with heap := h, toks := tk }) :
    wpAny (model prog w) A (pyIter (.str xt tx)) (fun it s₂ => LoopAtV prog w A h₀ env x body Q E it s₂) E s := by
  have hlt' : ∀ p ∈ Led c₀, p.1 < s.heap.objs.size := fun p hp => Heap.lt_size (N p hp).1
  have go : ∀ (o : Obj) (cls : String), (∀ A' : Around, A'.handled = none → Walks prog w A' s.heap.objs.size [s.heap.objs.size] [s.heap.objs.size] xt.cps.size (SignAt xt) (fun i h => h.IsStrIter s.heap.objs.size cls xt tx i)) → (s.heap.push o).IsStrIter s.heap.objs.size cls xt tx 0 →
      LoopAtV prog w A h₀ env x body Q E (.ref s.heap.objs.size) { s with heap := s.heap.push o } := by
    intro o cls hW hst
    refine loop_go Led ps P c₀ (hW A hh) (fun i h st => let ⟨o, ho, _⟩ := st; ⟨o, ho⟩) ?_ (next_is_new F) (fun p hp => Nat.ne_of_lt (hlt' p hp)) hst (F.push _)
      (fun p hp => ⟨Heap.get?_push_of_some _ (N p hp).1, (N p hp).2⟩) hk hp ?_ ?_
    · intro hm
      exact absurd F.ns.lt ((List.mem_singleton.mp hm) ▸ Nat.lt_irrefl _)
    · rintro c i v u h tk own hi ⟨n, t, hn, rfl⟩ hpc hl hown hI F₁ N₁
      exact turn _ hlt' c i n t u h tk own (by simpa using hi) (by simpa using hn) hpc hl hown hI F₁ N₁
    · intro c u h tk hpc F₁ N₁
      exact done c u h tk (by simpa using hpc) F₁ N₁
  cases ha : xt.cps.all (· < 128)
  · exact wpAny_pyIter_wide ha (go _ _ (fun A' hA => Walks.strWide hA _ xt tx) ⟨_, Heap.get?_push_size _ rfl, rfl, rfl⟩)
  · exact wpAny_pyIter_ascii ha (go _ _ (fun A' hA => Walks.strAscii hA _ xt tx) ⟨_, Heap.get?_push_size _ rfl, rfl, rfl⟩)
end
end Mine
end
section
namespace Mine
/-- what one sign is sent as, with `a` ahead of it -/
def one (a : List Nat) (c : Nat) : List Nat :=
  if c = 13 ∨ (c = 10 ∧ a ≠ [13]) then [13, 10] else if c = 46 ∧ (a = [] ∨ a = [13] ∨ a = [10]) then [46, 46] else if c ≠ 10 then [c] else []
def sentL : List Nat → List Nat → List Nat
  | _, [] => []
  | a, c :: r => one a c ++ sentL [c] r
def lastOf (a : List Nat) (l : List Nat) : List Nat := match l.getLast? with
  | none => a
  | some c => [c]
theorem sentL_snoc (a l : List Nat) (c : Nat) : sentL a (l ++ [c]) = sentL a l ++ one (lastOf a l) c := by
  induction l generalizing a with
  | nil => simp [sentL, lastOf]
  | cons d r ih =>
    rw [List.cons_append, sentL, sentL, ih, List.append_assoc]
    congr 2
    cases r with
    | nil => simp [lastOf]
    | cons e r => simp [lastOf, List.getLast?_cons_cons, List.getLast?_cons]
theorem lastOf_snoc (a l : List Nat) (c : Nat) : lastOf a (l ++ [c]) = [c] := by simp [lastOf]
theorem one_len (a : List Nat) (c : Nat) : (one a c).length ≤ 2 := by
  unfold one; (repeat' split) <;> simp
theorem sentL_len (a l : List Nat) : (sentL a l).length ≤ 2 * l.length := by
  induction l generalizing a with
  | nil => simp [sentL]
  | cons c r ih =>
    have := one_len a c
    have := ih [c]
    simp only [sentL, List.length_append, List.length_cons]; omega
end Mine
end
section
open PySem PySem.W PyProof.Rows PySem.Calls
set_option maxRecDepth 100000
set_option maxHeartbeats 0
namespace Mine
theorem re_plain : PlainAttrs "re.Pattern" :=
  ⟨⟨"object.__getattribute__", by rw [typeLookup_type, builtinLookup_eq_fast]; kernel_rfl, by decide +kernel⟩, by rw [typeLookup_type, builtinLookup_eq_fast]; kernel_rfl⟩
theorem re_slot : Slot "re.Pattern" "sub" "re.Pattern.sub" :=
  .of (owner := "re.Pattern") (n := "sub") (by rw [typeLookup_type, builtinLookup_eq_fast]; kernel_rfl) (by decide +kernel) (by decide +kernel) (by decide +kernel)
    (by first | exact .inl (by decide +kernel) | exact .inr (by decide +kernel)) (by rw [isSubtype_type]; kernel_rfl)
theorem re_type : typeOf (.builtin "re.Pattern.sub") = pure (.type "method_descriptor") := by show builtinType _ = _; rw [builtinType_eq_fast]; kernel_rfl
theorem re_entry : entryFor table "re.Pattern.sub" = some Builtin.«re.Pattern.sub» := entryFor_of_tree (by kernel_rfl)
theorem re_entry_loop : entryFor table "re.Pattern.sub.loop" = some Builtin.«re.Pattern.sub.loop» := entryFor_of_tree (by kernel_rfl)
theorem re_args (a b c : Value) : argsOk "re.Pattern.sub" ⟨[a, b, c], []⟩ := by unfold argsOk; kernel_rfl
end Mine
end
section
set_option maxRecDepth 100000
namespace Mine
open PySem PySem.Sre
def code1 : Array Nat := #[14, 4, 0, 1, 1, 6, 1, 16, 46, 1]
def code2 : Array Nat := #[14, 9, 4, 1, 2, 16, 10, 16, 13, 0, 7, 7, 16, 13, 16, 10, 15, 18, 5, 16, 10, 15, 13, 11, 16, 13, 5, 5, 0, 16, 10, 1, 15, 2, 0, 1]
theorem runFor_some {n : Nat} {m : M} (h : m.outcome.isSome = true) : M.runFor n m = m := by
  cases n with
  | zero => rfl
  | succ n => simp [M.runFor, h]
theorem runFor_add (a b : Nat) (m : M) : M.runFor (a + b) m = M.runFor b (M.runFor a m) := by
  induction a generalizing m with
  | zero => simp [M.runFor]
  | succ a ih =>
    rw [Nat.succ_add]
    simp only [M.runFor]
    split
    · rename_i h; rw [runFor_some h]
    · exact ih _
theorem runFor_one {m : M} (h : m.outcome = none) (n : Nat) : M.runFor (n + 1) m = M.runFor n m.step := by simp [M.runFor, h]
/-- the machine at an attempt from s -/
def att (code text : Array Nat) (pc lim s : Nat) (first must : Bool) (seen : Seen) : M :=
  { code, text, lim, start := s, lastStart := lim, wholeText := false, mustAdvance := must, pc, pos := s, handed := s, outermost := first, marks := #[], lastmark := -1, lastindex := -1, loops := #[], inner := none,
    frames := [{ wait := .nextStart, pc := pc, pos := s, outermost := first }], weight := 1, answer := none, seen, outcome := none }
theorem a1 (text : Array Nat) (lim s : Nat) (first must : Bool) (seen : Seen) :
    (att code1 text 5 lim s first must seen).step =
      (let m := { att code1 text 5 lim s first must seen with seen := (seen.add 6).add 44 }; if (s == 0 || text.getD (s - 1) 0 == 10) then { m with pc := 7 } else m.say false) := by
  rfl
/-- behind the sign's place: pc 7 -/
def att7 (text : Array Nat) (lim s : Nat) (first : Bool) (seen : Seen) : M := { att code1 text 5 lim s first false seen with pc := 7 }
theorem a2 (text : Array Nat) (lim s : Nat) (first : Bool) (seen : Seen) :
    (att7 text lim s first seen).step =
      (let m := { att7 text lim s first seen with seen := seen.add 16 }; if s ≥ lim then m.say false else
        match (Except.ok (text.getD s 0 == 46, m.seen) : Except String (Bool × Seen)) with
        | .error why => m.stick why
        | .ok (false, seen) => { m with seen }.say false
        | .ok (true, seen) => { m with seen, pc := 9, pos := s + 1 }) := by
  rfl
def att9 (text : Array Nat) (lim s : Nat) (first : Bool) (seen : Seen) : M := { att code1 text 5 lim s first false seen with pc := 9, pos := s + 1 }
theorem a3 (text : Array Nat) (lim s : Nat) (first : Bool) (seen : Seen) :
    (att9 text lim s first seen).step = (if first && (false || (false && s + 1 == s)) then ({ att9 text lim s first seen with seen := seen.add 1 } : M).say false else ({ att9 text lim s first seen with seen := seen.add 1, handed := s + 1 } : M).say true) := by
  rfl
theorem p1_hit {text : Array Nat} {lim s : Nat} {first : Bool} {seen : Seen} (hs : s < lim) (h1 : (s == 0 || text.getD (s - 1) 0 == 10) = true) (h2 : text.getD s 0 = 46) :
    ∃ m', M.runFor 5 (att code1 text 5 lim s first false seen) = m' ∧ m'.outcome = some .matched ∧ m'.start = s ∧ m'.handed = s + 1 := by
  rw [runFor_one rfl, a1]
  dsimp only
  rw [if_pos h1]
  have e2 := a2 text lim s first ((seen.add 6).add 44)
  rw [if_neg (Nat.not_le.mpr hs)] at e2
  rw [h2] at e2
  rw [show ({ att code1 text 5 lim s first false seen with pc := 7, seen := (seen.add 6).add 44 } : M) = att7 text lim s first ((seen.add 6).add 44) from rfl, runFor_one rfl, e2]
  rw [show (match (Except.ok ((46 : Nat) == 46, ({ att7 text lim s first ((seen.add 6).add 44) with seen := ((seen.add 6).add 44).add 16 } : M).seen) : Except String (Bool × Seen)) with
        | .error why => ({ att7 text lim s first ((seen.add 6).add 44) with seen := ((seen.add 6).add 44).add 16 } : M).stick why
        | .ok (false, seen') => ({ ({ att7 text lim s first ((seen.add 6).add 44) with seen := ((seen.add 6).add 44).add 16 } : M) with seen := seen' } : M).say false
        | .ok (true, seen') => { ({ att7 text lim s first ((seen.add 6).add 44) with seen := ((seen.add 6).add 44).add 16 } : M) with seen := seen', pc := 9, pos := s + 1 }) = att9 text lim s first (((seen.add 6).add 44).add 16) from rfl, runFor_one rfl, a3]
  rw [if_neg (by simp)]
  exact ⟨_, rfl, rfl, rfl, rfl⟩
theorem p1_miss1 {text : Array Nat} {lim s : Nat} {first : Bool} {seen : Seen} (hs : s < lim) (h1 : (s == 0 || text.getD (s - 1) 0 == 10) = false) :
    ∃ seen', M.runFor 2 (att code1 text 5 lim s first false seen) = att code1 text 5 lim (s + 1) false false seen' := by
  refine ⟨(seen.add 6).add 44, ?_⟩
  rw [runFor_one rfl, a1]
  dsimp only
  rw [if_neg (by rw [h1]; decide)]
  have e : (({ att code1 text 5 lim s first false seen with seen := (seen.add 6).add 44 } : M).say false).step = if s < lim then att code1 text 5 lim (s + 1) false false ((seen.add 6).add 44) else ({ att code1 text 5 lim s first false seen with seen := (seen.add 6).add 44, frames := [], weight := 0 } : M).say false := rfl
  rw [runFor_one rfl, e, if_pos hs]
  rfl
theorem p1_miss2 {text : Array Nat} {lim s : Nat} {first : Bool} {seen : Seen} (hs : s < lim) (h1 : (s == 0 || text.getD (s - 1) 0 == 10) = true) (h2 : text.getD s 0 ≠ 46) :
    ∃ seen', M.runFor 3 (att code1 text 5 lim s first false seen) = att code1 text 5 lim (s + 1) false false seen' := by
  refine ⟨((seen.add 6).add 44).add 16, ?_⟩
  rw [runFor_one rfl, a1]
  dsimp only
  rw [if_pos h1]
  have e2 := a2 text lim s first ((seen.add 6).add 44)
  rw [if_neg (Nat.not_le.mpr hs), show (text.getD s 0 == 46) = false from by simpa using h2] at e2
  rw [show ({ att code1 text 5 lim s first false seen with pc := 7, seen := (seen.add 6).add 44 } : M) = att7 text lim s first ((seen.add 6).add 44) from rfl, runFor_one rfl, e2]
  have e : ∀ sn : Seen, (({ att7 text lim s first ((seen.add 6).add 44) with seen := sn } : M).say false).step = if s < lim then att code1 text 5 lim (s + 1) false false sn else ({ att code1 text 5 lim s first false seen with seen := sn, frames := [], weight := 0 } : M).say false := fun _ => rfl
  rw [show (match (Except.ok (false, ({ att7 text lim s first ((seen.add 6).add 44) with seen := ((seen.add 6).add 44).add 16 } : M).seen) : Except String (Bool × Seen)) with
        | .error why => ({ att7 text lim s first ((seen.add 6).add 44) with seen := ((seen.add 6).add 44).add 16 } : M).stick why
        | .ok (false, seen') => ({ ({ att7 text lim s first ((seen.add 6).add 44) with seen := ((seen.add 6).add 44).add 16 } : M) with seen := seen' } : M).say false
        | .ok (true, seen') => { ({ att7 text lim s first ((seen.add 6).add 44) with seen := ((seen.add 6).add 44).add 16 } : M) with seen := seen', pc := 9, pos := s + 1 }) = (({ att7 text lim s first ((seen.add 6).add 44) with seen := ((seen.add 6).add 44).add 16 } : M).say false) from rfl, runFor_one rfl, e, if_pos hs]
  rfl
/-- at the text's end -/
theorem p1_end {text : Array Nat} {lim : Nat} {first : Bool} {seen : Seen} :
    ∃ m', M.runFor 4 (att code1 text 5 lim lim first false seen) = m' ∧ m'.outcome = some .failed := by
  rw [runFor_one rfl, a1]
  dsimp only
  cases h1 : (lim == 0 || text.getD (lim - 1) 0 == 10) with
  | false =>
    rw [if_neg (by decide)]
    have e : (({ att code1 text 5 lim lim first false seen with seen := (seen.add 6).add 44 } : M).say false).step = if lim < lim then att code1 text 5 lim (lim + 1) false false ((seen.add 6).add 44) else ({ att code1 text 5 lim lim first false seen with seen := (seen.add 6).add 44, frames := [], weight := 0 } : M).say false := rfl
    rw [runFor_one rfl, e, if_neg (Nat.lt_irrefl _)]
    exact ⟨_, rfl, rfl⟩
  | true =>
    rw [if_pos rfl]
    have e2 := a2 text lim lim first ((seen.add 6).add 44)
    rw [if_pos (Nat.le_refl _)] at e2
    rw [show ({ att code1 text 5 lim lim first false seen with pc := 7, seen := (seen.add 6).add 44 } : M) = att7 text lim lim first ((seen.add 6).add 44) from rfl, runFor_one rfl, e2]
    have e : (({ att7 text lim lim first ((seen.add 6).add 44) with seen := ((seen.add 6).add 44).add 16 } : M).say false).step = if lim < lim then att code1 text 5 lim (lim + 1) false false (((seen.add 6).add 44).add 16) else ({ att code1 text 5 lim lim first false seen with seen := ((seen.add 6).add 44).add 16, frames := [], weight := 0 } : M).say false := rfl
    rw [runFor_one rfl, e, if_neg (Nat.lt_irrefl _)]
    exact ⟨_, rfl, rfl⟩
end Mine
end
section
set_option maxRecDepth 100000
namespace Mine
open PySem PySem.Sre
theorem exec_lit (m : M) (hw : m.word 0 = 16) : m.exec =
    (let m' := { m with seen := m.seen.add (m.word 0) };
     if m'.pos ≥ m'.lim then m'.say false else
      match accepts m'.code m'.pc (m'.text.getD m'.pos 0) m'.seen with
      | .error why => m'.stick why
      | .ok (false, seen) => { m' with seen }.say false
      | .ok (true, seen) => { m' with seen, pc := m'.pc + itemWidth m'.code m'.pc, pos := m'.pos + 1 }) := by
  unfold M.exec
  rw [hw]
  rfl
theorem word0 (m : M) : m.word 0 = m.code.getD m.pc 0 := rfl
theorem acc_lit (code : Array Nat) (i c : Nat) (seen : Seen) (hw : code.getD i 0 = 16) : accepts code i c seen = .ok (c == code.getD (i + 1) 0, seen) := by
  unfold accepts
  rw [hw]
  rfl
theorem width_lit (code : Array Nat) (i : Nat) (hw : code.getD i 0 = 16) : itemWidth code i = 2 := by
  unfold itemWidth
  rw [hw]
  rfl
theorem lit_hit (m : M) (h0 : m.outcome = none) (ha : m.answer = none) (hp : m.pc < m.code.size) (hw : m.code.getD m.pc 0 = 16) (hl : m.pos < m.lim) (hc : m.text.getD m.pos 0 = m.code.getD (m.pc + 1) 0) :
    m.step = { m with seen := m.seen.add 16, pc := m.pc + 2, pos := m.pos + 1 } := by
  unfold M.step
  rw [h0, ha]
  dsimp only [Option.isSome]
  rw [if_neg (by decide), if_pos hp, exec_lit m hw]
  dsimp only
  rw [if_neg (Nat.not_le.mpr hl), acc_lit _ _ _ _ hw, hc, width_lit _ _ hw, word0, hw, beq_self_eq_true, h0, ha]
theorem lit_miss (m : M) (h0 : m.outcome = none) (ha : m.answer = none) (hp : m.pc < m.code.size) (hw : m.code.getD m.pc 0 = 16) (hc : ¬ (m.pos < m.lim ∧ m.text.getD m.pos 0 = m.code.getD (m.pc + 1) 0)) :
    m.step = ({ m with seen := m.seen.add 16 } : M).say false := by
  unfold M.step
  rw [h0, ha]
  dsimp only [Option.isSome]
  rw [if_neg (by decide), if_pos hp, exec_lit m hw]
  dsimp only
  by_cases hl : m.pos < m.lim
  · rw [if_neg (Nat.not_le.mpr hl), acc_lit _ _ _ _ hw, width_lit _ _ hw, word0, hw]
    rw [show (m.text.getD m.pos 0 == m.code.getD (m.pc + 1) 0) = false from by simpa using fun e => hc ⟨hl, e⟩, h0, ha]
  · rw [if_pos (Nat.not_lt.mp hl), word0, hw, h0, ha]
def k0 : Sre.Kept := { lastmark := -1, lastindex := -1, whole := false, marks := #[] }
def fB (s : Nat) (ob : Bool) (a : Nat) : Sre.Frame := { wait := .nextBranch, pc := a, pos := s, outermost := ob, kept := k0 }
def fS (s : Nat) (ob : Bool) : Sre.Frame := { wait := .nextStart, pc := 10, pos := s, outermost := ob }
def fL (s : Nat) (ob : Bool) : Sre.Frame := { wait := .lookNot, pc := 26, pos := s + 1, outermost := ob, kept := k0 }
/-- a state of the second pattern's machine -/
def q2 (text : Array Nat) (lim s : Nat) (ob : Bool) (seen : Seen) (pc pos h : Nat) (fr : List Sre.Frame) (wt : Nat) (an : Option Bool) : M :=
  { code := code2, text, lim, start := s, lastStart := lim, wholeText := false, mustAdvance := false, pc, pos, handed := h, outermost := ob, marks := #[], lastmark := -1, lastindex := -1, loops := #[], inner := none,
    frames := fr, weight := wt, answer := an, seen, outcome := none }
section
variable {text : Array Nat} {lim s : Nat} {ob : Bool} {seen : Seen} {pos h : Nat}
theorem g_start : (att code2 text 10 lim s ob false seen) = q2 text lim s ob seen 10 s s [fS s ob] 1 none := rfl
theorem g_branch : (q2 text lim s ob seen 10 s s [fS s ob] 1 none).step = q2 text lim s ob (seen.add 7) 12 s s [fB s ob 11, fS s ob] 2 none := rfl
theorem g_jump {h : Nat} {fr : List Sre.Frame} : (q2 text lim s ob seen 16 pos h fr 2 none).step = q2 text lim s ob (seen.add 15) 35 pos h fr 2 none := rfl
theorem g_jump2 {h : Nat} {fr : List Sre.Frame} : (q2 text lim s ob seen 21 pos h fr 2 none).step = q2 text lim s ob (seen.add 15) 35 pos h fr 2 none := rfl
theorem g_jump3 {h : Nat} {fr : List Sre.Frame} : (q2 text lim s ob seen 32 pos h fr 2 none).step = q2 text lim s ob (seen.add 15) 35 pos h fr 2 none := rfl
theorem g_succ {h : Nat} {fr : List Sre.Frame} : (q2 text lim s ob seen 35 pos h fr 2 none).step = q2 text lim s ob (seen.add 1) 35 pos pos fr 2 (some true) := by
  show (if ob && (false || (false && pos == s)) then _ else _) = _
  rw [if_neg (by simp)]
  rfl
theorem g_done {a pc : Nat} : ∃ m', M.runFor 3 (q2 text lim s ob seen pc pos h [fB s ob a, fS s ob] 2 (some true)) = m' ∧ m'.outcome = some .matched ∧ m'.start = s ∧ m'.handed = h := ⟨_, rfl, rfl, rfl, rfl⟩
theorem g_alt2 {pc : Nat} : (q2 text lim s ob seen pc pos h [fB s ob 11, fS s ob] 2 (some false)).step = q2 text lim s ob seen 19 s s [fB s ob 18, fS s ob] 2 none := rfl
theorem g_alt3 {pc : Nat} : (q2 text lim s ob seen pc pos h [fB s ob 18, fS s ob] 2 (some false)).step = q2 text lim s ob seen 24 s s [fB s ob 23, fS s ob] 2 none := rfl
theorem g_look : (q2 text lim s ob seen 26 (s + 1) h [fB s ob 23, fS s ob] 2 none).step = { q2 text lim s false (seen.add 5) 29 (s + 1) (s + 1) [fL s ob, fB s ob 23, fS s ob] 3 none with outermost := false } := rfl
theorem g_back {pc : Nat} : ({ q2 text lim s false seen pc pos h [fL s ob, fB s ob 23, fS s ob] 3 (some false) with outermost := false } : M).step = q2 text lim s ob seen 32 (s + 1) h [fB s ob 23, fS s ob] 2 none := rfl
theorem q_hit {fr : List Sre.Frame} {wt pc pc' : Nat} (hp : pc < 36) (hw : code2.getD pc 0 = 16) (hc : text.getD pos 0 = code2.getD (pc + 1) 0) (hl : pos < lim) (e : pc' = pc + 2) :
    (q2 text lim s ob seen pc pos h fr wt none).step = q2 text lim s ob (seen.add 16) pc' (pos + 1) h fr wt none := by
  subst e
  exact lit_hit _ rfl rfl hp hw hl hc
theorem q_miss {fr : List Sre.Frame} {wt pc : Nat} (hp : pc < 36) (hw : code2.getD pc 0 = 16) (hc : ¬ (pos < lim ∧ text.getD pos 0 = code2.getD (pc + 1) 0)) :
    (q2 text lim s ob seen pc pos h fr wt none).step = q2 text lim s ob (seen.add 16) pc pos h fr wt (some false) := lit_miss _ rfl rfl hp hw hc
/-- both: return and feed -/
theorem p2_both (hs : s + 1 < lim) (h1 : text.getD s 0 = 13) (h2 : text.getD (s + 1) 0 = 10) :
    ∃ m', M.runFor 8 (att code2 text 10 lim s ob false seen) = m' ∧ m'.outcome = some .matched ∧ m'.start = s ∧ m'.handed = s + 2 := by
  rw [g_start, runFor_one rfl, g_branch, runFor_one rfl, q_hit (pc' := 14) (by decide) rfl h1 (by omega) rfl, runFor_one rfl, q_hit (pc' := 16) (by decide) rfl h2 (by omega) rfl, runFor_one rfl, g_jump, runFor_one rfl, g_succ]
  exact g_done
theorem p2_ret (hs : s < lim) (h1 : text.getD s 0 = 13) (h2 : ¬ (s + 1 < lim ∧ text.getD (s + 1) 0 = 10)) :
    ∃ m', M.runFor 15 (att code2 text 10 lim s ob false seen) = m' ∧ m'.outcome = some .matched ∧ m'.start = s ∧ m'.handed = s + 1 := by
  rw [g_start, runFor_one rfl, g_branch, runFor_one rfl, q_hit (pc' := 14) (by decide) rfl h1 hs rfl, runFor_one rfl, q_miss (by decide) rfl h2, runFor_one rfl, g_alt2, runFor_one rfl,
    q_miss (by decide) rfl (fun e => by rw [h1] at e; exact absurd e.2 (by decide)), runFor_one rfl, g_alt3, runFor_one rfl, q_hit (pc' := 26) (by decide) rfl h1 hs rfl, runFor_one rfl, g_look]
  rw [runFor_one rfl, show ∀ sn : Seen, ({ q2 text lim s false sn 29 (s + 1) (s + 1) [fL s ob, fB s ob 23, fS s ob] 3 none with outermost := false } : M) = q2 text lim s false sn 29 (s + 1) (s + 1) [fL s ob, fB s ob 23, fS s ob] 3 none from fun _ => rfl,
    q_miss (by decide) rfl h2, runFor_one rfl]
  rw [show ∀ sn : Seen, (q2 text lim s false sn 29 (s + 1) (s + 1) [fL s ob, fB s ob 23, fS s ob] 3 (some false)).step = q2 text lim s ob sn 32 (s + 1) (s + 1) [fB s ob 23, fS s ob] 2 none from fun _ => rfl, runFor_one rfl, g_jump3, runFor_one rfl, g_succ]
  exact g_done
theorem p2_feed (hs : s < lim) (h1 : text.getD s 0 = 10) :
    ∃ m', M.runFor 9 (att code2 text 10 lim s ob false seen) = m' ∧ m'.outcome = some .matched ∧ m'.start = s ∧ m'.handed = s + 1 := by
  rw [g_start, runFor_one rfl, g_branch, runFor_one rfl, q_miss (by decide) rfl (fun e => by rw [h1] at e; exact absurd e.2 (by decide)), runFor_one rfl, g_alt2, runFor_one rfl, q_hit (pc' := 21) (by decide) rfl h1 hs rfl, runFor_one rfl, g_jump2, runFor_one rfl, g_succ]
  exact g_done
end
/-- what a search finds -/
structure Found (m : M) (n : Nat) (p e : Nat) : Prop where
  ran : ∃ m', M.runFor n m = m' ∧ m'.outcome = some .matched ∧ m'.start = p ∧ m'.handed = e
structure NotFound (m : M) (n : Nat) : Prop where
  ran : ∃ m', M.runFor n m = m' ∧ m'.outcome = some .failed
def hit1 (text : Array Nat) (s : Nat) : Bool := (s == 0 || text.getD (s - 1) 0 == 10) && text.getD s 0 == 46
def first1 (text : Array Nat) : (fuel s : Nat) → Option Nat
  | 0, _ => none
  | fuel + 1, s => if hit1 text s then some s else first1 text fuel (s + 1)
theorem find1 {text : Array Nat} {lim : Nat} : ∀ (fuel s : Nat) (first : Bool) (seen : Seen), s + fuel = lim →
    ∃ n, n ≤ 3 * fuel + 5 ∧ match first1 text fuel s with
      | some p => Found (att code1 text 5 lim s first false seen) n p (p + 1)
      | none => NotFound (att code1 text 5 lim s first false seen) n
  | 0, s, first, seen, h => by
    obtain rfl : s = lim := by omega
    exact ⟨4, by omega, ⟨p1_end⟩⟩
  | fuel + 1, s, first, seen, h => by
    unfold first1
    by_cases h1 : (s == 0 || text.getD (s - 1) 0 == 10) = true
    · by_cases h2 : text.getD s 0 = 46
      · rw [if_pos (by simp only [hit1, h1, h2]; rfl)]
        exact ⟨5, by omega, ⟨p1_hit (by omega) h1 h2⟩⟩
      · rw [if_neg (by simp only [hit1, h1, Bool.true_and]; simpa using h2)]
        obtain ⟨seen', e⟩ := p1_miss2 (text := text) (lim := lim) (s := s) (first := first) (seen := seen) (by omega) h1 h2
        obtain ⟨n, hn, hf⟩ := find1 (text := text) (lim := lim) fuel (s + 1) false seen' (by omega)
        refine ⟨3 + n, by omega, ?_⟩
        split
        · rename_i p hp
          rw [hp] at hf
          obtain ⟨m', q⟩ := hf.ran
          exact ⟨m', by rw [runFor_add, e]; exact q⟩
        · rename_i hp
          rw [hp] at hf
          obtain ⟨m', q⟩ := hf.ran
          exact ⟨m', by rw [runFor_add, e]; exact q⟩
    · have h1 : (s == 0 || text.getD (s - 1) 0 == 10) = false := by simpa using h1
      rw [if_neg (by simp only [hit1, h1, Bool.false_and]; decide)]
      obtain ⟨seen', e⟩ := p1_miss1 (text := text) (lim := lim) (s := s) (first := first) (seen := seen) (by omega) h1
      obtain ⟨n, hn, hf⟩ := find1 (text := text) (lim := lim) fuel (s + 1) false seen' (by omega)
      refine ⟨2 + n, by omega, ?_⟩
      split
      · rename_i p hp
        rw [hp] at hf
        obtain ⟨m', q⟩ := hf.ran
        exact ⟨m', by rw [runFor_add, e]; exact q⟩
      · rename_i hp
        rw [hp] at hf
        obtain ⟨m', q⟩ := hf.ran
        exact ⟨m', by rw [runFor_add, e]; exact q⟩
theorem search1 (text : Array Nat) (pos lim : Nat) (h : pos ≤ lim) :
    ∃ n, n ≤ 3 * lim + 5 ∧ match first1 text (lim - pos) pos with
      | some p => Found (forSearch code1 text 0 pos lim false) n p (p + 1)
      | none => NotFound (forSearch code1 text 0 pos lim false) n := by
  by_cases he : pos = lim
  · subst he
    rw [Nat.sub_self]
    refine ⟨1, by omega, ⟨?_⟩⟩
    have e : forSearch code1 text 0 pos pos false = (if (decide (pos > pos) || decide (pos - pos < 1)) = true then ({ att code1 text 5 pos pos true false (({} : Seen).add 14) with frames := [], weight := 0, lastStart := 0 } : M).say false else att code1 text 5 pos pos true false (({} : Seen).add 14)) := rfl
    rw [e, if_pos (by simp)]
    exact ⟨_, rfl, rfl⟩
  · have e : forSearch code1 text 0 pos lim false = (if (decide (pos > lim) || decide (lim - pos < 1)) = true then ({ att code1 text 5 lim pos true false (({} : Seen).add 14) with frames := [], weight := 0, lastStart := 0 } : M).say false else att code1 text 5 lim pos true false (({} : Seen).add 14)) := rfl
    rw [e, if_neg (by simp; omega)]
    obtain ⟨n, hn, hf⟩ := find1 (text := text) (lim := lim) (lim - pos) pos true (({} : Seen).add 14) (by omega)
    exact ⟨n, by omega, hf⟩
end Mine
end
section
set_option maxRecDepth 100000
namespace Mine
open PySem PySem.Sre
def hit2 (text : Array Nat) (s : Nat) : Bool := text.getD s 0 == 10 || text.getD s 0 == 13
def first2 (text : Array Nat) : (fuel s : Nat) → Option Nat
  | 0, _ => none
  | fuel + 1, s => if hit2 text s then some s else first2 text fuel (s + 1)
def end2 (text : Array Nat) (lim p : Nat) : Nat := if text.getD p 0 = 13 ∧ p + 1 < lim ∧ text.getD (p + 1) 0 = 10 then p + 2 else p + 1
theorem set2 (c : Nat) (seen : Seen) : ∃ seen', inSet code2 c code2.size 5 true seen = .ok (c == 10 || c == 13, seen') := by
  have e : inSet code2 c code2.size 5 true seen = if c == 10 then .ok (true, seen.add 16) else if c == 13 then .ok (true, (seen.add 16).add 16) else .ok (false, ((seen.add 16).add 16).add 0) := rfl
  rw [e]
  cases h : (c == 10) with
  | true => exact ⟨_, rfl⟩
  | false =>
    cases h2 : (c == 13) with
    | true => exact ⟨_, rfl⟩
    | false => exact ⟨_, rfl⟩
theorem admits {m : M} (hc : m.code = code2) : ∀ (fuel s : Nat) (seen : Seen), s + fuel = m.lim → ∃ seen', M.admitted m (fuel + 1) s seen = .ok (first2 m.text fuel s, seen')
  | 0, s, seen, h => by
    refine ⟨seen, ?_⟩
    unfold M.admitted
    rw [if_pos (by omega)]
    rfl
  | fuel + 1, s, seen, h => by
    obtain ⟨seen', e⟩ := set2 (m.text.getD s 0) seen
    unfold M.admitted
    rw [if_neg (by omega), hc, e]
    unfold first2
    cases h2 : hit2 m.text s with
    | true =>
      have h2' : (m.text.getD s 0 == 10 || m.text.getD s 0 == 13) = true := h2
      rw [h2']
      exact ⟨seen', rfl⟩
    | false =>
      have h2' : (m.text.getD s 0 == 10 || m.text.getD s 0 == 13) = false := h2
      rw [h2']
      obtain ⟨s2, q⟩ := admits hc fuel (s + 1) seen' (by omega)
      exact ⟨s2, q⟩
theorem first2_some {text : Array Nat} : ∀ {fuel s p : Nat}, first2 text fuel s = some p → s ≤ p ∧ p < s + fuel ∧ hit2 text p = true
  | 0, s, p, h => by cases h
  | fuel + 1, s, p, h => by
    unfold first2 at h
    split at h
    · rename_i q; cases h; exact ⟨Nat.le_refl _, by omega, q⟩
    · obtain ⟨a, b, c⟩ := first2_some h
      exact ⟨by omega, by omega, c⟩
theorem search2 (text : Array Nat) (pos lim : Nat) (h : pos ≤ lim) :
    ∃ n, n ≤ 15 ∧ match first2 text (lim - pos) pos with
      | some p => Found (forSearch code2 text 0 pos lim false) n p (end2 text lim p)
      | none => NotFound (forSearch code2 text 0 pos lim false) n := by
  have e : forSearch code2 text 0 pos lim false = (if (decide (pos > lim) || decide (lim - pos < 1)) = true then ({ att code2 text 10 lim pos true false (({} : Seen).add 14) with frames := [], weight := 0, lastStart := 0 } : M).say false
      else M.attemptFrom ({ att code2 text 10 lim pos true false (({} : Seen).add 14) with frames := [], weight := 0 } : M) pos true) := rfl
  rw [e]
  by_cases he : pos = lim
  · subst he
    rw [Nat.sub_self, if_pos (by simp)]
    exact ⟨1, by omega, ⟨_, rfl, rfl⟩⟩
  · rw [if_neg (by simp; omega)]
    obtain ⟨seen', ha⟩ := admits (m := ({ att code2 text 10 lim pos true false (({} : Seen).add 14) with frames := [], weight := 0 } : M)) rfl (lim - pos) pos (({} : Seen).add 14) (by show pos + (lim - pos) = lim; omega)
    have ha' : M.admitted ({ att code2 text 10 lim pos true false (({} : Seen).add 14) with frames := [], weight := 0 } : M) (lim + 1 - pos) pos (({} : Seen).add 14) = .ok (first2 text (lim - pos) pos, seen') := by
      rw [show lim + 1 - pos = lim - pos + 1 by omega]; exact ha
    have ef : M.attemptFrom ({ att code2 text 10 lim pos true false (({} : Seen).add 14) with frames := [], weight := 0 } : M) pos true =
        match M.admitted ({ att code2 text 10 lim pos true false (({} : Seen).add 14) with frames := [], weight := 0 } : M) (lim + 1 - pos) pos (({} : Seen).add 14) with
        | .ok (some s, seen) => att code2 text 10 lim s true false seen
        | .ok (none, seen) => ({ att code2 text 10 lim pos true false seen with frames := [], weight := 0 } : M).say false
        | .error why => ({ att code2 text 10 lim pos true false (({} : Seen).add 14) with frames := [], weight := 0 } : M).stick why := rfl
    rw [ef, ha']
    cases hp : first2 text (lim - pos) pos with
    | none => exact ⟨1, by omega, ⟨_, rfl, rfl⟩⟩
    | some p =>
      obtain ⟨h1, h2, h3⟩ := first2_some hp
      simp only [hit2, Bool.or_eq_true, beq_iff_eq] at h3
      show ∃ n, n ≤ 15 ∧ Found (att code2 text 10 lim p true false seen') n p (end2 text lim p)
      unfold end2
      rcases h3 with h3 | h3
      · rw [if_neg (by rw [h3]; omega)]
        exact ⟨9, by omega, ⟨p2_feed (by omega) h3⟩⟩
      · by_cases q : p + 1 < lim ∧ text.getD (p + 1) 0 = 10
        · rw [if_pos ⟨h3, q⟩]
          exact ⟨8, by omega, ⟨p2_both q.1 h3 q.2⟩⟩
        · rw [if_neg (fun z => q z.2)]
          exact ⟨15, by omega, ⟨p2_ret (by omega) h3 q⟩⟩
end Mine
end
section
open PySem PySem.W PyProof.Rows PySem.Calls PySem.Builtin.Re
set_option maxRecDepth 100000
set_option maxHeartbeats 0
namespace Mine
section
variable {M : Model} {A : Around} {E : Value → Shared → Prop} {s : Shared}
theorem wp_drive : ∀ (turns n : Nat) (m m' : Sre.M) (Q : Sre.M → Shared → Prop), Sre.M.runFor n m = m' → m'.outcome.isSome = true → n + 4 ≤ 4 * turns → Q m' s → wpAny M A (reDrive turns m) Q E s
  | 0, n, m, m', Q, h1, h2, h3, h => by omega
  | t + 1, n, m, m', Q, h1, h2, h3, h => by
    unfold reDrive
    show wpAny M A (if (Sre.M.runFor 4 m).outcome.isSome = true then pure (Sre.M.runFor 4 m) else do rule "sre.turn"; reDrive t (Sre.M.runFor 4 m)) Q E s
    by_cases ho : (Sre.M.runFor 4 m).outcome.isSome = true
    · rw [if_pos ho]
      have e : Sre.M.runFor 4 m = m' := by
        by_cases hn : n ≤ 4
        · have q := runFor_add n (4 - n) m
          rw [h1, runFor_some h2, show n + (4 - n) = 4 by omega] at q
          exact q
        · obtain ⟨k, rfl⟩ : ∃ k, n = 4 + k := ⟨n - 4, by omega⟩
          rw [runFor_add, runFor_some ho] at h1
          exact h1
      rw [e]
      exact wpAny_pure h
    · rw [if_neg ho]
      have hn : 4 < n := by
        refine Nat.lt_of_not_le fun hn => ho ?_
        have q := runFor_add n (4 - n) m
        rw [h1, runFor_some h2, show n + (4 - n) = 4 by omega] at q
        rw [q]; exact h2
      refine wpAny_bind (wpAny_rule ?_)
      refine wp_drive t (n - 4) _ m' Q ?_ h2 (by omega) h
      rw [← runFor_add, show 4 + (n - 4) = n by omega]
      exact h1
theorem wp_rules {c : Nat → Bool} {f : Nat → String} : ∀ (l : List Nat) (Q : PUnit → Shared → Prop), Q ⟨⟩ s → wpAny M A (forIn l PUnit.unit fun i _ =>
      if c i = true then do
        rule (f i)
        pure (ForInStep.yield PUnit.unit)
      else pure (ForInStep.yield PUnit.unit)) Q E s
  | [], Q, h => wpAny_pure h
  | i :: l, Q, h => by
    rw [List.forIn_cons]
    refine wpAny_bind ?_
    by_cases hc : c i = true
    · simp only [hc, if_true]
      exact wpAny_bind (wpAny_rule (wpAny_pure (wp_rules l Q h)))
    · rw [if_neg hc]
      exact wpAny_pure (wp_rules l Q h)
theorem wp_found {m : Sre.M} {n p e : Nat} {Q : Option Sre.M → Shared → Prop} (F : Found m n p e) (hn : n ≤ 2 ^ 60) (h : ∀ m', m'.start = p → m'.handed = e → Q (some m') s) : wpAny M A (reRunToEnd m) Q E s := by
  obtain ⟨m', h1, h2, h3, h4⟩ := F.ran
  unfold reRunToEnd
  refine wpAny_bind (wp_drive _ n m m' _ h1 (by rw [h2]; rfl) (by omega) ?_)
  refine wpAny_bind (wp_rules _ _ ?_)
  rw [h2]
  exact wpAny_pure (h m' h3 h4)
theorem wp_notfound {m : Sre.M} {n : Nat} {Q : Option Sre.M → Shared → Prop} (F : NotFound m n) (hn : n ≤ 2 ^ 60) (h : Q none s) : wpAny M A (reRunToEnd m) Q E s := by
  obtain ⟨m', h1, h2⟩ := F.ran
  unfold reRunToEnd
  refine wpAny_bind (wp_drive _ n m m' _ h1 (by rw [h2]; rfl) (by omega) ?_)
  refine wpAny_bind (wp_rules _ _ ?_)
  rw [h2]
  exact wpAny_pure h
/-- a pattern's object, compiled, without groups -/
structure IsPat (h : Heap) (a ct : Addr) (code : Array Nat) : Prop where
  pat : ∃ o p0 p1 p3 p4, h.get? a = some o ∧ o.cls = .type "re.Pattern" ∧ o.dict = none ∧ o.data = .fields #[p0, p1, .int 0 0, p3, p4, .ref ct, .int 0 0]
  tup : ∃ o n vs, h.get? ct = some o ∧ o.cls = .type "tuple" ∧ o.data = .seq vs n ∧ (vs.map reRawOf).map (·.toNat) = code
theorem IsPat.keeps {h h' : Heap} {a ct : Addr} {code : Array Nat} (p : IsPat h a ct code) (k : ∀ b o, h.get? b = some o → h'.get? b = some o) : IsPat h' a ct code :=
  ⟨let ⟨o, p0, p1, p3, p4, h1, h2⟩ := p.pat; ⟨o, p0, p1, p3, p4, k _ _ h1, h2⟩, let ⟨o, n, vs, h1, h2⟩ := p.tup; ⟨o, n, vs, k _ _ h1, h2⟩⟩
theorem wp_target {a ct : Addr} {code : Array Nat} {x : Str} {t : Tok} {Q : ReTarget → Shared → Prop} (P : IsPat s.heap a ct code)
    (h : Q { pattern := .ref a, string := .str x t, code := code, text := x.cps, kind := 0, groups := 0, pos := 0, lim := x.cps.size } s) :
    wpAny M A (reWholeTarget (.ref a) (.str x t)) Q E s := by
  obtain ⟨o, p0, p1, p3, p4, h1, h2, h3, h4⟩ := P.pat
  obtain ⟨o', n, vs, g1, g2, g3, g4⟩ := P.tup
  unfold reWholeTarget fieldsOf
  refine wpAny_bind (wpAny_bind (wpAny_load h1 ?_))
  rw [h4]
  refine wpAny_pure ?_
  show wpAny M A ((do return ((← seqItems? (.ref ct)).getD #[]).map reRawOf : Sem (Array Int)) >>= fun ws => pure { pattern := .ref a, string := .str x t, code := ws.map (·.toNat), text := x.cps, kind := 0, groups := 0, pos := 0, lim := x.cps.size }) Q E s
  refine wpAny_bind (wpAny_bind ?_)
  unfold seqItems?
  refine wpAny_bind (wpAny_load g1 ?_)
  rw [g3]
  refine wpAny_pure (wpAny_pure (wpAny_pure ?_))
  show Q { pattern := .ref a, string := .str x t, code := (vs.map reRawOf).map (·.toNat), text := x.cps, kind := 0, groups := 0, pos := 0, lim := x.cps.size } s
  rw [g4]
  exact h
end
/-- a search's spec: from a place, where it is found and where it ends -/
structure Seeks (code : Array Nat) (text : Array Nat) (find : Nat → Option (Nat × Nat)) : Prop where
  go : ∀ pos, pos ≤ text.size → ∃ n, n ≤ 2 ^ 60 ∧ match find pos with
    | some (p, e) => Found (Sre.forSearch code text 0 pos text.size false) n p e ∧ pos ≤ p ∧ p < e ∧ e ≤ text.size
    | none => NotFound (Sre.forSearch code text 0 pos text.size false) n
section
variable {prog : Program} {w : World} {A : Around} {s : Shared}
/-- what is sent for the rest behind dn -/
def subGo (find : Nat → Option (Nat × Nat)) (r text : List Nat) : (fuel dn : Nat) → List Nat
  | 0, dn => text.drop dn
  | fuel + 1, dn => match find dn with
    | some (p, e) => (text.drop dn).take (p - dn) ++ r ++ subGo find r text fuel e
    | none => text.drop dn
def flat (ys : List Str) : List Nat := (ys.map fun y => y.cps.toList).flatten
theorem flat_snoc (ys : List Str) (y : Str) : flat (ys ++ [y]) = flat ys ++ y.cps.toList := by simp [flat]
theorem glued_flat (ys : List Str) : (Txt.join (⟨#[]⟩ : Str) ys).cps.toList = flat ys := by
  show ((ys.drop 1).foldl (fun acc p => acc ++ (#[] : Array Nat) ++ p.cps) (ys.headD Str.empty).cps).toList = flat ys
  have h : ∀ (l : List Str) (acc : Array Nat), (l.foldl (fun acc p => acc ++ (#[] : Array Nat) ++ p.cps) acc).toList = acc.toList ++ flat l := by
    intro l
    induction l with
    | nil => intro acc; simp [flat]
    | cons y l ih => intro acc; rw [List.foldl_cons, ih]; simp [flat]
  cases ys with
  | nil => rfl
  | cons y l => rw [List.drop_one, List.tail_cons, h]; simp [flat]
theorem flat_len (ys : List Str) : (ys.map (·.length)).sum = (flat ys).length := by
  induction ys with
  | nil => rfl
  | cons y l ih => simp only [List.map_cons, List.sum_cons, ih, flat, List.flatten_cons, List.length_append]; rfl
theorem mapSeq_get {h : Heap} {l : Addr} {o : Obj} {xs : Array Value} {k : Nat} {f : Array Value → Array Value} (ho : h.get? l = some o) (hc : o.cls = .type "list") (hd : o.data = .seq xs k) :
    ∃ o' k', (h.update l (Obj.mapSeq f)).get? l = some o' ∧ o'.cls = .type "list" ∧ o'.data = .seq (f xs) k' := by
  obtain ⟨c, d, dt, sl⟩ := o
  simp only at hc hd
  subst hc; subst hd
  refine ⟨_, _, Heap.get?_update_self _ ho rfl, rfl, rfl⟩
theorem sub_loop {a ct l : Addr} {code : Array Nat} {x r : Str} {tx tr : Tok} {find : Nat → Option (Nat × Nat)} {R : Result → Shared → Prop} (S : Seeks code x.cps find) (hla : l ≠ a) (hlc : l ≠ ct) (hxl : x.cps.size ≤ 50000) (hr : r.cps.size ≤ 2) : ∀ (fuel : Nat) (s : Shared) (items : Array Value) (ys : List Str) (n : Int) (dn : Nat),
    x.cps.size < dn + fuel → dn ≤ x.cps.size → IsPat s.heap a ct code → (∃ o k, s.heap.get? l = some o ∧ o.cls = .type "list" ∧ o.data = .seq items k) → StrsAre items.toList ys → items.size ≤ 2 * dn → (flat ys).length ≤ 3 * dn →
    (∀ h' t' tk', (∀ b o, b ≠ l → s.heap.get? b = some o → h'.get? b = some o) → R (.ok (.ret (.str ⟨(flat ys ++ subGo find r.cps.toList x.cps.toList fuel dn).toArray⟩ t'))) { s with heap := h', toks := tk' }) →
    codeAny (model prog w) A (.builtin "re.Pattern.sub.loop" ⟨[.ref a, .str x tx, .str r tr, rawInt 0, rawInt 0, rawInt n, rawInt dn, rawInt dn, .bool false, .ref l, .bool false], []⟩) R s
  | 0, s, items, ys, n, dn, hfu, hdn, P, hl, hys, hsz, hfl, hR => by omega
  | fuel + 1, s, items, ys, n, dn, hfu, hdn, P, hl, hys, hsz, hfl, hR => by
    refine codeAny_builtin re_entry_loop ?_
    unfold Builtin.«re.Pattern.sub.loop»
    dsimp only [rawInt]
    refine wpAny_bind (wp_target P ?_)
    simp only [Int.toNat_natCast, beq_self_eq_true, if_true, Bool.false_eq_true, if_false, bne_self_eq_false, Bool.false_and]
    refine wpAny_bind (m := reLiteralCannotBeTurned (.str r tr)) (show wpAny _ _ (pure ()) _ _ _ from wpAny_pure ?_)
    refine wpAny_bind ?_
    unfold reNextFound
    obtain ⟨ol, kl, g1, g2, g3⟩ := hl
    obtain ⟨k, hk, hf⟩ := S.go dn hdn
    have hxs : x.cps.toList.length = x.cps.size := Array.length_toList
    cases hfd : find dn with
    | some pe =>
      obtain ⟨p, e⟩ := pe
      rw [hfd] at hf
      obtain ⟨hF, q1, q2, q3⟩ := hf
      refine wp_found hF hk fun m' e1 e2 => ?_
      dsimp only
      rw [e1, e2]
      have hne : (e == p) = false := by simp; omega
      have step : ∀ (s₁ : Shared) (items₁ : Array Value) (ys₁ : List Str), (∀ b o, b ≠ l → s.heap.get? b = some o → s₁.heap.get? b = some o) → s₁ = { s with heap := s₁.heap, toks := s₁.toks } →
          (∃ o k, s₁.heap.get? l = some o ∧ o.cls = .type "list" ∧ o.data = .seq items₁ k) → StrsAre items₁.toList ys₁ → items₁.size ≤ 2 * dn + 1 → flat ys₁ = flat ys ++ (x.cps.toList.drop dn).take (p - dn) →
          wpAny (model prog w) (A.under (Code.builtin "re.Pattern.sub.loop" ⟨[.ref a, .str x tx, .str r tr, Value.int 0 0, Value.int 0 0, Value.int n 0, Value.int dn 0, Value.int dn 0, .bool false, .ref l, .bool false], []⟩))
            (do
              let item ← pure (Value.str r tr)
              if (item != Value.none) = true then do
                  updateSeq l fun x => x.push item
                  again (Code.builtin "re.Pattern.sub.loop" ⟨[.ref a, .str x tx, .str r tr, Value.int 0 0, Value.int 0 0, Value.int (n + 1) 0, Value.int e 0, Value.int e 0, .bool (e == p), .ref l, .bool false], []⟩)
                else
                  again (Code.builtin "re.Pattern.sub.loop" ⟨[.ref a, .str x tx, .str r tr, Value.int 0 0, Value.int 0 0, Value.int (n + 1) 0, Value.int e 0, Value.int e 0, .bool (e == p), .ref l, .bool false], []⟩))
            (fun fin s' => match fin with | .done f => R (.ok f) s' | .again c' => c'.quiet = true ∧ codeAny (model prog w) A c' R s') (fun e s' => R (.error e) s') s₁ := by
        intro s₁ items₁ ys₁ hkeep hs₁ hl₁ hy₁ hz₁ hfl₁
        obtain ⟨o₁, k₁, f1, f2, f3⟩ := hl₁
        refine wpAny_bind (wpAny_pure ?_)
        rw [if_pos (by rfl)]
        refine wpAny_bind (wpAny_updateSeq f1 f3 ?_ (by unfold sizeLine; omega) (by rw [Array.size_push]; unfold sizeLine; omega))
        refine wpAny_pure ⟨Code.quiet_builtin _ (by decide +kernel), ?_⟩
        rw [hne]
        have hl2 := mapSeq_get (f := fun x => x.push (Value.str r tr)) f1 f2 f3
        have hkeep2 : ∀ b o, b ≠ l → s.heap.get? b = some o → (s₁.heap.update l (Obj.mapSeq fun x => x.push (Value.str r tr))).get? b = some o := fun b o hb hg => (Heap.get?_update_ne _ _ _ _ hb).trans (hkeep b o hb hg)
        have hfl2 : flat (ys₁ ++ [r]) = flat ys ++ (x.cps.toList.drop dn).take (p - dn) ++ r.cps.toList := by rw [flat_snoc, hfl₁]
        have hrl : r.cps.toList.length = r.cps.size := Array.length_toList
        refine sub_loop S hla hlc hxl hr fuel _ _ (ys₁ ++ [r]) (n + 1) e (by omega) q3 ⟨?_, ?_⟩ hl2 ?_ ?_ ?_ ?_
        · obtain ⟨o, p0, p1, p3, p4, z1, z2⟩ := P.pat
          exact ⟨o, p0, p1, p3, p4, hkeep2 _ _ (Ne.symm hla) z1, z2⟩
        · obtain ⟨o, n, vs, z1, z2⟩ := P.tup
          exact ⟨o, n, vs, hkeep2 _ _ (Ne.symm hlc) z1, z2⟩
        · rw [Array.toList_push]; exact hy₁.append' (.cons _ _ .nil)
        · rw [Array.size_push]; omega
        · rw [hfl2, List.length_append, List.length_append, List.length_take, List.length_drop]; omega
        · intro h' t' tk' hk'
          have z := hR h' t' tk' fun b o hb hg => hk' b o hb (hkeep2 b o hb hg)
          rw [hs₁]
          have ez : flat (ys₁ ++ [r]) ++ subGo find r.cps.toList x.cps.toList fuel e = flat ys ++ subGo find r.cps.toList x.cps.toList (fuel + 1) dn := by
            rw [hfl2]
            conv => rhs; rw [subGo, hfd]
            simp only [List.append_assoc]
          rw [ez]
          exact z
      by_cases hd : dn < p
      · rw [if_pos hd]
        unfold reSlice
        rw [if_pos (by rfl)]
        refine wpAny_bind (wpAny_mkStr ?_ (by show (x.cps.extract dn p).size ≤ sizeLine; rw [Array.size_extract]; unfold sizeLine; omega))
        refine wpAny_bind (wpAny_updateSeq (s := { s with toks := s.toks + 1 }) g1 g3 ?_ (by unfold sizeLine; omega) (by rw [Array.size_push]; unfold sizeLine; omega))
        refine step _ _ (ys ++ [⟨x.cps.extract dn p⟩]) (fun b o hb hg => (Heap.get?_update_ne _ _ _ _ hb).trans hg) rfl (mapSeq_get g1 g2 g3) ?_ ?_ ?_
        · rw [Array.toList_push]; exact hys.append' (.cons _ _ .nil)
        · rw [Array.size_push]; omega
        · rw [flat_snoc]
          congr 1
          rw [Array.toList_extract]
      · rw [if_neg hd]
        refine step s items ys (fun _ _ _ h => h) rfl ⟨ol, kl, g1, g2, g3⟩ hys (by omega) ?_
        rw [show p - dn = 0 by omega, List.take_zero, List.append_nil]
    | none =>
      rw [hfd] at hf
      refine wp_notfound hf hk ?_
      dsimp only
      have fin : ∀ (s₁ : Shared) (items₁ : Array Value) (ys₁ : List Str), (∀ b o, b ≠ l → s.heap.get? b = some o → s₁.heap.get? b = some o) → s₁ = { s with heap := s₁.heap, toks := s₁.toks } →
          (∃ o k, s₁.heap.get? l = some o ∧ o.cls = .type "list" ∧ o.data = .seq items₁ k) → StrsAre items₁.toList ys₁ → flat ys₁ = flat ys ++ x.cps.toList.drop dn →
          wpAny (model prog w) (A.under (Code.builtin "re.Pattern.sub.loop" ⟨[.ref a, .str x tx, .str r tr, Value.int 0 0, Value.int 0 0, Value.int n 0, Value.int dn 0, Value.int dn 0, .bool false, .ref l, .bool false], []⟩))
            (do
              let joiner ← reSlice x.cps 0 0 0
              let __do_lift ← seqItems? (Value.ref l)
              if (__do_lift.getD #[]).isEmpty = true then do
                  let text ← pure joiner
                  ret text
                else do
                  let text ← call (Value.builtin "str.join") [joiner, Value.ref l]
                  ret text)
            (fun fin s' => match fin with | .done f => R (.ok f) s' | .again c' => c'.quiet = true ∧ codeAny (model prog w) A c' R s') (fun e s' => R (.error e) s') s₁ := by
        intro s₁ items₁ ys₁ hkeep hs₁ hl₁ hy₁ hfl₁
        obtain ⟨o₁, k₁, f1, f2, f3⟩ := hl₁
        have ez : flat ys₁ = flat ys ++ subGo find r.cps.toList x.cps.toList (fuel + 1) dn := by
          rw [hfl₁]
          conv => rhs; rw [subGo, hfd]
        unfold reSlice
        rw [if_pos (by rfl)]
        refine wpAny_bind (wpAny_mkStr ?_ (by show (x.cps.extract 0 0).size ≤ sizeLine; rw [Array.size_extract]; unfold sizeLine; omega))
        refine wpAny_bind ?_
        unfold seqItems?
        refine wpAny_bind (wpAny_load f1 ?_)
        rw [f3]
        refine wpAny_pure ?_
        show wpAny _ _ (if (items₁.isEmpty) = true then _ else _) _ _ _
        have e0 : (⟨x.cps.extract 0 0⟩ : Str) = ⟨#[]⟩ := by
          congr 1
          simp
        rw [e0]
        by_cases hemp : items₁.isEmpty = true
        · rw [if_pos hemp]
          refine wpAny_bind (wpAny_pure (wpAny_pure ?_))
          have z := hR s₁.heap s₁.toks (s₁.toks + 1) hkeep
          have hnil : items₁.toList = [] := by simpa using hemp
          rw [hnil] at hy₁
          cases hy₁
          rw [← ez] at z
          rw [hs₁]
          exact z
        · rw [if_neg hemp]
          refine wpAny_bind (join_list (D := l) (items := items₁) (ys := ys₁) ⟨o₁, f1, f2, k₁, f3⟩ hy₁ ?_ fun t' k' => ?_)
          · rw [flat_len, hfl₁, List.length_append, List.length_drop]
            show _ + ys₁.length * 0 ≤ _
            omega
          · refine wpAny_pure ?_
            have z := hR s₁.heap t' k' hkeep
            rw [← ez] at z
            rw [hs₁]
            have ej : Txt.join (⟨#[]⟩ : Str) ys₁ = ⟨(flat ys₁).toArray⟩ := PySem.Str.ext' (Array.toList_inj.mp (by rw [glued_flat]))
            rw [ej]
            exact z
      by_cases hd : dn < x.cps.size
      · rw [if_pos hd]
        conv => arg 3; rw [reSlice, if_pos (by rfl)]
        refine wpAny_bind (wpAny_mkStr ?_ (by show (x.cps.extract dn x.cps.size).size ≤ sizeLine; rw [Array.size_extract]; unfold sizeLine; omega))
        refine wpAny_bind (wpAny_updateSeq (s := { s with toks := s.toks + 1 }) g1 g3 ?_ (by unfold sizeLine; omega) (by rw [Array.size_push]; unfold sizeLine; omega))
        refine fin _ _ (ys ++ [⟨x.cps.extract dn x.cps.size⟩]) (fun b o hb hg => (Heap.get?_update_ne _ _ _ _ hb).trans hg) rfl (mapSeq_get g1 g2 g3) ?_ ?_
        · rw [Array.toList_push]; exact hys.append' (.cons _ _ .nil)
        · rw [flat_snoc]
          congr 1
          rw [Array.toList_extract]
          show List.take (x.cps.size - dn) (List.drop dn x.cps.toList) = _
          rw [List.take_of_length_le (by rw [List.length_drop]; omega)]
      · rw [if_neg hd]
        refine fin s items ys (fun _ _ _ h => h) rfl ⟨ol, kl, g1, g2, g3⟩ hys ?_
        rw [List.drop_eq_nil_of_le (by omega), List.append_nil]
end
end Mine
end
section
open PySem PySem.W PyProof.Rows PySem.Calls PySem.Builtin.Re
set_option maxRecDepth 100000
set_option maxHeartbeats 0
namespace Mine
theorem str_nocall : typeLookup (.type "str") "__call__" = pure none := by rw [typeLookup_type, builtinLookup_eq_fast]; kernel_rfl
theorem re_named (r x : Value) : reNamed "re.Pattern.sub" "sub" ["repl", "string", "count"] 2 [r, x] [] = pure [some r, some x, none] := rfl
section
variable {prog : Program} {w : World} {A : Around} {E : Value → Shared → Prop} {s : Shared} {h₀ : Heap} {L : Addr} {m : Str → Option Value} {news : List (Addr × Obj)}
theorem call_sub {a ct : Addr} {code : Array Nat} {x r : Str} {tx tr : Tok} {find : Nat → Option (Nat × Nat)} {Q : Value → Shared → Prop} (S : Seeks code x.cps find) (P : IsPat s.heap a ct code) (hxl : x.cps.size ≤ 50000) (hr : r.cps.size ≤ 2) (hlit : r.cps.contains 92 = false)
    (F : Fr h₀ L s.heap m) (N : News h₀ L s.heap news)
    (h : ∀ t' h' tk', Fr h₀ L h' m → News h₀ L h' news → Q (.str ⟨(subGo find r.cps.toList x.cps.toList (x.cps.size + 1) 0).toArray⟩ t') { s with heap := h', toks := tk' }) :
    wpAny (model prog w) A (call (.builtin "re.Pattern.sub") [.ref a, .str r tr, .str x tx]) Q E s := by
  have hT : s.TypeIs (.ref a) "re.Pattern" := by
    obtain ⟨o, _, _, _, _, h1, h2, _⟩ := P.pat
    exact ⟨o, h1, h2⟩
  refine call_meets re_slot hT re_entry (re_args _ _ _) (S := fun _ R s' => IsPat s'.heap a ct code ∧ ∀ h' t' tk', (∀ b o, s'.heap.get? b = some o → h'.get? b = some o) → R (.ok (.ret (.str ⟨(subGo find r.cps.toList x.cps.toList (x.cps.size + 1) 0).toArray⟩ t'))) { s' with heap := h', toks := tk' }) ?_ ⟨P, ?_⟩
  · rintro prog w A R s ⟨P, hR⟩
    show wpAny _ _ (Builtin.Re.reSubstitute "re.Pattern.sub" "sub" false ⟨[.ref a, .str r tr, .str x tx], []⟩) _ _ _
    unfold reSubstitute
    dsimp only
    rw [re_named]
    refine wpAny_bind (wpAny_pure ?_)
    dsimp only
    refine wpAny_bind (wpAny_pure ?_)
    refine wpAny_bind (wpAny_specialOf (typeIs_str _ _ _) str_nocall ?_)
    simp only [Option.isSome_none, Bool.false_eq_true, if_false]
    refine wpAny_bind ?_
    show wpAny _ _ (pure (some r)) _ _ _
    refine wpAny_pure ?_
    dsimp only
    refine wpAny_bind (wpAny_pure ?_)
    rw [hlit]
    simp only [Bool.not_false, if_true]
    refine wpAny_bind (wpAny_pure ?_)
    dsimp only
    refine wpAny_bind (wpAny_holding (wp_target P ?_))
    rw [if_neg (by decide)]
    refine wpAny_bind (wpAny_newObj_type ?_ (Nat.zero_le _))
    refine wpAny_pure ⟨Code.quiet_builtin _ (by decide +kernel), ?_⟩
    have hnew : ∀ b o, s.heap.get? b = some o → b ≠ s.heap.objs.size := fun b o e => Nat.ne_of_lt (Heap.lt_size e)
    have hk0 : ∀ b o, s.heap.get? b = some o → (s.heap.push { cls := .type "list", data := .seq ([] : List Value).toArray }).get? b = some o := fun b o e => Heap.get?_push_of_some _ e
    refine sub_loop S ?_ ?_ hxl hr (x.cps.size + 1) _ #[] [] 0 0 (by omega) (Nat.zero_le _) (P.keeps hk0) ⟨_, _, Heap.get?_push_size _ rfl, rfl, rfl⟩ .nil (Nat.zero_le _) (Nat.zero_le _) ?_
    · obtain ⟨o, _, _, _, _, h1, _⟩ := P.pat
      exact (hnew _ _ h1).symm
    · obtain ⟨o, _, _, h1, _⟩ := P.tup
      exact (hnew _ _ h1).symm
    · intro h' t' tk' hk
      exact hR h' t' tk' fun b o e => hk b o (hnew b o e) (hk0 b o e)
  · intro h' t' tk' hk
    refine h t' h' tk' ⟨F.ns.at' fun o e => hk _ _ e, fun b o e => hk _ _ (F.keep b o e), F.above⟩ fun p hp => ⟨hk _ _ (N p hp).1, (N p hp).2⟩
end
end Mine
end
section
open PySem
set_option maxRecDepth 100000
namespace Mine
def crlfS : Bool → List Nat → List Nat
  | _, [] => []
  | b, c :: r => if c = 13 then 13 :: 10 :: crlfS true r else if c = 10 then (if b then crlfS false r else 13 :: 10 :: crlfS false r) else c :: crlfS false r
def dots : Bool → List Nat → List Nat
  | _, [] => []
  | b, c :: r => (if b && c == 46 then [46, 46] else [c]) ++ dots (c == 10) r
def atLine (a : List Nat) : Bool := a == [] || a == [13] || a == [10]
theorem dots_crlf (t : List Nat) : ∀ a : List Nat, dots (atLine a) (crlfS (a == [13]) t) = sentL a t := by
  induction t with
  | nil => intro a; rfl
  | cons c r ih =>
    intro a
    rw [crlfS, sentL]
    by_cases h13 : c = 13
    · subst h13
      rw [if_pos rfl]
      have e := ih [13]
      rw [show atLine [13] = true from rfl, show (([13] : List Nat) == [13]) = true from rfl] at e
      simp only [dots, one]
      rw [show ((10 : Nat) == 10) = true from rfl, e]
      simp
    · rw [if_neg h13]
      by_cases h10 : c = 10
      · subst h10
        rw [if_pos rfl]
        have e := ih [10]
        rw [show atLine [10] = true from rfl, show (([10] : List Nat) == [13]) = false from rfl] at e
        by_cases ha : a = [13]
        · subst ha
          rw [show (([13] : List Nat) == [13]) = true from rfl, if_pos rfl, show atLine [13] = true from rfl, e]
          simp [one]
        · rw [show (a == [13]) = false from by simpa using ha, if_neg (by decide)]
          simp only [dots]
          rw [show ((10 : Nat) == 10) = true from rfl, e]
          simp [one, ha]
      · rw [if_neg h10]
        have e := ih [c]
        rw [show atLine [c] = false from by simp [atLine, h13, h10], show (([c] : List Nat) == [13]) = false from by simpa using h13] at e
        simp only [dots]
        rw [show (c == 10) = false from by simpa using h10, e]
        congr 1
        have ho : one a c = if c = 46 ∧ (a = [] ∨ a = [13] ∨ a = [10]) then [46, 46] else [c] := by
          unfold one
          rw [if_neg (fun q => q.elim h13 fun z => h10 z.1), if_pos h10]
        rw [ho]
        by_cases h46 : c = 46
        · subst h46
          by_cases ha : (a = [] ∨ a = [13] ∨ a = [10])
          · rw [if_pos (c := 46 = 46 ∧ (a = [] ∨ a = [13] ∨ a = [10])) ⟨rfl, ha⟩, if_pos]
            simpa [atLine, or_assoc] using ha
          · rw [if_neg (c := 46 = 46 ∧ (a = [] ∨ a = [13] ∨ a = [10])) (fun q => ha q.2), if_neg]
            simpa [atLine, or_assoc] using ha
        · rw [if_neg (c := c = 46 ∧ (a = [] ∨ a = [13] ∨ a = [10])) (fun q => h46 q.1), if_neg]
          simp [h46]
theorem quote_is (t : List Nat) : dots true (crlfS false t) = sentL [] t := dots_crlf t []
section
variable {T : Array Nat}
theorem drop_cons {s : Nat} (h : s < T.size) : T.toList.drop s = T.getD s 0 :: T.toList.drop (s + 1) := by
  rw [List.drop_eq_getElem_cons (by simpa using h)]
  congr 1
  simp [Array.getD, h]
/-- behind a place that is no return's end -/
def prev13 (T : Array Nat) (s : Nat) : Bool := s != 0 && T.getD (s - 1) 0 == 13
theorem crlf_hit {s : Nat} (h : s < T.size) (hp : ¬ (prev13 T s = true ∧ T.getD s 0 = 10)) (hh : hit2 T s = true) :
    crlfS (prev13 T s) (T.toList.drop s) = [13, 10] ++ crlfS (prev13 T (end2 T T.size s)) (T.toList.drop (end2 T T.size s)) ∧ ¬ (prev13 T (end2 T T.size s) = true ∧ T.getD (end2 T T.size s) 0 = 10 ∧ end2 T T.size s < T.size) := by
  rw [drop_cons h]
  simp only [hit2, Bool.or_eq_true, beq_iff_eq] at hh
  unfold end2
  rcases hh with hh | hh
  · rw [if_neg (by rw [hh]; omega), crlfS, hh, if_neg (by decide), if_pos rfl]
    have e1 : prev13 T s = false := by
      cases q : prev13 T s with
      | false => rfl
      | true => exact absurd ⟨q, hh⟩ hp
    have e2 : prev13 T (s + 1) = false := by simp [prev13, hh]
    rw [e1, e2]
    exact ⟨rfl, fun z => absurd z.1 (by decide)⟩
  · by_cases q : s + 1 < T.size ∧ T.getD (s + 1) 0 = 10
    · rw [if_pos ⟨hh, q⟩, crlfS, hh, if_pos rfl, drop_cons q.1, crlfS, q.2, if_neg (by decide), if_pos rfl, if_pos rfl]
      have e2 : prev13 T (s + 2) = false := by
        show (true && T.getD (s + 1) 0 == 13) = false
        rw [q.2]; rfl
      rw [e2]
      exact ⟨rfl, fun z => absurd z.1 (by decide)⟩
    · rw [if_neg (fun z => q z.2), crlfS, hh, if_pos rfl]
      have e2 : prev13 T (s + 1) = true := by
        show (true && T.getD s 0 == 13) = true
        rw [hh]; rfl
      rw [e2]
      exact ⟨rfl, fun z => q ⟨z.2.2, z.2.1⟩⟩
theorem crlf_miss {s : Nat} (h : s < T.size) (hh : hit2 T s = false) :
    crlfS (prev13 T s) (T.toList.drop s) = T.getD s 0 :: crlfS (prev13 T (s + 1)) (T.toList.drop (s + 1)) ∧ prev13 T (s + 1) = false := by
  simp only [hit2, Bool.or_eq_false_iff, beq_eq_false_iff_ne] at hh
  have e2 : prev13 T (s + 1) = false := by
    show (true && T.getD s 0 == 13) = false
    simpa using hh.2
  rw [drop_cons h, crlfS, if_neg hh.2, if_neg hh.1, e2]
  exact ⟨rfl, rfl⟩
theorem crlf_first : ∀ (fuel s : Nat), s + fuel = T.size → ¬ (prev13 T s = true ∧ T.getD s 0 = 10 ∧ s < T.size) → match first2 T fuel s with
    | some p => crlfS (prev13 T s) (T.toList.drop s) = (T.toList.drop s).take (p - s) ++ crlfS (prev13 T p) (T.toList.drop p) ∧ ¬ (prev13 T p = true ∧ T.getD p 0 = 10)
    | none => crlfS (prev13 T s) (T.toList.drop s) = T.toList.drop s
  | 0, s, h, hp => by
    rw [first2, List.drop_eq_nil_of_le (by simp; omega)]
    rfl
  | fuel + 1, s, h, hp => by
    rw [first2]
    cases hh : hit2 T s with
    | true =>
      rw [if_pos rfl]
      dsimp only
      rw [Nat.sub_self, List.take_zero, List.nil_append]
      exact ⟨rfl, fun z => hp ⟨z.1, z.2, by omega⟩⟩
    | false =>
      rw [if_neg (by decide)]
      obtain ⟨e1, e2⟩ := crlf_miss (s := s) (by omega) hh
      have ih := crlf_first fuel (s + 1) (by omega) (fun z => absurd (z.1.symm.trans e2) (by decide))
      split
      · rename_i p hq
        rw [hq] at ih
        obtain ⟨a, b⟩ := ih
        have hps := first2_some hq
        refine ⟨?_, b⟩
        rw [e1, a, drop_cons (s := s) (by omega), show p - s = (p - (s + 1)) + 1 by omega, List.take_succ_cons]
        rfl
      · rename_i hq
        rw [hq] at ih
        rw [e1, ih, drop_cons (s := s) (by omega)]
def find2 (T : Array Nat) (pos : Nat) : Option (Nat × Nat) := (first2 T (T.size - pos) pos).map fun p => (p, end2 T T.size p)
theorem end2_range {p : Nat} (h : p < T.size) : p < end2 T T.size p ∧ end2 T T.size p ≤ T.size := by
  by_cases q : T.getD p 0 = 13 ∧ p + 1 < T.size ∧ T.getD (p + 1) 0 = 10
  · rw [end2, if_pos q]; have := q.2.1; omega
  · rw [end2, if_neg q]; omega
theorem seeks2 (T : Array Nat) : Seeks code2 T (find2 T) := ⟨fun pos h => by
  obtain ⟨n, hn, hf⟩ := search2 T pos T.size h
  refine ⟨n, by omega, ?_⟩
  unfold find2
  cases hq : first2 T (T.size - pos) pos with
  | none => rw [hq] at hf; exact hf
  | some p =>
    rw [hq] at hf
    have hp := first2_some hq
    exact ⟨hf, hp.1, (end2_range (by omega)).1, (end2_range (by omega)).2⟩⟩
theorem sub2 : ∀ (fuel dn : Nat), T.size < dn + fuel → dn ≤ T.size → ¬ (prev13 T dn = true ∧ T.getD dn 0 = 10 ∧ dn < T.size) → subGo (find2 T) [13, 10] T.toList fuel dn = crlfS (prev13 T dn) (T.toList.drop dn)
  | 0, dn, h, h2, _ => by omega
  | fuel + 1, dn, h, h2, hp => by
    have hc := crlf_first (T.size - dn) dn (by omega) hp
    cases hq : first2 T (T.size - dn) dn with
    | none =>
      rw [hq] at hc
      have hfind : find2 T dn = none := by unfold find2; rw [hq]; rfl
      rw [subGo, hfind]
      exact hc.symm
    | some p =>
      rw [hq] at hc
      have hfind : find2 T dn = some (p, end2 T T.size p) := by unfold find2; rw [hq]; rfl
      rw [subGo, hfind]
      have hps := first2_some hq
      have hr := end2_range (T := T) (p := p) (by omega)
      obtain ⟨e1, e2⟩ := crlf_hit (by omega) hc.2 hps.2.2
      dsimp only
      rw [sub2 fuel (end2 T T.size p) (by omega) hr.2 e2, hc.1, e1, List.append_assoc]
/-- at a line's start -/
def bnd (T : Array Nat) (s : Nat) : Bool := s == 0 || T.getD (s - 1) 0 == 10
theorem dots_step {s : Nat} (h : s < T.size) : dots (bnd T s) (T.toList.drop s) = (if hit1 T s then [46, 46] else [T.getD s 0]) ++ dots (bnd T (s + 1)) (T.toList.drop (s + 1)) := by
  rw [drop_cons h, dots]
  rfl
theorem first1_some {text : Array Nat} : ∀ {fuel s p : Nat}, first1 text fuel s = some p → s ≤ p ∧ p < s + fuel ∧ hit1 text p = true
  | 0, s, p, h => by cases h
  | fuel + 1, s, p, h => by
    unfold first1 at h
    split at h
    · rename_i q; cases h; exact ⟨Nat.le_refl _, by omega, q⟩
    · obtain ⟨a, b, c⟩ := first1_some h
      exact ⟨by omega, by omega, c⟩
theorem dots_first : ∀ (fuel s : Nat), s + fuel = T.size → match first1 T fuel s with
    | some p => dots (bnd T s) (T.toList.drop s) = (T.toList.drop s).take (p - s) ++ dots (bnd T p) (T.toList.drop p)
    | none => dots (bnd T s) (T.toList.drop s) = T.toList.drop s
  | 0, s, h => by
    rw [first1, List.drop_eq_nil_of_le (by simp; omega)]
    rfl
  | fuel + 1, s, h => by
    rw [first1]
    cases hh : hit1 T s with
    | true =>
      rw [if_pos rfl]
      dsimp only
      rw [Nat.sub_self, List.take_zero, List.nil_append]
    | false =>
      rw [if_neg (by decide)]
      have e1 := dots_step (T := T) (s := s) (by omega)
      rw [hh, if_neg (by decide)] at e1
      have ih := dots_first fuel (s + 1) (by omega)
      split
      · rename_i p hq
        rw [hq] at ih
        have hps := first1_some hq
        rw [e1, ih, drop_cons (s := s) (by omega), show p - s = (p - (s + 1)) + 1 by omega, List.take_succ_cons]
        rfl
      · rename_i hq
        rw [hq] at ih
        rw [e1, ih, drop_cons (s := s) (by omega)]
        rfl
def find1' (T : Array Nat) (pos : Nat) : Option (Nat × Nat) := (first1 T (T.size - pos) pos).map fun p => (p, p + 1)
theorem seeks1 (T : Array Nat) (hT : T.size ≤ 50000) : Seeks code1 T (find1' T) := ⟨fun pos h => by
  obtain ⟨n, hn, hf⟩ := search1 T pos T.size h
  refine ⟨n, by omega, ?_⟩
  unfold find1'
  cases hq : first1 T (T.size - pos) pos with
  | none => rw [hq] at hf; exact hf
  | some p =>
    rw [hq] at hf
    have hp := first1_some hq
    exact ⟨hf, hp.1, by omega, by omega⟩⟩
theorem sub1 : ∀ (fuel dn : Nat), T.size < dn + fuel → dn ≤ T.size → subGo (find1' T) [46, 46] T.toList fuel dn = dots (bnd T dn) (T.toList.drop dn)
  | 0, dn, h, h2 => by omega
  | fuel + 1, dn, h, h2 => by
    have hc := dots_first (T := T) (T.size - dn) dn (by omega)
    cases hq : first1 T (T.size - dn) dn with
    | none =>
      rw [hq] at hc
      have hfind : find1' T dn = none := by unfold find1'; rw [hq]; rfl
      rw [subGo, hfind]
      exact hc.symm
    | some p =>
      rw [hq] at hc
      have hfind : find1' T dn = some (p, p + 1) := by unfold find1'; rw [hq]; rfl
      rw [subGo, hfind]
      have hps := first1_some hq
      have e1 := dots_step (T := T) (s := p) (by omega)
      rw [hps.2.2, if_pos rfl] at e1
      dsimp only
      rw [sub1 fuel (p + 1) (by omega) (by omega), hc, e1, List.append_assoc]
end
end Mine
end
section
open PySem PySem.W PyProof.Rows PySem.Calls PySem.Builtin.Re
set_option maxRecDepth 100000
set_option maxHeartbeats 0
namespace Mine
theorem pat1 {P : Params} {h : Heap} (X : (Mine.hd.heap_39 P).In h) : IsPat h 151 150 code1 :=
  ⟨⟨_, _, _, _, _, X 151 _ rfl, rfl, rfl, rfl⟩, ⟨_, _, _, X 150 _ rfl, rfl, rfl, by decide +kernel⟩⟩
theorem pat2 {P : Params} {h : Heap} (X : (Mine.hd.heap_39 P).In h) : IsPat h 156 155 code2 :=
  ⟨⟨_, _, _, _, _, X 156 _ rfl, rfl, rfl, rfl⟩, ⟨_, _, _, X 155 _ rfl, rfl, rfl, by decide +kernel⟩⟩
end Mine
end
section
open PySem PySem.W PyProof.Rows PySem.Calls
set_option maxRecDepth 100000
set_option maxHeartbeats 0
namespace Mine
section
variable {prog : Program} {w : World} {A : Around} {E : Value → Shared → Prop} {s : Shared} {h₀ : Heap} {L D : Addr} {m : Str → Option Value} {rest : List (Addr × Obj)} {us : List Value} {n : Nat}
theorem app_top {x : Value} {Q : Value → Shared → Prop} (F : Fr h₀ L s.heap m) (N : News h₀ L s.heap ((D, listOf us.toArray n) :: rest)) (hne : ∀ p ∈ rest, p.1 ≠ D) (hsz : us.length ≤ 50000)
    (h : ∀ h', Fr h₀ L h' m → News h₀ L h' ((D, listOf (us ++ [x]).toArray (n + 1)) :: rest) → Q .none { s with heap := h' }) : wpAny (model prog w) A (call (.builtin "list.append") [.ref D, x]) Q E s := by
  refine append_K F N (Upd.head hne) (fun h' F' N' => h h' F' ?_) (by rw [List.size_toArray]; unfold sizeLine; omega)
  rw [List.push_toArray] at N'
  exact N'
theorem kl_last_snoc (p : List Value) (y : Value) : kl_last (p ++ [y]) = some (p, y) := by
  induction p with
  | nil => rfl
  | cons a p ih =>
    cases p with
    | nil => rfl
    | cons b q =>
      show kl_last (a :: b :: (q ++ [y])) = _
      rw [List.cons_append] at ih
      unfold kl_last
      rw [ih]
theorem pop_top {y : Value} {Q : Value → Shared → Prop} (F : Fr h₀ L s.heap m) (N : News h₀ L s.heap ((D, listOf (us ++ [y]).toArray n) :: rest)) (hne : ∀ p ∈ rest, p.1 ≠ D) (hsz : us.length ≤ 50000)
    (h : ∀ h', Fr h₀ L h' m → News h₀ L h' ((D, listOf us.toArray (n + 1)) :: rest) → Q y { s with heap := h' }) : wpAny (model prog w) A (call (.builtin "list.pop") [.ref D]) Q E s :=
  kl_pop F N (kl_last_snoc us y) (Upd.head hne) (by rw [List.toList_toArray, List.length_append]; unfold sizeLine; simp; omega) h
theorem truthy_top0 {Q : Bool → Shared → Prop} (N : News h₀ L s.heap ((D, listOf ([] : List Value).toArray n) :: rest)) (h : Q false { s with toks := s.toks + 1 + 1 }) : wpAny (model prog w) A (truthy (.ref D)) Q E s := by
  refine wpAny_truthy_list (items := ([] : List Value).toArray) (l := D) ⟨_, (N _ (.head _)).1, rfl, _, rfl⟩ (by decide) ?_
  exact h
theorem truthy_top1 {y : Value} {Q : Bool → Shared → Prop} (N : News h₀ L s.heap ((D, listOf (us ++ [y]).toArray n) :: rest)) (hsz : us.length ≤ 50000) (h : Q true { s with toks := s.toks + 1 + 1 }) : wpAny (model prog w) A (truthy (.ref D)) Q E s := by
  refine wpAny_truthy_list (items := (us ++ [y]).toArray) (l := D) ⟨_, (N _ (.head _)).1, rfl, _, rfl⟩ (by rw [List.size_toArray, List.length_append]; simp; omega) ?_
  have e : (!(us ++ [y]).toArray.isEmpty) = true := by
    rw [Array.isEmpty, List.size_toArray, List.length_append]
    simp
  rw [e]
  exact h
theorem last_top {value slice : Expr} {y : Value} {u : Tok} {Q : Value → Shared → Prop} (N : News h₀ L s.heap ((D, listOf (us ++ [y]).toArray n) :: rest)) (h : Q y s)
    (hs : subscripted slice false (.ref D) (.int (-1) u) = operate [.ref D, .int (-1) u] (getItem (.ref D) (.int (-1) u)) := by with_unfolding_all rfl) :
    wpAny (model prog w) A (subscriptTail value slice (.ref D) (.int (-1) u)) Q E s := by
  have hL : s.heap.IsList D (us ++ [y]).toArray := ⟨_, (N _ (.head _)).1, rfl, _, rfl⟩
  refine tail_any hL.typeIs slot_list_getitem.lookup (wpAny_getItem_list_neg hL (by decide) ?_ (by decide) ?_ h) hs
  · rw [List.size_toArray, List.length_append]
    simp
    omega
  · rw [List.size_toArray, List.length_append, show (-1 + ((us.length + [y].length : Nat) : Int)).toNat = us.length by simp; omega]
    simp
end
end Mine
end
section
open PySem PySem.W PyProof.Rows PySem.Calls
set_option maxRecDepth 100000
set_option maxHeartbeats 0
namespace Mine
theorem sv_snoc (p : List (Str × Tok)) (a : Str) (t : Tok) : strValues (p ++ [(a, t)]) = strValues p ++ [.str a t] := by simp [strValues]
theorem sv_len (p : List (Str × Tok)) : (strValues p).length = p.length := by simp [strValues]
theorem sv_get {l : List (Str × Tok)} {i : Nat} {v : Value} (h : (strValues l).toArray[i]? = some v) : ∃ y t, v = .str y t ∧ (l.map (·.1))[i]? = some y := by
  simp only [strValues, List.getElem?_toArray, List.getElem?_map] at h
  cases e : l[i]? with
  | none => rw [e] at h; cases h
  | some p => rw [e] at h; exact ⟨p.1, p.2, (Option.some.inj h).symm, by simp [e]⟩
section
variable {prog : Program} {w : World} {A : Around} {E : Value → Shared → Prop} {s : Shared} {env : Env} {h₀ : Heap} {x : Str} {body : List Stmt} {Q : Flow → Shared → Prop}
/-- a loop over a list that turns one list of texts, whose address stays -/
theorem for_listT {σ : Type} {l D : Addr} {rest : List (Addr × Obj)} {items : Array Value} {m₀ : Str → Option Value} (us : σ → List Value) (nn : σ → Nat) (ps : σ → List (Str × Value)) (P : Nat → σ → Prop) (c₀ : σ)
    (hh : A.handled = none) (hl : s.heap.IsList l items) (hlL : l ≠ env.locals) (hlD : l ≠ D) (hD : ∀ p ∈ rest, p.1 ≠ D) (F : Fr h₀ env.locals s.heap m₀) (N : News h₀ env.locals s.heap ((D, listOf (us c₀).toArray (nn c₀)) :: rest)) (hk : ∀ p ∈ ps c₀, m₀ p.1 = some p.2) (hp : P 0 c₀)
    (turn : ∀ (I : Addr) (T : List (Addr × Obj)) own, (∀ c : σ, ∀ p ∈ (D, listOf (us c).toArray (nn c)) :: rest, p.1 ≠ I) → (∀ p ∈ rest, p ∈ T) → (∀ p ∈ own, p ∈ T) → (∀ p ∈ T, p.1 ≠ D) → ∀ (c : σ) i v (u : Str → Option Value) h tk, i < items.size → items[i]? = some v → P i c →
      Fr h₀ env.locals h (fun y => if y = x then some v else kstB u (ps c) y) → News h₀ env.locals h ((D, listOf (us c).toArray (nn c)) :: T) →
      wpAny (model prog w) A (execs body env) (TurnEnd h₀ env.locals (fun c => (D, listOf (us c).toArray (nn c)) :: rest) ps (P (i + 1)) own I { s with heap := h, toks := tk } Q) E { s with heap := h, toks := tk })
    (done : ∀ (c : σ) (u : Str → Option Value) h tk, P items.size c → Fr h₀ env.locals h (kstB u (ps c)) → News h₀ env.locals h ((D, listOf (us c).toArray (nn c)) :: rest) → Q .next { s with heap := h, toks := tk }) :
    wpAny (model prog w) A (pyIter (.ref l)) (fun it s₂ => LoopAtV prog w A h₀ env x body Q E it s₂) E s := by
  refine for_list (fun c => (D, listOf (us c).toArray (nn c)) :: rest) ps P c₀ hh hl hlL F N hk hp ?_ done
  intro I hI hlI c i v u h tk own hi hv hpc hcI hown _ F₁ N₁
  refine turn I (rest ++ own) own (fun c' p hp => ?_) (fun p hp => List.mem_append.mpr (.inl hp)) (fun p hp => List.mem_append.mpr (.inr hp)) (fun p hp => ?_) c i v u h tk hi hv hpc F₁ N₁
  · rcases List.mem_cons.mp hp with rfl | hp
    · exact hcI (D, listOf (us c).toArray (nn c)) (.head _)
    · exact hcI p (.tail _ hp)
  · rcases List.mem_append.mp hp with hp | hp
    · exact hD p hp
    · rcases List.mem_cons.mp (hown p hp) with e | e
      · rw [e]; exact (hcI _ (.head _)).symm
      · rw [List.mem_singleton.mp e]; exact hlD
theorem TurnEnd.introT {σ : Type} {L D I : Addr} {rest T own : List (Addr × Obj)} {us : σ → List Value} {nn : σ → Nat} {ps : σ → List (Str × Value)} {P : σ → Prop} {s₁ : Shared} {m' : Str → Option Value} {h' : Heap} {tk : Nat} {f : Flow} (hf : f = .next ∨ f = .cont) (c : σ)
    (F : Fr h₀ L h' m') (N : News h₀ L h' ((D, listOf (us c).toArray (nn c)) :: T)) (hI : ∀ c : σ, ∀ p ∈ (D, listOf (us c).toArray (nn c)) :: rest, p.1 ≠ I) (hl : ∀ p ∈ rest, p ∈ T) (ho : ∀ p ∈ own, p ∈ T) (hk : ∀ p ∈ ps c, m' p.1 = some p.2) (hp : P c) :
    TurnEnd h₀ L (fun c => (D, listOf (us c).toArray (nn c)) :: rest) ps P own I s₁ Q f { s₁ with heap := h', toks := tk } := by
  have e : ∃ c h'' tk' m' news', ({ s₁ with heap := h', toks := tk } : Shared) = { s₁ with heap := h'', toks := tk' } ∧ Fr h₀ L h'' m' ∧ News h₀ L h'' news' ∧ (∀ p ∈ (D, listOf (us c).toArray (nn c)) :: rest, p ∈ news') ∧ (∀ p ∈ own, p ∈ news') ∧ (∀ p ∈ (D, listOf (us c).toArray (nn c)) :: rest, p.1 ≠ I) ∧ (∀ p ∈ ps c, m' p.1 = some p.2) ∧ P c :=
    ⟨c, h', tk, m', _, rfl, F, N, fun p hp => (List.mem_cons.mp hp).elim (fun e => e ▸ .head _) fun h => .tail _ (hl p h), fun p hp => .tail _ (ho p hp), hI c, hk, hp⟩
  rcases hf with rfl | rfl
  · exact e
  · exact e
end
section
variable {prog : Program} {w : World} {A : Around} {E : Value → Shared → Prop} {s : Shared} {h₀ : Heap} {L D : Addr} {m : Str → Option Value} {rest : List (Addr × Obj)} {n : Nat}
theorem join_top {sep : Str} {t : Tok} {c : List (Str × Tok)} {Q : Value → Shared → Prop} (N : News h₀ L s.heap ((D, listOf (strValues c).toArray n) :: rest)) (hs : sep.length ≤ 16) (hw : ((c.map (·.1)).map (·.length)).sum + (c.map (·.1)).length ≤ 50000)
    (h : ∀ t' k, Q (.str (Txt.join sep (c.map (·.1))) t') { s with toks := k }) : wpAny (model prog w) A (call (.builtin "str.join") [.str sep t, .ref D]) Q E s :=
  join_listW (items := (strValues c).toArray) (D := D) ⟨_, (N _ (.head _)).1, rfl, _, rfl⟩ (strsAre_of_values c) hs (by omega) h
end
end Mine
end
section
open PySem PySem.W PyProof.Rows PySem.Calls
set_option maxRecDepth 100000
set_option maxHeartbeats 0
namespace Mine
section
variable {prog : Program} {w : World} {A : Around} {E : Value → Shared → Prop} {s : Shared} {h₀ : Heap} {L l b : Addr} {m : Str → Option Value} {news : List (Addr × Obj)} {value slice : PySem.Expr} {c d : List (Str × Tok)} {n n2 : Nat} {vu : Value} {Q : Value → Shared → Prop}
theorem txt_list (N : News h₀ L s.heap news) (hm : (l, listOf (strValues c).toArray n) ∈ news) : s.heap.IsList l (strValues c).toArray := ⟨_, (N _ hm).1, rfl, _, rfl⟩
theorem small_len {k : Nat} (h : k ≤ 50000) : k ≤ sizeLine := by rw [sizeLine_eq]; omega
theorem sl_upto (k : Nat) (F : Fr h₀ L s.heap m) (N : News h₀ L s.heap news) (hm : (l, listOf (strValues c).toArray n) ∈ news) (pu : IsPart vu (some (k : Int))) (hz : c.length ≤ 50000)
    (h : ∀ D h', Fr h₀ L h' m → News h₀ L h' ((D, listOf (strValues (c.take k)).toArray 0) :: news) → (∀ p ∈ news, p.1 < D) → Q (.ref D) { s with heap := h' })
    (hs : subscripted slice false (.ref l) (.ref s.heap.objs.size) = operate [.ref s.heap.objs.size, .ref l] (getItem (.ref l) (.ref s.heap.objs.size))) (ht : ∀ r, letTemporaryGo value (.ref l) r = pure ()) :
    wpAny (model prog w) A (subscriptTail value slice (.ref l) (.ref s.heap.objs.size)) Q E { s with heap := s.heap.push { cls := .type "slice", data := .fields #[.none, vu, .none] } } := by
  refine kmk_slice_lit F N (txt_list N hm) IsPart.none pu (zs := strValues (c.take k)) ?_ h hs ht (small_len (by rw [List.size_toArray, sv_len]; exact hz))
  rw [slicePick_upto']
  simp [strValues, List.map_take]
theorem sl_from (k : Nat) (F : Fr h₀ L s.heap m) (N : News h₀ L s.heap news) (hm : (l, listOf (strValues c).toArray n) ∈ news) (pu : IsPart vu (some (k : Int))) (hz : c.length ≤ 50000)
    (h : ∀ D h', Fr h₀ L h' m → News h₀ L h' ((D, listOf (strValues (c.drop k)).toArray 0) :: news) → (∀ p ∈ news, p.1 < D) → Q (.ref D) { s with heap := h' })
    (hs : subscripted slice false (.ref l) (.ref s.heap.objs.size) = operate [.ref s.heap.objs.size, .ref l] (getItem (.ref l) (.ref s.heap.objs.size))) (ht : ∀ r, letTemporaryGo value (.ref l) r = pure ()) :
    wpAny (model prog w) A (subscriptTail value slice (.ref l) (.ref s.heap.objs.size)) Q E { s with heap := s.heap.push { cls := .type "slice", data := .fields #[vu, .none, .none] } } := by
  refine kmk_slice_lit F N (txt_list N hm) pu IsPart.none (zs := strValues (c.drop k)) ?_ h hs ht (small_len (by rw [List.size_toArray, sv_len]; exact hz))
  rw [slicePick_from']
  simp [strValues, List.map_drop]
theorem sl_rev {ops : List Value} (F : Fr h₀ L s.heap m) (N : News h₀ L s.heap news) (hm : (l, listOf (strValues c).toArray n) ∈ news) (pu : IsPart vu (some (-1))) (hz : c.length ≤ 50000)
    (h : ∀ D h', Fr h₀ L h' m → News h₀ L h' ((D, listOf (strValues c.reverse).toArray 0) :: news) → (∀ p ∈ news, p.1 < D) → Q (.ref D) { s with heap := h' })
    (hs : subscripted slice false (.ref l) (.ref s.heap.objs.size) = operate ops (getItem (.ref l) (.ref s.heap.objs.size))) :
    wpAny (model prog w) A (subscriptTail value slice (.ref l) (.ref s.heap.objs.size)) Q E { s with heap := s.heap.push { cls := .type "slice", data := .fields #[.none, .none, vu] } } := by
  have hl := txt_list N hm
  refine tail_any (Heap.IsList.typeIs (s := { s with heap := s.heap.push { cls := .type "slice", data := .fields #[.none, .none, vu] } }) (hl.push _)) list_getitem_lookup
    (wpAny_getItem_list_slice (hl.push _) (Heap.IsSliceOf.new ..) .none .none pu (by decide) ?_ (small_len (by rw [List.size_toArray, sv_len]; exact hz))) hs
  have N1 := News.push (F.push { cls := .type "slice", data := .fields #[.none, .none, vu] }) (N.grown fun _ _ e => Heap.get?_push_of_some _ e) { cls := .type "list", data := .seq (slicePick (strValues c).toArray none none (some (-1))) }
  have e : slicePick (strValues c).toArray none none (some (-1)) = (strValues c.reverse).toArray := by rw [krv_pick]; simp [strValues, List.map_reverse]
  rw [e] at N1 ⊢
  exact h _ _ ((F.push _).push _) N1 fun p hp => by rw [Heap.size_push]; exact Nat.lt_succ_of_lt (Heap.lt_size (N p hp).1)
theorem add_texts (F : Fr h₀ L s.heap m) (N : News h₀ L s.heap news) (ha : (l, listOf (strValues c).toArray n) ∈ news) (hb : (b, listOf (strValues d).toArray n2) ∈ news) (hz : c.length + d.length ≤ 50000)
    (h : ∀ D h', Fr h₀ L h' m → News h₀ L h' ((D, listOf (strValues (c ++ d)).toArray 0) :: news) → (∀ p ∈ news, p.1 < D) → Q (.ref D) { s with heap := h' }) :
    wpAny (model prog w) A (binaryOp .Add (.ref l) (.ref b)) Q E s := by
  refine add_lists F N (txt_list N ha) (txt_list N hb) (fun h' F' N' => h _ h' F' ?_ fun p hp => Heap.lt_size (N p hp).1) (small_len (by rw [sv_len, sv_len]; exact hz))
  have e : strValues (c ++ d) = strValues c ++ strValues d := by simp [strValues]
  rw [e]
  exact N'
theorem cons_texts {y : Str} {t : Tok} (F : Fr h₀ L s.heap m) (N : News h₀ L s.heap news) (ha : (l, listOf [Value.str y t].toArray n) ∈ news) (hb : (b, listOf (strValues d).toArray n2) ∈ news) (hz : d.length ≤ 40000)
    (h : ∀ D h', Fr h₀ L h' m → News h₀ L h' ((D, listOf (strValues ((y, t) :: d)).toArray 0) :: news) → (∀ p ∈ news, p.1 < D) → Q (.ref D) { s with heap := h' }) :
    wpAny (model prog w) A (binaryOp .Add (.ref l) (.ref b)) Q E s :=
  add_texts (c := [(y, t)]) F N ha hb (by simp; omega) h
theorem news_sub {h : Heap} {small : List (Addr × Obj)} (N : News h₀ L h news) (hs : ∀ p ∈ small, p ∈ news) : News h₀ L h small := fun p hp => N p (hs p hp)
theorem rep_foldl (y : Value) (k : Nat) : ∀ a : Array Value, List.foldl (fun x1 x2 => x1 ++ x2) a (List.replicate k #[y]) = a ++ (List.replicate k y).toArray := by
  induction k with
  | zero => intro a; simp
  | succ k ih => intro a; rw [List.replicate_succ, List.foldl_cons, ih, List.replicate_succ]; apply Array.toList_inj.mp; simp
theorem mul_texts {y : Str} {t u : Tok} {x : Int} (F : Fr h₀ L s.heap m) (N : News h₀ L s.heap news) (ha : (l, listOf [Value.str y t].toArray n) ∈ news) (h0 : 0 ≤ x) (hx : x ≤ 50000)
    (h : ∀ D h', Fr h₀ L h' m → News h₀ L h' ((D, listOf (strValues (List.replicate x.toNat (y, t))).toArray 0) :: news) → (∀ p ∈ news, p.1 < D) → Q (.ref D) { s with heap := h' }) :
    wpAny (model prog w) A (binaryOp .Mult (.ref l) (.int x u)) Q E s := by
  refine mul_list (items := [Value.str y t].toArray) F N (N _ ha).1 (by omega) (by omega) (by simp; omega) (fun h' F' N' => h _ h' F' ?_ fun p hp => Heap.lt_size (N p hp).1)
  have e : (strValues (List.replicate x.toNat (y, t))).toArray = List.foldl (fun x1 x2 => x1 ++ x2) #[] (List.replicate (if [Value.str y t].toArray.isEmpty = true then 0 else x.toNat) [Value.str y t].toArray) := by
    rw [if_neg (by simp)]
    show _ = List.foldl (fun x1 x2 => x1 ++ x2) #[] (List.replicate x.toNat #[Value.str y t])
    rw [rep_foldl]
    simp [strValues]
  rw [e]
  exact N'
theorem len_texts {us : List Value} (N : News h₀ L s.heap news) (ha : (l, listOf us.toArray n) ∈ news) (hz : us.length ≤ 50000) (h : ∀ t k, Q (.int us.length t) { s with toks := k }) : wpAny (model prog w) A (call (.builtin "len") [.ref l]) Q E s := by
  refine len_list (items := us.toArray) ⟨_, (N _ ha).1, rfl, _, rfl⟩ (by rw [List.size_toArray]; omega) ?_
  rw [List.size_toArray]
  exact h _ _
end
section
variable {prog : Program} {w : World} {A : Around} {h₀ : Heap} {L : Addr} {m : Str → Option Value} {env : Env} {elt : PySem.Expr} {x : Str} {scope : Scope} {cl : List (Str × Addr)} {s : Shared} {S : List (Addr × Obj) → Prop} {Fin : List Value → List (Addr × Obj) → Prop} {news : List (Addr × Obj)}
/-- a block over a list of texts, whose element is a text by g -/
theorem comp_texts {c : List (Str × Tok)} (g : Str → Str) (hS : S news)
    (turn : ∀ y t I oI C oC D m₂ ys h tk (E' : Value → Shared → Prop), (y, t) ∈ c → LCg.NsObj oC m₂ → m₂ x = some (.str y t) → Fr h₀ L h m → News h₀ L h ((I, oI) :: (C, oC) :: (D, LCg.lst ys) :: news) →
      wpAny (model prog w) A (eval elt (compEnvC scope cl C env)) (fun v s₂ => ∃ t' h' tk', v = .str (g y) t' ∧ s₂ = { s with heap := h', toks := tk' } ∧ Fr h₀ L h' m ∧ News h₀ L h' ((I, oI) :: (C, oC) :: (D, LCg.lst ys) :: news)) E' { s with heap := h, toks := tk })
    (fin : ∀ c', c'.map (·.1) = (c.map (·.1)).map g → Fin (strValues c') news) :
    LCg.CompRest prog w A h₀ L m env elt x scope cl s S (fun i v => (strValues c).toArray[i]? = some v) Fin (strValues c).toArray.size 0 [] news := by
  have hl : (strValues c).toArray.size = c.length := by rw [List.size_toArray, sv_len]
  rw [hl]
  have key : ∀ (j i : Nat) (ys : List Value), i + j = c.length → (∃ c', ys = strValues c' ∧ c'.map (·.1) = ((c.take i).map (·.1)).map g) → LCg.CompRest prog w A h₀ L m env elt x scope cl s S (fun i v => (strValues c).toArray[i]? = some v) Fin j i ys news := by
    intro j
    induction j with
    | zero =>
      rintro i ys hi ⟨c', rfl, hc'⟩
      have e : i = c.length := by omega
      subst e
      rw [List.take_length] at hc'
      exact LCg.CompRest.zero (fin c' hc')
    | succ j ih =>
      rintro i ys hi ⟨c', rfl, hc'⟩
      refine LCg.CompRest.succ ?_
      intro v I oI C oC D m₂ h tk E' hv hC hx F N off ne
      have hi' : i < c.length := by omega
      have hv' : v = .str c[i].1 c[i].2 := by
        simp only [strValues, List.getElem?_toArray, List.getElem?_map, List.getElem?_eq_getElem hi', Option.map_some] at hv
        exact (Option.some.inj hv).symm
      rw [hv'] at hx
      refine wpAny_mono (turn c[i].1 c[i].2 I oI C oC D m₂ _ h tk E' (List.getElem_mem hi') hC hx F N) (fun y s₂ hq => ?_) fun _ _ e => e
      obtain ⟨t', h', tk', rfl, rfl, F', N'⟩ := hq
      refine LCg.CompEnd.intro F' N' news (fun _ h => h) off hS ?_
      refine ih (i + 1) _ (by omega) ⟨c' ++ [(g c[i].1, t')], (sv_snoc _ _ _).symm, ?_⟩
      rw [List.take_add_one, List.getElem?_eq_getElem hi', List.map_append, List.map_append, List.map_append, hc']
      rfl
  exact key c.length 0 [] (by omega) ⟨[], rfl, rfl⟩
end
end Mine
end
section
namespace Mine
/-! the plain law, over lists of signs -/
def spl : List Nat → List Nat × List (List Nat)
  | [] => ([], [])
  | c :: r => if c = 47 then ([], (spl r).1 :: (spl r).2) else (c :: (spl r).1, (spl r).2)
def splitL (t : List Nat) : List (List Nat) := (spl t).1 :: (spl t).2
def interL : List (List Nat) → List Nat
  | [] => []
  | [p] => p
  | p :: q :: r => p ++ 47 :: interL (q :: r)
theorem spl_free (t : List Nat) : 47 ∉ (spl t).1 ∧ ∀ p ∈ (spl t).2, 47 ∉ p := by
  induction t with
  | nil => exact ⟨by simp [spl], by simp [spl]⟩
  | cons c r ih =>
    unfold spl
    split
    · refine ⟨by simp, fun p hp => ?_⟩
      rcases List.mem_cons.mp hp with rfl | hp
      · exact ih.1
      · exact ih.2 p hp
    · rename_i hc
      refine ⟨fun hm => ?_, ih.2⟩
      rcases List.mem_cons.mp hm with e | hm
      · exact hc e.symm
      · exact ih.1 hm
theorem splitL_free (t : List Nat) : ∀ p ∈ splitL t, 47 ∉ p := fun p hp => by
  rcases List.mem_cons.mp hp with rfl | hp
  · exact (spl_free t).1
  · exact (spl_free t).2 p hp
theorem spl_app (u v : List Nat) (h : 47 ∉ u) : spl (u ++ v) = (u ++ (spl v).1, (spl v).2) := by
  induction u with
  | nil => rfl
  | cons c r ih =>
    have hc : c ≠ 47 := fun e => h (e ▸ List.mem_cons_self)
    rw [List.cons_append, spl, if_neg hc, ih fun hm => h (List.mem_cons_of_mem _ hm)]
    rfl
theorem spl_slash (u v : List Nat) : spl (u ++ 47 :: v) = ((spl u).1, (spl u).2 ++ splitL v) := by
  induction u with
  | nil => simp [spl, splitL]
  | cons c r ih =>
    rw [List.cons_append, spl, spl, ih]
    split <;> rfl
theorem splitL_slash (u v : List Nat) : splitL (u ++ 47 :: v) = splitL u ++ splitL v := by
  unfold splitL
  rw [spl_slash]
  rfl
theorem split_inter : ∀ ps : List (List Nat), ps ≠ [] → (∀ p ∈ ps, 47 ∉ p) → splitL (interL ps) = ps
  | [], h, _ => absurd rfl h
  | [p], _, h => by
    have e := spl_app p [] (h p (.head _))
    rw [List.append_nil] at e
    unfold interL splitL
    rw [e]
    simp [spl]
  | p :: q :: r, _, h => by
    have ih := split_inter (q :: r) (by simp) fun x hx => h x (.tail _ hx)
    have e := spl_app p [] (h p (.head _))
    rw [List.append_nil] at e
    unfold interL
    rw [splitL_slash, ih]
    unfold splitL
    rw [e]
    simp [spl]
theorem one_47 (a : List Nat) : one a 47 = [47] := by simp [one]
theorem one_free {a : List Nat} {c : Nat} (h : c ≠ 47) : 47 ∉ one a c := by
  unfold one
  split
  · simp
  · split
    · simp
    · split
      · simpa using h.symm
      · simp
theorem spl_sent (t : List Nat) : ∀ a, spl (sentL a t) = (sentL a (spl t).1, (spl t).2.map (sentL [47])) := by
  induction t with
  | nil => intro a; rfl
  | cons c r ih =>
    intro a
    by_cases hc : c = 47
    · subst hc
      rw [sentL, one_47, spl, if_pos rfl]
      show spl (47 :: sentL [47] r) = _
      rw [spl, if_pos rfl, ih]
      rfl
    · rw [sentL, spl_app _ _ (one_free hc), ih, spl, if_neg hc]
      rfl
theorem sent_slash (u v : List Nat) : ∀ a, sentL a (u ++ 47 :: v) = sentL a u ++ 47 :: sentL [47] v := by
  induction u with
  | nil => intro a; simp [sentL, one_47]
  | cons c r ih => intro a; rw [List.cons_append, sentL, sentL, ih, List.append_assoc]
theorem sent_free {t : List Nat} (h : 47 ∉ t) : ∀ a, 47 ∉ sentL a t := by
  induction t with
  | nil => intro a; simp [sentL]
  | cons c r ih =>
    intro a hm
    rw [sentL] at hm
    rcases List.mem_append.mp hm with hm | hm
    · exact one_free (fun e => h (e ▸ List.mem_cons_self)) hm
    · exact ih (fun hm => h (List.mem_cons_of_mem _ hm)) _ hm
/-- a name: not nothing, no slash in it, not one dot nor two -/
def Good (n : List Nat) : Prop := n ≠ [] ∧ 47 ∉ n ∧ n ≠ [46] ∧ n ≠ [46, 46]
/-- what a sign ahead of which is nothing or a slash is sent as -/
theorem one_first {a : List Nat} (ha : a = [] ∨ a = [47]) (c : Nat) : one a c = if c = 13 ∨ c = 10 then [13, 10] else if c = 46 ∧ a = [] then [46, 46] else [c] := by
  unfold one
  rcases ha with rfl | rfl
  · by_cases h1 : c = 13
    · simp [h1]
    · by_cases h2 : c = 10
      · simp [h2]
      · by_cases h3 : c = 46 <;> simp [h1, h2, h3]
  · by_cases h1 : c = 13
    · simp [h1]
    · by_cases h2 : c = 10
      · simp [h2]
      · simp [h1, h2]
theorem one_ne {a : List Nat} (ha : a ≠ [13]) (c : Nat) : ∃ d r, one a c = d :: r := by
  unfold one
  by_cases h1 : c = 13 ∨ (c = 10 ∧ a ≠ [13])
  · rw [if_pos h1]; exact ⟨_, _, rfl⟩
  · rw [if_neg h1]
    split
    · exact ⟨_, _, rfl⟩
    · rw [if_pos (fun e => h1 (.inr ⟨e, ha⟩))]; exact ⟨_, _, rfl⟩
theorem sent_ne {a : List Nat} (ha : a ≠ [13]) {t : List Nat} (h : t ≠ []) : sentL a t ≠ [] := by
  cases t with
  | nil => exact absurd rfl h
  | cons c r =>
    obtain ⟨d, q, e⟩ := one_ne ha c
    rw [sentL, e]
    simp
theorem good_sent {a : List Nat} (ha : a = [] ∨ a = [47]) {n : List Nat} (h : Good n) : Good (sentL a n) := by
  obtain ⟨h1, h2, h3, h4⟩ := h
  have ha' : a ≠ [13] := by rcases ha with rfl | rfl <;> simp
  refine ⟨sent_ne ha' h1, sent_free h2 a, ?_, ?_⟩
  · cases n with
    | nil => exact absurd rfl h1
    | cons c r =>
      rw [sentL, one_first ha]
      intro e
      split at e
      · cases e
      · split at e
        · cases e
        · rename_i hc _
          injection e with e1 e2
          have hr : r = [] := Classical.byContradiction fun hr => sent_ne (a := [c]) (by intro q; injection q with q; omega) hr e2
          subst hr
          exact h3 (by rw [e1])
  · cases n with
    | nil => exact absurd rfl h1
    | cons c r =>
      rw [sentL, one_first ha]
      intro e
      split at e
      · cases e
      · split at e
        · rename_i hc hd
          have e2 : sentL [c] r = [] := by simpa using e
          have hr : r = [] := Classical.byContradiction fun hr => sent_ne (a := [c]) (by intro q; injection q with q; omega) hr e2
          subst hr
          exact h3 (by rw [hd.1])
        · rename_i hc _
          injection e with e1 e2
          cases r with
          | nil => cases e2
          | cons d q =>
            rw [sentL, e1] at e2
            obtain ⟨x, y, ed⟩ := one_ne (a := [46]) (by simp) d
            rw [ed] at e2
            injection e2 with e3 e4
            subst e3
            have hd : d = 46 := by
              unfold one at ed
              split at ed
              · cases ed
              · split at ed
                · rename_i h; exact h.1
                · split at ed
                  · injection ed
                  · cases ed
            subst hd
            have ey : y = [] := by
              cases y with
              | nil => rfl
              | cons _ _ => cases e4
            subst ey
            have e5 : sentL [46] q = [] := by simpa using e4
            have hq : q = [] := Classical.byContradiction fun hq => sent_ne (a := [46]) (by simp) hq e5
            subst hq
            exact h4 (by rw [e1])
theorem head_sent {a : List Nat} (ha : a = [] ∨ a = [47]) {t : List Nat} (h : t.head? ≠ some 47) : (sentL a t).head? ≠ some 47 := by
  cases t with
  | nil => simp [sentL]
  | cons c r =>
    have hc : c ≠ 47 := fun e => h (by rw [e]; rfl)
    rw [sentL, one_first ha]
    split
    · simp
    · split
      · simp
      · simpa using hc
/-! normpath's fold, and the fold from the right -/
def nstepL (b : Bool) (st : List (List Nat)) (c : List Nat) : List (List Nat) :=
  if c = [] ∨ c = [46] then st else if c ≠ [46, 46] ∨ (b = false ∧ st = []) ∨ st.getLast? = some [46, 46] then st ++ [c] else st.dropLast
def hstepL (st : Int × List (List Nat)) (p : List Nat) : Int × List (List Nat) :=
  if p = [46, 46] then (st.1 + 1, st.2) else if p = [] ∨ p = [46] then st else if 0 < st.1 then (st.1 - 1, st.2) else (st.1, p :: st.2)
def ups (s : Int) : List (List Nat) := List.replicate s.toNat [46, 46]
theorem ups_succ {s : Int} (h : 0 ≤ s) : ups (s + 1) = [46, 46] :: ups s := by
  unfold ups
  rw [show (s + 1).toNat = s.toNat + 1 by omega, List.replicate_succ]
theorem h_pos {s : Int} {N : List (List Nat)} {p : List Nat} (h : 0 ≤ s) : 0 ≤ (hstepL (s, N) p).1 := by
  unfold hstepL
  split
  · show 0 ≤ s + 1; omega
  · split
    · exact h
    · split
      · show 0 ≤ s - 1; omega
      · exact h
theorem n_one {b : Bool} {st : List (List Nat)} {s : Int} {N : List (List Nat)} {p : List Nat} (h : 0 ≤ s) :
    (p :: (ups s ++ N)).foldl (nstepL b) st = (ups (hstepL (s, N) p).1 ++ (hstepL (s, N) p).2).foldl (nstepL b) st := by
  unfold hstepL
  by_cases h1 : p = [46, 46]
  · rw [if_pos h1, h1]
    show _ = (ups (s + 1) ++ N).foldl (nstepL b) st
    rw [ups_succ h, List.cons_append]
  · rw [if_neg h1]
    by_cases h2 : p = [] ∨ p = [46]
    · rw [if_pos h2, List.foldl_cons]
      congr 1
      unfold nstepL
      rw [if_pos h2]
    · rw [if_neg h2]
      by_cases h3 : 0 < s
      · rw [if_pos h3]
        show _ = (ups (s - 1) ++ N).foldl (nstepL b) st
        have e := ups_succ (s := s - 1) (by omega)
        rw [show s - 1 + 1 = s by omega] at e
        rw [e, List.cons_append, List.foldl_cons, List.foldl_cons]
        congr 1
        have e1 : nstepL b st p = st ++ [p] := by unfold nstepL; rw [if_neg h2, if_pos (.inl h1)]
        rw [e1]
        unfold nstepL
        rw [if_neg (by simp), if_neg (by simp [h1])]
        simp
      · rw [if_neg h3]
        have : s = 0 := by omega
        subst this
        rfl
theorem n_all {b : Bool} (P : List (List Nat)) {s : Int} {N : List (List Nat)} (h : 0 ≤ s) : ∀ st,
    0 ≤ (P.reverse.foldl hstepL (s, N)).1 ∧ (P ++ (ups s ++ N)).foldl (nstepL b) st = (ups (P.reverse.foldl hstepL (s, N)).1 ++ (P.reverse.foldl hstepL (s, N)).2).foldl (nstepL b) st := by
  induction P with
  | nil => intro st; exact ⟨h, rfl⟩
  | cons p P ih =>
    intro st
    rw [List.reverse_cons, List.foldl_append, List.foldl_cons, List.foldl_nil]
    have i1 := (ih st).1
    generalize hq : P.reverse.foldl hstepL (s, N) = q at ih i1
    obtain ⟨s', N'⟩ := q
    refine ⟨h_pos i1, ?_⟩
    rw [List.cons_append, List.foldl_cons, (ih _).2, ← n_one i1, List.foldl_cons]
theorem good_fold (P : List (List Nat)) (hP : ∀ p ∈ P, 47 ∉ p) {s : Int} {N : List (List Nat)} (hN : ∀ n ∈ N, Good n) : ∀ n ∈ (P.foldl hstepL (s, N)).2, Good n := by
  induction P generalizing s N with
  | nil => exact hN
  | cons p P ih =>
    rw [List.foldl_cons]
    have hg : ∀ n ∈ (hstepL (s, N) p).2, Good n := by
      unfold hstepL
      split
      · exact hN
      · rename_i h1
        split
        · exact hN
        · rename_i h2
          split
          · exact hN
          · intro n hn
            rcases List.mem_cons.mp hn with rfl | hn
            · exact ⟨fun e => h2 (.inl e), hP _ (.head _), fun e => h2 (.inr e), h1⟩
            · exact hN n hn
    exact ih (fun q hq => hP q (.tail _ hq)) (s := (hstepL (s, N) p).1) (N := (hstepL (s, N) p).2) hg
theorem n_names {b : Bool} {N : List (List Nat)} (hN : ∀ n ∈ N, Good n) : ∀ st, N.foldl (nstepL b) st = st ++ N := by
  induction N with
  | nil => intro st; simp
  | cons n N ih =>
    intro st
    obtain ⟨h1, _, h3, h4⟩ := hN n (.head _)
    have e : nstepL b st n = st ++ [n] := by unfold nstepL; rw [if_neg (by simp [h1, h3]), if_pos (.inl h4)]
    rw [List.foldl_cons, e, ih fun x hx => hN x (.tail _ hx)]
    simp
theorem n_ups_free (k : Nat) : ∀ j, (List.replicate k [46, 46]).foldl (nstepL false) (List.replicate j [46, 46]) = List.replicate (j + k) [46, 46] := by
  induction k with
  | zero => intro j; rfl
  | succ k ih =>
    intro j
    rw [List.replicate_succ, List.foldl_cons]
    have e : nstepL false (List.replicate j [46, 46]) [46, 46] = List.replicate (j + 1) [46, 46] := by
      unfold nstepL
      rw [if_neg (by simp), if_pos, List.replicate_succ']
      cases j with
      | zero => exact .inr (.inl ⟨rfl, rfl⟩)
      | succ j => exact .inr (.inr (by rw [List.replicate_succ']; simp))
    rw [e, ih]
    congr 1
    omega
theorem n_ups_root (k : Nat) : (List.replicate k [46, 46]).foldl (nstepL true) [] = [] := by
  induction k with
  | zero => rfl
  | succ k ih =>
    rw [List.replicate_succ, List.foldl_cons]
    exact ih
theorem n_end {b : Bool} {s : Int} {N : List (List Nat)} (hN : ∀ n ∈ N, Good n) : (ups s ++ N).foldl (nstepL b) [] = if b = true then N else ups s ++ N := by
  rw [List.foldl_append]
  cases b with
  | true =>
    unfold ups
    rw [n_ups_root, n_names hN]
    rfl
  | false =>
    have e : (ups s).foldl (nstepL false) [] = ups s := by
      unfold ups
      have := n_ups_free s.toNat 0
      rw [Nat.zero_add] at this
      exact this
    rw [e, n_names hN]
    rfl
/-! what is shown -/
def orDot (t : List Nat) : List Nat := if t = [] then [46] else t
def showL (r : List Nat) (s : Int) (ns : List (List Nat)) : List Nat := orDot (r ++ interL (ups s ++ ns))
/-- what normpath makes of a text, its root and its rest told apart -/
def normL (r x : List Nat) : List Nat := orDot (r ++ interL ((splitL x).foldl (nstepL (!r.isEmpty)) []))
def Root (r : List Nat) : Prop := r = [] ∨ r = [47] ∨ r = [47, 47]
theorem norm_show {r X : List Nat} {P : List (List Nat)} {s : Int} {N : List (List Nat)} (h : 0 ≤ s) (hP : ∀ p ∈ P, 47 ∉ p) (hN : ∀ n ∈ N, Good n)
    (e : (splitL X).foldl (nstepL (!r.isEmpty)) [] = (P ++ (ups s ++ N)).foldl (nstepL (!r.isEmpty)) []) :
    normL r X = showL r (if r = [] then (P.reverse.foldl hstepL (s, N)).1 else 0) (P.reverse.foldl hstepL (s, N)).2 := by
  have hg := good_fold P.reverse (fun p hp => hP p (List.mem_reverse.mp hp)) (s := s) hN
  unfold normL showL
  rw [e, (n_all P h []).2, n_end hg]
  cases r with
  | nil => rfl
  | cons a b => rfl
theorem inter_len : ∀ ps : List (List Nat), (ps.map (·.length)).sum + ps.length ≤ (interL ps).length + 1
  | [] => by simp [interL]
  | [p] => by simp [interL]
  | p :: q :: r => by
    have := inter_len (q :: r)
    simp only [interL, List.map_cons, List.sum_cons, List.length_append, List.length_cons] at this ⊢
    omega
theorem inter_head {p : List Nat} {ps : List (List Nat)} (h : p ≠ []) : (interL (p :: ps)).head? = p.head? := by
  cases p with
  | nil => exact absurd rfl h
  | cons c q =>
    cases ps with
    | nil => rfl
    | cons a b => rfl
/-- a path's pieces, as sent behind a slash -/
theorem sent_pieces {ps : List (List Nat)} (hne : ps ≠ []) (h : ∀ p ∈ ps, 47 ∉ p) : splitL (sentL [47] (interL ps)) = ps.map (sentL [47]) := by
  have e := split_inter ps hne h
  unfold splitL at e ⊢
  rw [spl_sent]
  cases ps with
  | nil => exact absurd rfl hne
  | cons a b =>
    injection e with e1 e2
    rw [e1, e2]
    rfl
theorem sent_pieces0 {p : List Nat} {ps : List (List Nat)} (h : ∀ q ∈ p :: ps, 47 ∉ q) : splitL (sentL [] (interL (p :: ps))) = sentL [] p :: ps.map (sentL [47]) := by
  have e := split_inter (p :: ps) (by simp) h
  unfold splitL at e ⊢
  rw [spl_sent]
  injection e with e1 e2
  rw [e1, e2]
theorem sent_ups (s : Int) : (ups s).map (sentL [47]) = ups s := by
  unfold ups
  rw [List.map_replicate]
  rfl
theorem ups_free (s : Int) : ∀ p ∈ ups s, 47 ∉ p := fun p hp => by
  rw [(List.mem_replicate.mp hp).2]; simp
theorem comps_free {s : Int} {ns : List (List Nat)} (hN : ∀ n ∈ ns, Good n) : ∀ p ∈ ups s ++ ns, 47 ∉ p := fun p hp => by
  rcases List.mem_append.mp hp with hp | hp
  · exact ups_free s p hp
  · exact (hN p hp).2.1
/-- the path behind a slash, folded -/
theorem path_fold {b : Bool} {s : Int} {ns : List (List Nat)} (hN : ∀ n ∈ ns, Good n) (st : List (List Nat)) :
    (splitL (sentL [47] (showL [] s ns))).foldl (nstepL b) st = (ups s ++ ns.map (sentL [47])).foldl (nstepL b) st := by
  unfold showL orDot
  rw [List.nil_append]
  by_cases hc : ups s ++ ns = []
  · rw [hc]
    have h1 : ups s = [] := (List.append_eq_nil_iff.mp hc).1
    have h2 : ns = [] := (List.append_eq_nil_iff.mp hc).2
    rw [h1, h2]
    rfl
  · have hp := sent_pieces hc (comps_free hN)
    rw [List.map_append, sent_ups] at hp
    have hne : interL (ups s ++ ns) ≠ [] := by
      intro e
      cases h : ups s ++ ns with
      | nil => exact hc h
      | cons p ps =>
        have hp' : p ≠ [] := by
          have hm : p ∈ ups s ++ ns := by rw [h]; exact .head _
          rcases List.mem_append.mp hm with hm | hm
          · rw [(List.mem_replicate.mp hm).2]; simp
          · exact (hN p hm).1
        have := inter_head (ps := ps) hp'
        rw [← h, e] at this
        cases p with
        | nil => exact hp' rfl
        | cons _ _ => cases this
    rw [if_neg hne, hp]
theorem path_head {s : Int} {ns : List (List Nat)} (hN : ∀ n ∈ ns, Good n) : (showL [] s ns).head? ≠ some 47 ∧ showL [] s ns ≠ [] := by
  unfold showL orDot
  rw [List.nil_append]
  split
  · exact ⟨by simp, by simp⟩
  · rename_i hne
    refine ⟨?_, hne⟩
    cases h : ups s ++ ns with
    | nil => simp [interL]
    | cons p ps =>
      have hm : p ∈ ups s ++ ns := by rw [h]; exact .head _
      have hp' : p ≠ [] ∧ 47 ∉ p := by
        rcases List.mem_append.mp hm with hm | hm
        · rw [(List.mem_replicate.mp hm).2]; simp
        · exact ⟨(hN p hm).1, (hN p hm).2.1⟩
      rw [inter_head hp'.1]
      cases p with
      | nil => exact absurd rfl hp'.1
      | cons c q =>
        intro e
        exact hp'.2 (by injection e with e; rw [e]; exact List.mem_cons_self)
end Mine
end
section
namespace Mine
def joinL (p x : List Nat) : List Nat := if x.head? = some 47 then x else if p = [] then x else if p.getLast? = some 47 then p ++ x else p ++ 47 :: x
def rootL (p : List Nat) : List Nat := p.takeWhile (· == 47)
def foldL (p : List Nat) (s : Int) (ns : List (List Nat)) : Int × List (List Nat) := (splitL (sentL [] p)).reverse.foldl hstepL (s, ns)
def tailL (p : List Nat) (s : Int) (ns : List (List Nat)) : List Nat × Int × List (List Nat) := (rootL p, if rootL p = [] then (foldL p s ns).1 else 0, (foldL p s ns).2)
def handL (r : List Nat) (s : Int) (ns : List (List Nat)) (p : List Nat) : List Nat × Int × List (List Nat) :=
  if r ≠ [] then (r, 0, ns.map (sentL [47]))
  else if p = [] then if s = 0 then ([], 1 - ((ns.take 1).length : Int), (ns.take 1).map (sentL []) ++ (ns.map (sentL [47])).drop 1) else tailL [46, 46] (s - 1) (ns.map (sentL [47]))
  else tailL p s (ns.map (sentL [47]))
/-- a state: root, steps, names -/
def Sound (q : List Nat × Int × List (List Nat)) : Prop := Root q.1 ∧ (q.1 = [] ∨ q.2.1 = 0) ∧ 0 ≤ q.2.1 ∧ ∀ n ∈ q.2.2, Good n
/-- what a hand is asked: its text begins with a root, and normpath makes of it what is told -/
def Told (y : List Nat) (q : List Nat × Int × List (List Nat)) : Prop :=
  ∃ R rest, y = R ++ rest ∧ Root R ∧ rest.head? ≠ some 47 ∧ y ≠ [] ∧ normL R y = showL q.1 q.2.1 q.2.2
theorem split_root {r t : List Nat} {b : Bool} {st : List (List Nat)} (hr : Root r) : (splitL (r ++ t)).foldl (nstepL b) st = (splitL t).foldl (nstepL b) st := by
  rcases hr with rfl | rfl | rfl
  · rfl
  · show (splitL ([] ++ 47 :: t)).foldl (nstepL b) st = _
    rw [splitL_slash]
    rfl
  · show (splitL ([] ++ 47 :: ([] ++ 47 :: t))).foldl (nstepL b) st = _
    rw [splitL_slash, splitL_slash]
    rfl
theorem sent_root {r t : List Nat} (hr : Root r) (h : r ≠ []) : sentL [] (r ++ t) = r ++ sentL [47] t := by
  rcases hr with rfl | rfl | rfl
  · exact absurd rfl h
  · simp [sentL, one_47]
  · simp [sentL, one_47]
theorem sent_begins {r t : List Nat} (hr : Root r) (h : t.head? ≠ some 47) : ∃ rest, sentL [] (r ++ t) = r ++ rest ∧ rest.head? ≠ some 47 := by
  by_cases hz : r = []
  · subst hz
    exact ⟨sentL [] t, rfl, head_sent (.inl rfl) h⟩
  · exact ⟨sentL [47] t, sent_root hr hz, head_sent (.inr rfl) h⟩
theorem good_map {ns : List (List Nat)} (hN : ∀ n ∈ ns, Good n) : ∀ n ∈ ns.map (sentL [47]), Good n := fun n hn => by
  obtain ⟨m, hm, rfl⟩ := List.mem_map.mp hn
  exact good_sent (.inr rfl) (hN m hm)
theorem hand_rooted {r : List Nat} {ns : List (List Nat)} {p : List Nat} (hr : Root r) (hz : r ≠ []) (hN : ∀ n ∈ ns, Good n) :
    Told (sentL [] (joinL p (showL r 0 ns))) (r, 0, ns.map (sentL [47])) := by
  have hp : showL r 0 ns = r ++ interL ns := by
    unfold showL orDot
    rw [if_neg (by simp [hz])]
    rfl
  have hh : (showL r 0 ns).head? = some 47 := by
    rw [hp]
    rcases hr with rfl | rfl | rfl
    · exact absurd rfl hz
    · rfl
    · rfl
  have hj : joinL p (showL r 0 ns) = r ++ interL ns := by unfold joinL; rw [if_pos hh, hp]
  rw [hj, sent_root hr hz]
  have hi : (interL ns).head? ≠ some 47 := by
    cases ns with
    | nil => simp [interL]
    | cons a b =>
      obtain ⟨h1, h2, _⟩ := hN a (.head _)
      rw [inter_head h1]
      cases a with
      | nil => exact absurd rfl h1
      | cons c q => intro e; exact h2 (by injection e with e; rw [e]; exact List.mem_cons_self)
  refine ⟨r, sentL [47] (interL ns), rfl, hr, head_sent (.inr rfl) hi, by simp [hz], ?_⟩
  have h := norm_show (r := r) (X := r ++ sentL [47] (interL ns)) (P := []) (s := 0) (N := ns.map (sentL [47])) (by omega) (by simp) (good_map hN) (by
    rw [split_root hr]
    cases ns with
    | nil => rfl
    | cons a b => rw [sent_pieces (by simp) fun q hq => (hN q hq).2.1]; rfl)
  rw [h, if_neg hz]
  rfl
theorem tail_sound {p : List Nat} {s : Int} {ns : List (List Nat)} (hR : Root (rootL p)) (h0 : 0 ≤ s) (hN : ∀ n ∈ ns, Good n) : Sound (tailL p s ns) := by
  refine ⟨hR, ?_, ?_, ?_⟩
  · by_cases h : rootL p = []
    · exact .inl h
    · refine .inr ?_
      unfold tailL
      rw [if_neg h]
  · unfold tailL
    show 0 ≤ (if rootL p = [] then (foldL p s ns).1 else 0)
    split
    · exact (n_all (b := false) (splitL (sentL [] p)) h0 []).1
    · omega
  · exact good_fold _ (fun q hq => splitL_free _ q (List.mem_reverse.mp hq)) hN
theorem rest_of (p : List Nat) : ∃ p1, p = rootL p ++ p1 ∧ p1.head? ≠ some 47 := by
  induction p with
  | nil => exact ⟨[], rfl, by simp⟩
  | cons c r ih =>
    unfold rootL
    by_cases hc : c = 47
    · subst hc
      obtain ⟨p1, e, h⟩ := ih
      refine ⟨p1, ?_, h⟩
      rw [List.takeWhile_cons, if_pos (by decide)]
      show 47 :: r = 47 :: (rootL r ++ p1)
      rw [← e]
    · refine ⟨c :: r, ?_, by simpa using hc⟩
      rw [List.takeWhile_cons, if_neg (by simpa using hc)]
      rfl
theorem last_slash {p : List Nat} (h : p.getLast? = some 47) : ∃ u, p = u ++ [47] := by
  cases hr : p.reverse with
  | nil => rw [List.reverse_eq_nil_iff.mp hr] at h; cases h
  | cons c q =>
    have e : p = q.reverse ++ [c] := by rw [← List.reverse_reverse p, hr, List.reverse_cons]
    subst e
    have : c = 47 := by simpa using h
    exact ⟨q.reverse, by rw [this]⟩
theorem root_last {r : List Nat} (hr : Root r) (hz : r ≠ []) : r.getLast? = some 47 := by
  rcases hr with rfl | rfl | rfl
  · exact absurd rfl hz
  · rfl
  · rfl
theorem hand_part {s : Int} {ns : List (List Nat)} {p : List Nat} (hp : p ≠ []) (hR : Root (rootL p)) (h0 : 0 ≤ s) (hN : ∀ n ∈ ns, Good n) :
    Told (sentL [] (joinL p (showL [] s ns))) (tailL p s (ns.map (sentL [47]))) := by
  obtain ⟨hh, hne⟩ := path_head (s := s) hN
  obtain ⟨p1, e1, hp1⟩ := rest_of p
  have hbeg : ∃ t, joinL p (showL [] s ns) = rootL p ++ t ∧ t.head? ≠ some 47 := by
    unfold joinL
    rw [if_neg hh, if_neg hp]
    by_cases hz : p1 = []
    · rw [hz, List.append_nil] at e1
      have hl : p.getLast? = some 47 := by rw [e1]; exact root_last hR (by rw [← e1]; exact hp)
      rw [if_pos hl]
      exact ⟨showL [] s ns, by rw [← e1], hh⟩
    · have hd : ∀ w : List Nat, (p1 ++ w).head? = p1.head? := fun w => by
        cases p1 with
        | nil => exact absurd rfl hz
        | cons _ _ => rfl
      split
      · exact ⟨p1 ++ showL [] s ns, by rw [← List.append_assoc, ← e1], by rw [hd]; exact hp1⟩
      · exact ⟨p1 ++ 47 :: showL [] s ns, by rw [← List.append_assoc, ← e1], by rw [hd]; exact hp1⟩
  have hjne : joinL p (showL [] s ns) ≠ [] := by
    unfold joinL
    rw [if_neg hh, if_neg hp]
    split <;> simp [hp]
  obtain ⟨t, et, ht⟩ := hbeg
  obtain ⟨rest, er, hrest⟩ := sent_begins hR ht
  have hP : ∃ P, (∀ q ∈ P, 47 ∉ q) ∧ P.reverse.foldl hstepL (s, ns.map (sentL [47])) = foldL p s (ns.map (sentL [47])) ∧
      ∀ b, (splitL (sentL [] (joinL p (showL [] s ns)))).foldl (nstepL b) [] = (P ++ (ups s ++ ns.map (sentL [47]))).foldl (nstepL b) [] := by
    unfold joinL
    rw [if_neg hh, if_neg hp]
    by_cases hl : p.getLast? = some 47
    · rw [if_pos hl]
      obtain ⟨u, rfl⟩ := last_slash hl
      refine ⟨splitL (sentL [] u), splitL_free _, ?_, fun b => ?_⟩
      · unfold foldL
        have e2 : sentL [] (u ++ [47]) = sentL [] u ++ 47 :: sentL [47] [] := sent_slash u [] []
        rw [e2, splitL_slash, List.reverse_append, List.foldl_append]
        rfl
      · rw [List.append_assoc]
        show (splitL (sentL [] (u ++ 47 :: showL [] s ns))).foldl (nstepL b) [] = _
        rw [sent_slash, splitL_slash, List.foldl_append, path_fold hN, ← List.foldl_append]
    · rw [if_neg hl]
      refine ⟨splitL (sentL [] p), splitL_free _, rfl, fun b => ?_⟩
      rw [sent_slash, splitL_slash, List.foldl_append, path_fold hN, ← List.foldl_append]
  obtain ⟨P, hPf, hPe, hPb⟩ := hP
  refine ⟨rootL p, rest, by rw [et, er], hR, hrest, sent_ne (by simp) hjne, ?_⟩
  rw [norm_show h0 hPf (good_map hN) (hPb _), hPe]
  rfl
theorem hand_none {s : Int} {ns : List (List Nat)} (h0 : 0 ≤ s) (hN : ∀ n ∈ ns, Good n) : Told (sentL [] (joinL [] (showL [] s ns))) (handL [] s ns []) ∧ Sound (handL [] s ns []) := by
  obtain ⟨hh, hne⟩ := path_head (s := s) hN
  have hj : joinL [] (showL [] s ns) = showL [] s ns := by unfold joinL; rw [if_neg hh, if_pos rfl]
  rw [hj]
  have hy : sentL [] (showL [] s ns) ≠ [] := sent_ne (by simp) hne
  have hyh : (sentL [] (showL [] s ns)).head? ≠ some 47 := head_sent (.inl rfl) hh
  have start : ∀ q, normL [] (sentL [] (showL [] s ns)) = showL q.1 q.2.1 q.2.2 → Told (sentL [] (showL [] s ns)) q := fun q h => ⟨[], _, rfl, .inl rfl, hyh, hy, h⟩
  unfold handL
  rw [if_neg (by simp), if_pos rfl]
  by_cases hs : s = 0
  · rw [if_pos hs]
    subst hs
    cases ns with
    | nil => exact ⟨start _ (by decide), .inl rfl, .inl rfl, by decide, by simp⟩
    | cons n nr =>
      have hn := hN n (.head _)
      have hp : showL [] 0 (n :: nr) = interL (n :: nr) := by
        unfold showL orDot
        rw [if_neg]
        · rfl
        · intro e
          have e2 : interL (n :: nr) = [] := e
          have := inter_head (ps := nr) hn.1
          rw [e2] at this
          cases n with
          | nil => exact hn.1 rfl
          | cons _ _ => cases this
      have hg : ∀ m ∈ sentL [] n :: nr.map (sentL [47]), Good m := fun m hm => by
        rcases List.mem_cons.mp hm with rfl | hm
        · exact good_sent (.inl rfl) hn
        · exact good_map (fun x hx => hN x (.tail _ hx)) m hm
      have h := norm_show (r := []) (X := sentL [] (showL [] 0 (n :: nr))) (P := []) (s := 0) (N := sentL [] n :: nr.map (sentL [47])) (by omega) (by simp) hg (by
        rw [hp, sent_pieces0 fun q hq => (hN q hq).2.1]
        rfl)
      exact ⟨start _ h, .inl rfl, .inl rfl, Int.le_refl 0, hg⟩
  · rw [if_neg hs]
    have hs' : 0 ≤ s - 1 := by omega
    refine ⟨start _ ?_, tail_sound (.inl rfl) hs' (good_map hN)⟩
    have hu : ups s = [46, 46] :: ups (s - 1) := by
      have := ups_succ hs'
      rw [show s - 1 + 1 = s by omega] at this
      exact this
    have hp : showL [] s ns = interL ([46, 46] :: (ups (s - 1) ++ ns)) := by
      unfold showL orDot
      rw [hu, List.cons_append, List.nil_append, if_neg]
      intro e
      have := inter_head (p := [46, 46]) (ps := ups (s - 1) ++ ns) (by simp)
      rw [e] at this
      cases this
    have h := norm_show (r := []) (X := sentL [] (showL [] s ns)) (P := [[46, 46, 46]]) (s := s - 1) (N := ns.map (sentL [47])) hs' (by simp) (good_map hN) (by
      rw [hp, sent_pieces0 (fun q hq => by
        rcases List.mem_cons.mp hq with rfl | hq
        · simp
        · exact comps_free hN q hq), List.map_append, sent_ups]
      rfl)
    rw [h]
    rfl
theorem hand_all {r : List Nat} {s : Int} {ns : List (List Nat)} {p : List Nat} (h : Sound (r, s, ns)) (hR : Root (rootL p)) :
    Told (sentL [] (joinL p (showL r s ns))) (handL r s ns p) ∧ Sound (handL r s ns p) := by
  obtain ⟨hr, hrs, h0, hN⟩ := h
  dsimp only at hr hrs h0 hN
  by_cases hz : r = []
  · subst hz
    by_cases hp : p = []
    · subst hp
      exact hand_none h0 hN
    · have e : handL [] s ns p = tailL p s (ns.map (sentL [47])) := by unfold handL; rw [if_neg (by simp), if_neg hp]
      rw [e]
      exact ⟨hand_part hp hR h0 hN, tail_sound hR h0 (good_map hN)⟩
  · have hs : s = 0 := hrs.resolve_left hz
    subst hs
    have e : handL r 0 ns p = (r, 0, ns.map (sentL [47])) := by unfold handL; rw [if_pos hz]
    rw [e]
    exact ⟨hand_rooted hr hz hN, hr, .inr rfl, Int.le_refl 0, good_map hN⟩
end Mine
end
section
open PySem PySem.W PyProof.Rows PySem.Calls
set_option maxRecDepth 100000
set_option maxHeartbeats 0
namespace Mine
local macro_rules | `(tactic| walk_at "none at all") => `(tactic| fail "none")
local macro_rules | `(tactic| walk_at "none at all") => `(tactic| fail "none")
local macro_rules | `(tactic| walk_at "none at all") => `(tactic| fail "none")
local macro_rules | `(tactic| walk_at "none at all") => `(tactic| fail "none")
local macro_rules | `(tactic| walk_at "none at all") => `(tactic| fail "none")
local macro_rules | `(tactic| walk_at "none at all") => `(tactic| fail "none")
local macro_rules | `(tactic| walk_at "none at all") => `(tactic| fail "none")
local macro_rules | `(tactic| walk_at "none at all") => `(tactic| fail "none")
local macro_rules | `(tactic| walk_at "none at all") => `(tactic| fail "none")
local macro_rules | `(tactic| walk_at "none at all") => `(tactic| fail "none")
local macro_rules | `(tactic| walk_at "none at all") => `(tactic| fail "none")
local macro_rules | `(tactic| walk_at "none at all") => `(tactic| fail "none")
local macro_rules | `(tactic| walk_at "none at all") => `(tactic| fail "none")
local macro_rules | `(tactic| walk_at "none at all") => `(tactic| fail "none")
local macro_rules | `(tactic| walk_at "none at all") => `(tactic| fail "none")
local macro_rules | `(tactic| walk_at "none at all") => `(tactic| fail "none")
local macro_rules | `(tactic| walk_at "none at all") => `(tactic| fail "none")
local macro_rules | `(tactic| walk_at "none at all") => `(tactic| fail "none")
local macro_rules | `(tactic| walk_at "none at all") => `(tactic| fail "none")
local macro_rules | `(tactic| walk_at "m1") => `(tactic| (first | (k_unfold; (try dsimp only)) | ((with_reducible show wpAny _ _ _ _ _ _); walk1) | ((with_reducible show LeaveK _ _ _ _ _ _ _); walk1) | ((with_reducible show _ ∧ _); walk1) | ((with_reducible show (if _ then _ else _)); walk1) | ((with_reducible show wpAny _ _ _ _ _ _); dsimp only; walk1)))
local macro_rules | `(tactic| k_steps) => `(tactic| repeat' (walk_at "m1"))
local macro_rules | `(tactic| ktr_rel) => `(tactic| first | exact fun _ h => h | (intro p hp; simp only [List.mem_cons, List.mem_append, hp, or_true, true_or]))
local macro_rules | `(tactic| walk_at "call builtin:issubclass") => `(tactic| (k_here; (with_reducible show wpAny _ _ (call (Value.builtin "issubclass") [Value.type "str", Value.ref _]) _ _ _); k_dflt (refine' issub_tuple ?k1 ?_; (case k1 => exact (News.get (by k_asm) (by k_mem))))))
theorem fspath_says (w : World) (mean : ExcName → Option Value) (mg mb : Str → Option Value) (x : Str) (tx : Tok) :
    Says w mean mg mb 1 111 (fun _ => True) [.str x tx] (Ret fun _ => .str x tx) := by
  k_with_none
  w_top off
  unfold Says
  k_fill
  intro dp un gd cn cs a ccd cl outer A₀ base h₀ L m news s Q E B F X N T hk hP hd hu hret
  refine wpAny_call ?_
  k_dflt cell_enter
  k_steps
  exact says_end hret (by k_asm) (by k_asm) (by ktr_rel) (Ret.intro 0 rfl)
theorem getsep_says (w : World) (mean : ExcName → Option Value) (mg mb : Str → Option Value) (x : Str) (tx : Tok) :
    Says w mean mg mb 1 125 (fun _ => True) [.str x tx] (Ret fun t => .str (Str.ofString "/") t) := by
  k_with_none
  w_top off
  unfold Says
  k_fill
  intro dp un gd cn cs a ccd cl outer A₀ base h₀ L m news s Q E B F X N T hk hP hd hu hret
  refine wpAny_call ?_
  k_dflt cell_enter
  k_steps
  exact says_end hret (by k_asm) (by k_asm) (by ktr_rel) (Ret.intro _ rfl)
end Mine
end
section
open PySem PySem.W PyProof.Rows PySem.Calls
set_option maxRecDepth 100000
set_option maxHeartbeats 0
namespace Mine
local macro_rules | `(tactic| walk_at "none at all") => `(tactic| fail "none")
local macro_rules | `(tactic| walk_at "none at all") => `(tactic| fail "none")
local macro_rules | `(tactic| walk_at "none at all") => `(tactic| fail "none")
local macro_rules | `(tactic| walk_at "none at all") => `(tactic| fail "none")
local macro_rules | `(tactic| walk_at "none at all") => `(tactic| fail "none")
local macro_rules | `(tactic| walk_at "none at all") => `(tactic| fail "none")
local macro_rules | `(tactic| walk_at "none at all") => `(tactic| fail "none")
local macro_rules | `(tactic| walk_at "none at all") => `(tactic| fail "none")
local macro_rules | `(tactic| walk_at "none at all") => `(tactic| fail "none")
local macro_rules | `(tactic| walk_at "none at all") => `(tactic| fail "none")
local macro_rules | `(tactic| walk_at "none at all") => `(tactic| fail "none")
local macro_rules | `(tactic| walk_at "none at all") => `(tactic| fail "none")
local macro_rules | `(tactic| walk_at "none at all") => `(tactic| fail "none")
local macro_rules | `(tactic| walk_at "none at all") => `(tactic| fail "none")
local macro_rules | `(tactic| walk_at "none at all") => `(tactic| fail "none")
local macro_rules | `(tactic| walk_at "none at all") => `(tactic| fail "none")
local macro_rules | `(tactic| walk_at "m1") => `(tactic| (first | (k_unfold; (try dsimp only)) | ((with_reducible show wpAny _ _ _ _ _ _); walk1) | ((with_reducible show LeaveK _ _ _ _ _ _ _); walk1) | ((with_reducible show _ ∧ _); walk1) | ((with_reducible show (if _ then _ else _)); walk1) | ((with_reducible show wpAny _ _ _ _ _ _); dsimp only; walk1)))
local macro_rules | `(tactic| k_steps) => `(tactic| repeat' (walk_at "m1"))
local macro_rules | `(tactic| ktr_rel) => `(tactic| first | exact fun _ h => h | (intro p hp; simp only [List.mem_cons, List.mem_append, hp, or_true, true_or]))
local macro_rules | `(tactic| walk_at "all2") => `(tactic| ((try dsimp only); first | exact List.forall_mem_nil _ | (refine' List.forall_mem_cons.mpr ⟨?q1, ?q2⟩; (case q1 => ((try dsimp only); rfl)); (case q2 => walk_at "all2"))))
local macro_rules | `(tactic| walk_at "turn") => `(tactic| (k_dflt (first | (refine' TurnEnd.intro ?tc ?tF ?tN ?tl ?to ?tI ?tk ?tp) | (refine' TurnEnd.introC ?tc ?tF ?tN ?tl ?to ?tI ?tk ?tp)); (case tF => k_asm); (case tN => k_asm); (case to => ktr_rel)))
local macro_rules | `(tactic| walk_at "call builtin:issubclass") => `(tactic| (k_here; (with_reducible show wpAny _ _ (call (Value.builtin "issubclass") [Value.type "str", Value.ref _]) _ _ _); k_dflt (refine' issub_tuple ?k1 ?_; (case k1 => exact (News.get (by k_asm) (by k_mem))))))
local macro_rules | `(tactic| walk_at "call ref") => `(tactic| (k_here; (with_reducible show wpAny _ _ (call (Value.ref 111) _) _ _ _); k_dflt (refine' Says.use0 (fspath_says _ _ _ _ _ _) ?k1 ?k2 ?k3 ?k4 ?k5 ?kK ?kd ?ku trivial ?_; (case k1 => k_asm); (case k2 => k_asm); (case k3 => k_asm); (case k4 => k_asm); (case k5 => k_asm); (case kK => first | exact rfl | assumption); (case kd => ktr_room); (case ku => ktr_units); k_whole; intro t9 h9 tk9 F9 N9; (try dsimp only); (try k_fold))))
local macro_rules | `(tactic| walk_at "call ref") => `(tactic| (k_here; (with_reducible show wpAny _ _ (call (Value.ref 125) _) _ _ _); k_dflt (refine' Says.use0 (getsep_says _ _ _ _ _ _) ?k1 ?k2 ?k3 ?k4 ?k5 ?kK ?kd ?ku trivial ?_; (case k1 => k_asm); (case k2 => k_asm); (case k3 => k_asm); (case k4 => k_asm); (case k5 => k_asm); (case kK => first | exact rfl | assumption); (case kd => ktr_room); (case ku => ktr_units); k_whole; intro t9 h9 tk9 F9 N9; (try dsimp only); (try k_fold))))
def rootS (x : Str) : Str × Str :=
  if (Txt.slice x none (some 1) != Str.ofString "/") = true then (Str.ofString "", x)
  else if (Txt.slice x (some 1) (some 2) != Str.ofString "/") = true then (Str.ofString "/", Txt.slice x (some 1) none)
  else if (Txt.slice x (some 2) (some 3) == Str.ofString "/") = true then (Str.ofString "/", Txt.slice x (some 1) none)
  else (Txt.slice x none (some 2), Txt.slice x (some 2) none)
def Roots (r : Str × Str) (v : Value) (more : List (Addr × Obj)) : Prop := ∃ D t1 t2 t3, v = .ref D ∧ more = [(D, ({ cls := .type "tuple", data := .seq #[.str (Str.ofString "") t1, .str r.1 t2, .str r.2 t3] } : Obj))]
section
variable {x : Str} {D : Addr} {t1 t2 t3 : Tok}
theorem Roots.intro {r : Str × Str} {a b : Str} (e : r = (a, b)) : Roots r (.ref D) [(D, ({ cls := .type "tuple", data := .seq #[.str (Str.ofString "") t1, .str a t2, .str b t3] } : Obj))] := by subst e; exact ⟨D, t1, t2, t3, rfl, rfl⟩
theorem rootS_1 (h : (Txt.slice x none (some 1) != Str.ofString "/") = true) : rootS x = (Str.ofString "", x) := by unfold rootS; rw [if_pos h]
theorem rootS_2 (h : (Txt.slice x none (some 1) != Str.ofString "/") = false) (h2 : (Txt.slice x (some 1) (some 2) != Str.ofString "/") = true) : rootS x = (Str.ofString "/", Txt.slice x (some 1) none) := by
  unfold rootS; rw [if_neg (by rw [h]; decide), if_pos h2]
theorem rootS_3 (h : (Txt.slice x none (some 1) != Str.ofString "/") = false) (h2 : (Txt.slice x (some 1) (some 2) != Str.ofString "/") = false) (h3 : (Txt.slice x (some 2) (some 3) == Str.ofString "/") = true) : rootS x = (Str.ofString "/", Txt.slice x (some 1) none) := by
  unfold rootS; rw [if_neg (by rw [h]; decide), if_neg (by rw [h2]; decide), if_pos h3]
theorem rootS_4 (h : (Txt.slice x none (some 1) != Str.ofString "/") = false) (h2 : (Txt.slice x (some 1) (some 2) != Str.ofString "/") = false) (h3 : (Txt.slice x (some 2) (some 3) == Str.ofString "/") = false) : rootS x = (Txt.slice x none (some 2), Txt.slice x (some 2) none) := by
  unfold rootS; rw [if_neg (by rw [h]; decide), if_neg (by rw [h2]; decide), if_neg (by rw [h3]; decide)]
end
theorem Roots.use {w : World} {mean : ExcName → Option Value} {mg mb : Str → Option Value} {lv : Nat} {f : Addr} {vs : List Value} {r : Str × Str} (S : Says w mean mg mb lv f (fun _ => True) vs (Roots r))
    {dp un : Nat} {gd : Option (List Code)} {cn : Str} {cs : Scope} {a : Addr} {ccd : Value} {cl : List (Str × Addr)} {outer : List Env} {A₀ : Around} {base h₀ : Heap} {L : Addr} {m : Str → Option Value} {news : List (Addr × Obj)} {s : Shared} {Q E : Value → Shared → Prop}
    (B : Below A₀ base outer h₀) (F : Fr h₀ L s.heap m) (X : (Mine.hd.heap_39 w.params).In h₀) (N : News h₀ L s.heap news) (T : Top Mine.hd.view_39 lz mean mg mb h₀) (hk : cs.kind = .function) (hd : dp + lv < recursionLimit) (hu : un + 10 * lv < cLine)
    (h : ∀ (D : Addr) (t1 t2 t3 : Tok) (h' : Heap) (tk' : Nat), Fr h₀ L h' m → News h₀ L h' ((D, ({ cls := .type "tuple", data := .seq #[.str (Str.ofString "") t1, .str r.1 t2, .str r.2 t3] } : Obj)) :: news) → (∀ q ∈ news, q.1 < D) → Q (.ref D) { s with heap := h', toks := tk' }) :
    wpAny (model PySem.Challenge.rw_pd0129_01.row.prog w) (ktrTop dp un gd cn cs L a ccd cl outer) (call (.ref f) vs) Q E s :=
  S.use B F X N T hk hd hu trivial fun v more h' tk' hR F' N' hl => by
    obtain ⟨D, t1, t2, t3, rfl, rfl⟩ := hR
    exact h D t1 t2 t3 h' tk' F' N' fun q hq => hl q hq _ (.head _)
theorem splitroot_says (w : World) (mean : ExcName → Option Value) (mg mb : Str → Option Value) (x : Str) (tx : Tok) (hx : x.length ≤ 20000) :
    Says w mean mg mb 3 139 (fun _ => True) [.str x tx] (Roots (rootS x)) := by
  k_with_none
  w_top off
  unfold Says
  k_fill
  intro dp un gd cn cs a ccd cl outer A₀ base h₀ L m news s Q E B F X N T hk hP hd hu hret
  refine wpAny_call ?_
  k_dflt cell_enter
  k_steps
  all_goals (refine says_end1 hret (by k_asm) (by k_asm) (by with_reducible assumption) (Roots.intro ?_))
  all_goals first | exact rootS_1 (by with_reducible assumption) | exact rootS_2 (by with_reducible assumption) (by with_reducible assumption) | exact rootS_3 (by with_reducible assumption) (by with_reducible assumption) (by with_reducible assumption) | exact rootS_4 (by with_reducible assumption) (by with_reducible assumption) (by with_reducible assumption)
end Mine
end
section
open PySem PySem.W PyProof.Rows PySem.Calls
set_option maxRecDepth 100000
set_option maxHeartbeats 0
namespace Mine
local macro_rules | `(tactic| walk_at "none at all") => `(tactic| fail "none")
local macro_rules | `(tactic| walk_at "none at all") => `(tactic| fail "none")
local macro_rules | `(tactic| walk_at "none at all") => `(tactic| fail "none")
local macro_rules | `(tactic| walk_at "none at all") => `(tactic| fail "none")
local macro_rules | `(tactic| walk_at "none at all") => `(tactic| fail "none")
local macro_rules | `(tactic| walk_at "none at all") => `(tactic| fail "none")
local macro_rules | `(tactic| walk_at "none at all") => `(tactic| fail "none")
local macro_rules | `(tactic| walk_at "none at all") => `(tactic| fail "none")
local macro_rules | `(tactic| walk_at "none at all") => `(tactic| fail "none")
local macro_rules | `(tactic| walk_at "none at all") => `(tactic| fail "none")
local macro_rules | `(tactic| walk_at "none at all") => `(tactic| fail "none")
local macro_rules | `(tactic| walk_at "none at all") => `(tactic| fail "none")
local macro_rules | `(tactic| walk_at "none at all") => `(tactic| fail "none")
local macro_rules | `(tactic| walk_at "none at all") => `(tactic| fail "none")
local macro_rules | `(tactic| walk_at "none at all") => `(tactic| fail "none")
local macro_rules | `(tactic| walk_at "none at all") => `(tactic| fail "none")
local macro_rules | `(tactic| walk_at "none at all") => `(tactic| fail "none")
local macro_rules | `(tactic| walk_at "none at all") => `(tactic| fail "none")
local macro_rules | `(tactic| walk_at "none at all") => `(tactic| fail "none")
local macro_rules | `(tactic| walk_at "none at all") => `(tactic| fail "none")
local macro_rules | `(tactic| walk_at "m1") => `(tactic| (first | (k_unfold; (try dsimp only)) | ((with_reducible show wpAny _ _ _ _ _ _); walk1) | ((with_reducible show LeaveK _ _ _ _ _ _ _); walk1) | ((with_reducible show _ ∧ _); walk1) | ((with_reducible show (if _ then _ else _)); walk1) | ((with_reducible show wpAny _ _ _ _ _ _); dsimp only; walk1)))
local macro_rules | `(tactic| k_steps) => `(tactic| repeat' (walk_at "m1"))
local macro_rules | `(tactic| ktr_rel) => `(tactic| first | exact fun _ h => h | (intro p hp; simp only [List.mem_cons, List.mem_append, hp, or_true, true_or]))
local macro_rules | `(tactic| walk_at "all2") => `(tactic| ((try dsimp only); first | exact List.forall_mem_nil _ | (refine' List.forall_mem_cons.mpr ⟨?q1, ?q2⟩; (case q1 => ((try dsimp only); rfl)); (case q2 => walk_at "all2"))))
local macro_rules | `(tactic| walk_at "turn") => `(tactic| (k_dflt (first | (refine' TurnEnd.intro ?tc ?tF ?tN ?tl ?to ?tI ?tk ?tp) | (refine' TurnEnd.introC ?tc ?tF ?tN ?tl ?to ?tI ?tk ?tp)); (case tF => k_asm); (case tN => k_asm); (case to => ktr_rel)))
def noThree : List Nat → Bool
  | 47 :: 47 :: 47 :: _ => false
  | _ => true
def GoodPart (p : Str) : Prop := p.length ≤ 20 ∧ noThree p.cps.toList = true
def PartIs (v : Value) (more : List (Addr × Obj)) : Prop := more = [] ∧ ∃ p t, v = .str p t ∧ GoodPart p
theorem PartIs.intro {p : Str} {t : Tok} (h : GoodPart p) : PartIs (.str p t) [] := ⟨rfl, p, t, rfl, h⟩
theorem getD_len {l : List Str} {n : Nat} (h : ∀ x ∈ l, x.length ≤ n) (i : Nat) : (l.getD i Str.empty).length ≤ n := by
  rw [List.getD_eq_getElem?_getD]
  cases e : l[i]? with
  | none => exact Nat.zero_le _
  | some v => exact h v (List.mem_of_getElem? e)
theorem getD_all {l : List Str} {P : Str → Prop} {i : Nat} (h : ∀ x ∈ l, P x) (hi : i < l.length) : P (l.getD i Str.empty) := by
  rw [List.getD_eq_getElem?_getD, List.getElem?_eq_getElem hi]
  exact h _ (List.getElem_mem hi)
theorem fmod_range {a b : Int} (hb : 0 < b) : 0 ≤ a.fmod b ∧ a.fmod b < b := ⟨Int.fmod_nonneg_of_pos _ hb, Int.fmod_lt_of_pos _ hb⟩
theorem mul_len3 {k : Int} (h : 0 ≤ k ∧ k < 3) : (Txt.mul (Str.ofString ".") k).length ≤ 2 := by
  have : k = 0 ∨ k = 1 ∨ k = 2 := by omega
  rcases this with rfl | rfl | rfl <;> decide +kernel
theorem good_lit {p : Str} (h : (decide (p.length ≤ 20) && noThree p.cps.toList) = true) : GoodPart p := by
  rw [Bool.and_eq_true] at h
  exact ⟨of_decide_eq_true h.1, h.2⟩
theorem good_head {a b c : Str} (ha : a.length ≤ 2) (hb : b.length ≤ 2) (hc : c.length ≤ 8) (h : (match a.cps.toList with | [] => false | x :: _ => x != 47) = true) : GoodPart (a ++ b ++ c) := by
  refine ⟨?_, ?_⟩
  · rw [Str.length_append, Str.length_append]; omega
  · rw [Str.cps_append, Str.cps_append, Array.toList_append, Array.toList_append]
    cases e : a.cps.toList with
    | nil => rw [e] at h; cases h
    | cons x r =>
      rw [e] at h
      have hx : x ≠ 47 := by simpa using h
      simp only [List.cons_append]
      unfold noThree
      split
      · rename_i q; injection q with q1; exact absurd q1 hx
      · rfl
theorem good_sign (n : Nat) : GoodPart ⟨#[n]⟩ := ⟨by show (1 : Nat) ≤ 20; omega, by
  show noThree [n] = true
  unfold noThree
  split
  · rename_i q; injection q with _ q2; cases q2
  · rfl⟩
theorem part_says (w : World) (mean : ExcName → Option Value) (mg mb : Str → Option Value) (x : Int) (tx : Tok) :
    Says w mean mg mb 1 170 (fun _ => True) [.int x tx] PartIs := by
  k_with_none
  w_top off
  k_with "table" => skip
  unfold Says
  k_fill
  intro dp un gd cn cs a ccd cl outer A₀ base h₀ L m news s Q E B F X N T hk hP hd hu hret
  refine wpAny_call ?_
  k_dflt cell_enter
  have r1 := fmod_range (a := (x.fdiv 8).fdiv 5) (b := 3) (by omega)
  have r2 := mul_len3 r1
  have r0 := fmod_range (a := x) (b := 8) (by omega)
  have r5 := fmod_range (a := x.fdiv 8) (b := 5) (by omega)
  k_steps
  · refine says_end hret (by k_asm) (by k_asm) (by ktr_rel) (PartIs.intro (good_head (getD_len ?_ _) r2 (getD_len ?_ _) ?_))
    · decide +kernel
    · decide +kernel
    · refine getD_all (P := fun a => (match a.cps.toList with | [] => false | x :: _ => x != 47) = true) ?_ (by simp only [List.length_cons, List.length_nil]; omega)
      decide +kernel
  · refine says_end hret (by k_asm) (by k_asm) (by ktr_rel) (PartIs.intro ?_)
    refine getD_all (P := GoodPart) ?_ (by simp only [List.length_cons, List.length_nil]; omega)
    refine List.forall_mem_cons.mpr ⟨good_lit (by decide +kernel), List.forall_mem_cons.mpr ⟨good_lit (by decide +kernel), List.forall_mem_cons.mpr ⟨good_lit (by decide +kernel), List.forall_mem_cons.mpr ⟨good_lit (by decide +kernel), List.forall_mem_cons.mpr ⟨?_, List.forall_mem_cons.mpr ⟨good_lit (by decide +kernel), List.forall_mem_nil _⟩⟩⟩⟩⟩⟩
    refine getD_all (P := GoodPart) ?_ (by simp only [List.length_cons, List.length_nil]; omega)
    refine List.forall_mem_cons.mpr ⟨good_lit (by decide +kernel), List.forall_mem_cons.mpr ⟨good_lit (by decide +kernel), List.forall_mem_cons.mpr ⟨good_lit (by decide +kernel), List.forall_mem_cons.mpr ⟨good_lit (by decide +kernel), List.forall_mem_cons.mpr ⟨good_lit (by decide +kernel), List.forall_mem_nil _⟩⟩⟩⟩⟩
  · exact says_end hret (by k_asm) (by k_asm) (by ktr_rel) (PartIs.intro (good_sign _))
  · exact says_end hret (by k_asm) (by k_asm) (by ktr_rel) (PartIs.intro (good_sign _))
end Mine
end
section
open PySem PySem.W PyProof.Rows PySem.Calls
set_option maxRecDepth 100000
set_option maxHeartbeats 0
namespace Mine
local macro_rules | `(tactic| walk_at "none at all") => `(tactic| fail "none")
local macro_rules | `(tactic| walk_at "none at all") => `(tactic| fail "none")
local macro_rules | `(tactic| walk_at "none at all") => `(tactic| fail "none")
local macro_rules | `(tactic| walk_at "none at all") => `(tactic| fail "none")
local macro_rules | `(tactic| walk_at "none at all") => `(tactic| fail "none")
local macro_rules | `(tactic| walk_at "none at all") => `(tactic| fail "none")
local macro_rules | `(tactic| walk_at "none at all") => `(tactic| fail "none")
local macro_rules | `(tactic| walk_at "none at all") => `(tactic| fail "none")
local macro_rules | `(tactic| walk_at "none at all") => `(tactic| fail "none")
local macro_rules | `(tactic| walk_at "none at all") => `(tactic| fail "none")
local macro_rules | `(tactic| walk_at "none at all") => `(tactic| fail "none")
local macro_rules | `(tactic| walk_at "none at all") => `(tactic| fail "none")
local macro_rules | `(tactic| walk_at "none at all") => `(tactic| fail "none")
local macro_rules | `(tactic| walk_at "none at all") => `(tactic| fail "none")
local macro_rules | `(tactic| walk_at "none at all") => `(tactic| fail "none")
local macro_rules | `(tactic| walk_at "none at all") => `(tactic| fail "none")
local macro_rules | `(tactic| walk_at "none at all") => `(tactic| fail "none")
local macro_rules | `(tactic| walk_at "none at all") => `(tactic| fail "none")
local macro_rules | `(tactic| walk_at "m1") => `(tactic| (first | (k_unfold; (try dsimp only)) | ((with_reducible show wpAny _ _ _ _ _ _); walk1) | ((with_reducible show LeaveK _ _ _ _ _ _ _); walk1) | ((with_reducible show _ ∧ _); walk1) | ((with_reducible show (if _ then _ else _)); walk1) | ((with_reducible show wpAny _ _ _ _ _ _); dsimp only; walk1)))
local macro_rules | `(tactic| k_steps) => `(tactic| repeat' (walk_at "m1"))
local macro_rules | `(tactic| ktr_rel) => `(tactic| first | exact fun _ h => h | (intro p hp; simp only [List.mem_cons, List.mem_append, hp, or_true, true_or]))
local macro_rules | `(tactic| walk_at "all2") => `(tactic| ((try dsimp only); first | exact List.forall_mem_nil _ | (refine' List.forall_mem_cons.mpr ⟨?q1, ?q2⟩; (case q1 => ((try dsimp only); rfl)); (case q2 => walk_at "all2"))))
local macro_rules | `(tactic| walk_at "turn") => `(tactic| (k_dflt (first | (refine' TurnEnd.intro ?tc ?tF ?tN ?tl ?to ?tI ?tk ?tp) | (refine' TurnEnd.introC ?tc ?tF ?tN ?tl ?to ?tI ?tk ?tp)); (case tF => k_asm); (case tN => k_asm); (case to => ktr_rel)))
local macro_rules | `(tactic| walk_at "call builtin:issubclass") => `(tactic| (k_here; (with_reducible show wpAny _ _ (call (Value.builtin "issubclass") [Value.type "str", Value.ref _]) _ _ _); k_dflt (refine' issub_tuple ?k1 ?_; (case k1 => exact (News.get (by k_asm) (by k_mem))))))
local macro_rules | `(tactic| walk_at "call ref") => `(tactic| (k_here; (with_reducible show wpAny _ _ (call (Value.ref 111) _) _ _ _); k_dflt (refine' Says.use0 (fspath_says _ _ _ _ _ _) ?k1 ?k2 ?k3 ?k4 ?k5 ?kK ?kd ?ku trivial ?_; (case k1 => k_asm); (case k2 => k_asm); (case k3 => k_asm); (case k4 => k_asm); (case k5 => k_asm); (case kK => first | exact rfl | assumption); (case kd => ktr_room); (case ku => ktr_units); k_whole; intro t9 h9 tk9 F9 N9; (try dsimp only); (try k_fold))))
local macro_rules | `(tactic| walk_at "call ref") => `(tactic| (k_here; (with_reducible show wpAny _ _ (call (Value.ref 125) _) _ _ _); k_dflt (refine' Says.use0 (getsep_says _ _ _ _ _ _) ?k1 ?k2 ?k3 ?k4 ?k5 ?kK ?kd ?ku trivial ?_; (case k1 => k_asm); (case k2 => k_asm); (case k3 => k_asm); (case k4 => k_asm); (case k5 => k_asm); (case kK => first | exact rfl | assumption); (case kd => ktr_room); (case ku => ktr_units); k_whole; intro t9 h9 tk9 F9 N9; (try dsimp only); (try k_fold))))
def joinS (x y : Str) : Str := if Txt.startswith y (Str.ofString "/") = true then y else if (x.length : Int) = 0 then y else if Txt.endswith x (Str.ofString "/") = true then x ++ y else x ++ (Str.ofString "/" ++ y)
section
variable {x y : Str}
theorem joinS_1 (h : Txt.startswith y (Str.ofString "/") = true) : y = joinS x y := by simp [joinS, h]
theorem joinS_2 (h : Txt.startswith y (Str.ofString "/") = false) (h2 : (x.length : Int) = 0) : y = joinS x y := by simp [joinS, h, h2]
theorem joinS_3 (h : Txt.startswith y (Str.ofString "/") = false) (h2 : (x.length : Int) ≠ 0) (h3 : Txt.endswith x (Str.ofString "/") = true) : x ++ y = joinS x y := by
  unfold joinS; rw [if_neg (by simp [h]), if_neg h2, if_pos h3]
theorem joinS_4 (h : Txt.startswith y (Str.ofString "/") = false) (h2 : (x.length : Int) ≠ 0) (h3 : Txt.endswith x (Str.ofString "/") = false) : x ++ (Str.ofString "/" ++ y) = joinS x y := by
  unfold joinS; rw [if_neg (by simp [h]), if_neg h2, if_neg (by simp [h3])]
end
theorem join_says (w : World) (mean : ExcName → Option Value) (mg mb : Str → Option Value) (x y : Str) (tx ty : Tok) (hx : x.length ≤ 1000) (hy : y.length ≤ 100000) :
    Says w mean mg mb 3 132 (fun _ => True) [.str x tx, .str y ty] (Ret fun t => .str (joinS x y) t) := by
  k_with_none
  w_top off
  unfold Says
  k_fill
  intro dp un gd cn cs a ccd cl outer A₀ base h₀ L m news s Q E B F X N T hk hP hd hu hret
  refine wpAny_call ?_
  k_dflt (refine' kp_rest ?k1 ?k2 ?k3 ?k4 ?k5 ?kA ?kF ?kK ?k6 ?k7 ?k8 ?kV ?kP ?kG ?kB ?_ ?c2 ?c3 ?c4 ?c5; (case kA => exact rfl); (case kF => exact rfl); (case kK => assumption); (case k1 => k_asm); (case k2 => k_asm); (case k3 => k_asm); (case k4 => k_asm); (case k5 => k_asm); (case k6 => k_is); (case k7 => k_is); (case k8 => ktr_room); (case kV => kl_lit); (case kP => exact rfl); (case kG => exact fun _ => rfl); (case kB => exact fun _ => locs rfl); (case c5 => decide); (case c2 => exact rfl); (case c3 => exact rfl); (case c4 => exact rfl); k_whole; intro D' g' L' h' l1 FG' F' N' B' X' T'; (try k_lt l1); (try dsimp only); (try k_lift B'); (try k_fold))
  have hne : D' ≠ L' := (N' _ (.head _)).2.1
  k_steps
  refine wpAny_noRaise ?_
  k_dflt (refine For_invV g' rfl rfl ?_ (hE := PassesOwn.never))
  walk1
  k_dflt (refine' for_tuple (σ := Str × Tok × Tok) (fun _ => (D', ({ cls := .type "tuple", data := .seq [Value.str y ty].toArray } : Obj)) :: news) (fun c => [(Str.ofString "path", .str c.1 c.2.1), (Str.ofString "sep", .str (Str.ofString "/") c.2.2)]) (fun i c => c.1 = if i = 0 then x else joinS x y) (x, tx, _) ?hh ?hl ?hlL ?kF ?kN ?hk ?hp ?turn ?done)
  case hh => rfl
  case hl => exact ⟨_, (News.get (by k_asm) (by k_mem)), rfl, _, rfl⟩
  case hlL => exact hne
  case kF => k_asm
  case kN => k_asm
  case hk => k_dflt (walk_at "all2")
  case hp => exact rfl
  case turn =>
    rintro I hI1 hI2 ⟨path, t1, t2⟩ i v u h tk own hi hv hp hLI hown ⟨oI, hoI⟩ F₁ N₁
    dsimp only at hp F₁ N₁
    obtain rfl : i = 0 := by simp at hi; omega
    obtain rfl : path = x := by simpa using hp
    obtain rfl : v = .str y ty := by simpa using hv.symm
    k_steps
    all_goals (
      k_dflt (refine' TurnEnd.intro (_, _, _) ?tF ?tN ?tl ?to hLI ?tk ?tp)
      case tF => k_asm
      case tN => k_asm
      case tk => k_dflt (walk_at "all2")
      case tl => ktr_rel
      case to => ktr_rel
      case tp => first | exact joinS_1 (by with_reducible assumption) | exact joinS_2 (by with_reducible assumption) (by with_reducible assumption) | exact joinS_3 (by with_reducible assumption) (by with_reducible assumption) (by with_reducible assumption) | exact joinS_4 (by with_reducible assumption) (by with_reducible assumption) (by with_reducible assumption))
  case done =>
    rintro ⟨path, t1, t2⟩ u h tk hp F₁ N₁
    dsimp only at hp F₁ N₁
    have hp : path = joinS x y := by simpa using hp
    subst hp
    k_steps
    exact says_end hret (by k_asm) (by k_asm) (by ktr_rel) (Ret.intro _ rfl)
end Mine
end
section
open PySem PySem.W PyProof.Rows PySem.Calls
set_option maxRecDepth 100000
set_option maxHeartbeats 0
namespace Mine
local macro_rules | `(tactic| walk_at "none at all") => `(tactic| fail "none")
local macro_rules | `(tactic| walk_at "none at all") => `(tactic| fail "none")
local macro_rules | `(tactic| walk_at "none at all") => `(tactic| fail "none")
local macro_rules | `(tactic| walk_at "none at all") => `(tactic| fail "none")
local macro_rules | `(tactic| walk_at "none at all") => `(tactic| fail "none")
local macro_rules | `(tactic| walk_at "none at all") => `(tactic| fail "none")
local macro_rules | `(tactic| walk_at "none at all") => `(tactic| fail "none")
local macro_rules | `(tactic| walk_at "none at all") => `(tactic| fail "none")
local macro_rules | `(tactic| walk_at "none at all") => `(tactic| fail "none")
local macro_rules | `(tactic| walk_at "none at all") => `(tactic| fail "none")
local macro_rules | `(tactic| walk_at "none at all") => `(tactic| fail "none")
local macro_rules | `(tactic| walk_at "none at all") => `(tactic| fail "none")
local macro_rules | `(tactic| walk_at "none at all") => `(tactic| fail "none")
local macro_rules | `(tactic| walk_at "none at all") => `(tactic| fail "none")
local macro_rules | `(tactic| walk_at "none at all") => `(tactic| fail "none")
local macro_rules | `(tactic| walk_at "none at all") => `(tactic| fail "none")
local macro_rules | `(tactic| walk_at "none at all") => `(tactic| fail "none")
local macro_rules | `(tactic| walk_at "none at all") => `(tactic| fail "none")
local macro_rules | `(tactic| walk_at "none at all") => `(tactic| fail "none")
local macro_rules | `(tactic| walk_at "none at all") => `(tactic| fail "none")
local macro_rules | `(tactic| walk_at "none at all") => `(tactic| fail "none")
local macro_rules | `(tactic| walk_at "none at all") => `(tactic| fail "none")
local macro_rules | `(tactic| walk_at "m1") => `(tactic| (first | (k_unfold; (try dsimp only)) | ((with_reducible show wpAny _ _ _ _ _ _); walk1) | ((with_reducible show LeaveK _ _ _ _ _ _ _); walk1) | ((with_reducible show _ ∧ _); walk1) | ((with_reducible show (if _ then _ else _)); walk1) | ((with_reducible show wpAny _ _ _ _ _ _); dsimp only; walk1)))
local macro_rules | `(tactic| k_steps) => `(tactic| repeat' (walk_at "m1"))
local macro_rules | `(tactic| ktr_rel) => `(tactic| first | exact fun _ h => h | (intro p hp; simp only [List.mem_cons, List.mem_append, hp, or_true, true_or]))
local macro_rules | `(tactic| walk_at "all2") => `(tactic| ((try dsimp only); first | exact List.forall_mem_nil _ | (refine' List.forall_mem_cons.mpr ⟨?q1, ?q2⟩; (case q1 => ((try dsimp only); rfl)); (case q2 => walk_at "all2"))))
local macro_rules | `(tactic| walk_at "turn") => `(tactic| (k_dflt (first | (refine' TurnEnd.intro ?tc ?tF ?tN ?tl ?to ?tI ?tk ?tp) | (refine' TurnEnd.introC ?tc ?tF ?tN ?tl ?to ?tI ?tk ?tp)); (case tF => k_asm); (case tN => k_asm); (case to => ktr_rel)))
def sentS (x y : Str) : Str := ⟨(sentL y.cps.toList x.cps.toList).toArray⟩
def SentP (x y : Str) (i : Nat) (sent ahead : Str) : Prop :=
  sent.cps.toList = sentL y.cps.toList (x.cps.toList.take i) ∧ ahead.cps.toList = lastOf y.cps.toList (x.cps.toList.take i) ∧ sent.length ≤ 2 * i
section
variable {n k : Nat} {a x y sent : Str} {i : Nat}
theorem sg_t {z : Str} (hz : z = ⟨#[k]⟩) (h : ((⟨#[n]⟩ : Str) == z) = true) : n = k := by
  subst hz
  have := beq_iff_eq.mp h
  injection this with e
  have e2 := congrArg Array.toList e
  injection e2
theorem sg_f {z : Str} (hz : z = ⟨#[k]⟩) (h : ((⟨#[n]⟩ : Str) == z) = false) : n ≠ k := by
  subst hz
  intro e
  subst e
  simp at h
theorem str_eq {z : Str} (h : (a == z) = true) : a.cps.toList = z.cps.toList := by rw [beq_iff_eq.mp h]
theorem str_ne {z : Str} (h : (a != z) = true) : a.cps.toList ≠ z.cps.toList := fun e => by
  have : a = z := PySem.Str.ext' (Array.toList_inj.mp e)
  simp [this] at h
theorem str_ne_f {z : Str} (h : (a != z) = false) : a.cps.toList = z.cps.toList := by
  have : a = z := by simpa using h
  rw [this]
theorem lit_r : Str.ofString "\r" = ⟨#[13]⟩ := by decide +kernel
theorem lit_n : Str.ofString "\n" = ⟨#[10]⟩ := by decide +kernel
theorem lit_dot : Str.ofString "." = ⟨#[46]⟩ := by decide +kernel
theorem lit_e : Str.ofString "" = ⟨#[]⟩ := by decide +kernel
theorem lit_rn : (Str.ofString "\r\n").cps.toList = [13, 10] := by decide +kernel
theorem lit_dd : (Str.ofString "..").cps.toList = [46, 46] := by decide +kernel
theorem any_in (h : ([Str.ofString "", Str.ofString "\r", Str.ofString "\n"].any fun x => x == a) = true) : a.cps.toList = [] ∨ a.cps.toList = [13] ∨ a.cps.toList = [10] := by
  simp only [List.any_cons, List.any_nil, Bool.or_false, Bool.or_eq_true] at h
  rcases h with h | h | h
  · left; rw [← beq_iff_eq.mp h, lit_e]
  · right; left; rw [← beq_iff_eq.mp h, lit_r]
  · right; right; rw [← beq_iff_eq.mp h, lit_n]
theorem any_out (h : ([Str.ofString "", Str.ofString "\r", Str.ofString "\n"].any fun x => x == a) = false) : ¬ (a.cps.toList = [] ∨ a.cps.toList = [13] ∨ a.cps.toList = [10]) := by
  intro q
  have e : a = Str.ofString "" ∨ a = Str.ofString "\r" ∨ a = Str.ofString "\n" := by
    rcases q with q | q | q
    · left; rw [lit_e]; exact PySem.Str.ext' (Array.toList_inj.mp q)
    · right; left; rw [lit_r]; exact PySem.Str.ext' (Array.toList_inj.mp q)
    · right; right; rw [lit_n]; exact PySem.Str.ext' (Array.toList_inj.mp q)
  rcases e with e | e | e <;> subst e <;> exact absurd h (by decide +kernel)
theorem one_1 (h : ((⟨#[n]⟩ : Str) == Str.ofString "\r") = true) : (Str.ofString "\r\n").cps.toList = one a.cps.toList n := by
  rw [lit_rn, sg_t lit_r h]; simp [one]
theorem one_2 (h : ((⟨#[n]⟩ : Str) == Str.ofString "\n") = true) (h2 : (a != Str.ofString "\r") = true) : (Str.ofString "\r\n").cps.toList = one a.cps.toList n := by
  have h3 := str_ne h2
  rw [lit_r] at h3
  rw [lit_rn, sg_t lit_n h]
  simp [one, h3]
theorem one_3 (h : ((⟨#[n]⟩ : Str) == Str.ofString ".") = true) (h2 : ([Str.ofString "", Str.ofString "\r", Str.ofString "\n"].any fun x => x == a) = true) : (Str.ofString "..").cps.toList = one a.cps.toList n := by
  rw [lit_dd, sg_t lit_dot h]
  simp only [one, any_in h2, and_true]
  simp
theorem one_4 (h : ((⟨#[n]⟩ : Str) == Str.ofString "\r") = false) (h1 : ((⟨#[n]⟩ : Str) == Str.ofString "\n") = false) (h2 : ((⟨#[n]⟩ : Str) == Str.ofString ".") = false) : (⟨#[n]⟩ : Str).cps.toList = one a.cps.toList n := by
  have e := sg_f lit_r h
  have e1 := sg_f lit_n h1
  have e2 := sg_f lit_dot h2
  simp [one, e, e1, e2]
theorem one_5 (h : ((⟨#[n]⟩ : Str) == Str.ofString "\r") = false) (h1 : ((⟨#[n]⟩ : Str) == Str.ofString "\n") = false) (h2 : ([Str.ofString "", Str.ofString "\r", Str.ofString "\n"].any fun x => x == a) = false) : (⟨#[n]⟩ : Str).cps.toList = one a.cps.toList n := by
  have e := sg_f lit_r h
  have e1 := sg_f lit_n h1
  have e2 := any_out h2
  unfold one
  rw [if_neg (by simp [e, e1]), if_neg (fun q => e2 q.2), if_pos e1]
theorem one_6 (h : ((⟨#[n]⟩ : Str) == Str.ofString "\n") = true) (h2 : (a != Str.ofString "\r") = false) : [] = one a.cps.toList n := by
  have h3 := str_ne_f h2
  rw [lit_r] at h3
  rw [sg_t lit_n h]
  simp [one, h3]
theorem no_1 {P : Prop} (h : ((⟨#[n]⟩ : Str) == Str.ofString "\n") = true) (h2 : ((⟨#[n]⟩ : Str) != Str.ofString "\n") = true) : P := by rw [bne, h] at h2; cases h2
theorem no_2 {P : Prop} (h : ((⟨#[n]⟩ : Str) == Str.ofString "\n") = false) (h2 : ((⟨#[n]⟩ : Str) != Str.ofString "\n") = false) : P := by rw [bne, h] at h2; cases h2
theorem sentP_app {r : Str} (hp : SentP x y i sent a) (hn : x.cps.toList[i]? = some n) (e : r.cps.toList = one a.cps.toList n) : SentP x y (i + 1) (sent ++ r) ⟨#[n]⟩ := by
  obtain ⟨h1, h2, h3⟩ := hp
  have ht : x.cps.toList.take (i + 1) = x.cps.toList.take i ++ [n] := by simp [List.take_add_one, hn]
  refine ⟨?_, ?_, ?_⟩
  · rw [ht, sentL_snoc, Str.cps_append, Array.toList_append, h1, e, h2]
  · rw [ht, lastOf_snoc]
  · have l := one_len a.cps.toList n
    rw [← e] at l
    have l2 : r.length = r.cps.toList.length := Array.length_toList.symm
    rw [Str.length_append]; omega
theorem sentP_same (hp : SentP x y i sent a) (hn : x.cps.toList[i]? = some n) (e : [] = one a.cps.toList n) : SentP x y (i + 1) sent ⟨#[n]⟩ := by
  obtain ⟨h1, h2, h3⟩ := hp
  have ht : x.cps.toList.take (i + 1) = x.cps.toList.take i ++ [n] := by simp [List.take_add_one, hn]
  refine ⟨?_, ?_, ?_⟩
  · rw [ht, sentL_snoc, h1, ← h2, ← e, List.append_nil]
  · rw [ht, lastOf_snoc]
  · omega
end
theorem sent_says (w : World) (mean : ExcName → Option Value) (mg mb : Str → Option Value) (x y : Str) (tx ty : Tok) (hx : x.length ≤ 20000) :
    Says w mean mg mb 1 177 (fun _ => True) [.str x tx, .str y ty] (Ret fun t => .str (sentS x y) t) := by
  k_with_none
  w_top off
  unfold Says
  k_fill
  intro dp un gd cn cs a ccd cl outer A₀ base h₀ L m news s Q E B F X N T hk hP hd hu hret
  refine wpAny_call ?_
  k_dflt cell_enter
  k_with "pyIter str" => fail "here"
  k_steps
  k_dflt (refine' for_text (σ := Str × Tok × Str × Tok) (fun _ => news) (fun c => [(Str.ofString "sent", .str c.1 c.2.1), (Str.ofString "ahead", .str c.2.2.1 c.2.2.2)]) (fun i c => SentP x y i c.1 c.2.2.1) (Str.ofString "", _, y, ty) ?hh ?kF ?kN ?hk ?hp ?turn ?done)
  case hh => rfl
  case kF => k_asm
  case kN => k_asm
  case hk => k_dflt (walk_at "all2")
  case hp => exact ⟨rfl, rfl, Nat.le_refl _⟩
  case turn =>
    rintro I hI1 ⟨sent, t1, ahead, t2⟩ i n t u h tk own hi hn hp hLI hown ⟨oI, hoI⟩ F₁ N₁
    dsimp only at hp F₁ N₁
    have hl0 : i ≤ x.length := by have e : x.cps.toList.length = x.length := Array.length_toList; omega
    have hl1 : sent.length ≤ 40000 := by have := hp.2.2; omega
    k_steps
    all_goals (
      k_dflt (refine' TurnEnd.intro (_, _, _, _) ?tF ?tN ?tl ?to hLI ?tk ?tp)
      case tF => k_asm
      case tN => k_asm
      case tk => k_dflt (walk_at "all2")
      case tl => ktr_rel
      case to => ktr_rel
      case tp =>
        dsimp only
        first
          | exact sentP_app hp hn (one_1 (by with_reducible assumption))
          | exact sentP_app hp hn (one_2 (by with_reducible assumption) (by with_reducible assumption))
          | exact sentP_app hp hn (one_3 (by with_reducible assumption) (by with_reducible assumption))
          | exact sentP_app hp hn (one_4 (by with_reducible assumption) (by with_reducible assumption) (by with_reducible assumption))
          | exact sentP_app hp hn (one_5 (by with_reducible assumption) (by with_reducible assumption) (by with_reducible assumption))
          | exact sentP_same hp hn (one_6 (by with_reducible assumption) (by with_reducible assumption))
          | exact no_1 (n := n) (by with_reducible assumption) (by with_reducible assumption)
          | exact no_2 (n := n) (by with_reducible assumption) (by with_reducible assumption))
  case done =>
    rintro ⟨sent, t1, ahead, t2⟩ u h tk hp F₁ N₁
    dsimp only at hp F₁ N₁
    have hs : sent = sentS x y := by
      refine PySem.Str.ext' (Array.toList_inj.mp ?_)
      rw [hp.1, List.take_length]
      rfl
    subst hs
    k_steps
    exact says_end hret (by k_asm) (by k_asm) (by ktr_rel) (Ret.intro _ rfl)
end Mine
end
section
open PySem PySem.W PyProof.Rows PySem.Calls
set_option maxRecDepth 100000
set_option maxHeartbeats 0
namespace Mine
local macro_rules | `(tactic| walk_at "none at all") => `(tactic| fail "none")
local macro_rules | `(tactic| walk_at "none at all") => `(tactic| fail "none")
local macro_rules | `(tactic| walk_at "none at all") => `(tactic| fail "none")
local macro_rules | `(tactic| walk_at "none at all") => `(tactic| fail "none")
local macro_rules | `(tactic| walk_at "none at all") => `(tactic| fail "none")
local macro_rules | `(tactic| walk_at "none at all") => `(tactic| fail "none")
local macro_rules | `(tactic| walk_at "none at all") => `(tactic| fail "none")
local macro_rules | `(tactic| walk_at "none at all") => `(tactic| fail "none")
local macro_rules | `(tactic| walk_at "none at all") => `(tactic| fail "none")
local macro_rules | `(tactic| walk_at "none at all") => `(tactic| fail "none")
local macro_rules | `(tactic| walk_at "none at all") => `(tactic| fail "none")
local macro_rules | `(tactic| walk_at "none at all") => `(tactic| fail "none")
local macro_rules | `(tactic| walk_at "none at all") => `(tactic| fail "none")
local macro_rules | `(tactic| walk_at "none at all") => `(tactic| fail "none")
local macro_rules | `(tactic| walk_at "none at all") => `(tactic| fail "none")
local macro_rules | `(tactic| walk_at "none at all") => `(tactic| fail "none")
local macro_rules | `(tactic| walk_at "none at all") => `(tactic| fail "none")
local macro_rules | `(tactic| walk_at "none at all") => `(tactic| fail "none")
local macro_rules | `(tactic| walk_at "none at all") => `(tactic| fail "none")
local macro_rules | `(tactic| walk_at "none at all") => `(tactic| fail "none")
local macro_rules | `(tactic| walk_at "none at all") => `(tactic| fail "none")
local macro_rules | `(tactic| walk_at "m1") => `(tactic| (first | (k_unfold; (try dsimp only)) | ((with_reducible show wpAny _ _ _ _ _ _); walk1) | ((with_reducible show LeaveK _ _ _ _ _ _ _); walk1) | ((with_reducible show _ ∧ _); walk1) | ((with_reducible show (if _ then _ else _)); walk1) | ((with_reducible show wpAny _ _ _ _ _ _); dsimp only; walk1)))
local macro_rules | `(tactic| k_steps) => `(tactic| repeat' (walk_at "m1"))
local macro_rules | `(tactic| ktr_rel) => `(tactic| first | exact fun _ h => h | (intro p hp; simp only [List.mem_cons, List.mem_append, hp, or_true, true_or]))
local macro_rules | `(tactic| walk_at "all2") => `(tactic| ((try dsimp only); first | exact List.forall_mem_nil _ | (refine' List.forall_mem_cons.mpr ⟨?q1, ?q2⟩; (case q1 => ((try dsimp only); rfl)); (case q2 => walk_at "all2"))))
local macro_rules | `(tactic| walk_at "turn") => `(tactic| (k_dflt (first | (refine' TurnEnd.intro ?tc ?tF ?tN ?tl ?to ?tI ?tk ?tp) | (refine' TurnEnd.introC ?tc ?tF ?tN ?tl ?to ?tI ?tk ?tp)); (case tF => k_asm); (case tN => k_asm); (case to => ktr_rel)))
theorem getm {M : Model} {A : Around} {E : Value → Shared → Prop} {s : Shared} {a ct : Addr} {code : Array Nat} {pl : Sem Bool} {Q : Value × List Value → Shared → Prop} (P : IsPat s.heap a ct code) (h : Q (.builtin "re.Pattern.sub", [.ref a]) s) :
    wpAny M A (getMethod (.ref a) "sub" pl) Q E s := by
  obtain ⟨o, _, _, _, _, h1, h2, h3, _⟩ := P.pat
  exact getMethod_builtin (show s.TypeIs (.ref a) "re.Pattern" from ⟨o, h1, h2⟩) re_plain re_slot re_type (fun b e => by cases e; exact ⟨o, h1, h3⟩) h
theorem quote1 (x : Str) : subGo (find2 x.cps) [13, 10] x.cps.toList (x.cps.size + 1) 0 = crlfS false x.cps.toList := by
  rw [sub2 _ _ (by omega) (Nat.zero_le _) (fun z => absurd (show prev13 x.cps 0 = false from rfl) (by rw [z.1]; decide))]
  rfl
theorem quote2 (T : Array Nat) : subGo (find1' T) [46, 46] T.toList (T.size + 1) 0 = dots true T.toList := by
  rw [sub1 _ _ (by omega) (Nat.zero_le _)]
  rfl
theorem crlfS_len (t : List Nat) : ∀ b, (crlfS b t).length ≤ 2 * t.length := by
  induction t with
  | nil => intro b; exact Nat.zero_le _
  | cons c r ih =>
    intro b
    have h1 := ih true
    have h2 := ih false
    rw [crlfS]
    (repeat' split) <;> simp only [List.length_cons] <;> omega
theorem rn_list : (Str.ofString "\r\n").cps.toList = [13, 10] := by decide +kernel
theorem dd_list : (Str.ofString "..").cps.toList = [46, 46] := by decide +kernel
def quoteS (x : Str) : Str := ⟨(sentL [] x.cps.toList).toArray⟩
local macro_rules | `(tactic| walk_at "getMethod ref") => `(tactic| (k_here; (with_reducible show wpAny _ _ (getMethod (Value.ref 151) _ _) _ _ _); k_dflt (refine' getm (pat1 ?k1) ?_; (case k1 => k_in))))
local macro_rules | `(tactic| walk_at "getMethod ref") => `(tactic| (k_here; (with_reducible show wpAny _ _ (getMethod (Value.ref 156) _ _) _ _ _); k_dflt (refine' getm (pat2 ?k1) ?_; (case k1 => k_in))))
theorem quote_says (w : World) (mean : ExcName → Option Value) (mg mb : Str → Option Value) (x : Str) (tx : Tok) (hx : x.length ≤ 20000) :
    Says w mean mg mb 2 163 (fun _ => True) [.str x tx] (Ret fun t => .str (quoteS x) t) := by
  k_with_none
  w_top off
  unfold Says
  k_fill
  intro dp un gd cn cs a ccd cl outer A₀ base h₀ L m news s Q E B F X N T hk hP hd hu hret
  refine wpAny_call ?_
  k_dflt cell_enter
  k_steps
  k_dflt (refine' call_sub (seeks2 x.cps) (pat2 ?k1) ?h1 ?h2 ?h3 ?kF ?kN ?_)
  case k1 => k_in
  case h1 => (show x.length ≤ 50000; omega)
  case h2 => decide +kernel
  case h3 => decide +kernel
  case kF => k_asm
  case kN => k_asm
  intro t1 h1 tk1 F1 N1
  rw [rn_list, quote1]
  have hl : (crlfS false x.cps.toList).toArray.size ≤ 40000 := by
    rw [List.size_toArray]
    have := crlfS_len x.cps.toList false
    have e : x.cps.toList.length = x.length := Array.length_toList
    omega
  generalize hT : (crlfS false x.cps.toList).toArray = T at hl
  k_steps
  k_dflt (refine' call_sub (seeks1 T (by omega)) (pat1 ?k1) ?h1 ?h2 ?h3 ?kF ?kN ?_)
  case k1 => k_in
  case h1 => (show T.size ≤ 50000; omega)
  case h2 => decide +kernel
  case h3 => decide +kernel
  case kF => k_asm
  case kN => k_asm
  intro t2 h2 tk2 F2 N2
  rw [dd_list, quote2, ← hT, List.toList_toArray, quote_is]
  k_steps
  exact says_end hret (by k_asm) (by k_asm) (by ktr_rel) (Ret.intro _ rfl)
end Mine
end
section
open PySem PySem.W PyProof.Rows PySem.Calls
set_option maxRecDepth 100000
set_option maxHeartbeats 0
namespace Mine
local macro_rules | `(tactic| walk_at "none at all") => `(tactic| fail "none")
local macro_rules | `(tactic| walk_at "none at all") => `(tactic| fail "none")
local macro_rules | `(tactic| walk_at "none at all") => `(tactic| fail "none")
local macro_rules | `(tactic| walk_at "none at all") => `(tactic| fail "none")
local macro_rules | `(tactic| walk_at "none at all") => `(tactic| fail "none")
local macro_rules | `(tactic| walk_at "none at all") => `(tactic| fail "none")
local macro_rules | `(tactic| walk_at "none at all") => `(tactic| fail "none")
local macro_rules | `(tactic| walk_at "none at all") => `(tactic| fail "none")
local macro_rules | `(tactic| walk_at "none at all") => `(tactic| fail "none")
local macro_rules | `(tactic| walk_at "none at all") => `(tactic| fail "none")
local macro_rules | `(tactic| walk_at "none at all") => `(tactic| fail "none")
local macro_rules | `(tactic| walk_at "none at all") => `(tactic| fail "none")
local macro_rules | `(tactic| walk_at "none at all") => `(tactic| fail "none")
local macro_rules | `(tactic| walk_at "none at all") => `(tactic| fail "none")
local macro_rules | `(tactic| walk_at "m1") => `(tactic| (first | (k_unfold; (try dsimp only)) | ((with_reducible show wpAny _ _ _ _ _ _); walk1) | ((with_reducible show LeaveK _ _ _ _ _ _ _); walk1) | ((with_reducible show _ ∧ _); walk1) | ((with_reducible show (if _ then _ else _)); walk1) | ((with_reducible show wpAny _ _ _ _ _ _); dsimp only; walk1)))
local macro_rules | `(tactic| k_steps) => `(tactic| repeat' (walk_at "m1"))
local macro_rules | `(tactic| ktr_rel) => `(tactic| first | exact fun _ h => h | (intro p hp; simp only [List.mem_cons, List.mem_append, hp, or_true, true_or]))
local macro_rules | `(tactic| walk_at "all2") => `(tactic| ((try dsimp only); first | exact List.forall_mem_nil _ | (refine' List.forall_mem_cons.mpr ⟨?q1, ?q2⟩; (case q1 => ((try dsimp only); rfl)); (case q2 => walk_at "all2"))))
local macro_rules | `(tactic| walk_at "turn") => `(tactic| (k_dflt (first | (refine' TurnEnd.intro ?tc ?tF ?tN ?tl ?to ?tI ?tk ?tp) | (refine' TurnEnd.introC ?tc ?tF ?tN ?tl ?to ?tI ?tk ?tp)); (case tF => k_asm); (case tN => k_asm); (case to => ktr_rel)))
local macro_rules | `(tactic| walk_at "call builtin:issubclass") => `(tactic| (k_here; (with_reducible show wpAny _ _ (call (Value.builtin "issubclass") [Value.type "str", Value.ref _]) _ _ _); k_dflt (refine' issub_tuple ?k1 ?_; (case k1 => exact (News.get (by k_asm) (by k_mem))))))
local macro_rules | `(tactic| walk_at "call ref") => `(tactic| (k_here; (with_reducible show wpAny _ _ (call (Value.ref 111) _) _ _ _); k_dflt (refine' Says.use0 (fspath_says _ _ _ _ _ _) ?k1 ?k2 ?k3 ?k4 ?k5 ?kK ?kd ?ku trivial ?_; (case k1 => k_asm); (case k2 => k_asm); (case k3 => k_asm); (case k4 => k_asm); (case k5 => k_asm); (case kK => first | exact rfl | assumption); (case kd => ktr_room); (case ku => ktr_units); k_whole; intro t9 h9 tk9 F9 N9; (try dsimp only); (try k_fold))))
local macro_rules | `(tactic| walk_at "call ref") => `(tactic| (k_here; (with_reducible show wpAny _ _ (call (Value.ref 125) _) _ _ _); k_dflt (refine' Says.use0 (getsep_says _ _ _ _ _ _) ?k1 ?k2 ?k3 ?k4 ?k5 ?kK ?kd ?ku trivial ?_; (case k1 => k_asm); (case k2 => k_asm); (case k3 => k_asm); (case k4 => k_asm); (case k5 => k_asm); (case kK => first | exact rfl | assumption); (case kd => ktr_room); (case ku => ktr_units); k_whole; intro t9 h9 tk9 F9 N9; (try dsimp only); (try k_fold))))
local macro_rules | `(tactic| walk_at "call ref") => `(tactic| (k_here; (with_reducible show wpAny _ _ (call (Value.ref 139) _) _ _ _); k_dflt (refine' Roots.use (splitroot_says _ _ _ _ _ _ ?hx) ?k1 ?k2 ?k3 ?k4 ?k5 ?kK ?kd ?ku ?_; (case hx => assumption); (case k1 => k_asm); (case k2 => k_asm); (case k3 => k_asm); (case k4 => k_asm); (case k5 => k_asm); (case kK => first | exact rfl | assumption); (case kd => ktr_room); (case ku => ktr_units); k_whole; intro D9 t91 t92 t93 h9 tk9 F9 N9 l9; (try dsimp only); (try k_fold))))
local macro_rules | `(tactic| walk_at "call builtin:str.split") => `(tactic| (k_here; (with_reducible show wpAny _ _ (call (Value.builtin "str.split") [Value.str _ _, Value.str _ _]) _ _ _); k_dflt (refine' KSpl.split1 ?k1 ?k2 ?k3 ?_ ?k4; (case k1 => k_asm); (case k2 => k_asm); (case k3 => decide +kernel); (case k4 => (rw [sizeLine_eq]; omega)); k_whole; intro D8 l8 h8 k8 e8 s8 F8 N8 a8; (try dsimp only))))
local macro_rules | `(tactic| walk_at "truthy ref") => `(tactic| (k_here; (with_reducible show wpAny _ _ (truthy (Value.ref _)) _ _ _); k_dflt (first | (refine' truthy_top0 ?k1 ?_; (case k1 => k_asm)) | (refine' truthy_top1 ?k1 ?k2 ?_; (case k1 => k_asm); (case k2 => first | assumption | omega)))))
local macro_rules | `(tactic| walk_at "call builtin:list.append") => `(tactic| (k_here; (with_reducible show wpAny _ _ (call (Value.builtin "list.append") [Value.ref _, _]) _ _ _); k_dflt (refine' app_top ?k1 ?k2 ?k3 ?k4 ?_; (case k1 => k_asm); (case k2 => k_asm); (case k3 => with_reducible assumption); (case k4 => first | with_reducible assumption | exact Nat.zero_le _); k_whole; intro h7 F7 N7; (try dsimp only))))
local macro_rules | `(tactic| walk_at "call builtin:list.pop") => `(tactic| (k_here; (with_reducible show wpAny _ _ (call (Value.builtin "list.pop") [Value.ref _]) _ _ _); k_dflt (refine' pop_top ?k1 ?k2 ?k3 ?k4 ?_; (case k1 => k_asm); (case k2 => k_asm); (case k3 => with_reducible assumption); (case k4 => with_reducible assumption); k_whole; intro h7 F7 N7; (try dsimp only))))
local macro_rules | `(tactic| walk_at "subscriptTail") => `(tactic| (k_here; (with_reducible show wpAny _ _ (subscriptTail _ _ (Value.ref _) (Value.int (-1) _)) _ _ _); k_dflt (refine' last_top ?k1 ?_ ?k2; (case k1 => k_asm); (case k2 => with_unfolding_all rfl))))
theorem snoc_or {α : Type} (l : List α) : l = [] ∨ ∃ q y, l = q ++ [y] := by
  cases h : l.reverse with
  | nil => exact .inl (List.reverse_eq_nil_iff.mp h)
  | cons y q => exact .inr ⟨q.reverse, y, by rw [← List.reverse_reverse l, h, List.reverse_cons]⟩
theorem retS {x y : Str} {t : Tok} (e : x = y) : Ret (fun t => .str y t) (.str x t) [] := ⟨rfl, t, by rw [e]⟩
theorem rootS_len (x : Str) : (rootS x).1.length ≤ x.length + 1 ∧ (rootS x).2.length ≤ x.length := by
  unfold rootS
  split
  · exact ⟨Nat.zero_le _, Nat.le_refl _⟩
  · split
    · exact ⟨by show 1 ≤ _; omega, Txt.slice_le x _ _⟩
    · split
      · exact ⟨by show 1 ≤ _; omega, Txt.slice_le x _ _⟩
      · exact ⟨Nat.le_succ_of_le (Txt.slice_le x _ _), Txt.slice_le x _ _⟩
def nstep (r : Str) (st : List Str) (c : Str) : List Str :=
  if (c.length : Int) = 0 ∨ (c == Str.ofString ".") = true then st
  else if (c != Str.ofString "..") = true ∨ ((r.length : Int) = 0 ∧ st = []) ∨ st.getLast? = some (Str.ofString "..") then st ++ [c] else st.dropLast
def NP (r : Str) (cs : List Str) (i : Nat) (c : List (Str × Tok)) : Prop :=
  c.map (·.1) = (cs.take i).foldl (nstep r) [] ∧ ((c.map (·.1)).map (·.length)).sum + (c.map (·.1)).length ≤ ((cs.take i).map (·.length)).sum + (cs.take i).length
section
variable {r y z : Str} {cs : List Str} {i : Nat} {c q : List (Str × Tok)} {ty tz : Tok}
theorem take_snoc (h : cs[i]? = some y) : cs.take (i + 1) = cs.take i ++ [y] := by simp [List.take_add_one, h]
theorem NP.to {st : List Str} {c' : List (Str × Tok)} (hp : NP r cs i c) (hy : cs[i]? = some y) (e : nstep r (c.map (·.1)) y = c'.map (·.1)) (hl : ((c'.map (·.1)).map (·.length)).sum + (c'.map (·.1)).length ≤ ((c.map (·.1)).map (·.length)).sum + (c.map (·.1)).length + y.length + 1) : NP r cs (i + 1) c' := by
  obtain ⟨h1, h2⟩ := hp
  refine ⟨?_, ?_⟩
  · rw [take_snoc hy, List.foldl_append, ← h1]; exact e.symm
  · rw [take_snoc hy]; simp only [List.map_append, List.sum_append, List.map_cons, List.map_nil, List.sum_cons, List.sum_nil, List.length_append, List.length_cons, List.length_nil] at *; omega
theorem np_skip (hp : NP r cs i c) (hy : cs[i]? = some y) (h : (y.length : Int) = 0 ∨ (y == Str.ofString ".") = true) : NP r cs (i + 1) c :=
  hp.to (st := []) hy (by unfold nstep; rw [if_pos h]) (by omega)
theorem np_app (hp : NP r cs i c) (hy : cs[i]? = some y) (h : (y.length : Int) ≠ 0) (h2 : (y == Str.ofString ".") = false) (h3 : (y != Str.ofString "..") = true ∨ ((r.length : Int) = 0 ∧ c.map (·.1) = []) ∨ (c.map (·.1)).getLast? = some (Str.ofString "..")) : NP r cs (i + 1) (c ++ [(y, ty)]) :=
  hp.to (st := []) hy (by unfold nstep; rw [if_neg (by rw [h2]; simp; omega), if_pos h3]; simp) (by simp; omega)
theorem np_pop (hp : NP r cs i (q ++ [(z, tz)])) (hy : cs[i]? = some y) (h : (y.length : Int) ≠ 0) (h2 : (y == Str.ofString ".") = false) (h3 : (y != Str.ofString "..") = false) (h4 : (z == Str.ofString "..") = false) : NP r cs (i + 1) q := by
  refine hp.to (st := []) hy ?_ (by simp; omega)
  unfold nstep
  have e4 : z ≠ Str.ofString ".." := by simpa using h4
  rw [if_neg (by rw [h2]; simp; omega), if_neg (by rw [h3]; simp [e4])]
  simp
theorem np_nil (hp : NP r cs i []) (hy : cs[i]? = some y) (h : (y.length : Int) ≠ 0) (h2 : (y == Str.ofString ".") = false) (h3 : (y != Str.ofString "..") = false) (h4 : (r.length : Int) ≠ 0) : NP r cs (i + 1) [] := by
  refine hp.to (st := []) hy ?_ (by simp)
  unfold nstep
  rw [if_neg (by rw [h2]; simp; omega), if_neg (by rw [h3]; simp; omega)]
  simp
theorem last_dd (h : (z == Str.ofString "..") = true) : ((q ++ [(z, tz)]).map (·.1)).getLast? = some (Str.ofString "..") := by
  simp [beq_iff_eq.mp h]
theorem join_len (l : List Str) : (Txt.join (Str.ofString "/") l).length ≤ (l.map (·.length)).sum + l.length := by
  have h := StrLaws.join_length_le (Str.ofString "/") l
  rw [← StrLaws.glued_eq_join] at h
  have e : (Str.ofString "/").length = 1 := by decide +kernel
  rw [e, Nat.mul_one] at h
  exact h
theorem sum_mem {l : List Str} (h : y ∈ l) : y.length ≤ (l.map (·.length)).sum := by
  induction l with
  | nil => cases h
  | cons a r ih =>
    rcases List.mem_cons.mp h with rfl | h
    · simp
    · have := ih h; simp; omega
theorem sum_take (l : List Str) (i : Nat) : ((l.take i).map (·.length)).sum + (l.take i).length ≤ (l.map (·.length)).sum + l.length := by
  induction l generalizing i with
  | nil => simp
  | cons a r ih =>
    cases i with
    | zero => simp
    | succ i => have := ih i; simp only [List.take_succ_cons, List.map_cons, List.sum_cons, List.length_cons]; omega
theorem NP.len (hp : NP r cs i c) {n : Nat} (h : (cs.map (·.length)).sum + cs.length ≤ n) : ((c.map (·.1)).map (·.length)).sum + (c.map (·.1)).length ≤ n := by
  have h1 := hp.2
  have h2 := sum_take cs i
  omega
end
def normS (x : Str) : Str :=
  if (x.length : Int) = 0 then Str.ofString "."
  else if (((rootS x).1 ++ Txt.join (Str.ofString "/") ((Txt.split (rootS x).2 (Str.ofString "/")).foldl (nstep (rootS x).1) [])).length : Int) = 0 then Str.ofString "."
  else (rootS x).1 ++ Txt.join (Str.ofString "/") ((Txt.split (rootS x).2 (Str.ofString "/")).foldl (nstep (rootS x).1) [])
theorem normS_1 {x : Str} (h : (x.length : Int) ≠ 0) (h2 : (((rootS x).1 ++ Txt.join (Str.ofString "/") ((Txt.split (rootS x).2 (Str.ofString "/")).foldl (nstep (rootS x).1) [])).length : Int) = 0) : Str.ofString "." = normS x := by
  unfold normS; rw [if_neg h, if_pos h2]
theorem normS_2 {x : Str} (h : (x.length : Int) ≠ 0) (h2 : (((rootS x).1 ++ Txt.join (Str.ofString "/") ((Txt.split (rootS x).2 (Str.ofString "/")).foldl (nstep (rootS x).1) [])).length : Int) ≠ 0) : (rootS x).1 ++ Txt.join (Str.ofString "/") ((Txt.split (rootS x).2 (Str.ofString "/")).foldl (nstep (rootS x).1) []) = normS x := by
  unfold normS; rw [if_neg h, if_neg h2]
local macro_rules | `(tactic| walk_at "call builtin:str.join") => `(tactic| (k_here; (with_reducible show wpAny _ _ (call (Value.builtin "str.join") [Value.str _ _, Value.ref _]) _ _ _); k_dflt (refine' join_top ?k1 ?k2 ?k3 ?_; (case k1 => k_asm); (case k2 => decide +kernel); (case k3 => with_reducible assumption); k_whole; intro t7 k7; (try dsimp only))))
theorem normpath_says (w : World) (mean : ExcName → Option Value) (mg mb : Str → Option Value) (x : Str) (tx : Tok) (hx : x.length ≤ 20000) :
    Says w mean mg mb 5 146 (fun _ => True) [.str x tx] (Ret fun t => .str (normS x) t) := by
  k_with_none
  w_top off
  unfold Says
  k_fill
  intro dp un gd cn cs a ccd cl outer A₀ base h₀ L m news s Q E B F X N T hk hP hd hu hret
  refine wpAny_call ?_
  k_dflt cell_enter
  have hr := rootS_len x
  have hr1 : (rootS x).1.length ≤ 20001 := by omega
  have hr2 : (rootS x).2.length ≤ 20000 := by omega
  k_with "pyIter ref" => fail "here"
  k_steps
  rotate_left
  · refine says_end hret (by k_asm) (by k_asm) (by ktr_rel) (retS ?_)
    unfold normS
    rw [if_pos (by with_reducible assumption)]
  rename_i l8 c8 h8 k8 e8 s8 a8 h82 D7 h72 l7 h73 F74 N74
  have hsz : ((c8.map (·.1)).map (·.length)).sum + (c8.map (·.1)).length ≤ 20001 := by
    have hw := split_weight (rootS x).2 (Str.ofString "/") (by decide +kernel)
    rw [e8]; omega
  k_dflt (refine' for_listT (σ := List (Str × Tok) × Nat × Tok × Tok × Tok × Tok) (fun c => strValues c.1) (fun c => c.2.1) (fun c => [(Str.ofString "new_comps", .ref D7), (Str.ofString "dot", .str (Str.ofString ".") c.2.2.1), (Str.ofString "dotdot", .str (Str.ofString "..") c.2.2.2.1), (Str.ofString "sep", .str (Str.ofString "/") c.2.2.2.2.1), (Str.ofString "initial_slashes", .str (rootS x).1 c.2.2.2.2.2)]) (fun i c => NP (rootS x).1 (c8.map (·.1)) i c.1) ([], 0, _, _, _, _) ?hh ?hl ?hlL ?hlD ?hD F74 N74 ?hk ?hp ?turn ?done)
  case hh => rfl
  case hl => exact ⟨_, (News.get (by k_asm) (by k_mem)), rfl, _, rfl⟩
  case hlL => exact (N74 _ (.tail _ (.head _))).2.1
  case hlD => exact Nat.ne_of_lt l7.1
  case hD => exact fun p hp => (List.mem_cons.mp hp).elim (fun e => e ▸ Nat.ne_of_lt l7.1) fun hp => (List.mem_cons.mp hp).elim (fun e => e ▸ Nat.ne_of_lt l7.2.1) fun hp => Nat.ne_of_lt (kst_ltOf l7.2.2 p hp)
  case hk => k_dflt (walk_at "all2")
  case hp => exact ⟨rfl, Nat.le_refl _⟩
  case turn =>
    rintro I T9 own hcI hrT hoT hTD ⟨c, n, t1, t2, t3, t4⟩ i v u h tk hi hv hp F₁ N₁
    dsimp only at hp F₁ N₁
    obtain ⟨y, ty, rfl, hy⟩ := sv_get hv
    have hyl : y.length ≤ 20001 := by have := sum_mem (List.mem_of_getElem? hy); omega
    have hcl := hp.len hsz
    have hcl2 : c.length ≤ 20001 := by rw [List.length_map] at hcl; omega
    rcases snoc_or c with rfl | ⟨q, ⟨z, tz⟩, rfl⟩
    · have N₂ : News _ _ h ((D7, PySem.W.listOf ([] : List Value).toArray n) :: T9) := N₁
      clear N₁
      have hs0 : ([] : List Value).length ≤ 50000 := Nat.zero_le _
      k_steps
      all_goals (try dsimp only)
      all_goals first
        | (k_dflt (refine' TurnEnd.introT (by first | exact .inl rfl | exact .inr rfl) ([], n, t1, t2, t3, t4) ?tF N₂ hcI hrT hoT ?tk ?tp)
           case tF => k_asm
           case tk => k_dflt (walk_at "all2")
           case tp => first | exact np_skip hp hy (.inl (by with_reducible assumption)) | exact np_skip hp hy (.inr (by with_reducible assumption)) | exact np_nil hp hy (by with_reducible assumption) (by with_reducible assumption) (by with_reducible assumption) (by with_reducible assumption))
        | (k_dflt (refine' TurnEnd.introT (by first | exact .inl rfl | exact .inr rfl) ([(y, ty)], n + 1, t1, t2, t3, t4) ?tF ?tN hcI hrT hoT ?tk ?tp)
           case tF => k_asm
           case tN => k_asm
           case tk => k_dflt (walk_at "all2")
           case tp => first | exact np_app hp hy (by with_reducible assumption) (by with_reducible assumption) (.inl (by with_reducible assumption)) | exact np_app hp hy (by with_reducible assumption) (by with_reducible assumption) (.inr (.inl ⟨(by with_reducible assumption), rfl⟩)))
    · rw [sv_snoc] at N₁
      have hs0 : (strValues q).length ≤ 50000 := by rw [sv_len]; simp at hcl2; omega
      have hs1 : (strValues q ++ [Value.str z tz]).length ≤ 50000 := by rw [List.length_append, sv_len]; simp at hcl2 ⊢; omega
      have hzl : z.length ≤ 20001 := by have := sum_mem (l := (q ++ [(z, tz)]).map (·.1)) (y := z) (by simp); omega
      k_steps
      all_goals (try dsimp only)
      all_goals first
        | (k_dflt (refine' TurnEnd.introT (by first | exact .inl rfl | exact .inr rfl) (q ++ [(z, tz)], n, t1, t2, t3, t4) ?tF ?tN hcI hrT hoT ?tk ?tp)
           case tF => k_asm
           case tN => (simp only [sv_snoc]; k_asm)
           case tk => k_dflt (walk_at "all2")
           case tp => first | exact np_skip hp hy (.inl (by with_reducible assumption)) | exact np_skip hp hy (.inr (by with_reducible assumption)))
        | (k_dflt (refine' TurnEnd.introT (by first | exact .inl rfl | exact .inr rfl) (q ++ [(z, tz)] ++ [(y, ty)], n + 1, t1, t2, t3, t4) ?tF ?tN hcI hrT hoT ?tk ?tp)
           case tF => k_asm
           case tN => (simp only [sv_snoc]; k_asm)
           case tk => k_dflt (walk_at "all2")
           case tp => first | exact np_app hp hy (by with_reducible assumption) (by with_reducible assumption) (.inl (by with_reducible assumption)) | exact np_app hp hy (by with_reducible assumption) (by with_reducible assumption) (.inr (.inr (last_dd (by with_reducible assumption)))))
        | (k_dflt (refine' TurnEnd.introT (by first | exact .inl rfl | exact .inr rfl) (q, n + 1, t1, t2, t3, t4) ?tF ?tN hcI hrT hoT ?tk ?tp)
           case tF => k_asm
           case tN => k_asm
           case tk => k_dflt (walk_at "all2")
           case tp => exact np_pop hp hy (by with_reducible assumption) (by with_reducible assumption) (by with_reducible assumption) (by with_reducible assumption))
  case done =>
    rintro ⟨c, n, t1, t2, t3, t4⟩ u h tk hp F₁ N₁
    dsimp only at hp F₁ N₁
    have hcl := hp.len hsz
    have hjl : (Txt.join (Str.ofString "/") (c.map (·.1))).length ≤ 20001 := Nat.le_trans (join_len _) hcl
    have hcw : ((c.map (·.1)).map (·.length)).sum + (c.map (·.1)).length ≤ 50000 := by omega
    have hq : c.map (·.1) = (Txt.split (rootS x).2 (Str.ofString "/")).foldl (nstep (rootS x).1) [] := by
      rw [hp.1, ← e8, List.take_of_length_le (by simp [strValues])]
    k_steps
    · refine says_end hret (by k_asm) (by k_asm) (by ktr_rel) (retS ?_)
      rw [hq]
      rw [hq] at *
      exact normS_2 (by with_reducible assumption) (by with_reducible assumption)
    · refine says_end hret (by k_asm) (by k_asm) (by ktr_rel) (retS ?_)
      rw [hq] at *
      exact normS_1 (by with_reducible assumption) (by with_reducible assumption)
end Mine
end
section
open PySem PySem.W PyProof.Rows PySem.Calls
set_option maxRecDepth 100000
set_option maxHeartbeats 0
namespace Mine
local macro_rules | `(tactic| walk_at "none at all") => `(tactic| fail "none")
local macro_rules | `(tactic| walk_at "none at all") => `(tactic| fail "none")
local macro_rules | `(tactic| walk_at "none at all") => `(tactic| fail "none")
local macro_rules | `(tactic| walk_at "none at all") => `(tactic| fail "none")
local macro_rules | `(tactic| walk_at "none at all") => `(tactic| fail "none")
local macro_rules | `(tactic| walk_at "none at all") => `(tactic| fail "none")
local macro_rules | `(tactic| walk_at "none at all") => `(tactic| fail "none")
local macro_rules | `(tactic| walk_at "none at all") => `(tactic| fail "none")
local macro_rules | `(tactic| walk_at "none at all") => `(tactic| fail "none")
local macro_rules | `(tactic| walk_at "none at all") => `(tactic| fail "none")
local macro_rules | `(tactic| walk_at "none at all") => `(tactic| fail "none")
local macro_rules | `(tactic| walk_at "none at all") => `(tactic| fail "none")
local macro_rules | `(tactic| walk_at "none at all") => `(tactic| fail "none")
local macro_rules | `(tactic| walk_at "none at all") => `(tactic| fail "none")
local macro_rules | `(tactic| walk_at "none at all") => `(tactic| fail "none")
local macro_rules | `(tactic| walk_at "none at all") => `(tactic| fail "none")
local macro_rules | `(tactic| walk_at "m1") => `(tactic| ((fail_if_success (with_reducible show wpAny _ _ (subscriptTail _ (PySem.Expr.Slice none none (some _) _) (Value.ref _) (Value.ref _)) _ _ _)); first | (k_unfold; (try dsimp only)) | ((with_reducible show wpAny _ _ _ _ _ _); walk1) | ((with_reducible show LeaveK _ _ _ _ _ _ _); walk1) | ((with_reducible show _ ∧ _); walk1) | ((with_reducible show (if _ then _ else _)); walk1) | ((with_reducible show wpAny _ _ _ _ _ _); dsimp only; walk1)))
local macro_rules | `(tactic| k_steps) => `(tactic| repeat' (walk_at "m1"))
local macro_rules | `(tactic| ktr_rel) => `(tactic| first | exact fun _ h => h | (intro p hp; simp only [List.mem_cons, List.mem_append, hp, or_true, true_or]))
local macro_rules | `(tactic| walk_at "all2") => `(tactic| ((try dsimp only); first | exact List.forall_mem_nil _ | (refine' List.forall_mem_cons.mpr ⟨?q1, ?q2⟩; (case q1 => ((try dsimp only); rfl)); (case q2 => walk_at "all2"))))
local macro_rules | `(tactic| walk_at "turn") => `(tactic| (k_dflt (first | (refine' TurnEnd.intro ?tc ?tF ?tN ?tl ?to ?tI ?tk ?tp) | (refine' TurnEnd.introC ?tc ?tF ?tN ?tl ?to ?tI ?tk ?tp)); (case tF => k_asm); (case tN => k_asm); (case to => ktr_rel)))
local macro_rules | `(tactic| walk_at "call ref") => `(tactic| (k_here; (with_reducible show wpAny _ _ (call (Value.ref 177) _) _ _ _); k_dflt (refine' Says.use0 (sent_says _ _ _ _ _ _ _ _ ?hx) ?k1 ?k2 ?k3 ?k4 ?k5 ?kK ?kd ?ku trivial ?_; (case hx => (first | assumption | omega)); (case k1 => k_asm); (case k2 => k_asm); (case k3 => k_asm); (case k4 => k_asm); (case k5 => k_asm); (case kK => first | exact rfl | assumption); (case kd => ktr_room); (case ku => ktr_units); k_whole; intro t9 h9 tk9 F9 N9; (try dsimp only); (try k_fold))))
local macro_rules | `(tactic| walk_at "mem") => `(tactic| first | with_reducible assumption | exact List.Mem.head _ | (refine List.Mem.tail _ ?_; walk_at "mem"))
local macro_rules | `(tactic| walk_at "exec Assign cons ListComp") => `(tactic| (k_here; k_dflt (refine LCg.Assign_ListComp_U (F₀ := by k_asm) (by rfl) (by with_unfolding_all rfl) (by with_unfolding_all rfl) (by decide) (by rfl) (by decide) (by rfl) (by rfl) (by rfl) ?_)))
local macro_rules | `(tactic| walk_at "subscriptTail Name Slice ref ref") => `(tactic| (k_here; (with_reducible show wpAny _ _ (subscriptTail _ (PySem.Expr.Slice none (some _) none _) (Value.ref _) (Value.ref _)) _ _ _); k_dflt (refine' sl_upto 1 ?k1 ?k2 ?k3 ?k4 ?k5 ?_ ?k6 ?k7; (case k1 => k_asm); (case k2 => k_asm); (case k3 => walk_at "mem"); (case k4 => exact IsPart.int _ _); (case k5 => omega); (case k6 => with_unfolding_all rfl); (case k7 => (intro _; with_unfolding_all rfl)); k_whole; intro D' h' F' N' l1; (try dsimp only); (try k_sweep))))
theorem off1_mem {D : Addr} : ∀ {l : List (Addr × Obj)}, LCg.Off1 D l → ∀ p ∈ l, p.1 ≠ D
  | [], _, _, h => nomatch h
  | _ :: _, x, p, h => by
    rcases List.mem_cons.mp h with rfl | h
    · exact x.1
    · exact off1_mem x.2 p h
theorem split_short {x : Str} {c : List (Str × Tok)} (e : c.map (·.1) = Txt.split x (Str.ofString "/")) (h : x.length ≤ 40000) : c.length ≤ 50000 := by
  have hw := split_weight x (Str.ofString "/") (by decide +kernel)
  rw [← e, List.length_map] at hw
  omega
theorem both_ways {P : Prop} {part y : Str} (h : (part == y) = true) (h2 : (part == y) = false) : P := by rw [h] at h2; cases h2
abbrev HSt := Int × Tok × Tok × Addr × List (Str × Tok) × Nat
def hstep (st : Int × List Str) (p : Str) : Int × List Str :=
  if (p == Str.ofString "..") = true then (st.1 + 1, st.2)
  else if ([Str.ofString "", Str.ofString "."].any fun x => x == p) = true then st
  else if 0 < st.1 then (st.1 - 1, st.2) else (st.1, p :: st.2)
def HP (ps : List Str) (st : Int × List Str) (i : Nat) (c : Int × List (Str × Tok)) : Prop :=
  (c.1, c.2.map (·.1)) = (ps.take i).foldl hstep st ∧ 0 ≤ c.1 ∧ c.1 ≤ 12000 + i ∧ c.2.length ≤ 12000 + i
theorem HP.start {ps : List Str} {s : Int} {c : List (Str × Tok)} (h0 : 0 ≤ s) (h1 : s ≤ 12000) (h2 : (c.map (·.1)).length ≤ 12000) : HP ps (s, c.map (·.1)) 0 (s, c) := by
  rw [List.length_map] at h2
  exact ⟨rfl, h0, by omega, by omega⟩
theorem both_any {P : Prop} {y : Str} (h : ([Str.ofString "", Str.ofString "."].any fun x => x == y) = true) (h2 : ([Str.ofString "", Str.ofString "."].any fun x => x == y) = false) : P := by rw [h] at h2; cases h2
theorem led_new {D I : Addr} {o oI : Obj} {big small : List (Addr × Obj)} (l : ∀ p ∈ big, p.1 < D) (hI : (I, oI) ∈ big) (hn : ∀ p ∈ small, p.1 ≠ I) : ∀ p ∈ (D, o) :: small, p.1 ≠ I := fun p hp => by
  rcases List.mem_cons.mp hp with rfl | hp
  · exact (Nat.ne_of_lt (l _ hI)).symm
  · exact hn p hp
section
variable {ps : List Str} {S : Int × List Str} {i : Nat} {st : Int} {cn : List (Str × Tok)} {y : Str} {ty : Tok}
theorem HP.to {st' : Int} {cn' : List (Str × Tok)} (hp : HP ps S i (st, cn)) (hy : ps[i]? = some y) (e : hstep (st, cn.map (·.1)) y = (st', cn'.map (·.1))) (h0 : 0 ≤ st') (h1 : st' ≤ st + 1) (h2 : cn'.length ≤ cn.length + 1) : HP ps S (i + 1) (st', cn') := by
  obtain ⟨a1, a2, a3, a4⟩ := hp
  dsimp only at a1 a2 a3 a4
  refine ⟨?_, h0, by show st' ≤ _; omega, by show cn'.length ≤ _; omega⟩
  rw [show ps.take (i + 1) = ps.take i ++ [y] by simp [List.take_add_one, hy], List.foldl_append, ← a1]
  exact e.symm
theorem HP.dd (hp : HP ps S i (st, cn)) (hy : ps[i]? = some y) (h : (y == Str.ofString "..") = true) : HP ps S (i + 1) (st + 1, cn) :=
  hp.to hy (by unfold hstep; rw [if_pos h]) (by have := hp.2.1; dsimp only at this; omega) (by omega) (by omega)
theorem HP.skip (hp : HP ps S i (st, cn)) (hy : ps[i]? = some y) (h : (y == Str.ofString "..") = false) (h2 : ([Str.ofString "", Str.ofString "."].any fun x => x == y) = true) : HP ps S (i + 1) (st, cn) :=
  hp.to hy (by unfold hstep; rw [if_neg (by rw [h]; decide), if_pos h2]) hp.2.1 (by omega) (by omega)
theorem HP.minus (hp : HP ps S i (st, cn)) (hy : ps[i]? = some y) (h : (y == Str.ofString "..") = false) (h2 : ([Str.ofString "", Str.ofString "."].any fun x => x == y) = false) (h3 : 0 < st) : HP ps S (i + 1) (st - 1, cn) :=
  hp.to hy (by unfold hstep; rw [if_neg (by rw [h]; decide), if_neg (by rw [h2]; decide), if_pos h3]) (by omega) (by omega) (by omega)
theorem HP.cons (hp : HP ps S i (st, cn)) (hy : ps[i]? = some y) (h : (y == Str.ofString "..") = false) (h2 : ([Str.ofString "", Str.ofString "."].any fun x => x == y) = false) (h3 : ¬ 0 < st) : HP ps S (i + 1) (st, (y, ty) :: cn) :=
  hp.to hy (by unfold hstep; rw [if_neg (by rw [h]; decide), if_neg (by rw [h2]; decide), if_neg h3]; rfl) hp.2.1 (by omega) (by simp)
end
theorem led_ne {D : Addr} {big small : List (Addr × Obj)} (l : ∀ p ∈ big, p.1 < D) (h : ∀ p ∈ small, p ∈ big) : ∀ p ∈ small, p.1 ≠ D := fun p hp => Nat.ne_of_lt (l p (h p hp))
theorem piece_len {x y : Str} {c : List (Str × Tok)} {i n : Nat} (e : c.map (·.1) = Txt.split x (Str.ofString "/")) (hy : (c.reverse.map (·.1))[i]? = some y) (h : x.length ≤ n) : y.length ≤ n := by
  have hw := split_weight x (Str.ofString "/") (by decide +kernel)
  have hm : y ∈ c.reverse.map (·.1) := List.mem_of_getElem? hy
  rw [List.map_reverse, List.mem_reverse, e] at hm
  have h2 : ∀ l : List Str, y ∈ l → y.length + 1 ≤ (l.map (·.length)).sum + l.length := by
    intro l
    induction l with
    | nil => intro h; cases h
    | cons a r ih =>
      intro h
      rcases List.mem_cons.mp h with rfl | h
      · simp; omega
      · have := ih h; simp; omega
  have := h2 _ hm
  omega
theorem split_short' {x : Str} {c : List (Str × Tok)} (e : c.map (·.1) = Txt.split x (Str.ofString "/")) : c.length ≤ x.length + 1 := by
  have hw := split_weight x (Str.ofString "/") (by decide +kernel)
  rw [← e, List.length_map] at hw
  omega
def hfold (pt : Str) (st : Int) (ns : List Str) : Int × List Str := (Txt.split (sentS pt (Str.ofString "")) (Str.ofString "/")).reverse.foldl hstep (st, ns)
abbrev hroot (pt : Str) : Str := Txt.slice pt none (some ((pt.length : Int) - ((Txt.lstripChars pt (Str.ofString "/")).length : Int)))
def htail (pt : Str) (st : Int) (ns : List Str) : Str × Int × List Str := (hroot pt, if (hroot pt != Str.ofString "") = true then 0 else (hfold pt st ns).1, (hfold pt st ns).2)
def handS (r : Str) (s : Int) (ns : List Str) (p : Str) : Str × Int × List Str :=
  if (r != Str.ofString "") = true then (r, 0, ns.map fun y => sentS y (Str.ofString "/"))
  else if (p == Str.ofString "") = true then
    if s = 0 then (Str.ofString "", 1 - ((ns.take 1).length : Int), (ns.take 1).map (fun y => sentS y (Str.ofString "")) ++ (ns.map fun y => sentS y (Str.ofString "/")).drop 1)
    else htail (Str.ofString "..") (s - 1) (ns.map fun y => sentS y (Str.ofString "/"))
  else htail p s (ns.map fun y => sentS y (Str.ofString "/"))
def HandP (r : Str × Int × List Str) (v : Value) (more : List (Addr × Obj)) : Prop := ∃ D D1 tr ts c n, v = .ref D ∧ more = [(D, ({ cls := .type "tuple", data := .seq #[.str r.1 tr, .int r.2.1 ts, .ref D1] } : Obj)), (D1, PySem.W.listOf (strValues c).toArray n)] ∧ c.map (·.1) = r.2.2
theorem HandP.intro {r : Str × Int × List Str} {D D1 : Addr} {tr ts : Tok} {c : List (Str × Tok)} {n : Nat} {a : Str} {b : Int} (e : r = (a, b, c.map (·.1))) :
    HandP r (.ref D) [(D, ({ cls := .type "tuple", data := .seq #[.str a tr, .int b ts, .ref D1] } : Obj)), (D1, PySem.W.listOf (strValues c).toArray n)] := by
  subst e; exact ⟨D, D1, tr, ts, c, n, rfl, rfl, rfl⟩
section
variable {r p : Str} {s : Int} {c c1 c2 cn : List (Str × Tok)} {st : Int}
theorem handS_1 (h : (r != Str.ofString "") = true) (h2 : c2.map (·.1) = (c.map (·.1)).map fun y => sentS y (Str.ofString "/")) : handS r s (c.map (·.1)) p = (r, 0, c2.map (·.1)) := by
  unfold handS; rw [if_pos h, h2]
theorem handS_2 (h : (r != Str.ofString "") = false) (hp : (p == Str.ofString "") = true) (h0 : s = 0) (h1 : c1.map (·.1) = ((c.take 1).map (·.1)).map fun y => sentS y (Str.ofString "")) (h2 : c2.map (·.1) = (c.map (·.1)).map fun y => sentS y (Str.ofString "/")) :
    handS r s (c.map (·.1)) p = (Str.ofString "", 1 - ((strValues c1).length : Int), (c1 ++ c2.drop 1).map (·.1)) := by
  have e := congrArg List.length h1
  rw [List.length_map, List.length_map] at e
  unfold handS; rw [if_neg (by rw [h]; decide), if_pos hp, if_pos h0, List.map_append, List.map_drop, h1, h2, sv_len, e]
  simp [List.map_take]
theorem htail_1 {c8 : List (Str × Tok)} {k : Nat} (e8 : c8.map (·.1) = Txt.split (sentS p (Str.ofString "")) (Str.ofString "/")) (hk : c8.length ≤ k) (hp : HP (c8.reverse.map (·.1)) (s, c2.map (·.1)) k (st, cn)) (hr : (hroot p != Str.ofString "") = true) : htail p s (c2.map (·.1)) = (hroot p, 0, cn.map (·.1)) := by
  have h := hp.1
  rw [List.take_of_length_le (by simp; exact hk), List.map_reverse, e8] at h
  unfold htail hfold; rw [if_pos hr, ← h]
theorem htail_2 {c8 : List (Str × Tok)} {k : Nat} (e8 : c8.map (·.1) = Txt.split (sentS p (Str.ofString "")) (Str.ofString "/")) (hk : c8.length ≤ k) (hp : HP (c8.reverse.map (·.1)) (s, c2.map (·.1)) k (st, cn)) (hr : (hroot p != Str.ofString "") = false) : htail p s (c2.map (·.1)) = (hroot p, st, cn.map (·.1)) := by
  have h := hp.1
  rw [List.take_of_length_le (by simp; exact hk), List.map_reverse, e8] at h
  unfold htail hfold; rw [if_neg (by rw [hr]; decide), ← h]
theorem hroot_dd : hroot (Str.ofString "..") = Str.ofString "" := by decide +kernel
theorem htail_dd {c8 : List (Str × Tok)} {k : Nat} (e8 : c8.map (·.1) = Txt.split (sentS (Str.ofString "..") (Str.ofString "")) (Str.ofString "/")) (hk : c8.length ≤ k) (hp : HP (c8.reverse.map (·.1)) (s, c2.map (·.1)) k (st, cn)) : htail (Str.ofString "..") s (c2.map (·.1)) = (Str.ofString "", st, cn.map (·.1)) :=
  (htail_2 e8 hk hp (by rw [hroot_dd]; decide +kernel)).trans (by rw [hroot_dd])
theorem handS_3 {q : Str × Int × List Str} (h : (r != Str.ofString "") = false) (hp : (p == Str.ofString "") = true) (h0 : s ≠ 0) (h2 : c2.map (·.1) = (c.map (·.1)).map fun y => sentS y (Str.ofString "/")) (e : htail (Str.ofString "..") (s - 1) (c2.map (·.1)) = q) : handS r s (c.map (·.1)) p = q := by
  unfold handS; rw [if_neg (by rw [h]; decide), if_pos hp, if_neg h0, ← h2, e]
theorem handS_4 {q : Str × Int × List Str} (h : (r != Str.ofString "") = false) (hp : (p == Str.ofString "") = false) (h2 : c2.map (·.1) = (c.map (·.1)).map fun y => sentS y (Str.ofString "/")) (e : htail p s (c2.map (·.1)) = q) : handS r s (c.map (·.1)) p = q := by
  unfold handS; rw [if_neg (by rw [h]; decide), if_neg (by rw [hp]; decide), ← h2, e]
end
theorem sentS_len (x y : Str) : (sentS x y).length ≤ 2 * x.length := by
  have h := sentL_len y.cps.toList x.cps.toList
  have e : x.cps.toList.length = x.length := Array.length_toList
  have e2 : (sentS x y).length = (sentL y.cps.toList x.cps.toList).length := by show (sentL y.cps.toList x.cps.toList).toArray.size = _; rw [List.size_toArray]
  omega
theorem name_len {c : List (Str × Tok)} {y : Str} {t : Tok} {k n : Nat} (h : (y, t) ∈ c) (hc : ((c.map (·.1)).map (·.length)).sum + k ≤ n) : y.length ≤ n + 8000 := by
  have h1 : y ∈ c.map (·.1) := List.mem_map.mpr ⟨_, h, rfl⟩
  have h2 : ∀ l : List Str, y ∈ l → y.length ≤ (l.map (·.length)).sum := by
    intro l
    induction l with
    | nil => intro h; cases h
    | cons a r ih =>
      intro h
      rcases List.mem_cons.mp h with rfl | h
      · simp
      · have := ih h; simp; omega
  have := h2 _ h1
  omega
local macro_rules | `(tactic| walk_at "call builtin:str.split") => `(tactic| (k_here; (with_reducible show wpAny _ _ (call (Value.builtin "str.split") [Value.str _ _, Value.str _ _]) _ _ _); k_dflt (refine' KSpl.split1 ?k1 ?k2 ?k3 ?_ ?k4; (case k1 => k_asm); (case k2 => k_asm); (case k3 => decide +kernel); (case k4 => (rw [sizeLine_eq]; omega)); k_whole; intro D8 l8 h8 k8 e8 s8 F8 N8 a8; (try dsimp only))))
local macro_rules | `(tactic| walk_at "m1") => `(tactic| ((with_reducible show wpAny _ _ (subscriptTail _ (PySem.Expr.Slice none none (some _) _) (Value.ref _) (Value.ref _)) _ _ _); k_dflt (refine' sl_rev ?k1 ?k2 ?k3 ?k4 ?k5 ?_ ?k6; (case k1 => k_asm); (case k2 => k_asm); (case k3 => walk_at "mem"); (case k4 => exact IsPart.int _ _); (case k5 => exact split_short (by with_reducible assumption) (by omega)); (case k6 => with_unfolding_all rfl); k_whole; intro D' h' F' N' l1; (try dsimp only))))
local macro_rules | `(tactic| walk_at "subscriptTail Name Slice ref ref") => `(tactic| (k_here; (with_reducible show wpAny _ _ (subscriptTail _ (PySem.Expr.Slice (some _) none none _) (Value.ref _) (Value.ref _)) _ _ _); k_dflt (refine' sl_from 1 ?k1 ?k2 ?k3 ?k4 ?k5 ?_ ?k6 ?k7; (case k1 => k_asm); (case k2 => k_asm); (case k3 => walk_at "mem"); (case k4 => exact IsPart.int _ _); (case k5 => with_reducible assumption); (case k6 => with_unfolding_all rfl); (case k7 => (intro _; with_unfolding_all rfl)); k_whole; intro D' h' F' N' l1; (try dsimp only))))
local macro_rules | `(tactic| walk_at "binaryOp Add ref ref") => `(tactic| (k_here; (with_reducible show wpAny _ _ (binaryOp Operator.Add (Value.ref _) (Value.ref _)) _ _ _); k_dflt ((first | (refine' add_texts ?k1 ?k2 ?k3 ?k4 ?k5 ?_; (case k1 => k_asm); (case k2 => k_asm); (case k3 => walk_at "mem"); (case k4 => walk_at "mem"); (case k5 => with_reducible assumption)) | (refine' cons_texts ?k1 ?k2 ?k3 ?k4 ?k5 ?_; (case k1 => k_asm); (case k2 => k_asm); (case k3 => walk_at "mem"); (case k4 => walk_at "mem"); (case k5 => with_reducible assumption))); k_whole; intro D' h' F' N' l1; (try dsimp only))))
local macro_rules | `(tactic| walk_at "call builtin:len") => `(tactic| (k_here; (with_reducible show wpAny _ _ (call (Value.builtin "len") [Value.ref _]) _ _ _); k_dflt (refine' len_texts ?k1 ?k2 ?k3 ?_; (case k1 => k_asm); (case k2 => walk_at "mem"); (case k3 => with_reducible assumption); k_whole; intro t7 k7; (try dsimp only))))
theorem handed_says (w : World) (mean : ExcName → Option Value) (mg mb : Str → Option Value) (root part : Str) (tr tp ts : Tok) (steps : Int) (l : Addr) (c : List (Str × Tok)) (nn : Nat) (hx : root.length ≤ 20000) (hpl : part.length ≤ 20) (hs0 : 0 ≤ steps) (hs1 : steps ≤ 12000) (hc : ((c.map (·.1)).map (·.length)).sum + c.length ≤ 12000) :
    SaysN w mean mg mb 3 182 (fun news => (l, PySem.W.listOf (strValues c).toArray nn) ∈ news) [.str root tr, .int steps ts, .ref l, .str part tp] (HandP (handS root steps (c.map (·.1)) part)) := by
  k_with_none
  w_top off
  unfold SaysN
  k_fill
  intro dp un gd cn cs a ccd cl outer A₀ base h₀ L m news s Q E B F X N T hk hP hd hu hret
  refine wpAny_call ?_
  k_dflt cell_enter
  k_with "pyIter ref" => fail "here"
  k_steps
  k_dflt (refine' LCg.CompSrc.ledger (by rfl) ?kF ?kN ?hm ?hsz ?_)
  case kF => k_asm
  case kN => k_asm
  case hm => walk_at "mem"
  case hsz => exact small_len (by rw [List.size_toArray, sv_len, List.length_take]; omega)
  intro g9
  k_dflt (refine' comp_texts (fun y => sentS y (Str.ofString "")) ?hS ?turn ?fin)
  case hS => exact Or.inr ⟨_, (by walk_at "mem"), rfl, _, rfl⟩
  case turn =>
    intro y t I oI C oC D m₂ ys h tk E' hy hC hx9 F9 N9
    have hyl : y.length ≤ 20000 := name_len (List.mem_of_mem_take hy) hc
    k_steps
    exact ⟨_, _, _, rfl, rfl, (by k_asm), (by k_asm)⟩
  case fin =>
  intro c1 hc1
  unfold LCg.FinA
  intro D1 h1 tk1 F1 N1 o1
  have q1 := off1_mem o1
  dsimp only
  clear o1
  k_steps
  k_dflt (refine' LCg.CompSrc.ledger (by rfl) ?kF ?kN ?hm ?hsz ?_)
  case kF => k_asm
  case kN => k_asm
  case hm => exact .tail _ (.tail _ hP)
  case hsz => exact small_len (by rw [List.size_toArray, sv_len]; omega)
  intro g8
  k_dflt (refine' comp_texts (fun y => sentS y (Str.ofString "/")) ?hS ?turn ?fin)
  case hS => exact Or.inr ⟨_, (.tail _ (.tail _ hP)), rfl, _, rfl⟩
  case turn =>
    intro y t I oI C oC D m₂ ys h tk E' hy hC hx9 F9 N9
    have hyl : y.length ≤ 20000 := name_len hy hc
    k_steps
    exact ⟨_, _, _, rfl, rfl, (by k_asm), (by k_asm)⟩
  case fin =>
  intro c2 hc2
  unfold LCg.FinA
  intro D2 h2 tk2 F2 N2 o2
  have q2 := off1_mem o2
  dsimp only
  clear o2
  have hc1l : (strValues c1).length ≤ 50000 := by
    have e := congrArg List.length hc1
    rw [List.length_map, List.length_map, List.length_map, List.length_take] at e
    rw [sv_len]; omega
  have hc2m : c2.length ≤ 12000 := by
    have e := congrArg List.length hc2
    rw [List.length_map, List.length_map, List.length_map] at e
    omega
  have hc2l : c2.length ≤ 50000 := by
    have e := congrArg List.length hc2
    rw [List.length_map, List.length_map, List.length_map] at e
    omega
  have hcc : c1.length + (c2.drop 1).length ≤ 50000 := by
    have e := congrArg List.length hc1
    rw [List.length_map, List.length_map, List.length_map, List.length_take] at e
    have e := congrArg List.length hc2
    rw [List.length_map, List.length_map, List.length_map] at e
    rw [List.length_drop]; omega
  have hdd : (Str.ofString "..").length ≤ 20 := by decide +kernel
  have hpl2 : part.length ≤ 20000 := by omega
  have hdd2 : (Str.ofString "..").length ≤ 20000 := by omega
  have hsl := sentS_len part (Str.ofString "")
  have hsl2 := sentS_len (Str.ofString "..") (Str.ofString "")
  k_steps
  · rename_i l1 kF kN Tc kX
    exact saysN_end2 hret kF kN (.head _) (.tail _ (.head _)) (by ktr_rel) (fun p hp => kst_ltOf l1.2.2.2 p hp) (fun p hp => q2 p (.tail _ (.tail _ hp))) (HandP.intro (handS_1 (by with_reducible assumption) hc2))
  · rename_i Dn hn ln Dt ht Ft Nt l1 kF kN Tc kX
    exact saysN_end2 hret kF kN (.head _) (.tail _ (.head _)) (by ktr_rel) (fun p hp => kst_ltOf l1.2.2.2.2.2 p hp) (fun p hp => Nat.ne_of_lt (ln p (.tail _ (.tail _ (.tail _ (.tail _ hp)))))) (HandP.intro (handS_2 (by with_reducible assumption) (by with_reducible assumption) (by with_reducible assumption) hc1 hc2))
  rotate_left
  · exact both_ways (part := part) (by with_reducible assumption) (by with_reducible assumption)
  · exact both_ways (part := part) (by with_reducible assumption) (by with_reducible assumption)
  · rename_i D8 c8 h8 k8 e8 s8 F8 N8 a8 D7 h7 F7 N7 l7
    k_dflt (refine' for_list (σ := HSt) (fun c => (c.2.2.2.1, PySem.W.listOf (strValues c.2.2.2.2.1).toArray c.2.2.2.2.2) :: news) (fun c => [(Str.ofString "steps", .int c.1 c.2.1), (Str.ofString "names", .ref c.2.2.2.1), (Str.ofString "part", .str part c.2.2.1)]) (fun i c => HP (c8.reverse.map (·.1)) (steps, c2.map (·.1)) i (c.1, c.2.2.2.2.1) ∧ ∀ p ∈ news, p.1 ≠ c.2.2.2.1) (steps, _, _, D2, c2, (strValues c2).length) ?hh ?hl ?hlL F7 ?kN ?hk ?hp ?turn ?done)
    case hh => rfl
    case hl => exact ⟨_, (News.get N7 (.head _)), rfl, _, rfl⟩
    case hlL => exact (N7 _ (.head _)).2.1
    case kN =>
      refine news_sub N7 fun p hp => ?_
      rcases List.mem_cons.mp hp with rfl | hp
      · exact .tail _ (.tail _ (.head _))
      · exact .tail _ (.tail _ (.tail _ (.tail _ (.tail _ hp))))
    case hk => k_dflt (walk_at "all2")
    case hp => exact ⟨HP.start (by omega) (by omega) (by rw [List.length_map]; exact hc2m), fun p hp => q2 p (.tail _ (.tail _ hp))⟩
    case turn =>
      rintro I hI1 hI2 ⟨st, t1, t2, la, cn', n⟩ i v u h tk own hi hv hp hLI hown ⟨oI, hoI⟩ F₁ N₁
      dsimp only at hp F₁ N₁ hLI
      obtain ⟨hp, hq⟩ := hp
      obtain ⟨y, ty, rfl, hy⟩ := sv_get hv
      have hyl := piece_len e8 hy (by omega)
      have hil : i ≤ 20000 := by
        have h1 := split_short' e8
        rw [List.size_toArray, sv_len, List.length_reverse] at hi
        omega
      have hb0 : 0 ≤ st := hp.2.1
      have hb1 : st ≤ 12000 + i := hp.2.2.1
      have hb2 : cn'.length ≤ 12000 + i := hp.2.2.2
      have hb3 : st ≤ 40000 := by omega
      have hb4 : cn'.length ≤ 40000 := by omega
      clear F7 N7 F8 N8 a8 l7 s8
      k_steps
      all_goals first
        | exact both_any (y := y) (by with_reducible assumption) (by with_reducible assumption)
        | (k_dflt (refine' TurnEnd.intro (st + 1, _, t2, la, cn', n) ?tF ?tN ?tl ?to hLI ?tk ?tp)
           case tF => k_asm
           case tN => k_asm
           case tk => k_dflt (walk_at "all2")
           case tl => (intro p hp; (rcases List.mem_cons.mp hp with rfl | hp) <;> simp only [List.mem_cons, List.mem_append, true_or, or_true, hp])
           case to => ktr_rel
           case tp => exact ⟨hp.dd hy (by with_reducible assumption), hq⟩)
        | (k_dflt (refine' TurnEnd.intro (st, _, t2, la, cn', n) ?tF ?tN ?tl ?to hLI ?tk ?tp)
           case tF => k_asm
           case tN => k_asm
           case tk => k_dflt (walk_at "all2")
           case tl => (intro p hp; (rcases List.mem_cons.mp hp with rfl | hp) <;> simp only [List.mem_cons, List.mem_append, true_or, or_true, hp])
           case to => ktr_rel
           case tp => exact ⟨hp.skip hy (by with_reducible assumption) (by with_reducible assumption), hq⟩)
        | (k_dflt (refine' TurnEnd.intro (st - 1, _, t2, la, cn', n) ?tF ?tN ?tl ?to hLI ?tk ?tp)
           case tF => k_asm
           case tN => k_asm
           case tk => k_dflt (walk_at "all2")
           case tl => (intro p hp; (rcases List.mem_cons.mp hp with rfl | hp) <;> simp only [List.mem_cons, List.mem_append, true_or, or_true, hp])
           case to => ktr_rel
           case tp => exact ⟨hp.minus hy (by with_reducible assumption) (by with_reducible assumption) (by with_reducible assumption), hq⟩)
        | (k_dflt (refine' TurnEnd.intro (st, _, t2, _, (y, ty) :: cn', 0) ?tF ?tN ?tl ?to ?tI ?tk ?tp)
           case tF => k_asm
           case tN => k_asm
           case tk => k_dflt (walk_at "all2")
           case tl => (intro p hp; (rcases List.mem_cons.mp hp with rfl | hp) <;> simp only [List.mem_cons, List.mem_append, true_or, or_true, hp])
           case to => ktr_rel
           case tI => exact led_new (oI := oI) (by with_reducible assumption) (by simp only [List.mem_cons, List.mem_append, true_or, or_true, hoI]) (fun p hp => hLI p (.tail _ hp))
           case tp => exact ⟨hp.cons hy (by with_reducible assumption) (by with_reducible assumption) (by with_reducible assumption), led_ne (by with_reducible assumption) (fun p hp => by simp only [List.mem_cons, List.mem_append, true_or, or_true, hp])⟩)
    case done =>
      rintro ⟨st, t1, t2, la, cn', n⟩ u h tk hp F₁ N₁
      dsimp only at hp F₁ N₁
      obtain ⟨hp, hq⟩ := hp
      clear F7 N7 F8 N8 a8 l7 s8
      k_steps
      all_goals (
        k_dflt (refine' saysN_end2 hret ?kF ?kN ?m1 ?m2 ?hs ?hl hq ?hR)
        case kF => k_asm
        case kN => k_asm
        case m1 => exact .head _
        case m2 => exact .tail _ (.head _)
        case hs => ktr_rel
        case hl => exact fun p hp => kst_ltOf (And.right (by with_reducible assumption)) p hp
        case hR => first | exact HandP.intro (handS_4 (by with_reducible assumption) (by with_reducible assumption) hc2 (htail_1 (k := (strValues c8.reverse).toArray.size) e8 (by rw [List.size_toArray, sv_len, List.length_reverse]; exact Nat.le_refl _) hp (by with_reducible assumption))) | exact HandP.intro (handS_4 (by with_reducible assumption) (by with_reducible assumption) hc2 (htail_2 (k := (strValues c8.reverse).toArray.size) e8 (by rw [List.size_toArray, sv_len, List.length_reverse]; exact Nat.le_refl _) hp (by with_reducible assumption))))
  · have hst0 : steps ≠ 0 := by with_reducible assumption
    rename_i D8 c8 h8 k8 e8 s8 F8 N8 a8 D7 h7 F7 N7 l7
    k_dflt (refine' for_list (σ := HSt) (fun c => (c.2.2.2.1, PySem.W.listOf (strValues c.2.2.2.2.1).toArray c.2.2.2.2.2) :: news) (fun c => [(Str.ofString "steps", .int c.1 c.2.1), (Str.ofString "names", .ref c.2.2.2.1), (Str.ofString "part", .str (Str.ofString "..") c.2.2.1)]) (fun i c => HP (c8.reverse.map (·.1)) (steps - 1, c2.map (·.1)) i (c.1, c.2.2.2.2.1) ∧ ∀ p ∈ news, p.1 ≠ c.2.2.2.1) (steps - 1, _, _, D2, c2, (strValues c2).length) ?hh ?hl ?hlL F7 ?kN ?hk ?hp ?turn ?done)
    case hh => rfl
    case hl => exact ⟨_, (News.get N7 (.head _)), rfl, _, rfl⟩
    case hlL => exact (N7 _ (.head _)).2.1
    case kN =>
      refine news_sub N7 fun p hp => ?_
      rcases List.mem_cons.mp hp with rfl | hp
      · repeat (first | exact List.Mem.head _ | refine List.Mem.tail _ ?_)
      · repeat (first | exact hp | refine List.Mem.tail _ ?_)
    case hk => k_dflt (walk_at "all2")
    case hp => exact ⟨HP.start (by omega) (by omega) (by rw [List.length_map]; exact hc2m), fun p hp => q2 p (.tail _ (.tail _ hp))⟩
    case turn =>
      rintro I hI1 hI2 ⟨st, t1, t2, la, cn', n⟩ i v u h tk own hi hv hp hLI hown ⟨oI, hoI⟩ F₁ N₁
      dsimp only at hp F₁ N₁ hLI
      obtain ⟨hp, hq⟩ := hp
      obtain ⟨y, ty, rfl, hy⟩ := sv_get hv
      have hyl : y.length ≤ 40 := piece_len e8 hy (by omega)
      have hil : i ≤ 20000 := by
        have h1 := split_short' e8
        rw [List.size_toArray, sv_len, List.length_reverse] at hi
        omega
      have hb0 : 0 ≤ st := hp.2.1
      have hb1 : st ≤ 12000 + i := hp.2.2.1
      have hb2 : cn'.length ≤ 12000 + i := hp.2.2.2
      have hb3 : st ≤ 40000 := by omega
      have hb4 : cn'.length ≤ 40000 := by omega
      clear F7 N7 F8 N8 a8 l7 s8
      k_steps
      all_goals first
        | exact both_any (y := y) (by with_reducible assumption) (by with_reducible assumption)
        | (k_dflt (refine' TurnEnd.intro (st + 1, _, t2, la, cn', n) ?tF ?tN ?tl ?to hLI ?tk ?tp)
           case tF => k_asm
           case tN => k_asm
           case tk => k_dflt (walk_at "all2")
           case tl => (intro p hp; (rcases List.mem_cons.mp hp with rfl | hp) <;> simp only [List.mem_cons, List.mem_append, true_or, or_true, hp])
           case to => ktr_rel
           case tp => exact ⟨hp.dd hy (by with_reducible assumption), hq⟩)
        | (k_dflt (refine' TurnEnd.intro (st, _, t2, la, cn', n) ?tF ?tN ?tl ?to hLI ?tk ?tp)
           case tF => k_asm
           case tN => k_asm
           case tk => k_dflt (walk_at "all2")
           case tl => (intro p hp; (rcases List.mem_cons.mp hp with rfl | hp) <;> simp only [List.mem_cons, List.mem_append, true_or, or_true, hp])
           case to => ktr_rel
           case tp => exact ⟨hp.skip hy (by with_reducible assumption) (by with_reducible assumption), hq⟩)
        | (k_dflt (refine' TurnEnd.intro (st - 1, _, t2, la, cn', n) ?tF ?tN ?tl ?to hLI ?tk ?tp)
           case tF => k_asm
           case tN => k_asm
           case tk => k_dflt (walk_at "all2")
           case tl => (intro p hp; (rcases List.mem_cons.mp hp with rfl | hp) <;> simp only [List.mem_cons, List.mem_append, true_or, or_true, hp])
           case to => ktr_rel
           case tp => exact ⟨hp.minus hy (by with_reducible assumption) (by with_reducible assumption) (by with_reducible assumption), hq⟩)
        | (k_dflt (refine' TurnEnd.intro (st, _, t2, _, (y, ty) :: cn', 0) ?tF ?tN ?tl ?to ?tI ?tk ?tp)
           case tF => k_asm
           case tN => k_asm
           case tk => k_dflt (walk_at "all2")
           case tl => (intro p hp; (rcases List.mem_cons.mp hp with rfl | hp) <;> simp only [List.mem_cons, List.mem_append, true_or, or_true, hp])
           case to => ktr_rel
           case tI => exact led_new (oI := oI) (by with_reducible assumption) (by simp only [List.mem_cons, List.mem_append, true_or, or_true, hoI]) (fun p hp => hLI p (.tail _ hp))
           case tp => exact ⟨hp.cons hy (by with_reducible assumption) (by with_reducible assumption) (by with_reducible assumption), led_ne (by with_reducible assumption) (fun p hp => by simp only [List.mem_cons, List.mem_append, true_or, or_true, hp])⟩)
    case done =>
      rintro ⟨st, t1, t2, la, cn', n⟩ u h tk hp F₁ N₁
      dsimp only at hp F₁ N₁
      obtain ⟨hp, hq⟩ := hp
      clear F7 N7 F8 N8 a8 l7 s8
      k_steps
      all_goals (
        k_dflt (refine' saysN_end2 hret ?kF ?kN ?m1 ?m2 ?hs ?hl hq ?hR)
        case kF => k_asm
        case kN => k_asm
        case m1 => exact .head _
        case m2 => exact .tail _ (.head _)
        case hs => ktr_rel
        case hl => exact fun p hp => kst_ltOf (And.right (by with_reducible assumption)) p hp
        case hR => first
          | exact absurd (show (Str.ofString "" != Str.ofString "") = true by with_reducible assumption) (by decide +kernel)
          | exact HandP.intro (handS_3 (by with_reducible assumption) (by with_reducible assumption) hst0 hc2 (htail_dd (k := (strValues c8.reverse).toArray.size) e8 (by rw [List.size_toArray, sv_len, List.length_reverse]; exact Nat.le_refl _) hp)))
end Mine
end
section
open PySem PySem.W PyProof.Rows PySem.Calls
namespace Mine
/-! texts and their signs -/
abbrev sg (x : Str) : List Nat := x.cps.toList
theorem sg_ext {x y : Str} (h : sg x = sg y) : x = y := PySem.Str.ext' (Array.toList_inj.mp h)
theorem sg_len (x : Str) : x.length = (sg x).length := Array.length_toList.symm
theorem sg_zero (x : Str) : (x.length : Int) = 0 ↔ sg x = [] := by
  rw [sg_len, ← List.length_eq_zero_iff]; omega
theorem sg_eq (x y : Str) : (x == y) = true ↔ sg x = sg y := ⟨fun h => by rw [beq_iff_eq.mp h], fun h => beq_iff_eq.mpr (sg_ext h)⟩
theorem sg_ne (x y : Str) : (x != y) = true ↔ sg x ≠ sg y := by
  rw [bne, Bool.not_eq_true', ← Bool.not_eq_true, sg_eq]
theorem sg_slash : sg (Str.ofString "/") = [47] := by decide +kernel
theorem sg_dot : sg (Str.ofString ".") = [46] := by decide +kernel
theorem sg_dd : sg (Str.ofString "..") = [46, 46] := by decide +kernel
theorem sg_none : sg (Str.ofString "") = [] := by decide +kernel
theorem slash_lit : Str.ofString "/" = ⟨#[47]⟩ := by decide +kernel
theorem sg_app (x y : Str) : sg (x ++ y) = sg x ++ sg y := by
  show (x ++ y).cps.toList = _
  rw [Str.cps_append, Array.toList_append]
theorem sg_starts (y : Str) : Txt.startswith y (Str.ofString "/") = true ↔ (sg y).head? = some 47 := by
  have hl : (Str.ofString "/").length = 1 := by decide +kernel
  unfold Txt.startswith
  rw [StrLaws.subAt_eq, hl, Bool.and_eq_true, decide_eq_true_eq, beq_iff_eq, sg_len]
  show _ ∧ List.take 1 (List.drop 0 (sg y)) = sg _ ↔ _
  rw [sg_slash]
  cases sg y with
  | nil => simp
  | cons c r => simp
theorem sg_ends (y : Str) : Txt.endswith y (Str.ofString "/") = true ↔ (sg y).getLast? = some 47 := by
  have hl : (Str.ofString "/").length = 1 := by decide +kernel
  unfold Txt.endswith
  rw [StrLaws.subAt_eq, hl, Bool.and_eq_true, decide_eq_true_eq, beq_iff_eq, sg_len]
  show _ ∧ List.take 1 (List.drop ((sg y).length - 1) (sg y)) = sg _ ↔ _
  rw [sg_slash]
  generalize sg y = l
  cases hr : l.reverse with
  | nil => rw [List.reverse_eq_nil_iff.mp hr]; simp
  | cons c q =>
    have e : l = q.reverse ++ [c] := by rw [← List.reverse_reverse l, hr, List.reverse_cons]
    subst e
    simp
theorem sg_join2 (p x : Str) : sg (joinS p x) = joinL (sg p) (sg x) := by
  unfold joinS joinL
  by_cases h1 : (sg x).head? = some 47
  · rw [if_pos ((sg_starts x).mpr h1), if_pos h1]
  · rw [if_neg (fun h => h1 ((sg_starts x).mp h)), if_neg h1]
    by_cases h2 : sg p = []
    · rw [if_pos ((sg_zero p).mpr h2), if_pos h2]
    · rw [if_neg (fun h => h2 ((sg_zero p).mp h)), if_neg h2]
      by_cases h3 : (sg p).getLast? = some 47
      · rw [if_pos ((sg_ends p).mpr h3), if_pos h3, sg_app]
      · rw [if_neg (fun h => h3 ((sg_ends p).mp h)), if_neg h3, sg_app, sg_app, sg_slash]
        rfl
theorem sg_quote (x : Str) : sg (quoteS x) = sentL [] (sg x) := by
  show (sentL [] x.cps.toList).toArray.toList = _
  rw [List.toList_toArray]
theorem sg_sent (x y : Str) : sg (sentS x y) = sentL (sg y) (sg x) := by
  show (sentL y.cps.toList x.cps.toList).toArray.toList = _
  rw [List.toList_toArray]
/-! slices -/
theorem idx_clip (a b n : Nat) : Builtin.Str.strSliceIndices (some (a : Int)) (some (b : Int)) 1 n = Builtin.Str.strSliceIndices (some ((min a n : Nat) : Int)) (some ((min b n : Nat) : Int)) 1 n := by
  have e1 : ∀ k : Nat, max (0 : Int) (min (k : Int) (n : Int)) = max 0 (min (((min k n : Nat)) : Int) (n : Int)) := fun k => by omega
  have z : ∀ k : Nat, ¬ ((k : Int) < 0) := fun k => by omega
  have h2 : (1 : Int) > 0 := by decide
  simp only [Builtin.Str.strSliceIndices, z, h2, if_false, if_true]
  rw [e1 a, e1 b]
theorem slice_mid (x : Str) (a b : Nat) (h : a ≤ b) : sg (Txt.slice x (some (a : Int)) (some (b : Int))) = ((sg x).drop a).take (b - a) := by
  have e : Txt.slice x (some (a : Int)) (some (b : Int)) = StrLaws.sliceText x (some ((min a x.length : Nat) : Int)) (some ((min b x.length : Nat) : Int)) := by
    unfold Txt.slice StrLaws.sliceText
    rw [idx_clip]
  have hl := sg_len x
  rw [e, StrLaws.sliceText_plain ⟨by omega, by omega, by rw [show x.cps.toList.length = x.length from hl.symm]; omega⟩]
  show List.take _ (List.drop _ (sg x)) = _
  by_cases h1 : a ≤ x.length
  · by_cases h2 : b ≤ x.length
    · rw [show ((min a x.length : Nat) : Int).toNat = a by omega, show (((min b x.length : Nat) : Int) - ((min a x.length : Nat) : Int)).toNat = b - a by omega]
    · rw [show ((min a x.length : Nat) : Int).toNat = a by omega, List.take_of_length_le (by rw [List.length_drop]; omega), List.take_of_length_le (by rw [List.length_drop]; omega)]
  · rw [show (sg x).drop a = [] from List.drop_eq_nil_of_le (by omega), show (((min b x.length : Nat) : Int) - ((min a x.length : Nat) : Int)).toNat = 0 by omega]
    simp
theorem slice_take (x : Str) (k : Nat) : sg (Txt.slice x none (some (k : Int))) = (sg x).take k := by
  have e : Txt.slice x none (some (k : Int)) = Txt.slice x (some ((0 : Nat) : Int)) (some (k : Int)) := by
    unfold Txt.slice
    rw [StrLaws.sliceIdx_none_lo]
    rfl
  rw [e, slice_mid x 0 k (Nat.zero_le _)]
  rfl
theorem slice_drop (x : Str) (k : Nat) : sg (Txt.slice x (some (k : Int)) none) = (sg x).drop k := by
  have hl := sg_len x
  by_cases h : k ≤ x.length
  · rw [slice_from_eq (b := (x.length : Int)) (by omega) (by omega) rfl]
    show List.take _ (List.drop (k : Int).toNat (sg x)) = _
    rw [show (k : Int).toNat = k by omega, List.take_of_length_le (by rw [List.length_drop]; omega)]
  · rw [slice_beyond (by omega), List.drop_eq_nil_of_le (by omega)]
    rfl
theorem sg_root {x : Str} {R rest : List Nat} (e : sg x = R ++ rest) (hR : Root R) (hr : rest.head? ≠ some 47) : sg (rootS x).1 = R ∧ sg (rootS x).2 = rest := by
  have t1 : ∀ l : List Nat, l.head? ≠ some 47 → l.take 1 ≠ [47] := fun l h q => by
    cases l with
    | nil => cases q
    | cons c r => injection q with q; exact h (by rw [q]; rfl)
  have s1 : sg (Txt.slice x none (some 1)) = (sg x).take 1 := slice_take x 1
  have s2 : sg (Txt.slice x (some 1) (some 2)) = ((sg x).drop 1).take 1 := slice_mid x 1 2 (by omega)
  have s3 : sg (Txt.slice x (some 2) (some 3)) = ((sg x).drop 2).take 1 := slice_mid x 2 3 (by omega)
  have d1 : sg (Txt.slice x (some 1) none) = (sg x).drop 1 := slice_drop x 1
  have d2 : sg (Txt.slice x (some 2) none) = (sg x).drop 2 := slice_drop x 2
  have k2 : sg (Txt.slice x none (some 2)) = (sg x).take 2 := slice_take x 2
  rcases hR with rfl | rfl | rfl
  · rw [rootS_1 ((sg_ne _ _).mpr (by rw [s1, sg_slash, e]; exact t1 _ hr))]
    exact ⟨sg_none, e⟩
  · rw [rootS_2 (by rw [← Bool.not_eq_true, sg_ne, s1, sg_slash, e]; simp) ((sg_ne _ _).mpr (by rw [s2, sg_slash, e]; exact t1 _ hr))]
    exact ⟨sg_slash, by rw [d1, e]; rfl⟩
  · rw [rootS_4 (by rw [← Bool.not_eq_true, sg_ne, s1, sg_slash, e]; simp) (by rw [← Bool.not_eq_true, sg_ne, s2, sg_slash, e]; simp) (by rw [← Bool.not_eq_true, sg_eq, s3, sg_slash, e]; exact t1 _ hr)]
    exact ⟨by rw [k2, e]; rfl, by rw [d2, e]; rfl⟩
/-! pieces -/
theorem sg_join (ps : List Str) : sg (Str.join (Str.ofString "/") ps) = interL (ps.map sg) := by
  match ps with
  | [] => rfl
  | [p] => rfl
  | p :: q :: r =>
    have ih := sg_join (q :: r)
    show sg (p ++ Str.ofString "/" ++ Str.join (Str.ofString "/") (q :: r)) = _
    rw [sg_app, sg_app, ih, sg_slash, List.append_assoc]
    rfl
theorem sg_glue (ps : List Str) : sg (Txt.join (Str.ofString "/") ps) = interL (ps.map sg) := by
  rw [← sg_join, ← StrLaws.glued_eq_join]
  rfl
theorem split_ne (x : Str) : Txt.split x (Str.ofString "/") ≠ [] := by
  intro h
  have hx := StrLaws.join_split x (Str.ofString "/")
  rw [h] at hx
  have hx' : x = Str.empty := hx.symm
  subst hx'
  exact absurd h (by decide +kernel)
theorem sg_split (x : Str) : (Txt.split x (Str.ofString "/")).map sg = splitL (sg x) := by
  have h1 := sg_join (Txt.split x (Str.ofString "/"))
  rw [StrLaws.join_split] at h1
  rw [h1]
  refine (split_inter _ (by simp [split_ne]) fun p hp => ?_).symm
  obtain ⟨q, hq, rfl⟩ := List.mem_map.mp hp
  rw [slash_lit] at hq
  exact StrLaws.split_free x 47 q hq
/-! normpath -/
theorem sg_last (st : List Str) (y : Str) : st.getLast? = some y ↔ (st.map sg).getLast? = some (sg y) := by
  rw [List.getLast?_map]
  cases st.getLast? with
  | none => simp
  | some z =>
    show some z = some y ↔ some (sg z) = some (sg y)
    exact ⟨fun h => by rw [Option.some.inj h], fun h => by rw [sg_ext (Option.some.inj h)]⟩
theorem sg_nstep (r : Str) (st : List Str) (c : Str) : (nstep r st c).map sg = nstepL (!(sg r).isEmpty) (st.map sg) (sg c) := by
  have hb : (!(sg r).isEmpty) = false ↔ (r.length : Int) = 0 := by
    rw [sg_zero]
    cases sg r <;> simp
  have hd : (c == Str.ofString ".") = true ↔ sg c = [46] := by rw [sg_eq, sg_dot]
  have hdd : (c != Str.ofString "..") = true ↔ sg c ≠ [46, 46] := by rw [sg_ne, sg_dd]
  have hl : st.getLast? = some (Str.ofString "..") ↔ (st.map sg).getLast? = some [46, 46] := by rw [sg_last, sg_dd]
  have hn : st = [] ↔ st.map sg = [] := by simp
  unfold nstep nstepL
  by_cases h1 : sg c = [] ∨ sg c = [46]
  · rw [if_pos (h1.imp (sg_zero c).mpr hd.mpr), if_pos h1]
  · rw [if_neg (fun h => h1 (h.imp (sg_zero c).mp hd.mp)), if_neg h1]
    by_cases h2 : sg c ≠ [46, 46] ∨ ((!(sg r).isEmpty) = false ∧ st.map sg = []) ∨ (st.map sg).getLast? = some [46, 46]
    · rw [if_pos (h2.imp hdd.mpr (Or.imp (And.imp hb.mp hn.mpr) hl.mpr)), if_pos h2, List.map_append]
      rfl
    · rw [if_neg (fun h => h2 (h.imp hdd.mp (Or.imp (And.imp hb.mpr hn.mp) hl.mp))), if_neg h2, List.map_dropLast]
theorem sg_nfold (r : Str) (ps : List Str) : ∀ st, (ps.foldl (nstep r) st).map sg = (ps.map sg).foldl (nstepL (!(sg r).isEmpty)) (st.map sg) := by
  induction ps with
  | nil => intro st; rfl
  | cons p ps ih => intro st; rw [List.foldl_cons, ih, sg_nstep]; rfl
theorem sg_orDot (x : Str) : sg (if (x.length : Int) = 0 then Str.ofString "." else x) = orDot (sg x) := by
  unfold orDot
  by_cases h : sg x = []
  · rw [if_pos ((sg_zero x).mpr h), if_pos h, sg_dot]
  · rw [if_neg (fun q => h ((sg_zero x).mp q)), if_neg h]
theorem sg_norm {x : Str} {R rest : List Nat} (e : sg x = R ++ rest) (hR : Root R) (hr : rest.head? ≠ some 47) (hne : sg x ≠ []) : sg (normS x) = normL R (sg x) := by
  obtain ⟨e1, e2⟩ := sg_root e hR hr
  unfold normS normL
  rw [if_neg (fun q => hne ((sg_zero x).mp q)), sg_orDot, sg_app, sg_glue, sg_nfold, sg_split, e1, e2, e, split_root hR]
  rfl
/-! a hand -/
theorem sg_any (p : Str) : ([Str.ofString "", Str.ofString "."].any fun x => x == p) = true ↔ sg p = [] ∨ sg p = [46] := by
  simp only [List.any_cons, List.any_nil, Bool.or_false, Bool.or_eq_true, sg_eq, sg_none, sg_dot]
  exact ⟨Or.imp Eq.symm Eq.symm, Or.imp Eq.symm Eq.symm⟩
theorem sg_hstep (st : Int × List Str) (p : Str) : ((hstep st p).1, (hstep st p).2.map sg) = hstepL (st.1, st.2.map sg) (sg p) := by
  have hdd : (p == Str.ofString "..") = true ↔ sg p = [46, 46] := by rw [sg_eq, sg_dd]
  unfold hstep hstepL
  by_cases h1 : sg p = [46, 46]
  · rw [if_pos (hdd.mpr h1), if_pos h1]
  · rw [if_neg (fun h => h1 (hdd.mp h)), if_neg h1]
    by_cases h2 : sg p = [] ∨ sg p = [46]
    · rw [if_pos ((sg_any p).mpr h2), if_pos h2]
    · rw [if_neg (fun h => h2 ((sg_any p).mp h)), if_neg h2]
      split <;> rfl
theorem sg_hfold0 (ps : List Str) : ∀ st : Int × List Str, ((ps.foldl hstep st).1, (ps.foldl hstep st).2.map sg) = (ps.map sg).foldl hstepL (st.1, st.2.map sg) := by
  induction ps with
  | nil => intro st; rfl
  | cons p ps ih => intro st; rw [List.foldl_cons, ih, sg_hstep]; rfl
theorem sg_hfold (pt : Str) (st : Int) (ns : List Str) : ((hfold pt st ns).1, (hfold pt st ns).2.map sg) = foldL (sg pt) st (ns.map sg) := by
  unfold hfold foldL
  rw [sg_hfold0, List.map_reverse, sg_split, sg_sent, sg_none]
theorem sg_hroot (pt : Str) : sg (hroot pt) = rootL (sg pt) := by
  obtain ⟨p1, e1, hp1⟩ := rest_of (sg pt)
  have hl := sg_len pt
  have hlen : (sg pt).length = (rootL (sg pt)).length + p1.length := by
    have := congrArg List.length e1
    rw [List.length_append] at this
    exact this
  have hall : ∀ c ∈ rootL (sg pt), c = 47 := fun c hc => by
    have : ∀ l : List Nat, c ∈ l.takeWhile (· == 47) → c = 47 := by
      intro l
      induction l with
      | nil => intro h; cases h
      | cons d r ih =>
        intro h
        rw [List.takeWhile_cons] at h
        split at h
        · rename_i hd
          rcases List.mem_cons.mp h with rfl | h
          · exact beq_iff_eq.mp hd
          · exact ih h
        · cases h
    exact this _ hc
  generalize rootL (sg pt) = R at e1 hlen hall ⊢
  obtain ⟨f1, f2, f3⟩ := lo_facts (Str.ofString "/").cps.contains pt
  have hgo : ∀ c : Nat, (Str.ofString "/").cps.contains c = true ↔ c = 47 := fun c => by
    rw [slash_lit]
    simp [Array.contains]
  have hget : ∀ k, pt.cps.getD k 0 = (sg pt).getD k 0 := fun k => by
    simp [sg, Array.getD_eq_getD_getElem?, List.getD_eq_getElem?_getD]
  generalize hlo : stripLo (Str.ofString "/").cps.contains true pt = lo at f1 f2 f3
  have hk : lo = (R).length := by
    rcases Nat.lt_trichotomy lo (R).length with h | h | h
    · exfalso
      rcases f3 with f3 | f3
      · omega
      · rw [hget, e1, List.getD_eq_getElem?_getD, List.getElem?_append_left h, List.getElem?_eq_getElem h] at f3
        have := (hgo _).mpr (hall _ (List.getElem_mem h))
        simp only [Option.getD_some] at f3
        rw [this] at f3
        cases f3
    · exact h
    · exfalso
      have f := (hgo _).mp (f2 _ h)
      rw [hget, e1, List.getD_eq_getElem?_getD, List.getElem?_append_right (Nat.le_refl _), Nat.sub_self] at f
      cases p1 with
      | nil => simp at f
      | cons c q => exact hp1 (by simp at f; rw [f]; rfl)
  have hs : Txt.lstripChars pt (Str.ofString "/") = Builtin.Str.strSub pt lo pt.length := by
    show Txt.stripBy _ true false pt = _
    rw [PyProof.Rows.stripBy_eq, hlo]
    rfl
  have hsl : (Txt.lstripChars pt (Str.ofString "/")).length = pt.length - lo := by
    rw [sg_len, hs]
    show (Builtin.Str.strSub pt lo pt.length).cps.toList.length = _
    rw [StrLaws.strSub_toList, List.length_take, List.length_drop]
    show min _ ((sg pt).length - lo) = _
    omega
  show sg (Txt.slice pt none (some ((pt.length : Int) - ((Txt.lstripChars pt (Str.ofString "/")).length : Int)))) = _
  rw [hsl, show (pt.length : Int) - ((pt.length - lo : Nat) : Int) = ((lo : Nat) : Int) by omega, slice_take, hk]
  rw [e1]
  simp
def sgQ (q : Str × Int × List Str) : List Nat × Int × List (List Nat) := (sg q.1, q.2.1, q.2.2.map sg)
theorem sg_tail (p : Str) (s : Int) (ns : List Str) : sgQ (htail p s ns) = tailL (sg p) s (ns.map sg) := by
  have hf := sg_hfold p s ns
  have hr := sg_hroot p
  have h1 : (hfold p s ns).1 = (foldL (sg p) s (ns.map sg)).1 := congrArg Prod.fst hf
  have h2 : (hfold p s ns).2.map sg = (foldL (sg p) s (ns.map sg)).2 := congrArg Prod.snd hf
  unfold sgQ htail tailL
  dsimp only
  rw [hr, h2]
  by_cases hz : rootL (sg p) = []
  · rw [if_pos hz, if_neg (by rw [sg_ne, hr, sg_none]; exact fun h => h hz), h1]
  · rw [if_neg hz, if_pos (by rw [sg_ne, hr, sg_none]; exact hz)]
theorem sg_names (ns : List Str) : (ns.map fun y => sentS y (Str.ofString "/")).map sg = (ns.map sg).map (sentL [47]) := by
  rw [List.map_map, List.map_map]
  refine List.map_congr_left fun y _ => ?_
  show sg (sentS y _) = sentL [47] (sg y)
  rw [sg_sent, sg_slash]
theorem sg_first (ns : List Str) : (ns.map fun y => sentS y (Str.ofString "")).map sg = (ns.map sg).map (sentL []) := by
  rw [List.map_map, List.map_map]
  refine List.map_congr_left fun y _ => ?_
  show sg (sentS y _) = sentL [] (sg y)
  rw [sg_sent, sg_none]
theorem sg_hand (r : Str) (s : Int) (ns : List Str) (p : Str) : sgQ (handS r s ns p) = handL (sg r) s (ns.map sg) (sg p) := by
  have hr : (r != Str.ofString "") = true ↔ sg r ≠ [] := by rw [sg_ne, sg_none]
  have hp : (p == Str.ofString "") = true ↔ sg p = [] := by rw [sg_eq, sg_none]
  unfold handS handL
  by_cases h1 : sg r ≠ []
  · rw [if_pos (hr.mpr h1), if_pos h1]
    show (sg r, (0 : Int), List.map sg _) = _
    rw [sg_names]
  · rw [if_neg (fun h => h1 (hr.mp h)), if_neg h1]
    by_cases h2 : sg p = []
    · rw [if_pos (hp.mpr h2), if_pos h2]
      by_cases h3 : s = 0
      · rw [if_pos h3, if_pos h3]
        show (sg (Str.ofString ""), _, List.map sg (_ ++ _)) = _
        rw [sg_none, List.map_append, List.map_drop, sg_names, sg_first]
        simp only [List.map_take, List.length_take, List.length_map]
      · rw [if_neg h3, if_neg h3, sg_tail, sg_dd, sg_names]
    · rw [if_neg (fun h => h2 (hp.mp h)), if_neg h2, sg_tail, sg_names]
theorem root_part {p : List Nat} (h : noThree p = true) : Root (rootL p) := by
  unfold rootL
  match p, h with
  | [], _ => exact .inl rfl
  | [a], _ =>
    by_cases ha : a = 47
    · subst ha; exact .inr (.inl rfl)
    · rw [List.takeWhile_cons, if_neg (by simpa using ha)]; exact .inl rfl
  | [a, b], _ =>
    by_cases ha : a = 47
    · subst ha
      by_cases hb : b = 47
      · subst hb; exact .inr (.inr rfl)
      · rw [List.takeWhile_cons, if_pos (by decide), List.takeWhile_cons, if_neg (by simpa using hb)]; exact .inr (.inl rfl)
    · rw [List.takeWhile_cons, if_neg (by simpa using ha)]; exact .inl rfl
  | a :: b :: c :: q, h =>
    by_cases ha : a = 47
    · subst ha
      by_cases hb : b = 47
      · subst hb
        have hc : c ≠ 47 := fun e => by subst e; cases h
        rw [List.takeWhile_cons, if_pos (by decide), List.takeWhile_cons, if_pos (by decide), List.takeWhile_cons, if_neg (by simpa using hc)]
        exact .inr (.inr rfl)
      · rw [List.takeWhile_cons, if_pos (by decide), List.takeWhile_cons, if_neg (by simpa using hb)]; exact .inr (.inl rfl)
    · rw [List.takeWhile_cons, if_neg (by simpa using ha)]; exact .inl rfl
/-! the law's state -/
def showS (r : Str) (s : Int) (ns : List Str) : Str :=
  if ((r ++ Txt.join (Str.ofString "/") (List.replicate s.toNat (Str.ofString "..") ++ ns)).length : Int) = 0 then Str.ofString "." else r ++ Txt.join (Str.ofString "/") (List.replicate s.toNat (Str.ofString "..") ++ ns)
theorem sg_show (r : Str) (s : Int) (ns : List Str) : sg (showS r s ns) = showL (sg r) s (ns.map sg) := by
  unfold showS showL
  rw [sg_orDot, sg_app, sg_glue, List.map_append, List.map_replicate, sg_dd]
  rfl
/-- behind each hand: the path is as told by root, steps, names -/
def Inv (path r : Str) (s : Int) (ns : List Str) : Prop := sg path = showL (sg r) s (ns.map sg) ∧ Sound (sg r, s, ns.map sg)
theorem Inv.start : Inv (Str.ofString ".") (Str.ofString "") 0 [] := by
  refine ⟨?_, ?_⟩
  · rw [sg_dot, sg_none]; rfl
  · rw [sg_none]; exact ⟨.inl rfl, .inl rfl, Int.le_refl 0, by simp⟩
theorem Inv.step {path r p : Str} {s : Int} {ns : List Str} (h : Inv path r s ns) (hg : GoodPart p) : Inv (normS (quoteS (joinS p path))) (handS r s ns p).1 (handS r s ns p).2.1 (handS r s ns p).2.2 := by
  obtain ⟨e, hs⟩ := h
  obtain ⟨⟨R, rest, e1, hR, hr, hne, en⟩, hq⟩ := hand_all hs (root_part hg.2)
  have hy : sg (quoteS (joinS p path)) = sentL [] (joinL (sg p) (showL (sg r) s (ns.map sg))) := by rw [sg_quote, sg_join2, e]
  have hh := sg_hand r s ns p
  rw [← hh] at en hq
  refine ⟨?_, hq⟩
  rw [sg_norm (hy.trans e1) hR hr (by rw [hy]; exact hne), hy]
  exact en
theorem Inv.path {path r : Str} {s : Int} {ns : List Str} (h : Inv path r s ns) : path = showS r s ns := sg_ext (by rw [sg_show]; exact h.1)
theorem orDot_len (t : List Nat) : t.length ≤ (orDot t).length := by
  unfold orDot
  split
  · rename_i h; rw [h]; exact Nat.zero_le _
  · exact Nat.le_refl _
theorem sum_rep (k n : Nat) : (List.replicate n k).sum = n * k := by
  induction n with
  | zero => simp
  | succ n ih => rw [List.replicate_succ, List.sum_cons, ih, Nat.succ_mul]; omega
theorem Inv.size {path r : Str} {s : Int} {ns : List Str} (h : Inv path r s ns) : 0 ≤ s ∧ r.length ≤ 2 ∧ 3 * s + (ns.map (·.length)).sum + ns.length ≤ path.length + 1 := by
  obtain ⟨e, hR, _, h0, _⟩ := h
  dsimp only at hR h0
  refine ⟨h0, ?_, ?_⟩
  · rw [sg_len]
    rcases hR with h | h | h <;> rw [h] <;> decide
  · have h1 := inter_len (ups s ++ ns.map sg)
    have h2 := orDot_len (sg r ++ interL (ups s ++ ns.map sg))
    have h3 : path.length = (orDot (sg r ++ interL (ups s ++ ns.map sg))).length := by rw [sg_len, e]; rfl
    have h4 : ((ns.map sg).map (·.length)).sum = (ns.map (·.length)).sum := by
      have : (ns.map sg).map (·.length) = ns.map (·.length) := by
        rw [List.map_map]
        exact List.map_congr_left fun y _ => (sg_len y).symm
      rw [this]
    have h5 : (ups s).length = s.toNat := by unfold ups; rw [List.length_replicate]
    have h6 : ((ups s).map (·.length)).sum = s.toNat * 2 := by unfold ups; rw [List.map_replicate, sum_rep]; rfl
    rw [List.map_append, List.sum_append, List.length_append, h4, h5, h6, List.length_map] at h1
    rw [List.length_append] at h2
    omega
/-! lengths -/
theorem join_short (p x : Str) : (joinS p x).length ≤ p.length + x.length + 1 := by
  have h : (Str.ofString "/").length = 1 := by decide +kernel
  unfold joinS
  split
  · omega
  · split
    · omega
    · split
      · rw [Str.length_append]; omega
      · rw [Str.length_append, Str.length_append]; omega
theorem quote_short (x : Str) : (quoteS x).length ≤ 2 * x.length := by
  rw [sg_len, sg_quote, sg_len]
  exact sentL_len _ _
theorem fold_short (r : Str) (ps : List Str) : ∀ st : List Str, ((ps.foldl (nstep r) st).map (·.length)).sum + (ps.foldl (nstep r) st).length ≤ (st.map (·.length)).sum + st.length + ((ps.map (·.length)).sum + ps.length) := by
  induction ps with
  | nil => intro st; simp
  | cons p ps ih =>
    intro st
    have h := ih (nstep r st p)
    have hs : ((nstep r st p).map (·.length)).sum + (nstep r st p).length ≤ (st.map (·.length)).sum + st.length + p.length + 1 := by
      unfold nstep
      split
      · omega
      · split
        · simp; omega
        · have : st = [] ∨ ∃ q y, st = q ++ [y] := snoc_or st
          rcases this with rfl | ⟨q, y, rfl⟩
          · simp
          · simp; omega
    rw [List.foldl_cons]
    simp only [List.map_cons, List.sum_cons, List.length_cons]
    omega
theorem roots_short (x : Str) : (rootS x).1.length + (rootS x).2.length ≤ x.length := by
  have h1 : (Str.ofString "/").length = 1 := by decide +kernel
  have h0 : (Str.ofString "").length = 0 := by decide +kernel
  have s1 : sg (Txt.slice x none (some 1)) = (sg x).take 1 := slice_take x 1
  have d1 : sg (Txt.slice x (some 1) none) = (sg x).drop 1 := slice_drop x 1
  have d2 : sg (Txt.slice x (some 2) none) = (sg x).drop 2 := slice_drop x 2
  have k2 : sg (Txt.slice x none (some 2)) = (sg x).take 2 := slice_take x 2
  have hx := sg_len x
  unfold rootS
  split
  · show (Str.ofString "").length + x.length ≤ x.length
    rw [h0]; omega
  · rename_i hc
    have hl : 1 ≤ (sg x).length := by
      have : sg (Txt.slice x none (some 1)) = sg (Str.ofString "/") := Classical.byContradiction fun q => hc ((sg_ne _ _).mpr q)
      rw [s1, sg_slash] at this
      have := congrArg List.length this
      rw [List.length_take] at this
      change min 1 (sg x).length = 1 at this
      omega
    have hd1 : (Txt.slice x (some 1) none).length = (sg x).length - 1 := by rw [sg_len, d1, List.length_drop]
    split
    · show (Str.ofString "/").length + _ ≤ _; rw [hd1]; omega
    · split
      · show (Str.ofString "/").length + _ ≤ _; rw [hd1]; omega
      · show (Txt.slice x none (some 2)).length + (Txt.slice x (some 2) none).length ≤ _
        rw [sg_len (Txt.slice x none (some 2)), sg_len (Txt.slice x (some 2) none), k2, d2, List.length_take, List.length_drop]
        omega
theorem norm_short (x : Str) : (normS x).length ≤ x.length + 1 := by
  have hd : (Str.ofString ".").length = 1 := by decide +kernel
  unfold normS
  split
  · omega
  · split
    · omega
    · have h1 := fold_short (rootS x).1 (Txt.split (rootS x).2 (Str.ofString "/")) []
      have h2 := split_weight (rootS x).2 (Str.ofString "/") (by decide +kernel)
      have h3 := join_len ((Txt.split (rootS x).2 (Str.ofString "/")).foldl (nstep (rootS x).1) [])
      have h4 := roots_short x
      rw [Str.length_append]
      simp only [List.map_nil, List.sum_nil, List.length_nil] at h1
      omega
theorem step_len {p path : Str} (hg : p.length ≤ 20) : (normS (quoteS (joinS p path))).length ≤ 2 * path.length + 43 ∧ (joinS p path).length ≤ path.length + 21 ∧ (quoteS (joinS p path)).length ≤ 2 * path.length + 42 := by
  have h1 := join_short p path
  have h2 := quote_short (joinS p path)
  have h3 := norm_short (quoteS (joinS p path))
  exact ⟨by omega, by omega, by omega⟩
end Mine
end
section
open PySem PySem.W PyProof.Rows PySem.Calls
set_option maxRecDepth 100000
set_option maxHeartbeats 0
namespace Mine
local macro_rules | `(tactic| walk_at "none at all") => `(tactic| fail "none")
local macro_rules | `(tactic| walk_at "none at all") => `(tactic| fail "none")
local macro_rules | `(tactic| walk_at "none at all") => `(tactic| fail "none")
local macro_rules | `(tactic| walk_at "none at all") => `(tactic| fail "none")
local macro_rules | `(tactic| walk_at "none at all") => `(tactic| fail "none")
local macro_rules | `(tactic| walk_at "none at all") => `(tactic| fail "none")
local macro_rules | `(tactic| walk_at "none at all") => `(tactic| fail "none")
local macro_rules | `(tactic| walk_at "none at all") => `(tactic| fail "none")
local macro_rules | `(tactic| walk_at "none at all") => `(tactic| fail "none")
local macro_rules | `(tactic| walk_at "none at all") => `(tactic| fail "none")
local macro_rules | `(tactic| walk_at "none at all") => `(tactic| fail "none")
local macro_rules | `(tactic| walk_at "none at all") => `(tactic| fail "none")
local macro_rules | `(tactic| walk_at "none at all") => `(tactic| fail "none")
local macro_rules | `(tactic| walk_at "none at all") => `(tactic| fail "none")
local macro_rules | `(tactic| walk_at "none at all") => `(tactic| fail "none")
local macro_rules | `(tactic| walk_at "none at all") => `(tactic| fail "none")
local macro_rules | `(tactic| walk_at "none at all") => `(tactic| fail "none")
local macro_rules | `(tactic| walk_at "none at all") => `(tactic| fail "none")
local macro_rules | `(tactic| walk_at "none at all") => `(tactic| fail "none")
local macro_rules | `(tactic| walk_at "none at all") => `(tactic| fail "none")
local macro_rules | `(tactic| walk_at "none at all") => `(tactic| fail "none")
local macro_rules | `(tactic| walk_at "none at all") => `(tactic| fail "none")
local macro_rules | `(tactic| walk_at "m1") => `(tactic| ((fail_if_success (with_reducible show wpAny _ _ (pyIter _) _ _ _)); (fail_if_success (with_reducible show wpAny _ _ (call (Value.ref _) _) _ _ _)); first | (k_unfold; (try dsimp only)) | ((with_reducible show wpAny _ _ _ _ _ _); walk1) | ((with_reducible show LeaveK _ _ _ _ _ _ _); walk1) | ((with_reducible show _ ∧ _); walk1) | ((with_reducible show (if _ then _ else _)); walk1) | ((with_reducible show wpAny _ _ _ _ _ _); dsimp only; walk1)))
local macro_rules | `(tactic| k_steps) => `(tactic| repeat' (walk_at "m1"))
local macro_rules | `(tactic| ktr_rel) => `(tactic| first | exact fun _ h => h | (intro p hp; simp only [List.mem_cons, List.mem_append, hp, or_true, true_or]))
local macro_rules | `(tactic| walk_at "all2") => `(tactic| ((try dsimp only); first | exact List.forall_mem_nil _ | (refine' List.forall_mem_cons.mpr ⟨?q1, ?q2⟩; (case q1 => ((try dsimp only); rfl)); (case q2 => walk_at "all2"))))
local macro_rules | `(tactic| walk_at "turn") => `(tactic| (k_dflt (first | (refine' TurnEnd.intro ?tc ?tF ?tN ?tl ?to ?tI ?tk ?tp) | (refine' TurnEnd.introC ?tc ?tF ?tN ?tl ?to ?tI ?tk ?tp)); (case tF => k_asm); (case tN => k_asm); (case to => ktr_rel)))
theorem PartIs.use {w : World} {mean : ExcName → Option Value} {mg mb : Str → Option Value} {lv : Nat} {f : Addr} {vs : List Value} (S : Says w mean mg mb lv f (fun _ => True) vs PartIs)
    {dp un : Nat} {gd : Option (List Code)} {cn : Str} {cs : Scope} {a : Addr} {ccd : Value} {cl : List (Str × Addr)} {outer : List Env} {A₀ : Around} {base h₀ : Heap} {L : Addr} {m : Str → Option Value} {news : List (Addr × Obj)} {s : Shared} {Q E : Value → Shared → Prop}
    (B : Below A₀ base outer h₀) (F : Fr h₀ L s.heap m) (X : (Mine.hd.heap_39 w.params).In h₀) (N : News h₀ L s.heap news) (T : Top Mine.hd.view_39 lz mean mg mb h₀) (hk : cs.kind = .function) (hd : dp + lv < recursionLimit) (hu : un + 10 * lv < cLine)
    (h : ∀ (p : Str) (t : Tok) (h' : Heap) (tk' : Nat), GoodPart p → Fr h₀ L h' m → News h₀ L h' news → Q (.str p t) { s with heap := h', toks := tk' }) :
    wpAny (model PySem.Challenge.rw_pd0129_01.row.prog w) (ktrTop dp un gd cn cs L a ccd cl outer) (call (.ref f) vs) Q E s :=
  S.use B F X N T hk hd hu trivial fun v more h' tk' hR F' N' hl => by
    obtain ⟨rfl, p, t, rfl, hg⟩ := hR
    exact h p t h' tk' hg F' N'
theorem HandP.use {w : World} {mean : ExcName → Option Value} {mg mb : Str → Option Value} {lv : Nat} {f : Addr} {P : List (Addr × Obj) → Prop} {vs : List Value} {r : Str × Int × List Str} (S : SaysN w mean mg mb lv f P vs (HandP r))
    {dp un : Nat} {gd : Option (List Code)} {cn : Str} {cs : Scope} {a : Addr} {ccd : Value} {cl : List (Str × Addr)} {outer : List Env} {A₀ : Around} {base h₀ : Heap} {L : Addr} {m : Str → Option Value} {news : List (Addr × Obj)} {s : Shared} {Q E : Value → Shared → Prop}
    (B : Below A₀ base outer h₀) (F : Fr h₀ L s.heap m) (X : (Mine.hd.heap_39 w.params).In h₀) (N : News h₀ L s.heap news) (T : Top Mine.hd.view_39 lz mean mg mb h₀) (hk : cs.kind = .function) (hd : dp + lv < recursionLimit) (hu : un + 10 * lv < cLine) (hP : P news)
    (h : ∀ (D D1 : Addr) (tr ts : Tok) (c : List (Str × Tok)) (n : Nat) (h' : Heap) (tk' : Nat), c.map (·.1) = r.2.2 → Fr h₀ L h' m → News h₀ L h' ((D, ({ cls := .type "tuple", data := .seq #[.str r.1 tr, .int r.2.1 ts, .ref D1] } : Obj)) :: (D1, PySem.W.listOf (strValues c).toArray n) :: news) → (∀ q ∈ news, q.1 ≠ D ∧ q.1 ≠ D1) → Q (.ref D) { s with heap := h', toks := tk' }) :
    wpAny (model PySem.Challenge.rw_pd0129_01.row.prog w) (ktrTop dp un gd cn cs L a ccd cl outer) (call (.ref f) vs) Q E s :=
  S dp un gd cn cs a ccd cl outer A₀ base h₀ L m news s Q E B F X N T hk hP hd hu fun v more h' tk' hR F' N' hl => by
    obtain ⟨D, D1, tr, ts, c, n, rfl, rfl, hc⟩ := hR
    exact h D D1 tr ts c n h' tk' hc F' N' fun q hq => ⟨hl q hq _ (.head _), hl q hq _ (.tail _ (.head _))⟩
structure LSt where
  path : Str
  t1 : Tok
  root : Str
  t2 : Tok
  steps : Int
  t3 : Tok
  la : Addr
  c : List (Str × Tok)
  n : Nat
def bd : Nat → Nat
  | 0 => 1
  | i + 1 => 2 * bd i + 43
theorem bd_7 : ∀ {i : Nat}, i < 8 → bd i ≤ 5589
  | 0, _ | 1, _ | 2, _ | 3, _ | 4, _ | 5, _ | 6, _ | 7, _ => by decide
  | i + 8, h => by omega
theorem bd_step {i n : Nat} (h : n ≤ bd i) : 2 * n + 43 ≤ bd (i + 1) := by show _ ≤ 2 * bd i + 43; omega
theorem ints_8 {ws : List Value} {ns : List Int} (h : IntsAre ws (ns.take 8)) (i : Nat) (v : Value) (hi : i < ws.toArray.size) (hv : ws.toArray[i]? = some v) : i < 8 ∧ ∃ k t, v = .int k t := by
  have hl := h.length
  rw [List.length_take] at hl
  rw [List.size_toArray] at hi
  obtain ⟨k, t, e, _⟩ := IntsAre.at h i v (by simpa using hv)
  exact ⟨by omega, k, t, e⟩
theorem ints_5 {a b c d e : Int} {t1 t2 t3 t4 t5 : Tok} (i : Nat) (v : Value) (hi : i < #[Value.int a t1, .int b t2, .int c t3, .int d t4, .int e t5].size) (hv : #[Value.int a t1, .int b t2, .int c t3, .int d t4, .int e t5][i]? = some v) : i < 8 ∧ ∃ k t, v = .int k t := by
  have hi' : i < 5 := hi
  refine ⟨by omega, ?_⟩
  have : i = 0 ∨ i = 1 ∨ i = 2 ∨ i = 3 ∨ i = 4 := by omega
  rcases this with rfl | rfl | rfl | rfl | rfl
  · exact ⟨a, t1, (Option.some.inj hv).symm⟩
  · exact ⟨b, t2, (Option.some.inj hv).symm⟩
  · exact ⟨c, t3, (Option.some.inj hv).symm⟩
  · exact ⟨d, t4, (Option.some.inj hv).symm⟩
  · exact ⟨e, t5, (Option.some.inj hv).symm⟩
theorem start_len : (Str.ofString ".").length ≤ bd 0 := by decide +kernel
theorem rep_sum (k n : Nat) : (List.replicate n k).sum = n * k := by
  induction n with
  | zero => simp
  | succ n ih => rw [List.replicate_succ, List.sum_cons, ih, Nat.succ_mul]; omega
theorem eq_1 {path r : Str} {s : Int} {c : List (Str × Tok)} {t : Tok} {P : Prop} (h : path = showS r s (c.map (·.1))) (h1 : ((r ++ Txt.join (Str.ofString "/") ((List.replicate s.toNat (Str.ofString "..", t) ++ c).map (·.1))).length : Int) ≠ 0) (h2 : (path != r ++ Txt.join (Str.ofString "/") ((List.replicate s.toNat (Str.ofString "..", t) ++ c).map (·.1))) = true) : P := by
  have e : (List.replicate s.toNat (Str.ofString "..", t) ++ c).map (·.1) = List.replicate s.toNat (Str.ofString "..") ++ c.map (·.1) := by rw [List.map_append, List.map_replicate]
  rw [e] at h1 h2
  unfold showS at h
  rw [if_neg h1] at h
  rw [← h] at h2
  simp at h2
theorem eq_2 {path r : Str} {s : Int} {c : List (Str × Tok)} {t : Tok} {P : Prop} (h : path = showS r s (c.map (·.1))) (h1 : ((r ++ Txt.join (Str.ofString "/") ((List.replicate s.toNat (Str.ofString "..", t) ++ c).map (·.1))).length : Int) = 0) (h2 : (path != Str.ofString ".") = true) : P := by
  have e : (List.replicate s.toNat (Str.ofString "..", t) ++ c).map (·.1) = List.replicate s.toNat (Str.ofString "..") ++ c.map (·.1) := by rw [List.map_append, List.map_replicate]
  rw [e] at h1
  unfold showS at h
  rw [if_pos h1] at h
  rw [← h] at h2
  simp at h2
theorem rep_weight {s : Int} {c : List (Str × Tok)} {t : Tok} {n : Nat} (h0 : 0 ≤ s) (h : 3 * s + (((c.map (·.1)).map (·.length)).sum : Nat) + ((c.map (·.1)).length : Nat) ≤ (n : Int)) :
    (((List.replicate s.toNat (Str.ofString "..", t) ++ c).map (·.1)).map (·.length)).sum + ((List.replicate s.toNat (Str.ofString "..", t) ++ c).map (·.1)).length ≤ n := by
  have e : (Str.ofString "..").length = 2 := by decide +kernel
  simp only [List.map_append, List.sum_append, List.length_append, List.map_replicate, List.length_replicate, rep_sum, e] at h ⊢
  omega
section
variable {prog : Program} {w : World} {A : Around} {E : Value → Shared → Prop} {s : Shared} {h₀ : Heap} {L D : Addr} {m : Str → Option Value} {news : List (Addr × Obj)} {n : Nat}
theorem join_sl {t : Tok} {c : List (Str × Tok)} {Q : Value → Shared → Prop} (N : News h₀ L s.heap news) (hm : (D, PySem.W.listOf (strValues c).toArray n) ∈ news) (hw : ((c.map (·.1)).map (·.length)).sum + (c.map (·.1)).length ≤ 50000)
    (h : ∀ t' k, (Txt.join (Str.ofString "/") (c.map (·.1))).length ≤ 50000 → Q (.str (Txt.join (Str.ofString "/") (c.map (·.1))) t') { s with toks := k }) : wpAny (model prog w) A (call (.builtin "str.join") [.str (Str.ofString "/") t, .ref D]) Q E s :=
  join_listW (items := (strValues c).toArray) (D := D) ⟨_, (N _ hm).1, rfl, _, rfl⟩ (strsAre_of_values c) (by decide +kernel) (by omega) fun t' k => h t' k (Nat.le_trans (join_len _) hw)
end
local macro_rules | `(tactic| walk_at "mem") => `(tactic| first | with_reducible assumption | exact List.Mem.head _ | (refine List.Mem.tail _ ?_; walk_at "mem"))
local macro_rules | `(tactic| walk_at "binaryOp Mult ref int") => `(tactic| (k_here; (with_reducible show wpAny _ _ (binaryOp Operator.Mult (Value.ref _) (Value.int _ _)) _ _ _); k_dflt (refine' mul_texts ?k1 ?k2 ?k3 ?k4 ?k5 ?_; (case k1 => k_asm); (case k2 => k_asm); (case k3 => walk_at "mem"); (case k4 => with_reducible assumption); (case k5 => omega); k_whole; intro D' h' F' N' l1; (try dsimp only))))
local macro_rules | `(tactic| walk_at "binaryOp Add ref ref") => `(tactic| (k_here; (with_reducible show wpAny _ _ (binaryOp Operator.Add (Value.ref _) (Value.ref _)) _ _ _); k_dflt (refine' add_texts ?k1 ?k2 ?k3 ?k4 ?k5 ?_; (case k1 => k_asm); (case k2 => k_asm); (case k3 => walk_at "mem"); (case k4 => walk_at "mem"); (case k5 => (rw [List.length_replicate]; omega)); k_whole; intro D' h' F' N' l1; (try dsimp only))))
local macro_rules | `(tactic| walk_at "call builtin:str.join") => `(tactic| (k_here; (with_reducible show wpAny _ _ (call (Value.builtin "str.join") [Value.str _ _, Value.ref _]) _ _ _); k_dflt (refine' join_sl ?k1 ?k2 ?k3 ?_; (case k1 => k_asm); (case k2 => walk_at "mem"); (case k3 => exact rep_weight (by with_reducible assumption) (by with_reducible assumption)); k_whole; intro t7 k7 j7; (try dsimp only))))
theorem law_holds : PySem.Challenge.rw_pd0129_01.Holds := hd (by
  k_with_none
  k_go0
  all_goals try k_fold
  k_steps
  · rename_i wp Da ha la1 Db hb1 la2 hb2 hb3 hb4 hb5 hb6 hb7 Dl ws hl9 F9 N9 hI9 hC9 hL9 la3 hne
    have hit : ∀ (i : Nat) (v : Value), i < ws.toArray.size → ws.toArray[i]? = some v → i < 8 ∧ ∃ k t, v = .int k t := ints_8 hI9
    k_dflt (refine' for_list (σ := LSt) (fun c => [(c.la, PySem.W.listOf (strValues c.c).toArray c.n)]) (fun c => [(Str.ofString "path", .str c.path c.t1), (Str.ofString "root", .str c.root c.t2), (Str.ofString "steps", .int c.steps c.t3), (Str.ofString "names", .ref c.la)]) (fun i c => Inv c.path c.root c.steps (c.c.map (·.1)) ∧ c.path.length ≤ bd i) ⟨Str.ofString ".", _, Str.ofString "", _, 0, _, ha, [], 0⟩ ?hh ?hl ?hlL F9 ?kN ?hk ?hp ?turn ?done)
    case hh => rfl
    case hl => exact ⟨_, (News.get N9 (.head _)), rfl, _, rfl⟩
    case hlL => exact (N9 _ (.head _)).2.1
    case kN => exact news_sub N9 fun p hp => by rw [List.mem_singleton.mp hp]; exact .tail _ (.tail _ (.head _))
    case hk => k_dflt (walk_at "all2")
    case hp => exact ⟨Inv.start, start_len⟩
    case turn =>
      rintro I hI1 hI2 ⟨path, t1, root, t2, steps, t3, la, c, n⟩ i v u h tk own hi hv hp hLI hown ⟨oI, hoI⟩ F₁ N₁
      dsimp only at hp F₁ N₁ hLI
      obtain ⟨hi8, k, tk9, rfl⟩ := hit i v hi hv
      obtain ⟨hinv, hlen⟩ := hp
      clear F9 N9
      k_steps
      k_dflt (refine' PartIs.use (part_says _ _ _ _ _ _) ?k1 ?k2 ?k3 ?k4 ?k5 ?kK ?kd ?ku ?_; (case k1 => k_asm); (case k2 => k_asm); (case k3 => k_asm); (case k4 => k_asm); (case k5 => k_asm); (case kK => first | exact rfl | assumption); (case kd => ktr_room); (case ku => ktr_units); k_whole)
      intro p tp hq1 tkq1 hg FP NP
      dsimp only
      have hpl : p.length ≤ 20 := hg.1
      have hb7 := bd_7 hi8
      have hlen5 : path.length ≤ 5589 := Nat.le_trans hlen hb7
      obtain ⟨sl1, sl2, sl3⟩ := step_len (p := p) (path := path) hpl
      have hinv' := hinv.step hg
      obtain ⟨iz0, iz1, iz2⟩ := hinv.size
      rw [List.length_map] at iz2
      have hR : ∀ (w : World) (mean : ExcName → Option Value) (mg mb : Str → Option Value) (tr tp ts : Tok), SaysN w mean mg mb 3 182 (fun news => (la, PySem.W.listOf (strValues c).toArray n) ∈ news) [.str root tr, .int steps ts, .ref la, .str p tp] (HandP (handS root steps (c.map (·.1)) p)) :=
        fun w mean mg mb tr tp ts => handed_says w mean mg mb root p tr tp ts steps la c n (by omega) hpl iz0 (by omega) (by omega)
      generalize handS root steps (c.map (·.1)) p = r at hinv' hR
      obtain ⟨is0, is1, is2⟩ := hinv'.size
      k_steps
      k_dflt (refine' Says.use0 (join_says _ _ _ _ p path _ _ (by omega) (by omega)) ?k1 ?k2 ?k3 ?k4 ?k5 ?kK ?kd ?ku trivial ?_; (case k1 => k_asm); (case k2 => k_asm); (case k3 => k_asm); (case k4 => k_asm); (case k5 => k_asm); (case kK => first | exact rfl | assumption); (case kd => ktr_room); (case ku => ktr_units); k_whole)
      intro tj hj tkj FJ NJ
      dsimp only
      k_steps
      k_dflt (refine' Says.use0 (quote_says _ _ _ _ (joinS p path) _ (by omega)) ?k1 ?k2 ?k3 ?k4 ?k5 ?kK ?kd ?ku trivial ?_; (case k1 => k_asm); (case k2 => k_asm); (case k3 => k_asm); (case k4 => k_asm); (case k5 => k_asm); (case kK => first | exact rfl | assumption); (case kd => ktr_room); (case ku => ktr_units); k_whole)
      intro tq hq tkq FQ NQ
      dsimp only
      k_steps
      k_dflt (refine' Says.use0 (normpath_says _ _ _ _ (quoteS (joinS p path)) _ (by omega)) ?k1 ?k2 ?k3 ?k4 ?k5 ?kK ?kd ?ku trivial ?_; (case k1 => k_asm); (case k2 => k_asm); (case k3 => k_asm); (case k4 => k_asm); (case k5 => k_asm); (case kK => first | exact rfl | assumption); (case kd => ktr_room); (case ku => ktr_units); k_whole)
      intro tn hn tkn FN NN
      dsimp only
      k_steps
      k_dflt (refine' HandP.use (hR _ _ _ _ _ _ _) ?k1 ?k2 ?k3 ?k4 ?k5 ?kK ?kd ?ku (.head _) ?_; (case k1 => k_asm); (case k2 => k_asm); (case k3 => k_asm); (case k4 => k_asm); (case k5 => k_asm); (case kK => first | exact rfl | assumption); (case kd => ktr_room); (case ku => ktr_units); k_whole)
      intro DH D1 tr ts cH nH hH tkH hcH FH NH qH
      dsimp only
      rw [← hcH] at is2 hinv'
      have is3 : 3 * r.2.1 + (((cH.map (·.1)).map (·.length)).sum : Nat) + ((cH.map (·.1)).length : Nat) ≤ ((50000 : Nat) : Int) := by omega
      have is4 : cH.length ≤ 20000 := by rw [List.length_map] at is2; omega
      k_steps
      all_goals first
        | exact eq_1 hinv'.path (by with_reducible assumption) (by with_reducible assumption)
        | exact eq_2 hinv'.path (by with_reducible assumption) (by with_reducible assumption)
        | (k_dflt (refine' TurnEnd.intro ⟨normS (quoteS (joinS p path)), _, r.1, _, r.2.1, _, D1, cH, nH⟩ ?tF ?tN ?tl ?to ?tI ?tk ?tp)
           case tF => k_asm
           case tk => k_dflt (walk_at "all2")
           case tN => k_asm
           case tl => (intro q hq; rw [List.mem_singleton.mp hq]; repeat (first | exact List.Mem.head _ | refine List.Mem.tail _ ?_))
           case to => (intro q hq; repeat (first | exact hq | refine List.Mem.tail _ ?_))
           case tI => (intro q hq; rw [List.mem_singleton.mp hq]; exact (qH (I, oI) (.tail _ hoI)).2.symm)
           case tp => exact ⟨hinv', Nat.le_trans sl1 (bd_step hlen)⟩)
    case done =>
      rintro ⟨path, t1, root, t2, steps, t3, la, c, n⟩ u h tk hp F₁ N₁
      dsimp only at hp F₁ N₁
      clear F9 N9
      k_steps
      all_goals dsimp only
      first | wrow_close | (refine goodW_bool F₁ (by assumption) (raisesW_false ?_) ?_; (· wrow_none_raised); (· wrow_post))
  · rename_i wp Da ha la1 Db hb1 la2 hb2 hb3 hb4 hb5 hb6 hb7 Dl0 ws hl9 hI9 hC9 hL9 la3 hne Dl hl8 F9 N9 la4
    k_dflt (refine' for_list (σ := LSt) (fun c => [(c.la, PySem.W.listOf (strValues c.c).toArray c.n)]) (fun c => [(Str.ofString "path", .str c.path c.t1), (Str.ofString "root", .str c.root c.t2), (Str.ofString "steps", .int c.steps c.t3), (Str.ofString "names", .ref c.la)]) (fun i c => Inv c.path c.root c.steps (c.c.map (·.1)) ∧ c.path.length ≤ bd i) ⟨Str.ofString ".", _, Str.ofString "", _, 0, _, ha, [], 0⟩ ?hh ?hl ?hlL F9 ?kN ?hk ?hp ?turn ?done)
    case hh => rfl
    case hl => exact ⟨_, (News.get N9 (.head _)), rfl, _, rfl⟩
    case hlL => exact (N9 _ (.head _)).2.1
    case kN => exact news_sub N9 fun p hp => by rw [List.mem_singleton.mp hp]; exact .tail _ (.tail _ (.tail _ (.head _)))
    case hk => k_dflt (walk_at "all2")
    case hp => exact ⟨Inv.start, start_len⟩
    case turn =>
      rintro I hI1 hI2 ⟨path, t1, root, t2, steps, t3, la, c, n⟩ i v u h tk own hi hv hp hLI hown ⟨oI, hoI⟩ F₁ N₁
      dsimp only at hp F₁ N₁ hLI
      obtain ⟨hi8, k, tk9, rfl⟩ := ints_5 i v hi hv
      obtain ⟨hinv, hlen⟩ := hp
      clear F9 N9
      k_steps
      k_dflt (refine' PartIs.use (part_says _ _ _ _ _ _) ?k1 ?k2 ?k3 ?k4 ?k5 ?kK ?kd ?ku ?_; (case k1 => k_asm); (case k2 => k_asm); (case k3 => k_asm); (case k4 => k_asm); (case k5 => k_asm); (case kK => first | exact rfl | assumption); (case kd => ktr_room); (case ku => ktr_units); k_whole)
      intro p tp hq1 tkq1 hg FP NP
      dsimp only
      have hpl : p.length ≤ 20 := hg.1
      have hb7 := bd_7 hi8
      have hlen5 : path.length ≤ 5589 := Nat.le_trans hlen hb7
      obtain ⟨sl1, sl2, sl3⟩ := step_len (p := p) (path := path) hpl
      have hinv' := hinv.step hg
      obtain ⟨iz0, iz1, iz2⟩ := hinv.size
      rw [List.length_map] at iz2
      have hR : ∀ (w : World) (mean : ExcName → Option Value) (mg mb : Str → Option Value) (tr tp ts : Tok), SaysN w mean mg mb 3 182 (fun news => (la, PySem.W.listOf (strValues c).toArray n) ∈ news) [.str root tr, .int steps ts, .ref la, .str p tp] (HandP (handS root steps (c.map (·.1)) p)) :=
        fun w mean mg mb tr tp ts => handed_says w mean mg mb root p tr tp ts steps la c n (by omega) hpl iz0 (by omega) (by omega)
      generalize handS root steps (c.map (·.1)) p = r at hinv' hR
      obtain ⟨is0, is1, is2⟩ := hinv'.size
      k_steps
      k_dflt (refine' Says.use0 (join_says _ _ _ _ p path _ _ (by omega) (by omega)) ?k1 ?k2 ?k3 ?k4 ?k5 ?kK ?kd ?ku trivial ?_; (case k1 => k_asm); (case k2 => k_asm); (case k3 => k_asm); (case k4 => k_asm); (case k5 => k_asm); (case kK => first | exact rfl | assumption); (case kd => ktr_room); (case ku => ktr_units); k_whole)
      intro tj hj tkj FJ NJ
      dsimp only
      k_steps
      k_dflt (refine' Says.use0 (quote_says _ _ _ _ (joinS p path) _ (by omega)) ?k1 ?k2 ?k3 ?k4 ?k5 ?kK ?kd ?ku trivial ?_; (case k1 => k_asm); (case k2 => k_asm); (case k3 => k_asm); (case k4 => k_asm); (case k5 => k_asm); (case kK => first | exact rfl | assumption); (case kd => ktr_room); (case ku => ktr_units); k_whole)
      intro tq hq tkq FQ NQ
      dsimp only
      k_steps
      k_dflt (refine' Says.use0 (normpath_says _ _ _ _ (quoteS (joinS p path)) _ (by omega)) ?k1 ?k2 ?k3 ?k4 ?k5 ?kK ?kd ?ku trivial ?_; (case k1 => k_asm); (case k2 => k_asm); (case k3 => k_asm); (case k4 => k_asm); (case k5 => k_asm); (case kK => first | exact rfl | assumption); (case kd => ktr_room); (case ku => ktr_units); k_whole)
      intro tn hn tkn FN NN
      dsimp only
      k_steps
      k_dflt (refine' HandP.use (hR _ _ _ _ _ _ _) ?k1 ?k2 ?k3 ?k4 ?k5 ?kK ?kd ?ku (.head _) ?_; (case k1 => k_asm); (case k2 => k_asm); (case k3 => k_asm); (case k4 => k_asm); (case k5 => k_asm); (case kK => first | exact rfl | assumption); (case kd => ktr_room); (case ku => ktr_units); k_whole)
      intro DH D1 tr ts cH nH hH tkH hcH FH NH qH
      dsimp only
      rw [← hcH] at is2 hinv'
      have is3 : 3 * r.2.1 + (((cH.map (·.1)).map (·.length)).sum : Nat) + ((cH.map (·.1)).length : Nat) ≤ ((50000 : Nat) : Int) := by omega
      have is4 : cH.length ≤ 20000 := by rw [List.length_map] at is2; omega
      k_steps
      all_goals first
        | exact eq_1 hinv'.path (by with_reducible assumption) (by with_reducible assumption)
        | exact eq_2 hinv'.path (by with_reducible assumption) (by with_reducible assumption)
        | (k_dflt (refine' TurnEnd.intro ⟨normS (quoteS (joinS p path)), _, r.1, _, r.2.1, _, D1, cH, nH⟩ ?tF ?tN ?tl ?to ?tI ?tk ?tp)
           case tF => k_asm
           case tk => k_dflt (walk_at "all2")
           case tN => k_asm
           case tl => (intro q hq; rw [List.mem_singleton.mp hq]; repeat (first | exact List.Mem.head _ | refine List.Mem.tail _ ?_))
           case to => (intro q hq; repeat (first | exact hq | refine List.Mem.tail _ ?_))
           case tI => (intro q hq; rw [List.mem_singleton.mp hq]; exact (qH (I, oI) (.tail _ hoI)).2.symm)
           case tp => exact ⟨hinv', Nat.le_trans sl1 (bd_step hlen)⟩)
    case done =>
      rintro ⟨path, t1, root, t2, steps, t3, la, c, n⟩ u h tk hp F₁ N₁
      dsimp only at hp F₁ N₁
      clear F9 N9
      k_steps
      all_goals dsimp only
      first | wrow_close | (refine goodW_bool F₁ (by assumption) (raisesW_false ?_) ?_; (· wrow_none_raised); (· wrow_post)))
end Mine
end
set_option maxRecDepth 100000 in
set_option maxHeartbeats 8000000 in
theorem PySem.Challenge.cw_pd0129_01_holds : PySem.Challenge.rw_pd0129_01.Holds :=
  Mine.law_holds
