import PyProof.Rows.All
import Wide.All
import OpenK.AllK
import Wide.FinOn
import OpenK.XGo
import OpenK.KCell
import PyProof.ExcArgsOwn
import KE.IntBitsLaws
import KE.KEqDict
import PyProof.Rows.TupMore
import PySem.Challenge.RW_xo0016_01
open PySem PySem.W PySem.Calls PyProof.Rows
set_option Elab.async false
set_option maxRecDepth 100000
set_option maxHeartbeats 8000000
namespace Mine
open_top hd for PySem.Challenge.rw_xo0016_01
end Mine

set_option maxHeartbeats 4000000
namespace Mine
/-- locals written over a map -/
def ov (l : List (Str × Value)) (m : Str → Option Value) : Str → Option Value := fun y => match l.lookup y with
  | some v => some v
  | none => m y
theorem ov_focus (l : List (Str × Value)) (m : Str → Option Value) (h : ∀ p ∈ l, m p.1 = some p.2) : m = ov l m := by
  funext y
  unfold ov
  cases e : l.lookup y with
  | none => rfl
  | some v =>
    have : (y, v) ∈ l := by
      induction l with
      | nil => cases e
      | cons p r ih =>
        obtain ⟨a, b⟩ := p
        rw [List.lookup_cons] at e
        by_cases q : (y == a) = true
        · simp only [q] at e
          cases e
          rw [eq_of_beq q]
          exact List.mem_cons_self
        · have q' : (y == a) = false := by simpa using q
          simp only [q'] at e
          exact List.mem_cons_of_mem _ (ih (fun p hp => h p (List.mem_cons_of_mem _ hp)) e)
    exact h _ this

def Ext (h h' : Heap) : Prop := ∀ b o, h.get? b = some o → h'.get? b = some o
theorem Ext.refl (h : Heap) : Ext h h := fun _ _ e => e
theorem Ext.trans {a b c : Heap} (x : Ext a b) (y : Ext b c) : Ext a c := fun _ _ e => y _ _ (x _ _ e)

theorem enter {w : World} {A : Around} {s : Shared} {p : Program} {loose : List Str} {mg mb : Str → Option Value}
    {K : Frag} {R : Result → Shared → Prop} {name qual : Str} {params : Arguments} {body : List Stmt} {scope : Scope} {dV kV doc pm cdv ct oc : Value} {an od : Option Addr} {osl : Array (Option Value)} {f : Addr} {args : Args} {binds : List (Str × Value)}
    (X : K.In s.heap) (T : TopRead p loose mg mb s.heap)
    (ho : K.lookup f = some ⟨oc, od, .func (fnOf name qual params body scope dV kV doc pm an cdv ct), osl⟩) (hcd : codeIn K cdv qual = true) (hroom : A.depth < recursionLimit)
    (hbind : BindsTo s (fnOf name qual params body scope dV kV doc pm an cdv ct) args binds) (hloc : ∀ y ∈ binds, scope.names.lookup y.1 = some .local)
    (h : ∀ h₁, Fr s.heap s.heap.objs.size h₁ (ov binds.reverse fun _ => none) →
      wpAny (model (PySem.Challenge.rw_xo0016_01).row.prog w) (A.deeper (envOf qual scope s.heap.objs.size f cdv)) (execs body (envOf qual scope s.heap.objs.size f cdv))
        (fun fl s' => R (.ok (.ret (match fl with | .ret v => v | _ => .none))) s')
        (fun e s' => wpAny (model (PySem.Challenge.rw_xo0016_01).row.prog w) (A.deeper (envOf qual scope s.heap.objs.size f cdv)) (leaving (envOf qual scope s.heap.objs.size f cdv) e) (fun _ s'' => R (.error e) s'') (fun e' s'' => R (.error e') s'') s')
        { s with heap := h₁, toks := s.toks + binds.length })
    (hcell : ∀ x ∈ scope.names, x.2 ≠ .cell) (hco : scope.isCoroutine = false) (hgen : scope.isGenerator = false) (hk : scope.kind = .function) :
    codeAny (model (PySem.Challenge.rw_xo0016_01).row.prog w) A (.call (.ref f) args) R s := by
  refine codeAny_call_def (fd := fnOf name qual params body scope dV kV doc pm an cdv ct) (body := body) (binds := binds) hroom (X _ _ ho) rfl T.nolimit (codeRec_of X hcd) rfl hbind hcell hloc
    (fun h₁ hns hk₁ => ?_) hco hgen hk
  refine h h₁ ⟨?_, hk₁, Nat.le_refl _⟩
  have e : (ov binds.reverse fun _ => none) = fun y => binds.reverse.lookup y := by
    funext y
    unfold ov
    cases binds.reverse.lookup y <;> rfl
  rw [e]; exact hns
/-- what comes behind, hidden behind a letter: the terms stay small -/
theorem hideQ {M : Model} {A : Around} {α : Type} {t : Sem α} {Q : α → Shared → Prop} {E : Value → Shared → Prop} {s : Shared} (h : ∀ Q' : α → Shared → Prop, Q = Q' → wpAny M A t Q' E s) : wpAny M A t Q E s := h Q rfl
theorem hideE {M : Model} {A : Around} {α : Type} {t : Sem α} {Q : α → Shared → Prop} {E : Value → Shared → Prop} {s : Shared} (h : ∀ E' : Value → Shared → Prop, E = E' → wpAny M A t Q E' s) : wpAny M A t Q E s := h E rfl
end Mine

set_option maxHeartbeats 4000000
namespace Mine
structure Lz (h₀ : Heap) (L : Addr) (m : Str → Option Value) (news : List (Addr × Obj)) (h : Heap) : Prop where
  fr : Fr h₀ L h m
  nw : News h₀ L h news
  nd : (news.map (·.1)).Nodup

namespace Lz
variable {h₀ h h' : Heap} {L d : Addr} {m m' : Str → Option Value} {news news' pre post : List (Addr × Obj)} {o o' : Obj}
theorem get (Z : Lz h₀ L m news h) {a : Addr} {o : Obj} (hm : (a, o) ∈ news) : h.get? a = some o := (Z.nw _ hm).1
theorem lt (Z : Lz h₀ L m news h) {p : Addr × Obj} (hm : p ∈ news) : p.1 < h.objs.size := Heap.lt_size (Z.nw _ hm).1
theorem keep (Z : Lz h₀ L m news h) : Ext h₀ h := Z.fr.keep
theorem locLt (Z : Lz h₀ L m news h) : L < h.objs.size := Z.fr.ns.lt
theorem fresh (Z : Lz h₀ L m news h) {a : Addr} (ha : h.objs.size ≤ a) : h₀.get? a = none := by
  cases e : h₀.get? a with
  | none => rfl
  | some o => exact absurd (Heap.lt_size (Z.keep _ _ e)) (Nat.not_lt.mpr ha)
theorem ext (Z : Lz h₀ L m news h) (x : Ext h h') : Lz h₀ L m news h' := ⟨Z.fr.after x, fun p hp => ⟨x _ _ (Z.nw p hp).1, (Z.nw p hp).2⟩, Z.nd⟩
theorem set (Z : Lz h₀ L m news h) (hn : h'.Ns L m') (hs : Heap.SameBut L h h') : Lz h₀ L m' news h' := ⟨Z.fr.set hn hs, Z.nw.set hs, Z.nd⟩
theorem congr (Z : Lz h₀ L m news h) (e : m = m') : Lz h₀ L m' news h := e ▸ Z
theorem sub (Z : Lz h₀ L m news h) (hs : news'.Sublist news) : Lz h₀ L m news' h :=
  ⟨Z.fr, fun p hp => Z.nw p (hs.subset hp), List.Nodup.sublist (hs.map _) Z.nd⟩
theorem perm (Z : Lz h₀ L m news h) (hs : news'.Perm news) : Lz h₀ L m news' h :=
  ⟨Z.fr, fun p hp => Z.nw p (hs.subset hp), (hs.map (·.1)).nodup_iff.mpr Z.nd⟩
/-- an object made since, not in the list yet -/
theorem add (Z : Lz h₀ L m news h) {a : Addr} {o : Obj} (ho : h.get? a = some o) (hL : a ≠ L) (h0 : h₀.get? a = none) (hn : ∀ p ∈ news, p.1 ≠ a) : Lz h₀ L m ((a, o) :: news) h :=
  ⟨Z.fr, fun p hp => by
    rcases List.mem_cons.mp hp with rfl | hp
    · exact ⟨ho, hL, h0⟩
    · exact Z.nw p hp, by
    rw [List.map_cons, List.nodup_cons]
    refine ⟨fun q => ?_, Z.nd⟩
    obtain ⟨p, hp, e⟩ := List.mem_map.mp q
    exact hn p hp e⟩
/-- after a call that only adds: an object that was not there before it -/
theorem addNew (Z : Lz h₀ L m news h) (x : Ext h h') {a : Addr} {o : Obj} (ho : h'.get? a = some o) (hf : h.get? a = none) : Lz h₀ L m ((a, o) :: news) h' := by
  refine (Z.ext x).add ho ?_ ?_ ?_
  · rintro rfl
    obtain ⟨oL, _, _, hL, _⟩ := Z.fr.ns
    rw [hL] at hf; cases hf
  · cases e : h₀.get? a with
    | none => rfl
    | some o => rw [Z.keep _ _ e] at hf; cases hf
  · rintro p hp rfl
    rw [(Z.nw p hp).1] at hf; cases hf
theorem push (Z : Lz h₀ L m news h) (o : Obj) (hf : o.isFreed = false) : Lz h₀ L m ((h.objs.size, o) :: news) (h.push o) :=
  Z.addNew (fun _ _ e => Heap.get?_push_of_some _ e) (Heap.get?_push_size _ hf) (by
    cases e : h.get? h.objs.size with
    | none => rfl
    | some o => exact absurd (Heap.lt_size e) (Nat.lt_irrefl _))
/-- one object of the list is changed -/
theorem upd (Z : Lz h₀ L m (pre ++ (d, o) :: post) h) (hs : Heap.SameBut d h h') (ho : h'.get? d = some o') : Lz h₀ L m (pre ++ (d, o') :: post) h' := by
  have D := Z.nw (d, o) (by simp)
  have nd := Z.nd
  rw [List.map_append, List.map_cons, List.nodup_append] at nd
  obtain ⟨n1, n2, n3⟩ := nd
  rw [List.nodup_cons] at n2
  refine ⟨Z.fr.change hs D.2.1 D.2.2, Z.nw.setIn (fun p hp e => ?_) (fun p hp e => ?_) hs ho, ?_⟩
  · exact n3 p.1 (List.mem_map_of_mem hp) d (List.mem_cons_self ..) e
  · exact n2.1 (by rw [← e]; exact List.mem_map_of_mem (f := (·.1)) hp)
  · have := Z.nd
    rw [List.map_append, List.map_cons] at this ⊢
    exact this
theorem ne (Z : Lz h₀ L m (pre ++ (d, o) :: post) h) : ∀ p ∈ pre ++ post, p.1 ≠ d := by
  have nd := Z.nd
  rw [List.map_append, List.map_cons, List.nodup_append] at nd
  obtain ⟨n1, n2, n3⟩ := nd
  rw [List.nodup_cons] at n2
  intro p hp e
  rcases List.mem_append.mp hp with hp | hp
  · exact n3 p.1 (List.mem_map_of_mem hp) d (List.mem_cons_self ..) e
  · exact n2.1 (by rw [← e]; exact List.mem_map_of_mem (f := (·.1)) hp)
end Lz

section
variable {prog : Program} {w : World} {A : Around} {E : Value → Shared → Prop} {s : Shared} {name : Str} {scope : Scope} {L a : Addr} {cd : Value} {h₀ : Heap} {m : Str → Option Value} {news : List (Addr × Obj)}
theorem ldZ {x : Str} {pos : Pos} {v : Value} {Q : Value → Shared → Prop} (Z : Lz h₀ L m news s.heap) (hv : m x = some v) (h : Q v s)
    (hk : scope.kind = .function := by rfl) (hl : (envOf name scope L a cd).kindOf x = some .local := by rfl) (hd : (x == ("__debug__" : Str)) = false := by decide) :
    wpAny (model prog w) A (eval (.Name x pos) (envOf name scope L a cd)) Q E s := ld Z.fr hv h hk hl hd
theorem ldnZ {x : Str} {v : Value} {Q : Value → Shared → Prop} (Z : Lz h₀ L m news s.heap) (hv : m x = some v) (h : Q v s)
    (hk : scope.kind = .function := by rfl) (hl : (envOf name scope L a cd).kindOf x = some .local := by rfl) :
    wpAny (model prog w) A (loadName (envOf name scope L a cd) x) Q E s := ldn Z.fr hv h hk hl
theorem stZ {x : Str} {v : Value} {Q : Unit → Shared → Prop} (Z : Lz h₀ L m news s.heap)
    (h : ∀ h' t, Lz h₀ L (ov [(x, v)] m) news h' → Q () { s with heap := h', toks := t })
    (hk : scope.kind = .function := by rfl) (hl : (envOf name scope L a cd).kindOf x = some .local := by rfl) :
    wpAny (model prog w) A (storeName (envOf name scope L a cd) x v) Q E s :=
  wpAny_storeName_local hl Z.fr.ns (fun h' hn hs => h h' _ ((Z.set hn hs).congr (by
      funext y
      unfold ov
      by_cases e : y = x
      · subst e; simp
      · have e' : (y == x) = false := by simpa using e
        simp [e, List.lookup_cons, e']))) (by show (scope.kind == .class || (scope.kind == .module && L != mainGlobals)) = false; rw [hk]; rfl)
theorem newListZ {vs : List Value} {Q : Value → Shared → Prop} (Z : Lz h₀ L m news s.heap)
    (h : ∀ a h', Lz h₀ L m ((a, { cls := .type "list", data := .seq vs.toArray }) :: news) h' → Q (.ref a) { s with heap := h' }) (hsz : vs.length ≤ sizeLine := by size_fits) :
    wpAny (model prog w) A (newList vs) Q E s := wpAny_newObj_type (h _ _ (Z.push _ rfl)) (by show vs.toArray.size ≤ sizeLine; rw [List.size_toArray]; exact hsz)
theorem newTupleZ {vs : List Value} {Q : Value → Shared → Prop} (Z : Lz h₀ L m news s.heap)
    (h : ∀ a h', Lz h₀ L m ((a, { cls := .type "tuple", data := .seq vs.toArray }) :: news) h' → Q (.ref a) { s with heap := h' }) (hsz : vs.length ≤ sizeLine := by size_fits) :
    wpAny (model prog w) A (newTuple vs) Q E s := wpAny_newObj_type (h _ _ (Z.push _ rfl)) (by show vs.toArray.size ≤ sizeLine; rw [List.size_toArray]; exact hsz)
end

/-- how a turn may end -/
def StepZ (s : Shared) (h₀ : Heap) (L : Addr) (own keep : List (Addr × Obj)) (J : (Str → Option Value) → List (Addr × Obj) → Prop) (Q : Flow → Shared → Prop) (f : Flow) (s₃ : Shared) : Prop := match f with
  | .next | .cont => ∃ h' tk m₂ news₂, s₃ = { s with heap := h', toks := tk } ∧ Lz h₀ L m₂ (own ++ news₂) h' ∧ (∀ p ∈ keep, p ∈ news₂) ∧ J m₂ news₂
  | .brk => Q .next s₃
  | .ret v => Q (.ret v) s₃

section
variable {prog : Program} {w : World} {A : Around} {E : Value → Shared → Prop} {s : Shared} {env : Env} {h₀ : Heap} {target : Expr} {body : List Stmt} {Q : Flow → Shared → Prop}
theorem loopZ {R : Result → Shared → Prop} {I : Addr} {fp wr : List Addr} {n : Nat} {P Md : Nat → Value → Heap → Prop} {St : Nat → Heap → Prop} {m : Str → Option Value} {news : List (Addr × Obj)}
    (W : KTurns prog w A target I fp wr n P Md St) (keep : List (Addr × Obj)) (hfp : ∀ b ∈ fp, b ∈ wr ∨ (∃ o, (b, o) ∈ keep) ∨ ∃ o, h₀.get? b = some o)
    (hal : ∀ i h, St i h → ∀ b ∈ wr, ∃ o, h.get? b = some o) (hwn : wr.Nodup) (hwL : env.locals ∉ wr) (hwr : ∀ b ∈ wr, h₀.get? b = none)
    (hst : St 0 s.heap) (Z : Lz h₀ env.locals m news s.heap) (hnw : ∀ p ∈ news, p.1 ∉ wr) (hk0 : ∀ p ∈ keep, p ∈ news)
    (J : Nat → (Str → Option Value) → List (Addr × Obj) → Prop) (h0 : J 0 m news)
    (step : ∀ i v m₁ news₁ own h₁ tk₁, i < n → P i v h₁ → J i m₁ news₁ → (∀ p ∈ keep, p ∈ news₁) → Lz h₀ env.locals m₁ (own ++ news₁) h₁ →
      wpAny (model prog w) A (assign target env v) (fun _ s₂ => wpAny (model prog w) A (execs body env)
        (StepZ s h₀ env.locals own keep (J (i + 1)) (fun f s' => R (.ok f) s')) (notedBy (model prog w) A env fun e s' => R (.error e) s') s₂) (notedBy (model prog w) A env fun e s' => R (.error e) s') { s with heap := h₁, toks := tk₁ })
    (hR : ∀ h' tk m' news', Lz h₀ env.locals m' news' h' → (∀ p ∈ keep, p ∈ news') → J n m' news' → R (.ok .next) { s with heap := h', toks := tk }) :
    codeAny (model prog w) A (.forLoop target (.ref I) body [] env) R s := by
  have old : ∀ b o, h₀.get? b = some o → b ∉ wr := fun b o e hb => by rw [hwr b hb] at e; cases e
  -- the iterator's own objects, as a list
  have mk : ∀ h i, St i h → ∃ own : List (Addr × Obj), own.map (·.1) = wr ∧ ∀ p ∈ own, h.get? p.1 = some p.2 := by
    intro h i st
    have : ∀ l : List Addr, (∀ b ∈ l, b ∈ wr) → ∃ own : List (Addr × Obj), own.map (·.1) = l ∧ ∀ p ∈ own, h.get? p.1 = some p.2 := by
      intro l
      induction l with
      | nil => intro _; exact ⟨[], rfl, fun _ hp => nomatch hp⟩
      | cons b r ih =>
        intro hl
        obtain ⟨o, ho⟩ := hal i h st b (hl b (List.mem_cons_self ..))
        obtain ⟨own, e1, e2⟩ := ih fun c hc => hl c (List.mem_cons_of_mem _ hc)
        refine ⟨(b, o) :: own, by rw [List.map_cons, e1], fun p hp => ?_⟩
        rcases List.mem_cons.mp hp with rfl | hp
        · exact ho
        · exact e2 p hp
    exact this wr fun _ hb => hb
  refine codeAny_forLoop_any
    (fun k s' => ∃ h' tk m' news' i, s' = { s with heap := h', toks := tk } ∧ St i h' ∧ Lz h₀ env.locals m' news' h' ∧ (∀ p ∈ news', p.1 ∉ wr) ∧ (∀ p ∈ keep, p ∈ news') ∧ J i m' news' ∧ i ≤ n ∧ k = n + 1 - i) ?_ (n + 1)
    ⟨s.heap, s.toks, m, news, 0, rfl, hst, Z, hnw, hk0, h0, Nat.zero_le _, rfl⟩
  rintro k s' ⟨h', tk, m', news', i, rfl, hst', Z', hnw', hk', hJ, hi, rfl⟩
  have next : ∀ h₁ : Heap, (∀ b o, b ∉ wr → h'.get? b = some o → h₁.get? b = some o) → Lz h₀ env.locals m' news' h₁ := fun h₁ hk₁ =>
    ⟨⟨Z'.fr.ns.at' fun o e => hk₁ _ o hwL e, fun b o e => hk₁ b o (old b o e) (Z'.fr.keep b o e), Z'.fr.above⟩, fun p hp => ⟨hk₁ _ _ (hnw' p hp) (Z'.nw p hp).1, (Z'.nw p hp).2⟩, Z'.nd⟩
  by_cases hlt : i < n
  · refine W.item i _ _ _ hlt hst' fun v h₁ tk₁ hMd hk₁ => ?_
    refine W.go i v _ _ _ hMd fun h₂ hP hst₂ hk₂ => ?_
    have Z₂ := next h₂ fun b o hb x => hk₂ b o hb (hk₁ b o hb x)
    obtain ⟨own, eo, ho⟩ := mk h₂ (i + 1) hst₂
    have Zo : Lz h₀ env.locals m' (own ++ news') h₂ := by
      refine ⟨Z₂.fr, fun p hp => ?_, ?_⟩
      · rcases List.mem_append.mp hp with hp | hp
        · have hb : p.1 ∈ wr := eo ▸ List.mem_map_of_mem hp
          exact ⟨ho p hp, fun e => hwL (e ▸ hb), hwr _ hb⟩
        · exact Z₂.nw p hp
      · rw [List.map_append, List.nodup_append]
        refine ⟨eo ▸ hwn, Z₂.nd, fun a ha b hb e => ?_⟩
        obtain ⟨p, hp, rfl⟩ := List.mem_map.mp hb
        exact hnw' p hp (eo ▸ e ▸ ha)
    have fin : ∀ s₃, (∃ h' tk m₂ news₂, s₃ = { s with heap := h', toks := tk } ∧ Lz h₀ env.locals m₂ (own ++ news₂) h' ∧ (∀ p ∈ keep, p ∈ news₂) ∧ J (i + 1) m₂ news₂) →
        ∃ k', k' < n + 1 - i ∧ ∃ h' tk m' news' i, s₃ = { s with heap := h', toks := tk } ∧ St i h' ∧ Lz h₀ env.locals m' news' h' ∧ (∀ p ∈ news', p.1 ∉ wr) ∧ (∀ p ∈ keep, p ∈ news') ∧ J i m' news' ∧ i ≤ n ∧ k' = n + 1 - i := by
      rintro s₃ ⟨h₃, tk₃, m₂, news₂, rfl, Z₃, hk₃, hJ₃⟩
      refine ⟨n + 1 - (i + 1), by omega, h₃, tk₃, m₂, news₂, i + 1, rfl, ?_, Z₃.sub (List.sublist_append_right ..), ?_, hk₃, hJ₃, hlt, rfl⟩
      · refine W.frame _ _ _ hst₂ fun b hb o e => ?_
        rcases hfp b hb with hw | ⟨o', hkp⟩ | ⟨o', h0'⟩
        · obtain ⟨p, hp, rfl⟩ := List.mem_map.mp (eo ▸ hw)
          have := ho p hp
          rw [this] at e
          cases e
          exact Z₃.get (List.mem_append_left _ hp)
        · have := Z₂.get (hk' _ hkp)
          rw [this] at e
          cases e
          exact Z₃.get (List.mem_append_right _ (hk₃ _ hkp))
        · have := Z₂.keep _ _ h0'
          rw [this] at e
          cases e
          exact Z₃.keep _ _ h0'
      · intro p hp hb
        have nd := Z₃.nd
        rw [List.map_append, List.nodup_append] at nd
        exact nd.2.2 p.1 (eo ▸ hb) p.1 (List.mem_map_of_mem hp) rfl
    refine wpAny_mono (step i v m' news' own h₂ tk₁ hlt hP hJ hk' Zo) (fun _ s₂ h₂' => wpAny_mono h₂' (fun f s₃ h₃ => ?_) fun _ _ e => e) fun _ _ e => e
    cases f with
    | ret v => exact h₃
    | brk => exact h₃
    | cont => exact fin _ h₃
    | next => exact fin _ h₃
  · have hin : i = n := by omega
    subst hin
    refine W.done _ _ _ hst' fun h₁ tk₁ hk₁ => wpAny_execs_nil ?_
    exact hR h₁ tk₁ m' news' (next h₁ hk₁) hk' hJ

def TurnsZ (prog : Program) (w : World) (A : Around) (h₀ : Heap) (env : Env) (target : Expr) (body : List Stmt) (Q : Flow → Shared → Prop) (E : Value → Shared → Prop) (it : Value) (s₂ : Shared) : Prop :=
  ∃ (I : Addr) (fp wr : List Addr) (n : Nat) (P Md : Nat → Value → Heap → Prop) (St : Nat → Heap → Prop) (m : Str → Option Value) (news keep : List (Addr × Obj)) (J : Nat → (Str → Option Value) → List (Addr × Obj) → Prop),
    it = .ref I ∧ KTurns prog w A target I fp wr n P Md St ∧ (∀ b ∈ fp, b ∈ wr ∨ (∃ o, (b, o) ∈ keep) ∨ ∃ o, h₀.get? b = some o) ∧ (∀ i h, St i h → ∀ b ∈ wr, ∃ o, h.get? b = some o) ∧ wr.Nodup ∧ env.locals ∉ wr ∧ (∀ b ∈ wr, h₀.get? b = none) ∧
    St 0 s₂.heap ∧ Lz h₀ env.locals m news s₂.heap ∧ (∀ p ∈ news, p.1 ∉ wr) ∧ (∀ p ∈ keep, p ∈ news) ∧ J 0 m news ∧
    (∀ i v m₁ news₁ own h₁ tk₁, i < n → P i v h₁ → J i m₁ news₁ → (∀ p ∈ keep, p ∈ news₁) → Lz h₀ env.locals m₁ (own ++ news₁) h₁ →
      wpAny (model prog w) A (assign target env v) (fun _ s₃ => wpAny (model prog w) A (execs body env) (StepZ s₂ h₀ env.locals own keep (J (i + 1)) Q) E s₃) E { s₂ with heap := h₁, toks := tk₁ }) ∧
    ∀ h' tk m' news', Lz h₀ env.locals m' news' h' → (∀ p ∈ keep, p ∈ news') → J n m' news' → Q .next { s₂ with heap := h', toks := tk }

theorem ForZ {iter : Expr} {pos : Pos}
    (h : wpAny (model prog w) A (eval iter env) (fun xv s₁ => wpAny (model prog w) A (pyIter xv) (fun it s₂ => TurnsZ prog w A h₀ env target body Q E it s₂) E s₁) E s)
    (hs : ∀ x, foldedSetIterable iter env x = pure x := by intro _; rfl)
    (hE : PassesOwn (model prog w) A env E := by passes_own) :
    wpAny (model prog w) A (exec (.For target iter body [] pos) env) Q E s := by
  refine wpAny_For (wpAny_mono h (fun xv s₁ h₁ => wpAny_mono h₁ (fun it s₂ h₂ => ?_) fun _ _ e => e) fun _ _ e => e) hs
  obtain ⟨I, fp, wr, n, P, Md, St, m, news, keep, J, rfl, W, hfp, hal, hwn, hwL, hwr, hst, Z, hnw, hk0, h0, step, hQ⟩ := h₂
  exact loopZ (R := fun r s' => match r with | .ok f => Q f s' | .error e => cameBackBy (model prog w) A env E e s') W keep hfp hal hwn hwL hwr hst Z hnw hk0 J h0
    (fun i v m₁ news₁ own h₁ tk₁ a b c d e => wpAny_mono (step i v m₁ news₁ own h₁ tk₁ a b c d e) (fun _ _ x => wpAny_passesOwn hE x) hE) hQ
end
end Mine

set_option maxHeartbeats 4000000
namespace Mine
section
variable {prog : Program} {w : World} {A : Around} {E : Value → Shared → Prop} {s : Shared} {env : Env} {h₀ : Heap} {target : Expr} {body : List Stmt} {Q : Flow → Shared → Prop} {m : Str → Option Value} {news : List (Addr × Obj)}

abbrev TurnZ (prog : Program) (w : World) (A : Around) (h₀ : Heap) (env : Env) (target : Expr) (body : List Stmt) (Q : Flow → Shared → Prop) (E : Value → Shared → Prop) (s : Shared) (keep own : List (Addr × Obj))
    (Jn : (Str → Option Value) → List (Addr × Obj) → Prop) (v : Value) (h₁ : Heap) (tk₁ : Nat) : Prop :=
  wpAny (model prog w) A (assign target env v) (fun _ s₃ => wpAny (model prog w) A (execs body env) (StepZ s h₀ env.locals own keep Jn Q) E s₃) E { s with heap := h₁, toks := tk₁ }

theorem turnsZ_mk {I : Addr} {fp wr : List Addr} {n : Nat} {P Md : Nat → Value → Heap → Prop} {St : Nat → Heap → Prop} {h' : Heap} {tk : Nat}
    (W : KTurns prog w A target I fp wr n P Md St) (keep : List (Addr × Obj)) (Z : Lz h₀ env.locals m news s.heap) (x : Ext s.heap h') (news' : List (Addr × Obj)) (Z' : Lz h₀ env.locals m news' h') (hn' : ∀ p ∈ news', p.1 ∉ wr)
    (hfp : ∀ b ∈ fp, b ∈ wr ∨ (∃ o, (b, o) ∈ keep) ∨ ∃ o, h₀.get? b = some o) (hal : ∀ i h, St i h → ∀ b ∈ wr, ∃ o, h.get? b = some o) (hwn : wr.Nodup) (hwr : ∀ b ∈ wr, s.heap.objs.size ≤ b)
    (hst : St 0 h') (hk0 : ∀ p ∈ keep, p ∈ news')
    (J : Nat → (Str → Option Value) → List (Addr × Obj) → Prop) (h0 : J 0 m news')
    (step : ∀ i v m₁ news₁ own h₁ tk₁, i < n → P i v h₁ → J i m₁ news₁ → (∀ p ∈ keep, p ∈ news₁) → Lz h₀ env.locals m₁ (own ++ news₁) h₁ → TurnZ prog w A h₀ env target body Q E s keep own (J (i + 1)) v h₁ tk₁)
    (done : ∀ h' tk m' news', Lz h₀ env.locals m' news' h' → (∀ p ∈ keep, p ∈ news') → J n m' news' → Q .next { s with heap := h', toks := tk }) :
    TurnsZ prog w A h₀ env target body Q E (.ref I) { s with heap := h', toks := tk } :=
  ⟨I, fp, wr, n, P, Md, St, m, news', keep, J, rfl, W, hfp, hal, hwn, fun hb => Nat.lt_irrefl _ (Nat.lt_of_lt_of_le Z.locLt (hwr _ hb)), fun b hb => Z.fresh (hwr b hb), hst, Z', hn', hk0, h0, step, done⟩

/-- over a list of the ledger -/
theorem srcList {ax : Addr} {lo : Obj} {vs : List Value} {k : Nat} (hh : A.handled = none) (Z : Lz h₀ env.locals m news s.heap) (hm : (ax, lo) ∈ news) (hc : lo.cls = .type "list") (hd : lo.data = .seq vs.toArray k)
    (J : Nat → (Str → Option Value) → List (Addr × Obj) → Prop) (h0 : J 0 m news)
    (step : ∀ i v m₁ news₁ own h₁ tk₁, vs[i]? = some v → J i m₁ news₁ → (ax, lo) ∈ news₁ → Lz h₀ env.locals m₁ (own ++ news₁) h₁ → TurnZ prog w A h₀ env target body Q E s [(ax, lo)] own (J (i + 1)) v h₁ tk₁)
    (done : ∀ h' tk m' news', Lz h₀ env.locals m' news' h' → (ax, lo) ∈ news' → J vs.length m' news' → Q .next { s with heap := h', toks := tk }) :
    wpAny (model prog w) A (pyIter (.ref ax)) (fun it s₂ => TurnsZ prog w A h₀ env target body Q E it s₂) E s := by
  have hl : s.heap.IsList ax vs.toArray := ⟨lo, Z.get hm, hc, k, hd⟩
  have hlt : ax < s.heap.objs.size := Z.lt hm
  refine wpAny_pyIter_list hl ?_
  have Z' := Z.push { cls := .type "list_iterator", data := .fields #[.ref ax, .int 0 0] } rfl
  refine turnsZ_mk (KTurns.ofWalks (Walks.list hh s.heap.objs.size ax (Nat.ne_of_lt hlt) vs.toArray) fun i v s Q E st q => letGo_listiter st.1 q) [(ax, lo)] Z (fun _ _ e => Heap.get?_push_of_some _ e) news (Z'.sub (List.sublist_cons_self ..)) ?_ ?_ ?_ ?_ ?_ ?_ ?_ J h0 ?_ ?_
  · intro p hp hb
    exact Nat.ne_of_lt (Z.lt hp) (List.mem_singleton.mp hb)
  · intro b hb
    have : b = s.heap.objs.size ∨ b = ax := by simpa using hb
    rcases this with e | e
    · exact .inl (by simp [e])
    · exact .inr (.inl ⟨lo, by simp [e]⟩)
  · rintro i h ⟨⟨o, ho, _⟩, _⟩ b hb
    rw [List.mem_singleton.mp hb]
    exact ⟨o, ho⟩
  · simp
  · intro b hb
    rw [List.mem_singleton.mp hb]
    exact Nat.le_refl _
  · exact ⟨⟨_, Heap.get?_push_size _ rfl, rfl, rfl⟩, hl.at fun o e => Heap.get?_push_of_some _ e⟩
  · intro p hp
    rw [List.mem_singleton.mp hp]
    exact hm
  · intro i v m₁ news₁ own h₁ tk₁ _ hP hJ hk Z₁
    have hP' : vs.toArray[i]? = some v := hP
    exact step i v m₁ news₁ own h₁ tk₁ (by simpa using hP') hJ (hk _ (List.mem_singleton_self _)) Z₁
  · intro h' tk m' news' Z₁ hk hJ
    rw [List.size_toArray] at hJ
    exact done h' tk m' news' Z₁ (hk _ (List.mem_singleton_self _)) hJ

theorem letGo_other {I : Addr} {v : Value} {Q' : Unit → Shared → Prop} {s' : Shared} {x : Str} {px : Pos} (q : Q' () s') : wpAny (model prog w) A (letOwnedTupleGo (.Name x px) (.ref I) v) Q' E s' := wpAny_pure q

/-- over a text, a name as the target -/
theorem srcStr {x : Str} {t : Tok} {y : Str} {py : Pos} (hh : A.handled = none) (ha : x.cps.all (· < 128) = true) (Z : Lz h₀ env.locals m news s.heap)
    (J : Nat → (Str → Option Value) → List (Addr × Obj) → Prop) (h0 : J 0 m news)
    (step : ∀ i c u m₁ news₁ own h₁ tk₁, x.cps[i]? = some c → J i m₁ news₁ → Lz h₀ env.locals m₁ (own ++ news₁) h₁ → TurnZ prog w A h₀ env (.Name y py) body Q E s [] own (J (i + 1)) (.str ⟨#[c]⟩ u) h₁ tk₁)
    (done : ∀ h' tk m' news', Lz h₀ env.locals m' news' h' → J x.cps.size m' news' → Q .next { s with heap := h', toks := tk }) :
    wpAny (model prog w) A (pyIter (.str x t)) (fun it s₂ => TurnsZ prog w A h₀ env (.Name y py) body Q E it s₂) E s := by
  refine wpAny_pyIter_ascii ha ?_
  refine turnsZ_mk (KTurns.ofWalks (Walks.strAscii hh s.heap.objs.size x t) fun i v s Q E st q => letGo_other q) [] Z (fun _ _ e => Heap.get?_push_of_some _ e) news ((Z.push _ rfl).sub (List.sublist_cons_self ..)) ?_ ?_ ?_ ?_ ?_ ?_ ?_ J h0 ?_ ?_
  · intro p hp hb
    exact Nat.ne_of_lt (Z.lt hp) (List.mem_singleton.mp hb)
  · intro b hb
    exact .inl hb
  · rintro i h ⟨o, ho, _⟩ b hb
    rw [List.mem_singleton.mp hb]
    exact ⟨o, ho⟩
  · simp
  · intro b hb
    rw [List.mem_singleton.mp hb]
    exact Nat.le_refl _
  · exact ⟨_, Heap.get?_push_size _ rfl, rfl, rfl⟩
  · intro p hp
    cases hp
  · rintro i v m₁ news₁ own h₁ tk₁ _ ⟨c, u, hc, rfl⟩ hJ _ Z₁
    exact step i c u m₁ news₁ own h₁ tk₁ hc hJ Z₁
  · intro h' tk m' news' Z₁ _ hJ
    exact done h' tk m' news' Z₁ hJ

/-- over range(a, b), a name as the target -/
theorem srcRange {r : Addr} {a b : Int} {t u v : Tok} {n : Nat} {y : Str} {py : Pos} (hh : A.handled = none) (hr : IsRange s.heap r a b 1 t u v) (hsmall : Builtin.Range.small a b 1 = true) (hn : Builtin.Range.rangeSize a b 1 = (n : Int)) (Z : Lz h₀ env.locals m news s.heap)
    (J : Nat → (Str → Option Value) → List (Addr × Obj) → Prop) (h0 : J 0 m news)
    (step : ∀ i tk' m₁ news₁ own h₁ tk₁, i < n → J i m₁ news₁ → Lz h₀ env.locals m₁ (own ++ news₁) h₁ → TurnZ prog w A h₀ env (.Name y py) body Q E s [] own (J (i + 1)) (.int (a + i) tk') h₁ tk₁)
    (done : ∀ h' tk m' news', Lz h₀ env.locals m' news' h' → J n m' news' → Q .next { s with heap := h', toks := tk }) :
    wpAny (model prog w) A (pyIter (.ref r)) (fun it s₂ => TurnsZ prog w A h₀ env (.Name y py) body Q E it s₂) E s := by
  refine wpAny_pyIter_range hr hsmall ?_
  refine turnsZ_mk (KTurns.ofWalks (Walks.range hh s.heap.objs.size a 1 n) fun i v s Q E st q => letGo_other q) [] Z (fun _ _ e => Heap.get?_push_of_some _ e) news ((Z.push _ rfl).sub (List.sublist_cons_self ..)) ?_ ?_ ?_ ?_ ?_ ?_ ?_ J h0 ?_ ?_
  · intro p hp hb
    exact Nat.ne_of_lt (Z.lt hp) (List.mem_singleton.mp hb)
  · intro b hb
    exact .inl hb
  · rintro i h ho b hb
    rw [List.mem_singleton.mp hb]
    exact ⟨_, ho⟩
  · simp
  · intro b hb
    rw [List.mem_singleton.mp hb]
    exact Nat.le_refl _
  · show Heap.get? _ _ = some _
    rw [Heap.get?_push_size _ rfl, hn]
    simp [rawInt]
  · intro p hp
    cases hp
  · rintro i v m₁ news₁ own h₁ tk₁ hi ⟨tk', rfl⟩ hJ _ Z₁
    rw [Int.mul_one]
    exact step i tk' m₁ news₁ own h₁ tk₁ hi hJ Z₁
  · intro h' tk m' news' Z₁ _ hJ
    exact done h' tk m' news' Z₁ hJ

section
variable {K : Type} [DecidableEq K] {knd : KeyKind prog w K}
/-- over d.items(), d of the base -/
theorem srcItems {elts : List Expr} {kk : Nat} {pos : Pos} {d vw : Addr} {od : Obj} {kvs : List (K × Value)} (hh : A.handled = none) (Z : Lz h₀ env.locals m news s.heap) (hvw : s.heap.IsItemsView vw d) (h0d : h₀.get? d = some od) (hd : od.IsDictOf knd kvs)
    (J : Nat → (Str → Option Value) → List (Addr × Obj) → Prop) (h0 : J 0 m news)
    (step : ∀ i T key k x m₁ news₁ own h₁ tk₁, kvs[i]? = some (k, x) → knd.is k key = true → h₁.IsTuple T #[key, x] → J i m₁ news₁ → Lz h₀ env.locals m₁ (own ++ news₁) h₁ → TurnZ prog w A h₀ env (.Tuple elts kk pos) body Q E s [] own (J (i + 1)) (.ref T) h₁ tk₁)
    (done : ∀ h' tk m' news', Lz h₀ env.locals m' news' h' → J kvs.length m' news' → Q .next { s with heap := h', toks := tk }) :
    wpAny (model prog w) A (pyIter (.ref vw)) (fun it s₂ => TurnsZ prog w A h₀ env (.Tuple elts kk pos) body Q E it s₂) E s := by
  have hdo : s.heap.DictOf knd d kvs := Heap.dictOf_iff.mpr ⟨od, Z.keep _ _ h0d, hd⟩
  obtain ⟨ep, hda⟩ := hdo.dictAt
  have hdlt : d < s.heap.objs.size := Heap.lt_size (Z.keep _ _ h0d)
  refine wpAny_pyIter_items hvw hda ?_
  refine turnsZ_mk (kti_itemsTurns (knd := knd) hh s.heap.objs.size d (Nat.ne_of_lt hdlt) kvs ep) [] Z (fun _ _ e => Heap.get?_push_of_some _ e) news ((Z.push _ rfl).sub (List.sublist_cons_self ..)) ?_ ?_ ?_ ?_ ?_ ?_ ?_ J h0 ?_ ?_
  · intro p hp hb
    exact Nat.ne_of_lt (Z.lt hp) (List.mem_singleton.mp hb)
  · intro b hb
    have : b = s.heap.objs.size ∨ b = d := by simpa using hb
    rcases this with e | e
    · exact .inl (by simp [e])
    · exact .inr (.inr ⟨od, e ▸ h0d⟩)
  · rintro i h ⟨⟨ok, ov, ho⟩, _⟩ b hb
    rw [List.mem_singleton.mp hb]
    exact ⟨_, ho⟩
  · simp
  · intro b hb
    rw [List.mem_singleton.mp hb]
    exact Nat.le_refl _
  · exact ⟨⟨.none, .none, Heap.get?_push_size _ rfl⟩, hda.at' fun o e => Heap.get?_push_of_some _ e⟩
  · intro p hp
    cases hp
  · rintro i v m₁ news₁ own h₁ tk₁ hi ⟨T, key, k, x, rfl, hx, hkey, hT⟩ hJ _ Z₁
    exact step i T key k x m₁ news₁ own h₁ tk₁ hx hkey hT hJ Z₁
  · intro h' tk m' news' Z₁ _ hJ
    exact done h' tk m' news' Z₁ hJ

/-- over d.values(), d of the base -/
theorem srcValues {d vw : Addr} {od : Obj} {kvs : List (K × Value)} {y : Str} {py : Pos} (hh : A.handled = none) (Z : Lz h₀ env.locals m news s.heap) (hvw : s.heap.IsValuesView vw d) (h0d : h₀.get? d = some od) (hd : od.IsDictOf knd kvs)
    (J : Nat → (Str → Option Value) → List (Addr × Obj) → Prop) (h0 : J 0 m news)
    (step : ∀ i k v m₁ news₁ own h₁ tk₁, kvs[i]? = some (k, v) → J i m₁ news₁ → Lz h₀ env.locals m₁ (own ++ news₁) h₁ → TurnZ prog w A h₀ env (.Name y py) body Q E s [] own (J (i + 1)) v h₁ tk₁)
    (done : ∀ h' tk m' news', Lz h₀ env.locals m' news' h' → J kvs.length m' news' → Q .next { s with heap := h', toks := tk }) :
    wpAny (model prog w) A (pyIter (.ref vw)) (fun it s₂ => TurnsZ prog w A h₀ env (.Name y py) body Q E it s₂) E s := by
  have hdo : s.heap.DictOf knd d kvs := Heap.dictOf_iff.mpr ⟨od, Z.keep _ _ h0d, hd⟩
  obtain ⟨ep, hda⟩ := hdo.dictAt
  have hdlt : d < s.heap.objs.size := Heap.lt_size (Z.keep _ _ h0d)
  refine wpAny_pyIter_values hvw hda ?_
  refine turnsZ_mk (KTurns.ofWalks (Walks.dictValues (knd := knd) hh s.heap.objs.size d (Nat.ne_of_lt hdlt) kvs ep) fun i v s Q E st q => letGo_other q) [] Z (fun _ _ e => Heap.get?_push_of_some _ e) news ((Z.push _ rfl).sub (List.sublist_cons_self ..)) ?_ ?_ ?_ ?_ ?_ ?_ ?_ J h0 ?_ ?_
  · intro p hp hb
    exact Nat.ne_of_lt (Z.lt hp) (List.mem_singleton.mp hb)
  · intro b hb
    have : b = s.heap.objs.size ∨ b = d := by simpa using hb
    rcases this with e | e
    · exact .inl (by simp [e])
    · exact .inr (.inr ⟨od, e ▸ h0d⟩)
  · rintro i h ⟨⟨o, ho, _⟩, _⟩ b hb
    rw [List.mem_singleton.mp hb]
    exact ⟨_, ho⟩
  · simp
  · intro b hb
    rw [List.mem_singleton.mp hb]
    exact Nat.le_refl _
  · exact ⟨⟨_, Heap.get?_push_size _ rfl, rfl, rfl⟩, hda.at' fun o e => Heap.get?_push_of_some _ e⟩
  · intro p hp
    cases hp
  · rintro i v m₁ news₁ own h₁ tk₁ hi ⟨k, hx⟩ hJ _ Z₁
    exact step i k v m₁ news₁ own h₁ tk₁ hx hJ Z₁
  · intro h' tk m' news' Z₁ _ hJ
    exact done h' tk m' news' Z₁ hJ
end

/-- over enumerate(l), l of the ledger -/
theorem srcEnum {elts : List Expr} {kk : Nat} {pos : Pos} {l : Addr} {lo : Obj} {vs : List Value} {k : Nat} (hh : A.handled = none) (Z : Lz h₀ env.locals m news s.heap) (hm : (l, lo) ∈ news) (hc : lo.cls = .type "list") (hd : lo.data = .seq vs.toArray k)
    (J : Nat → (Str → Option Value) → List (Addr × Obj) → Prop) (h0 : J 0 m news)
    (step : ∀ i T t v m₁ news₁ own h₁ tk₁, vs[i]? = some v → h₁.IsTuple T #[.int i t, v] → J i m₁ news₁ → (l, lo) ∈ news₁ → Lz h₀ env.locals m₁ (own ++ news₁) h₁ → TurnZ prog w A h₀ env (.Tuple elts kk pos) body Q E s [(l, lo)] own (J (i + 1)) (.ref T) h₁ tk₁)
    (done : ∀ h' tk m' news', Lz h₀ env.locals m' news' h' → (l, lo) ∈ news' → J vs.length m' news' → Q .next { s with heap := h', toks := tk }) :
    wpAny (model prog w) A (call (.type "enumerate") [.ref l]) (fun xv s₁ => wpAny (model prog w) A (pyIter xv) (fun it s₂ => TurnsZ prog w A h₀ env (.Tuple elts kk pos) body Q E it s₂) E s₁) E s := by
  have hl : s.heap.IsList l vs.toArray := ⟨lo, Z.get hm, hc, k, hd⟩
  have hlt : l < s.heap.objs.size := Z.lt hm
  refine call_enumerate_list hl fun h' hE hI hsz hk => ?_
  refine wpAny_pyIter_enum hE ?_
  refine turnsZ_mk (KTurns.ofWalksU (WalksT.enumerate hh (s.heap.objs.size + 1) s.heap.objs.size l (Nat.succ_ne_self _) (ktu_ne 1 hlt) (Nat.ne_of_lt hlt) vs.toArray).toU) [(l, lo)] Z hk news (Z.ext hk) ?_ ?_ ?_ ?_ ?_ ?_ ?_ J h0 ?_ ?_
  · intro p hp hb
    have hb' : p.1 = s.heap.objs.size + 1 ∨ p.1 = s.heap.objs.size := by simpa using hb
    have hp' : p.1 < s.heap.objs.size := Z.lt hp
    rcases hb' with e | e
    · exact ktu_ne 1 hp' e
    · exact Nat.ne_of_lt hp' e
  · intro b hb
    have hb' : b = s.heap.objs.size + 1 ∨ b = s.heap.objs.size ∨ b = l := by simpa using hb
    rcases hb' with rfl | rfl | rfl
    · exact .inl (by simp)
    · exact .inl (by simp)
    · exact .inr (.inl ⟨lo, by simp⟩)
  · rintro i h ⟨⟨old, he⟩, ⟨oi, hoi, _⟩, _⟩ b hb
    have hb' : b = s.heap.objs.size + 1 ∨ b = s.heap.objs.size := by simpa using hb
    rcases hb' with rfl | rfl
    · exact ⟨_, he⟩
    · exact ⟨_, hoi⟩
  · simp
  · intro b hb
    have hb' : b = s.heap.objs.size + 1 ∨ b = s.heap.objs.size := by simpa using hb
    rcases hb' with rfl | rfl
    · exact Nat.le_succ _
    · exact Nat.le_refl _
  · exact ⟨⟨.none, hE⟩, hI, hl.at fun o e => hk l o e⟩
  · intro p hp
    rw [List.mem_singleton.mp hp]
    exact hm
  · rintro i v m₁ news₁ own h₁ tk₁ _ ⟨T, vals, rfl, ⟨t, x, hx, rfl⟩, hT⟩ hJ hk Z₁
    exact step i T t x m₁ news₁ own h₁ tk₁ (by simpa using hx) hT hJ (hk _ (List.mem_singleton_self _)) Z₁
  · intro h' tk m' news' Z₁ hk hJ
    rw [List.size_toArray] at hJ
    exact done h' tk m' news' Z₁ (hk _ (List.mem_singleton_self _)) hJ

/-- over zip(l1, l2), l1 of the ledger, l2 of the base -/
theorem srcZip {elts : List Expr} {kk : Nat} {pos : Pos} {l1 l2 : Addr} {lo1 lo2 : Obj} {xs ys : List Value} {k1 k2 : Nat} (hh : A.handled = none) (Z : Lz h₀ env.locals m news s.heap) (hm1 : (l1, lo1) ∈ news) (hc1 : lo1.cls = .type "list") (hd1 : lo1.data = .seq xs.toArray k1)
    (hm2 : h₀.get? l2 = some lo2) (hc2 : lo2.cls = .type "list") (hd2 : lo2.data = .seq ys.toArray k2)
    (J : (Addr × Obj) → Nat → (Str → Option Value) → List (Addr × Obj) → Prop) (h0 : ∀ p, J p 0 m (p :: news))
    (step : ∀ q i T x y m₁ news₁ own h₁ tk₁, xs[i]? = some x → ys[i]? = some y → h₁.IsTuple T #[x, y] → J q i m₁ news₁ → q ∈ news₁ → (l1, lo1) ∈ news₁ → Lz h₀ env.locals m₁ (own ++ news₁) h₁ → TurnZ prog w A h₀ env (.Tuple elts kk pos) body Q E s [q, (l1, lo1)] own (J q (i + 1)) (.ref T) h₁ tk₁)
    (done : ∀ q h' tk m' news', Lz h₀ env.locals m' news' h' → (l1, lo1) ∈ news' → J q (min xs.length ys.length) m' news' → Q .next { s with heap := h', toks := tk }) :
    wpAny (model prog w) A (call (.type "zip") [.ref l1, .ref l2]) (fun xv s₁ => wpAny (model prog w) A (pyIter xv) (fun it s₂ => TurnsZ prog w A h₀ env (.Tuple elts kk pos) body Q E it s₂) E s₁) E s := by
  have hl1 : s.heap.IsList l1 xs.toArray := ⟨lo1, Z.get hm1, hc1, k1, hd1⟩
  have hl2 : s.heap.IsList l2 ys.toArray := ⟨lo2, Z.keep _ _ hm2, hc2, k2, hd2⟩
  have hlt1 : l1 < s.heap.objs.size := Z.lt hm1
  have hlt2 : l2 < s.heap.objs.size := Heap.lt_size (Z.keep _ _ hm2)
  have D : ZipApart (s.heap.objs.size + 4) (s.heap.objs.size + 2) (s.heap.objs.size + 3) s.heap.objs.size (s.heap.objs.size + 1) l1 l2 := ktu_apart _ _ _ hlt1 hlt2
  refine call_zip_2 hl1 hl2 fun h' hz hTI hTO hi1 hi2 hsz hk => ?_
  refine wpAny_pyIter_zip hz ?_
  have none2 : s.heap.get? (s.heap.objs.size + 2) = none := by
    cases e : s.heap.get? (s.heap.objs.size + 2) with
    | none => rfl
    | some o => exact absurd (Heap.lt_size e) (Nat.not_lt.mpr (Nat.le_add_right _ _))
  obtain ⟨oTI, hoTI⟩ : ∃ o, h'.get? (s.heap.objs.size + 2) = some o := ⟨_, hTI⟩
  have Z' := Z.addNew hk hoTI none2
  refine turnsZ_mk (KTurns.ofWalksU (WalksT.zip2 hh _ _ _ _ _ _ _ D xs.toArray ys.toArray).toU) [(s.heap.objs.size + 2, oTI), (l1, lo1)] Z hk _ Z' ?_ ?_ ?_ ?_ ?_ ?_ ?_ (J _) (h0 _) ?_ ?_
  · intro p hp hb
    have hb' : p.1 = s.heap.objs.size + 4 ∨ p.1 = s.heap.objs.size + 3 ∨ p.1 = s.heap.objs.size ∨ p.1 = s.heap.objs.size + 1 := by simpa using hb
    have hp' : p.1 = s.heap.objs.size + 2 ∨ p.1 < s.heap.objs.size := by
      rcases List.mem_cons.mp hp with rfl | hp
      · exact .inl rfl
      · exact .inr (Z.lt hp)
    have e : ∀ x y : Nat, (x = y + 4 ∨ x = y + 3 ∨ x = y ∨ x = y + 1) → (x = y + 2 ∨ x < y) → False := by omega
    exact e _ _ hb' hp'
  · intro b hb
    have hb' : b = s.heap.objs.size + 4 ∨ b = s.heap.objs.size + 2 ∨ b = s.heap.objs.size + 3 ∨ b = s.heap.objs.size ∨ b = s.heap.objs.size + 1 ∨ b = l1 ∨ b = l2 := by simpa using hb
    rcases hb' with rfl | rfl | rfl | rfl | rfl | rfl | rfl
    · exact .inl (by simp)
    · exact .inr (.inl ⟨oTI, by simp⟩)
    · exact .inl (by simp)
    · exact .inl (by simp)
    · exact .inl (by simp)
    · exact .inr (.inl ⟨lo1, by simp⟩)
    · exact .inr (.inr ⟨lo2, hm2⟩)
  · rintro i h ⟨hz, hTI, ⟨a, b, hTO⟩, ⟨o1, ho1, _⟩, ⟨o2, ho2, _⟩, _⟩ b hb
    have hb' : b = s.heap.objs.size + 4 ∨ b = s.heap.objs.size + 3 ∨ b = s.heap.objs.size ∨ b = s.heap.objs.size + 1 := by simpa using hb
    rcases hb' with rfl | rfl | rfl | rfl
    · exact ⟨_, hz⟩
    · exact ⟨_, hTO⟩
    · exact ⟨_, ho1⟩
    · exact ⟨_, ho2⟩
  · have e : ∀ y : Nat, [y + 4, y + 3, y, y + 1].Nodup := fun y => by simp
    exact e _
  · intro b hb
    have hb' : b = s.heap.objs.size + 4 ∨ b = s.heap.objs.size + 3 ∨ b = s.heap.objs.size ∨ b = s.heap.objs.size + 1 := by simpa using hb
    have e : ∀ x y : Nat, (x = y + 4 ∨ x = y + 3 ∨ x = y ∨ x = y + 1) → y ≤ x := by omega
    exact e _ _ hb'
  · exact ⟨hz, hTI, ⟨_, _, hTO⟩, hi1, hi2, hl1.at fun o e => hk l1 o e, hl2.at fun o e => hk l2 o e⟩
  · intro p hp
    rcases List.mem_cons.mp hp with rfl | hp
    · exact List.mem_cons_self ..
    · rw [List.mem_singleton.mp hp]
      exact List.mem_cons_of_mem _ hm1
  · rintro i v m₁ news₁ own h₁ tk₁ _ ⟨T, vals, rfl, ⟨x, y, hx, hy, rfl⟩, hT⟩ hJ hk Z₁
    exact step _ i T x y m₁ news₁ own h₁ tk₁ (by simpa using hx) (by simpa using hy) hT hJ (hk _ (by simp)) (hk _ (by simp)) Z₁
  · intro h' tk m' news' Z₁ hk hJ
    rw [List.size_toArray, List.size_toArray] at hJ
    exact done _ h' tk m' news' Z₁ (hk _ (by simp)) hJ
end
end Mine

set_option maxHeartbeats 4000000
namespace Mine
section
variable {prog : Program} {w : World} {A : Around} {E : Value → Shared → Prop} {h h₀ : Heap} {L : Addr} {m : Str → Option Value} {news : List (Addr × Obj)} {x : Str} {t : Tok} {value slice : Expr} {Q : Value → Shared → Prop}
theorem sliceZ_sn {i : Int} {ui : Tok} {gn dr tk os} (Z : Lz h₀ L m news h) (H : ∀ h' k t', Lz h₀ L m news h' → Q (.str (Txt.slice x (some i) none) t') ⟨h', gn, dr, k, os⟩)
    (hs : subscripted slice false (.str x t) (.ref h.objs.size) = operate [.ref h.objs.size, .str x t] (getItem (.str x t) (.ref h.objs.size)) := by with_unfolding_all rfl)
    (ht : ∀ r, letTemporaryGo value (.str x t) r = pure () := by intro _; with_unfolding_all rfl) (hsz : x.length ≤ sizeLine := by first | assumption | size_fits) :
    wpAny (model prog w) A (subscriptTail value slice (.str x t) (.ref h.objs.size)) Q E ⟨h.push { cls := .type "slice", data := .fields #[.int i ui, .none, .none] }, gn, dr, tk, os⟩ :=
  slice_strN_sn (s := ⟨h, gn, dr, tk, os⟩) Z.fr Z.nw (fun h' t' k a b => H h' k t' ⟨a, b, Z.nd⟩) hs ht hsz
theorem sliceZ_ns {j : Int} {uj : Tok} {gn dr tk os} (Z : Lz h₀ L m news h) (H : ∀ h' k t', Lz h₀ L m news h' → Q (.str (Txt.slice x none (some j)) t') ⟨h', gn, dr, k, os⟩)
    (hs : subscripted slice false (.str x t) (.ref h.objs.size) = operate [.ref h.objs.size, .str x t] (getItem (.str x t) (.ref h.objs.size)) := by with_unfolding_all rfl)
    (ht : ∀ r, letTemporaryGo value (.str x t) r = pure () := by intro _; with_unfolding_all rfl) (hsz : x.length ≤ sizeLine := by first | assumption | size_fits) :
    wpAny (model prog w) A (subscriptTail value slice (.str x t) (.ref h.objs.size)) Q E ⟨h.push { cls := .type "slice", data := .fields #[.none, .int j uj, .none] }, gn, dr, tk, os⟩ :=
  slice_strN_ns (s := ⟨h, gn, dr, tk, os⟩) Z.fr Z.nw (fun h' t' k a b => H h' k t' ⟨a, b, Z.nd⟩) hs ht hsz
theorem sliceZ_ss {i j : Int} {ui uj : Tok} {gn dr tk os} (Z : Lz h₀ L m news h) (H : ∀ h' k t', Lz h₀ L m news h' → Q (.str (Txt.slice x (some i) (some j)) t') ⟨h', gn, dr, k, os⟩)
    (hs : subscripted slice false (.str x t) (.ref h.objs.size) = operate [.ref h.objs.size, .str x t] (getItem (.str x t) (.ref h.objs.size)) := by with_unfolding_all rfl)
    (ht : ∀ r, letTemporaryGo value (.str x t) r = pure () := by intro _; with_unfolding_all rfl) (hsz : x.length ≤ sizeLine := by first | assumption | size_fits) :
    wpAny (model prog w) A (subscriptTail value slice (.str x t) (.ref h.objs.size)) Q E ⟨h.push { cls := .type "slice", data := .fields #[.int i ui, .int j uj, .none] }, gn, dr, tk, os⟩ :=
  slice_strN_ss (s := ⟨h, gn, dr, tk, os⟩) Z.fr Z.nw (fun h' t' k a b => H h' k t' ⟨a, b, Z.nd⟩) hs ht hsz
theorem sliceZ_nn  {gn dr tk os} (Z : Lz h₀ L m news h) (H : ∀ h' k t', Lz h₀ L m news h' → Q (.str (Txt.slice x none none) t') ⟨h', gn, dr, k, os⟩)
    (hs : subscripted slice false (.str x t) (.ref h.objs.size) = operate [.ref h.objs.size, .str x t] (getItem (.str x t) (.ref h.objs.size)) := by with_unfolding_all rfl)
    (ht : ∀ r, letTemporaryGo value (.str x t) r = pure () := by intro _; with_unfolding_all rfl) (hsz : x.length ≤ sizeLine := by first | assumption | size_fits) :
    wpAny (model prog w) A (subscriptTail value slice (.str x t) (.ref h.objs.size)) Q E ⟨h.push { cls := .type "slice", data := .fields #[.none, .none, .none] }, gn, dr, tk, os⟩ :=
  slice_strN_nn (s := ⟨h, gn, dr, tk, os⟩) Z.fr Z.nw (fun h' t' k a b => H h' k t' ⟨a, b, Z.nd⟩) hs ht hsz
theorem sliceZ_list {l : Addr} {items : Array Value} {vl vu : Value} {lo hi : Option Int} {gn dr tk os} (Z : Lz h₀ L m news h) (hl : h.IsList l items) (pl : IsPart vl lo) (pu : IsPart vu hi)
    (H : ∀ a h', Lz h₀ L m ((a, { cls := .type "list", data := .seq (slicePick items lo hi none) }) :: news) h' → Q (.ref a) ⟨h', gn, dr, tk, os⟩)
    (hs : subscripted slice false (.ref l) (.ref h.objs.size) = operate [.ref h.objs.size, .ref l] (getItem (.ref l) (.ref h.objs.size)) := by with_unfolding_all rfl)
    (ht : ∀ r, letTemporaryGo value (.ref l) r = pure () := by intro _; with_unfolding_all rfl)
    (hsz : items.size ≤ sizeLine := by size_fits) :
    wpAny (model prog w) A (subscriptTail value slice (.ref l) (.ref h.objs.size)) Q E ⟨h.push { cls := .type "slice", data := .fields #[vl, vu, .none] }, gn, dr, tk, os⟩ :=
  slice_list (s := ⟨h, gn, dr, tk, os⟩) Z.fr Z.nw hl pl pu (fun h' F' N' => H _ h' ⟨F', N', by
    rw [List.map_cons, List.nodup_cons]
    refine ⟨fun q => ?_, Z.nd⟩
    obtain ⟨p, hp, e⟩ := List.mem_map.mp q
    have := Z.lt hp
    rw [e] at this
    exact absurd this (Nat.not_lt.mpr (Nat.le_succ _))⟩) hs ht hsz
theorem setListZ {gn dr tk os} {d : Addr} {o : Obj} {pre post : List (Addr × Obj)} {items : Array Value} {n : Nat} {k : Int} {u : Tok} {v : Value} {Q : Unit → Shared → Prop} (Z : Lz h₀ L m (pre ++ (d, o) :: post) h) (hc : o.cls = .type "list") (hd : o.data = .seq items n)
    (h0 : 0 ≤ k) (hfit : k < 2 ^ 63) (hn : k < items.size)
    (H : ∀ h' o' n', Lz h₀ L m (pre ++ (d, o') :: post) h' → o'.cls = .type "list" → o'.data = .seq (items.setIfInBounds k.toNat v) n' → Q () ⟨h', gn, dr, tk, os⟩) : wpAny (model prog w) A (setItem (.ref d) (.int k u) v) Q E ⟨h, gn, dr, tk, os⟩ := by
  refine wpAny_setItem_list (s := ⟨h, gn, dr, tk, os⟩) ⟨o, Z.get (by simp), hc, n, hd⟩ h0 hfit hn fun h' hl' hs => ?_
  obtain ⟨o', ho', hc', n', hd'⟩ := hl'
  exact H h' o' n' (Z.upd hs ho') hc' hd'
end
end Mine

set_option maxHeartbeats 4000000
namespace Mine
theorem enterZE {w : World} {A : Around} {s : Shared} {p : Program} {loose : List Str} {mg mb : Str → Option Value}
    {K : Frag} {R : Result → Shared → Prop} {name qual : Str} {params : Arguments} {body : List Stmt} {scope : Scope} {dV kV doc pm cdv ct oc : Value} {an od : Option Addr} {osl : Array (Option Value)} {f : Addr} {args : Args} {binds : List (Str × Value)}
    (X : K.In s.heap) (T : TopRead p loose mg mb s.heap)
    (ho : K.lookup f = some ⟨oc, od, .func (fnOf name qual params body scope dV kV doc pm an cdv ct), osl⟩) (hcd : codeIn K cdv qual = true) (hroom : A.depth < recursionLimit)
    (hbind : BindsTo s (fnOf name qual params body scope dV kV doc pm an cdv ct) args binds) (hloc : ∀ y ∈ binds, scope.names.lookup y.1 = some .local)
    (h : ∀ L h₁ tk, Lz s.heap L (ov binds.reverse fun _ => none) [] h₁ →
      wpAny (model (PySem.Challenge.rw_xo0016_01).row.prog w) (A.deeper (envOf qual scope L f cdv)) (execs body (envOf qual scope L f cdv))
        (fun fl s' => R (.ok (.ret (match fl with | .ret v => v | _ => .none))) s')
        (fun e s' => wpAny (model (PySem.Challenge.rw_xo0016_01).row.prog w) (A.deeper (envOf qual scope L f cdv)) (leaving (envOf qual scope L f cdv) e) (fun _ s'' => R (.error e) s'') (fun e' s'' => R (.error e') s'') s')
        { s with heap := h₁, toks := tk })
    (hcell : ∀ x ∈ scope.names, x.2 ≠ .cell) (hco : scope.isCoroutine = false) (hgen : scope.isGenerator = false) (hk : scope.kind = .function) :
    codeAny (model (PySem.Challenge.rw_xo0016_01).row.prog w) A (.call (.ref f) args) R s :=
  enter X T ho hcd hroom hbind hloc (fun h₁ F => h _ h₁ _ ⟨F, News.nil, List.nodup_nil⟩) hcell hco hgen hk
theorem enterZ {w : World} {A : Around} {s : Shared} {p : Program} {loose : List Str} {mg mb : Str → Option Value}
    {K : Frag} {R : Result → Shared → Prop} {name qual : Str} {params : Arguments} {body : List Stmt} {scope : Scope} {dV kV doc pm cdv ct oc : Value} {an od : Option Addr} {osl : Array (Option Value)} {f : Addr} {args : Args} {binds : List (Str × Value)}
    (X : K.In s.heap) (T : TopRead p loose mg mb s.heap)
    (ho : K.lookup f = some ⟨oc, od, .func (fnOf name qual params body scope dV kV doc pm an cdv ct), osl⟩) (hcd : codeIn K cdv qual = true) (hroom : A.depth < recursionLimit)
    (hbind : BindsTo s (fnOf name qual params body scope dV kV doc pm an cdv ct) args binds) (hloc : ∀ y ∈ binds, scope.names.lookup y.1 = some .local)
    (h : ∀ L h₁ tk, Lz s.heap L (ov binds.reverse fun _ => none) [] h₁ →
      wpAny (model (PySem.Challenge.rw_xo0016_01).row.prog w) (A.deeper (envOf qual scope L f cdv)) (execs body (envOf qual scope L f cdv))
        (fun fl s' => R (.ok (.ret (match fl with | .ret v => v | _ => .none))) s')
        (fun _ _ => False)
        { s with heap := h₁, toks := tk })
    (hcell : ∀ x ∈ scope.names, x.2 ≠ .cell) (hco : scope.isCoroutine = false) (hgen : scope.isGenerator = false) (hk : scope.kind = .function) :
    codeAny (model (PySem.Challenge.rw_xo0016_01).row.prog w) A (.call (.ref f) args) R s :=
  enterZE X T ho hcd hroom hbind hloc (fun L h₁ tk Z => wpAny_noRaise (h L h₁ tk Z)) hcell hco hgen hk

theorem count_calls_spec : ∀ {w : World} {lo : List Str} {A : Around} {R : Result → Shared → Prop} {s : Shared} {mg mb : Str → Option Value} {d : Addr} {kvs : List (Str × Value)} {ns : List Int},
  (hd.heap_39 w.params).In s.heap → TopRead hd.view_39 lo mg mb s.heap → A.depth < 900 → A.handled = none → (d == sysModules) = false →
    s.heap.DictOf (strKind (PySem.Challenge.rw_xo0016_01).row.prog w) d kvs → IntsAre (kvs.map (·.2)) ns →
    (∀ h' tk t, Ext s.heap h' → R (.ok (.ret (.int ns.sum t))) { s with heap := h', toks := tk }) →
    codeAny (model (PySem.Challenge.rw_xo0016_01).row.prog w) A (.call (.ref 78) ⟨[.ref d], []⟩) R s := by
  k_fill
  intro w lo A R s mg mb d kvs ns X T hdp hh hds hD hI hR
  obtain ⟨od, hod, hdo⟩ := Heap.dictOf_iff.mp hD
  refine' enterZ X T ?k1 ?k2 ?k3 ?k4 ?k5 ?_ ?c1 ?c2 ?c3 ?c4
  case k1 => k_is
  case k2 => k_is
  case k3 => show A.depth < 1000; omega
  case k4 => exact BindsTo.of_eq (binds := [("callers", .ref d)]) rfl
  case k5 => exact locs rfl
  case c1 => decide
  case c2 => rfl
  case c3 => rfl
  case c4 => rfl
  intro L h₁ tk Z
  refine wpAny_execs_cons (wpAny_Assign_Name (wpAny_Constant_int (stZ Z fun h₂ t₂ Z₂ => ?_)))
  dsimp only
  refine wpAny_execs_cons (ForZ (h₀ := s.heap) ?_)
  have hD2 : h₂.DictOf (strKind (PySem.Challenge.rw_xo0016_01).row.prog w) d kvs := Heap.dictOf_iff.mpr ⟨od, Z₂.keep _ _ hod, hdo⟩
  refine wpAny_Call_method (T := "dict") (id := "dict.values") rfl rfl rfl F.plainAttrs_dict F.slot_dict_values F.type_dict_values ?_
  refine ldZ Z₂ rfl ?_
  refine ⟨hD2.typeIs, hD2.mapOf.noDict, ?_⟩
  refine method_meetsIn F.slot_dict_values F.entry_dict_values rfl (PyProof.Rows.evalArgs_none ⟨rfl, hD2.typeIs, F.args_dict_values_1 _, _, meets_dict_values _ d hds, ⟨kvs, hD2⟩, ?_⟩)
  have Z₃ := Z₂.push { cls := .type "dict_values", data := .fields #[.ref d] } rfl
  refine srcValues (knd := strKind (PySem.Challenge.rw_xo0016_01).row.prog w) hh Z₃ ⟨_, Heap.get?_push_size _ rfl, rfl, rfl⟩ hod hdo
    (fun i m _ => ∃ t m₀, m = ov [("nc", .int (ns.take i).sum t)] m₀) ⟨_, _, rfl⟩ ?_ ?_
  · rintro i k v m₁ news₁ own h₃ tk₃ hkv ⟨t, m₀, rfl⟩ Z₄
    have hv : (kvs.map (·.2))[i]? = some v := by simp [hkv]
    have hlt : i < ns.length := by
      have := (List.getElem?_eq_some_iff.mp hv).1
      rw [hI.length] at this
      exact this
    obtain ⟨u, hu⟩ := hI.get i ns[i] (by simp [hlt])
    rw [hv] at hu
    cases hu
    refine wpAny_assign_Name (stZ Z₄ fun h₅ t₅ Z₅ => ?_)
    refine wpAny_execs_cons (wpAny_AugAssign_Name (ldnZ Z₅ rfl (ldZ Z₅ rfl (iadd_int (stZ Z₅ fun h₆ t₆ Z₆ => wpAny_execs_nil ?_)))))
    refine ⟨h₆, t₆, _, news₁, rfl, Z₆, fun p hp => (nomatch hp), ?_⟩
    rw [show (ns.take (i + 1)).sum = (ns.take i).sum + ns[i] from by rw [List.take_add_one, List.sum_append]; simp [hlt]]
    exact ⟨_, _, rfl⟩
  · rintro h₃ tk₃ m' news' Z₄ ⟨t, m₀, rfl⟩
    refine wpAny_execs_cons (wpAny_Return_some (ldZ Z₄ rfl ?_))
    rw [show ns.take kvs.length = ns from by
      have := hI.length
      rw [List.length_map] at this
      rw [this, List.take_length]]
    exact hR _ _ _ Z₄.keep
end Mine

set_option maxHeartbeats 4000000
namespace Mine
section
variable {prog : Program} {w : World} {A : Around} {E : Value → Shared → Prop} {s : Shared} {h₀ : Heap} {L d : Addr} {m : Str → Option Value} {news pre post : List (Addr × Obj)} {o : Obj} {env : Env}
  {K : Type} [DecidableEq K] {knd : KeyKind prog w K} {kvs : List (K × Value)} {k : K} {key v : Value}
theorem setDictZ {Q : Unit → Shared → Prop} (Z : Lz h₀ L m (pre ++ (d, o) :: post) s.heap) (hd : o.IsDictOf knd kvs) (hkey : knd.is k key = true)
    (h : ∀ h' o' t, Lz h₀ L m (pre ++ (d, o') :: post) h' → o'.IsDictOf knd (stored kvs k v) → Q () { s with heap := h', toks := t }) (hsz : kvs.length ≤ sizeLine) :
    wpAny (model prog w) A (setItem (.ref d) key v) Q E s := by
  refine wpAny_setItem_pairs (hsz := hsz) hkey (Heap.dictOf_iff.mpr ⟨o, Z.get (by simp), hd⟩) fun h' hm hs => ?_
  obtain ⟨o', ho', hd'⟩ := Heap.dictOf_iff.mp hm
  exact h h' o' _ (Z.upd hs ho') hd'
theorem dictZ (Z : Lz h₀ L m news s.heap) (hm : (d, o) ∈ news) (hd : o.IsDictOf knd kvs) : s.heap.DictOf knd d kvs := Heap.dictOf_iff.mpr ⟨o, Z.get hm, hd⟩
theorem emptyDictZ {pos : Pos} {Q : Value → Shared → Prop} (Z : Lz h₀ L m news s.heap) (hbig : sysModules < h₀.objs.size)
    (h : ∀ a h' o, Lz h₀ L m ((a, o) :: news) h' → (a == sysModules) = false → o.IsDictOf knd [] → Q (.ref a) { s with heap := h' }) : wpAny (model prog w) A (eval (.Dict [] [] pos) env) Q E s := by
  refine wpAny_Dict_empty (h _ _ _ (Z.push _ rfl) (Z.fr.notModules hbig) ?_)
  obtain ⟨o, ho, hd⟩ := Heap.dictOf_iff.mp (Heap.DictOf.new (knd := knd) s.heap)
  rw [Heap.get?_push_size _ rfl] at ho
  exact (Option.some.inj ho) ▸ hd
theorem callItemsZ {oe : Expr} {apos pos : Pos} {Q : Value → Shared → Prop} (Z : Lz h₀ L m news s.heap) (hdS : (d == sysModules) = false) (h0 : h₀.get? d = some o) (hd : o.IsDictOf knd kvs)
    (hbase : attributeBase oe "items" env (eval oe env) = eval oe env) (hline : (apos.endLine == pos.line) = true)
    (ho : ∀ Q', Q' (.ref d) s → wpAny (model prog w) A (eval oe env) Q' E s)
    (h : ∀ a h', Lz h₀ L m news h' → h'.IsItemsView a d → Q (.ref a) { s with heap := h' }) : wpAny (model prog w) A (eval (.Call (.Attribute oe "items" apos) [] [] pos) env) Q E s :=
  wpAny_Call_items (knd := knd) (kvs := kvs) hdS (Heap.dictOf_iff.mpr ⟨o, Z.keep _ _ h0, hd⟩) hbase hline ho (h _ _ ((Z.push _ rfl).sub (List.sublist_cons_self ..)) ⟨_, Heap.get?_push_size _ rfl, rfl, rfl⟩)

theorem asgCons {name : Str} {scope : Scope} {a' : Addr} {cd : Value} {x : Str} {p : Pos} {r : List Expr} {v : Value} {vs : List Value} {Q : Unit → Shared → Prop} (Z : Lz h₀ L m news s.heap)
    (h : ∀ h' t, Lz h₀ L (ov [(x, v)] m) news h' → wpAny (model prog w) A (assignInOrder ((assignEach r (envOf name scope L a' cd)).map (·.2)) vs) Q E { s with heap := h', toks := t })
    (hk : scope.kind = .function := by rfl) (hl : (envOf name scope L a' cd).kindOf x = some .local := by rfl) :
    wpAny (model prog w) A (assignInOrder ((assignEach (.Name x p :: r) (envOf name scope L a' cd)).map (·.2)) (v :: vs)) Q E s := by
  show wpAny _ _ (do holding vs (assign (.Name x p) (envOf name scope L a' cd) v); assignInOrder ((assignEach r (envOf name scope L a' cd)).map (·.2)) vs) Q E s
  exact wpAny_bind (wpAny_holding (wpAny_assign_Name (stZ Z h hk hl)))
theorem asgNil {env : Env} {Q : Unit → Shared → Prop} (h : Q () s) : wpAny (model prog w) A (assignInOrder ((assignEach [] env).map (·.2)) []) Q E s := wpAny_pure h
theorem asgTup {elts : List Expr} {x1} {pos : Pos} {t : Addr} {items : Array Value} {Q : Unit → Shared → Prop} (hh : A.handled = none) (Z : Lz h₀ L m news s.heap) (ht : s.heap.IsTuple t items)
    (h : ∀ h', Lz h₀ L m news h' → wpAny (model prog w) A (assignInOrder ((assignEach elts env).map (·.2)) items.toList) Q E { s with heap := h' })
    (hn : (assignEach elts env).length = items.size := by rfl) (hstar : (assignEach elts env).findIdx? (·.1) = none := by rfl) :
    wpAny (model prog w) A (assign (.Tuple elts x1 pos) env (.ref t)) Q E s :=
  wpAny_assign_Tuple hh ht hn hstar fun h' hx => h h' (Z.ext fun b o e => hx b o (Nat.ne_of_lt (Heap.lt_size e)) e)
end

def At (m : Str → Option Value) : List (Str × Value) → Prop
  | [] => True
  | p :: r => m p.1 = some p.2 ∧ At m r
theorem ov_at {m : Str → Option Value} : ∀ {l : List (Str × Value)}, At m l → m = ov l m := fun {l} h => ov_focus l m (by
  intro p hp
  induction l with
  | nil => cases hp
  | cons q r ih =>
    rcases List.mem_cons.mp hp with rfl | hp
    · exact h.1
    · exact ih h.2 hp)

/-- whole: what add_callers makes of two tables -/
def addOne (T : List (Str × Int)) (p : Str × Int) : List (Str × Int) := if T.any (fun q => q.1 = p.1) then T.map (fun q => if q.1 = p.1 then (q.1, q.2 + p.2) else q) else T ++ [p]
def addTab (T S : List (Str × Int)) : List (Str × Int) := S.foldl addOne T
/-- a dict's pairs bear these ints -/
def Bears : List (Str × Value) → List (Str × Int) → Prop
  | [], [] => True
  | p :: r, q :: u => p.1 = q.1 ∧ (∃ t, p.2 = Value.int q.2 t) ∧ Bears r u
  | _, _ => False
theorem Bears.length : ∀ {kvs : List (Str × Value)} {T : List (Str × Int)}, Bears kvs T → kvs.length = T.length
  | [], [], _ => rfl
  | _ :: _, _ :: _, h => congrArg (· + 1) (Bears.length h.2.2)
  | [], _ :: _, h => h.elim
  | _ :: _, [], h => h.elim
theorem Bears.keys : ∀ {kvs : List (Str × Value)} {T : List (Str × Int)}, Bears kvs T → kvs.map (·.1) = T.map (·.1)
  | [], [], _ => rfl
  | p :: r, q :: u, h => by rw [List.map_cons, List.map_cons, h.1, Bears.keys h.2.2]
  | [], _ :: _, h => h.elim
  | _ :: _, [], h => h.elim
theorem Bears.at : ∀ {kvs : List (Str × Value)} {T : List (Str × Int)}, Bears kvs T → ∀ {i : Nat} {k : Str} {v : Value}, kvs[i]? = some (k, v) → ∃ n t, T[i]? = some (k, n) ∧ v = .int n t
  | [], [], _, _, _, _, e => by simp at e
  | p :: r, q :: u, h, 0, k, v, e => by
    have e' : p = (k, v) := by simpa using e
    obtain ⟨t, ht⟩ := h.2.1
    refine ⟨q.2, t, ?_, by rw [← ht, e']⟩
    have : q.1 = k := by rw [← h.1, e']
    simp [← this]
  | p :: r, q :: u, h, i + 1, k, v, e => by
    obtain ⟨n, t, a, b⟩ := Bears.at h.2.2 (i := i) (by simpa using e)
    exact ⟨n, t, by simpa using a, b⟩
  | [], _ :: _, h, _, _, _, _ => h.elim
  | _ :: _, [], h, _, _, _, _ => h.elim
theorem Bears.app : ∀ {kvs : List (Str × Value)} {T : List (Str × Int)}, Bears kvs T → ∀ (k : Str) (n : Int) (t : Tok), Bears (kvs ++ [(k, .int n t)]) (T ++ [(k, n)])
  | [], [], _, _, _, t => ⟨rfl, ⟨t, rfl⟩, trivial⟩
  | _ :: _, _ :: _, h, k, n, t => ⟨h.1, h.2.1, Bears.app h.2.2 k n t⟩
  | [], _ :: _, h, _, _, _ => h.elim
  | _ :: _, [], h, _, _, _ => h.elim
theorem any_key {α : Type} (l : List (Str × α)) (k : Str) : l.any (fun q => decide (q.1 = k)) = (l.map (·.1)).any (fun x => decide (x = k)) := by
  rw [List.any_map]; rfl
theorem Bears.addNone {kvs : List (Str × Value)} {T : List (Str × Int)} (h : Bears kvs T) {k : Str} {n : Int} {t : Tok} (e : valueAt kvs k = none) : Bears (stored kvs k (.int n t)) (addOne T (k, n)) := by
  have e1 : kvs.any (fun kv => decide (kv.1 = k)) = false := by
    unfold valueAt at e
    rw [Option.map_eq_none_iff, List.find?_eq_none] at e
    rw [List.any_eq_false]
    exact e
  have e2 : T.any (fun kv => decide (kv.1 = k)) = false := by rw [any_key, ← h.keys, ← any_key]; exact e1
  unfold stored addOne
  rw [e1, e2]
  simpa using h.app k n t
theorem Bears.map_ne : ∀ {kvs : List (Str × Value)} {T : List (Str × Int)}, Bears kvs T → ∀ {k : Str} (v : Value) (n : Int), k ∉ kvs.map (·.1) →
    Bears (kvs.map fun kv => if kv.1 = k then (kv.1, v) else kv) (T.map fun q => if q.1 = k then (q.1, q.2 + n) else q)
  | [], [], _, _, _, _, _ => trivial
  | p :: r, q :: u, h, k, v, n, hn => by
    have h1 : p.1 ≠ k := fun e => hn (by simp [e])
    have h2 : q.1 ≠ k := h.1 ▸ h1
    rw [List.map_cons, List.map_cons, if_neg h1, if_neg h2]
    exact ⟨h.1, h.2.1, Bears.map_ne h.2.2 v n fun hm => hn (List.mem_cons_of_mem _ hm)⟩
  | [], _ :: _, h, _, _, _, _ => h.elim
  | _ :: _, [], h, _, _, _, _ => h.elim
theorem Bears.addSome' : ∀ {kvs : List (Str × Value)} {T : List (Str × Int)}, Bears kvs T → (kvs.map (·.1)).Nodup → ∀ {k : Str} {v : Value} (n : Int), (kvs.find? fun kv => decide (kv.1 = k)) = some (k, v) →
    ∃ o t, v = .int o t ∧ ∀ t', Bears (kvs.map fun kv => if kv.1 = k then (kv.1, .int (o + n) t') else kv) (T.map fun q => if q.1 = k then (q.1, q.2 + n) else q)
  | [], [], _, _, _, _, _, e => by simp at e
  | p :: r, q :: u, h, hn, k, v, n, e => by
    rw [List.map_cons, List.nodup_cons] at hn
    by_cases h1 : p.1 = k
    · rw [List.find?_cons_of_pos (by simpa using h1)] at e
      have e' : p = (k, v) := Option.some.inj e
      obtain ⟨t, ht⟩ := h.2.1
      refine ⟨q.2, t, by rw [← ht, e'], fun t' => ?_⟩
      rw [List.map_cons, List.map_cons, if_pos h1, if_pos (h.1 ▸ h1)]
      exact ⟨h.1, ⟨t', rfl⟩, Bears.map_ne h.2.2 _ n (h1 ▸ hn.1)⟩
    · rw [List.find?_cons_of_neg (by simpa using h1)] at e
      obtain ⟨o, t, a, b⟩ := Bears.addSome' h.2.2 hn.2 n e
      refine ⟨o, t, a, fun t' => ?_⟩
      rw [List.map_cons, List.map_cons, if_neg h1, if_neg (h.1 ▸ h1)]
      exact ⟨h.1, h.2.1, b t'⟩
  | [], _ :: _, h, _, _, _, _, _ => h.elim
  | _ :: _, [], h, _, _, _, _, _ => h.elim
theorem Bears.addSome {kvs : List (Str × Value)} {T : List (Str × Int)} (h : Bears kvs T) (hn : (kvs.map (·.1)).Nodup) {k : Str} {v : Value} (n : Int) (e : valueAt kvs k = some v) :
    ∃ o t, v = .int o t ∧ ∀ t', Bears (stored kvs k (.int (o + n) t')) (addOne T (k, n)) := by
  unfold valueAt at e
  rw [Option.map_eq_some_iff] at e
  obtain ⟨p, hp, rfl⟩ := e
  have hk : p.1 = k := by have := List.find?_some hp; simpa using this
  have hp' : (kvs.find? fun kv => decide (kv.1 = k)) = some (k, p.2) := by rw [hp, ← hk]
  obtain ⟨o, t, a, b⟩ := h.addSome' hn n hp'
  refine ⟨o, t, a, fun t' => ?_⟩
  have e1 : kvs.any (fun kv => decide (kv.1 = k)) = true := List.any_eq_true.mpr ⟨p, List.mem_of_find?_eq_some hp, by simpa using hk⟩
  have e2 : T.any (fun kv => decide (kv.1 = k)) = true := by rw [any_key, ← h.keys, ← any_key]; exact e1
  unfold stored addOne
  rw [e1, e2, if_pos rfl, if_pos rfl]
  exact b t'
theorem addTab_len : ∀ (S T : List (Str × Int)), (addTab T S).length ≤ T.length + S.length
  | [], T => Nat.le_refl _
  | p :: r, T => by
    have h1 : (addOne T p).length ≤ T.length + 1 := by
      unfold addOne
      split
      · rw [List.length_map]; exact Nat.le_succ _
      · rw [List.length_append]; exact Nat.le_refl _
    have h2 := addTab_len r (addOne T p)
    show (addTab (addOne T p) r).length ≤ _
    rw [List.length_cons]
    omega
theorem addTab_take {S T : List (Str × Int)} {i : Nat} {p : Str × Int} (h : S[i]? = some p) : addTab T (S.take (i + 1)) = addOne (addTab T (S.take i)) p := by
  unfold addTab
  rw [List.take_add_one, h, List.foldl_append]
  rfl
theorem take_stored {kvs : List (Str × Value)} {i : Nat} {k : Str} {x : Value} (hn : (kvs.map (·.1)).Nodup) (h : kvs[i]? = some (k, x)) : stored (kvs.take i) k x = kvs.take (i + 1) := by
  obtain ⟨hi, e⟩ := List.getElem?_eq_some_iff.mp h
  have : (kvs.take i).any (fun kv => decide (kv.1 = k)) = false := by
    rw [List.any_eq_false]
    intro p hp q
    have q' : p.1 = k := by simpa using q
    obtain ⟨j, hj, rfl⟩ := List.mem_iff_getElem.mp hp
    rw [List.length_take] at hj
    rw [List.getElem_take] at q'
    have hne := List.pairwise_iff_getElem.mp hn j i (by rw [List.length_map]; omega) (by rw [List.length_map]; exact hi) (by omega)
    rw [List.getElem_map, List.getElem_map, q', e] at hne
    exact hne rfl
  unfold stored
  rw [this]
  simp only [Bool.false_eq_true, if_false]
  rw [List.take_add_one, h]
  rfl
theorem add_callers_spec : ∀ {w : World} {lo : List Str} {A : Around} {R : Result → Shared → Prop} {s : Shared} {mg mb : Str → Option Value} {d e : Addr} {kvs lvs : List (Str × Value)} {T S : List (Str × Int)},
  (hd.heap_39 w.params).In s.heap → TopRead hd.view_39 lo mg mb s.heap → A.depth < 900 → A.handled = none → (d == sysModules) = false → (e == sysModules) = false →
    s.heap.DictOf (strKind (PySem.Challenge.rw_xo0016_01).row.prog w) d kvs → Bears kvs T → s.heap.DictOf (strKind (PySem.Challenge.rw_xo0016_01).row.prog w) e lvs → Bears lvs S → T.length ≤ 1000 → S.length ≤ 1000 →
    (∀ h' tk a kvs', Ext s.heap h' → s.heap.get? a = none → h'.DictOf (strKind (PySem.Challenge.rw_xo0016_01).row.prog w) a kvs' → Bears kvs' (addTab T S) → (a == sysModules) = false → R (.ok (.ret (.ref a))) { s with heap := h', toks := tk }) →
    codeAny (model (PySem.Challenge.rw_xo0016_01).row.prog w) A (.call (.ref 71) ⟨[.ref d, .ref e], []⟩) R s := by
  k_fill
  intro w lo A R s mg mb d e kvs lvs TT SS X T hdp hh hds hes hD hBD hE hBE hlT hlS hR
  obtain ⟨od, hod, hdo⟩ := Heap.dictOf_iff.mp hD
  obtain ⟨oe, hoe, hdoe⟩ := Heap.dictOf_iff.mp hE
  refine' enterZ X T ?k1 ?k2 ?k3 ?k4 ?k5 ?_ ?c1 ?c2 ?c3 ?c4
  case k1 => k_is
  case k2 => k_is
  case k3 => show A.depth < 1000; omega
  case k4 => exact BindsTo.of_eq (binds := [("target", .ref d), ("source", .ref e)]) rfl
  case k5 => exact locs rfl
  case c1 => decide
  case c2 => rfl
  case c3 => rfl
  case c4 => rfl
  intro L h₁ tk Z
  have hbig : sysModules < s.heap.objs.size := modules_low T.nolimit
  refine wpAny_execs_cons (wpAny_Assign_Name (emptyDictZ (knd := strKind (PySem.Challenge.rw_xo0016_01).row.prog w) Z hbig fun a h₂ o Z₂ has ho => stZ Z₂ fun h₃ t₃ Z₃ => ?_))
  dsimp only
  refine wpAny_execs_cons (ForZ (h₀ := s.heap) ?_)
  refine callItemsZ (knd := strKind (PySem.Challenge.rw_xo0016_01).row.prog w) Z₃ hds hod hdo rfl rfl (fun Q' hq => ldZ Z₃ rfl hq) fun v₄ h₄ Z₄ hv₄ => ?_
  dsimp only
  refine srcItems hh Z₄ hv₄ hod hdo
    (fun i m news => ∃ m₀ o, m = ov [("new_callers", .ref a), ("source", .ref e)] m₀ ∧ news = [(a, o)] ∧ o.IsDictOf (strKind (PySem.Challenge.rw_xo0016_01).row.prog w) (kvs.take i)) ⟨_, o, ov_at ⟨rfl, rfl, trivial⟩, rfl, ho⟩ ?_ ?_
  · rintro i T' key k x m₁ news₁ own h₅ tk₅ hkv hkey hT ⟨m₀, o₅, rfl, rfl, ho₅⟩ Z₅
    show wpAny _ _ _ _ _ _
    refine asgTup hh Z₅ hT (fun h₆ Z₆ => asgCons Z₆ fun h₇ t₇ Z₇ => asgCons Z₇ fun h₈ t₈ Z₈ => asgNil ?_)
    dsimp only
    refine wpAny_execs_cons (wpAny_Assign_Subscript (ldZ Z₈ rfl (ldZ Z₈ rfl (ldZ Z₈ rfl ?_))))
    have hi : i < kvs.length := (List.getElem?_eq_some_iff.mp hkv).1
    have hnk : (kvs.map (·.1)).Nodup := by
      obtain ⟨_, _, _, _, _, _, hn⟩ := hdo
      exact hn
    refine setDictZ (pre := own) (post := []) Z₈ ho₅ hkey (fun h₉ o₉ t₉ Z₉ ho₉ => wpAny_execs_nil ?_) (by rw [sizeLine_eq, List.length_take]; have := hBD.length; omega)
    refine ⟨h₉, t₉, _, [(a, o₉)], rfl, Z₉, fun p hp => (nomatch hp), _, o₉, ov_at ⟨rfl, rfl, trivial⟩, rfl, ?_⟩
    rw [take_stored hnk hkv] at ho₉
    exact ho₉
  · rintro h₅ tk₅ m' news' Z₅ ⟨m₀, o₅, rfl, rfl, ho₅⟩
    rw [List.take_length] at ho₅
    refine wpAny_execs_cons (ForZ (h₀ := s.heap) ?_)
    refine callItemsZ (knd := strKind (PySem.Challenge.rw_xo0016_01).row.prog w) Z₅ hes hoe hdoe rfl rfl (fun Q' hq => ldZ Z₅ rfl hq) fun v₆ h₆ Z₆ hv₆ => ?_
    dsimp only
    refine srcItems hh Z₆ hv₆ hoe hdoe
      (fun i m news => ∃ m₀ o kvs', m = ov [("new_callers", .ref a)] m₀ ∧ news = [(a, o)] ∧ o.IsDictOf (strKind (PySem.Challenge.rw_xo0016_01).row.prog w) kvs' ∧ Bears kvs' (addTab TT (SS.take i))) ⟨_, o₅, kvs, ov_at ⟨rfl, trivial⟩, rfl, ho₅, hBD⟩ ?_ ?_
    · have hlen : ∀ (kvs' : List (Str × Value)) (i : Nat), Bears kvs' (addTab TT (SS.take i)) → kvs'.length ≤ sizeLine := by
        intro kvs' i hB
        rw [sizeLine_eq, hB.length]
        have h1 := addTab_len (SS.take i) TT
        rw [List.length_take] at h1
        omega
      rintro i T' key k x m₁ news₁ own h₇ tk₇ hkv hkey hT ⟨m₁, o₇, kvs', rfl, rfl, ho₇, hB⟩ Z₇
      show wpAny _ _ _ _ _ _
      obtain ⟨n, tn, hSn, rfl⟩ := hBE.at hkv
      refine asgTup hh Z₇ hT (fun h₈ Z₈ => asgCons Z₈ fun h₉ t₉ Z₉ => asgCons Z₉ fun h₁₀ t₁₀ Z₁₀ => asgNil ?_)
      dsimp only
      have hda := dictZ (s := ⟨h₁₀, s.gens, s.drawn, t₁₀, s.os⟩) Z₁₀ (List.mem_append_right _ (List.mem_singleton_self _)) ho₇
      refine wpAny_execs_cons (wpAny_If (wpAny_isTrue_Compare1 (ldZ Z₁₀ rfl (ldZ Z₁₀ rfl (wpAny_in_of hkey has hda.mapOf (wpAny_truthy_bool ?_))))))
      cases hva : valueAt kvs' k with
      | none =>
        simp only [Option.isSome_none, Bool.false_eq_true, if_false]
        refine wpAny_execs_cons (wpAny_Assign_Subscript (ldZ Z₁₀ rfl (ldZ Z₁₀ rfl (ldZ Z₁₀ rfl ?_))))
        refine setDictZ (pre := own) (post := []) Z₁₀ ho₇ hkey (fun h₁₁ o₁₁ t₁₁ Z₁₁ ho₁₁ => wpAny_execs_nil (wpAny_execs_nil ?_)) (hlen kvs' i hB)
        refine ⟨h₁₁, t₁₁, _, [(a, o₁₁)], rfl, Z₁₁, fun p hp => (nomatch hp), _, o₁₁, _, ov_at ⟨rfl, trivial⟩, rfl, ho₁₁, ?_⟩
        rw [addTab_take hSn]
        exact hB.addNone hva
      | some old =>
        simp only [Option.isSome_some, if_true]
        obtain ⟨n₀, t₀, rfl, hB'⟩ := hB.addSome (by obtain ⟨_, _, _, _, _, _, hn⟩ := ho₇; exact hn) n hva
        have F := Z₁₀.fr
        have N := Z₁₀.nw
        refine wpAny_execs_cons (wpAny_If ?_)
        iterate 11 walk1
        simp only [Bool.false_eq_true, if_false]
        refine wpAny_execs_cons (wpAny_AugAssign_Subscript_any (ldZ Z₁₀ rfl (ldZ Z₁₀ rfl (wpAny_getItem_of hkey hda.mapOf hva (ldZ Z₁₀ rfl (iadd_int ?_))))))
        refine setDictZ (pre := own) (post := []) Z₁₀ ho₇ hkey (fun h₁₁ o₁₁ t₁₁ Z₁₁ ho₁₁ => wpAny_execs_nil (wpAny_execs_nil (wpAny_execs_nil ?_))) (hlen kvs' i hB)
        refine ⟨h₁₁, t₁₁, _, [(a, o₁₁)], rfl, Z₁₁, fun p hp => (nomatch hp), _, o₁₁, _, ov_at ⟨rfl, trivial⟩, rfl, ho₁₁, ?_⟩
        rw [addTab_take hSn]
        exact hB' _
    · rintro h₇ tk₇ m' news' Z₇ ⟨m₀, o₇, kvs', rfl, rfl, ho₇, hB⟩
      refine wpAny_execs_cons (wpAny_Return_some (ldZ Z₇ rfl ?_))
      rw [hBE.length, List.take_length] at hB
      refine hR h₇ _ a kvs' Z₇.keep ?_ (Heap.dictOf_iff.mpr ⟨o₇, Z₇.get (List.mem_singleton_self _), ho₇⟩) hB has
      exact (Z₇.nw (a, o₇) (List.mem_singleton_self _)).2.2
end Mine

set_option maxHeartbeats 4000000
namespace Mine
theorem plainAttrs_pat : PlainAttrs "re.Pattern" :=
  ⟨⟨"object.__getattribute__", by rw [typeLookup_type, builtinLookup_eq_fast]; kernel_rfl, by decide +kernel⟩, by rw [typeLookup_type, builtinLookup_eq_fast]; kernel_rfl⟩
theorem slot_pat_search : Slot "re.Pattern" "search" "re.Pattern.search" :=
  .of (owner := "re.Pattern") (n := "search") (by rw [typeLookup_type, builtinLookup_eq_fast]; kernel_rfl) (by decide +kernel) (by decide +kernel) (by decide +kernel)
    (by first | exact .inl (by decide +kernel) | exact .inr (by decide +kernel)) (by rw [isSubtype_type]; kernel_rfl)
theorem type_pat_search : typeOf (.builtin "re.Pattern.search") = pure (.type "method_descriptor") := by show builtinType _ = _; rw [builtinType_eq_fast]; kernel_rfl
theorem entry_pat_search : entryFor table "re.Pattern.search" = some Builtin.«re.Pattern.search» := entryFor_of_tree (by kernel_rfl)
theorem args_pat_search_2 (a b : Value) : argsOk "re.Pattern.search" ⟨[a, b], []⟩ := by
  unfold argsOk; kernel_rfl

open PySem.Builtin.Re
def drv : Nat → Sre.M → Sre.M
  | 0, m => m.runFor 4
  | k + 1, m => if (m.runFor 4).outcome.isSome then m.runFor 4 else drv k (m.runFor 4)
section
variable {M : Model} {A : Around} {E : Value → Shared → Prop} {s : Shared}
theorem wpAny_reDrive {Q : Sre.M → Shared → Prop} : ∀ (k : Nat) (m : Sre.M) (r : Nat), (drv k m).outcome.isSome = true → Q (drv k m) s → wpAny M A (reDrive (k + r + 1) m) Q E s
  | 0, m, r, h, hq => by
    show wpAny M A (if (m.runFor 4).outcome.isSome = true then pure (m.runFor 4) else do rule "sre.turn"; reDrive (0 + r) (m.runFor 4)) Q E s
    rw [show drv 0 m = m.runFor 4 from rfl] at h hq
    rw [if_pos h]
    exact wpAny_pure hq
  | k + 1, m, r, h, hq => by
    show wpAny M A (if (m.runFor 4).outcome.isSome = true then pure (m.runFor 4) else do rule "sre.turn"; reDrive (k + 1 + r) (m.runFor 4)) Q E s
    rw [show drv (k + 1) m = if (m.runFor 4).outcome.isSome then m.runFor 4 else drv k (m.runFor 4) from rfl] at h hq
    by_cases e : (m.runFor 4).outcome.isSome = true
    · rw [if_pos e] at h hq ⊢
      exact wpAny_pure hq
    · rw [if_neg e] at h hq ⊢
      refine wpAny_bind (wpAny_rule ?_)
      have := wpAny_reDrive (Q := Q) k (m.runFor 4) r h hq
      rwa [show k + 1 + r = k + r + 1 from by omega]
theorem wpAny_reSeen {m : Sre.M} {Q : PUnit → Shared → Prop} : ∀ (l : List Nat), Q ⟨⟩ s → wpAny M A (forIn l PUnit.unit fun i _ => do
      if m.seen.has i then do rule (Sre.names.getD i ""); pure (ForInStep.yield PUnit.unit) else pure (ForInStep.yield PUnit.unit)) Q E s
  | [], h => wpAny_pure h
  | i :: l, h => by
    rw [List.forIn_cons]
    refine wpAny_bind ?_
    split
    · exact wpAny_bind (wpAny_rule (wpAny_pure (wpAny_reSeen l h)))
    · exact wpAny_pure (wpAny_reSeen l h)
theorem wpAny_reRun {k : Nat} (hk : k < 1000) {m m' : Sre.M} {Q : Option Sre.M → Shared → Prop} (e : drv k m = m') (ho : m'.outcome = some .matched ∨ m'.outcome = some .failed) (hq : Q (if m'.outcome matches some .matched then some m' else none) s) : wpAny M A (reRunToEnd m) Q E s := by
  subst e
  unfold reRunToEnd
  have : (2 ^ 64 : Nat) = k + (2 ^ 64 - k - 1) + 1 := by omega
  rw [this]
  refine wpAny_bind (wpAny_reDrive k m _ (by rcases ho with h | h <;> rw [h] <;> rfl) ?_)
  refine wpAny_bind (wpAny_mono (wpAny_reSeen (Q := fun _ s' => s' = s) (m := drv k m) _ rfl) (fun _ s' h => ?_) fun _ _ h => h)
  subst h
  rcases ho with h | h
  · rw [h] at hq ⊢; exact wpAny_pure hq
  · rw [h] at hq ⊢; exact wpAny_pure hq
theorem wpAny_reRawItems {c : Addr} {oc : Obj} {items : Array Value} {n : Nat} {Q : Array Int → Shared → Prop} (hc : s.heap.get? c = some oc) (hcd : oc.data = .seq items n) (hq : Q (items.map reRawOf) s) : wpAny M A (reRawItems (.ref c)) Q E s := by
  unfold reRawItems seqItems?
  refine wpAny_bind (wpAny_bind (wpAny_load hc ?_))
  rw [hcd]
  exact wpAny_pure (wpAny_pure hq)
theorem wpAny_reTarget {f id : String} {p c : Addr} {o oc : Obj} {fs items : Array Value} {n : Nat} {x : Str} {t : Tok} {Q : ReTarget → Shared → Prop} (hp : s.heap.get? p = some o) (hd : o.data = .fields fs) (h6 : reRawNat (fs.getD 6 .none) = 0) (h5 : fs.getD 5 .none = .ref c)
    (hc : s.heap.get? c = some oc) (hcd : oc.data = .seq items n)
    (hq : Q { pattern := .ref p, string := .str x t, code := (items.map reRawOf).map (·.toNat), text := x.cps, kind := 0, groups := reRawNat (fs.getD 2 .none), pos := min 0 x.cps.size, lim := min ((2 : Int) ^ 63 - 1).toNat x.cps.size } s) :
    wpAny M A (reTarget id f ⟨[.ref p, .str x t], []⟩) Q E s := by
  unfold reTarget
  have e : reNamed id f ["string", "pos", "endpos"] 1 [.str x t] [] = pure [some (.str x t), none, none] := by rfl
  dsimp only
  rw [e]
  refine wpAny_bind (wpAny_pure ?_)
  dsimp only
  refine wpAny_bind (wpAny_pure (wpAny_bind (wpAny_pure (wpAny_bind (wpAny_fieldsOf hp hd (wpAny_bind (wpAny_pure ?_)))))))
  dsimp only
  rw [h6, h5]
  refine wpAny_bind (wpAny_pure ?_)
  exact wpAny_bind (wpAny_reRawItems hc hcd (wpAny_pure hq))
/-- what a search in a whole text finds nothing -/
theorem meets_search_none {prog : Program} {w : World} {p c : Addr} {fs items : Array Value} {n : Nat} {x : Str} {t : Tok} {k : Nat} {codes : Array Nat} {groups : Nat} (hk : k < 1000) (hcodes : (items.map reRawOf).map (·.toNat) = codes) (hgroups : reRawNat (fs.getD 2 .none) = groups) (h6 : reRawNat (fs.getD 6 .none) = 0) (h5 : fs.getD 5 .none = .ref c)
    (e : (drv k (Sre.forSearch codes x.cps groups (min 0 x.cps.size) (min ((2 : Int) ^ 63 - 1).toNat x.cps.size) false)).outcome = some .failed) :
    MeetsIn prog w (Builtin.«re.Pattern.search» ⟨[.ref p, .str x t], []⟩) (fun _ R s => (∃ o, s.heap.get? p = some o ∧ o.data = .fields fs) ∧ (∃ o, s.heap.get? c = some o ∧ o.data = .seq items n) ∧ R (.ok (.ret .none)) s) := by
  rintro A R s ⟨⟨o, hp, hd⟩, ⟨oc, hc, hcd⟩, hR⟩
  subst hcodes hgroups
  unfold Builtin.«re.Pattern.search»
  refine wpAny_bind (wpAny_reTarget hp hd h6 h5 hc hcd ?_)
  unfold reAnswer
  dsimp only
  refine wpAny_bind (wpAny_reRun hk rfl (.inr e) ?_)
  rw [e]
  exact wpAny_pure hR
end
end Mine

set_option maxHeartbeats 4000000
namespace Mine
local macro_rules | `(tactic| walk_at "storeName") => `(tactic| (refine stZ (by assumption) (fun _ _ Z' => ?_); have F' := Z'.fr; have N' := Z'.nw; try dsimp only))
local macro_rules | `(tactic| walk_at "newTuple") => `(tactic| (refine newTupleZ (by assumption) (fun _ _ Z' => ?_); have F' := Z'.fr; have N' := Z'.nw; try dsimp only))
local macro_rules | `(tactic| walk_at "newList") => `(tactic| (refine newListZ (by assumption) (fun _ _ Z' => ?_); have F' := Z'.fr; have N' := Z'.nw; try dsimp only))

section
variable {M : Model} {A : Around} {env : Env} {E : Value → Shared → Prop} {s : Shared}
theorem asgOne {t₁ value : Expr} {pos : Pos} {Q : Flow → Shared → Prop}
    (h : wpAny M A (eval value env) (fun v s₁ => wpAny M A (assign t₁ env v) (fun _ => Q .next) E s₁) E s)
    (he : (assignEach [t₁] env).map (·.2) = [assign t₁ env] := by rfl)
    (hs : swapsWithSole [t₁] value pos.line env = pure false := by rfl) (hw : swappedStores [t₁] value env = pure none := by rfl) :
    wpAny M A (exec (.Assign [t₁] value pos) env) Q E s := by
  refine wpAny_Assign_stores (wpAny_mono h (fun v s₁ h₁ => ?_) fun _ _ x => x) hs hw
  rw [he]
  exact h₁
end
theorem add_func_stats_spec : ∀ {w : World} {lo : List Str} {A : Around} {R : Result → Shared → Prop} {s : Shared} {mg mb : Str → Option Value} {d e t u : Addr} {kvs lvs : List (Str × Value)} {T S : List (Str × Int)}
    {a1 a2 a3 a4 b1 b2 b3 b4 : Int} {x1 x2 x3 x4 y1 y2 y3 y4 : Tok},
  (hd.heap_39 w.params).In s.heap → TopRead hd.view_39 lo mg mb s.heap → A.depth < 890 → A.handled = none → (d == sysModules) = false → (e == sysModules) = false →
    s.heap.IsTuple t #[.int a1 x1, .int a2 x2, .int a3 x3, .int a4 x4, .ref d] → s.heap.IsTuple u #[.int b1 y1, .int b2 y2, .int b3 y3, .int b4 y4, .ref e] →
    s.heap.DictOf (strKind (PySem.Challenge.rw_xo0016_01).row.prog w) d kvs → Bears kvs T → s.heap.DictOf (strKind (PySem.Challenge.rw_xo0016_01).row.prog w) e lvs → Bears lvs S → T.length ≤ 1000 → S.length ≤ 1000 →
    (∀ h' tk v a kvs' o z1 z2 z3 z4, Ext s.heap h' → s.heap.get? a = none → h'.get? a = some o → o.IsDictOf (strKind (PySem.Challenge.rw_xo0016_01).row.prog w) kvs' → Bears kvs' (addTab T S) → (a == sysModules) = false → s.heap.get? v = none → v ≠ a →
      h'.get? v = some { cls := .type "tuple", data := .seq [Value.int (b1 + a1) z1, .int (b2 + a2) z2, .int (b3 + a3) z3, .int (b4 + a4) z4, .ref a].toArray } → R (.ok (.ret (.ref v))) { s with heap := h', toks := tk }) →
    codeAny (model (PySem.Challenge.rw_xo0016_01).row.prog w) A (.call (.ref 64) ⟨[.ref t, .ref u], []⟩) R s := by
  k_fill
  intro w lo A R s mg mb d e t u kvs lvs TT SS a1 a2 a3 a4 b1 b2 b3 b4 x1 x2 x3 x4 y1 y2 y3 y4 X T hdp hh hds hes ht hu hD hBD hE hBE hlT hlS hR
  refine' enterZ X T ?k1 ?k2 ?k3 ?k4 ?k5 ?_ ?c1 ?c2 ?c3 ?c4
  case k1 => k_is
  case k2 => k_is
  case k3 => show A.depth < 1000; omega
  case k4 => exact BindsTo.of_eq (binds := [("target", .ref t), ("source", .ref u)]) rfl
  case k5 => exact locs rfl
  case c1 => decide
  case c2 => rfl
  case c3 => rfl
  case c4 => rfl
  intro L h₁ tk Z
  refine wpAny_execs_cons (asgOne ?_)
  refine ldZ Z rfl ?_
  refine asgTup hh Z (hu.at fun o e => Z.keep _ o e) (fun _ Z => asgCons Z fun _ _ Z => asgCons Z fun _ _ Z => asgCons Z fun _ _ Z => asgCons Z fun _ _ Z => asgCons Z fun _ _ Z => asgNil ?_)
  dsimp only
  refine wpAny_execs_cons (asgOne ?_)
  refine ldZ Z rfl ?_
  refine asgTup hh Z (ht.at fun o e => Z.keep _ o e) (fun _ Z => asgCons Z fun _ _ Z => asgCons Z fun _ _ Z => asgCons Z fun _ _ Z => asgCons Z fun _ _ Z => asgCons Z fun _ _ Z => asgNil ?_)
  dsimp only
  have F := Z.fr
  have N := Z.nw
  refine wpAny_execs_cons (wpAny_Return_some ?_)
  iterate 30 (walk1; try dsimp only)
  refine ⟨X.keeps Z.keep, wpAny_call (add_callers_spec (X.keeps Z.keep) (T.keeps Z.keep) (by show A.depth + 1 < 900; omega) hh hds hes (hD.at fun o e => Z.keep _ o e) hBD (hE.at fun o e => Z.keep _ o e) hBE hlT hlS fun h' tk a kvs' x hn hD' hB ha => ?_)⟩
  obtain ⟨o, ho, hdo⟩ := Heap.dictOf_iff.mp hD'
  have Z := Z.addNew x ho hn
  dsimp only
  have F := Z.fr
  have N := Z.nw
  iterate 1 (walk1; try dsimp only)
  refine newTupleZ Z fun v h₃ Z => ?_
  dsimp only
  refine hR _ _ v a kvs' o _ _ _ _ Z.keep ?_ (Z.get (by simp)) hdo hB ha ?_ ?_ (Z.get (List.mem_cons_self ..))
  · exact (Z.nw (a, o) (by simp)).2.2
  · exact (Z.nw _ (List.mem_cons_self ..)).2.2
  · exact (Z.ne (pre := [_]) (post := []) _ (List.mem_cons_self ..))
end Mine

set_option maxHeartbeats 4000000
namespace Mine
local macro_rules | `(tactic| walk_at "storeName") => `(tactic| (refine stZ (by assumption) (fun _ _ Z' => ?_); have F' := Z'.fr; have N' := Z'.nw; try dsimp only))
local macro_rules | `(tactic| walk_at "newTuple") => `(tactic| (refine newTupleZ (by assumption) (fun _ _ Z' => ?_); have F' := Z'.fr; have N' := Z'.nw; try dsimp only))
local macro_rules | `(tactic| walk_at "newList") => `(tactic| (refine newListZ (by assumption) (fun _ _ Z' => ?_); have F' := Z'.fr; have N' := Z'.nw; try dsimp only))

def noDigit (h : Str) : Bool := match (drv 60 (Sre.forSearch #[14, 8, 1, 2, 4294967295, 1, 1, 46, 0, 16, 46, 24, 9, 1, 4294967295, 13, 4, 8, 0, 0, 1, 6, 5, 1] h.cps 0 (min 0 h.cps.size) (min ((2 : Int) ^ 63 - 1).toNat h.cps.size) false)).outcome with | some .failed => true | _ => false
def chAt (h : Str) (i : Int) : Option Nat := (seqIndex? i h.length).bind (h.cps[·]?)
def noDot (o : Option Nat) : Bool := match o with | some c => !((⟨#[c]⟩ : Str) == Str.ofString ".") | none => false
def goodHost (h : Str) : Bool := noDigit h && h.length ≤ 20 && noDot (chAt h 0) && noDot (chAt h (-1)) && decide (0 < h.length)
theorem noDot_of {o : Option Nat} (h : noDot o = true) : ∃ c, o = some c ∧ ((⟨#[c]⟩ : Str) == Str.ofString ".") = false := by
  cases o with
  | none => cases h
  | some c => exact ⟨c, rfl, by simpa [noDot] using h⟩
theorem good_first {h : Str} (g : goodHost h = true) : ∃ c, (seqIndex? 0 h.length).bind (h.cps[·]?) = some c ∧ ((⟨#[c]⟩ : Str) == Str.ofString ".") = false := by
  unfold goodHost at g
  simp only [Bool.and_eq_true] at g
  exact noDot_of g.1.1.2
theorem good_last {h : Str} (g : goodHost h = true) : ∃ c, (seqIndex? (-1) h.length).bind (h.cps[·]?) = some c ∧ ((⟨#[c]⟩ : Str) == Str.ofString ".") = false := by
  unfold goodHost at g
  simp only [Bool.and_eq_true] at g
  exact noDot_of g.1.2
theorem good_len {h : Str} (g : goodHost h = true) : h.length ≤ 20 := by
  unfold goodHost at g
  simp only [Bool.and_eq_true, decide_eq_true_eq] at g
  exact g.1.1.1.2
theorem noDigit_out {h : Str} (g : goodHost h = true) : (drv 60 (Sre.forSearch #[14, 8, 1, 2, 4294967295, 1, 1, 46, 0, 16, 46, 24, 9, 1, 4294967295, 13, 4, 8, 0, 0, 1, 6, 5, 1] h.cps 0 (min 0 h.cps.size) (min ((2 : Int) ^ 63 - 1).toNat h.cps.size) false)).outcome = some .failed := by
  unfold goodHost noDigit at g
  simp only [Bool.and_eq_true] at g
  have g := g.1.1.1.1
  split at g
  · assumption
  · cases g
def patIP : Obj := { cls := Value.type "re.Pattern", data := Data.fields #[Value.str (Str.ofString "\\.\\d+$") 285, Value.int 256 312, Value.int 0 0, Value.none, Value.none, Value.ref 35, Value.int 0 0] }
def wordsIP : Obj := { cls := Value.type "tuple", data := Data.seq #[Value.int 14 0, Value.int 8 0, Value.int 1 0, Value.int 2 0, Value.int 4294967295 0, Value.int 1 0,
              Value.int 1 0, Value.int 46 0, Value.int 0 0, Value.int 16 0, Value.int 46 0, Value.int 24 0, Value.int 9 0, Value.int 1 0, Value.int 4294967295 0, Value.int 13 0, Value.int 4 0, Value.int 8 0,
              Value.int 0 0, Value.int 0 0, Value.int 1 0, Value.int 6 0, Value.int 5 0, Value.int 1 0] }
theorem ip_search {prog : Program} {w : World} {h : Str} {u : Tok} (g : goodHost h = true) : MeetsIn prog w (Builtin.«re.Pattern.search» ⟨[.ref 36, .str h u], []⟩) (fun _ R s => s.heap.get? 36 = some patIP ∧ s.heap.get? 35 = some wordsIP ∧ R (.ok (.ret .none)) s) := by
  rintro A R s ⟨h1, h2, h3⟩
  exact meets_search_none (k := 60) (by decide) (by decide +kernel) (by decide +kernel) (by decide +kernel) (by rfl) (noDigit_out g) A R s ⟨⟨_, h1, rfl⟩, ⟨_, h2, rfl⟩, h3⟩
theorem good_ne {h : Str} (g : goodHost h = true) : (h == Str.ofString "") = false := by
  unfold goodHost at g
  simp only [Bool.and_eq_true, decide_eq_true_eq] at g
  have g := g.2
  rw [beq_eq_false_iff_ne]
  rintro rfl
  revert g
  decide +kernel
example : goodHost "c.b.a.local" = true := by decide +kernel
example : goodHost "local" = true := by decide +kernel
example : goodHost "lo.12" = false := by decide +kernel

theorem is_HDN_spec : ∀ {w : World} {lo : List Str} {A : Around} {R : Result → Shared → Prop} {s : Shared} {mg mb : Str → Option Value} {h : Str} {u : Tok},
  (hd.heap_39 w.params).In s.heap → TopRead hd.view_39 lo mg mb s.heap → A.depth < 900 → A.handled = none → goodHost h = true →
    (∀ h' tk, Ext s.heap h' → R (.ok (.ret (.bool true))) { s with heap := h', toks := tk }) →
    codeAny (model (PySem.Challenge.rw_xo0016_01).row.prog w) A (.call (.ref 43) ⟨[.str h u], []⟩) R s := by
  k_fill
  intro w lo A R s mg mb hst u X T hdp hh hgood hR
  refine' enterZ X T ?k1 ?k2 ?k3 ?k4 ?k5 ?_ ?c1 ?c2 ?c3 ?c4
  case k1 => k_is
  case k2 => k_is
  case k3 => show A.depth < 1000; omega
  case k4 => exact BindsTo.of_eq (binds := [("text", .str hst u)]) rfl
  case k5 => exact locs rfl
  case c1 => decide
  case c2 => rfl
  case c3 => rfl
  case c4 => rfl
  intro L h₁ tk Z
  have F := Z.fr
  have N := Z.nw
  refine wpAny_execs_cons (wpAny_If ?_)
  walk1
  walk1
  walk1
  have h36 : h₁.get? 36 = some patIP := X.keeps Z.keep _ _ rfl
  have h35 : h₁.get? 35 = some wordsIP := X.keeps Z.keep _ _ rfl
  refine getMethod_builtin (T := "re.Pattern") ⟨_, h36, rfl⟩ plainAttrs_pat slot_pat_search type_pat_search (fun a e => by cases e; exact ⟨_, h36, rfl⟩) ?_
  dsimp only
  walk1
  walk1
  walk1
  walk1
  refine call_meetsIn (self := .ref 36) slot_pat_search ⟨_, h36, rfl⟩ entry_pat_search (args_pat_search_2 _ _) (ip_search hgood) ⟨h36, h35, ?_⟩
  dsimp only [wants]
  walk1
  simp only [Bool.false_eq_true, if_false]
  refine wpAny_execs_nil ?_
  dsimp only
  refine wpAny_execs_cons (wpAny_If ?_)
  walk1
  walk1
  walk1
  walk1
  rw [good_ne hgood]
  walk1
  simp only [Bool.false_eq_true, if_false]
  refine wpAny_execs_nil ?_
  dsimp only
  refine wpAny_execs_cons (wpAny_If ?_)
  iterate 5 (walk1; try dsimp only)
  obtain ⟨c0, hc0, hd0⟩ := good_first hgood
  obtain ⟨c1, hc1, hd1⟩ := good_last hgood
  refine tail_any (typeIs_str _ _ _) slot_str_getitem.lookup (PyProof.Rows.getItem_str (by decide) hc0 ?_) rfl
  dsimp only
  iterate 2 (walk1; try dsimp only)
  rw [hd0]
  walk1
  simp only [Bool.false_eq_true, if_false]
  iterate 7 (walk1; try dsimp only)
  refine tail_any (typeIs_str _ _ _) slot_str_getitem.lookup (PyProof.Rows.getItem_str (by decide) hc1 ?_) rfl
  dsimp only
  iterate 2 (walk1; try dsimp only)
  rw [hd1]
  iterate 3 (walk1; try dsimp only)
  simp only [Bool.false_eq_true, if_false]
  refine wpAny_execs_nil ?_
  dsimp only
  refine wpAny_execs_cons (wpAny_Return_some ?_)
  walk1
  exact hR _ _ Z.keep
end Mine

set_option maxHeartbeats 4000000
namespace Mine
local macro_rules | `(tactic| walk_at "storeName") => `(tactic| (k_dflt (refine stZ (by assumption) (fun _ _ Z' => ?_)); have F' := Z'.fr; have N' := Z'.nw; try dsimp only))
local macro_rules | `(tactic| walk_at "newTuple") => `(tactic| (k_dflt (refine newTupleZ (by assumption) (fun _ _ Z' => ?_)); have F' := Z'.fr; have N' := Z'.nw; try dsimp only))
local macro_rules | `(tactic| walk_at "newList") => `(tactic| (k_dflt (refine newListZ (by assumption) (fun _ _ Z' => ?_)); have F' := Z'.fr; have N' := Z'.nw; try dsimp only))

local macro_rules | `(tactic| walk_at "subscriptTail Name Slice str ref") => `(tactic| (k_dflt (first | refine' sliceZ_sn ?zz ?_ | refine' sliceZ_ns ?zz ?_ | refine' sliceZ_ss ?zz ?_ | refine' sliceZ_nn ?zz ?_); (case zz => assumption); intro _ _ _ Z'; have F' := Z'.fr; have N' := Z'.nw; try dsimp only))
def reachP (h : Str) : Str :=
  if 0 ≤ Txt.find h "." then
    let b := Txt.slice h (some (Txt.find h "." + 1)) none
    if 0 ≤ Txt.find b "." || b == "local" then "." ++ b else h
  else h
example : reachP "c.b.a.local" = ".b.a.local" := by decide +kernel
example : reachP "a.local" = ".local" := by decide +kernel
example : reachP "local" = "local" := by decide +kernel

theorem ret_str {R : Result → Shared → Prop} {x y : Str} {t : Tok} {s : Shared} (e : x = y) (h : R (.ok (.ret (.str x t))) s) : R (.ok (.ret (.str y t))) s := e ▸ h
theorem reach_spec : ∀ {w : World} {lo : List Str} {A : Around} {R : Result → Shared → Prop} {s : Shared} {mg mb : Str → Option Value} {h : Str} {u : Tok},
  (hd.heap_39 w.params).In s.heap → TopRead hd.view_39 lo mg mb s.heap → A.depth < 890 → A.handled = none → goodHost h = true →
    (∀ h' tk t, Ext s.heap h' → R (.ok (.ret (.str (reachP h) t))) { s with heap := h', toks := tk }) →
    codeAny (model (PySem.Challenge.rw_xo0016_01).row.prog w) A (.call (.ref 50) ⟨[.str h u], []⟩) R s := by
  k_fill
  intro w lo A R s mg mb hst u X T hdp hh hgood hR
  refine' enterZ X T ?k1 ?k2 ?k3 ?k4 ?k5 ?_ ?c1 ?c2 ?c3 ?c4
  case k1 => k_is
  case k2 => k_is
  case k3 => show A.depth < 1000; omega
  case k4 => exact BindsTo.of_eq (binds := [("h", .str hst u)]) rfl
  case k5 => exact locs rfl
  case c1 => decide
  case c2 => rfl
  case c3 => rfl
  case c4 => rfl
  intro L h₁ tk Z
  have F := Z.fr
  have N := Z.nw
  refine wpAny_execs_cons ?_
  iterate 10 (walk1; try dsimp only)
  refine wpAny_execs_cons (wpAny_If ?_)
  iterate 5 (walk1; try dsimp only)
  have hsz : hst.length ≤ sizeLine := by have := good_len hgood; rw [sizeLine_eq]; omega
  by_cases hi : 0 ≤ Txt.find hst (Str.ofString ".")
  · rw [decide_eq_true hi]
    simp only [if_true]
    refine wpAny_execs_cons ?_
    repeat (walk1; try dsimp only)
    rename Lz _ _ _ _ _ => Z
    refine wpAny_call (is_HDN_spec (X.keeps Z.keep) (T.keeps Z.keep) (by show A.depth + 1 < 900; omega) hh hgood fun h' tk x => ?_)
    have Z := Z.ext x
    have F := Z.fr
    have N := Z.nw
    dsimp only
    repeat' (walk1; try dsimp only)
    all_goals (rename Lz _ _ _ _ _ => Z; refine ret_str ?_ (hR _ _ _ Z.keep); clear hR X T; unfold reachP; rw [if_pos hi]; simp_all <;> omega)
  · rw [decide_eq_false hi]
    simp only [Bool.false_eq_true, if_false]
    refine wpAny_execs_nil ?_
    dsimp only
    repeat (walk1; try dsimp only)
    rename Lz _ _ _ _ _ => Z
    refine ret_str ?_ (hR _ _ _ Z.keep)
    unfold reachP
    rw [if_neg hi]
end Mine

set_option maxHeartbeats 4000000
namespace Mine
local macro_rules | `(tactic| walk_at "storeName") => `(tactic| (k_dflt (refine stZ (by assumption) (fun _ _ Z' => ?_)); have F' := Z'.fr; have N' := Z'.nw; try dsimp only))
local macro_rules | `(tactic| walk_at "newTuple") => `(tactic| (k_dflt (refine newTupleZ (by assumption) (fun _ _ Z' => ?_)); have F' := Z'.fr; have N' := Z'.nw; try dsimp only))
local macro_rules | `(tactic| walk_at "newList") => `(tactic| (k_dflt (refine newListZ (by assumption) (fun _ _ Z' => ?_)); have F' := Z'.fr; have N' := Z'.nw; try dsimp only))

local macro_rules | `(tactic| walk_at "subscriptTail Name Slice str ref") => `(tactic| (k_dflt (first | refine' sliceZ_sn ?zz ?_ | refine' sliceZ_ns ?zz ?_ | refine' sliceZ_ss ?zz ?_ | refine' sliceZ_nn ?zz ?_); (case zz => assumption); intro _ _ _ Z'; have F' := Z'.fr; have N' := Z'.nw; try dsimp only))

theorem localename_spec : ∀ {w : World} {lo : List Str} {A : Around} {R : Result → Shared → Prop} {s : Shared} {mg mb : Str → Option Value} {t : Addr} {x y : Str} {u v : Tok},
  (hd.heap_39 w.params).In s.heap → TopRead hd.view_39 lo mg mb s.heap → A.depth < 890 → A.handled = none → s.heap.IsTuple t #[.str x u, .str y v] → x.length ≤ 100 → y.length ≤ 100 →
    (∀ h' tk t, Ext s.heap h' → R (.ok (.ret (.str (x ++ Str.ofString "." ++ y) t))) { s with heap := h', toks := tk }) →
    codeAny (model (PySem.Challenge.rw_xo0016_01).row.prog w) A (.call (.ref 57) ⟨[.ref t], []⟩) R s := by
  k_fill
  intro w lo A R s mg mb t x y u v X T hdp hh ht hx hy hR
  refine' enterZ X T ?k1 ?k2 ?k3 ?k4 ?k5 ?_ ?c1 ?c2 ?c3 ?c4
  case k1 => k_is
  case k2 => k_is
  case k3 => show A.depth < 1000; omega
  case k4 => exact BindsTo.of_eq (binds := [("localetuple", .ref t)]) rfl
  case k5 => exact locs rfl
  case c1 => decide
  case c2 => rfl
  case c3 => rfl
  case c4 => rfl
  intro L h₁ tk Z
  have F := Z.fr
  have N := Z.nw
  refine wpAny_execs_cons ?_
  walk1
  refine wpAny_execs_cons (asgOne ?_)
  refine ldZ Z rfl ?_
  refine asgTup hh Z (ht.at fun o e => Z.keep _ o e) (fun _ Z => asgCons Z fun _ _ Z => asgCons Z fun _ _ Z => asgNil ?_)
  dsimp only
  have F := Z.fr
  have N := Z.nw
  repeat (walk1; try dsimp only)
  exact hR _ _ _ Z.keep
end Mine

set_option maxHeartbeats 4000000
namespace Mine
def eolCode : Array Nat := #[14, 9, 4, 1, 2, 16, 10, 16, 13, 0, 7, 7, 16, 13, 16, 10, 15, 18, 5, 16, 10, 15, 13, 11, 16, 13, 5, 5, 0, 16, 10, 1, 15, 2, 0, 1]
section
open PySem.Sre
def at0 (x : Array Nat) (lim p ls : Nat) (sn : Sre.Seen) : M :=
  { code := eolCode, text := x, lim, start := p, lastStart := ls, wholeText := false, mustAdvance := false, pc := 10, pos := p, handed := p, outermost := true, marks := #[], lastmark := -1, lastindex := -1,
    frames := [{ wait := .nextStart, pc := 10, pos := p, outermost := true }], weight := 1, seen := sn }
theorem run_lf {x : Array Nat} {lim p ls : Nat} {sn : Sre.Seen} (hp : p < lim) (h : x.getD p 0 = 10) : ∃ m', drv 10 (at0 x lim p ls sn) = m' ∧ m'.outcome = some .matched ∧ m'.start = p ∧ m'.handed = p + 1 := by
  simp [at0, drv, M.runFor, M.step, M.exec, M.word, eolCode, ops, M.alternative, M.attempt, M.frame, M.keep, M.say, accepts, h, M.resume, M.putBack, itemWidth, Nat.not_le.mpr hp]
theorem run_crlf {x : Array Nat} {lim p ls : Nat} {sn : Sre.Seen} (hp : p + 1 < lim) (h : x.getD p 0 = 13) (h2 : x.getD (p + 1) 0 = 10) : ∃ m', drv 10 (at0 x lim p ls sn) = m' ∧ m'.outcome = some .matched ∧ m'.start = p ∧ m'.handed = p + 2 := by
  have hp' : ¬ lim ≤ p := by omega
  simp [at0, drv, M.runFor, M.step, M.exec, M.word, eolCode, ops, M.alternative, M.attempt, M.frame, M.keep, M.say, accepts, h, h2, M.resume, itemWidth, Nat.not_le.mpr hp, hp']
theorem run_cr {x : Array Nat} {lim p ls : Nat} {sn : Sre.Seen} (hp : p + 1 < lim) (h : x.getD p 0 = 13) (h2 : x.getD (p + 1) 0 ≠ 10) : ∃ m', drv 10 (at0 x lim p ls sn) = m' ∧ m'.outcome = some .matched ∧ m'.start = p ∧ m'.handed = p + 1 := by
  have hp' : ¬ lim ≤ p := by omega
  have h3 : (x[p + 1]?.getD 0 == 10) = false := by rw [← Array.getD_eq_getD_getElem?]; simpa using h2
  simp [at0, drv, M.runFor, M.step, M.exec, M.word, eolCode, ops, M.alternative, M.attempt, M.frame, M.keep, M.say, accepts, h, h3, M.resume, M.putBack, itemWidth, Nat.not_le.mpr hp, hp']
theorem run_crEnd {x : Array Nat} {lim p ls : Nat} {sn : Sre.Seen} (hp : p + 1 = lim) (h : x.getD p 0 = 13) : ∃ m', drv 10 (at0 x lim p ls sn) = m' ∧ m'.outcome = some .matched ∧ m'.start = p ∧ m'.handed = p + 1 := by
  have hp' : ¬ lim ≤ p := by omega
  have hp2 : lim ≤ p + 1 := by omega
  simp [at0, drv, M.runFor, M.step, M.exec, M.word, eolCode, ops, M.alternative, M.attempt, M.frame, M.keep, M.say, accepts, h, M.resume, M.putBack, itemWidth, hp', hp2]
theorem inSet_eol (c : Nat) (seen : Sre.Seen) : ∃ sn, inSet eolCode c eolCode.size 5 true seen = .ok (decide (c = 10 ∨ c = 13), sn) := by
  by_cases h10 : c = 10
  · simp [inSet, eolCode, ops, h10]
  · by_cases h13 : c = 13
    · simp [inSet, eolCode, ops, h13]
    · simp [inSet, eolCode, ops, h10, h13]
theorem scan_hit {m : M} (hc : m.code = eolCode) {p : Nat} (hp : p < m.lim) (he : m.text.getD p 0 = 10 ∨ m.text.getD p 0 = 13) : ∀ (fuel s : Nat) (seen : Sre.Seen), s ≤ p → p < s + fuel → (∀ i, s ≤ i → i < p → m.text.getD i 0 ≠ 10 ∧ m.text.getD i 0 ≠ 13) →
    ∃ sn, M.admitted m fuel s seen = .ok (some p, sn)
  | 0, s, seen, h1, h2, h3 => by omega
  | fuel + 1, s, seen, h1, h2, h3 => by
    have hs : ¬ s ≥ m.lim := by omega
    obtain ⟨sn, e⟩ := inSet_eol (m.text.getD s 0) seen
    unfold M.admitted
    rw [if_neg hs, hc, e]
    by_cases h : s = p
    · subst h
      rw [decide_eq_true he]
      exact ⟨sn, rfl⟩
    · have hn := h3 s (Nat.le_refl _) (by omega)
      rw [decide_eq_false (not_or.mpr hn)]
      exact scan_hit hc hp he fuel (s + 1) sn (by omega) (by omega) fun i a b => h3 i (by omega) b
theorem scan_miss {m : M} (hc : m.code = eolCode) : ∀ (fuel s : Nat) (seen : Sre.Seen), (∀ i, s ≤ i → i < m.lim → m.text.getD i 0 ≠ 10 ∧ m.text.getD i 0 ≠ 13) →
    ∃ sn, M.admitted m fuel s seen = .ok (none, sn)
  | 0, s, seen, h3 => ⟨seen, rfl⟩
  | fuel + 1, s, seen, h3 => by
    unfold M.admitted
    by_cases hs : s ≥ m.lim
    · rw [if_pos hs]; exact ⟨seen, rfl⟩
    · obtain ⟨sn, e⟩ := inSet_eol (m.text.getD s 0) seen
      rw [if_neg hs, hc, e]
      have hn := h3 s (Nat.le_refl _) (by omega)
      rw [decide_eq_false (not_or.mpr hn)]
      exact scan_miss hc fuel (s + 1) sn fun i a b => h3 i (by omega) b
/-- the width of an end of line that stands at p -/
def eolWidth (x : Array Nat) (p : Nat) : Nat := if x.getD p 0 = 13 ∧ p + 1 < x.size ∧ x.getD (p + 1) 0 = 10 then 2 else 1
theorem run_eol {x : Array Nat} {p ls : Nat} {sn : Sre.Seen} (hp : p < x.size) (he : x.getD p 0 = 10 ∨ x.getD p 0 = 13) : ∃ m', drv 10 (at0 x x.size p ls sn) = m' ∧ m'.outcome = some .matched ∧ m'.start = p ∧ m'.handed = p + eolWidth x p := by
  unfold eolWidth
  rcases he with h | h
  · rw [if_neg (by omega)]; exact run_lf hp h
  · by_cases h1 : p + 1 < x.size
    · by_cases h2 : x.getD (p + 1) 0 = 10
      · rw [if_pos ⟨h, h1, h2⟩]; exact run_crlf h1 h h2
      · rw [if_neg (fun q => h2 q.2.2)]; exact run_cr h1 h h2
    · rw [if_neg (fun q => h1 q.2.1)]; exact run_crEnd (by omega) h
def pre (x : Array Nat) (s : Nat) (must : Bool) : M :=
  { code := eolCode, text := x, lim := x.size, start := s, lastStart := x.size, pc := 10, pos := s, handed := s, marks := #[], mustAdvance := must, seen := ({} : Sre.Seen).add 14 }
theorem pre_first {x : Array Nat} {s : Nat} {must : Bool} : (pre x s must).hasFirstSet = true := by rfl
theorem search_pre {x : Array Nat} {s : Nat} {must : Bool} (h2 : ¬ (s > x.size ∨ x.size - s < 1)) : forSearch eolCode x 0 s x.size must = (pre x s must).attemptFrom s true := by
  unfold forSearch
  dsimp only
  rw [show (header eolCode).1 = 1 from rfl, if_neg (by simpa using h2)]
  rfl
theorem next_hit {x : Array Nat} {s p : Nat} {must : Bool} (hs : s ≤ p) (hp : p < x.size) (he : x.getD p 0 = 10 ∨ x.getD p 0 = 13) (hn : ∀ i, s ≤ i → i < p → x.getD i 0 ≠ 10 ∧ x.getD i 0 ≠ 13) :
    ∃ m', drv 10 (forSearch eolCode x 0 s x.size must) = m' ∧ m'.outcome = some .matched ∧ m'.start = p ∧ m'.handed = p + eolWidth x p := by
  have h2 : ¬ (s > x.size ∨ x.size - s < 1) := by omega
  obtain ⟨sn, e⟩ := scan_hit (m := pre x s must) rfl (p := p) hp he (x.size + 1 - s) s (pre x s must).seen hs (by omega) hn
  have e2 : forSearch eolCode x 0 s x.size must = at0 x x.size p x.size sn := by
    rw [search_pre h2]
    unfold M.attemptFrom
    rw [if_neg (by rw [pre_first]; decide)]
    rw [show (pre x s must).lim = x.size from rfl, e]
    rfl
  rw [e2]
  exact run_eol hp he
theorem next_miss {x : Array Nat} {s : Nat} {must : Bool} (hn : ∀ i, s ≤ i → i < x.size → x.getD i 0 ≠ 10 ∧ x.getD i 0 ≠ 13) :
    ∃ m', drv 10 (forSearch eolCode x 0 s x.size must) = m' ∧ m'.outcome = some .failed := by
  by_cases h2 : s > x.size ∨ x.size - s < 1
  · unfold forSearch
    dsimp only
    rw [show (header eolCode).1 = 1 from rfl, if_pos (by simpa using h2)]
    exact ⟨_, rfl, rfl⟩
  · obtain ⟨sn, e⟩ := scan_miss (m := pre x s must) rfl (x.size + 1 - s) s (pre x s must).seen hn
    rw [search_pre h2]
    unfold M.attemptFrom
    rw [if_neg (by rw [pre_first]; decide)]
    rw [show (pre x s must).lim = x.size from rfl, e]
    exact ⟨_, rfl, rfl⟩
end
end Mine

set_option maxHeartbeats 400000
namespace Mine
/-- whole: every end of line made CRLF -/
def fixL : List Nat → List Nat
  | [] => []
  | [c] => if c = 10 ∨ c = 13 then [13, 10] else [c]
  | c :: d :: r => if c = 13 ∧ d = 10 then 13 :: 10 :: fixL r else if c = 10 ∨ c = 13 then 13 :: 10 :: fixL (d :: r) else c :: fixL (d :: r)
theorem fixL_len : ∀ (n : Nat) (l : List Nat), l.length ≤ n → (fixL l).length ≤ 2 * l.length
  | _, [], _ => Nat.le_refl _
  | _, [c], _ => by unfold fixL; split <;> simp
  | 0, _ :: _ :: _, h => by simp at h
  | n + 1, c :: d :: r, h => by
    unfold fixL
    have h1 := fixL_len n r (by simp at h; omega)
    have h2 := fixL_len n (d :: r) (by simp at h ⊢; omega)
    split
    · simp at h2 ⊢; omega
    · split
      · simp at h2 ⊢; omega
      · simp at h2 ⊢; omega
theorem fixL_other {c : Nat} {r : List Nat} (h : ¬ (c = 10 ∨ c = 13)) : fixL (c :: r) = c :: fixL r := by
  cases r with
  | nil => unfold fixL; rw [if_neg h]
  | cons d r => rw [fixL, if_neg (fun q => h (.inr q.1)), if_neg h]
theorem fixL_app : ∀ (l r : List Nat), (∀ c ∈ l, ¬ (c = 10 ∨ c = 13)) → fixL (l ++ r) = l ++ fixL r
  | [], _, _ => rfl
  | c :: l, r, h => by
    rw [List.cons_append, fixL_other (h c (List.mem_cons_self ..)), fixL_app l r fun d hd => h d (List.mem_cons_of_mem _ hd), List.cons_append]
theorem fixL_hit {x : Array Nat} {s p : Nat} (hs : s ≤ p) (hp : p < x.size) (he : x.getD p 0 = 10 ∨ x.getD p 0 = 13) (hn : ∀ i, s ≤ i → i < p → x.getD i 0 ≠ 10 ∧ x.getD i 0 ≠ 13) :
    fixL (x.toList.drop s) = (x.extract s p).toList ++ [13, 10] ++ fixL (x.toList.drop (p + eolWidth x p)) := by
  have e1 : x.toList.drop s = (x.extract s p).toList ++ x.toList.drop p := by
    rw [Array.toList_extract, List.extract_eq_take_drop]
    conv => lhs; rw [← List.take_append_drop (p - s) (x.toList.drop s)]
    rw [List.drop_drop, show s + (p - s) = p from by omega]
  have e2 : ∀ c ∈ (x.extract s p).toList, ¬ (c = 10 ∨ c = 13) := by
    intro c hc
    rw [Array.mem_toList_iff, Array.mem_extract_iff_getElem] at hc
    obtain ⟨k, hk, rfl⟩ := hc
    have := hn (s + k) (by omega) (by omega)
    have hlt : s + k < x.size := by omega
    rw [show x.getD (s + k) 0 = x[s + k] from by simp [hlt]] at this
    exact not_or.mpr this
  rw [e1, fixL_app _ _ e2, List.append_assoc]
  congr 1
  have hl : p < x.toList.length := by simpa using hp
  have hx : x.getD p 0 = x[p] := by simp [hp]
  rw [List.drop_eq_getElem_cons hl]
  simp only [Array.getElem_toList]
  rw [← hx]
  unfold eolWidth
  by_cases h1 : p + 1 < x.size
  · have hl1 : p + 1 < x.toList.length := by simpa using h1
    have hx1 : x.getD (p + 1) 0 = x[p + 1] := by simp [h1]
    rw [List.drop_eq_getElem_cons hl1]
    simp only [Array.getElem_toList]
    rw [← hx1]
    by_cases h2 : x.getD p 0 = 13 ∧ x.getD (p + 1) 0 = 10
    · rw [fixL, if_pos h2, if_pos ⟨h2.1, h1, h2.2⟩]; rfl
    · rw [fixL, if_neg h2, if_pos he, if_neg (fun q => h2 ⟨q.1, q.2.2⟩), List.drop_eq_getElem_cons hl1]
      simp only [Array.getElem_toList]
      rw [← hx1]; rfl
  · rw [if_neg (fun q => h1 q.2.1), List.drop_eq_nil_of_le (by simp; omega)]
    unfold fixL
    rw [if_pos he]; rfl
theorem fixL_miss {x : Array Nat} {s : Nat} (hn : ∀ i, s ≤ i → i < x.size → x.getD i 0 ≠ 10 ∧ x.getD i 0 ≠ 13) : fixL (x.toList.drop s) = x.toList.drop s := by
  have := fixL_app (x.toList.drop s) [] (by
    intro c hc
    obtain ⟨k, hk, rfl⟩ := List.mem_iff_getElem.mp hc
    rw [List.length_drop] at hk
    have hlt : s + k < x.size := by simp at hk; omega
    have := hn (s + k) (by omega) hlt
    rw [List.getElem_drop, Array.getElem_toList]
    rw [show x.getD (s + k) 0 = x[s + k] from by simp [hlt]] at this
    exact not_or.mpr this)
  simpa [fixL] using this
/-- the next end of line, or none -/
theorem next_or (x : Array Nat) : ∀ (n s : Nat), x.size - s ≤ n → (∃ p, s ≤ p ∧ p < x.size ∧ (x.getD p 0 = 10 ∨ x.getD p 0 = 13) ∧ ∀ i, s ≤ i → i < p → x.getD i 0 ≠ 10 ∧ x.getD i 0 ≠ 13) ∨ ∀ i, s ≤ i → i < x.size → x.getD i 0 ≠ 10 ∧ x.getD i 0 ≠ 13
  | 0, s, h => .inr fun i a b => by omega
  | n + 1, s, h => by
    by_cases he : s < x.size ∧ (x.getD s 0 = 10 ∨ x.getD s 0 = 13)
    · exact .inl ⟨s, Nat.le_refl _, he.1, he.2, fun i a b => by omega⟩
    · rcases next_or x n (s + 1) (by omega) with ⟨p, h1, h2, h3, h4⟩ | h4
      · refine .inl ⟨p, by omega, h2, h3, fun i a b => ?_⟩
        by_cases e : i = s
        · subst e; exact not_or.mp fun q => he ⟨by omega, q⟩
        · exact h4 i (by omega) b
      · refine .inr fun i a b => ?_
        by_cases e : i = s
        · subst e; exact not_or.mp fun q => he ⟨b, q⟩
        · exact h4 i (by omega) b
end Mine

set_option maxHeartbeats 400000
namespace Mine
open PySem.Builtin.Re
theorem slot_pat_sub : Slot "re.Pattern" "sub" "re.Pattern.sub" :=
  .of (owner := "re.Pattern") (n := "sub") (by rw [typeLookup_type, builtinLookup_eq_fast]; kernel_rfl) (by decide +kernel) (by decide +kernel) (by decide +kernel)
    (by first | exact .inl (by decide +kernel) | exact .inr (by decide +kernel)) (by rw [isSubtype_type]; kernel_rfl)
theorem type_pat_sub : typeOf (.builtin "re.Pattern.sub") = pure (.type "method_descriptor") := by show builtinType _ = _; rw [builtinType_eq_fast]; kernel_rfl
theorem entry_pat_sub : entryFor table "re.Pattern.sub" = some Builtin.«re.Pattern.sub» := entryFor_of_tree (by kernel_rfl)
theorem entry_pat_subloop : entryFor table "re.Pattern.sub.loop" = some Builtin.«re.Pattern.sub.loop» := entryFor_of_tree (by kernel_rfl)
theorem args_pat_sub_3 (a b c : Value) : argsOk "re.Pattern.sub" ⟨[a, b, c], []⟩ := by
  unfold argsOk; kernel_rfl
def patE : Obj := { cls := Value.type "re.Pattern", data := Data.fields #[Value.str (Str.ofString "(?:\\r\\n|\\n|\\r(?!\\n))") 384, Value.int 32 423, Value.int 0 0, Value.none, Value.none, Value.ref 82, Value.int 0 0] }
def wordsE : Obj := { cls := Value.type "tuple", data := Data.seq #[Value.int 14 0, Value.int 9 0, Value.int 4 0, Value.int 1 0, Value.int 2 0, Value.int 16 0,
              Value.int 10 0, Value.int 16 0, Value.int 13 0, Value.int 0 0, Value.int 7 0, Value.int 7 0,
              Value.int 16 0, Value.int 13 0, Value.int 16 0, Value.int 10 0, Value.int 15 0, Value.int 18 0,
              Value.int 5 0, Value.int 16 0, Value.int 10 0, Value.int 15 0, Value.int 13 0, Value.int 11 0,
              Value.int 16 0, Value.int 13 0, Value.int 5 0, Value.int 5 0, Value.int 0 0, Value.int 16 0,
              Value.int 10 0, Value.int 1 0, Value.int 15 0, Value.int 2 0, Value.int 0 0, Value.int 1 0] }
section
variable {M : Model} {A : Around} {E : Value → Shared → Prop} {s : Shared}
def tgt (x : Str) (u : Tok) : ReTarget := { pattern := .ref 83, string := .str x u, code := eolCode, text := x.cps, kind := 0, groups := 0, pos := 0, lim := x.cps.size }
theorem wpAny_whole {x : Str} {u : Tok} {Q : ReTarget → Shared → Prop} (h83 : s.heap.get? 83 = some patE) (h82 : s.heap.get? 82 = some wordsE) (hq : Q (tgt x u) s) : wpAny M A (reWholeTarget (.ref 83) (.str x u)) Q E s := by
  unfold reWholeTarget
  refine wpAny_bind (wpAny_fieldsOf h83 rfl (wpAny_bind (wpAny_pure ?_)))
  dsimp only
  refine wpAny_bind (wpAny_pure ?_)
  refine wpAny_bind (wpAny_reRawItems (c := 82) h82 rfl ?_)
  refine wpAny_pure ?_
  rw [show Array.map (fun x => x.toNat) (Array.map reRawOf _) = eolCode from by decide +kernel]
  exact hq
theorem strsAre_snoc {vs : List Value} {ys : List Str} (h : StrsAre vs ys) (y : Str) (t : Tok) : StrsAre (vs ++ [.str y t]) (ys ++ [y]) := by
  induction h with
  | nil => exact .cons y t .nil
  | cons z u _ ih => exact .cons z u ih
end
def crlf : Str := Str.ofString "\r\n"
theorem reSlice_str {M : Model} {A : Around} {E : Value → Shared → Prop} {s : Shared} {x : Array Nat} {b e : Nat} {Q : Value → Shared → Prop} (hq : Q (.str ⟨x.extract b e⟩ s.toks) { s with toks := s.toks + 1 }) (hsz : x.size ≤ sizeLine) :
    wpAny M A (reSlice x 0 b e) Q E s := by
  unfold reSlice
  rw [if_pos (by rfl)]
  refine wpAny_mkStr hq ?_
  show (x.extract b e).size ≤ sizeLine
  rw [Array.size_extract]
  omega
theorem wpAny_lit {M : Model} {A : Around} {E : Value → Shared → Prop} {s : Shared} {x : Str} {t : Tok} {Q : Unit → Shared → Prop} (h : Q () s) : wpAny M A (reLiteralCannotBeTurned (.str x t)) Q E s :=
  wpAny_bind (wpAny_pure (show wpAny M A (pure ()) Q E s from wpAny_pure h))
theorem eolWidth_pos (x : Array Nat) (p : Nat) : 1 ≤ eolWidth x p := by unfold eolWidth; split <;> omega
theorem eolWidth_le (x : Array Nat) (p : Nat) : eolWidth x p ≤ 2 := by unfold eolWidth; split <;> omega
theorem eolWidth_fit {x : Array Nat} {p : Nat} (hp : p < x.size) : p + eolWidth x p ≤ x.size := by
  unfold eolWidth
  by_cases hc : x.getD p 0 = 13 ∧ p + 1 < x.size ∧ x.getD (p + 1) 0 = 10
  · rw [if_pos hc]; have := hc.2.1; omega
  · rw [if_neg hc]; omega
theorem mapSeq_list {f : Array Value → Array Value} {xs : Array Value} {n : Nat} : ∃ k, Obj.mapSeq f { cls := .type "list", data := .seq xs n } = { cls := .type "list", data := .seq (f xs) k } := ⟨_, rfl⟩
theorem foldl_flat : ∀ (l : List Str) (a : Array Nat), (l.foldl (fun acc p => acc ++ (#[] : Array Nat) ++ p.cps) a).toList = a.toList ++ l.flatMap fun y => y.cps.toList
  | [], a => by simp
  | y :: r, a => by rw [List.foldl_cons, foldl_flat r]; simp
theorem join_flat : ∀ ys : List Str, Txt.join ⟨#[]⟩ ys = ⟨(ys.flatMap fun y => y.cps.toList).toArray⟩
  | [] => rfl
  | y :: r => by
    show (⟨r.foldl (fun acc p => acc ++ (#[] : Array Nat) ++ p.cps) y.cps⟩ : Str) = _
    rw [← Array.toArray_toList (xs := r.foldl _ _), foldl_flat]
    rfl
/-- one turn of the loop and all that follow -/
theorem subLoop {prog : Program} {w : World} {R : Result → Shared → Prop} {A : Around} {x : Str} {u t : Tok} {l : Addr} (hx : x.cps.size ≤ 4096) : ∀ (n st : Nat) (must : Bool) (k : Int) (s : Shared) (vs : List Value) (c : Nat) (ys : List Str),
    x.cps.size - st < n → st ≤ x.cps.size → s.heap.get? 83 = some patE → s.heap.get? 82 = some wordsE → s.heap.get? l = some { cls := .type "list", data := .seq vs.toArray c } → StrsAre vs ys → ys.length ≤ 2 * st → (ys.map (·.length)).sum ≤ 4 * st →
    (∀ h' tk t', (∀ a o, a ≠ l → s.heap.get? a = some o → h'.get? a = some o) → R (.ok (.ret (.str ⟨((ys.flatMap fun y => y.cps.toList) ++ fixL (x.cps.toList.drop st)).toArray⟩ t'))) { s with heap := h', toks := tk }) →
    codeAny (model prog w) A (.builtin "re.Pattern.sub.loop" ⟨[.ref 83, .str x u, .str crlf t, rawInt 0, rawInt 0, rawInt k, rawInt st, rawInt st, .bool must, .ref l, .bool false], []⟩) R s := by
  intro n
  induction n with
  | zero => intro st must k s vs c ys hn; omega
  | succ n ih =>
    intro st must k s vs c ys hn hst h83 h82 hl hys hlen hsum hR
    refine codeAny_builtin entry_pat_subloop ?_
    unfold Builtin.«re.Pattern.sub.loop»
    simp only [rawInt]
    refine wpAny_bind (wpAny_whole h83 h82 ?_)
    rw [if_pos (by rfl)]
    refine wpAny_bind (wpAny_lit ?_)
    have hvl : vs.length = ys.length := hys.length
    rcases next_or x.cps _ st (Nat.le_refl _) with ⟨p, h1, h2, h3, h4⟩ | h4
    · obtain ⟨m', e1, e2, e3, e4⟩ := next_hit (must := must) h1 h2 h3 h4
      refine wpAny_bind (show wpAny _ _ (reNextFound (tgt x u) st must) _ _ s from wpAny_reRun (k := 10) (by decide) e1 (.inl e2) ?_)
      rw [e2]
      dsimp only
      rw [if_pos rfl]
      dsimp only
      rw [e3, e4]
      simp only [beq_self_eq_true, if_true, Int.toNat_natCast]
      have hgo : ∀ (s' : Shared) (vs' : List Value) (c' : Nat) (ys' : List Str), s' = { s with heap := s'.heap, toks := s'.toks } → (∀ a o, a ≠ l → s.heap.get? a = some o → s'.heap.get? a = some o) → s'.heap.get? l = some { cls := .type "list", data := .seq vs'.toArray c' } → StrsAre vs' ys' →
          ys' = ys ++ (if st < p then [⟨x.cps.extract st p⟩] else []) →
          wpAny (model prog w) (A.under (Code.builtin "re.Pattern.sub.loop" ⟨[Value.ref 83, Value.str x u, Value.str crlf t, Value.int 0 0, Value.int 0 0, Value.int k 0, Value.int (↑st) 0, Value.int (↑st) 0, Value.bool must, Value.ref l, Value.bool false], []⟩))
            (do updateSeq l fun x => x.push (Value.str crlf t)
                again (Code.builtin "re.Pattern.sub.loop" ⟨[Value.ref 83, Value.str x u, Value.str crlf t, Value.int 0 0, Value.int 0 0, Value.int (k + 1) 0, Value.int (↑(p + eolWidth x.cps p)) 0, Value.int (↑(p + eolWidth x.cps p)) 0, Value.bool (p + eolWidth x.cps p == p), Value.ref l, Value.bool false], []⟩))
            (fun fin s' => match fin with | .done f => R (.ok f) s' | .again c' => c'.quiet = true ∧ codeAny (model prog w) A c' R s') (fun e s' => R (.error e) s') s' := by
        intro s' vs' c' ys' hs' hk' hl' hys' e'
        have hn83 : (83 : Nat) ≠ l := by rintro rfl; rw [h83] at hl; exact absurd (Value.type.inj (congrArg Obj.cls (Option.some.inj hl))) (by decide)
        have hn82 : (82 : Nat) ≠ l := by rintro rfl; rw [h82] at hl; exact absurd (Value.type.inj (congrArg Obj.cls (Option.some.inj hl))) (by decide)
        have hvl' : vs'.length = ys'.length := hys'.length
        have hw1 := eolWidth_pos x.cps p
        have hw2 := eolWidth_le x.cps p
        have hpw := eolWidth_fit h2
        have hyl : ys'.length ≤ ys.length + 1 := by rw [e']; split <;> simp
        have hysum : (ys'.map (·.length)).sum ≤ (ys.map (·.length)).sum + (p - st) := by
          rw [e']
          split
          · rw [List.map_append, List.sum_append]
            have : (⟨x.cps.extract st p⟩ : Str).length ≤ p - st := by show (x.cps.extract st p).size ≤ _; rw [Array.size_extract]; omega
            simp only [List.map_cons, List.map_nil, List.sum_cons, List.sum_nil]
            omega
          · simp
        refine wpAny_bind (wpAny_updateSeq hl' rfl ?_ (by rw [sizeLine_eq]; simp; omega) (by rw [sizeLine_eq]; simp; omega))
        refine wpAny_pure ⟨plainId_quiet (by decide +kernel) _, ?_⟩
        obtain ⟨k1, hk1⟩ := mapSeq_list (f := fun x => x.push (Value.str crlf t)) (xs := vs'.toArray) (n := c')
        have hu := Heap.get?_update_self (h := s'.heap) (Obj.mapSeq fun x => x.push (Value.str crlf t)) hl' rfl
        refine ih (p + eolWidth x.cps p) _ (k + 1) _ (vs' ++ [.str crlf t]) k1 (ys' ++ [crlf]) (by omega) hpw ?_ ?_ ?_ (strsAre_snoc hys' _ _) (by simp; omega) ?_ ?_
        · show (s'.heap.update l _).get? 83 = _
          rw [Heap.get?_update_ne _ _ _ _ hn83]; exact hk' _ _ hn83 h83
        · show (s'.heap.update l _).get? 82 = _
          rw [Heap.get?_update_ne _ _ _ _ hn82]; exact hk' _ _ hn82 h82
        · show (s'.heap.update l _).get? l = _
          rw [hu, hk1]
          simp
        · rw [List.map_append, List.sum_append]
          have : crlf.length = 2 := by decide +kernel
          simp only [List.map_cons, List.map_nil, List.sum_cons, List.sum_nil, this]
          omega
        · intro h' tk t' hk''
          have := hR h' tk t' fun a o ha ho => hk'' a o ha (by
            show (s'.heap.update l _).get? a = _
            rw [Heap.get?_update_ne _ _ _ _ ha]; exact hk' a o ha ho)
          rw [fixL_hit h1 h2 h3 h4] at this
          have ee : ((ys' ++ [crlf]).flatMap fun y => y.cps.toList) ++ fixL (x.cps.toList.drop (p + eolWidth x.cps p)) =
              (ys.flatMap fun y => y.cps.toList) ++ ((x.cps.extract st p).toList ++ [13, 10] ++ fixL (x.cps.toList.drop (p + eolWidth x.cps p))) := by
            have hc : crlf.cps.toList = [13, 10] := by decide +kernel
            rw [e', List.flatMap_append, List.flatMap_append]
            by_cases hlt : st < p
            · rw [if_pos hlt]; simp [hc]
            · have hz : st = p := by omega
              rw [if_neg hlt, hz]; simp [hc]
          rw [ee]
          have g1 : s'.gens = s.gens := by rw [hs']
          have g2 : s'.drawn = s.drawn := by rw [hs']
          have g3 : s'.os = s.os := by rw [hs']
          show R _ { heap := h', gens := s'.gens, drawn := s'.drawn, toks := tk, os := s'.os }
          rw [g1, g2, g3]
          exact this
      by_cases hlt : st < p
      · rw [if_pos hlt]
        refine wpAny_bind (reSlice_str ?_ (by rw [sizeLine_eq]; show x.cps.size ≤ _; omega))
        refine wpAny_bind (wpAny_updateSeq (s := ⟨s.heap, s.gens, s.drawn, s.toks + 1, s.os⟩) hl rfl ?_ (by rw [sizeLine_eq]; simp; omega) (by rw [sizeLine_eq]; simp; omega))
        obtain ⟨k1, hk1⟩ := mapSeq_list (f := fun y => y.push (Value.str ⟨x.cps.extract st p⟩ s.toks)) (xs := vs.toArray) (n := c)
        refine hgo _ (vs ++ [.str ⟨x.cps.extract st p⟩ s.toks]) k1 _ rfl ?_ ?_ (strsAre_snoc hys _ _) (by rw [if_pos hlt])
        · intro a o ha ho
          show (s.heap.update l _).get? a = _
          rw [Heap.get?_update_ne _ _ _ _ ha]; exact ho
        · show (s.heap.update l _).get? l = _
          rw [Heap.get?_update_self (h := s.heap) _ hl rfl]
          show some (Obj.mapSeq (fun y => y.push (Value.str ⟨x.cps.extract st p⟩ s.toks)) _) = _
          rw [hk1]
          simp
      · rw [if_neg hlt]
        exact hgo s vs c ys rfl (fun _ _ _ e => e) hl hys (by rw [if_neg hlt, List.append_nil])
    · obtain ⟨m', e1, e2⟩ := next_miss (must := must) h4
      refine wpAny_bind (show wpAny _ _ (reNextFound (tgt x u) st must) _ _ s from wpAny_reRun (k := 10) (by decide) e1 (.inr e2) ?_)
      rw [e2]
      dsimp only
      rw [if_neg (by decide)]
      dsimp only
      simp only [Int.toNat_natCast]
      have hgo : ∀ (s' : Shared) (vs' : List Value) (c' : Nat) (ys' : List Str), s' = { s with heap := s'.heap, toks := s'.toks } → (∀ a o, a ≠ l → s.heap.get? a = some o → s'.heap.get? a = some o) → s'.heap.get? l = some { cls := .type "list", data := .seq vs'.toArray c' } → StrsAre vs' ys' →
          ys' = ys ++ (if st < x.cps.size then [⟨x.cps.extract st x.cps.size⟩] else []) →
          wpAny (model prog w) (A.under (Code.builtin "re.Pattern.sub.loop" ⟨[Value.ref 83, Value.str x u, Value.str crlf t, Value.int 0 0, Value.int 0 0, Value.int k 0, Value.int (↑st) 0, Value.int (↑st) 0, Value.bool must, Value.ref l, Value.bool false], []⟩))
            (do
              let joiner ← reSlice (tgt x u).text (tgt x u).kind 0 0
              let __do_lift ← seqItems? (Value.ref l)
              if (__do_lift.getD #[]).isEmpty = true then do
                  let text ← pure joiner
                  if false = true then do
                      let __do_lift ←
                        holding [text] do
                            let __do_lift ← mkInt k
                            newTuple [text, __do_lift]
                      ret __do_lift
                    else ret text
                else do
                  let text ←
                    call (Value.builtin (if ((tgt x u).kind == 0) = true then "str.join" else "bytes.join"))
                        [joiner, Value.ref l]
                  if false = true then do
                      let __do_lift ←
                        holding [text] do
                            let __do_lift ← mkInt k
                            newTuple [text, __do_lift]
                      ret __do_lift
                    else ret text)
            (fun fin s' => match fin with | .done f => R (.ok f) s' | .again c' => c'.quiet = true ∧ codeAny (model prog w) A c' R s') (fun e s' => R (.error e) s') s' := by
        intro s' vs' c' ys' hs' hk' hl' hys' e'
        have hvl' : vs'.length = ys'.length := hys'.length
        have hyl : ys'.length ≤ ys.length + 1 := by rw [e']; split <;> simp
        have hysum : (ys'.map (·.length)).sum ≤ (ys.map (·.length)).sum + (x.cps.size - st) := by
          rw [e']
          split
          · rw [List.map_append, List.sum_append]
            have : (⟨x.cps.extract st x.cps.size⟩ : Str).length ≤ x.cps.size - st := by show (x.cps.extract st x.cps.size).size ≤ _; rw [Array.size_extract]; omega
            simp only [List.map_cons, List.map_nil, List.sum_cons, List.sum_nil]
            omega
          · simp
        have g1 : s'.gens = s.gens := by rw [hs']
        have g2 : s'.drawn = s.drawn := by rw [hs']
        have g3 : s'.os = s.os := by rw [hs']
        have ee : (ys'.flatMap fun y => y.cps.toList) = (ys.flatMap fun y => y.cps.toList) ++ fixL (x.cps.toList.drop st) := by
          rw [e', fixL_miss h4, List.flatMap_append]
          by_cases hlt : st < x.cps.size
          · rw [if_pos hlt]
            have : (x.cps.extract st x.cps.size).toList = x.cps.toList.drop st := by
              rw [Array.toList_extract, List.extract_eq_take_drop]
              exact List.take_of_length_le (by simp)
            simp only [List.flatMap_cons, List.flatMap_nil, List.append_nil, this]
          · rw [if_neg hlt, List.drop_eq_nil_of_le (by simp; omega)]; simp
        refine wpAny_bind (reSlice_str ?_ (by rw [sizeLine_eq]; show x.cps.size ≤ _; omega))
        refine wpAny_bind (wpAny_seqItems (s := ⟨s'.heap, s'.gens, s'.drawn, s'.toks + 1, s'.os⟩) hl' rfl ?_)
        dsimp only [Option.getD_some]
        have hej : (tgt x u).text.extract 0 0 = #[] := by simp
        have fin : ∀ (tk : Nat) (t' : Tok), R (.ok (.ret (.str ⟨(ys'.flatMap fun y => y.cps.toList).toArray⟩ t'))) ⟨s'.heap, s'.gens, s'.drawn, tk, s'.os⟩ := by
          intro tk t'
          rw [g1, g2, g3, ee]
          exact hR s'.heap tk t' hk'
        cases vs' with
        | nil =>
          cases ys' with
          | cons _ _ => simp at hvl'
          | nil =>
          rw [if_pos (by rfl)]
          refine wpAny_bind (wpAny_pure ?_)
          rw [if_neg (by decide), hej]
          exact wpAny_pure (fin _ _)
        | cons v vs' =>
          rw [if_neg (by simp)]
          refine wpAny_bind ?_
          rw [hej]
          show wpAny _ _ (call (Value.builtin "str.join") [Value.str ⟨#[]⟩ _, Value.ref l]) _ _ _
          refine join_listW ⟨_, hl', rfl, _, rfl⟩ hys' (by decide) (by omega) fun t' k => ?_
          rw [if_neg (by decide)]
          refine wpAny_pure ?_
          have := fin k t'
          rw [← join_flat] at this
          exact this
      show wpAny _ _ (if st < x.cps.size then _ else _) _ _ _
      by_cases hlt : st < x.cps.size
      · rw [if_pos hlt]
        refine wpAny_bind (reSlice_str ?_ (by rw [sizeLine_eq]; show x.cps.size ≤ _; omega))
        refine wpAny_bind (wpAny_updateSeq (s := ⟨s.heap, s.gens, s.drawn, s.toks + 1, s.os⟩) hl rfl ?_ (by rw [sizeLine_eq]; simp; omega) (by rw [sizeLine_eq]; simp; omega))
        obtain ⟨k1, hk1⟩ := mapSeq_list (f := fun y => y.push (Value.str ⟨x.cps.extract st x.cps.size⟩ s.toks)) (xs := vs.toArray) (n := c)
        refine hgo _ (vs ++ [.str ⟨x.cps.extract st x.cps.size⟩ s.toks]) k1 _ rfl ?_ ?_ (strsAre_snoc hys _ _) (by rw [if_pos hlt])
        · intro a o ha ho
          show (s.heap.update l _).get? a = _
          rw [Heap.get?_update_ne _ _ _ _ ha]; exact ho
        · show (s.heap.update l _).get? l = _
          rw [Heap.get?_update_self (h := s.heap) _ hl rfl]
          show some (Obj.mapSeq (fun y => y.push (Value.str ⟨x.cps.extract st x.cps.size⟩ s.toks)) _) = _
          rw [hk1]
          simp
      · rw [if_neg hlt]
        exact hgo s vs c ys rfl (fun _ _ _ e => e) hl hys (by rw [if_neg hlt, List.append_nil])
end Mine

set_option maxHeartbeats 400000
namespace Mine
open PySem.Builtin.Re
theorem meets_sub {prog : Program} {w : World} {x : Str} {t u : Tok} (hx : x.cps.size ≤ 4096) : MeetsIn prog w (Builtin.«re.Pattern.sub» ⟨[.ref 83, .str crlf t, .str x u], []⟩) (fun _ R s => s.heap.get? 83 = some patE ∧ s.heap.get? 82 = some wordsE ∧
    ∀ h' tk t', Ext s.heap h' → R (.ok (.ret (.str ⟨(fixL x.cps.toList).toArray⟩ t'))) { s with heap := h', toks := tk }) := by
  rintro A R s ⟨h83, h82, hR⟩
  unfold Builtin.«re.Pattern.sub» reSubstitute
  have e : reNamed "re.Pattern.sub" "sub" ["repl", "string", "count"] 2 [.str crlf t, .str x u] [] = pure [some (.str crlf t), some (.str x u), none] := by rfl
  dsimp only
  rw [e]
  refine wpAny_bind (wpAny_pure ?_)
  dsimp only
  refine wpAny_bind (wpAny_pure (wpAny_bind (wpAny_specialOf_val (T := "str") rfl (r := none) (by rw [typeLookup_type, builtinLookup_eq_fast]; kernel_rfl) ?_)))
  rw [if_neg (by decide)]
  refine wpAny_bind (wpAny_pure ?_)
  dsimp only
  rw [show (!crlf.cps.contains 92) = true from by decide +kernel]
  refine wpAny_bind (wpAny_pure ?_)
  rw [if_neg (by decide), if_pos rfl]
  refine wpAny_bind (wpAny_pure ?_)
  dsimp only
  refine wpAny_bind (wpAny_holding (wpAny_whole h83 h82 ?_))
  rw [if_neg (by decide)]
  refine wpAny_bind (wpAny_newObj_type ?_ (by show (([] : List Value).toArray).size ≤ sizeLine; rw [sizeLine_eq]; simp))
  refine wpAny_pure ⟨plainId_quiet (by decide +kernel) _, ?_⟩
  have hf : s.heap.get? s.heap.objs.size = none := by
    cases e : s.heap.get? s.heap.objs.size with
    | none => rfl
    | some o => exact absurd (Heap.lt_size e) (Nat.lt_irrefl _)
  have hk : ∀ a o, s.heap.get? a = some o → (s.heap.push { cls := .type "list", data := .seq #[] }).get? a = some o := fun a o e => Heap.get?_push_of_some _ e
  refine subLoop hx (x.cps.size + 1) 0 false 0 _ [] 0 [] (by omega) (Nat.zero_le _) (hk _ _ h83) (hk _ _ h82) (Heap.get?_push_size _ rfl) .nil (by simp) (by simp) fun h' tk t' hk' => ?_
  have := hR h' tk t' fun a o e => hk' a o (by rintro rfl; rw [hf] at e; cases e) (hk a o e)
  simpa using this
end Mine

set_option maxHeartbeats 4000000
namespace Mine
local macro_rules | `(tactic| walk_at "storeName") => `(tactic| (k_dflt (refine stZ (by assumption) (fun _ _ Z' => ?_)); have F' := Z'.fr; have N' := Z'.nw; try dsimp only))
local macro_rules | `(tactic| walk_at "newTuple") => `(tactic| (k_dflt (refine newTupleZ (by assumption) (fun _ _ Z' => ?_)); have F' := Z'.fr; have N' := Z'.nw; try dsimp only))
local macro_rules | `(tactic| walk_at "newList") => `(tactic| (k_dflt (refine newListZ (by assumption) (fun _ _ Z' => ?_)); have F' := Z'.fr; have N' := Z'.nw; try dsimp only))

local macro_rules | `(tactic| walk_at "subscriptTail Name Slice str ref") => `(tactic| (k_dflt (first | refine' sliceZ_sn ?zz ?_ | refine' sliceZ_ns ?zz ?_ | refine' sliceZ_ss ?zz ?_ | refine' sliceZ_nn ?zz ?_); (case zz => assumption); intro _ _ _ Z'; have F' := Z'.fr; have N' := Z'.nw; try dsimp only))

theorem fix_eols_spec : ∀ {w : World} {lo : List Str} {A : Around} {R : Result → Shared → Prop} {s : Shared} {mg mb : Str → Option Value} {x : Str} {u : Tok},
  (hd.heap_39 w.params).In s.heap → TopRead hd.view_39 lo mg mb s.heap → A.depth < 890 → A.handled = none → x.cps.size ≤ 4096 →
    (∀ h' tk t, Ext s.heap h' → R (.ok (.ret (.str ⟨(fixL x.cps.toList).toArray⟩ t))) { s with heap := h', toks := tk }) →
    codeAny (model (PySem.Challenge.rw_xo0016_01).row.prog w) A (.call (.ref 122) ⟨[.str x u], []⟩) R s := by
  k_fill
  intro w lo A R s mg mb x u X T hdp hh hx hR
  refine' enterZ X T ?k1 ?k2 ?k3 ?k4 ?k5 ?_ ?c1 ?c2 ?c3 ?c4
  case k1 => k_is
  case k2 => k_is
  case k3 => show A.depth < 1000; omega
  case k4 => exact BindsTo.of_eq (binds := [("data", .str x u)]) rfl
  case k5 => exact locs rfl
  case c1 => decide
  case c2 => rfl
  case c3 => rfl
  case c4 => rfl
  intro L h₁ tk Z
  have F := Z.fr
  have N := Z.nw
  have h83 : h₁.get? 83 = some patE := X.keeps Z.keep _ _ rfl
  have h82 : h₁.get? 82 = some wordsE := X.keeps Z.keep _ _ rfl
  refine wpAny_execs_cons (wpAny_Return_some ?_)
  repeat (walk1; try dsimp only)
  refine getMethod_builtin (T := "re.Pattern") ⟨_, h83, rfl⟩ plainAttrs_pat slot_pat_sub type_pat_sub (fun a e => by cases e; exact ⟨_, h83, rfl⟩) ?_
  dsimp only
  repeat (walk1; try dsimp only)
  refine call_meetsIn (self := .ref 83) slot_pat_sub ⟨_, h83, rfl⟩ entry_pat_sub (args_pat_sub_3 _ _ _) (meets_sub hx) ⟨h83, h82, fun h' tk t x => ?_⟩
  exact hR _ _ _ fun a o e => x a o (Z.keep a o e)
end Mine

set_option maxHeartbeats 400000
namespace Mine
abbrev S (l : List Nat) : Str := ⟨l.toArray⟩
theorem S_len (l : List Nat) : (S l).length = l.length := by show l.toArray.size = _; simp
theorem S_app (a b : List Nat) : S a ++ S b = S (a ++ b) := by show Str.append _ _ = _; simp [Str.append]
theorem sl_from (l : List Nat) {i : Int} {k : Nat} (e : i = k) (hi : k ≤ l.length) : Txt.slice (S l) (some i) none = S (l.drop k) := by
  subst e
  rw [slice_from_eq (b := (l.length : Int)) (by omega) (by rw [S_len]; omega) (by rw [S_len])]
  simp only [Int.toNat_natCast]
  rw [List.take_of_length_le (by simp)]
theorem sl_mid (l : List Nat) {i j : Int} {a b : Nat} (ea : i = a) (eb : j = b) (h1 : a ≤ b) (h2 : b ≤ l.length) : Txt.slice (S l) (some i) (some j) = S ((l.drop a).take (b - a)) := by
  subst ea eb
  have := slice_closesL (x := S l) (i := a) (j := b) (by omega) (by omega) (by rw [S_len]; omega)
  rw [beq_iff_eq] at this
  rw [this]
  have e : ((b : Int) - a).toNat = b - a := by omega
  simp only [Int.toNat_natCast, e]
theorem sl_to (l : List Nat) {j : Int} {b : Nat} (eb : j = b) (h2 : b ≤ l.length) : Txt.slice (S l) none (some j) = S (l.take b) := by
  subst eb
  have := slice_closes_toL (x := S l) (j := b) (by omega) (by rw [S_len]; omega)
  rw [beq_iff_eq] at this
  rw [this]
  simp
theorem ch_at (l : List Nat) {i : Int} {k : Nat} (e : i = k) (hi : k < l.length) : (seqIndex? i (S l).length).bind ((S l).cps[·]?) = some l[k] := by
  subst e
  rw [S_len]
  have hx : seqIndex? (k : Int) l.length = some k := by
    unfold seqIndex?
    have h1 : ¬ ((k : Int) < 0) := by omega
    have h2 : (k : Int) < (l.length : Int) := by omega
    simp [h1, h2]
  rw [hx]
  simp [hi]
theorem item_S (l : List Nat) {i : Int} {k : Nat} (e : i = k) (hi : k < l.length) : Txt.item (S l) i = S [l[k]] := by
  unfold Txt.item Txt.charAt
  rw [ch_at l e hi]
  rfl
theorem S_ne {c : Nat} {r : List Nat} : (S (c :: r) == Str.ofString "") = false := by
  rw [beq_eq_false_iff_ne]
  intro e
  have := congrArg (fun x => x.cps.size) e
  have h0 : (Str.ofString "").cps.size = 0 := by decide +kernel
  simp only [h0] at this
  simp at this
theorem S_nil : (S [] == Str.ofString "") = true := by decide +kernel
/-- the pairs a wires dict holds, as weights: nought where it holds none -/
structure WiresAre (kvs : List (Str × Value)) (wt : Nat → Nat → Int) : Prop where
  small : ∀ c d, (wt c d).natAbs ≤ 1000000
  at' : ∀ c d, (valueAt kvs (S [c, d]) = none ∧ wt c d = 0) ∨ ∃ t, valueAt kvs (S [c, d]) = some (.int (wt c d) t)
def tieN (wo : Nat → Int) (wt : Nat → Nat → Int) : Nat → List Nat → Int
  | 0, _ => 1
  | _ + 1, [] => 1
  | n + 1, c :: r => wo c * tieN wo wt n r - ((List.range r.length).map fun i => wt c (r.getD i 0) * tieN wo wt n (r.take i ++ r.drop (i + 1))).sum
end Mine

set_option maxHeartbeats 4000000
namespace Mine
local macro_rules | `(tactic| walk_at "storeName") => `(tactic| (k_dflt (refine stZ (by assumption) (fun _ _ Z' => ?_)); have F' := Z'.fr; have N' := Z'.nw; try dsimp only))
local macro_rules | `(tactic| walk_at "newTuple") => `(tactic| (k_dflt (refine newTupleZ (by assumption) (fun _ _ Z' => ?_)); have F' := Z'.fr; have N' := Z'.nw; try dsimp only))
local macro_rules | `(tactic| walk_at "newList") => `(tactic| (k_dflt (refine newListZ (by assumption) (fun _ _ Z' => ?_)); have F' := Z'.fr; have N' := Z'.nw; try dsimp only))

local macro_rules | `(tactic| walk_at "subscriptTail Name Slice str ref") => `(tactic| (k_dflt (first | refine' sliceZ_sn ?zz ?_ | refine' sliceZ_ns ?zz ?_ | refine' sliceZ_ss ?zz ?_ | refine' sliceZ_nn ?zz ?_); (case zz => assumption); intro _ _ _ Z'; have F' := Z'.fr; have N' := Z'.nw; try dsimp only))

theorem bits64 {a : Int} (h : a.natAbs ≤ 1000000) : Builtin.Int.intBits a ≤ 64 := by
  exact intBits_le_iff.mpr (by omega)
theorem range_small : ∀ k, k ≤ 8 → Builtin.Range.small 1 ((k + 1 : Nat) : Int) 1 = true ∧ Builtin.Range.rangeSize 1 ((k + 1 : Nat) : Int) 1 = (k : Int) := by decide +kernel
theorem ties_nil : ∀ {w : World} {lo : List Str} {A : Around} {R : Result → Shared → Prop} {s : Shared} {mg mb : Str → Option Value} {d e : Addr} {u : Tok},
  (hd.heap_39 w.params).In s.heap → TopRead hd.view_39 lo mg mb s.heap → A.depth < 900 → A.handled = none →
    (∀ h' tk t, Ext s.heap h' → R (.ok (.ret (.int 1 t))) { s with heap := h', toks := tk }) →
    codeAny (model (PySem.Challenge.rw_xo0016_01).row.prog w) A (.call (.ref 148) ⟨[.str (S []) u, .ref d, .ref e], []⟩) R s := by
  k_fill
  intro w lo A R s mg mb d e u X T hdp hh hR
  refine' enterZ X T ?k1 ?k2 ?k3 ?k4 ?k5 ?_ ?c1 ?c2 ?c3 ?c4
  case k1 => k_is
  case k2 => k_is
  case k3 => show A.depth < 1000; omega
  case k4 => exact BindsTo.of_eq (binds := [("servers", .str (S []) u), ("worth", .ref d), ("wires", .ref e)]) rfl
  case k5 => exact locs rfl
  case c1 => decide
  case c2 => rfl
  case c3 => rfl
  case c4 => rfl
  intro L h₁ tk Z
  have F := Z.fr
  have N := Z.nw
  refine wpAny_execs_cons (wpAny_If ?_)
  iterate 4 (walk1; try dsimp only)
  rw [S_nil]
  walk1
  simp only [if_true]
  repeat (walk1; try dsimp only)
  exact hR _ _ _ Z.keep
theorem ties_spec {w : World} {lo : List Str} {mg mb : Str → Option Value} {d e : Addr} {kvs lvs : List (Str × Value)} {wo : Nat → Int} {wt : Nat → Nat → Int} (hW : WiresAre lvs wt) : ∀ (n : Nat) {A : Around} {R : Result → Shared → Prop} {s : Shared} {l : List Nat} {u : Tok},
  l.length ≤ n → n ≤ 8 → (hd.heap_39 w.params).In s.heap → TopRead hd.view_39 lo mg mb s.heap → A.depth < 800 + 10 * (9 - n) → A.handled = none → (d == sysModules) = false → (e == sysModules) = false →
    s.heap.DictOf (strKind (PySem.Challenge.rw_xo0016_01).row.prog w) d kvs → s.heap.DictOf (strKind (PySem.Challenge.rw_xo0016_01).row.prog w) e lvs →
    (∀ c ∈ l, (wo c).natAbs ≤ 1000000 ∧ ∃ t, valueAt kvs (S [c]) = some (.int (wo c) t)) →
    (∀ h' tk t, Ext s.heap h' → R (.ok (.ret (.int (tieN wo wt n l) t))) { s with heap := h', toks := tk }) →
    codeAny (model (PySem.Challenge.rw_xo0016_01).row.prog w) A (.call (.ref 148) ⟨[.str (S l) u, .ref d, .ref e], []⟩) R s := by
  k_fill
  intro n
  induction n with
  | zero =>
    intro A R s l u hl hn8 X T hdp hh hds hes hD hE hwo hR
    have : l = [] := by cases l with | nil => rfl | cons _ _ => simp at hl
    subst this
    refine ties_nil X T (by omega) hh fun h' tk t x => ?_
    exact hR _ _ _ x
  | succ n ih =>
  intro A R s l u hl hn8 X T hdp hh hds hes hD hE hwo hR
  cases l with
  | nil =>
    refine ties_nil X T (by omega) hh fun h' tk t x => ?_
    exact hR _ _ _ x
  | cons c r =>
  refine' enterZ X T ?k1 ?k2 ?k3 ?k4 ?k5 ?_ ?c1 ?c2 ?c3 ?c4
  case k1 => k_is
  case k2 => k_is
  case k3 => show A.depth < 1000; omega
  case k4 => exact BindsTo.of_eq (binds := [("servers", .str (S (c :: r)) u), ("worth", .ref d), ("wires", .ref e)]) rfl
  case k5 => exact locs rfl
  case c1 => decide
  case c2 => rfl
  case c3 => rfl
  case c4 => rfl
  have hlr : r.length ≤ n := by simpa using hl
  have hsz : (S (c :: r)).length ≤ sizeLine := by rw [S_len, sizeLine_eq]; simp; omega
  intro L h₁ tk Z
  have F := Z.fr
  have N := Z.nw
  refine wpAny_execs_cons (wpAny_If ?_)
  iterate 4 (walk1; try dsimp only)
  rw [S_ne]
  walk1
  simp only [Bool.false_eq_true, if_false]
  refine wpAny_execs_nil ?_
  dsimp only
  refine wpAny_execs_cons ?_
  repeat (walk1; try dsimp only)
  rw [show Txt.item (S (c :: r)) 0 = S [c] from item_S (c :: r) (k := 0) rfl (Nat.zero_lt_succ _)]
  obtain ⟨hwb, tc, htc⟩ := hwo c (List.mem_cons_self ..)
  have hD1 := hD.at fun o x => Z.keep _ o x
  refine tail_any hD1.typeIs PySem.F.slot_dict_getitem.lookup (wpAny_getItem_of (strKind_is _ _ _ _) hD1.mapOf htc ?_) rfl
  repeat (walk1; try dsimp only)
  rename Lz _ _ _ _ _ => Z
  rw [show Txt.slice (S (c :: r)) (some 1) none = S r from sl_from (c :: r) (k := 1) rfl (by simp)]
  refine wpAny_call (ih hlr (by omega) (X.keeps Z.keep) (T.keeps Z.keep) (by show A.depth + 1 < _; omega) hh hds hes (hD.at fun o x => Z.keep _ o x) (hE.at fun o x => Z.keep _ o x) (fun c' hc' => hwo c' (List.mem_cons_of_mem _ hc')) fun h' tk' t x => ?_)
  have Z := Z.ext x
  have F := Z.fr
  have N := Z.nw
  dsimp only
  refine mul_int (hm := IntMulOk.of_left (bits64 hwb)) ?_
  dsimp only
  walk1
  rename Lz _ _ _ _ _ => Z
  refine wpAny_execs_cons (ForZ (h₀ := s.heap) ?_)
  repeat (walk1; try dsimp only)
  refine len_str (by rw [S_len]; simp; omega) ?_
  dsimp only
  repeat (walk1; try dsimp only)
  rename_i hr _ _ hk
  have Z := Z.ext hk
  obtain ⟨hsm, hrs⟩ := range_small r.length (by omega)
  rw [S_len, List.length_cons] at hr
  refine srcRange hh hr hsm hrs Z
    (fun i m _ => ∃ m₀ t, m = ov [("total", .int (wo c * tieN wo wt n r - ((List.range i).map fun i => wt c (r.getD i 0) * tieN wo wt n (r.take i ++ r.drop (i + 1))).sum) t), ("servers", .str (S (c :: r)) u), ("worth", .ref d), ("wires", .ref e)] m₀) ⟨_, tk', ov_at ⟨by simp [ov, List.lookup], rfl, rfl, rfl, trivial⟩⟩ ?_ ?_
  · rintro i tki m₁ news₁ own h₃ tk₃ hi ⟨m₀, tt, rfl⟩ Z
    refine wpAny_assign_Name (stZ Z fun h₅ t₅ Z => ?_)
    have F := Z.fr
    have N := Z.nw
    dsimp only
    refine wpAny_execs_cons ?_
    repeat (walk1; try dsimp only)
    rw [show Txt.item (S (c :: r)) 0 = S [c] from item_S (c :: r) (k := 0) rfl (Nat.zero_lt_succ _)]
    refine tail_any (typeIs_str _ _ _) slot_str_getitem.lookup (PyProof.Rows.getItem_str (c := r.getD i 0) (by simp; omega) (by rw [ch_at (c :: r) (k := i + 1) (by omega) (by simp; omega)]; simp [hi]) ?_) rfl
    dsimp only
    rw [show (⟨#[r.getD i 0]⟩ : Str) = S [r.getD i 0] from rfl]
    refine add_str (fun ta tka => ?_) (by rw [S_len, S_len, sizeLine_eq]; simp)
    rw [S_app]
    repeat (walk1; try dsimp only)
    rename Lz _ _ _ _ _ => Z
    have hE1 := hE.at fun o x => Z.keep _ o x
    refine wpAny_in_of (strKind_is _ _ _ _) hes hE1.mapOf (wpAny_truthy_bool ?_)
    rcases hW.at' c (r.getD i 0) with ⟨hn, hz⟩ | ⟨tw, hw⟩
    · rw [show valueAt lvs (S ([c] ++ [r.getD i 0])) = none from hn]
      simp only [Option.isSome_none, Bool.false_eq_true, if_false]
      refine wpAny_execs_nil (wpAny_execs_nil ?_)
      have hsum : ((List.range (i + 1)).map fun i => wt c (r.getD i 0) * tieN wo wt n (r.take i ++ r.drop (i + 1))).sum = ((List.range i).map fun i => wt c (r.getD i 0) * tieN wo wt n (r.take i ++ r.drop (i + 1))).sum := by
        rw [List.range_succ, List.map_append, List.sum_append]
        simp only [List.map_cons, List.map_nil, List.sum_cons, List.sum_nil, hz]
        omega
      refine ⟨_, _, _, news₁, rfl, Z, fun p hp => (nomatch hp), ?_⟩
      rw [hsum]
      exact ⟨_, tt, ov_at ⟨rfl, rfl, rfl, rfl, trivial⟩⟩
    · rw [show valueAt lvs (S ([c] ++ [r.getD i 0])) = some _ from hw]
      simp only [Option.isSome_some, if_true]
      repeat (walk1; try dsimp only)
      refine tail_any hE1.typeIs PySem.F.slot_dict_getitem.lookup (wpAny_getItem_of (strKind_is _ _ _ _) hE1.mapOf hw ?_) rfl
      dsimp only
      repeat (walk1; try dsimp only)
      rename Lz _ _ _ _ _ => Z
      rw [show Txt.slice (S (c :: r)) (some 1) (some (1 + (i : Int))) = S (r.take i) from sl_mid (c :: r) (a := 1) (b := i + 1) rfl (by omega) (by omega) (by simp; omega),
        show Txt.slice (S (c :: r)) (some (1 + (i : Int) + 1)) none = S (r.drop (i + 1)) from sl_from (c :: r) (k := i + 2) (by omega) (by simp; omega)]
      refine add_str (fun ta tka => ?_) (by rw [S_len, S_len, sizeLine_eq]; simp; omega)
      rw [S_app]
      dsimp only
      repeat (walk1; try dsimp only)
      rename Lz _ _ _ _ _ => Z
      refine wpAny_call (ih (l := r.take i ++ r.drop (i + 1)) (by simp; omega) (by omega) (X.keeps Z.keep) (T.keeps Z.keep) (by show A.depth + 1 < _; omega) hh hds hes (hD.at fun o x => Z.keep _ o x) (hE.at fun o x => Z.keep _ o x) (fun c' hc' => hwo c' (List.mem_cons_of_mem _ ?_)) fun h' tk' t x => ?_)
      · rcases List.mem_append.mp hc' with q | q
        · exact List.mem_of_mem_take q
        · exact List.mem_of_mem_drop q
      have Z := Z.ext x
      have F := Z.fr
      have N := Z.nw
      dsimp only
      refine mul_int (hm := IntMulOk.of_left (bits64 (hW.small _ _))) ?_
      dsimp only
      repeat (walk1; try dsimp only)
      rename Lz _ _ _ _ _ => Z
      have hsum : ((List.range (i + 1)).map fun i => wt c (r.getD i 0) * tieN wo wt n (r.take i ++ r.drop (i + 1))).sum = ((List.range i).map fun i => wt c (r.getD i 0) * tieN wo wt n (r.take i ++ r.drop (i + 1))).sum + wt c (r.getD i 0) * tieN wo wt n (r.take i ++ r.drop (i + 1)) := by
        rw [List.range_succ, List.map_append, List.sum_append]
        simp only [List.map_cons, List.map_nil, List.sum_cons, List.sum_nil, Int.add_zero]
      refine ⟨_, _, _, news₁, rfl, Z, fun p hp => (nomatch hp), ?_⟩
      rw [hsum, ← Int.sub_sub]
      exact ⟨_, _, ov_at ⟨rfl, rfl, rfl, rfl, trivial⟩⟩
  · rintro h₃ tk₃ m' news' Z ⟨m₀, tt, rfl⟩
    refine wpAny_execs_cons (wpAny_Return_some (ldZ Z rfl ?_))
    exact hR _ _ _ Z.keep
end Mine

set_option maxHeartbeats 400000
namespace Mine
theorem valueAt_cons {K : Type} [DecidableEq K] (p : K × Value) (r : List (K × Value)) (x : K) : valueAt (p :: r) x = if p.1 = x then some p.2 else valueAt r x := by
  unfold valueAt
  rw [List.find?_cons]
  by_cases h : p.1 = x
  · simp [h]
  · simp [h]
theorem valueAt_app {K : Type} [DecidableEq K] (k : K) (v : Value) (x : K) : ∀ kvs : List (K × Value), kvs.any (fun kv => decide (kv.1 = k)) = false → valueAt (kvs ++ [(k, v)]) x = if x = k then some v else valueAt kvs x
  | [], _ => by
    rw [List.nil_append, valueAt_cons]
    by_cases h : k = x
    · simp [h]
    · rw [if_neg h, if_neg (fun q => h q.symm)]
  | p :: r, h => by
    rw [List.any_cons, Bool.or_eq_false_iff] at h
    have hp : p.1 ≠ k := by simpa using h.1
    rw [List.cons_append, valueAt_cons, valueAt_cons, valueAt_app k v x r h.2]
    by_cases h1 : p.1 = x
    · rw [if_pos h1, if_pos h1, if_neg (fun q => hp (h1.trans q))]
    · rw [if_neg h1, if_neg h1]
theorem valueAt_map {K : Type} [DecidableEq K] (k : K) (v : Value) (x : K) : ∀ kvs : List (K × Value), kvs.any (fun kv => decide (kv.1 = k)) = true → valueAt (kvs.map fun kv => if kv.1 = k then (kv.1, v) else kv) x = if x = k then some v else valueAt kvs x
  | [], h => by simp at h
  | p :: r, h => by
    rw [List.map_cons, valueAt_cons, valueAt_cons]
    by_cases hp : p.1 = k
    · rw [if_pos hp]
      by_cases h1 : p.1 = x
      · rw [if_pos h1, if_pos (h1.symm.trans hp)]
      · rw [if_neg h1, if_neg h1, if_neg (fun q => h1 (hp.trans q.symm))]
        by_cases h2 : r.any (fun kv => decide (kv.1 = k)) = true
        · rw [valueAt_map k v x r h2, if_neg (fun q => h1 (hp.trans q.symm))]
        · have : (r.map fun kv => if kv.1 = k then (kv.1, v) else kv) = r := by
            conv => rhs; rw [← List.map_id r]
            refine List.map_congr_left fun kv hkv => ?_
            rw [if_neg (fun q => h2 (List.any_eq_true.mpr ⟨kv, hkv, by simpa using q⟩))]
            rfl
          rw [this]
    · rw [if_neg hp]
      have h2 : r.any (fun kv => decide (kv.1 = k)) = true := by
        rw [List.any_cons] at h
        simpa [hp] using h
      rw [valueAt_map k v x r h2]
      by_cases h1 : p.1 = x
      · rw [if_pos h1, if_pos h1, if_neg (fun q => hp (h1.trans q))]
      · rw [if_neg h1, if_neg h1]
theorem valueAt_stored {K : Type} [DecidableEq K] (kvs : List (K × Value)) (k : K) (v : Value) (x : K) : valueAt (stored kvs k v) x = if x = k then some v else valueAt kvs x := by
  unfold stored
  by_cases h : kvs.any (fun kv => decide (kv.1 = k)) = true
  · rw [if_pos h, valueAt_map k v x kvs h]
  · rw [if_neg h, valueAt_app k v x kvs (by cases e : kvs.any (fun kv => decide (kv.1 = k)) with | false => rfl | true => exact absurd e h)]
end Mine

set_option maxHeartbeats 4000000
namespace Mine
local macro_rules | `(tactic| walk_at "storeName") => `(tactic| (k_dflt (refine stZ (by assumption) (fun _ _ Z' => ?_)); have F' := Z'.fr; have N' := Z'.nw; try dsimp only))
local macro_rules | `(tactic| walk_at "newTuple") => `(tactic| (k_dflt (refine newTupleZ (by assumption) (fun _ _ Z' => ?_)); have F' := Z'.fr; have N' := Z'.nw; try dsimp only))
local macro_rules | `(tactic| walk_at "newList") => `(tactic| (k_dflt (refine newListZ (by assumption) (fun _ _ Z' => ?_)); have F' := Z'.fr; have N' := Z'.nw; try dsimp only))

local macro_rules | `(tactic| walk_at "subscriptTail Name Slice str ref") => `(tactic| (k_dflt (first | refine' sliceZ_sn ?zz ?_ | refine' sliceZ_ns ?zz ?_ | refine' sliceZ_ss ?zz ?_ | refine' sliceZ_nn ?zz ?_); (case zz => assumption); intro _ _ _ Z'; have F' := Z'.fr; have N' := Z'.nw; try dsimp only))

def Is : Option Value → Option Int → Prop
  | none, none => True
  | some v, some n => ∃ t, v = .int n t
  | _, _ => False
def put (f : Str → Option Int) (k : Str) (v : Int) : Str → Option Int := fun x => if x = k then some v else f x
def pairs : List Str := [Str.ofString "ab", Str.ofString "ac", Str.ofString "ad", Str.ofString "bc", Str.ofString "bd", Str.ofString "cd"]
def riap : Str → Str := fun p => Txt.item p 1 ++ Txt.item p 0
def wireOne (f : Str → Option Int) (q : Str × Int) : Str → Option Int := if q.2.fmod 3 ≠ 0 then put (put f q.1 q.2) (riap q.1) q.2 else f
def wiresF (ws : List Int) : Str → Option Int := (pairs.zip ws).foldl wireOne fun _ => none
theorem Is.put {o : Option Value} {f : Str → Option Int} {x : Str} (h : Is o (f x)) (k : Str) (n : Int) (t : Tok) : Is (if x = k then some (.int n t) else o) (put f k n x) := by
  unfold Mine.put
  by_cases e : x = k
  · rw [if_pos e, if_pos e]; exact ⟨t, rfl⟩
  · rw [if_neg e, if_neg e]; exact h
theorem wires_spec : ∀ {w : World} {lo : List Str} {A : Around} {R : Result → Shared → Prop} {s : Shared} {mg mb : Str → Option Value} {l : Addr} {lobj : Obj} {vs : List Value} {ws : List Int} {k : Nat},
  (hd.heap_39 w.params).In s.heap → TopRead hd.view_39 lo mg mb s.heap → A.depth < 900 → A.handled = none → s.heap.get? l = some lobj → lobj.cls = .type "list" → lobj.data = .seq vs.toArray k → IntsAre vs ws → ws.length = 6 →
    (∀ h' tk a o kvs, Ext s.heap h' → s.heap.get? a = none → h'.get? a = some o → (a == sysModules) = false → o.IsDictOf (strKind (PySem.Challenge.rw_xo0016_01).row.prog w) kvs → kvs.length ≤ 12 → (∀ x, Is (valueAt kvs x) (wiresF ws x)) → R (.ok (.ret (.ref a))) { s with heap := h', toks := tk }) →
    codeAny (model (PySem.Challenge.rw_xo0016_01).row.prog w) A (.call (.ref 134) ⟨[.ref l], []⟩) R s := by
  k_fill
  intro w lo A R s mg mb l lobj vs ws k X T hdp hh hl hcl hdt hI hlen hR
  refine' enterZ X T ?k1 ?k2 ?k3 ?k4 ?k5 ?_ ?c1 ?c2 ?c3 ?c4
  case k1 => k_is
  case k2 => k_is
  case k3 => show A.depth < 1000; omega
  case k4 => exact BindsTo.of_eq (binds := [("weights", .ref l)]) rfl
  case k5 => exact locs rfl
  case c1 => decide
  case c2 => rfl
  case c3 => rfl
  case c4 => rfl
  intro L h₁ tk Z
  have hbig : sysModules < s.heap.objs.size := modules_low T.nolimit
  refine wpAny_execs_cons (wpAny_Assign_Name (emptyDictZ (knd := strKind (PySem.Challenge.rw_xo0016_01).row.prog w) Z hbig fun a h₂ o Z has ho => stZ Z fun h₃ t₃ Z => ?_))
  dsimp only
  have F := Z.fr
  have N := Z.nw
  refine wpAny_execs_cons (ForZ (h₀ := s.heap) ?_)
  repeat (walk1; try dsimp only)
  rename Lz _ _ _ _ _ => Z
  refine srcZip hh Z (List.mem_cons_self ..) rfl rfl hl hcl hdt
    (fun q i m news => ∃ m₀ o' kvs, m = ov [("wires", .ref a)] m₀ ∧ news = [q, _, (a, o')] ∧ o'.IsDictOf (strKind (PySem.Challenge.rw_xo0016_01).row.prog w) kvs ∧ kvs.length ≤ 2 * i ∧ ∀ x, Is (valueAt kvs x) (((pairs.zip ws).take i).foldl wireOne (fun _ => none) x))
    (fun q => ⟨_, o, [], ov_at ⟨rfl, trivial⟩, rfl, ho, Nat.zero_le _, fun x => trivial⟩) ?_ ?_
  · rintro q i T' x y m₁ news₁ own h₄ tk₄ hx hy hT ⟨m₀, o', kvs, rfl, rfl, ho', hkl, hkv⟩ _ _ Z
    obtain ⟨p, tp, hp, hpl, rfl⟩ : ∃ p t, pairs[i]? = some p ∧ p.length = 2 ∧ x = .str p t := by
      rcases i with _ | _ | _ | _ | _ | _ | i <;> simp at hx
      all_goals exact ⟨_, _, rfl, by decide +kernel, hx.symm⟩
    have hi : i < ws.length := by
      have := (List.getElem?_eq_some_iff.mp hy).1
      rw [hI.length] at this
      exact this
    obtain ⟨u, hu⟩ := hI.get i ws[i] (by simp [hi])
    rw [hy] at hu
    cases hu
    refine asgTup hh Z hT (fun _ Z => asgCons Z fun _ _ Z => asgCons Z fun _ _ Z => asgNil ?_)
    dsimp only
    have F := Z.fr
    have N := Z.nw
    rename Lz _ _ _ _ _ => Z
    have htake : ((pairs.zip ws).take (i + 1)).foldl wireOne (fun _ => none) = wireOne (((pairs.zip ws).take i).foldl wireOne fun _ => none) (p, ws[i]) := by
      have hz : (pairs.zip ws)[i]? = some (p, ws[i]) := by rw [List.getElem?_zip_eq_some]; exact ⟨hp, by simp [hi]⟩
      rw [List.take_add_one, hz, Option.toList_some, List.foldl_append]
      rfl
    refine wpAny_execs_cons (wpAny_If ?_)
    iterate 7 (walk1; try dsimp only)
    by_cases hm : ws[i].fmod 3 = 0
    · rw [show (ws[i].fmod 3 != 0) = false from by simpa using hm]
      walk1
      simp only [Bool.false_eq_true, if_false]
      refine wpAny_execs_nil (wpAny_execs_nil ?_)
      refine ⟨_, _, _, [q, _, (a, o')], rfl, Z, fun p hp => ?_, _, o', kvs, ov_at ⟨rfl, trivial⟩, rfl, ho', by omega, fun x => ?_⟩
      · simp only [List.mem_cons, List.not_mem_nil, or_false] at hp ⊢
        rcases hp with rfl | rfl <;> simp
      · rw [htake]
        rw [show wireOne (((pairs.zip ws).take i).foldl wireOne fun _ => none) (p, ws[i]) = (((pairs.zip ws).take i).foldl wireOne fun _ => none) from if_neg (by simpa using hm)]
        exact hkv x
    · rw [show (ws[i].fmod 3 != 0) = true from by simpa using hm]
      walk1
      simp only [if_true]
      have e3 : ∀ (x y z : Addr × Obj), own ++ [x, y, z] = (own ++ [x, y]) ++ [z] := fun x y z => by simp
      rw [e3] at Z
      refine wpAny_execs_cons (wpAny_Assign_Subscript (ldZ Z rfl (ldZ Z rfl (ldZ Z rfl ?_))))
      refine setDictZ (post := []) Z ho' (strKind_is _ _ _ _) (fun h₉ o₉ t₉ Z ho₉ => ?_) (by rw [sizeLine_eq]; omega)
      refine wpAny_execs_cons (wpAny_Assign_Subscript (ldZ Z rfl (ldZ Z rfl ?_)))
      have F := Z.fr
      have N := Z.nw
      dsimp only
      repeat (walk1; try dsimp only)
      rename Lz _ _ _ _ _ => Z
      refine setDictZ (post := []) Z ho₉ (strKind_is _ _ _ _) (fun h₉ o₉ t₉ Z ho₉ => ?_) (by have := stored_length_le kvs p (.int ws[i] u); rw [sizeLine_eq]; omega)
      refine wpAny_execs_nil (wpAny_execs_nil ?_)
      rw [← e3] at Z
      refine ⟨_, _, _, [q, _, (a, o₉)], rfl, Z, fun p hp => ?_, _, o₉, _, ov_at ⟨rfl, trivial⟩, rfl, ho₉, ?_, fun x => ?_⟩
      · simp only [List.mem_cons, List.not_mem_nil, or_false] at hp ⊢
        rcases hp with rfl | rfl <;> simp
      · have h1 := stored_length_le kvs p (.int ws[i] u)
        have h2 := stored_length_le (stored kvs p (.int ws[i] u)) (Txt.item p 1 ++ Txt.item p 0) (.int ws[i] u)
        omega
      · rw [htake, valueAt_stored, valueAt_stored]
        rw [show wireOne (((pairs.zip ws).take i).foldl wireOne fun _ => none) (p, ws[i]) = put (put (((pairs.zip ws).take i).foldl wireOne fun _ => none) p ws[i]) (riap p) ws[i] from if_pos hm]
        exact (((hkv x).put _ _ _).put _ _ _)
  · rintro q h₃ tk₃ m' news' Z _ ⟨m₀, o', kvs, rfl, rfl, ho', hkl, hkv⟩
    refine wpAny_execs_cons (wpAny_Return_some (ldZ Z rfl ?_))
    have hvl : vs.length = 6 := by rw [hI.length, hlen]
    have e6 : (pairs.zip ws).take (min [Value.str (Str.ofString "ab") t₃, Value.none, Value.none, Value.none, Value.none, Value.none].length vs.length) = pairs.zip ws := by
      rw [List.take_of_length_le]
      rw [List.length_zip, hlen, hvl]
      exact Nat.le_refl _
    have hkv' : ∀ x, Is (valueAt kvs x) (wiresF ws x) := fun x => by
      have := hkv x
      rw [show wiresF ws = ((pairs.zip ws).take (min 6 vs.length)).foldl wireOne (fun _ => none) from by
        unfold wiresF
        exact congrArg (fun l => l.foldl wireOne fun _ => none) e6.symm]
      exact this
    refine hR h₃ _ a o' kvs Z.keep ?_ (Z.get (by simp)) has ho' ?_ hkv'
    · exact (Z.nw (a, o') (by simp)).2.2
    · rw [hvl] at hkl; exact hkl
end Mine

set_option maxHeartbeats 4000000
namespace Mine
local macro_rules | `(tactic| walk_at "storeName") => `(tactic| (k_dflt (refine stZ (by assumption) (fun _ _ Z' => ?_)); have F' := Z'.fr; have N' := Z'.nw; try dsimp only))
local macro_rules | `(tactic| walk_at "newTuple") => `(tactic| (k_dflt (refine newTupleZ (by assumption) (fun _ _ Z' => ?_)); have F' := Z'.fr; have N' := Z'.nw; try dsimp only))
local macro_rules | `(tactic| walk_at "newList") => `(tactic| (k_dflt (refine newListZ (by assumption) (fun _ _ Z' => ?_)); have F' := Z'.fr; have N' := Z'.nw; try dsimp only))

local macro_rules | `(tactic| walk_at "subscriptTail Name Slice str ref") => `(tactic| (k_dflt (first | refine' sliceZ_sn ?zz ?_ | refine' sliceZ_ns ?zz ?_ | refine' sliceZ_ss ?zz ?_ | refine' sliceZ_nn ?zz ?_); (case zz => assumption); intro _ _ _ Z'; have F' := Z'.fr; have N' := Z'.nw; try dsimp only))

theorem intsAre_set : ∀ {vs : List Value} {ns : List Int}, IntsAre vs ns → ∀ (k : Nat) (n : Int) (t : Tok), IntsAre (vs.set k (.int n t)) (ns.set k n)
  | _, _, .nil, _, _, _ => .nil
  | _, _, .cons _ _ h, 0, n, t => .cons n t h
  | _, _, .cons m u h, k + 1, n, t => .cons m u (intsAre_set h k n t)
theorem paired_bound : ∀ {l ys : List Value}, Paired (fun v y => ∃ n d t u, v = .int n t ∧ y = .int d u ∧ d.natAbs ≤ 1000000) l ys → ∃ ds, IntsAre ys ds ∧ ds.length = l.length ∧ ∀ d ∈ ds, d.natAbs ≤ 1000000
  | _, _, .nil => ⟨[], .nil, rfl, fun _ h => nomatch h⟩
  | _, _, .cons h r => by
    obtain ⟨n, d, t, u, rfl, rfl, hb⟩ := h
    obtain ⟨ds, h1, h2, h3⟩ := paired_bound r
    exact ⟨d :: ds, .cons d u h1, by simp [h2], fun x hx => (List.mem_cons.mp hx).elim (fun e => e ▸ hb) (h3 x)⟩
theorem drawn_spec : ∀ {w : World} {lo : List Str} {A : Around} {R : Result → Shared → Prop} {s : Shared} {mg mb : Str → Option Value} {l : Addr} {lobj : Obj} {vs : List Value} {ns : List Int} {k : Nat},
  (hd.heap_39 w.params).In s.heap → TopRead hd.view_39 lo mg mb s.heap → A.depth < 900 → A.handled = none → s.heap.get? l = some lobj → lobj.cls = .type "list" → lobj.data = .seq vs.toArray k → IntsAre vs ns → ns.length ≤ 1048576 →
    (∀ h' tk a o n vs' ds, Ext s.heap h' → s.heap.get? a = none → h'.get? a = some o → o.cls = .type "list" → o.data = .seq (List.toArray vs') n → IntsAre vs' ds → ds.length = 10 → (∀ d ∈ ds, d.natAbs ≤ 1000000) → R (.ok (.ret (.ref a))) { s with heap := h', toks := tk }) →
    codeAny (model (PySem.Challenge.rw_xo0016_01).row.prog w) A (.call (.ref 127) ⟨[.ref l], []⟩) R s := by
  k_fill
  intro w lo A R s mg mb l lobj vs ns k X T hdp hh hl hcl hdt hI hlen hR
  refine' enterZ X T ?k1 ?k2 ?k3 ?k4 ?k5 ?_ ?c1 ?c2 ?c3 ?c4
  case k1 => k_is
  case k2 => k_is
  case k3 => show A.depth < 1000; omega
  case k4 => exact BindsTo.of_eq (binds := [("script", .ref l)]) rfl
  case k5 => exact locs rfl
  case c1 => decide
  case c2 => rfl
  case c3 => rfl
  case c4 => rfl
  intro L h₁ tk Z
  have F := Z.fr
  have N := Z.nw
  refine wpAny_execs_cons ?_
  repeat (walk1; try dsimp only)
  rename_i D hA Z1 F1 N1 hB tB Z F2 N2
  refine ForZ (h₀ := s.heap) ?_
  repeat (walk1; try dsimp only)
  rename Lz _ _ _ _ _ => Z
  have hvl := hI.length
  refine' sliceZ_list (l := l) (items := vs.toArray) Z ?_ .none (.int 30 _) ?_ (hsz := by rw [sizeLine_eq]; simp; omega)
  · exact ⟨lobj, Z.keep _ _ hl, hcl, k, hdt⟩
  intro sl h₂ Z
  have hI30 := slice_ints_uptoW hI (y := 30) (by decide)
  obtain ⟨sv, hsv⟩ : ∃ sv : List Value, slicePick vs.toArray none (some 30) none = sv.toArray := ⟨_, (Array.toArray_toList).symm⟩
  rw [hsv] at Z hI30
  rw [show (30 : Int).toNat = 30 from rfl] at hI30
  have F := Z.fr
  have N := Z.nw
  repeat (walk1; try dsimp only)
  refine srcEnum hh Z (List.mem_cons_self ..) rfl rfl
    (fun i m news => ∃ m₀ o' vs' ds n', m = ov [("drawn", .ref D)] m₀ ∧ news = [(sl, _), (D, o')] ∧ o'.cls = .type "list" ∧ o'.data = .seq (List.toArray vs') n' ∧ IntsAre vs' ds ∧ ds.length = 10)
    ⟨_, _, _, [2, 5, -3, 4, 7, -2, 3, 4, 6, -5], _, ov_at ⟨rfl, trivial⟩, rfl, rfl, rfl, ?_, rfl⟩ ?_ ?_
  · repeat (first | exact IntsAre.nil | refine IntsAre.cons _ _ ?_)
  · rintro i T' tt v m₁ news₁ own h₄ tk₄ hv hT ⟨m₀, o', vs', ds, n', rfl, rfl, hc', hd', hI', hlen'⟩ _ Z
    have hi : i < (ns.take 30).length := by
      have := (List.getElem?_eq_some_iff.mp hv).1
      rw [← hI30.length]
      exact this
    obtain ⟨u, hu⟩ := hI30.get i (ns.take 30)[i] (List.getElem?_eq_getElem hi)
    rw [hv] at hu
    cases hu
    refine asgTup hh Z hT (fun _ Z => asgCons Z fun _ _ Z => asgCons Z fun _ _ Z => asgNil ?_)
    dsimp only
    have F := Z.fr
    have N := Z.nw
    refine wpAny_execs_cons ?_
    repeat (walk1; try dsimp only)
    rename Lz _ _ _ _ _ => Z
    have e3 : ∀ (x y : Addr × Obj), own ++ [x, y] = (own ++ [x]) ++ [y] := fun x y => by simp
    have hfm : (i : Int).fmod 10 = ((i % 10 : Nat) : Int) := by rw [Int.fmod_eq_emod_of_nonneg _ (by decide)]; rfl
    have hj : i % 10 < 10 := Nat.mod_lt _ (by decide)
    have hvl' : vs'.length = 10 := by rw [hI'.length, hlen']
    obtain ⟨ud, hud⟩ := hI'.get (i % 10) (ds[i % 10]'(by omega)) (List.getElem?_eq_getElem _)
    rw [hfm]
    refine wpAny_getItem_list (items := vs'.toArray) ⟨o', Z.get (by simp), hc', n', hd'⟩ (by omega) (by omega) (by rw [Int.toNat_natCast]; simpa using hud) ?_
    repeat (walk1; try dsimp only)
    rw [e3] at Z
    refine setListZ (post := []) Z hc' hd' (by omega) (by omega) (by simp; omega) fun h₅ o₅ n₅ Z hc₅ hd₅ => ?_
    refine wpAny_execs_nil ?_
    rw [← e3] at Z
    rw [Int.toNat_natCast, List.setIfInBounds_toArray] at hd₅
    refine ⟨_, _, _, _, rfl, Z, fun p hp => ?_, ?_⟩
    · rw [List.mem_singleton.mp hp]; exact List.mem_cons_self ..
    · exact ⟨_, o₅, _, _, n₅, ov_at ⟨rfl, trivial⟩, rfl, hc₅, hd₅, intsAre_set hI' _ _ _, (List.length_set ..).trans hlen'⟩
  · rintro h₃ tk₃ m' news' Z _ ⟨m₀, o', vs', ds, n', rfl, rfl, hc', hd', hI', hlen'⟩
    refine wpAny_execs_cons (wpAny_Return_some ?_)
    have hvl' : vs'.length = 10 := by rw [hI'.length, hlen']
    refine wpAny_ListComp_walk (fun _ => true) (fun v y => ∃ n d t u, v = .int n t ∧ y = .int d u ∧ d.natAbs ≤ 1000000) (by decide) (by decide) rfl (by decide) rfl ?_
    refine ldZ Z rfl ?_
    refine wpAny_pyIter_list (items := vs'.toArray) ⟨o', Z.get (.tail _ (.head _)), hc', n', hd'⟩ ?_
    have hDlt : D < h₃.objs.size := Z.lt (.tail _ (.head _))
    refine ⟨_, _, _, vs'.toArray.size, _, _, rfl, Walks.list (by exact hh) h₃.objs.size D (Nat.ne_of_lt hDlt) vs'.toArray, by rw [sizeLine_eq]; simp; omega, ⟨⟨_, Heap.get?_push_size _ rfl, rfl, rfl⟩, ⟨o', Heap.get?_push_of_some _ (Z.get (.tail _ (.head _))), hc', n', hd'⟩⟩, ?_, ⟨?_, ?_⟩, ?_⟩
    · intro b hb
      show b < (h₃.push _).objs.size
      rw [Heap.size_push]
      have hb' : b = h₃.objs.size ∨ b = D := by simpa using hb
      rcases hb' with rfl | rfl
      · exact Nat.lt_succ_self _
      · exact Nat.lt_succ_of_lt hDlt
    · intro C i v s₃ m₃ E' hP hn hm hk ht
      exact wpAny_pure ⟨rfl, _, _, rfl, fun _ _ e => e⟩
    · intro C i v s₃ m₃ E' hP hp hn hm hk ht
      have hi : i < ds.length := by
        have := (Array.getElem?_eq_some_iff.mp hP).1
        simp at this
        omega
      obtain ⟨u, hu⟩ := hI'.get i ds[i] (List.getElem?_eq_getElem hi)
      have hP' : vs'[i]? = some v := by simpa using hP
      rw [hP'] at hu
      cases hu
      walk1
      walk1
      walk1
      refine wpAny_Name (wpAny_loadName_local rfl rfl hn hm ?_) (by decide)
      repeat (walk1; try dsimp only)
      · have e : (10 : Int) ^ Int.toNat 6 = 1000000 := by decide
        rw [e, Int.fmod_eq_emod_of_nonneg _ (by decide)]
        omega
      · exact ⟨_, _, rfl, fun _ _ e => e⟩
    · intro a h' tk ys xs hD hl hpl hlen hvs hF hk
      obtain ⟨o, ho, hc, n, hd⟩ := hl
      obtain ⟨ds', h1, h2, h3⟩ := paired_bound hF
      have hk' : Ext h₃ h' := fun b o e => hk b o (fun q => by rw [List.mem_singleton.mp q] at e; exact absurd (Heap.lt_size e) (Nat.lt_irrefl _)) (Heap.get?_push_of_some _ e)
      refine hR h' tk a o n ys.toList ds' (fun b o e => hk' b o (Z.keep b o e)) ?_ ho hc (by rw [hd, Array.toArray_toList]) h1 ?_ h3
      · cases e : s.heap.get? a with
        | none => rfl
        | some q =>
          have := Heap.get?_push_of_some { cls := .type "list_iterator", data := .fields #[.ref D, .int 0 0] } (Z.keep _ _ e)
          exact absurd (hD.symm.trans this) (by simp)
      · rw [h2, List.filter_eq_self.mpr (fun _ _ => rfl), hlen]
        simp [hvl']
end Mine

set_option maxHeartbeats 4000000
namespace Mine
def recMap (d : Addr) : Str → Option Value := fun x => if x = Str.ofString "recipients" then some (.ref d) else none
theorem ns_one {h : Heap} {dx d : Addr} {hsh : Int} {tk : Tok} {n : Nat} {x : Str} {sl : Array (Option Value)} {c : Value} (e : h.get? dx = some ⟨c, none, .dict ⟨[⟨hsh, .str x tk, .ref d⟩]⟩ n, sl⟩) (hx : x = Str.ofString "recipients") : h.Ns dx (recMap d) := by
  subst hx
  refine ⟨_, _, _, e, rfl, ?_, fun name => ?_⟩
  · intro y hy
    have hy' : y = ⟨hsh, .str (Str.ofString "recipients") tk, .ref d⟩ := by simpa using hy
    subst hy'
    first | exact ⟨_, _, rfl⟩ | rfl
  · unfold nsFind findBy recMap
    rw [← Array.find?_toList, List.find?_cons]
    by_cases e : name = Str.ofString "recipients"
    · subst e; simp [Value.isStr]
    · have e' : (Str.ofString "recipients" == name) = false := beq_eq_false_iff_ne.mpr fun q => e q.symm
      simp [Value.isStr, e, e']
def ExcDone (s : Shared) (d : Addr) (Q : Value → Shared → Prop) : Prop :=
  ∀ h' tk e dx t, Ext s.heap h' → s.heap.get? e = none → s.heap.get? dx = none → s.heap.get? t = none → e ≠ dx → e ≠ t → dx ≠ t →
    h'.get? e = some ⟨.ref 113, some dx, .fields #[.ref t, .none, .none, .none, .bool false, .none, .int 0 0, .int 0 0, .int 0 0, .int 0 0, .int (-1) 0], #[]⟩ → h'.Ns dx (recMap d) → (∃ ot, h'.get? t = some ot ∧ ∀ vs, ot.data ≠ .fields vs) → Q (.ref e) { s with heap := h', toks := tk }
theorem exc_end {s : Shared} {d : Addr} {Q : Value → Shared → Prop} {h : Heap} {tk : Nat} {t dx lx e : Addr} {ot : Obj} {hsh : Int} {x : Str} {tx : Tok} {n : Nat} {ol : Obj} {rest : List (Addr × Obj)} {c : Value}
    (hQ : ExcDone s d Q)
    (D : W.X.Mem s.heap h [] ((t, ot) :: (dx, ⟨c, none, .dict ⟨[⟨hsh, .str x tx, .ref d⟩]⟩ n, #[]⟩) :: (lx, ol) :: (e, ⟨.ref 113, some dx, .fields ⟨[.ref t, .none, .none, .none, .bool false, .none, .int 0 0, .int 0 0, .int 0 0, .int 0 0, .int (-1) 0]⟩, #[]⟩) :: rest))
    (hx : x = Str.ofString "recipients") (hot : ∀ vs, ot.data ≠ .fields vs) : Q (.ref e) ⟨h, s.gens, s.drawn, tk, s.os⟩ := by
  have o := D.ord
  have m1 : (t, ot) ∈ (t, ot) :: (dx, (⟨c, none, .dict ⟨[⟨hsh, .str x tx, .ref d⟩]⟩ n, #[]⟩ : Obj)) :: (lx, ol) :: (e, (⟨.ref 113, some dx, .fields ⟨[.ref t, .none, .none, .none, .bool false, .none, .int 0 0, .int 0 0, .int 0 0, .int 0 0, .int (-1) 0]⟩, #[]⟩ : Obj)) :: rest := .head _
  have m2 : (dx, (⟨c, none, .dict ⟨[⟨hsh, .str x tx, .ref d⟩]⟩ n, #[]⟩ : Obj)) ∈ (t, ot) :: (dx, (⟨c, none, .dict ⟨[⟨hsh, .str x tx, .ref d⟩]⟩ n, #[]⟩ : Obj)) :: (lx, ol) :: (e, (⟨.ref 113, some dx, .fields ⟨[.ref t, .none, .none, .none, .bool false, .none, .int 0 0, .int 0 0, .int 0 0, .int 0 0, .int (-1) 0]⟩, #[]⟩ : Obj)) :: rest := .tail _ (.head _)
  have m3 : (e, (⟨.ref 113, some dx, .fields ⟨[.ref t, .none, .none, .none, .bool false, .none, .int 0 0, .int 0 0, .int 0 0, .int 0 0, .int (-1) 0]⟩, #[]⟩ : Obj)) ∈ (t, ot) :: (dx, (⟨c, none, .dict ⟨[⟨hsh, .str x tx, .ref d⟩]⟩ n, #[]⟩ : Obj)) :: (lx, ol) :: (e, (⟨.ref 113, some dx, .fields ⟨[.ref t, .none, .none, .none, .bool false, .none, .int 0 0, .int 0 0, .int 0 0, .int 0 0, .int (-1) 0]⟩, #[]⟩ : Obj)) :: rest := .tail _ (.tail _ (.tail _ (.head _)))
  simp only [List.map_cons, List.pairwise_cons, List.mem_cons] at o
  have a1 : t > dx := o.1 _ (.inl rfl)
  have a2 : t > e := o.1 _ (.inr (.inr (.inl rfl)))
  have a3 : dx > e := o.2.1 _ (.inr (.inl rfl))
  refine hQ h tk e dx t (fun b o e => D.keep b o e ?_) (D.nw _ m3).2 (D.nw _ m2).2 (D.nw _ m1).2 (Nat.ne_of_lt a3) (Nat.ne_of_lt a2) (Nat.ne_of_lt a1) (D.nw _ m3).1 (ns_one (D.nw _ m2).1 hx) ⟨ot, (D.nw _ m1).1, hot⟩
  simp [W.X.away]
open PySem.W.X in
local macro_rules | `(tactic| x_close) => `(tactic| (exact exc_end (by assumption) (by assumption) rfl (by intro vs q; cases q)))
theorem make_exc : ∀ {w : World} {A : Around} {E : Value → Shared → Prop} {Q : Value → Shared → Prop} {s : Shared} {d : Addr},
  (hd.heap_39 w.params).In s.heap → A.depth = 303 → A.handled = none → ExcDone s d Q →
    wpAny (model (PySem.Challenge.rw_xo0016_01).row.prog w) A (call (.ref 113) [.ref d]) Q E s := by
  k_fill
  intro w A E Q s d X hdp hh hQ
  obtain ⟨depth, a2, a3, a4, a5⟩ := A
  dsimp only at hdp
  subst hdp
  x_run
end Mine

set_option maxHeartbeats 1000000
namespace Mine
/-- the exception, with its dict, in flight or held -/
def ExcIn (base h : Heap) (e dx : Addr) : Prop :=
  ∃ sl vs, h.get? e = some ⟨.ref 113, some dx, .fields vs, sl⟩ ∧ vs[2]? = some .none ∧
    (vs[1]? = some .none ∨ ∃ T oT ts, vs[1]? = some (.ref T) ∧ base.get? T = none ∧ T ≠ e ∧ h.get? T = some oT ∧ oT.data = .fields ts ∧ 3 < ts.size)
/-- what stays: all that is no record of fields, but for the frames' slots -/
def UpS (S : List Addr) (h h' : Heap) : Prop := ∀ b o, h.get? b = some o → (∀ vs, o.data ≠ .fields vs) → (b ∉ S → h'.get? b = some o) ∧ ∃ sl, h'.get? b = some { o with slots := sl }
theorem UpS.refl {S : List Addr} (h : Heap) : UpS S h h := fun _ o e _ => ⟨fun _ => e, o.slots, e⟩
theorem UpS.trans {S : List Addr} {h₁ h₂ h₃ : Heap} (x : UpS S h₁ h₂) (y : UpS S h₂ h₃) : UpS S h₁ h₃ := fun b o e hn => by
  obtain ⟨x1, sl, x2⟩ := x b o e hn
  obtain ⟨_, sl', y2⟩ := y b _ x2 hn
  exact ⟨fun hb => (y b o (x1 hb) hn).1 hb, sl', y2⟩
abbrev framesOf (l : List Env) : List Addr := l.filterMap (·.frame)
structure Fly (base : Heap) (l : List Env) (e dx : Addr) (h : Heap) : Prop where
  stays : base.StaysIn h
  new : base.get? e = none
  frames : h.FunFrames base l
  exc : ExcIn base h e dx
section
variable {M : Model} {A : Around} {E : Value → Shared → Prop} {s : Shared} {base : Heap} {l outer : List Env} {env : Env} {e dx L : Addr}
/-- fields of one object that is new since the base -/
theorem upField {S : List Addr} {h : Heap} {T : Addr} {oT : Obj} {ts : Array Value} {f : Array Value → Array Value} (hT : h.get? T = some oT) (hd : oT.data = .fields ts) : UpS S h (h.update T (Obj.mapFields f)) := fun b o hb hn =>
  have z := (Heap.get?_update_other _ (Obj.mapFields f) fun q => by subst q; rw [hT] at hb; cases hb; exact hn _ hd).trans hb
  ⟨fun _ => z, o.slots, z⟩
theorem Fly.field {h : Heap} (x : Fly base l e dx h) {T : Addr} {oT : Obj} {ts : Array Value} {f : Array Value → Array Value} (hb : base.get? T = none) (hT : h.get? T = some oT) (hd : oT.data = .fields ts) (hsz : (f ts).size = ts.size)
    (hex : ExcIn base (h.update T (Obj.mapFields f)) e dx) : Fly base l e dx (h.update T (Obj.mapFields f)) :=
  ⟨fun b o q => (Heap.get?_update_other _ _ fun z => by subst z; rw [hb] at q; cases q).trans (x.stays b o q), x.new,
    x.frames.of_keeps fun b o hb' hn => ⟨o, (Heap.get?_update_other _ _ fun q => by subst q; rw [hT] at hb'; cases hb'; exact hn _ hd).trans hb', rfl⟩, hex⟩
theorem mapFields_at {o : Obj} {c : Value} {d : Option Addr} {vs : Array Value} {sl : Array (Option Value)} {f : Array Value → Array Value} (e : o = ⟨c, d, .fields vs, sl⟩) : Obj.mapFields f o = ⟨c, d, .fields (f vs), sl⟩ := by subst e; rfl
/-- the flight's mark is wiped -/
theorem wpAny_lands {Q : Unit → Shared → Prop} (x : Fly base l e dx s.heap) (hQ : ∀ h', Fly base l e dx h' → UpS (framesOf l) s.heap h' → Q () { s with heap := h' }) : wpAny M A (setFlight (.ref e) none) Q E s := by
  obtain ⟨sl, vs, he, hc2, h1⟩ := x.exc
  unfold setFlight
  rcases h1 with h1 | ⟨T, oT, ts, h1, hbT, hTe, hT, hdT, hsz⟩
  · refine wpAny_bind (wpAny_field he rfl h1 ?_)
    rw [if_neg (by decide)]
    exact wpAny_pure (hQ _ x (.refl _))
  · refine wpAny_bind (wpAny_field he rfl h1 ?_)
    rw [if_pos (show (Value.ref T != Value.none) = true from by simp)]
    refine wpAny_setField hT hdT hsz (hQ _ (x.field hbT hT hdT (by simp) ?_) (upField hT hdT))
    refine ⟨sl, vs, (Heap.get?_update_other _ _ hTe).trans he, hc2, .inr ⟨T, _, _, h1, hbT, hTe, Heap.get?_update_self _ hT (Obj.isFreed_of_fields (Obj.data_mapFields hdT _)), Obj.data_mapFields hdT _, by simpa using hsz⟩⟩
theorem wpAny_entry {head : Value} {hadNext : Bool} {Q : Unit → Shared → Prop} (hfr : A.frames = some (env :: outer)) (hf : env.frame = some L) (x : Fly base (env :: outer) e dx s.heap)
    (hQ : ∀ h', Fly base (env :: outer) e dx h' → UpS (framesOf (env :: outer)) s.heap h' → Q () { s with heap := h' }) :
    wpAny M A (do let a ← frameOf env; let pl ← entryPlaceOf L hadNext; let b ← EntryCells.newEntry head a .none (rawInt L) .none pl; setField (.ref e) 1 b) Q E s := by
  obtain ⟨sl, vs, he, hc2, h1⟩ := x.exc
  have hsz : 1 < vs.size := by
    rcases h1 with h1 | ⟨T, oT, ts, h1, _⟩
    · exact (Array.getElem?_eq_some_iff.mp h1).1
    · exact (Array.getElem?_eq_some_iff.mp h1).1
  have hene : e ∉ (env :: outer).filterMap (·.frame) := fun hm => by
    obtain ⟨_, o, ho, hnf⟩ := x.frames.mem hm
    rw [he] at ho; cases ho; exact hnf vs rfl
  refine wpAny_bind (wpAny_frameOf_fun hfr x.frames hf fun h₁ hs₁ => ?_)
  refine wpAny_bind (wpAny_entryPlaceOf fun pl hpl => ?_)
  unfold EntryCells.newEntry newFields
  refine wpAny_bind (wpAny_newObj_type ?_ (hpl.sizeOk5 _ _ _ _ _))
  have he₁ : h₁.get? e = some ⟨.ref 113, some dx, .fields vs, sl⟩ := (hs₁.2.1 e hene).trans he
  have kb₁ : base.StaysIn h₁ := fun b o hbo => (hs₁.2.1 b fun hm => by rw [(x.frames.mem hm).1] at hbo; cases hbo).trans (x.stays b o hbo)
  have hTn : h₁.objs.size ≠ e := Nat.ne_of_gt (Heap.lt_size he₁)
  have he₂ : (h₁.push { cls := .type "traceback", dict := none, data := .fields ([head, .ref L, .none, rawInt L, .none] ++ (if pl.isEmpty then List.replicate 6 Value.none else pl)).toArray }).get? e = some ⟨.ref 113, some dx, .fields vs, sl⟩ := Heap.get?_push_of_some _ he₁
  have hbT : base.get? h₁.objs.size = none := kb₁.fresh
  refine wpAny_setField he₂ rfl hsz (hQ _ ⟨fun b o q => ?_, x.new, ?_, ?_⟩ ?_)
  · exact (Heap.get?_update_other _ _ fun z => by subst z; rw [x.new] at q; cases q).trans (Heap.get?_push_of_some _ (kb₁ b o q))
  · refine x.frames.of_keeps fun b o hb hn => ?_
    obtain ⟨sl', hs'⟩ := hs₁.2.2 b o hb
    exact ⟨_, (Heap.get?_update_other _ _ fun z => by subst z; rw [he] at hb; cases hb; exact hn _ rfl).trans (Heap.get?_push_of_some _ hs'), rfl⟩
  · refine ⟨sl, vs.setIfInBounds 1 (.ref h₁.objs.size), Heap.get?_update_self (Obj.mapFields (·.setIfInBounds 1 (Value.ref h₁.objs.size))) he₂ rfl, by rw [Array.getElem?_setIfInBounds_ne (by decide)]; exact hc2, .inr ⟨h₁.objs.size, _, _, by simp [hsz], hbT, hTn, (Heap.get?_update_other _ _ (Ne.symm hTn)).trans (Heap.get?_push_size _ rfl), rfl, ?_⟩⟩
    simp only [List.size_toArray, List.length_append, List.length_cons, List.length_nil]
    omega
  · intro b o hb hn
    obtain ⟨sl', hs'⟩ := hs₁.2.2 b o hb
    have hne : e ≠ b := fun z => by subst z; rw [he] at hb; cases hb; exact hn _ rfl
    exact ⟨fun hS => (Heap.get?_update_other _ _ hne).trans (Heap.get?_push_of_some _ ((hs₁.2.1 b hS).trans hb)), sl', (Heap.get?_update_other _ _ hne).trans (Heap.get?_push_of_some _ hs')⟩
theorem wpAny_notes {Q : Unit → Shared → Prop} (hfr : A.frames = some (env :: outer)) (hf : env.frame = some L) (x : Fly base (env :: outer) e dx s.heap)
    (hQ : ∀ h', Fly base (env :: outer) e dx h' → UpS (framesOf (env :: outer)) s.heap h' → Q () { s with heap := h' }) : wpAny M A (noteFrame (.ref e) env) Q E s := by
  obtain ⟨sl, vs, he, hc2, h1⟩ := x.exc
  unfold noteFrame
  simp only [hf]
  rcases h1 with h1 | ⟨T, oT, ts, h1, hbT, hTe, hT, hdT, hsz⟩
  · refine wpAny_bind (wpAny_field he rfl h1 ?_)
    rw [if_neg (by decide)]
    exact wpAny_entry hfr hf x hQ
  · refine wpAny_bind (wpAny_field he rfl h1 ?_)
    rw [if_pos (show (Value.ref T != Value.none) = true from by simp)]
    refine wpAny_bind (wpAny_field hT hdT (x := ts[3]) (by simp [hsz]) ?_)
    by_cases hq : (ts[3] == rawInt L) = true
    · rw [if_pos hq]
      exact wpAny_pure (hQ _ x (.refl _))
    · rw [if_neg hq]
      refine wpAny_bind (wpAny_setField hT hdT hsz ?_)
      have x' : Fly base (env :: outer) e dx (s.heap.update T (Obj.mapFields (·.setIfInBounds 3 Value.none))) := x.field hbT hT hdT (by simp)
        ⟨sl, vs, (Heap.get?_update_other _ _ hTe).trans he, hc2, .inr ⟨T, _, _, h1, hbT, hTe, Heap.get?_update_self _ hT (Obj.isFreed_of_fields (Obj.data_mapFields hdT _)), Obj.data_mapFields hdT _, by simpa using hsz⟩⟩
      exact wpAny_entry (s := ⟨_, s.gens, s.drawn, s.toks, s.os⟩) hfr hf x' fun h' y z => hQ h' y ((upField hT hdT).trans z)
theorem wpAny_leaves {Q : Unit → Shared → Prop} (hfr : A.frames = some (env :: outer)) (hf : env.frame = some L) (x : Fly base (env :: outer) e dx s.heap)
    (hQ : ∀ h', Fly base outer e dx h' → UpS (framesOf (env :: outer)) s.heap h' → Q () { s with heap := h' }) : wpAny M A (leaving env (.ref e)) Q E s := by
  unfold leaving
  refine wpAny_bind (wpAny_notes hfr hf x fun h₁ y z => ?_)
  refine wpAny_lands (s := ⟨h₁, s.gens, s.drawn, s.toks, s.os⟩) y fun h₂ y₂ z₂ => hQ h₂ ⟨y₂.stays, y₂.new, y₂.frames.2.2, y₂.exc⟩ (z.trans z₂)
end
end Mine

set_option maxHeartbeats 1000000
namespace Mine
section
variable {M : Model} {A : Around} {E : Value → Shared → Prop} {env : Env}
variable {nm q : Str} {C N : Addr} {bs bm : List Value} {hdct : Bool} {sn : List Str} {sub : List Value} {ab : Bool} {col : Option Bool} {dd : Option Addr} {k0 k1 k2 k3 k5 : Option Value} {newId : String}
theorem raise_own {s : Shared} {x : Sem Value} {Q : Flow → Shared → Prop} {h0 : Heap} (hC0 : h0.get? C = some (excClassObj nm q C N bs bm hdct sn sub ab col dd k0 k1 k2 k3 k5 newId)) (hbase : bm.contains (.type "BaseException") = true) (hh : A.handled = none)
    (h : wpAny M A x (fun v s₁ => ∃ e dx t, v = .ref e ∧ Ext h0 s₁.heap ∧
      s₁.heap.get? e = some ⟨.ref C, some dx, .fields #[.ref t, .none, .none, .none, .bool false, .none, .int 0 0, .int 0 0, .int 0 0, .int 0 0, .int (-1) 0], #[]⟩ ∧ E (.ref e) s₁) E s) :
    wpAny M A (raiseStmt env (some x) none) Q E s := by
  have hcB : (Value.ref C :: bm).contains (.type "BaseException") = true := by rw [List.contains_cons, hbase, Bool.or_true]
  unfold raiseStmt
  refine wpAny_bind (wpAny_mono h (fun v s₁ h₁ => ?_) fun _ _ x => x)
  obtain ⟨e, dx, t, rfl, hx, he, hE⟩ := h₁
  have hC := hx _ _ hC0
  obtain ⟨hp, g, d, tk, os⟩ := s₁
  repeat (first | with_reducible refine wpAny_loadPart_at he ?_ | with_reducible refine wpAny_loadPart_at hC ?_ | (with_reducible refine wpAny_isSubtype_exc hC ?_; rw [hcB]) | wp_step)
  exact wpAny_raiseNew_none hh hE
end
end Mine

set_option maxHeartbeats 1000000
namespace Mine
def lstO (vs : List Value) (n : Nat) : Obj := { cls := .type "list", data := .seq vs.toArray n }
section
variable {prog : Program} {w : World} {A : Around} {E : Value → Shared → Prop} {h h₀ : Heap} {L : Addr} {m : Str → Option Value} {news pre post : List (Addr × Obj)} {d : Addr} {vs : List Value} {n : Nat} {x : Value} {gn dr tk os}
theorem appendZ {Q : Value → Shared → Prop} (Z : Lz h₀ L m (pre ++ (d, lstO vs n) :: post) h) (H : ∀ h' n', Lz h₀ L m (pre ++ (d, lstO (vs ++ [x]) n') :: post) h' → Q .none ⟨h', gn, dr, tk, os⟩) (hsz : vs.length ≤ sizeLine) :
    wpAny (model prog w) A (call (.builtin "list.append") [.ref d, x]) Q E ⟨h, gn, dr, tk, os⟩ := by
  refine wpAny_list_append_plain (s := ⟨h, gn, dr, tk, os⟩) (items := vs.toArray) ⟨n, Z.get (by simp [lstO])⟩ (fun h' hp hs => ?_) (by simpa using hsz)
  obtain ⟨n', e⟩ := hp
  refine H h' n' (Z.upd hs ?_)
  rw [e]
  simp [lstO]
theorem appendMZ {pl : Sem Bool} {Q : Value × List Value → Shared → Prop} (Z : Lz h₀ L m news h) (hm : (d, lstO vs n) ∈ news) (H : Q (.builtin "list.append", [.ref d]) ⟨h, gn, dr, tk, os⟩) : wpAny (model prog w) A (getMethod (.ref d) "append" pl) Q E ⟨h, gn, dr, tk, os⟩ :=
  getMethod_list_append (s := ⟨h, gn, dr, tk, os⟩) (Z.get hm) rfl rfl H
end
end Mine

set_option maxHeartbeats 4000000
namespace Mine
local macro_rules | `(tactic| walk_at "storeName") => `(tactic| (k_dflt (refine stZ (by assumption) (fun _ _ Z' => ?_)); have F' := Z'.fr; have N' := Z'.nw; try dsimp only))
local macro_rules | `(tactic| walk_at "newTuple") => `(tactic| (k_dflt (refine newTupleZ (by assumption) (fun _ _ Z' => ?_)); have F' := Z'.fr; have N' := Z'.nw; try dsimp only))
local macro_rules | `(tactic| walk_at "newList") => `(tactic| (k_dflt (refine newListZ (by assumption) (fun _ _ Z' => ?_)); have F' := Z'.fr; have N' := Z'.nw; try dsimp only))

local macro_rules | `(tactic| walk_at "subscriptTail Name Slice str ref") => `(tactic| (k_dflt (first | refine' sliceZ_sn ?zz ?_ | refine' sliceZ_ns ?zz ?_ | refine' sliceZ_ss ?zz ?_ | refine' sliceZ_nn ?zz ?_); (case zz => assumption); intro _ _ _ Z'; have F' := Z'.fr; have N' := Z'.nw; try dsimp only))

def addrP (host : Str) (n : Nat) : Str := S [n] ++ Str.ofString "." ++ host
def wiredB (Wf : Str → Option Int) (c n : Nat) : Bool := (Wf (S [c, n])).isSome
def inLab (lab : Str) (n : Nat) : Bool := !(Builtin.Str.occurrences lab (S [n]) 0 lab.length 1).isEmpty
def abcd : List Nat := [97, 98, 99, 100]
def takenP (Wf : Str → Option Int) (c : Nat) (host lab : Str) (ns : List Nat) : List Str := (ns.filter fun n => wiredB Wf c n && !inLab lab n).map (addrP host)
def refusedP (Wf : Str → Option Int) (c : Nat) (host lab : Str) (ns : List Nat) : List Str := (ns.filter fun n => wiredB Wf c n && inLab lab n).map (addrP host)
theorem taken_len (Wf : Str → Option Int) (c : Nat) (host lab : Str) (i : Nat) : (takenP Wf c host lab (abcd.take i)).length ≤ 4 := by
  unfold takenP
  rw [List.length_map]
  refine Nat.le_trans (List.length_filter_le _ _) ?_
  rw [List.length_take]
  exact Nat.min_le_right ..
theorem refused_len (Wf : Str → Option Int) (c : Nat) (host lab : Str) (i : Nat) : (refusedP Wf c host lab (abcd.take i)).length ≤ 4 := by
  unfold refusedP
  rw [List.length_map]
  refine Nat.le_trans (List.length_filter_le _ _) ?_
  rw [List.length_take]
  exact Nat.min_le_right ..
theorem addrP_S (hl : List Nat) (n : Nat) : addrP (S hl) n = S (n :: 46 :: hl) := by
  unfold addrP
  rw [show Str.ofString "." = S [46] from by decide +kernel, S_app, S_app]
  rfl
theorem S_inj {a b : List Nat} (h : S a = S b) : a = b := by
  have := congrArg (fun x => x.cps.toList) h
  simpa using this
theorem addr_new {Wf : Str → Option Int} {c : Nat} {hl : List Nat} {lab : Str} {i ch : Nat} (h : abcd[i]? = some ch) : addrP (S hl) ch ∉ refusedP Wf c (S hl) lab (abcd.take i) := by
  intro hm
  unfold refusedP at hm
  obtain ⟨m, hm, e⟩ := List.mem_map.mp hm
  have hm2 := (List.mem_filter.mp hm).1
  rw [addrP_S, addrP_S] at e
  have e := (List.cons.inj (S_inj e)).1
  subst e
  rcases i with _ | _ | _ | _ | i
  · exact absurd hm2 (by simp)
  · have h : 98 = m := by simpa [abcd] using h
    subst h; exact absurd hm2 (by decide)
  · have h : 99 = m := by simpa [abcd] using h
    subst h; exact absurd hm2 (by decide)
  · have h : 100 = m := by simpa [abcd] using h
    subst h; exact absurd hm2 (by decide)
  · simp [abcd] at h
theorem send_spec : ∀ {w : World} {lo : List Str} {A : Around} {R : Result → Shared → Prop} {s : Shared} {mg mb : Str → Option Value} {base : Heap} {l : List Env} {c : Nat} {hr : List Nat} {lab : Str} {e : Addr} {kvs : List (Str × Value)} {Wf : Str → Option Int} {u v : Tok},
  (hd.heap_39 w.params).In s.heap → TopRead hd.view_39 lo mg mb s.heap → A.depth = 302 → A.handled = none → A.units ≤ 1000 → A.frames = some l → base.StaysIn s.heap → s.heap.FunFrames base l → (e == sysModules) = false →
    s.heap.DictOf (strKind (PySem.Challenge.rw_xo0016_01).row.prog w) e kvs → (∀ x, Is (valueAt kvs x) (Wf x)) → hr.length ≤ 50 → lab.length ≤ 50 →
    (takenP Wf c (S (c :: hr)) lab abcd ≠ [] → ∀ h' tk t tl rf otl vs n orf kv, Ext s.heap h' → h'.IsTuple t #[.ref tl, .ref rf] → s.heap.get? tl = none → s.heap.get? rf = none → tl ≠ rf → (rf == sysModules) = false → h'.get? tl = some otl → otl.cls = .type "list" → otl.data = .seq (List.toArray vs) n → StrsAre vs (takenP Wf c (S (c :: hr)) lab abcd) →
      h'.get? rf = some orf → orf.IsDictOf (strKind (PySem.Challenge.rw_xo0016_01).row.prog w) kv → kv.map (·.1) = refusedP Wf c (S (c :: hr)) lab abcd → R (.ok (.ret (.ref t))) { s with heap := h', toks := tk }) →
    (takenP Wf c (S (c :: hr)) lab abcd = [] → ∀ h' tk ex dx rf orf kv, Fly base l ex dx h' → UpS (framesOf l) s.heap h' → h'.Ns dx (recMap rf) → s.heap.get? ex = none → s.heap.get? dx = none → ex ≠ dx → ex ≠ rf → dx ≠ rf → s.heap.get? rf = none → (rf == sysModules) = false → h'.get? rf = some orf → orf.IsDictOf (strKind (PySem.Challenge.rw_xo0016_01).row.prog w) kv → kv.map (·.1) = refusedP Wf c (S (c :: hr)) lab abcd →
      R (.error (.ref ex)) { s with heap := h', toks := tk }) →
    codeAny (model (PySem.Challenge.rw_xo0016_01).row.prog w) A (.call (.ref 141) ⟨[.str (S (c :: hr)) u, .str lab v, .ref e], []⟩) R s := by
  k_fill
  intro w lo A R s mg mb base l c hr lab e kvs Wf u v X T hdp hh hun hfr hst hff hes hE hW hhr hlab hR1 hR2
  refine' enterZE X T ?k1 ?k2 ?k3 ?k4 ?k5 ?_ ?c1 ?c2 ?c3 ?c4
  case k1 => k_is
  case k2 => k_is
  case k3 => show A.depth < 1000; omega
  case k4 => exact BindsTo.of_eq (binds := [("host", .str (S (c :: hr)) u), ("labels", .str lab v), ("wires", .ref e)]) rfl
  case k5 => exact locs rfl
  case c1 => decide
  case c2 => rfl
  case c3 => rfl
  case c4 => rfl
  intro L h₁ tk Z
  have hbig : sysModules < s.heap.objs.size := modules_low T.nolimit
  have F := Z.fr
  have N := Z.nw
  refine wpAny_execs_cons (wpAny_Assign_Name ?_)
  iterate 4 (walk1; try dsimp only)
  rename_i TL hA Z1 F1 N1 hB tB Z F2 N2
  refine wpAny_execs_cons (wpAny_Assign_Name (emptyDictZ (knd := strKind (PySem.Challenge.rw_xo0016_01).row.prog w) Z hbig fun rf h₂ o Z hrs ho => stZ Z fun h₃ t₃ Z => ?_))
  dsimp only
  refine wpAny_execs_cons (ForZ (h₀ := s.heap) ?_)
  walk1
  refine srcStr hh (by decide +kernel) Z
    (fun i m news => ∃ m₀ vs n oR kv, m = ov [("taken", .ref TL), ("refused", .ref rf), ("host", .str (S (c :: hr)) u), ("labels", .str lab v), ("wires", .ref e)] m₀ ∧ news = [(rf, oR), (TL, lstO vs n)] ∧
      StrsAre vs (takenP Wf c (S (c :: hr)) lab (abcd.take i)) ∧ oR.IsDictOf (strKind (PySem.Challenge.rw_xo0016_01).row.prog w) kv ∧ kv.map (·.1) = refusedP Wf c (S (c :: hr)) lab (abcd.take i))
    ⟨_, [], 0, _, [], ov_at ⟨rfl, rfl, rfl, rfl, rfl, trivial⟩, rfl, .nil, ho, rfl⟩ ?_ ?_
  · rintro i ch uc m₁ news₁ own h₄ tk₄ hch ⟨m₀, vs, n, oR, kv, rfl, rfl, hs', hr', hkv'⟩ Z
    refine wpAny_assign_Name (stZ Z fun h₅ t₅ Z => ?_)
    have F := Z.fr
    have N := Z.nw
    dsimp only
    refine wpAny_execs_cons (wpAny_If ?_)
    repeat (walk1; try dsimp only)
    rw [show Txt.item (S (c :: hr)) 0 = S [c] from item_S (c :: hr) (k := 0) rfl (Nat.zero_lt_succ _), show (S [c] ++ (⟨#[ch]⟩ : Str)) = S [c, ch] from S_app [c] [ch]]
    rename Lz _ _ _ _ _ => Z
    have hE1 := hE.at fun o x => Z.keep _ o x
    refine wpAny_in_of (strKind_is _ _ _ _) hes hE1.mapOf (wpAny_truthy_bool ?_)
    have hci : abcd[i]? = some ch := by
      have : (Str.ofString "abcd").cps = abcd.toArray := by decide +kernel
      rw [this] at hch
      simpa using hch
    have htk : abcd.take (i + 1) = abcd.take i ++ [ch] := by rw [List.take_add_one, hci]; rfl
    have hwv := hW (S [c, ch])
    by_cases hwd : wiredB Wf c ch = true
    · have hv : (valueAt kvs (S [c, ch])).isSome = true := by
        unfold wiredB at hwd
        cases e1 : valueAt kvs (S [c, ch]) with
        | some _ => rfl
        | none => cases e2 : Wf (S [c, ch]) with
          | none => rw [e2] at hwd; cases hwd
          | some _ => rw [e1, e2] at hwv; exact hwv.elim
      rw [hv]
      simp only [if_true]
      refine wpAny_execs_cons ?_
      repeat (walk1; try dsimp only)
      rename Lz _ _ _ _ _ => Z
      refine wpAny_call (localename_spec (X.keeps Z.keep) (T.keeps Z.keep) (by show A.depth + 1 < 890; omega) hh ⟨_, Z.get (.head _), rfl, _, rfl⟩ (by show (1 : Nat) ≤ 100; decide) (by rw [S_len]; simp; omega) fun h' tk t x => ?_)
      have Z := (Z.ext x).sub (List.sublist_cons_self ..)
      have F := Z.fr
      have N := Z.nw
      dsimp only
      rw [show (⟨#[ch]⟩ : Str) ++ Str.ofString "." ++ S (c :: hr) = addrP (S (c :: hr)) ch from rfl]
      iterate 7 (walk1; try dsimp only)
      rename Lz _ _ _ _ _ => Z
      rw [show (!(Builtin.Str.occurrences lab (⟨#[ch]⟩ : Str) 0 lab.length 1).isEmpty) = inLab lab ch from rfl]
      by_cases hin : inLab lab ch = true
      · rw [hin]
        walk1
        simp only [if_true]
        refine wpAny_execs_cons (wpAny_Assign_Subscript ?_)
        repeat (walk1; try dsimp only)
        rename Lz _ _ _ _ _ => Z
        have Z := Z.sub (List.sublist_cons_self ..)
        have hna : valueAt kv (addrP (S (c :: hr)) ch) = none := valueAt_none_of_not_mem (by rw [hkv']; exact addr_new hci)
        refine setDictZ (pre := own) (post := [_]) Z hr' (strKind_is _ _ _ _) (fun h₉ o₉ t₉ Z ho₉ => ?_) (by
          have e1 := congrArg List.length hkv'
          rw [List.length_map] at e1
          have := refused_len Wf c (S (c :: hr)) lab i
          rw [sizeLine_eq]; omega)
        repeat (refine wpAny_execs_nil ?_; try dsimp only)
        refine ⟨_, _, _, _, rfl, Z, fun p hp => (nomatch hp), ?_⟩
        refine ⟨_, vs, n, o₉, _, ov_at ⟨rfl, rfl, rfl, rfl, rfl, trivial⟩, rfl, ?_, ho₉, ?_⟩
        · unfold takenP at hs' ⊢
          rw [htk, List.filter_append, List.map_append]
          simpa [hwd, hin] using hs'
        · rw [stored_absent hna, List.map_append, hkv']
          unfold refusedP
          rw [htk, List.filter_append, List.map_append]
          simp [hwd, hin]
      · have hin' : inLab lab ch = false := by simpa using hin
        rw [hin']
        walk1
        simp only [Bool.false_eq_true, if_false]
        iterate 4 (walk1; try dsimp only)
        refine appendMZ Z (List.mem_append_right _ (.tail _ (.head _))) ?_
        iterate 4 (walk1; try dsimp only)
        have e3 : ∀ (x y : Addr × Obj), own ++ [x, y] = (own ++ [x]) ++ [y] := fun x y => by simp
        rw [e3] at Z
        refine appendZ (post := []) Z (fun h₆ n₆ Z => ?_) (by rw [hs'.length, sizeLine_eq]; have := taken_len Wf c (S (c :: hr)) lab i; omega)
        rw [← e3] at Z
        repeat (refine wpAny_execs_nil ?_; try dsimp only)
        refine ⟨_, _, _, _, rfl, Z, fun p hp => (nomatch hp), ?_⟩
        refine ⟨_, _, _, oR, kv, ov_at ⟨rfl, rfl, rfl, rfl, rfl, trivial⟩, rfl, ?_, hr', ?_⟩
        · unfold takenP at hs' ⊢
          rw [htk, List.filter_append, List.map_append]
          simpa [hwd, hin'] using strsAre_snoc hs' (addrP (S (c :: hr)) ch) t
        · unfold refusedP at hkv' ⊢
          rw [htk, List.filter_append]
          simpa [hwd, hin'] using hkv'
    · have hv : (valueAt kvs (S [c, ch])).isSome = false := by
        unfold wiredB at hwd
        cases e1 : valueAt kvs (S [c, ch]) with
        | none => rfl
        | some _ => cases e2 : Wf (S [c, ch]) with
          | some _ => rw [e2] at hwd; exact absurd rfl hwd
          | none => rw [e1, e2] at hwv; exact hwv.elim
      rw [hv]
      simp only [Bool.false_eq_true, if_false]
      refine wpAny_execs_nil (wpAny_execs_nil ?_)
      have hwd' : wiredB Wf c ch = false := by simpa using hwd
      refine ⟨_, _, _, _, rfl, Z, fun p hp => (nomatch hp), ?_⟩
      refine ⟨_, vs, n, oR, kv, ov_at ⟨rfl, rfl, rfl, rfl, rfl, trivial⟩, rfl, ?_, hr', ?_⟩
      · unfold takenP at hs' ⊢
        rw [htk, List.filter_append]
        simpa [hwd'] using hs'
      · unfold refusedP at hkv' ⊢
        rw [htk, List.filter_append]
        simpa [hwd'] using hkv'
  · rintro h₃ tk₃ m' news' Z ⟨m₀, vs, n, oR, kv, rfl, rfl, hs', hr', hkv'⟩
    have hs4 : (Str.ofString "abcd").cps.size = 4 := by decide +kernel
    rw [hs4, show abcd.take 4 = abcd from rfl] at hs' hkv'
    have F := Z.fr
    have N := Z.nw
    refine wpAny_execs_cons (wpAny_If ?_)
    iterate 5 (walk1; try dsimp only)
    rename Lz _ _ _ _ _ => Z
    by_cases hempty : takenP Wf c (S (c :: hr)) lab abcd = []
    · rw [hempty] at hs'
      cases hs'
      refine SeqAt.eq_listAt (items := #[]) (items2 := #[]) (e := fun _ => true) ⟨_, Z.get (.tail _ (.tail _ (.head _))), rfl, _, rfl⟩ ⟨_, Z.get (.head _), rfl, _, rfl⟩ rfl (by show A.units + 3 < cLine; rw [show cLine = 9900 from rfl]; omega) (fun j h1 h2 => absurd h1 (Nat.not_lt_zero j)) ?_
      repeat (walk1; try dsimp only)
      rw [arm_exec_Raise]
      refine wpAny_bind (wpAny_standAt ?_)
      have hC := (X 113 _ rfl : s.heap.get? 113 = some (excClassObj _ _ 113 112 _ _ _ _ _ _ _ _ _ _ _ _ _ _))
      refine raise_own hC (by decide) hh ?_
      refine wpAny_bind ?_
      repeat (walk1; try dsimp only)
      rename Lz _ _ _ _ _ => Z
      refine make_exc (X.keeps Z.keep) (by show A.depth + 1 = 303; omega) hh fun h' tk' ex dx te hx hne hndx hnt hd1 hd2 hd3 hex hns hte => ?_
      refine wpAny_bind (wpAny_standAt (wpAny_pure ⟨ex, dx, te, rfl, fun b o q => hx b o (Z.keep b o q), hex, ?_⟩))
      dsimp only
      have hLn : s.heap.get? L = none := by
        cases q : s.heap.get? L with
        | none => rfl
        | some o => exact absurd (Heap.lt_size q) (Nat.not_lt.mpr Z.fr.above)
      have old : ∀ b o, s.heap.get? b = some o → h'.get? b = some o := fun b o q => hx b o (Z.keep b o q)
      have hbn : ∀ b, s.heap.get? b = none → base.get? b = none := fun b q => by
        cases z : base.get? b with
        | none => rfl
        | some o => rw [hst b o z] at q; cases q
      have hexn : s.heap.get? ex = none := by
        cases q : s.heap.get? ex with
        | none => rfl
        | some o => have := Z.keep _ _ q; exact absurd (this.symm.trans hne) (by simp)
      have hdxn : s.heap.get? dx = none := by
        cases q : s.heap.get? dx with
        | none => rfl
        | some o => have := Z.keep _ _ q; exact absurd (this.symm.trans hndx) (by simp)
      have hexrf : ex ≠ rf := fun q => by have := Z.get (a := rf) (o := oR) (by simp); rw [← q] at this; exact absurd (this.symm.trans hne) (by simp)
      have hdxrf : dx ≠ rf := fun q => by have := Z.get (a := rf) (o := oR) (by simp); rw [← q] at this; exact absurd (this.symm.trans hndx) (by simp)
      obtain ⟨oL, eL, epL, hoL, hdL, hskL, hfL⟩ := Z.fr.ns
      have fly : Fly base (envOf (Str.ofString "_law_send_on") { kind := .function, names := [(Str.ofString "host", NameKind.local), (Str.ofString "labels", NameKind.local), (Str.ofString "wires", NameKind.local), (Str.ofString "taken", NameKind.local), (Str.ofString "refused", NameKind.local), (Str.ofString "name", NameKind.local), (Str.ofString "address", NameKind.local), (Str.ofString "_build_localename", NameKind.globalImplicit), (Str.ofString "SMTPRecipientsRefused", NameKind.globalImplicit)], isGenerator := false, isCoroutine := false } L 141 (Value.ref 140) :: l) ex dx h' :=
        ⟨fun b o q => old b o (hst b o q), hbn _ hexn, ⟨(fun q => by cases q), ⟨L, oL, rfl, hbn _ hLn, hx _ _ hoL, fun vs q => by rw [hdL] at q; cases q⟩, hff.of_keeps fun b o q _ => ⟨o, old b o q, rfl⟩⟩, ⟨_, _, hex, rfl, .inl rfl⟩⟩
      refine wpAny_leaves (s := ⟨h', s.gens, s.drawn, tk', s.os⟩) (by show A.frames.map _ = _; rw [hfr]; rfl) rfl fly fun h₂ fly₂ up => ?_
      have hrfn : s.heap.get? rf = none := (Z.nw (rf, oR) (by simp)).2.2
      have hrfL : rf ≠ L := (Z.nw (rf, oR) (by simp)).2.1
      have hframe : ∀ b ∈ framesOf l, ∃ o, s.heap.get? b = some o := fun b hb => let ⟨_, o, ho, _⟩ := hff.mem hb; ⟨o, ho⟩
      obtain ⟨orr, hor, hdr⟩ : ∃ es ep, oR.data = .dict es ep := by
        obtain ⟨es, ep, _, q, _⟩ := hr'
        exact ⟨_, _, q⟩
      have hrf2 : h₂.get? rf = some oR := (up rf oR (hx _ _ (Z.get (a := rf) (o := oR) (by simp))) (fun vs q => by rw [hdr] at q; cases q)).1 fun hm => by
        rcases List.mem_cons.mp hm with q | q
        · exact hrfL q
        · obtain ⟨o, ho⟩ := hframe _ q
          rw [hrfn] at ho; cases ho
      have hns2 : h₂.Ns dx (recMap rf) := by
        obtain ⟨o, es, ep, ho, hd, r⟩ := hns
        obtain ⟨_, sl, q⟩ := up dx o ho fun vs q => by rw [hd] at q; cases q
        exact ⟨_, es, ep, q, hd, r⟩
      refine hR2 hempty h₂ tk' ex dx rf oR kv fly₂ (fun b o q hn => ?_) hns2 hexn hdxn hd1 hexrf hdxrf hrfn hrs hrf2 hr' hkv'
      obtain ⟨u1, u2⟩ := up b o (old b o q) hn
      refine ⟨fun hb => u1 fun hm => ?_, u2⟩
      rcases List.mem_cons.mp hm with z | z
      · subst z; rw [hLn] at q; cases q
      · exact hb z
    · have hl0 : vs.length ≠ 0 := by rw [hs'.length]; exact fun q => hempty (List.eq_nil_of_length_eq_zero q)
      refine SeqAt.eq_list_lengthsAt (items := vs.toArray) (items2 := #[]) ⟨_, Z.get (.tail _ (.tail _ (.head _))), rfl, n, rfl⟩ ⟨_, Z.get (.head _), rfl, _, rfl⟩ (by simp; exact fun q => hl0 (by rw [q]; rfl)) (by show A.units + 3 < cLine; rw [show cLine = 9900 from rfl]; omega) ?_
      walk1
      simp only [Bool.false_eq_true, if_false]
      refine wpAny_execs_nil ?_
      dsimp only
      refine wpAny_execs_cons (wpAny_Return_some ?_)
      repeat (walk1; try dsimp only)
      rename Lz _ _ _ _ _ => Z
      refine hR1 hempty _ _ _ TL rf (lstO vs n) vs n oR kv Z.keep ⟨_, Z.get (.head _), rfl, _, rfl⟩ ?_ ?_ ?_ hrs (Z.get (by simp)) rfl rfl hs' (Z.get (by simp)) hr' hkv'
      · exact (Z.nw (TL, lstO vs n) (by simp)).2.2
      · exact (Z.nw (rf, oR) (by simp)).2.2
      · have hnd := (Z.sub (List.sublist_cons_self ..)).ne (pre := [_, _]) (post := [])
        exact fun q => hnd (rf, oR) (by simp) q.symm
end Mine

set_option maxHeartbeats 1000000
namespace Mine
section
variable {M : Model} {A : Around} {E : Value → Shared → Prop} {s : Shared} {h₀ : Heap} {L a : Addr} {m : Str → Option Value} {cn : Str} {cs : Scope} {ccd : Value} {cl : List (Str × Addr)} {x : Str} {pos : Pos} {v : Value} {news pre post : List (Addr × Obj)} {c : Addr} {o : Obj} {v₀ : Option Value}
theorem ldX {Q : Value → Shared → Prop} (Z : Lz h₀ L m news s.heap) (hv : m x = some v) (h : Q v s)
    (hk : cs.kind = .function := by rfl) (hx : (envX cn cs L a ccd cl).kindOf x = some .local := by rfl) (hd : (x == ("__debug__" : Str)) = false := by decide) :
    wpAny M A (eval (.Name x pos) (envX cn cs L a ccd cl)) Q E s := nameX_L Z.fr hv h hk hx hd
theorem ldC {Q : Value → Shared → Prop} (Z : Lz h₀ L m news s.heap) (hm : (c, o) ∈ news) (hd : o.data = .cell (some v)) (h : Q v s)
    (hc : cl.lookup x = some c := by rfl) (hk : cs.kind = .function := by rfl) (hx : (envX cn cs L a ccd cl).kindOf x = some .cell := by rfl) (hb : (x == ("__debug__" : Str)) = false := by decide) :
    wpAny M A (eval (.Name x pos) (envX cn cs L a ccd cl)) Q E s := nameX_C Z.nw hc hm hd h hk hx hb
theorem stX {Q : Unit → Shared → Prop} (Z : Lz h₀ L m news s.heap) (h : ∀ h' t, Lz h₀ L (ov [(x, v)] m) news h' → Q () { s with heap := h', toks := t })
    (hk : cs.kind = .function := by rfl) (hx : (envX cn cs L a ccd cl).kindOf x = some .local := by rfl) : wpAny M A (storeName (envX cn cs L a ccd cl) x v) Q E s :=
  wpAny_storeName_local hx Z.fr.ns (fun h' hn hs => h h' _ ((Z.set hn hs).congr (by
      funext y
      unfold ov
      by_cases e : y = x
      · subst e; simp
      · have e' : (y == x) = false := by simpa using e
        simp [e, List.lookup_cons, e']))) (by show (cs.kind == .class || (cs.kind == .module && L != mainGlobals)) = false; rw [hk]; rfl)
theorem stC {Q : Unit → Shared → Prop} (Z : Lz h₀ L m (pre ++ (c, o) :: post) s.heap) (hd : o.data = .cell v₀) (h : ∀ h' o', Lz h₀ L m (pre ++ (c, o') :: post) h' → o'.data = .cell (some v) → Q () { s with heap := h' })
    (hc : cl.lookup x = some c := by rfl) (hk : cs.kind = .function := by rfl) (hx : (envX cn cs L a ccd cl).kindOf x = some .cell := by rfl) : wpAny M A (storeName (envX cn cs L a ccd cl) x v) Q E s := by
  refine wpAny_storeName_cell hk hx hc ⟨o, Z.get (by simp), hd⟩ fun h' hv hs => ?_
  obtain ⟨o', ho', hd'⟩ := hv
  exact h h' o' (Z.upd hs ho') hd'
end
theorem enterC {w : World} {A : Around} {s : Shared} {p : Program} {loose : List Str} {mg mb : Str → Option Value}
    {K : Frag} {R : Result → Shared → Prop} {name qual : Str} {params : Arguments} {body : List Stmt} {scope : Scope} {dV kV doc pm cdv ct oc : Value} {an od : Option Addr} {osl : Array (Option Value)} {f : Addr} {args : Args} {binds : List (Str × Value)}
    (X : K.In s.heap) (T : TopRead p loose mg mb s.heap)
    (ho : K.lookup f = some ⟨oc, od, .func (fnX name qual params body scope [] dV kV doc pm an cdv ct), osl⟩) (hcd : codeIn K cdv qual = true) (hroom : A.depth < recursionLimit)
    (hbind : BindsTo s (fnX name qual params body scope [] dV kV doc pm an cdv ct) args binds)
    (hkind : (binds.all fun y => scope.names.lookup y.1 == some .local || scope.names.lookup y.1 == some .cell) = true)
    (hnd : ((cellsFrom 0 scope.names []).map (·.1)).Nodup)
    (h : ∀ L h₁ tk cells, Fr s.heap L h₁ (bindL (envOfC qual scope L f cdv).kindOf binds fun _ => none) → News s.heap L h₁ cells →
      CellsAre (bindC (envOfC qual scope L f cdv).kindOf binds fun _ => none) (cellsFrom (L + 1) scope.names []) cells →
      wpAny (model (PySem.Challenge.rw_xo0016_01).row.prog w) (A.deeper (envOfC qual scope L f cdv)) (execs body (envOfC qual scope L f cdv))
        (fun fl s' => R (.ok (.ret (match fl with | .ret v => v | _ => .none))) s')
        (fun e s' => wpAny (model (PySem.Challenge.rw_xo0016_01).row.prog w) (A.deeper (envOfC qual scope L f cdv)) (leaving (envOfC qual scope L f cdv) e) (fun _ s'' => R (.error e) s'') (fun e' s'' => R (.error e') s'') s')
        { s with heap := h₁, toks := tk })
    (hco : scope.isCoroutine = false) (hgen : scope.isGenerator = false) (hk : scope.kind = .function) :
    codeAny (model (PySem.Challenge.rw_xo0016_01).row.prog w) A (.call (.ref f) args) R s := by
  refine codeAny_call_function hroom (X _ _ ho) rfl hco hgen rfl (codeRec_of X hcd) (hbind _ _ _ _ ?_)
  refine wpAny_newFunctionEnv_cells hk (kindsX hkind _) fun env' he s' x => ?_
  subst he
  refine ⟨T.nolimit.keeps x.toInCall.keep, codeAny_func ?_⟩
  obtain ⟨h₁, tk, rfl, _⟩ := x.done
  have hk₁ := x.toInCall.keep
  obtain ⟨cells, NC, Y⟩ := Cl.news (h₀ := s.heap) (Nat.le_refl _) fun n c hm => ⟨x.cell n c (lookup_of_mem_nodup (cellsFrom_names scope.names 0 (s.heap.objs.size + 1) [] [] rfl ▸ hnd) hm), x.above n c hm⟩
  exact h s.heap.objs.size h₁ tk cells ⟨x.toInCall.ns, hk₁, Nat.le_refl _⟩ NC Y
end Mine

set_option maxHeartbeats 4000000
namespace Mine
local macro_rules | `(tactic| walk_at "storeName") => `(tactic| (k_dflt (refine stZ (by assumption) (fun _ _ Z' => ?_)); have F' := Z'.fr; have N' := Z'.nw; try dsimp only))
local macro_rules | `(tactic| walk_at "newTuple") => `(tactic| (k_dflt (refine newTupleZ (by assumption) (fun _ _ Z' => ?_)); have F' := Z'.fr; have N' := Z'.nw; try dsimp only))
local macro_rules | `(tactic| walk_at "newList") => `(tactic| (k_dflt (refine newListZ (by assumption) (fun _ _ Z' => ?_)); have F' := Z'.fr; have N' := Z'.nw; try dsimp only))

local macro_rules | `(tactic| walk_at "subscriptTail Name Slice str ref") => `(tactic| (k_dflt (first | refine' sliceZ_sn ?zz ?_ | refine' sliceZ_ns ?zz ?_ | refine' sliceZ_ss ?zz ?_ | refine' sliceZ_nn ?zz ?_); (case zz => assumption); intro _ _ _ Z'; have F' := Z'.fr; have N' := Z'.nw; try dsimp only))

local macro_rules | `(tactic| walk_at "storeName") => `(tactic| (k_dflt (refine stX (by assumption) (fun _ _ Z' => ?_)); have F' := Z'.fr; have N' := Z'.nw; try dsimp only))
def orders : List (List Nat) := [[98, 99, 100], [98, 100, 99], [99, 98, 100], [99, 100, 98], [100, 98, 99], [100, 99, 98]]
def brokenAt (Wf : Str → Option Int) (way : List Nat) (k : Nat) : Bool := (Wf (S ((way.drop k).take 2))).isNone
def wayStep (Wf : Str → Option Int) (acc : List Str) (o : List Nat) (n : Nat) : List Str :=
  if !(acc.any (· == S (97 :: o.take n))) && ((List.range n).filter (brokenAt Wf (97 :: o.take n))).isEmpty then acc ++ [S (97 :: o.take n)] else acc
def wayRow (Wf : Str → Option Int) (acc : List Str) (o : List Nat) (k : Nat) : List Str := (List.range k).foldl (fun acc n => wayStep Wf acc o n) acc
def waysP (Wf : Str → Option Int) (os : List (List Nat)) : List Str := os.foldl (fun acc o => wayRow Wf acc o 4) []
theorem walksLt {prog : Program} {w : World} {A : Around} {I : Addr} {fp wr : List Addr} {n : Nat} {P : Nat → Value → Prop} {St : Nat → Heap → Prop} (W : Walks prog w A I fp wr n P St) : Walks prog w A I fp wr n (fun i v => i < n ∧ P i v) St :=
  { W with item := fun i s Q E hi st hQ => W.item i s Q E hi st fun v h' tk hp => hQ v h' tk ⟨hi, hp⟩ }
theorem slice_post {x : Str} {t ta tb : Tok} {a b : Int} {Q : Value → Shared → Prop} {s : Shared} (hsz : x.length ≤ sizeLine) (h : ∀ t' k, Q (.str (Txt.slice x (some a) (some b)) t') { s with toks := k }) : (sliceMade x t (some (a, ta)) (some (b, tb)) none).post Q s :=
  post_val_or_str ⟨Nat.le_trans (Txt.slice_le x (some a) (some b)) hsz, h⟩
theorem is_isSome {o : Option Value} {p : Option Int} (h : Is o p) : o.isSome = p.isSome := by
  cases o <;> cases p <;> first | rfl | exact h.elim
theorem paired_eq {α : Type} : ∀ {a b : List α}, Paired (fun v y => v = y) a b → a = b
  | _, _, .nil => rfl
  | _, _, .cons h r => by rw [h, paired_eq r]
theorem filt_empty {xs : List Value} {j : Nat} {f : Nat → Bool} (hlen : xs.length = j) (hP : ∀ i v, xs[i]? = some v → i < j ∧ ∃ t, v = .int (0 + (i : Int) * 1) t) :
    (xs.filter fun v => match v with | .int k _ => f k.toNat | _ => false).isEmpty = ((List.range j).filter f).isEmpty := by
  rw [Bool.eq_iff_iff, List.isEmpty_iff, List.isEmpty_iff, List.filter_eq_nil_iff, List.filter_eq_nil_iff]
  constructor
  · intro h i hi
    have hi := List.mem_range.mp hi
    have hx : xs[i]? = some (xs[i]'(by omega)) := List.getElem?_eq_getElem (by omega)
    obtain ⟨_, t, e⟩ := hP i _ hx
    have := h _ (List.getElem_mem (by omega : i < xs.length))
    rw [e] at this
    simpa [show (0 + (i : Int) * 1).toNat = i from by omega] using this
  · intro h v hv
    obtain ⟨i, hi, rfl⟩ := List.mem_iff_getElem.mp hv
    obtain ⟨hij, t, e⟩ := hP i _ (List.getElem?_eq_getElem hi)
    rw [e]
    have := h i (List.mem_range.mpr hij)
    simpa [show (0 + (i : Int) * 1).toNat = i from by omega] using this
theorem wayStep_len (Wf : Str → Option Int) (acc : List Str) (o : List Nat) (n : Nat) : (wayStep Wf acc o n).length ≤ acc.length + 1 := by
  unfold wayStep
  split <;> simp
theorem wayRow_len' (Wf : Str → Option Int) (acc : List Str) (o : List Nat) : ∀ k, (wayRow Wf acc o k).length ≤ acc.length + k
  | 0 => Nat.le_refl _
  | k + 1 => by
    have h1 := wayRow_len' Wf acc o k
    have h2 := wayStep_len Wf (wayRow Wf acc o k) o k
    rw [show wayRow Wf acc o (k + 1) = wayStep Wf (wayRow Wf acc o k) o k from by unfold wayRow; rw [List.range_succ, List.foldl_append]; rfl]
    omega
theorem ways_len (Wf : Str → Option Int) : ∀ (os : List (List Nat)) (acc : List Str), (os.foldl (fun acc o => wayRow Wf acc o 4) acc).length ≤ acc.length + 4 * os.length
  | [], acc => by simp
  | o :: r, acc => by
    have h1 := ways_len Wf r (wayRow Wf acc o 4)
    have h2 := wayRow_len' Wf acc o 4
    simp only [List.foldl_cons, List.length_cons]
    omega
theorem wayRow_len (Wf : Str → Option Int) (os : List (List Nat)) (o : List Nat) (j : Nat) (h : os.length ≤ 6) (hj : j ≤ 4) : (wayRow Wf (waysP Wf os) o j).length ≤ 28 := by
  have h1 := ways_len Wf os []
  have h2 := wayRow_len' Wf (waysP Wf os) o j
  unfold waysP at h2 ⊢
  simp at h1
  omega
theorem range_small0 : ∀ k : Nat, k ≤ 8 → Builtin.Range.small 0 (0 + (k : Int)) 1 = true ∧ Builtin.Range.rangeSize 0 (0 + (k : Int)) 1 = (k : Int) := by decide +kernel
theorem ways_spec : ∀ {w : World} {lo : List Str} {A : Around} {R : Result → Shared → Prop} {s : Shared} {mg mb : Str → Option Value} {e : Addr} {kvs : List (Str × Value)} {Wf : Str → Option Int},
  (hd.heap_39 w.params).In s.heap → TopRead hd.view_39 lo mg mb s.heap → A.depth < 900 → A.handled = none → A.units ≤ 1000 → (e == sysModules) = false →
    s.heap.DictOf (strKind (PySem.Challenge.rw_xo0016_01).row.prog w) e kvs → (∀ x, Is (valueAt kvs x) (Wf x)) →
    (∀ h' tk a o vs n, Ext s.heap h' → s.heap.get? a = none → h'.get? a = some o → o.cls = .type "list" → o.data = .seq (List.toArray vs) n → StrsAre vs (waysP Wf orders) → R (.ok (.ret (.ref a))) { s with heap := h', toks := tk }) →
    codeAny (model (PySem.Challenge.rw_xo0016_01).row.prog w) A (.call (.ref 153) ⟨[.ref e], []⟩) R s := by
  k_fill
  intro w lo A R s mg mb e kvs Wf X T hdp hh hun hes hE hW hR
  refine' enterC X T ?k1 ?k2 ?k3 ?k4 ?k5 ?k6 ?_ ?c2 ?c3 ?c4
  case k1 => k_is
  case k2 => k_is
  case k3 => show A.depth < 1000; omega
  case k4 => exact BindsTo.of_eq (binds := [("wires", .ref e)]) rfl
  case k5 => rfl
  case k6 => decide
  case c2 => rfl
  case c3 => rfl
  case c4 => rfl
  intro L h₁ tk cells F N Y
  obtain ⟨oy, ow, rfl, dy, dw⟩ := CellsAre.two Y
  have Z : Lz s.heap L _ _ h₁ := ⟨F, N, by simp⟩
  clear F N Y
  refine wpAny_noRaise (hideQ fun Q₀ hQ₀ => ?_)
  have F := Z.fr
  have N := Z.nw
  refine wpAny_execs_cons (wpAny_Assign_Name ?_)
  iterate 4 (walk1; try dsimp only)
  rename_i W hA Z1 F1 N1 hB tB Z F2 N2
  refine wpAny_execs_cons (ForZ (h₀ := s.heap) ?_)
  repeat (walk1; try dsimp only)
  rename_i lst hC Z F3 N3
  refine srcList hh Z (List.mem_cons_self ..) rfl rfl
    (fun i m news => ∃ m₀ vs n oy' v0, m = ov [("ways", .ref W)] m₀ ∧ news = [(lst, _), (W, lstO vs n), (L + 1 + 1, oy'), (L + 1, ow)] ∧ oy'.data = .cell v0 ∧ StrsAre vs (waysP Wf (orders.take i)))
    ⟨_, [], 0, oy, _, ov_at ⟨rfl, trivial⟩, rfl, dy, .nil⟩ ?_ ?_
  · rintro i x m₁ news₁ own h₄ tk₄ hx ⟨m₀, vs, n, oy', v0, rfl, rfl, dy', hs'⟩ _ Z
    obtain ⟨o, to, ho, hol, rfl⟩ : ∃ o t, orders[i]? = some o ∧ o.length = 3 ∧ x = .str (S o) t := by
      rcases i with _ | _ | _ | _ | _ | _ | i <;> simp at hx
      all_goals exact ⟨_, _, rfl, rfl, hx.symm⟩
    have htk : orders.take (i + 1) = orders.take i ++ [o] := by rw [List.take_add_one, ho]; rfl
    refine wpAny_assign_Name (stX Z fun h₅ t₅ Z => ?_)
    have F := Z.fr
    have N := Z.nw
    dsimp only
    refine hideQ fun Q₁ hQ₁ => ?_
    refine wpAny_execs_cons (ForZ (h₀ := s.heap) ?_)
    repeat (walk1; try dsimp only)
    rename_i hr _ _ hk
    have Z := Z.ext hk
    refine srcRange (n := 4) hh hr (by decide) (by decide) Z
      (fun j m news => ∃ m₀ vs n oy' v0, m = ov [("ways", .ref W), ("order", .str (S o) to)] m₀ ∧ news = own ++ [(lst, _), (W, lstO vs n), (L + 1 + 1, oy'), (L + 1, ow)] ∧ oy'.data = .cell v0 ∧ StrsAre vs (wayRow Wf (waysP Wf (orders.take i)) o j))
      ⟨_, vs, n, oy', v0, ov_at ⟨rfl, rfl, trivial⟩, rfl, dy', hs'⟩ ?_ ?_
    · rintro j tj m₂ news₂ own₂ h₆ tk₆ hj ⟨m₁, vs, n, oy', v0, rfl, rfl, dy', hs'⟩ Z
      refine wpAny_assign_Name (stX Z fun h₇ t₇ Z => ?_)
      have F := Z.fr
      have N := Z.nw
      dsimp only
      refine hideQ fun Q₂ hQ₂ => ?_
      refine wpAny_execs_cons ?_
      repeat (walk1; try dsimp only)
      rename Lz _ _ _ _ _ => Z
      rw [show Txt.slice (S o) none (some (0 + (j : Int))) = S (o.take j) from sl_to o (by omega) (by omega), show Str.ofString "a" ++ S (o.take j) = S (97 :: o.take j) from by rw [show Str.ofString "a" = S [97] from by decide +kernel, S_app]; rfl]
      have e5 : ∀ (x y z t : Addr × Obj), own₂ ++ (own ++ [x, y, z, t]) = (own₂ ++ own ++ [x, y]) ++ z :: [t] := fun x y z t => by simp
      rw [e5] at Z
      refine stC Z dy' fun h₈ oz Z dz => ?_
      have hol3 : (o.take j).length = j := by rw [List.length_take]; omega
      have F := Z.fr
      have N := Z.nw
      dsimp only
      refine wpAny_execs_cons (wpAny_If ?_)
      walk1
      walk1
      refine ldC (c := L + 1 + 1) (o := oz) Z (by simp) dz ?_
      refine ldX Z rfl ?_
      refine notin_list_strs ⟨_, Z.get (a := W) (o := lstO vs n) (by simp), rfl, n, rfl⟩ hs' ?_
      walk1
      cases hany : (wayRow Wf (waysP Wf (orders.take i)) o j).any (· == S (97 :: o.take j)) with
      | true =>
        simp only [Bool.not_true, Bool.false_eq_true, if_false]
        repeat (refine wpAny_execs_nil ?_; try dsimp only)
        subst hQ₂
        rw [← e5] at Z
        refine ⟨_, _, _, _, rfl, Z, fun p hp => (nomatch hp), _, vs, n, oz, _, ov_at ⟨rfl, rfl, trivial⟩, rfl, dz, ?_⟩
        rw [show wayRow Wf (waysP Wf (orders.take i)) o (j + 1) = wayStep Wf (wayRow Wf (waysP Wf (orders.take i)) o j) o j from by unfold wayRow; rw [List.range_succ, List.foldl_append]; rfl]
        unfold wayStep
        rw [hany]
        exact hs'
      | false =>
        simp only [Bool.not_false, if_true]
        walk1
        walk1
        refine wpAny_ListComp_free (cl := [(Str.ofString "wires", L + 1), (Str.ofString "way", L + 1 + 1)]) (fun v => match v with | .int k _ => brokenAt Wf (97 :: o.take j) k.toNat | _ => false) (fun v y => v = y) rfl (by decide) rfl (by decide) rfl ?_
        repeat (walk1; try dsimp only)
        rename_i hr2 _ _ hk2
        have Z := Z.ext hk2
        obtain ⟨hsm, hrs⟩ := range_small0 j (by omega)
        refine wpAny_pyIter_range hr2 hsm ?_
        have hE8 := hE.at fun q y => Z.keep _ q y
        refine ⟨_, _, _, j, _, _, rfl, walksLt (Walks.range (by exact hh) _ 0 1 j), by rw [sizeLine_eq]; omega, ?_, ?_, ⟨?_, ?_⟩, ?_⟩
        · show Heap.get? _ _ = some _
          rw [Heap.get?_push_size _ rfl, hrs]
          simp [rawInt]
        · intro b hb
          rw [List.mem_singleton.mp hb, Heap.size_push]
          exact Nat.lt_succ_self _
        · intro C i' v s₃ m₃ E' hC hP hn hm hk3 ht
          obtain ⟨hi4, tv, rfl⟩ := hP
          rw [List.forIn_cons, if_pos rfl]
          refine wpAny_bind (wpAny_bind ?_)
          walk1
          have hz3 : s₃.heap.get? (L + 1 + 1) = some oz := hk3 _ _ (fun z => Nat.lt_irrefl _ (by have := Z.lt (p := (L + 1 + 1, oz)) (by simp); rw [List.mem_singleton.mp z] at this; exact this)) (Heap.get?_push_of_some _ (Z.get (by simp)))
          refine wpAny_Subscript_str_slice ?_
          refine wpAny_Name (wpAny_loadName_cell rfl rfl rfl ⟨oz, hz3, dz⟩ ?_) (by decide)
          refine evalPart_some_step (wpAny_Name (wpAny_loadName_local rfl rfl hn hm ?_) (by decide))
          refine evalPart_some_step ?_
          walk1
          refine wpAny_Name (wpAny_loadName_local rfl rfl hn hm ?_) (by decide)
          iterate 2 (walk1; try dsimp only)
          refine ⟨S (97 :: o.take j), _, some (0 + (i' : Int) * 1, tv), some (0 + (i' : Int) * 1 + 2, _), rfl, rfl, rfl, ?_⟩
          refine slice_post (by rw [S_len, sizeLine_eq]; simp; omega) fun t' k' => ?_
          rw [sl_mid (97 :: o.take j) (i := 0 + (i' : Int) * 1) (j := 0 + (i' : Int) * 1 + 2) (a := i') (b := i' + 2) (by omega) (by omega) (by omega) (by simp; omega)]
          dsimp only
          have dw' : ow.data = .cell (some (.ref e)) := by rw [dw]; rfl
          have hw3 : s₃.heap.get? (L + 1) = some ow := hk3 _ _ (fun z => Nat.lt_irrefl _ (by have := Z.lt (p := (L + 1, ow)) (by simp); rw [List.mem_singleton.mp z] at this; exact this)) (Heap.get?_push_of_some _ (Z.get (by simp)))
          refine wpAny_Name (wpAny_loadName_cell rfl rfl rfl ⟨ow, Heap.get?_push_of_some _ hw3, dw'⟩ ?_) (by decide)
          have hE9 := hE8.at fun q (y : _ = some q) => Heap.get?_push_of_some (h := s₃.heap) { cls := .type "slice", data := .fields #[partValue (some (0 + (i' : Int) * 1, tv)), partValue (some (0 + (i' : Int) * 1 + 2, s₃.toks + 1)), .none] } (hk3 _ q (fun z => Nat.lt_irrefl _ (by have := Heap.lt_size y; rw [List.mem_singleton.mp z] at this; exact this)) (Heap.get?_push_of_some _ y))
          refine wpAny_notIn_of (strKind_is _ _ _ _) hes hE9.mapOf ?_
          rw [show i' + 2 - i' = 2 from by omega]
          refine wpAny_truthy_bool (wpAny_pure (wpAny_pure ⟨?_, _, _, rfl, fun b q z => Heap.get?_push_of_some _ z⟩))
          show (!(valueAt kvs _).isSome) = (Wf (S (((97 :: o.take j).drop (0 + (i' : Int) * 1).toNat).take 2))).isNone
          rw [is_isSome (hW _), show (0 + (i' : Int) * 1).toNat = i' from by omega]
          cases Wf (S (((97 :: o.take j).drop i').take 2)) <;> rfl
        · intro C i' v s₃ m₃ E' hC hP hpv hn hm hk3 ht
          refine wpAny_Name (wpAny_loadName_local rfl rfl hn hm ?_) (by decide)
          exact ⟨rfl, _, _, rfl, fun _ _ e => e⟩
        · intro D h' tk ys xs hD hl hpl hlen hvs hF hk3
          obtain ⟨n2, hpl'⟩ := hpl
          have hx9 : Ext _ h' := fun b q z => hk3 b q (fun y => Nat.lt_irrefl _ (by have := Heap.lt_size z; rw [List.mem_singleton.mp y] at this; exact this)) (Heap.get?_push_of_some _ z)
          have Z := Z.addNew hx9 hpl' (by
            cases q : Heap.get? _ D with
            | none => rfl
            | some y => exact absurd (hD.symm.trans (Heap.get?_push_of_some _ q)) (by simp))
          have F := Z.fr
          have N := Z.nw
          have hys : ys.toList = xs.filter fun v => match v with | .int k _ => brokenAt Wf (97 :: o.take j) k.toNat | _ => false := (paired_eq hF).symm
          have hem : (xs.filter fun v => match v with | .int k _ => brokenAt Wf (97 :: o.take j) k.toNat | _ => false).isEmpty = ((List.range j).filter (brokenAt Wf (97 :: o.take j))).isEmpty := filt_empty hlen hvs
          iterate 3 (walk1; try dsimp only)
          rename Lz _ _ _ _ _ => Z
          have hst : wayRow Wf (waysP Wf (orders.take i)) o (j + 1) = wayStep Wf (wayRow Wf (waysP Wf (orders.take i)) o j) o j := by unfold wayRow; rw [List.range_succ, List.foldl_append]; rfl
          cases hb : ((List.range j).filter (brokenAt Wf (97 :: o.take j))).isEmpty with
          | true =>
            have hy0 : ys = #[] := by
              rw [hb] at hem
              rw [List.isEmpty_iff.mp hem] at hys
              exact Array.toList_eq_nil_iff.mp hys
            subst hy0
            refine SeqAt.eq_listAt (items := #[]) (items2 := #[]) (e := fun _ => true) ⟨_, Z.get (.tail _ (.head _)), rfl, _, rfl⟩ ⟨_, Z.get (.head _), rfl, _, rfl⟩ rfl (by show A.units + 3 < cLine; rw [show cLine = 9900 from rfl]; omega) (fun j h1 h2 => absurd h1 (Nat.not_lt_zero j)) ?_
            rw [show ((List.range (#[] : Array Value).size).all fun _ => true) = true from rfl]
            have Z := Z.sub ((List.sublist_cons_self _ _).trans (List.sublist_cons_self _ _))
            have F := Z.fr
            have N := Z.nw
            walk1
            simp only [if_true]
            iterate 6 (walk1; try dsimp only)
            refine appendMZ (d := W) (vs := vs) (n := n) Z (by simp) ?_
            iterate 2 (walk1; try dsimp only)
            refine ldC (c := L + 1 + 1) (o := oz) Z (by simp) dz ?_
            walk1
            have e6 : ∀ (x y z t : Addr × Obj), (own₂ ++ own ++ [x, y]) ++ z :: [t] = (own₂ ++ own ++ [x]) ++ y :: [z, t] := fun x y z t => by simp
            rw [e6] at Z
            refine appendZ Z (fun h₉ n₉ Z => ?_) (by rw [hs'.length, sizeLine_eq]; exact Nat.le_trans (wayRow_len Wf (orders.take i) o j (by rw [List.length_take]; exact Nat.le_trans (Nat.min_le_right ..) (by decide)) (by omega)) (by decide))
            rw [← e6, ← e5] at Z
            repeat (refine wpAny_execs_nil ?_; try dsimp only)
            subst hQ₂
            refine ⟨_, _, _, _, rfl, Z, fun p hp => (nomatch hp), _, _, n₉, oz, _, ov_at ⟨rfl, rfl, trivial⟩, rfl, dz, ?_⟩
            rw [hst]
            unfold wayStep
            rw [hany, hb]
            exact strsAre_snoc hs' _ _
          | false =>
            have hy0 : ys.size ≠ 0 := by
              intro q
              have : ys = #[] := Array.eq_empty_of_size_eq_zero q
              subst this
              rw [hb, ← hys] at hem
              cases hem
            refine SeqAt.eq_list_lengthsAt (items := ys) (items2 := #[]) ⟨_, Z.get (.tail _ (.head _)), rfl, n2, rfl⟩ ⟨_, Z.get (.head _), rfl, _, rfl⟩ (by simpa using hy0) (by show A.units + 3 < cLine; rw [show cLine = 9900 from rfl]; omega) ?_
            have Z := Z.sub ((List.sublist_cons_self _ _).trans (List.sublist_cons_self _ _))
            walk1
            simp only [Bool.false_eq_true, if_false]
            repeat (refine wpAny_execs_nil ?_; try dsimp only)
            subst hQ₂
            rw [← e5] at Z
            refine ⟨_, _, _, _, rfl, Z, fun p hp => (nomatch hp), _, vs, n, oz, _, ov_at ⟨rfl, rfl, trivial⟩, rfl, dz, ?_⟩
            rw [hst]
            unfold wayStep
            rw [hany, hb]
            exact hs'
    · rintro h₆ tk₆ m' news' Z ⟨m₁, vs, n, oy', v0, rfl, rfl, dy', hs'⟩
      dsimp only
      refine wpAny_execs_nil ?_
      subst hQ₁
      refine ⟨_, _, _, _, rfl, Z, fun p hp => ?_, _, vs, n, oy', v0, ov_at ⟨rfl, trivial⟩, rfl, dy', ?_⟩
      · rw [List.mem_singleton.mp hp]; exact List.mem_cons_self ..
      · rw [htk, show waysP Wf (orders.take i ++ [o]) = wayRow Wf (waysP Wf (orders.take i)) o 4 from by unfold waysP; rw [List.foldl_append]; rfl]
        exact hs'
  · rintro h₃ tk₃ m' news' Z _ ⟨m₀, vs, n, oy', v0, rfl, rfl, dy', hs'⟩
    refine wpAny_execs_cons (wpAny_Return_some (ldX Z rfl ?_))
    subst hQ₀
    exact hR _ _ W (lstO vs n) vs n (fun b o q => Z.keep b o q) (Z.nw (W, lstO vs n) (by simp)).2.2 (Z.get (by simp)) rfl rfl hs'
end Mine

set_option maxHeartbeats 1000000
namespace Mine
/-- a host by its label -/
def hostOf : List Nat → List Nat
  | [] => [108, 111, 99, 97, 108]
  | c :: r => c :: 46 :: hostOf r
def lams16 : List (List Nat) := [[97], [98, 97], [99, 97], [100, 97], [98, 99, 97], [98, 100, 97], [99, 98, 97], [99, 100, 97], [100, 98, 97], [100, 99, 97],
  [98, 99, 100, 97], [98, 100, 99, 97], [99, 98, 100, 97], [99, 100, 98, 97], [100, 98, 99, 97], [100, 99, 98, 97]]
theorem good16 : ∀ la ∈ lams16, goodHost (S (hostOf la)) = true ∧ reachP (S (hostOf la)) = S (46 :: hostOf la.tail) ∧ (hostOf la).length ≤ 13 := by decide +kernel
theorem good0 : goodHost (S (hostOf [])) = true ∧ reachP (S (hostOf [])) = S (hostOf []) := by decide +kernel
def kids (wd : Nat → Nat → Bool) (la : List Nat) : List (List Nat) := (abcd.filter fun n => wd (la.headD 0) n && !la.contains n).map (· :: la)
def refs (wd : Nat → Nat → Bool) (la : List Nat) : Nat := (abcd.filter fun n => wd (la.headD 0) n && la.contains n).length
def queue (wd : Nat → Nat → Bool) : Nat → List (List Nat)
  | 0 => [[97]]
  | p + 1 => queue wd p ++ (match (queue wd p)[p]? with | some la => kids wd la | none => [])
/-- the wired pairs, by six bits -/
def pairBit (c n : Nat) : Nat := match min c n, max c n with
  | 97, 98 => 0 | 97, 99 => 1 | 97, 100 => 2 | 98, 99 => 3 | 98, 100 => 4 | 99, 100 => 5 | _, _ => 6
def wdG (g : Nat) (c n : Nat) : Bool := Nat.testBit g (pairBit c n) && pairBit c n != 6
def hostsG (g : Nat) : List (List Nat) := queue (wdG g) 16
theorem queueG : ∀ g < 64, (queue (wdG g) 16).length ≤ 16 ∧ (∀ la ∈ queue (wdG g) 16, la ∈ lams16) ∧ (queue (wdG g) 16).Nodup := by decide +kernel
end Mine

set_option maxHeartbeats 1000000
namespace Mine
/-- what wiresF answers at a pair, by the six weights -/
def bitsOf (ws : List Int) : Nat := ((ws.zipIdx.filter fun p => p.1.fmod 3 ≠ 0).map fun p => 2 ^ p.2).sum
def wtG (ws : List Int) (c n : Nat) : Int := if (ws.getD (pairBit c n) 0).fmod 3 ≠ 0 ∧ pairBit c n ≠ 6 then ws.getD (pairBit c n) 0 else 0
theorem pair_strs : pairs = [S [97, 98], S [97, 99], S [97, 100], S [98, 99], S [98, 100], S [99, 100]] := by decide +kernel
theorem riap_S (a b : Nat) : riap (S [a, b]) = S [b, a] := by
  unfold riap
  rw [show Txt.item (S [a, b]) 1 = S [b] from item_S [a, b] (k := 1) rfl (by simp), show Txt.item (S [a, b]) 0 = S [a] from item_S [a, b] (k := 0) rfl (by simp), S_app]
  rfl
/-- the six bits -/
def bit6 (a b c d e f : Int) : Nat := (if a.fmod 3 ≠ 0 then 1 else 0) + (if b.fmod 3 ≠ 0 then 2 else 0) + (if c.fmod 3 ≠ 0 then 4 else 0) + (if d.fmod 3 ≠ 0 then 8 else 0) + (if e.fmod 3 ≠ 0 then 16 else 0) + (if f.fmod 3 ≠ 0 then 32 else 0)
theorem wiresF_six (a b c d e f : Int) (x : Str) : wiresF [a, b, c, d, e, f] x =
    if (x = S [100, 99] ∨ x = S [99, 100]) ∧ f.fmod 3 ≠ 0 then some f else if (x = S [100, 98] ∨ x = S [98, 100]) ∧ e.fmod 3 ≠ 0 then some e else
    if (x = S [99, 98] ∨ x = S [98, 99]) ∧ d.fmod 3 ≠ 0 then some d else if (x = S [100, 97] ∨ x = S [97, 100]) ∧ c.fmod 3 ≠ 0 then some c else
    if (x = S [99, 97] ∨ x = S [97, 99]) ∧ b.fmod 3 ≠ 0 then some b else if (x = S [98, 97] ∨ x = S [97, 98]) ∧ a.fmod 3 ≠ 0 then some a else none := by
  have one : ∀ (g : Str → Option Int) (p q : Nat) (v : Int), wireOne g (S [p, q], v) x = if (x = S [q, p] ∨ x = S [p, q]) ∧ v.fmod 3 ≠ 0 then some v else g x := by
    intro g p q v
    unfold wireOne
    by_cases hv : v.fmod 3 ≠ 0
    · rw [if_pos hv, riap_S]
      unfold put
      by_cases h1 : x = S [q, p]
      · simp [h1, hv]
      · by_cases h2 : x = S [p, q]
        · simp [h2, hv]
        · simp [h1, h2]
    · rw [if_neg hv, if_neg (fun q => hv q.2)]
  unfold wiresF
  rw [pair_strs]
  simp only [List.zip_cons_cons, List.zip_nil_right, List.foldl_cons, List.foldl_nil]
  rw [one, one, one, one, one, one]
end Mine

set_option maxHeartbeats 1000000
namespace Mine
def nz (v : Int) : Bool := decide (v.fmod 3 ≠ 0)
def bitB (a b c d e f : Bool) : Nat := a.toNat + 2 * b.toNat + 4 * c.toNat + 8 * d.toNat + 16 * e.toNat + 32 * f.toNat
theorem bitB_lt : ∀ a b c d e f : Bool, bitB a b c d e f < 64 := by decide
theorem bitB_at : ∀ a b c d e f : Bool, Nat.testBit (bitB a b c d e f) 0 = a ∧ Nat.testBit (bitB a b c d e f) 1 = b ∧ Nat.testBit (bitB a b c d e f) 2 = c ∧ Nat.testBit (bitB a b c d e f) 3 = d ∧ Nat.testBit (bitB a b c d e f) 4 = e ∧ Nat.testBit (bitB a b c d e f) 5 = f := by decide
/-- the weight at a pair, nought where unwired -/
def wt6 (a b c d e f : Int) (x y : Nat) : Int := match pairBit x y with
  | 0 => if nz a then a else 0
  | 1 => if nz b then b else 0
  | 2 => if nz c then c else 0
  | 3 => if nz d then d else 0
  | 4 => if nz e then e else 0
  | 5 => if nz f then f else 0
  | _ => 0
theorem S_eq2 (p q r t : Nat) : (S [p, q] = S [r, t]) ↔ (p = r ∧ q = t) := by
  constructor
  · intro h
    have := congrArg (fun x => x.cps.toList) h
    simpa using this
  · rintro ⟨rfl, rfl⟩; rfl
/-- the place of the wire between x and y among the six, by the six bits -/
def pick6 (a b c d e f : Bool) (x y : Nat) : Option Nat :=
    if ((x = 100 ∧ y = 99) ∨ (x = 99 ∧ y = 100)) ∧ f = true then some 5 else if ((x = 100 ∧ y = 98) ∨ (x = 98 ∧ y = 100)) ∧ e = true then some 4 else
    if ((x = 99 ∧ y = 98) ∨ (x = 98 ∧ y = 99)) ∧ d = true then some 3 else if ((x = 100 ∧ y = 97) ∨ (x = 97 ∧ y = 100)) ∧ c = true then some 2 else
    if ((x = 99 ∧ y = 97) ∨ (x = 97 ∧ y = 99)) ∧ b = true then some 1 else if ((x = 98 ∧ y = 97) ∨ (x = 97 ∧ y = 98)) ∧ a = true then some 0 else none
theorem pick6_at : ∀ a b c d e f : Bool, ∀ x ∈ abcd, ∀ y ∈ abcd, pick6 a b c d e f x y = if wdG (bitB a b c d e f) x y then some (pairBit x y) else none := by decide +kernel
theorem nz_iff (v : Int) : (nz v = true) = (v.fmod 3 ≠ 0) := by unfold nz; exact propext decide_eq_true_iff
theorem wires_pick (a b c d e f : Int) (x y : Nat) : wiresF [a, b, c, d, e, f] (S [x, y]) = (pick6 (nz a) (nz b) (nz c) (nz d) (nz e) (nz f) x y).map fun k => [a, b, c, d, e, f].getD k 0 := by
  rw [wiresF_six]
  unfold pick6
  simp only [S_eq2, nz_iff]
  repeat' split
  all_goals rfl
theorem wt6_at (a b c d e f : Int) {x y : Nat} (h : wdG (bitB (nz a) (nz b) (nz c) (nz d) (nz e) (nz f)) x y = true) : [a, b, c, d, e, f].getD (pairBit x y) 0 = wt6 a b c d e f x y := by
  obtain ⟨h0, h1, h2, h3, h4, h5⟩ := bitB_at (nz a) (nz b) (nz c) (nz d) (nz e) (nz f)
  unfold wt6
  unfold wdG at h
  generalize bitB (nz a) (nz b) (nz c) (nz d) (nz e) (nz f) = G at *
  generalize pairBit x y = k at *
  replace h : G.testBit k = true := (Bool.and_eq_true_iff.mp h).1
  split
  · rw [h0] at h; rw [if_pos h]; rfl
  · rw [h1] at h; rw [if_pos h]; rfl
  · rw [h2] at h; rw [if_pos h]; rfl
  · rw [h3] at h; rw [if_pos h]; rfl
  · rw [h4] at h; rw [if_pos h]; rfl
  · rw [h5] at h; rw [if_pos h]; rfl
  · rename_i n0 n1 n2 n3 n4 n5
    refine (List.getD_eq_getElem?_getD ..).trans ?_
    rw [List.getElem?_eq_none]
    · rfl
    · rcases k with _ | _ | _ | _ | _ | _ | k
      all_goals first | exact absurd rfl ‹_› | simp
theorem wires_at (a b c d e f : Int) : ∀ x ∈ abcd, ∀ y ∈ abcd, wiresF [a, b, c, d, e, f] (S [x, y]) = if wdG (bitB (nz a) (nz b) (nz c) (nz d) (nz e) (nz f)) x y then some (wt6 a b c d e f x y) else none := by
  intro x hx y hy
  rw [wires_pick, pick6_at _ _ _ _ _ _ x hx y hy]
  by_cases h : wdG (bitB (nz a) (nz b) (nz c) (nz d) (nz e) (nz f)) x y = true
  · rw [if_pos h, if_pos h, ← wt6_at a b c d e f h]; rfl
  · rw [if_neg h, if_neg h]; rfl
end Mine

set_option maxHeartbeats 1000000
namespace Mine
/-- the ways by wd, as lists -/
def okL (wd : Nat → Nat → Bool) (way : List Nat) (n : Nat) : Bool := (List.range n).all fun k => wd (way.getD k 0) (way.getD (k + 1) 0)
def wayStepL (wd : Nat → Nat → Bool) (acc : List (List Nat)) (o : List Nat) (n : Nat) : List (List Nat) :=
  if !(acc.contains (97 :: o.take n)) && okL wd (97 :: o.take n) n then acc ++ [97 :: o.take n] else acc
def waysL (wd : Nat → Nat → Bool) : List (List Nat) := orders.foldl (fun acc o => (List.range 4).foldl (fun acc n => wayStepL wd acc o n) acc) []
/-- phase two on counts alone: (count, back, fronts) by label -/
structure Ent where
  cnt : Int
  back : Int
  fronts : List (Str × Int)

def ent0 (wd : Nat → Nat → Bool) (la : List Nat) : Ent := ⟨1, refs wd la, [(S [la.headD 0], 1)]⟩
def entStep (E : List Nat → Ent) (la : List Nat) : List Nat → Ent := fun x => if x = la.tail ∧ la.tail ≠ [] then ⟨(E x).cnt + (E la).cnt, (E x).back + (E la).back, addTab (E x).fronts (E la).fronts⟩ else E x
def entsAfter (wd : Nat → Nat → Bool) (done : List (List Nat)) : List Nat → Ent := done.foldl entStep (ent0 wd)
/-- lasts -/
def lastsL (ways : List (List Nat)) : List (Str × Int) := ways.foldl (fun T w => addOne T (S [w.getLastD 0], 1)) []
def lookT (T : List (Str × Int)) (k : Str) : Option Int := (T.find? fun q => q.1 = k).map (·.2)
def endOk (g : Nat) : Bool :=
  let H := queue (wdG g) 16
  let W := waysL (wdG g)
  let e := entsAfter (wdG g) H.reverse [97]
  decide (H.Perm (W.map List.reverse)) && e.cnt == W.length && e.back == ((W.map fun w => ((w.filter fun n => wdG g (w.getLastD 0) n).length : Int)).sum) &&
    decide (e.fronts.length = (lastsL W).length) && (lastsL W).all (fun q => lookT e.fronts q.1 == some q.2) && (e.fronts.map (·.2)).sum == W.length && decide (e.fronts.length ≤ 4)
theorem endG : ∀ g < 64, endOk g = true := by decide +kernel
end Mine

set_option maxHeartbeats 1000000
namespace Mine
theorem S_inj' {a b : List Nat} : S a = S b ↔ a = b := ⟨S_inj, fun h => h ▸ rfl⟩
theorem way_parts : ∀ o ∈ orders, ∀ n < 4, ∀ k < n, ((97 :: o.take n).drop k).take 2 = [(97 :: o.take n).getD k 0, (97 :: o.take n).getD (k + 1) 0] ∧ (97 :: o.take n).getD k 0 ∈ abcd ∧ (97 :: o.take n).getD (k + 1) 0 ∈ abcd := by decide
section
variable {Wf : Str → Option Int} {wd : Nat → Nat → Bool} (hw : ∀ x ∈ abcd, ∀ y ∈ abcd, (Wf (S [x, y])).isSome = wd x y)
include hw
theorem ok_link {o : List Nat} (ho : o ∈ orders) {n : Nat} (hn : n < 4) : ((List.range n).filter (brokenAt Wf (97 :: o.take n))).isEmpty = okL wd (97 :: o.take n) n := by
  unfold okL
  rw [Bool.eq_iff_iff, List.isEmpty_iff, List.filter_eq_nil_iff, List.all_eq_true]
  constructor
  · intro h k hk
    have hk' := List.mem_range.mp hk
    obtain ⟨h1, h2, h3⟩ := way_parts o ho n hn k hk'
    have := h k hk
    unfold brokenAt at this
    rw [h1] at this
    rw [← hw _ h2 _ h3]
    cases q : Wf (S [(97 :: o.take n).getD k 0, (97 :: o.take n).getD (k + 1) 0]) with
    | none => rw [q] at this; exact absurd rfl this
    | some _ => rfl
  · intro h k hk
    have hk' := List.mem_range.mp hk
    obtain ⟨h1, h2, h3⟩ := way_parts o ho n hn k hk'
    have := h k hk
    rw [← hw _ h2 _ h3] at this
    unfold brokenAt
    rw [h1]
    cases q : Wf (S [(97 :: o.take n).getD k 0, (97 :: o.take n).getD (k + 1) 0]) with
    | none => rw [q] at this; cases this
    | some _ => simp
theorem step_link {o : List Nat} (ho : o ∈ orders) {n : Nat} (hn : n < 4) (acc : List (List Nat)) : wayStep Wf (acc.map S) o n = (wayStepL wd acc o n).map S := by
  unfold wayStep wayStepL
  rw [ok_link hw ho hn]
  have : (acc.map S).any (· == S (97 :: o.take n)) = acc.contains (97 :: o.take n) := by
    rw [Bool.eq_iff_iff, List.any_eq_true, List.contains_iff_mem]
    constructor
    · rintro ⟨x, hx, e⟩
      obtain ⟨y, hy, rfl⟩ := List.mem_map.mp hx
      rw [beq_iff_eq] at e
      exact S_inj e ▸ hy
    · intro h
      exact ⟨_, List.mem_map_of_mem h, by simp⟩
  rw [this]
  split <;> simp
theorem row_link {o : List Nat} (ho : o ∈ orders) : ∀ (k : Nat), k ≤ 4 → ∀ acc : List (List Nat), wayRow Wf (acc.map S) o k = ((List.range k).foldl (fun acc n => wayStepL wd acc o n) acc).map S
  | 0, _, acc => rfl
  | k + 1, hk, acc => by
    have := row_link ho k (by omega) acc
    rw [show wayRow Wf (acc.map S) o (k + 1) = wayStep Wf (wayRow Wf (acc.map S) o k) o k from by unfold wayRow; rw [List.range_succ, List.foldl_append]; rfl, this, step_link hw ho (by omega), List.range_succ, List.foldl_append]
    rfl
theorem ways_link : waysP Wf orders = (waysL wd).map S := by
  unfold waysP waysL
  have : ∀ (os : List (List Nat)), (∀ o ∈ os, o ∈ orders) → ∀ acc : List (List Nat), os.foldl (fun acc o => wayRow Wf acc o 4) (acc.map S) = (os.foldl (fun acc o => (List.range 4).foldl (fun acc n => wayStepL wd acc o n) acc) acc).map S := by
    intro os
    induction os with
    | nil => intro _ acc; rfl
    | cons o r ih =>
      intro h acc
      rw [List.foldl_cons, List.foldl_cons, row_link hw (h o (List.mem_cons_self ..)) 4 (Nat.le_refl _)]
      exact ih (fun q hq => h q (List.mem_cons_of_mem _ hq)) _
  exact this orders (fun o h => h) []
end
end Mine

set_option maxHeartbeats 1000000
namespace Mine
def leftOf (la : List Nat) : List Nat := abcd.filter fun n => !la.contains n
section
variable (wo : Nat → Int) (wt : Nat → Nat → Int)
theorem tx_t1 (n p : Nat) : tieN wo wt (n + 1) [p] = wo p := by simp [tieN, show tieN wo wt n [] = 1 from by cases n <;> rfl]
theorem tx_t2 (n p q : Nat) : tieN wo wt (n + 2) [p, q] = wo p * wo q - wt p q := by
  rw [tieN, tx_t1]
  simp [List.range_succ, show tieN wo wt (n + 1) [] = 1 from rfl]
theorem tx_t3 (n p q r : Nat) : tieN wo wt (n + 3) [p, q, r] = wo p * (wo q * wo r - wt q r) - (wt p q * wo r + wt p r * wo q) := by
  rw [tieN, tx_t2]
  simp [List.range_succ, tx_t1]
theorem tx_t4 (n p q r s : Nat) : tieN wo wt (n + 4) [p, q, r, s] = wo p * tieN wo wt (n + 3) [q, r, s] - (wt p q * (wo r * wo s - wt r s) + wt p r * (wo q * wo s - wt q s) + wt p s * (wo q * wo r - wt q r)) := by
  rw [tieN]
  simp [List.range_succ, tx_t2, Int.add_assoc]
theorem tx_x0 (c : Nat) : tieN wo wt 4 [c] = wo c * tieN wo wt 4 [] - 0 := by rw [tx_t1]; simp [tieN]
theorem tx_x1a (x y : Nat) : tieN wo wt 4 [x, y] = wo x * tieN wo wt 4 [y] - (wt x y * tieN wo wt 4 [] + 0) := by rw [tx_t2, tx_t1]; simp [tieN]
theorem tx_x1b (hs : ∀ x y, wt x y = wt y x) (x y : Nat) : tieN wo wt 4 [x, y] = wo y * tieN wo wt 4 [x] - (wt y x * tieN wo wt 4 [] + 0) := by rw [tx_t2, tx_t1, hs, Int.mul_comm]; simp [tieN]
theorem tx_x2a (p q r : Nat) : tieN wo wt 4 [p, q, r] = wo p * tieN wo wt 4 [q, r] - (wt p q * tieN wo wt 4 [r] + (wt p r * tieN wo wt 4 [q] + 0)) := by rw [tx_t3, tx_t2, tx_t1, tx_t1, Int.add_zero]
theorem tx_x2b (hs : ∀ x y, wt x y = wt y x) (p q r : Nat) : tieN wo wt 4 [p, q, r] = wo q * tieN wo wt 4 [p, r] - (wt q p * tieN wo wt 4 [r] + (wt q r * tieN wo wt 4 [p] + 0)) := by
  rw [tx_t3, tx_t2, tx_t1, tx_t1, Int.add_zero, hs q p]; grind
theorem tx_x2c (hs : ∀ x y, wt x y = wt y x) (p q r : Nat) : tieN wo wt 4 [p, q, r] = wo r * tieN wo wt 4 [p, q] - (wt r p * tieN wo wt 4 [q] + (wt r q * tieN wo wt 4 [p] + 0)) := by
  rw [tx_t3, tx_t2, tx_t1, tx_t1, Int.add_zero, hs r p, hs r q]; grind
theorem tx_x3 (p q r s : Nat) : tieN wo wt 4 [p, q, r, s] = wo p * tieN wo wt 4 [q, r, s] - (wt p q * tieN wo wt 4 [r, s] + (wt p r * tieN wo wt 4 [q, s] + (wt p s * tieN wo wt 4 [q, r] + 0))) := by
  rw [tx_t4, tx_t2, tx_t2, tx_t2, tx_t3, tx_t3, Int.add_zero, Int.add_assoc]
end
theorem tie_expand {wo : Nat → Int} {wt : Nat → Nat → Int} (hs : ∀ x y, wt x y = wt y x) : ∀ la ∈ lams16,
    tieN wo wt 4 (leftOf la.tail) = wo (la.headD 0) * tieN wo wt 4 (leftOf la) - ((leftOf la).map fun n => wt (la.headD 0) n * tieN wo wt 4 ((leftOf la).filter (· != n))).sum := by
  intro la hla
  simp only [lams16, List.mem_cons, List.not_mem_nil, or_false] at hla
  rcases hla with rfl | rfl | rfl | rfl | rfl | rfl | rfl | rfl | rfl | rfl | rfl | rfl | rfl | rfl | rfl | rfl
  · exact tx_x3 wo wt 97 98 99 100
  · exact tx_x2a wo wt 98 99 100
  · exact tx_x2b wo wt hs 98 99 100
  · exact tx_x2c wo wt hs 98 99 100
  · exact tx_x1a wo wt 98 100
  · exact tx_x1a wo wt 98 99
  · exact tx_x1a wo wt 99 100
  · exact tx_x1b wo wt hs 98 99
  · exact tx_x1b wo wt hs 99 100
  · exact tx_x1b wo wt hs 98 100
  all_goals exact tx_x0 wo wt _
end Mine

set_option maxHeartbeats 1000000
namespace Mine
section
variable (wo : Nat → Int) (wt : Nat → Nat → Int)
def wholeOf (E : List Nat → Int × Int) (la : List Nat) : Int := wo (la.headD 0) * (E la).1 + (E la).2
def sumStep (E : List Nat → Int × Int) (la : List Nat) : List Nat → Int × Int := fun x =>
  if x = la.tail ∧ la.tail ≠ [] then ((E x).1 * wholeOf wo E la, (E x).2 * wholeOf wo E la - wt (la.headD 0) (x.headD 0) * (E x).1 * (E la).1) else E x
def sumsAfter (done : List (List Nat)) : List Nat → Int × Int := done.foldl (sumStep wo wt) fun _ => (1, 0)
abbrev tieL (l : List Nat) : Int := tieN wo wt 4 l
def doneSum (done : List (List Nat)) (x : List Nat) : Int := ((leftOf x).map fun n => if (n :: x) ∈ done then wt (x.headD 0) n * tieL wo wt ((leftOf x).filter (· != n)) else 0).sum
def Even (E : List Nat → Int × Int) (done : List (List Nat)) : Prop := ∀ x ∈ lams16, (E x).2 * tieL wo wt (leftOf x) = -((E x).1 * doneSum wo wt done x)
end
section
variable {wo : Nat → Int} {wt : Nat → Nat → Int} (hs : ∀ x y, wt x y = wt y x)
theorem sum_all {done : List (List Nat)} {x : List Nat} (h : ∀ n ∈ leftOf x, (n :: x) ∉ done → wt (x.headD 0) n = 0) :
    doneSum wo wt done x = ((leftOf x).map fun n => wt (x.headD 0) n * tieN wo wt 4 ((leftOf x).filter (· != n))).sum := by
  unfold doneSum
  congr 1
  refine List.map_congr_left fun n hn => ?_
  by_cases hd : (n :: x) ∈ done
  · rw [if_pos hd]
  · rw [if_neg hd, h n hn hd, Int.zero_mul]
include hs in
theorem whole_ok {E : List Nat → Int × Int} {done : List (List Nat)} (J : Even wo wt E done) {la : List Nat} (hla : la ∈ lams16) (h : ∀ n ∈ leftOf la, (n :: la) ∉ done → wt (la.headD 0) n = 0) :
    wholeOf wo E la * tieL wo wt (leftOf la) = (E la).1 * tieL wo wt (leftOf la.tail) := by
  have h1 := J la hla
  rw [sum_all h] at h1
  have h2 := tie_expand (wo := wo) hs la hla
  unfold wholeOf tieL at *
  rw [h2]
  grind
theorem left_kid : ∀ la ∈ lams16, la.tail ≠ [] → la.tail ∈ lams16 ∧ leftOf la = (leftOf la.tail).filter (· != la.headD 0) ∧ la.headD 0 ∈ leftOf la.tail ∧ la = la.headD 0 :: la.tail := by decide
theorem left_nodup : ∀ la ∈ lams16, (leftOf la).Nodup := by decide
theorem sum_one : ∀ (l : List Nat) (f g : Nat → Int) (a : Nat) (v : Int), l.Nodup → a ∈ l → f a = 0 → g a = v → (∀ n ∈ l, n ≠ a → g n = f n) → (l.map g).sum = (l.map f).sum + v
  | [], _, _, _, _, _, h, _, _, _ => nomatch h
  | b :: l, f, g, a, v, hn, h, hf, hg, ho => by
    rw [List.nodup_cons] at hn
    rw [List.map_cons, List.map_cons, List.sum_cons, List.sum_cons]
    by_cases e : a = b
    · subst e
      have : l.map g = l.map f := List.map_congr_left fun n hm => ho n (List.mem_cons_of_mem _ hm) fun q => hn.1 (q ▸ hm)
      rw [this, hf, hg]; omega
    · have hm : a ∈ l := (List.mem_cons.mp h).resolve_left e
      rw [sum_one l f g a v hn.2 hm hf hg fun n hn' => ho n (List.mem_cons_of_mem _ hn'), ho b (List.mem_cons_self ..) (Ne.symm e)]
      omega
include hs in
theorem even_step {E : List Nat → Int × Int} {done : List (List Nat)} (J : Even wo wt E done) {la : List Nat} (hla : la ∈ lams16) (hnd : la ∉ done) (h : ∀ n ∈ leftOf la, (n :: la) ∉ done → wt (la.headD 0) n = 0) :
    Even wo wt (sumStep wo wt E la) (done ++ [la]) := by
  intro x hx
  have hw := whole_ok hs J hla h
  unfold sumStep
  by_cases hc : x = la.tail ∧ la.tail ≠ []
  · rw [if_pos hc]
    obtain ⟨rfl, hne⟩ := hc
    obtain ⟨k1, k2, k3, k4⟩ := left_kid la hla hne
    have hds : doneSum wo wt (done ++ [la]) la.tail = doneSum wo wt done la.tail + wt (la.headD 0) (la.tail.headD 0) * tieL wo wt (leftOf la) := by
      unfold doneSum
      refine sum_one _ _ _ (la.headD 0) _ (left_nodup _ k1) k3 ?_ ?_ ?_
      · rw [← k4, if_neg hnd]
      · rw [← k4, if_pos (by simp), k2, hs (la.tail.headD 0)]
      · intro n hn hne'
        have : (n :: la.tail ∈ done ++ [la]) ↔ (n :: la.tail ∈ done) := by
          rw [List.mem_append, List.mem_singleton]
          refine ⟨fun q => q.resolve_right fun z => hne' ?_, .inl⟩
          rw [k4] at z
          exact (List.cons.inj z).1
        simp only [this]
    rw [hds]
    have hj := J la.tail k1
    dsimp only
    unfold tieL at *
    grind
  · rw [if_neg hc]
    have : doneSum wo wt (done ++ [la]) x = doneSum wo wt done x := by
      unfold doneSum
      congr 1
      refine List.map_congr_left fun n hn => ?_
      have : (n :: x ∈ done ++ [la]) ↔ (n :: x ∈ done) := by
        rw [List.mem_append, List.mem_singleton]
        refine ⟨fun q => q.resolve_right fun z => hc ?_, .inl⟩
        subst z
        refine ⟨rfl, fun q => ?_⟩
        have q : x = [] := q
        subst q
        revert hx; decide
      simp only [this]
    rw [this]
    exact J x hx
end
end Mine

set_option maxHeartbeats 1000000
namespace Mine
def orderOk (g : Nat) : Bool :=
  let H := queue (wdG g) 16
  (List.range H.length).all fun i => (leftOf (H.getD i [])).all (fun n => !wdG g ((H.getD i []).headD 0) n || (H.drop (i + 1)).contains (n :: H.getD i [])) &&
    ((H.getD i []).tail == [] || (H.take i).contains (H.getD i []).tail) && ((H.getD i []).tail != [] || wdG g ((H.getD i []).headD 0) ((H.getD i []).tail.headD 0) || true) &&
    ((H.getD i []).tail == [] || wdG g ((H.getD i []).headD 0) ((H.getD i []).tail.headD 0))
theorem orderG : ∀ g < 64, orderOk g = true := by decide +kernel
/-- the queue stands still once its end is reached -/
def stillOk (g : Nat) : Bool := (List.range 17).all fun p => let Q := queue (wdG g) p
  decide (Q.length ≤ 16) && decide (Q ++ (match Q[p]? with | some la => kids (wdG g) la | none => []) = queue (wdG g) (p + 1)) && decide (Q = (queue (wdG g) 16).take Q.length) && (!decide (Q.length ≤ p) || decide (Q = queue (wdG g) 16))
theorem stillG : ∀ g < 64, stillOk g = true := by decide +kernel
theorem kids_congr {wd wd' : Nat → Nat → Bool} {la : List Nat} (h : ∀ n ∈ abcd, wd (la.headD 0) n = wd' (la.headD 0) n) : kids wd la = kids wd' la := by
  unfold kids
  congr 1
  exact List.filter_congr fun n hn => by rw [h n hn]
theorem refs_congr {wd wd' : Nat → Nat → Bool} {la : List Nat} (h : ∀ n ∈ abcd, wd (la.headD 0) n = wd' (la.headD 0) n) : refs wd la = refs wd' la := by
  unfold refs
  congr 1
  exact List.filter_congr fun n hn => by rw [h n hn]
theorem head16 : ∀ la ∈ lams16, la.headD 0 ∈ abcd := by decide
end Mine

set_option maxHeartbeats 1000000
namespace Mine
def eolL (i : Nat) : List Nat := match i % 3 with | 0 => [10] | 1 => [13] | _ => [13, 10]
def rowL (la : List Nat) : List Nat := 46 :: hostOf la.tail
/-- the mail, the first row's end being the d-th -/
def mailL (d : Nat) : List (List Nat) → List Nat
  | [] => []
  | la :: r => rowL la ++ eolL d ++ mailL (d + 1) r
theorem mail_app (d : Nat) (a b : List (List Nat)) : mailL d (a ++ b) = mailL d a ++ mailL (d + a.length) b := by
  induction a generalizing d with
  | nil => simp [mailL]
  | cons x r ih => simp [mailL, ih, Nat.add_comm, Nat.add_left_comm]
theorem row16 : ∀ la ∈ lams16, ∀ c ∈ rowL la, ¬ (c = 10 ∨ c = 13) := by decide
theorem fix_one (i : Nat) (rest : List Nat) (h : rest = [] ∨ ∃ r, rest = 46 :: r) : fixL (eolL i ++ rest) = [13, 10] ++ fixL rest := by
  have h3 : i % 3 < 3 := Nat.mod_lt _ (by decide)
  unfold eolL
  have : i % 3 = 0 ∨ i % 3 = 1 ∨ i % 3 = 2 := by omega
  rcases h with rfl | ⟨r, rfl⟩ <;> rcases this with e | e | e <;> rw [e] <;> simp [fixL]
theorem mail_head (d : Nat) (l : List (List Nat)) : mailL d l = [] ∨ ∃ r, mailL d l = 46 :: r := by
  cases l with
  | nil => exact .inl rfl
  | cons la r => exact .inr ⟨_, rfl⟩
theorem fix_mail : ∀ (l : List (List Nat)) (d : Nat), (∀ la ∈ l, la ∈ lams16) → fixL (mailL d l) = l.flatMap fun la => rowL la ++ [13, 10]
  | [], _, _ => rfl
  | la :: r, d, h => by
    have h1 := row16 la (h la (List.mem_cons_self ..))
    show fixL (rowL la ++ eolL d ++ mailL (d + 1) r) = _
    rw [List.append_assoc, fixL_app _ _ h1, fix_one d _ (mail_head _ _), fix_mail r (d + 1) fun x hx => h x (List.mem_cons_of_mem _ hx), List.flatMap_cons]
    simp
theorem mail_len : ∀ (l : List (List Nat)) (d : Nat), (∀ la ∈ l, la ∈ lams16) → (mailL d l).length ≤ 20 * l.length
  | [], _, _ => Nat.le_refl _
  | la :: r, d, h => by
    have h1 : ∀ la ∈ lams16, (rowL la).length ≤ 13 := by decide
    have h2 := h1 la (h la (List.mem_cons_self ..))
    have h3 := mail_len r (d + 1) fun x hx => h x (List.mem_cons_of_mem _ hx)
    have h4 : (eolL d).length ≤ 2 := by unfold eolL; split <;> simp
    show (rowL la ++ eolL d ++ mailL (d + 1) r).length ≤ _
    simp only [List.length_append, List.length_cons]
    omega
open StrLaws Builtin.Str in
theorem at_crlf {x : List Nat} {k : Nat} (h : StrLaws.At (S x) crlf (S x).length k) : x[k]? = some 13 := by
  have h2 := h.2
  rw [subAt_eq] at h2
  have h3 : ((S x).cps.toList.drop k).take 2 = [13, 10] := eq_of_beq h2
  have h4 : (((S x).cps.toList.drop k).take 2)[0]? = some 13 := by rw [h3]; rfl
  rw [List.getElem?_take_of_lt (by decide), List.getElem?_drop] at h4
  exact h4
open StrLaws Builtin.Str in
theorem crlf_at (u v : List Nat) : StrLaws.At (S (u ++ ([13, 10] ++ v))) crlf (S (u ++ ([13, 10] ++ v))).length u.length := by
  refine ⟨?_, ?_⟩
  · show u.length + 2 ≤ (S (u ++ ([13, 10] ++ v))).length
    rw [S_len, List.length_append, List.length_append]
    simp
  · rw [subAt_eq]
    show (((u ++ ([13, 10] ++ v)).drop u.length).take 2 == [13, 10]) = true
    rw [List.drop_left]
    rfl
open StrLaws Builtin.Str in
theorem rows_from : ∀ (H : List (List Nat)) (u : List Nat) (cuts : List Nat) (f : Nat), (∀ r ∈ H, 13 ∉ r) →
    ChainG (S (u ++ H.flatMap fun r => r ++ [13, 10])) crlf (S (u ++ H.flatMap fun r => r ++ [13, 10])).length u.length cuts f → (∀ k, f ≤ k → ¬ StrLaws.At (S (u ++ H.flatMap fun r => r ++ [13, 10])) crlf (S (u ++ H.flatMap fun r => r ++ [13, 10])).length k) →
    partsFrom (S (u ++ H.flatMap fun r => r ++ [13, 10])) 2 u.length cuts = H.map S ++ [S []]
  | [], u, cuts, f, _, hc, _ => by
    simp only [List.flatMap_nil, List.append_nil] at hc ⊢
    cases cuts with
    | cons c r =>
      have h1 := at_crlf hc.2.1
      have h2 := (List.getElem?_eq_some_iff.mp h1).1
      exact absurd hc.1 (Nat.not_le.mpr h2)
    | nil =>
      show [strSub (S u) u.length (S u).length] = [S []]
      refine congrArg (· :: []) (Str.ext' (Array.toList_inj.mp ?_))
      rw [strSub_toList]
      show (u.drop u.length).take _ = []
      rw [List.drop_length, List.take_nil]
  | r :: H, u, cuts, f, hr, hc, hf => by
    have e : u ++ ((r :: H).flatMap fun r => r ++ [13, 10]) = (u ++ r) ++ ([13, 10] ++ H.flatMap fun r => r ++ [13, 10]) := by simp
    have e2 : (u ++ r) ++ ([13, 10] ++ H.flatMap fun r => r ++ [13, 10]) = (u ++ r ++ [13, 10]) ++ H.flatMap fun r => r ++ [13, 10] := by simp
    rw [e] at hc hf ⊢
    have hA := crlf_at (u ++ r) (H.flatMap fun r => r ++ [13, 10])
    have hlt : ∀ k, u.length ≤ k → k < (u ++ r).length → ¬ StrLaws.At (S ((u ++ r) ++ ([13, 10] ++ H.flatMap fun r => r ++ [13, 10]))) crlf (S ((u ++ r) ++ ([13, 10] ++ H.flatMap fun r => r ++ [13, 10]))).length k := by
      intro k h1 h2 h3
      have h4 := at_crlf h3
      rw [List.getElem?_append_left h2, List.getElem?_append_right h1] at h4
      exact hr r (List.mem_cons_self ..) (List.mem_of_getElem? h4)
    cases cuts with
    | nil =>
      have hfe : f = u.length := hc
      exact absurd hA (hf _ (by rw [hfe, List.length_append]; exact Nat.le_add_right ..))
    | cons c cs =>
      obtain ⟨c1, c2, c3, c4⟩ := hc
      have hce : c = (u ++ r).length := by
        rcases Nat.lt_trichotomy c (u ++ r).length with h | h | h
        · exact absurd c2 (hlt c c1 h)
        · exact h
        · exact absurd hA (c3 _ (by rw [List.length_append]; exact Nat.le_add_right ..) h)
      subst hce
      have c4' : ChainG _ crlf _ (u ++ r ++ [13, 10]).length cs f := (show (u ++ r ++ [13, 10]).length = (u ++ r).length + crlf.length from List.length_append) ▸ c4
      rw [e2] at c4' hf
      have ih := rows_from H (u ++ r ++ [13, 10]) cs f (fun x hx => hr x (List.mem_cons_of_mem _ hx)) c4' hf
      show strSub _ u.length (u ++ r).length :: partsFrom _ 2 ((u ++ r).length + 2) cs = S r :: (H.map S ++ [S []])
      rw [e2, show (u ++ r).length + 2 = (u ++ r ++ [13, 10]).length from (List.length_append (as := u ++ r) (bs := [13, 10])).symm, ih]
      refine congrArg (· :: _) (Str.ext' (Array.toList_inj.mp ?_))
      rw [strSub_toList]
      show (((u ++ r ++ [13, 10]) ++ H.flatMap fun r => r ++ [13, 10]).drop u.length).take _ = r
      rw [List.append_assoc, List.append_assoc, List.drop_left, List.length_append, Nat.add_sub_cancel_left, List.take_left]
open StrLaws Builtin.Str in
theorem split_rows (H : List (List Nat)) (hr : ∀ r ∈ H, 13 ∉ r) : Txt.split (S (H.flatMap fun r => r ++ [13, 10])) crlf = H.map S ++ [S []] := by
  have key : partsFrom (S (H.flatMap fun r => r ++ [13, 10])) 2 0 (occurrences (S (H.flatMap fun r => r ++ [13, 10])) crlf 0 (S (H.flatMap fun r => r ++ [13, 10])).length ((S (H.flatMap fun r => r ++ [13, 10])).length + 1)) = H.map S ++ [S []] := by
    obtain ⟨f, h1, h2⟩ := occ_tight (S (H.flatMap fun r => r ++ [13, 10])) crlf (by decide +kernel)
    exact rows_from H [] _ f hr h1 h2
  unfold Txt.split
  rw [show crlf.length = 2 from by decide +kernel]
  split
  · rename_i hlt
    rw [Bool.or_eq_true, decide_eq_true_eq, decide_eq_true_eq] at hlt
    cases H with
    | nil => rfl
    | cons r H =>
      exfalso
      rcases hlt with h | h
      · rw [S_len] at h; simp at h; omega
      · rw [show Builtin.Str.strKind crlf = 1 from by decide +kernel] at h
        unfold Builtin.Str.strKind at h
        split at h
        · omega
        · split at h <;> omega
  · split
    · rename_i h
      rw [List.isEmpty_iff.mp h] at key
      rw [← key]
      show [_] = [strSub _ 0 _]
      rw [sub_whole]
    · rw [partsBetween_eq, key]
/-- the rows that split hands back -/
theorem split_mail (H : List (List Nat)) (h : ∀ la ∈ H, la ∈ lams16) : Txt.split (S (H.flatMap fun la => rowL la ++ [13, 10])) crlf = (H.map fun la => S (rowL la)) ++ [S []] := by
  have := split_rows (H.map rowL) (by
    intro r hr h13
    obtain ⟨la, hla, rfl⟩ := List.mem_map.mp hr
    exact row16 la (h la hla) 13 h13 (.inr rfl))
  rw [List.flatMap_map, List.map_map] at this
  exact this
end Mine

set_option maxHeartbeats 1000000
namespace Mine
def wo4 (a b c d : Int) : Nat → Int := fun x => if x = 97 then a else if x = 98 then b else if x = 99 then c else if x = 100 then d else 0
theorem wt_symm (a b c d e f : Int) (x y : Nat) : wt6 a b c d e f x y = wt6 a b c d e f y x := by
  unfold wt6 pairBit
  rw [Nat.min_comm, Nat.max_comm]
theorem wt_small {a b c d e f : Int} (ha : a.natAbs ≤ 1000000) (hb : b.natAbs ≤ 1000000) (hc : c.natAbs ≤ 1000000) (hd : d.natAbs ≤ 1000000) (he : e.natAbs ≤ 1000000) (hf : f.natAbs ≤ 1000000) (x y : Nat) : (wt6 a b c d e f x y).natAbs ≤ 1000000 := by
  unfold wt6
  split <;> (try split) <;> simp_all
theorem abcd_pair (x y : Nat) (h : ¬ (x ∈ abcd ∧ y ∈ abcd)) (p q : Nat) (hp : p ∈ abcd) (hq : q ∈ abcd) (C : Prop) : ¬ (((x = p ∧ y = q) ∨ (x = q ∧ y = p)) ∧ C) := by
  rintro ⟨⟨rfl, rfl⟩ | ⟨rfl, rfl⟩, _⟩
  · exact h ⟨hp, hq⟩
  · exact h ⟨hq, hp⟩
theorem pair_six (x y : Nat) (h : ¬ (x ∈ abcd ∧ y ∈ abcd)) : pairBit x y = 6 := by
  have hm : ∀ p q : Nat, p ∈ abcd → q ∈ abcd → min x y = p → max x y = q → False := by
    rintro p q hp hq rfl rfl
    rcases Nat.le_total x y with e | e
    · rw [Nat.min_eq_left e] at hp; rw [Nat.max_eq_right e] at hq; exact h ⟨hp, hq⟩
    · rw [Nat.min_eq_right e] at hp; rw [Nat.max_eq_left e] at hq; exact h ⟨hq, hp⟩
  unfold pairBit
  split <;> first | rfl | (rename_i h1 h2; exact (hm _ _ (by decide) (by decide) h1 h2).elim)
theorem wires_out (a b c d e f : Int) (x y : Nat) (h : ¬ (x ∈ abcd ∧ y ∈ abcd)) : wiresF [a, b, c, d, e, f] (S [x, y]) = none := by
  have k := abcd_pair x y h
  rw [wires_pick]
  unfold pick6
  rw [if_neg (k 100 99 (by decide) (by decide) _), if_neg (k 100 98 (by decide) (by decide) _), if_neg (k 99 98 (by decide) (by decide) _), if_neg (k 100 97 (by decide) (by decide) _),
    if_neg (k 99 97 (by decide) (by decide) _), if_neg (k 98 97 (by decide) (by decide) _)]
  rfl
theorem wt_out (a b c d e f : Int) (x y : Nat) (h : ¬ (x ∈ abcd ∧ y ∈ abcd)) : wt6 a b c d e f x y = 0 := by
  unfold wt6
  rw [pair_six x y h]
  rfl
theorem wt_off {a b c d e f : Int} {x y : Nat} (h : wdG (bitB (nz a) (nz b) (nz c) (nz d) (nz e) (nz f)) x y = false) : wt6 a b c d e f x y = 0 := by
  obtain ⟨h0, h1, h2, h3, h4, h5⟩ := bitB_at (nz a) (nz b) (nz c) (nz d) (nz e) (nz f)
  unfold wt6
  unfold wdG at h
  generalize bitB (nz a) (nz b) (nz c) (nz d) (nz e) (nz f) = G at *
  generalize pairBit x y = k at *
  split
  · rw [h0] at h; have h : nz a = false := by simpa using h
    simp [h]
  · rw [h1] at h; have h : nz b = false := by simpa using h
    simp [h]
  · rw [h2] at h; have h : nz c = false := by simpa using h
    simp [h]
  · rw [h3] at h; have h : nz d = false := by simpa using h
    simp [h]
  · rw [h4] at h; have h : nz e = false := by simpa using h
    simp [h]
  · rw [h5] at h; have h : nz f = false := by simpa using h
    simp [h]
  · rfl
theorem wires_are {kvs : List (Str × Value)} {a b c d e f : Int} (hk : ∀ x, Is (valueAt kvs x) (wiresF [a, b, c, d, e, f] x))
    (ha : a.natAbs ≤ 1000000) (hb : b.natAbs ≤ 1000000) (hc : c.natAbs ≤ 1000000) (hd : d.natAbs ≤ 1000000) (he : e.natAbs ≤ 1000000) (hf : f.natAbs ≤ 1000000) : WiresAre kvs (wt6 a b c d e f) := by
  refine ⟨wt_small ha hb hc hd he hf, fun x y => ?_⟩
  have := hk (S [x, y])
  by_cases hin : x ∈ abcd ∧ y ∈ abcd
  · rw [wires_at a b c d e f x hin.1 y hin.2] at this
    by_cases hw : wdG (bitB (nz a) (nz b) (nz c) (nz d) (nz e) (nz f)) x y = true
    · rw [if_pos hw] at this
      right
      cases hv : valueAt kvs (S [x, y]) with
      | none => rw [hv] at this; exact this.elim
      | some v => rw [hv] at this; obtain ⟨t, rfl⟩ := this; exact ⟨t, rfl⟩
    · rw [if_neg hw] at this
      left
      refine ⟨?_, wt_off (by simpa using hw)⟩
      cases hv : valueAt kvs (S [x, y]) with
      | none => rfl
      | some v => rw [hv] at this; exact this.elim
  · rw [wires_out a b c d e f x y hin] at this
    left
    refine ⟨?_, wt_out a b c d e f x y hin⟩
    cases hv : valueAt kvs (S [x, y]) with
    | none => rfl
    | some v => rw [hv] at this; exact this.elim
theorem wired_link (a b c d e f : Int) : ∀ x ∈ abcd, ∀ y ∈ abcd, (wiresF [a, b, c, d, e, f] (S [x, y])).isSome = wdG (bitB (nz a) (nz b) (nz c) (nz d) (nz e) (nz f)) x y := by
  intro x hx y hy
  rw [wires_at a b c d e f x hx y hy]
  by_cases hw : wdG (bitB (nz a) (nz b) (nz c) (nz d) (nz e) (nz f)) x y = true
  · rw [if_pos hw, hw]; rfl
  · rw [if_neg hw]
    have : wdG (bitB (nz a) (nz b) (nz c) (nz d) (nz e) (nz f)) x y = false := by simpa using hw
    rw [this]; rfl
theorem inLab16 : ∀ la ∈ lams16, ∀ n ∈ abcd, inLab (S la) n = la.contains n := by decide +kernel
theorem hostOf_cons {la : List Nat} (h : la ∈ lams16) : la = la.headD 0 :: la.tail ∧ hostOf la = la.headD 0 :: 46 :: hostOf la.tail := by
  revert h; revert la; decide
section
variable {Wf : Str → Option Int} {wd : Nat → Nat → Bool} (hw : ∀ x ∈ abcd, ∀ y ∈ abcd, (Wf (S [x, y])).isSome = wd x y)
include hw
theorem taken_link {la : List Nat} (hla : la ∈ lams16) : takenP Wf (la.headD 0) (S (hostOf la)) (S la) abcd = (kids wd la).map fun x => S (hostOf x) := by
  unfold takenP kids
  rw [List.map_map]
  have e1 : (abcd.filter fun n => wiredB Wf (la.headD 0) n && !inLab (S la) n) = abcd.filter fun n => wd (la.headD 0) n && !la.contains n := by
    refine List.filter_congr fun n hn => ?_
    rw [inLab16 la hla n hn]
    unfold wiredB
    rw [hw _ (head16 la hla) n hn]
  rw [e1]
  refine List.map_congr_left fun n _ => ?_
  rw [addrP_S]
  rfl
theorem refused_link {la : List Nat} (hla : la ∈ lams16) : (refusedP Wf (la.headD 0) (S (hostOf la)) (S la) abcd).length = refs wd la := by
  unfold refusedP refs
  rw [List.length_map]
  congr 1
  refine List.filter_congr fun n hn => ?_
  rw [inLab16 la hla n hn]
  unfold wiredB
  rw [hw _ (head16 la hla) n hn]
end
theorem queue_still {g p : Nat} (hg : g < 64) (hp : p ≤ 16) : (queue (wdG g) p).length ≤ 16 ∧ queue (wdG g) p = (queue (wdG g) 16).take (queue (wdG g) p).length ∧ ((queue (wdG g) p).length ≤ p → queue (wdG g) p = queue (wdG g) 16) := by
  have := stillG g hg
  unfold stillOk at this
  rw [List.all_eq_true] at this
  have := this p (List.mem_range.mpr (by omega))
  simp only [Bool.and_eq_true, Bool.or_eq_true, decide_eq_true_eq, Bool.not_eq_true', decide_eq_false_iff_not] at this
  obtain ⟨⟨⟨h1, h2⟩, h3⟩, h4⟩ := this
  exact ⟨h1, h3, fun q => h4.resolve_left fun z => z q⟩
theorem queue_mem {g p : Nat} (hg : g < 64) (hp : p ≤ 16) : ∀ la ∈ queue (wdG g) p, la ∈ lams16 := by
  intro la h
  rw [(queue_still hg hp).2.1] at h
  exact (queueG g hg).2.1 la (List.mem_of_mem_take h)
theorem queue_nodup {g p : Nat} (hg : g < 64) (hp : p ≤ 16) : (queue (wdG g) p).Nodup := by
  rw [(queue_still hg hp).2.1]
  exact (queueG g hg).2.2.sublist (List.take_sublist ..)
/-- order facts, one by one -/
theorem order_at {g : Nat} (hg : g < 64) {i : Nat} {la : List Nat} (h : (queue (wdG g) 16)[i]? = some la) :
    (∀ n ∈ leftOf la, (n :: la) ∉ (queue (wdG g) 16).drop (i + 1) → wdG g (la.headD 0) n = false) ∧ (la.tail ≠ [] → la.tail ∈ (queue (wdG g) 16).take i ∧ wdG g (la.headD 0) (la.tail.headD 0) = true) := by
  have := orderG g hg
  unfold orderOk at this
  rw [List.all_eq_true] at this
  have hi : i < (queue (wdG g) 16).length := (List.getElem?_eq_some_iff.mp h).1
  have := this i (List.mem_range.mpr hi)
  have e : (queue (wdG g) 16).getD i [] = la := by rw [List.getD_eq_getElem?_getD, h]; rfl
  simp only [e, Bool.and_eq_true, Bool.or_eq_true, List.all_eq_true, Bool.not_eq_true', List.contains_iff_mem, beq_iff_eq, bne_iff_ne] at this
  obtain ⟨⟨⟨h1, h2⟩, _⟩, h4⟩ := this
  refine ⟨fun n hn q => (h1 n hn).resolve_right q, fun q => ⟨h2.resolve_left q, h4.resolve_left q⟩⟩
end Mine

set_option maxHeartbeats 1000000
namespace Mine
def WhileStepZ (h₀ : Heap) (L : Addr) (s : Shared) (J : Nat → (Str → Option Value) → List (Addr × Obj) → Prop) (n : Nat) (f : Flow) (s₃ : Shared) : Prop :=
  f = .next ∧ ∃ h' tk m₂ news₂ n', s₃ = { s with heap := h', toks := tk } ∧ Lz h₀ L m₂ news₂ h' ∧ n' < n ∧ J n' m₂ news₂
section
variable {prog : Program} {w : World} {A : Around} {E : Value → Shared → Prop} {Q : Flow → Shared → Prop} {s : Shared} {env : Env} {h₀ : Heap} {L : Addr}
theorem WhileZ {test : Expr} {body : List Stmt} {pos : Pos} {m : Str → Option Value} {news : List (Addr × Obj)} (J : Nat → (Str → Option Value) → List (Addr × Obj) → Prop) {n₀ : Nat}
    (Z : Lz h₀ L m news s.heap) (hJ : J n₀ m news)
    (turn : ∀ n m₁ news₁ h₁ tk₁, Lz h₀ L m₁ news₁ h₁ → J n m₁ news₁ →
      wpAny (model prog w) A (isTrue test env (eval test env)) (fun b s₂ =>
        if b = true then wpAny (model prog w) A (execs body env) (WhileStepZ h₀ L s J n) E s₂ else Q .next s₂) E { s with heap := h₁, toks := tk₁ })
    (hE : PassesOwn (model prog w) A env E := by passes_own) :
    wpAny (model prog w) A (exec (.While test body [] pos) env) Q E s := by
  refine wpAny_While (codeAny_whileLoop (fun n s' => ∃ h₁ tk₁ m₁ news₁, s' = { s with heap := h₁, toks := tk₁ } ∧ Lz h₀ L m₁ news₁ h₁ ∧ J n m₁ news₁) ?_ n₀ ⟨s.heap, s.toks, m, news, rfl, Z, hJ⟩)
  rintro n s' ⟨h₁, tk₁, m₁, news₁, rfl, Z₁, J₁⟩
  refine wpAny_mono (turn n m₁ news₁ h₁ tk₁ Z₁ J₁) (fun b s₂ h₂ => ?_) hE
  cases b with
  | false =>
    simp only [Bool.false_eq_true, if_false] at h₂ ⊢
    exact wpAny_execs_nil h₂
  | true =>
    simp only [if_true] at h₂ ⊢
    refine wpAny_mono h₂ (fun f s₃ h₃ => ?_) hE
    obtain ⟨rfl, h', tk, m₂, news₂, n', rfl, Z₂, hn, J₂⟩ := h₃
    exact ⟨n', hn, h', tk, m₂, news₂, rfl, Z₂, J₂⟩
end
/-- what was made last goes behind the kept front -/
theorem Lz.toBack {h₀ h : Heap} {L : Addr} {m : Str → Option Value} {frt ents : List (Addr × Obj)} (tmp : List (Addr × Obj)) (Z : Lz h₀ L m (tmp ++ (frt ++ ents)) h) : Lz h₀ L m (frt ++ (tmp ++ ents)) h :=
  Z.perm (by
    rw [← List.append_assoc, ← List.append_assoc]
    exact List.Perm.append_right _ List.perm_append_comm)
end Mine

set_option maxHeartbeats 1000000
namespace Mine
def bmOS : List Value := [.type "OSError", .type "Exception", .type "BaseException", .type "object"]
theorem os_ga : Slot "OSError" "__getattribute__" "BaseException.__getattribute__" :=
  .of (owner := "BaseException") (n := "__getattribute__") (by rw [typeLookup_type, builtinLookup_eq_fast]; kernel_rfl) (by decide +kernel) (by decide +kernel) (by decide +kernel)
    (by first | exact .inl (by decide +kernel) | exact .inr (by decide +kernel)) (by rw [isSubtype_type]; kernel_rfl)
theorem os_mro : mroOf (.type "OSError") = pure bmOS := by kernel_rfl
theorem os_noGetattr : typeLookup (.type "OSError") "__getattr__" = pure none := by rw [typeLookup_type, builtinLookup_eq_fast]; kernel_rfl
theorem os_noRec : typeLookup (.type "OSError") "recipients" = pure none := by rw [typeLookup_type, builtinLookup_eq_fast]; kernel_rfl
section
variable {prog : Program} {w : World} {A : Around} {E : Value → Shared → Prop} {h : Heap} {g : Array GenState} {d : Drawn} {t : Nat} {os : OsState} {a : Addr} {o : Obj} {vs : Array Value}
  {nm q : Str} {C N B : Addr} {bs : List Value} {hdct : Bool} {sn : List Str} {sub : List Value} {ab : Bool} {col : Option Bool} {dd : Option Addr} {k0 k1 k2 k3 k5 : Option Value} {newId : String} {mN mB : Str → Option Value}
  {c0 : Value} {dB : Option Addr} {cd : ClassData} {sl : Array (Option Value)}
theorem look_two {M : Model} {n : Str} {y : Option Value} {Q : Option Value → Shared → Prop}
    (hC : h.get? C = some (excClassObj nm q C N bs (.ref B :: bmOS) hdct sn sub ab col dd k0 k1 k2 k3 k5 newId)) (hN : h.Ns N mN) (hn : mN n = none)
    (hB : h.get? B = some { cls := c0, dict := dB, data := .cls cd, slots := sl }) (hNB : h.Ns cd.ns mB) (hnB : mB n = none)
    (hy : typeLookup (.type "OSError") n = pure y) (hq : Q y ⟨h, g, d, t, os⟩) : wpAny M A (typeLookup (.ref C) n) Q E ⟨h, g, d, t, os⟩ := by
  have hrest : lookupAlong bmOS n = pure y := by rw [typeLookup_eq, os_mro] at hy; exact hy
  rw [typeLookup_eq]
  refine wpAny_bind (wpAny_mroOf_exc hC ?_)
  rw [lookupAlong_cons]
  refine wpAny_bind (wpAny_classOwn_exc hC hN ?_)
  rw [hn]
  show wpAny M A (lookupAlong (.ref B :: bmOS) n) Q E _
  rw [lookupAlong_cons]
  refine wpAny_bind (wpAny_classOwn_cls hB hNB ?_)
  rw [hnB]
  show wpAny M A (lookupAlong bmOS n) Q E _
  rw [hrest]
  exact wpAny_pure hq
theorem check_ga_two {M : Model} {nameV : Value} {Q : Unit → Shared → Prop} (hC : h.get? C = some (excClassObj nm q C N bs (.ref B :: bmOS) hdct sn sub ab col dd k0 k1 k2 k3 k5 newId))
    (hx : h.get? a = some o) (hc : o.cls = .ref C) (hq : Q () ⟨h, g, d, t, os⟩) : wpAny M A (checkBuiltinCall "BaseException.__getattribute__" ⟨[.ref a, nameV], []⟩) Q E ⟨h, g, d, t, os⟩ := by
  have hk : builtinKind "BaseException.__getattribute__" = some .slot := by decide +kernel
  have hsplit : splitId "BaseException.__getattribute__" = some ("BaseException", "__getattribute__") := by decide +kernel
  have hcB : (Value.ref C :: .ref B :: bmOS).contains (.type "BaseException") = true := by simp [bmOS]
  have ha := F.args_bexc_ga (.ref a) nameV
  simp only [checkBuiltinCall, hk, hsplit]
  refine wpAny_bind ?_
  · unfold isInstance
    repeat (first | (with_reducible refine wpAny_loadPart_at hx ?_; rw [hc]) | (with_reducible refine wpAny_isSubtype_exc hC ?_; rw [hcB]) | wp_step)
    exact hq
theorem rec_entry {tk : Tok} {dx : Addr} {rf : Addr} {sl' : Array (Option Value)} {Q : Fin → Shared → Prop} (hC : h.get? C = some (excClassObj nm q C N bs (.ref B :: bmOS) true sn sub ab col dd k0 k1 k2 k3 k5 newId)) (hN : h.Ns N mN)
    (hn : mN "recipients" = none) (hB : h.get? B = some { cls := c0, dict := dB, data := .cls cd, slots := sl }) (hNB : h.Ns cd.ns mB) (hnB : mB "recipients" = none)
    (hx : h.get? a = some ⟨.ref C, some dx, .fields vs, sl'⟩) (hns : h.Ns dx (recMap rf)) (hq : Q (.done (.ret (.ref rf))) ⟨h, g, d, t, os⟩) :
    wpAny (model prog w) A (Builtin.«object.__getattribute__» ⟨[.ref a, .str "recipients" tk], []⟩) Q E ⟨h, g, d, t, os⟩ := by
  have hv : recMap rf "recipients" = some (.ref rf) := by unfold recMap; rw [if_pos rfl]
  repeat (any_goals (first | assumption | (with_reducible refine wpAny_loadPart_at hx ?_) | (with_reducible refine wpAny_loadPart_at hC ?_) | with_reducible refine look_two hC hN hn hB hNB hnB os_noRec ?_ | (with_reducible refine wpAny_nsGet hns ?_; rw [hv]) | wp_step))
theorem rec_call {tk : Tok} {dx : Addr} {rf : Addr} {sl' : Array (Option Value)} {R : Result → Shared → Prop} (hC : h.get? C = some (excClassObj nm q C N bs (.ref B :: bmOS) true sn sub ab col dd k0 k1 k2 k3 k5 newId)) (hN : h.Ns N mN)
    (hn : mN "recipients" = none) (hB : h.get? B = some { cls := c0, dict := dB, data := .cls cd, slots := sl }) (hNB : h.Ns cd.ns mB) (hnB : mB "recipients" = none)
    (hx : h.get? a = some ⟨.ref C, some dx, .fields vs, sl'⟩) (hns : h.Ns dx (recMap rf)) (hq : R (.ok (.ret (.ref rf))) ⟨h, g, d, t, os⟩) :
    codeAny (model prog w) A (.call (.builtin "BaseException.__getattribute__") ⟨[.ref a, .str "recipients" tk], []⟩) R ⟨h, g, d, t, os⟩ :=
  codeAny_call_builtin os_ga.plain F.entry_bexc_ga (check_ga_two hC hx rfl (rec_entry hC hN hn hB hNB hnB hx hns hq))
theorem rec_attr {dx : Addr} {rf : Addr} {sl' : Array (Option Value)} {expr : Bool} {Q : Value → Shared → Prop} (hC : h.get? C = some (excClassObj nm q C N bs (.ref B :: bmOS) true sn sub ab col dd k0 k1 k2 k3 k5 newId)) (hN : h.Ns N mN)
    (hn : mN "recipients" = none ∧ mN "__getattribute__" = none ∧ mN "__getattr__" = none) (hB : h.get? B = some { cls := c0, dict := dB, data := .cls cd, slots := sl }) (hNB : h.Ns cd.ns mB) (hnB : mB "recipients" = none ∧ mB "__getattribute__" = none ∧ mB "__getattr__" = none)
    (hx : h.get? a = some ⟨.ref C, some dx, .fields vs, sl'⟩) (hns : h.Ns dx (recMap rf)) (hq : Q (.ref rf) ⟨h, g, d, t + 1, os⟩) :
    wpAny (model prog w) A (getAttr (.ref a) "recipients" expr) Q E ⟨h, g, d, t, os⟩ := by
  have f3 := os_ga.bind (.ref a)
  have hx0 : (expr && onTheHeap (Value.builtin "BaseException.__getattribute__")) = false := by cases expr <;> rfl
  have hx2 : (Value.builtin "BaseException.__getattribute__" == Value.builtin "object.__getattribute__") = false := by decide +kernel
  have hx1 : (onTheHeap (Value.ref C) && Value.builtin "BaseException.__getattribute__" == Value.builtin "object.__getattribute__") = false := by rw [hx2]; rfl
  unfold getAttr
  repeat (any_goals (first | assumption | (with_reducible refine wpAny_loadPart_at hx ?_) | with_reducible refine look_two hC hN hn.2.1 hB hNB hnB.2.1 os_ga.lookup ?_ | with_reducible refine look_two hC hN hn.2.2 hB hNB hnB.2.2 os_noGetattr ?_ | wp_step))
  refine rec_call hC hN hn.1 hB hNB hnB.1 hx hns ?_
  repeat (any_goals (first | assumption | wp_step))
end
end Mine

set_option maxHeartbeats 1000000
namespace Mine
theorem rec_attrK : ∀ {w : World} {A : Around} {E : Value → Shared → Prop} {s : Shared} {ex dx rf : Addr} {vs : Array Value} {sl : Array (Option Value)} {expr : Bool} {Q : Value → Shared → Prop},
  (hd.heap_39 w.params).In s.heap → s.heap.get? ex = some ⟨.ref 113, some dx, .fields vs, sl⟩ → s.heap.Ns dx (recMap rf) → Q (.ref rf) { s with toks := s.toks + 1 } →
    wpAny (model (PySem.Challenge.rw_xo0016_01).row.prog w) A (getAttr (.ref ex) "recipients" expr) Q E s := by
  k_fill
  intro w A E s ex dx rf vs sl expr Q X hx hns hq
  have hC := (X 113 _ rfl : s.heap.get? 113 = some (excClassObj _ _ 113 112 _ _ _ _ _ _ _ _ _ _ _ _ _ _))
  have hB := (X 93 _ rfl : s.heap.get? 93 = _)
  obtain ⟨hp, g, d, tk, os⟩ := s
  refine rec_attr (mN := hp.nsMap 112) hC (.of_isNs (isNs_of_in X (by kernel_rfl))) ⟨nsMap_none_of_in X (by kernel_rfl) (by k_is), nsMap_none_of_in X (by kernel_rfl) (by k_is), nsMap_none_of_in X (by kernel_rfl) (by k_is)⟩
    hB (.of_isNs (isNs_of_in X (by kernel_rfl))) ⟨nsMap_none_of_in X (by kernel_rfl) (by k_is), nsMap_none_of_in X (by kernel_rfl) (by k_is), nsMap_none_of_in X (by kernel_rfl) (by k_is)⟩ hx hns hq
end Mine

set_option maxHeartbeats 1000000
namespace Mine
section
variable {M : Model} {A : Around} {E : Value → Shared → Prop} {s : Shared} {h₀ : Heap} {L a : Addr} {m : Str → Option Value} {cn : Str} {cs : Scope} {ccd : Value} {cl : List (Str × Addr)} {x : Str} {p : Pos} {v : Value} {news : List (Addr × Obj)}
theorem asgConsX {r : List Expr} {vs : List Value} {Q : Unit → Shared → Prop} (Z : Lz h₀ L m news s.heap)
    (h : ∀ h' t, Lz h₀ L (ov [(x, v)] m) news h' → wpAny M A (assignInOrder ((assignEach r (envX cn cs L a ccd cl)).map (·.2)) vs) Q E { s with heap := h', toks := t })
    (hk : cs.kind = .function := by rfl) (hx : (envX cn cs L a ccd cl).kindOf x = some .local := by rfl) :
    wpAny M A (assignInOrder ((assignEach (.Name x p :: r) (envX cn cs L a ccd cl)).map (·.2)) (v :: vs)) Q E s := by
  show wpAny _ _ (do holding vs (assign (.Name x p) (envX cn cs L a ccd cl) v); assignInOrder ((assignEach r (envX cn cs L a ccd cl)).map (·.2)) vs) Q E s
  exact wpAny_bind (wpAny_holding (wpAny_assign_Name (stX Z h hk hx)))
end
theorem Lz.addTwo {h₀ h h' : Heap} {L : Addr} {m : Str → Option Value} {news : List (Addr × Obj)} (Z : Lz h₀ L m news h) (x : Ext h h') {a b : Addr} {oa ob : Obj} (ha : h'.get? a = some oa) (hb : h'.get? b = some ob)
    (na : h.get? a = none) (nb : h.get? b = none) (hne : a ≠ b) : Lz h₀ L m ((a, oa) :: (b, ob) :: news) h' := by
  refine (Z.addNew x hb nb).add ha ?_ ?_ ?_
  · rintro rfl
    obtain ⟨oL, _, _, hL, _⟩ := Z.fr.ns
    rw [hL] at na; cases na
  · cases e : h₀.get? a with
    | none => rfl
    | some o => rw [Z.keep _ _ e] at na; cases na
  · intro p hp
    rcases List.mem_cons.mp hp with rfl | hp
    · exact fun q => hne q.symm
    · rintro rfl
      rw [(Z.nw p hp).1] at na; cases na
/-- after a raise: all that is no record of fields stays -/
theorem Lz.afterUp {h₀ h h' : Heap} {L : Addr} {m : Str → Option Value} {news : List (Addr × Obj)} (Z : Lz h₀ L m news h) (st : h₀.StaysIn h') (u : UpS [L] h h') (hn : ∀ p ∈ news, ∀ vs, p.2.data ≠ .fields vs) : Lz h₀ L m news h' := by
  obtain ⟨oL, es, ep, hoL, hdL, hk⟩ := Z.fr.ns
  refine ⟨⟨?_, fun b o e => st b o e, Z.fr.above⟩, fun p hp => ?_, Z.nd⟩
  · obtain ⟨_, sl, q⟩ := u L oL hoL fun vs q => by rw [hdL] at q; cases q
    exact ⟨_, es, ep, q, hdL, hk⟩
  · obtain ⟨h1, h2, h3⟩ := Z.nw p hp
    exact ⟨(u p.1 p.2 h1 (hn p hp)).1 (by simpa using h2), h2, h3⟩
theorem Lz.addNone {h₀ h h' : Heap} {L : Addr} {m : Str → Option Value} {news news' : List (Addr × Obj)} (Z : Lz h₀ L m news h) (Z' : Lz h₀ L m news' h') (hs : ∀ p ∈ news', p ∈ news ∨ h.get? p.1 = none) {a : Addr} {o : Obj} (ho : h'.get? a = some o) (na : h.get? a = none)
    (hne : ∀ p ∈ news', h.get? p.1 = none → p.1 ≠ a) : Lz h₀ L m ((a, o) :: news') h' := by
  refine Z'.add ho ?_ ?_ ?_
  · rintro rfl
    obtain ⟨oL, _, _, hL, _⟩ := Z.fr.ns
    rw [hL] at na; cases na
  · cases e : h₀.get? a with
    | none => rfl
    | some o => rw [Z.keep _ _ e] at na; cases na
  · intro p hp
    rcases hs p hp with hp' | hp'
    · rintro rfl
      rw [(Z.nw p hp').1] at na; cases na
    · exact hne p hp hp'
theorem Lz.raised {h₀ h h' : Heap} {L : Addr} {m : Str → Option Value} {news : List (Addr × Obj)} (Z : Lz h₀ L m news h) (st : h₀.StaysIn h') (u : UpS [L] h h') (hn : ∀ p ∈ news, ∀ vs, p.2.data ≠ .fields vs)
    {ex dx rf : Addr} {oex odx orf : Obj} (n1 : h.get? ex = none) (n2 : h.get? dx = none) (n3 : h.get? rf = none) (e1 : ex ≠ dx) (e2 : ex ≠ rf) (e3 : dx ≠ rf)
    (h1 : h'.get? ex = some oex) (h2 : h'.get? dx = some odx) (h3 : h'.get? rf = some orf) : Lz h₀ L m ((ex, oex) :: (dx, odx) :: (rf, orf) :: news) h' := by
  have Z0 := Z.afterUp st u hn
  have Z1 := Lz.addNone Z Z0 (fun p hp => .inl hp) h3 n3 fun p hp q => by rw [(Z.nw p hp).1] at q; cases q
  have Z2 := Lz.addNone Z Z1 (fun p hp => by
    rcases List.mem_cons.mp hp with rfl | hp
    · exact .inr n3
    · exact .inl hp) h2 n2 fun p hp q => by
      rcases List.mem_cons.mp hp with rfl | hp
      · exact Ne.symm e3
      · rw [(Z.nw p hp).1] at q; cases q
  exact Lz.addNone Z Z2 (fun p hp => by
    rcases List.mem_cons.mp hp with rfl | hp
    · exact .inr n2
    · rcases List.mem_cons.mp hp with rfl | hp
      · exact .inr n3
      · exact .inl hp) h1 n1 fun p hp q => by
      rcases List.mem_cons.mp hp with rfl | hp
      · exact Ne.symm e1
      · rcases List.mem_cons.mp hp with rfl | hp
        · exact Ne.symm e2
        · rw [(Z.nw p hp).1] at q; cases q
theorem addListsZ {prog : Program} {w : World} {A : Around} {E : Value → Shared → Prop} {s : Shared} {h₀ : Heap} {L l b : Addr} {m : Str → Option Value} {news : List (Addr × Obj)} {vs ws : List Value} {Q : Value → Shared → Prop}
    (Z : Lz h₀ L m news s.heap) (hl : s.heap.IsList l vs.toArray) (hb : s.heap.IsList b ws.toArray)
    (h : ∀ a h', Lz h₀ L m ((a, lstO (vs ++ ws) 0) :: news) h' → Q (.ref a) { s with heap := h' }) (hsz : vs.length + ws.length ≤ sizeLine) : wpAny (model prog w) A (binaryOp .Add (.ref l) (.ref b)) Q E s :=
  PyProof.Rows.add_lists Z.fr Z.nw hl hb (fun h' F' N' => h _ h' ⟨F', N', by
    rw [List.map_cons, List.nodup_cons]
    refine ⟨fun q => ?_, Z.nd⟩
    obtain ⟨p, hp, e⟩ := List.mem_map.mp q
    exact Nat.ne_of_lt (Z.lt hp) e⟩) hsz
theorem Lz.back {h₀ h : Heap} {L : Addr} {m : Str → Option Value} {frt ents : List (Addr × Obj)} (tmp : List (Addr × Obj)) (Z : Lz h₀ L m (tmp ++ (frt ++ ents)) h) : ∃ en, en = tmp ++ ents ∧ Lz h₀ L m (frt ++ en) h := ⟨_, rfl, Z.toBack tmp⟩
theorem strs_app : ∀ {a b : List Value} {x y : List Str}, StrsAre a x → StrsAre b y → StrsAre (a ++ b) (x ++ y)
  | _, _, _, _, .nil, k => k
  | _, _, _, _, .cons u t h, k => .cons u t (strs_app h k)
theorem splitZ {prog : Program} {w : World} {A : Around} {E : Value → Shared → Prop} {s : Shared} {x y : Str} {t u : Tok} {h₀ : Heap} {L : Addr} {m : Str → Option Value} {news : List (Addr × Obj)} {Q : Value → Shared → Prop}
    (Z : Lz h₀ L m news s.heap) (hy : (y.length == 0) = false) (h : ∀ a vs h' k, StrsAre vs (Txt.split x y) → Lz h₀ L m ((a, lstO vs 0) :: news) h' → Q (.ref a) { s with heap := h', toks := k }) (hsz : x.length + 2 ≤ sizeLine) :
    wpAny (model prog w) A (call (.builtin "str.split") [.str x t, .str y u]) Q E s :=
  splitN1A Z.fr Z.nw hy (fun l h' k e hS _ _ F' N' => h _ (strValues l) h' k (e ▸ hS) ⟨F', N', by
    rw [List.map_cons, List.nodup_cons]
    refine ⟨fun q => ?_, Z.nd⟩
    obtain ⟨p, hp, e⟩ := List.mem_map.mp q
    exact Nat.ne_of_lt (Z.lt hp) e⟩) hsz
end Mine

set_option maxHeartbeats 1000000
namespace Mine
theorem unchain_entry : entryFor table "proto.unchain" = some Builtin.«proto.unchain» := entryFor_of_tree (by kernel_rfl)
section
variable {prog : Program} {w : World} {A : Around} {E : Value → Shared → Prop} {s : Shared} {ex a : Addr} {oe oa : Obj} {vs ws : Array Value}
theorem raise_held {α : Type} {Q : α → Shared → Prop} (hh : A.handled = some (.ref ex)) (hne : ex ≠ a) (hex : s.heap.get? ex = some oe) (hd : oe.data = .fields vs) (h2 : vs[2]? = some .none)
    (ha : s.heap.get? a = some oa) (hda : oa.data = .fields ws) (hsz : 2 < ws.size) (h : E (.ref a) { s with heap := s.heap.update a (Obj.mapFields (·.setIfInBounds 2 (.ref ex))) }) : wpAny (model prog w) A (raiseNew (.ref a) : Sem α) Q E s := by
  unfold raiseNew
  refine wpAny_bind (wpAny_handled ?_)
  rw [hh]
  have hb : (Value.ref ex != Value.ref a) = true := by simpa using hne
  simp only [hb, if_true]
  refine wpAny_bind (wpAny_holding (wpAny_runValue (codeAny_builtin unchain_entry ?_)))
  unfold Builtin.«proto.unchain»
  dsimp only
  refine wpAny_bind (wpAny_field hex hd h2 ?_)
  rw [if_pos (by rfl)]
  refine wpAny_pure ?_
  refine wpAny_bind ?_
  unfold updateField
  refine wpAny_bind (wpAny_load ha ?_)
  rw [hda]
  dsimp only
  rw [if_pos hsz]
  repeat wp_step
  exact h
theorem first_held {A : Around} {v : Option Value} (h : A.handled = v) : A.in1.handled = v := h
theorem next_end_held {it t : Addr} {i : Nat} {items : Array Value} {Q : Option Value → Shared → Prop} (hh : A.handled = some (.ref ex)) (hei : ex ≠ it) (hex : s.heap.get? ex = some oe) (hd : oe.data = .fields vs) (h2 : vs[2]? = some .none)
    (hit : s.heap.IsTupleIter it t i) (ht : s.heap.IsTuple t items) (hx : items[i]? = none) (hQ : ∀ h', Heap.ExtBut it s.heap h' → Q none { s with heap := h' }) : wpAny (model prog w) A (pyNext (.ref it)) Q E s := by
  obtain ⟨oi, hoi, hci, hdi⟩ := id hit
  obtain ⟨ol, hol, _, nl, hdl⟩ := ht
  unfold pyNext
  refine wpAny_bind (wpAny_attempt (wpAny_callSpecial?_slot (name := Str.ofString "__next__") hit.typeIs F.slot_tuple_iterator_next
    (wpAny_call_entry F.slot_tuple_iterator_next hit.typeIs F.entry_tuple_iterator_next ?_ (F.args_tuple_iterator_next_1 _))))
  show wpAny _ _ (field (.ref it) 0 >>= _) _ _ s
  refine wpAny_bind (wpAny_field hoi hdi (x := .ref t) rfl ?_)
  show wpAny _ _ (if (Value.ref t == Value.none) = true then _ else _) _ _ s
  rw [if_neg (show ¬ ((Value.ref t == Value.none) = true) from Bool.false_ne_true)]
  show wpAny _ _ (field (.ref it) 1 >>= _) _ _ s
  refine wpAny_bind (wpAny_field hoi hdi (x := .int i 0) rfl ?_)
  show wpAny _ _ (seqItems? (.ref t) >>= _) _ _ s
  refine wpAny_bind (wpAny_seqItems hol hdl ?_)
  simp only [Int.toNat_natCast, hx]
  refine wpAny_bind (wpAny_rule (wpAny_bind (wpAny_setField hoi hdi (by simp) ?_)))
  show wpAny _ _ (newExc (.type "StopIteration") [] >>= _) _ _ _
  refine wpAny_bind ?_
  simp only [newExc, newTuple]
  refine wpAny_bind (wpAny_newObj_type ?_ (by size_fits))
  refine wpAny_bind (m := firstArgMember _ _) (wpAny_of_eq (a := Value.none) (by first | rfl | (simp only [firstArgMember]; rfl)) ?_)
  refine wpAny_newObj_type ?_ (by size_fits)
  have hex1 : (s.heap.update it (Obj.mapFields fun x => x.setIfInBounds 0 Value.none)).get? ex = some oe := (Heap.get?_update_other _ _ (Ne.symm hei)).trans hex
  refine raise_held (first_held hh) (Nat.ne_of_lt (Nat.lt_of_lt_of_le (Heap.lt_size hex1) (by rw [Heap.size_push]; exact Nat.le_succ _))) (Heap.get?_push_of_some _ (Heap.get?_push_of_some _ hex1)) hd h2 (Heap.get?_push_size _ rfl) rfl (by rw [Array.size_append]; exact Nat.lt_of_lt_of_le (by decide : 2 < 6) (Nat.le_add_right ..)) ?_
  refine wpAny_bind (wpAny_isInstance (T := "StopIteration") (b := true) ⟨_, Heap.get?_update_self _ (Heap.get?_push_size _ rfl) rfl, Obj.cls_mapFields ..⟩ isSubtype_stop ?_)
  refine wpAny_pure (hQ _ fun b o hb e => ?_)
  have e1 : (s.heap.update it (Obj.mapFields fun x => x.setIfInBounds 0 Value.none)).get? b = some o := (Heap.get?_update_other _ _ (Ne.symm hb)).trans e
  refine (Heap.get?_update_other _ _ (Ne.symm (Nat.ne_of_lt (Nat.lt_of_lt_of_le (Heap.lt_size e1) (by rw [Heap.size_push]; exact Nat.le_succ _))))).trans ?_
  exact Heap.get?_push_of_some _ (Heap.get?_push_of_some _ e1)
theorem unpack_held {t : Addr} {items : Array Value} {Q : List Value → Shared → Prop} (hh : A.handled = some (.ref ex)) (hex : s.heap.get? ex = some oe) (hd : oe.data = .fields vs) (h2 : vs[2]? = some .none) (ht : s.heap.IsTuple t items)
    (hQ : ∀ h', Heap.ExtBut s.heap.objs.size s.heap h' → Q items.toList { s with heap := h' }) : wpAny (model prog w) A (unpackItems (.ref t) items.size none) Q E s := by
  have hlt : t ≠ s.heap.objs.size := by obtain ⟨o, ho, _⟩ := ht; exact Nat.ne_of_lt (Heap.lt_size ho)
  have hel : ex ≠ s.heap.objs.size := Nat.ne_of_lt (Heap.lt_size hex)
  unfold unpackItems notIterableAtAll
  refine wpAny_bind (wpAny_bind (wpAny_specialOf ht.typeIs F.slot_tuple_iter.lookup (wpAny_pure ?_)))
  simp only [Option.isNone_some, Bool.false_eq_true, if_false]
  refine wpAny_bind (wpAny_holding (wpAny_pyIter_tuple ht ?_))
  refine wpAny_bind (wpAny_holding (wpAny_draw_tuple hlt items.size 0 _ _ ⟨_, Heap.get?_push_size _ rfl, rfl, rfl⟩ (ht.push _) (by omega) fun h₁ hit₁ hs₁ => ?_))
  rw [List.drop_zero, List.take_of_length_le (by simp), if_neg (by simp)]
  refine wpAny_bind (wpAny_holding (next_end_held hh hel (hs₁.extBut _ _ hel (Heap.get?_push_of_some _ hex)) hd h2 hit₁ ((ht.push _).extBut hs₁.extBut hlt) (by simp) fun h₂ he₂ => ?_))
  simp only [Option.isSome_none, Bool.false_eq_true, if_false]
  exact wpAny_pure (hQ h₂ fun b o hb e => he₂ b o hb (hs₁.extBut b o hb (Heap.get?_push_of_some _ e)))
end
end Mine

set_option maxHeartbeats 1000000
namespace Mine
theorem hostOf_inj : ∀ {a b : List Nat}, hostOf a = hostOf b → a = b
  | [], [], _ => rfl
  | [], c :: r, h => by
    have h2 := congrArg (fun l => l.getD 1 0) h
    simp [hostOf] at h2
  | c :: r, [], h => by
    have h2 := congrArg (fun l => l.getD 1 0) h
    simp [hostOf] at h2
  | c :: r, d :: q, h => by
    simp only [hostOf, List.cons.injEq, true_and] at h
    rw [h.1, hostOf_inj h.2]
theorem hostS_inj {a b : List Nat} (h : S (hostOf a) = S (hostOf b)) : a = b := hostOf_inj (S_inj h)
theorem turn_one {g p : Nat} {la : List Nat} (hg : g < 64) (hp16 : p ≤ 16) (h : (queue (wdG g) p)[p]? = some la) :
    la ∈ lams16 ∧ queue (wdG g) (p + 1) = queue (wdG g) p ++ kids (wdG g) la ∧ (queue (wdG g) (p + 1)).take (p + 1) = (queue (wdG g) p).take p ++ [la] ∧ (la.tail = [] ∨ la.tail ∈ (queue (wdG g) p).take p) ∧ p < 16 ∧ la ∉ (queue (wdG g) p).take p ∧ p + 1 ≤ (queue (wdG g) (p + 1)).length ∧ ((queue (wdG g) p).take p).length = p := by
  have hlt : p < (queue (wdG g) p).length := (List.getElem?_eq_some_iff.mp h).1
  obtain ⟨h1, h2, h3⟩ := queue_still hg hp16
  have hm : la ∈ queue (wdG g) p := List.mem_of_getElem? h
  have hq : queue (wdG g) (p + 1) = queue (wdG g) p ++ kids (wdG g) la := by
    show queue (wdG g) p ++ _ = _
    rw [h]
  have h16 : (queue (wdG g) 16)[p]? = some la := by
    rw [h2, List.getElem?_take, if_pos hlt] at h
    exact h
  have e16 : (queue (wdG g) 16).take p = (queue (wdG g) p).take p := by
    conv => rhs; rw [h2]
    rw [List.take_take, Nat.min_eq_left (by omega)]
  refine ⟨queue_mem hg hp16 la hm, hq, ?_, ?_, by omega, ?_, ?_, ?_⟩
  · rw [hq, List.take_append_of_le_length (by omega), List.take_add_one, h]
    rfl
  · by_cases e : la.tail = []
    · exact .inl e
    · right
      rw [← e16]
      exact ((order_at hg h16).2 e).1
  · have hn := queue_nodup hg hp16
    intro hin
    rw [← List.take_append_drop p (queue (wdG g) p), List.nodup_append] at hn
    have hd : la ∈ (queue (wdG g) p).drop p := by
      rw [List.mem_iff_getElem?]
      exact ⟨0, by simpa using h⟩
    exact hn.2.2 la hin la hd rfl
  · rw [hq, List.length_append]; omega
  · rw [List.length_take]; omega
/-- the labels' table -/
structure LabOk (kvs : List (Str × Value)) (done : List (List Nat)) : Prop where
  at' : ∀ la, la = [] ∨ la ∈ done → ∃ t, valueAt kvs (S (hostOf la)) = some (.str (S la) t)
  len : kvs.length ≤ done.length + 1
theorem stored_len {K : Type} [DecidableEq K] (kvs : List (K × Value)) (k : K) (v : Value) : (stored kvs k v).length ≤ kvs.length + 1 := by
  unfold stored
  split <;> simp
theorem LabOk.put {kvs : List (Str × Value)} {done : List (List Nat)} (h : LabOk kvs done) {la : List Nat} (hla : la ≠ []) (t : Tok) : LabOk (stored kvs (S (hostOf la)) (.str (S la) t)) (done ++ [la]) := by
  refine ⟨fun x hx => ?_, ?_⟩
  · rw [valueAt_stored]
    by_cases e : S (hostOf x) = S (hostOf la)
    · rw [if_pos e, hostS_inj e]; exact ⟨t, rfl⟩
    · rw [if_neg e]
      refine h.at' x ?_
      rcases hx with hx | hx
      · exact .inl hx
      · rcases List.mem_append.mp hx with hx | hx
        · exact .inr hx
        · rw [List.mem_singleton] at hx
          subst hx
          exact absurd rfl e
  · have := stored_len kvs (S (hostOf la)) (.str (S la) t)
    have := h.len
    simp only [List.length_append, List.length_cons, List.length_nil]
    omega
def tupO (vs : List Value) : Obj := { cls := .type "tuple", data := .seq vs.toArray }
section
variable {w : World}
/-- an entry, as the ledger bears it -/
def EntAt (w : World) (ents : List (Addr × Obj)) (kvs : List (Str × Value)) (la : List Nat) (cnt back free tied : Int) (T : List (Str × Int)) : Prop :=
  ∃ t d od z1 z2 z3 z4 kv, valueAt kvs (S (hostOf la)) = some (.ref t) ∧ (t, tupO [.int cnt z1, .int back z2, .int free z3, .int tied z4, .ref d]) ∈ ents ∧ (d, od) ∈ ents ∧ (d == sysModules) = false ∧
    od.IsDictOf (PySem.strKind (PySem.Challenge.rw_xo0016_01).row.prog w) kv ∧ Bears kv T
theorem EntAt.more {ents ents' : List (Addr × Obj)} {kvs : List (Str × Value)} {la : List Nat} {a b c d : Int} {T : List (Str × Int)} (h : EntAt w ents kvs la a b c d T) (hs : ∀ p ∈ ents, p ∈ ents') : EntAt w ents' kvs la a b c d T := by
  obtain ⟨t, d, od, z1, z2, z3, z4, kv, h1, h2, h3, h4, h5, h6⟩ := h
  exact ⟨t, d, od, z1, z2, z3, z4, kv, h1, hs _ h2, hs _ h3, h4, h5, h6⟩
theorem EntAt.other {ents : List (Addr × Obj)} {kvs : List (Str × Value)} {la : List Nat} {a b c d : Int} {T : List (Str × Int)} (h : EntAt w ents kvs la a b c d T) {x : List Nat} (v : Value) (hne : la ≠ x) : EntAt w ents (stored kvs (S (hostOf x)) v) la a b c d T := by
  obtain ⟨t, d, od, z1, z2, z3, z4, kv, h1, h2⟩ := h
  refine ⟨t, d, od, z1, z2, z3, z4, kv, ?_, h2⟩
  rw [valueAt_stored, if_neg (fun q => hne (hostS_inj q)), h1]
theorem EntAt.put {ents : List (Addr × Obj)} {kvs : List (Str × Value)} {la : List Nat} {cnt back free tied : Int} {T : List (Str × Int)} {t d : Addr} {od : Obj} {z1 z2 z3 z4 : Tok} {kv : List (Str × Value)}
    (h2 : (t, tupO [.int cnt z1, .int back z2, .int free z3, .int tied z4, .ref d]) ∈ ents) (h3 : (d, od) ∈ ents) (h4 : (d == sysModules) = false)
    (h5 : od.IsDictOf (PySem.strKind (PySem.Challenge.rw_xo0016_01).row.prog w) kv) (h6 : Bears kv T) : EntAt w ents (stored kvs (S (hostOf la)) (.ref t)) la cnt back free tied T :=
  ⟨t, d, od, z1, z2, z3, z4, kv, by rw [valueAt_stored, if_pos rfl], h2, h3, h4, h5, h6⟩
structure EntOk1 (w : World) (wd : Nat → Nat → Bool) (ents : List (Addr × Obj)) (kvs : List (Str × Value)) (done : List (List Nat)) : Prop where
  at' : ∀ la ∈ done, EntAt w ents kvs la 1 (refs wd la : Nat) 1 0 [(S [la.headD 0], 1)]
  none : valueAt kvs (S (hostOf [])) = none
  len : kvs.length ≤ done.length
theorem EntOk1.put {wd : Nat → Nat → Bool} {ents ents' : List (Addr × Obj)} {kvs : List (Str × Value)} {done : List (List Nat)} (h : EntOk1 w wd ents kvs done) {la : List Nat} (hla : la ≠ []) (hnd : la ∉ done) (hs : ∀ p ∈ ents, p ∈ ents')
    {t d : Addr} {od : Obj} {z1 z2 z3 z4 : Tok} {kv : List (Str × Value)} (h2 : (t, tupO [.int 1 z1, .int (refs wd la : Nat) z2, .int 1 z3, .int 0 z4, .ref d]) ∈ ents') (h3 : (d, od) ∈ ents') (h4 : (d == sysModules) = false)
    (h5 : od.IsDictOf (PySem.strKind (PySem.Challenge.rw_xo0016_01).row.prog w) kv) (h6 : Bears kv [(S [la.headD 0], 1)]) : EntOk1 w wd ents' (stored kvs (S (hostOf la)) (.ref t)) (done ++ [la]) := by
  refine ⟨fun x hx => ?_, ?_, ?_⟩
  · rcases List.mem_append.mp hx with hx | hx
    · exact ((h.at' x hx).more hs).other _ (fun q => hnd (q ▸ hx))
    · rw [List.mem_singleton.mp hx]
      exact EntAt.put h2 h3 h4 h5 h6
  · rw [valueAt_stored, if_neg (fun q => hla (hostS_inj q).symm), h.none]
  · have := stored_len kvs (S (hostOf la)) (.ref t)
    have := h.len
    simp only [List.length_append, List.length_cons, List.length_nil]
    omega
end
end Mine

set_option maxHeartbeats 1000000
namespace Mine
theorem fm_eq (p : Nat) (a0 : Int) : ((p : Int) + a0).fmod 3 = (((p + (a0.fmod 3).toNat) % 3 : Nat) : Int) := by
  rw [Int.fmod_eq_emod_of_nonneg _ (by decide), Int.fmod_eq_emod_of_nonneg _ (by decide)]
  omega
theorem m3_nonneg (n : Nat) : 0 ≤ ((n % 3 : Nat) : Int) := Int.natCast_nonneg _
theorem m3_fits (n : Nat) : ((n % 3 : Nat) : Int) < 2 ^ 63 := by omega
theorem eol_len (n : Nat) : (eolL n).length ≤ 2 := by unfold eolL; split <;> simp
theorem eol_at (p d : Nat) (t1 t2 t3 : Tok) : ∃ te, (#[.str (Str.ofString "\n") t1, .str (Str.ofString "\r") t2, .str (Str.ofString "\r\n") t3] : Array Value)[(p + d) % 3]? = some (.str (S (eolL (d + p))) te) := by
  have h3 : (p + d) % 3 < 3 := Nat.mod_lt _ (by decide)
  have : (p + d) % 3 = 0 ∨ (p + d) % 3 = 1 ∨ (p + d) % 3 = 2 := by omega
  unfold eolL
  rw [Nat.add_comm d p]
  rcases this with e | e | e <;> rw [e]
  · exact ⟨_, by rw [show Str.ofString "\n" = S [10] from by decide +kernel]; rfl⟩
  · exact ⟨_, by rw [show Str.ofString "\r" = S [13] from by decide +kernel]; rfl⟩
  · exact ⟨_, by rw [show Str.ofString "\r\n" = S [13, 10] from by decide +kernel]; rfl⟩
theorem mail_fits {a b c : Nat} (h1 : a ≤ 320) (h2 : b ≤ 13) (h3 : c ≤ 2) : a + b + c ≤ 16777216 := by omega
theorem mail_fits2 {a b : Nat} (h1 : a ≤ 320) (h2 : b ≤ 13) : a + b ≤ 16777216 := by omega
end Mine

set_option maxHeartbeats 1000000
namespace Mine
theorem dict_nf {prog : Program} {w : World} {K : Type} [DecidableEq K] {knd : KeyKind prog w K} {o : Obj} {kvs : List (K × Value)} (h : o.IsDictOf knd kvs) : ∀ vs, o.data ≠ .fields vs := by
  obtain ⟨es, ep, _, q, _⟩ := h
  intro vs z
  rw [q] at z; cases z
theorem seq_nf {o : Obj} {vs : Array Value} {n : Nat} (h : o.data = .seq vs n) : ∀ vs, o.data ≠ .fields vs := fun us z => by rw [h] at z; cases z
theorem cell_nf {o : Obj} {v : Option Value} (h : o.data = .cell v) : ∀ vs, o.data ≠ .fields vs := fun us z => by rw [h] at z; cases z
inductive Inv1 (w : World) (g d : Nat) (L dr wor wr ea lb : Addr) (od ow owr ow1 olc o4 o5 : Obj) (p : Nat) (m : Str → Option Value) (news : List (Addr × Obj)) : Prop
  | mk : ∀ m₀ ents oe ol oh ha hvs hn lkvs ekvs tm tp vh,
    m = ov [("drawn", .ref dr), ("worth", .ref wor), ("hosts", .ref ha), ("entries", .ref ea), ("mail", .str (S (mailL d ((queue (wdG g) p).take p))) tm), ("place", .int (p : Nat) tp)] m₀ →
    news = [(ea, oe), (lb, ol), (L + 1 + 1 + 1 + 1 + 1, o5), (L + 1 + 1 + 1 + 1, o4), (L + 1 + 1 + 1, oh), (L + 1 + 1, olc), (L + 1, ow1)] ++ ents →
    oh.data = .cell vh →
    (dr, od) ∈ ents →
    (wor, ow) ∈ ents →
    (wr, owr) ∈ ents →
    (ha, lstO hvs hn) ∈ ents →
    StrsAre hvs ((queue (wdG g) p).map fun x => S (hostOf x)) →
    ol.IsDictOf (PySem.strKind (PySem.Challenge.rw_xo0016_01).row.prog w) lkvs →
    LabOk lkvs ((queue (wdG g) p).take p) →
    oe.IsDictOf (PySem.strKind (PySem.Challenge.rw_xo0016_01).row.prog w) ekvs →
    EntOk1 w (wdG g) ents ekvs ((queue (wdG g) p).take p) →
    p ≤ (queue (wdG g) p).length →
    p ≤ 16 →
    (∀ q ∈ ents, ∀ vs, q.2.data ≠ .fields vs) →
    Inv1 w g d L dr wor wr ea lb od ow owr ow1 olc o4 o5 p m news
/-- where the try ends -/
inductive TryEnd (w : World) (g : Nat) (la : List Nat) (h₀ : Heap) (L ea lb ha dr wor : Addr) (oe ol o5 o4 oh olc ow1 : Obj) (ents : List (Addr × Obj)) (ml pl ab : Value) (s s' : Shared) : Prop
  | mk : ∀ h' tk m' ents' tl rf otl vs nn orf kv, s' = { s with heap := h', toks := tk } →
    Lz h₀ L (ov [("drawn", .ref dr), ("worth", .ref wor), ("hosts", .ref ha), ("entries", .ref ea), ("mail", ml), ("place", pl), ("above", ab), ("taken", .ref tl), ("refused", .ref rf)] m')
      ([(ea, oe), (lb, ol), (L + 1 + 1 + 1 + 1 + 1, o5), (L + 1 + 1 + 1 + 1, o4), (L + 1 + 1 + 1, oh), (L + 1 + 1, olc), (L + 1, ow1)] ++ ents') h' → (∀ p ∈ ents, p ∈ ents') →
    (tl, otl) ∈ ents' → otl.cls = .type "list" → otl.data = .seq vs.toArray nn → StrsAre vs ((kids (wdG g) la).map fun x => S (hostOf x)) → (rf, orf) ∈ ents' → (rf == sysModules) = false → orf.IsDictOf (PySem.strKind (PySem.Challenge.rw_xo0016_01).row.prog w) kv → kv.length = refs (wdG g) la → (∀ q ∈ ents', ∀ vs, q.2.data ≠ .fields vs) →
    TryEnd w g la h₀ L ea lb ha dr wor oe ol o5 o4 oh olc ow1 ents ml pl ab s s'
def J1 (w : World) (g d : Nat) (L dr wor wr ea lb : Addr) (od ow owr ow1 olc o4 o5 : Obj) (n : Nat) (m : Str → Option Value) (news : List (Addr × Obj)) : Prop :=
  ∃ p, n = 17 - p ∧ Inv1 w g d L dr wor wr ea lb od ow owr ow1 olc o4 o5 p m news
end Mine

set_option maxHeartbeats 1000000
namespace Mine
abbrev HG (g : Nat) : List (List Nat) := queue (wdG g) 16
def DoneG (g i : Nat) : List (List Nat) := ((HG g).drop i).reverse
theorem done_all (g : Nat) : DoneG g (HG g).length = [] := by unfold DoneG; rw [List.drop_length]; rfl
theorem done_none (g : Nat) : DoneG g 0 = (HG g).reverse := by unfold DoneG; rw [List.drop_zero]
theorem done_step {g i : Nat} {la : List Nat} (h : (HG g)[i]? = some la) : DoneG g i = DoneG g (i + 1) ++ [la] := by
  obtain ⟨hi, e⟩ := List.getElem?_eq_some_iff.mp h
  unfold DoneG
  rw [List.drop_eq_getElem_cons hi, e, List.reverse_cons]
theorem done_len (g i : Nat) (hg : g < 64) : (DoneG g i).length ≤ 16 := by
  unfold DoneG
  rw [List.length_reverse, List.length_drop]
  have := (queueG g hg).1
  exact Nat.le_trans (Nat.sub_le _ _) this
section
variable {wo : Nat → Int} {wt : Nat → Nat → Int}
theorem bits_small {a : Int} (h : a.natAbs ≤ 1000000) : PySem.Builtin.Int.intBits a ≤ 64 := intBits_le_iff.mpr (by omega)
theorem whole_bits (hwo : ∀ c, (wo c).natAbs ≤ 1000000) {E : List Nat → Int × Int} {la : List Nat} {b : Nat} (h1 : PySem.Builtin.Int.intBits (E la).1 ≤ b) (h2 : PySem.Builtin.Int.intBits (E la).2 ≤ b) : PySem.Builtin.Int.intBits (wholeOf wo E la) ≤ b + 65 := by
  unfold wholeOf
  have := intBits_add_le (intBits_mul_le (bits_small (hwo (la.headD 0))) h1) h2
  refine Nat.le_trans this ?_
  omega
theorem bits_step (hwo : ∀ c, (wo c).natAbs ≤ 1000000) (hwt : ∀ c d, (wt c d).natAbs ≤ 1000000) {E : List Nat → Int × Int} {b : Nat} (h : ∀ x, PySem.Builtin.Int.intBits (E x).1 ≤ b ∧ PySem.Builtin.Int.intBits (E x).2 ≤ b) (la : List Nat) : ∀ x, PySem.Builtin.Int.intBits (sumStep wo wt E la x).1 ≤ 2 * b + 66 ∧ PySem.Builtin.Int.intBits (sumStep wo wt E la x).2 ≤ 2 * b + 66 := by
  intro x
  have hW := whole_bits hwo (h la).1 (h la).2
  unfold sumStep
  split
  · refine ⟨?_, ?_⟩
    · exact Nat.le_trans (intBits_mul_le (h x).1 hW) (by omega)
    · exact Nat.le_trans (intBits_sub_le (intBits_mul_le (h x).2 hW) (intBits_mul_le (intBits_mul_le (bits_small (hwt (la.headD 0) (x.headD 0))) (h x).1) (h la).1)) (by omega)
  · exact ⟨Nat.le_trans (h x).1 (by omega), Nat.le_trans (h x).2 (by omega)⟩
theorem bits_fold (hwo : ∀ c, (wo c).natAbs ≤ 1000000) (hwt : ∀ c d, (wt c d).natAbs ≤ 1000000) : ∀ (done : List (List Nat)) {E : List Nat → Int × Int} {b : Nat}, (∀ x, PySem.Builtin.Int.intBits (E x).1 ≤ b ∧ PySem.Builtin.Int.intBits (E x).2 ≤ b) →
    ∀ x, PySem.Builtin.Int.intBits (done.foldl (sumStep wo wt) E x).1 ≤ 2 ^ done.length * (b + 66) - 66 ∧ PySem.Builtin.Int.intBits (done.foldl (sumStep wo wt) E x).2 ≤ 2 ^ done.length * (b + 66) - 66
  | [], E, b, h, x => by
    show PySem.Builtin.Int.intBits (E x).1 ≤ _ ∧ PySem.Builtin.Int.intBits (E x).2 ≤ _
    simpa using h x
  | la :: r, E, b, h, x => by
    have := bits_fold hwo hwt r (bits_step hwo hwt h la) x
    rw [List.foldl_cons, List.length_cons, Nat.pow_succ, show 2 ^ r.length * 2 * (b + 66) - 66 = 2 ^ r.length * (2 * b + 66 + 66) - 66 from by rw [Nat.mul_assoc]; congr 2]
    exact this
theorem bits_all (hwo : ∀ c, (wo c).natAbs ≤ 1000000) (hwt : ∀ c d, (wt c d).natAbs ≤ 1000000) {g i : Nat} (hg : g < 64) (x : List Nat) : PySem.Builtin.Int.intBits (sumsAfter wo wt (DoneG g i) x).1 ≤ 4390912 ∧ PySem.Builtin.Int.intBits (sumsAfter wo wt (DoneG g i) x).2 ≤ 4390912 := by
  have h := bits_fold hwo hwt (DoneG g i) (E := fun _ => (1, 0)) (b := 1) (fun _ => ⟨by show PySem.Builtin.Int.intBits 1 ≤ 1; decide, by show PySem.Builtin.Int.intBits 0 ≤ 1; decide⟩) x
  have h2 : 2 ^ (DoneG g i).length ≤ 2 ^ 16 := Nat.pow_le_pow_right (by decide) (done_len g i hg)
  have e : 2 ^ (DoneG g i).length * (1 + 66) - 66 ≤ 4390912 := by omega
  exact ⟨Nat.le_trans h.1 e, Nat.le_trans h.2 e⟩
theorem sum_bits {f : Nat → Int} {b : Nat} : ∀ (l : List Nat), (∀ i ∈ l, PySem.Builtin.Int.intBits (f i) ≤ b) → PySem.Builtin.Int.intBits ((l.map f).sum) ≤ b + l.length
  | [], _ => by show PySem.Builtin.Int.intBits 0 ≤ _; exact Nat.zero_le _
  | a :: r, h => by
    rw [List.map_cons, List.sum_cons]
    have := intBits_add_le (h a (List.mem_cons_self ..)) (sum_bits r fun i hi => h i (List.mem_cons_of_mem _ hi))
    refine Nat.le_trans this ?_
    simp only [List.length_cons]
    omega
theorem tie_bits (hwo : ∀ c, (wo c).natAbs ≤ 1000000) (hwt : ∀ c d, (wt c d).natAbs ≤ 1000000) : ∀ (n : Nat) (l : List Nat), l.length ≤ 4 → PySem.Builtin.Int.intBits (tieN wo wt n l) ≤ 70 * n + 1
  | 0, l, _ => by unfold tieN; show PySem.Builtin.Int.intBits 1 ≤ 1; decide
  | n + 1, [], _ => by unfold tieN; exact Nat.le_trans (show PySem.Builtin.Int.intBits 1 ≤ 1 from by decide) (by omega)
  | n + 1, c :: r, h => by
    unfold tieN
    simp only [List.length_cons] at h
    have h1 := intBits_mul_le (bits_small (hwo c)) (tie_bits hwo hwt n r (by omega))
    have h2 := sum_bits (f := fun i => wt c (r.getD i 0) * tieN wo wt n (r.take i ++ r.drop (i + 1))) (b := 64 + (70 * n + 1)) (List.range r.length) fun i hi =>
      intBits_mul_le (bits_small (hwt c _)) (tie_bits hwo hwt n _ (by rw [List.length_append, List.length_take, List.length_drop]; have := List.mem_range.mp hi; omega))
    have := intBits_sub_le h1 h2
    refine Nat.le_trans this ?_
    rw [List.length_range]
    omega
theorem left_len (la : List Nat) : (leftOf la).length ≤ 4 := Nat.le_trans (List.length_filter_le _ _) (by decide)
theorem off_done {g i : Nat} (hg : g < 64) (hoff : ∀ x y, wdG g x y = false → wt x y = 0) {la : List Nat} (h : (HG g)[i]? = some la) : ∀ n ∈ leftOf la, (n :: la) ∉ DoneG g (i + 1) → wt (la.headD 0) n = 0 := by
  intro n hn hd
  refine hoff _ _ ((order_at hg h).1 n hn fun q => hd ?_)
  unfold DoneG
  exact List.mem_reverse.mpr q
theorem not_done {g i : Nat} (hg : g < 64) {la : List Nat} (h : (HG g)[i]? = some la) : la ∉ DoneG g (i + 1) := by
  intro hd
  unfold DoneG at hd
  have hd := List.mem_reverse.mp hd
  obtain ⟨hi, e⟩ := List.getElem?_eq_some_iff.mp h
  have hn := (queueG g hg).2.2
  rw [← List.take_append_drop i (queue (wdG g) 16), List.nodup_append, List.drop_eq_getElem_cons hi, List.nodup_cons] at hn
  rw [e] at hn
  exact hn.2.1.1 hd
theorem even_all {g : Nat} (hg : g < 64) (hs : ∀ x y, wt x y = wt y x) (hoff : ∀ x y, wdG g x y = false → wt x y = 0) : ∀ (k i : Nat), i + k = (HG g).length → Even wo wt (sumsAfter wo wt (DoneG g i)) (DoneG g i)
  | 0, i, h => by
    have : i = (HG g).length := h
    subst this
    rw [done_all]
    intro x _
    show (0 : Int) * _ = -(1 * doneSum wo wt [] x)
    have : doneSum wo wt [] x = 0 := by
      unfold doneSum
      have e : ((leftOf x).map fun n => if (n :: x) ∈ ([] : List (List Nat)) then wt (x.headD 0) n * tieL wo wt ((leftOf x).filter (· != n)) else 0) = (leftOf x).map fun _ => 0 := List.map_congr_left fun n _ => by simp
      rw [e]
      induction leftOf x with
      | nil => rfl
      | cons a r ih => rw [List.map_cons, List.sum_cons, ih]; rfl
    rw [this]
    omega
  | k + 1, i, h => by
    have ih := even_all hg hs hoff k (i + 1) (by omega)
    have hi : i < (HG g).length := by omega
    have hla : (HG g)[i]? = some ((HG g)[i]) := List.getElem?_eq_getElem hi
    have hm : (HG g)[i] ∈ lams16 := (queueG g hg).2.1 _ (List.getElem_mem hi)
    rw [done_step hla]
    have e : sumsAfter wo wt (DoneG g (i + 1) ++ [(HG g)[i]]) = sumStep wo wt (sumsAfter wo wt (DoneG g (i + 1))) (HG g)[i] := by
      unfold sumsAfter; rw [List.foldl_append]; rfl
    rw [e]
    exact even_step hs ih hm (not_done hg hla) (off_done hg hoff hla)
theorem whole_law {g i : Nat} (hg : g < 64) (hs : ∀ x y, wt x y = wt y x) (hoff : ∀ x y, wdG g x y = false → wt x y = 0) {la : List Nat} (h : (HG g)[i]? = some la) :
    wholeOf wo (sumsAfter wo wt (DoneG g (i + 1))) la * tieN wo wt 4 (leftOf la) = (sumsAfter wo wt (DoneG g (i + 1)) la).1 * tieN wo wt 4 (leftOf la.tail) := by
  have hi : i < (HG g).length := (List.getElem?_eq_some_iff.mp h).1
  have hm : la ∈ lams16 := (queueG g hg).2.1 _ (List.mem_of_getElem? h)
  exact whole_ok hs (even_all hg hs hoff ((HG g).length - (i + 1)) (i + 1) (by omega)) hm (off_done hg hoff h)
end
/-- the fronts stay four -/
def frontsOk (g : Nat) : Bool := (List.range 17).all fun i => (HG g).all fun la => decide ((entsAfter (wdG g) (DoneG g i) la).fronts.length ≤ 4)
theorem frontsG : ∀ g < 64, frontsOk g = true := by decide +kernel
theorem fronts_len {g i : Nat} (hg : g < 64) (hi : i ≤ 16) {la : List Nat} (h : la ∈ HG g) : (entsAfter (wdG g) (DoneG g i) la).fronts.length ≤ 4 := by
  have := frontsG g hg
  unfold frontsOk at this
  rw [List.all_eq_true] at this
  have := this i (List.mem_range.mpr (by omega))
  rw [List.all_eq_true] at this
  exact of_decide_eq_true (this la h)
end Mine

set_option maxHeartbeats 1000000
namespace Mine
theorem perm8 {α : Type} (r e b c5 c4 c3 c2 c1 : α) (t : List α) : (r :: e :: b :: c5 :: c4 :: c3 :: c2 :: c1 :: t).Perm (e :: c4 :: c3 :: r :: b :: c5 :: c2 :: c1 :: t) :=
  (List.perm_middle (l₁ := [r]) (a := e) (l₂ := b :: c5 :: c4 :: c3 :: c2 :: c1 :: t)).trans (List.Perm.cons e ((List.perm_middle (l₁ := [r, b, c5]) (a := c4) (l₂ := c3 :: c2 :: c1 :: t)).trans
    ((List.perm_middle (l₁ := [r, b, c5]) (a := c3) (l₂ := c2 :: c1 :: t)).cons c4)))
theorem wo4_small {a b c d : Int} (ha : a.natAbs ≤ 1000000) (hb : b.natAbs ≤ 1000000) (hc : c.natAbs ≤ 1000000) (hd : d.natAbs ≤ 1000000) (x : Nat) : (wo4 a b c d x).natAbs ≤ 1000000 := by
  unfold wo4
  split
  · exact ha
  · split
    · exact hb
    · split
      · exact hc
      · split
        · exact hd
        · decide
theorem worth_at (a b c d : Int) (t0 t1 t2 t3 : Tok) : ∀ x ∈ abcd, ∃ t, valueAt (merged [] [(S [97], .int a t0), (S [98], .int b t1), (S [99], .int c t2), (S [100], .int d t3)]) (S [x]) = some (.int (wo4 a b c d x) t) := by
  have n1 : S [97] ≠ S [98] := by decide
  have n2 : S [97] ≠ S [99] := by decide
  have n3 : S [97] ≠ S [100] := by decide
  have n4 : S [98] ≠ S [99] := by decide
  have n5 : S [98] ≠ S [100] := by decide
  have n6 : S [99] ≠ S [100] := by decide
  intro x hx
  simp only [abcd, List.mem_cons, List.not_mem_nil, or_false] at hx
  unfold merged
  simp only [List.foldl_cons, List.foldl_nil, valueAt_stored]
  rcases hx with rfl | rfl | rfl | rfl
  · exact ⟨t0, by rw [if_neg n3, if_neg n2, if_neg n1, if_pos rfl]; rfl⟩
  · exact ⟨t1, by rw [if_neg n5, if_neg n4, if_pos rfl]; rfl⟩
  · exact ⟨t2, by rw [if_neg n6, if_pos rfl]; rfl⟩
  · exact ⟨t3, by rw [if_pos rfl]; rfl⟩
def leftP (la : List Nat) (v : Value) : Bool := match v with | .str x _ => !la.contains (x.cps.getD 0 0) | _ => false
theorem abcd_at {i c : Nat} (h : (Str.ofString "abcd").cps[i]? = some c) : abcd[i]? = some c := by
  have : (Str.ofString "abcd").cps = abcd.toArray := by decide +kernel
  rw [this] at h
  simpa using h
theorem left_strs {la : List Nat} : ∀ {vs : List Value} {ns : List Nat}, vs.length = ns.length → (∀ (j : Nat) (v : Value), vs[j]? = some v → ∃ c u, ns[j]? = some c ∧ v = .str ⟨#[c]⟩ u) → StrsAre (vs.filter (leftP la)) ((ns.filter fun n => !la.contains n).map fun n => S [n])
  | [], [], _, _ => .nil
  | [], _ :: _, h, _ => by simp at h
  | _ :: _, [], h, _ => by simp at h
  | v :: r, n :: q, h, k => by
    obtain ⟨c, u, e1, rfl⟩ := k 0 v rfl
    have e1 : n = c := by simpa using e1
    subst e1
    have ih := left_strs (la := la) (vs := r) (ns := q) (by simpa using h) fun j v hj => by
      obtain ⟨c, u, a, b⟩ := k (j + 1) v (by simpa using hj)
      exact ⟨c, u, by simpa using a, b⟩
    rw [List.filter_cons, List.filter_cons]
    have e : leftP la (.str ⟨#[n]⟩ u) = !la.contains n := rfl
    rw [e]
    cases hb : (!la.contains n)
    · simpa using ih
    · exact .cons _ _ ih
theorem txt_join (sep : Str) (l : List Str) : Txt.join sep l = Str.join sep l := eq_of_beq (PyProof.Rows.join_plain_closes sep l)
theorem join_left' : ∀ (ns : List Nat), Str.join (S []) (ns.map fun n => S [n]) = S ns
  | [] => rfl
  | [n] => rfl
  | n :: m :: r => by
    have ih := join_left' (m :: r)
    rw [List.map_cons] at ih ⊢
    rw [List.map_cons]
    show S [n] ++ S [] ++ Str.join (S []) (S [m] :: r.map fun n => S [n]) = _
    rw [ih, S_app, S_app]
    rfl
theorem join_left (ns : List Nat) : Txt.join (Str.ofString "") (ns.map fun n => S [n]) = S ns := by
  rw [txt_join, show Str.ofString "" = S [] from by decide +kernel, join_left']
theorem left_weight : ∀ ns : List Nat, ((ns.map fun n => S [n]).map (·.length)).sum = ns.length
  | [] => rfl
  | n :: r => by
    have := left_weight r
    rw [List.map_cons, List.map_cons, List.sum_cons, this, S_len, List.length_cons, List.length_cons, List.length_nil]
    omega
theorem left_fits (la : List Nat) : (((leftOf la).map fun n => S [n]).map (·.length)).sum + ((leftOf la).map fun n => S [n]).length ≤ 1048576 := by
  rw [left_weight, List.length_map]
  have := left_len la
  omega
theorem left_made {la : List Nat} {xs : List Value} {k : Nat} (hk : k = 4) (hlen : xs.length = k) (hvs : ∀ (j : Nat) (v : Value), xs[j]? = some v → j < k ∧ ∃ c u, (Str.ofString "abcd").cps[j]? = some c ∧ v = .str ⟨#[c]⟩ u) :
    StrsAre (xs.filter (leftP la)) ((leftOf la).map fun n => S [n]) := by
  refine left_strs (ns := abcd) (by rw [hlen, hk]; rfl) fun j v hj => ?_
  obtain ⟨_, c, u, h1, h2⟩ := hvs j v hj
  exact ⟨c, u, abcd_at h1, h2⟩
theorem abcd_four : (Str.ofString "abcd").cps.size = 4 := by decide +kernel
theorem inLabTail : ∀ la ∈ lams16, ∀ n ∈ abcd, inLab (S la.tail) n = la.tail.contains n := by decide +kernel
structure EntOk2 (w : World) (g : Nat) (wo : Nat → Int) (wt : Nat → Nat → Int) (ents : List (Addr × Obj)) (kvs : List (Str × Value)) (i : Nat) : Prop where
  at' : ∀ la ∈ HG g, EntAt w ents kvs la (entsAfter (wdG g) (DoneG g i) la).cnt (entsAfter (wdG g) (DoneG g i) la).back (sumsAfter wo wt (DoneG g i) la).1 (sumsAfter wo wt (DoneG g i) la).2 (entsAfter (wdG g) (DoneG g i) la).fronts
  none : valueAt kvs (S (hostOf [])) = none
  len : kvs.length ≤ 32 - i
theorem EntOk2.start {w : World} {g : Nat} (wo : Nat → Int) (wt : Nat → Nat → Int) {ents : List (Addr × Obj)} {kvs : List (Str × Value)} (hg : g < 64) (h : EntOk1 w (wdG g) ents kvs (HG g)) : EntOk2 w g wo wt ents kvs (HG g).length := by
  refine ⟨fun la hla => ?_, h.none, ?_⟩
  · rw [done_all]
    exact h.at' la hla
  · have h1 := h.len
    have h2 : (HG g).length ≤ 16 := (queueG g hg).1
    omega
inductive Inv2 (w : World) (g : Nat) (wo : Nat → Int) (wt : Nat → Nat → Int) (L wor ea ha ra : Addr) (base : List (Addr × Obj)) (i : Nat) (m : Str → Option Value) (news : List (Addr × Obj)) : Prop
  | mk : ∀ m₀ ents oe oh os ekvs tp vh vs,
    m = ov [("worth", .ref wor), ("hosts", .ref ha), ("entries", .ref ea), ("rows", .ref ra), ("place", .int (i : Nat) tp)] m₀ →
    news = [(ea, oe), (L + 1 + 1 + 1 + 1, os), (L + 1 + 1 + 1, oh)] ++ ents →
    os.data = .cell vs →
    oh.data = .cell vh →
    (∀ q ∈ base, q ∈ ents) →
    oe.IsDictOf (PySem.strKind (PySem.Challenge.rw_xo0016_01).row.prog w) ekvs →
    EntOk2 w g wo wt ents ekvs i →
    i ≤ (HG g).length →
    Inv2 w g wo wt L wor ea ha ra base i m news
def J2 (w : World) (g : Nat) (wo : Nat → Int) (wt : Nat → Nat → Int) (L wor ea ha ra : Addr) (base : List (Addr × Obj)) (n : Nat) (m : Str → Option Value) (news : List (Addr × Obj)) : Prop :=
  Inv2 w g wo wt L wor ea ha ra base n m news
/-- an entry after its turn -/
theorem ents_step {wd : Nat → Nat → Bool} {done : List (List Nat)} {la : List Nat} : entsAfter wd (done ++ [la]) = entStep (entsAfter wd done) la := by unfold entsAfter; rw [List.foldl_append]; rfl
theorem sums_step {wo : Nat → Int} {wt : Nat → Nat → Int} {done : List (List Nat)} {la : List Nat} : sumsAfter wo wt (done ++ [la]) = sumStep wo wt (sumsAfter wo wt done) la := by unfold sumsAfter; rw [List.foldl_append]; rfl
/-- a turn of a root: nothing changes -/
theorem EntOk2.root {w : World} {g : Nat} {wo : Nat → Int} {wt : Nat → Nat → Int} {ents ents' : List (Addr × Obj)} {kvs : List (Str × Value)} {i : Nat} {la : List Nat} (h : EntOk2 w g wo wt ents kvs (i + 1)) (hla : (HG g)[i]? = some la) (ht : la.tail = []) (hs : ∀ p ∈ ents, p ∈ ents') :
    EntOk2 w g wo wt ents' kvs i := by
  refine ⟨fun x hx => ?_, h.none, by have := h.len; omega⟩
  have := (h.at' x hx).more hs
  have hne : ¬ (x = la.tail ∧ la.tail ≠ []) := fun q => q.2 ht
  rw [done_step hla, ents_step, sums_step]
  generalize entsAfter (wdG g) (DoneG g (i + 1)) = EE at *
  generalize sumsAfter wo wt (DoneG g (i + 1)) = SS at *
  unfold entStep sumStep
  rw [if_neg hne, if_neg hne]
  exact this
/-- a turn that tells its sender -/
theorem EntOk2.tell {w : World} {g : Nat} {wo : Nat → Int} {wt : Nat → Nat → Int} {ents ents' : List (Addr × Obj)} {kvs : List (Str × Value)} {i : Nat} {la : List Nat} (hg : g < 64) (h : EntOk2 w g wo wt ents kvs (i + 1)) (hla : (HG g)[i]? = some la) (ht : la.tail ≠ []) (hs : ∀ p ∈ ents, p ∈ ents')
    {t d : Addr} {od : Obj} {z1 z2 z3 z4 : Tok} {kv : List (Str × Value)} {c b f s : Int}
    (h2 : (t, tupO [.int c z1, .int b z2, .int f z3, .int s z4, .ref d]) ∈ ents') (h3 : (d, od) ∈ ents') (h4 : (d == sysModules) = false)
    (h5 : od.IsDictOf (PySem.strKind (PySem.Challenge.rw_xo0016_01).row.prog w) kv) (h6 : Bears kv (addTab (entsAfter (wdG g) (DoneG g (i + 1)) la.tail).fronts (entsAfter (wdG g) (DoneG g (i + 1)) la).fronts))
    (hc : c = (entsAfter (wdG g) (DoneG g (i + 1)) la.tail).cnt + (entsAfter (wdG g) (DoneG g (i + 1)) la).cnt) (hb : b = (entsAfter (wdG g) (DoneG g (i + 1)) la.tail).back + (entsAfter (wdG g) (DoneG g (i + 1)) la).back)
    (hf : f = (sumsAfter wo wt (DoneG g (i + 1)) la.tail).1 * wholeOf wo (sumsAfter wo wt (DoneG g (i + 1))) la)
    (hss : s = (sumsAfter wo wt (DoneG g (i + 1)) la.tail).2 * wholeOf wo (sumsAfter wo wt (DoneG g (i + 1))) la - wt (la.headD 0) (la.tail.headD 0) * (sumsAfter wo wt (DoneG g (i + 1)) la.tail).1 * (sumsAfter wo wt (DoneG g (i + 1)) la).1) :
    EntOk2 w g wo wt ents' (stored kvs (S (hostOf la.tail)) (.ref t)) i := by
  have hold := h.at'
  have hnone := h.none
  have hl := h.len
  have hstep : ∀ x ∈ HG g, EntAt w ents' (stored kvs (S (hostOf la.tail)) (.ref t)) x (entStep (entsAfter (wdG g) (DoneG g (i + 1))) la x).cnt (entStep (entsAfter (wdG g) (DoneG g (i + 1))) la x).back
      (sumStep wo wt (sumsAfter wo wt (DoneG g (i + 1))) la x).1 (sumStep wo wt (sumsAfter wo wt (DoneG g (i + 1))) la x).2 (entStep (entsAfter (wdG g) (DoneG g (i + 1))) la x).fronts := by
    clear h hnone hl
    generalize entsAfter (wdG g) (DoneG g (i + 1)) = EE at *
    generalize sumsAfter wo wt (DoneG g (i + 1)) = SS at *
    intro x hx
    have hx' := hold x hx
    unfold entStep sumStep
    by_cases e : x = la.tail
    · subst e
      have hp : la.tail = la.tail ∧ la.tail ≠ [] := ⟨rfl, ht⟩
      rw [if_pos hp, if_pos hp]
      subst hc hb hf hss
      exact EntAt.put h2 h3 h4 h5 h6
    · have hne : ¬ (x = la.tail ∧ la.tail ≠ []) := fun q => e q.1
      rw [if_neg hne, if_neg hne]
      exact (hx'.more hs).other _ e
  refine ⟨fun x hx => ?_, ?_, ?_⟩
  · rw [done_step hla, ents_step, sums_step]
    exact hstep x hx
  · rw [valueAt_stored, if_neg (fun q => ht (hostS_inj q).symm), hnone]
  · have := stored_len kvs (S (hostOf la.tail)) (.ref t)
    have h16 : (HG g).length ≤ 16 := (queueG g hg).1
    have hi := (List.getElem?_eq_some_iff.mp hla).1
    omega
end Mine

set_option maxHeartbeats 1000000
namespace Mine
def frontsIn (g : Nat) : Bool := (entsAfter (wdG g) (queue (wdG g) 16).reverse [97]).fronts.all fun q => lookT (lastsL (waysL (wdG g))) q.1 == some q.2
theorem frontsInG : ∀ g < 64, frontsIn g = true := by decide +kernel
structure EndFacts (g : Nat) : Prop where
  perm : (HG g).Perm ((waysL (wdG g)).map List.reverse)
  cnt : (entsAfter (wdG g) (DoneG g 0) [97]).cnt = (waysL (wdG g)).length
  back : (entsAfter (wdG g) (DoneG g 0) [97]).back = ((waysL (wdG g)).map fun w => ((w.filter fun n => wdG g (w.getLastD 0) n).length : Int)).sum
  len : (entsAfter (wdG g) (DoneG g 0) [97]).fronts.length = (lastsL (waysL (wdG g))).length
  look : ∀ q ∈ (entsAfter (wdG g) (DoneG g 0) [97]).fronts, lookT (lastsL (waysL (wdG g))) q.1 = some q.2
  sum : ((entsAfter (wdG g) (DoneG g 0) [97]).fronts.map (·.2)).sum = (waysL (wdG g)).length
theorem end_facts {g : Nat} (hg : g < 64) : EndFacts g := by
  have h := endG g hg
  have h2 := frontsInG g hg
  unfold endOk at h
  unfold frontsIn at h2
  simp only [Bool.and_eq_true, decide_eq_true_eq, beq_iff_eq] at h
  obtain ⟨⟨⟨⟨⟨⟨h1, h2'⟩, h3⟩, h4⟩, _⟩, h6⟩, _⟩ := h
  rw [List.all_eq_true] at h2
  refine ⟨h1, ?_, ?_, ?_, ?_, ?_⟩
  · rw [done_none]; exact h2'
  · rw [done_none]; exact h3
  · rw [done_none]; exact h4
  · rw [done_none]
    intro q hq
    have := h2 q hq
    rwa [beq_iff_eq] at this
  · rw [done_none]; exact h6
theorem way_back {g : Nat} (hg : g < 64) : ∀ w ∈ waysL (wdG g), w.reverse ∈ lams16 ∧ w.length ≤ 4 := by
  intro w hw
  have h1 : w.reverse ∈ HG g := (end_facts hg).perm.mem_iff.mpr (List.mem_map_of_mem hw)
  have h2 := (queueG g hg).2.1 _ h1
  refine ⟨h2, ?_⟩
  have h3 : ∀ la ∈ lams16, la.length ≤ 4 := by decide
  have := h3 _ h2
  rwa [List.length_reverse] at this
theorem ways_len16 {g : Nat} (hg : g < 64) : (waysL (wdG g)).length ≤ 16 := by
  have := (end_facts hg).perm.length_eq
  rw [List.length_map] at this
  rw [← this]
  exact (queueG g hg).1
def leS (a b : Str) : Prop := Spec.ltCps b.cps.toList a.cps.toList = false
theorem leS_iff {a b : Str} : leS a b ↔ a.cps.toList ≤ b.cps.toList := by
  unfold leS
  rw [PyProof.Rows.ltCps_eq, decide_eq_false_iff_not]
  exact Iff.rfl
theorem leS_trans {a b c : Str} (h : leS a b) (k : leS b c) : leS a c := leS_iff.mpr (List.le_trans (leS_iff.mp h) (leS_iff.mp k))
theorem leS_anti {a b : Str} (h : leS a b) (k : leS b a) : a = b := by
  have := List.le_antisymm (leS_iff.mp h) (leS_iff.mp k)
  obtain ⟨⟨x⟩⟩ := a
  obtain ⟨⟨y⟩⟩ := b
  have : x = y := this
  rw [this]
theorem rising_pair : ∀ (p : Str) (l : List Str), risingS p l = true → (p :: l).Pairwise leS
  | p, [], _ => List.pairwise_singleton ..
  | p, x :: r, h => by
    unfold risingS at h
    rw [Bool.and_eq_true, Bool.not_eq_true'] at h
    have ih := rising_pair x r h.2
    refine List.pairwise_cons.mpr ⟨fun y hy => ?_, ih⟩
    have h1 : leS p x := h.1
    rcases List.mem_cons.mp hy with rfl | hy
    · exact h1
    · exact leS_trans h1 ((List.pairwise_cons.mp ih).1 y hy)
theorem sorted_pair : ∀ (l : List Str), sortedS l = true → l.Pairwise leS
  | [], _ => .nil
  | p :: r, h => rising_pair p r h
theorem sorted_one {a b : List Str} (hp : a.Perm b) (ha : sortedS a = true) (hb : sortedS b = true) : a = b :=
  List.Perm.eq_of_pairwise (le := leS) (fun _ _ _ _ => leS_anti) (sorted_pair a ha) (sorted_pair b hb) hp
end Mine

set_option maxHeartbeats 1000000
namespace Mine
section
variable {prog : Program} {w : World} {A : Around} {E : Value → Shared → Prop} {s : Shared} {h₀ : Heap} {L : Addr} {m : Str → Option Value} {news : List (Addr × Obj)}
theorem sortedZ {l : Addr} {vs : List Value} {ss : List Str} {Q : Value → Shared → Prop} (Z : Lz h₀ L m news s.heap) (hl : s.heap.IsList l vs.toArray) (hS : StrsAre vs ss) (h64 : vs.length < 64)
    (h : ∀ a (h' : Heap) (vs' : List Value) (ss' : List Str) (e : Nat), Lz h₀ L m ((a, lstO vs' e) :: news) h' → StrsAre vs' ss' → ss'.Perm ss → sortedS ss' = true → Q (.ref a) { s with heap := h' }) :
    wpAny (model prog w) A (call (.builtin "sorted") [.ref l]) Q E s :=
  sorted_N_str Z.fr Z.nw hl hS h64 fun h' vs' ss' e F' N' h1 h2 h3 => h _ h' vs' ss' e ⟨F', N', by
    rw [List.map_cons, List.nodup_cons]
    refine ⟨fun q => ?_, Z.nd⟩
    obtain ⟨p, hp, e⟩ := List.mem_map.mp q
    have := Z.lt hp
    rw [e] at this
    exact absurd this (Nat.not_lt.mpr (Nat.le_succ _))⟩ h1 h2 h3
theorem same_strs : ∀ ss : List Str, Spec.sameAll (ss.map PyData.str) (ss.map PyData.str) = true
  | [] => by simp [Spec.sameAll]
  | a :: r => by simp [Spec.sameAll, Spec.same, same_strs r]
theorem shaped_strs {ss : List Str} (h : ss.all PyData.strOk = true) : SeqAt.shaped (.list (ss.map PyData.str)) = true := by
  simp only [SeqAt.shaped, PyData.canLay0, PyData.depth, canLayAll_strs', depthAll_strs', h]
  decide
theorem ne_strs {a b : Addr} {xs ys : List Value} {ss : List Str} {Q : Value → Shared → Prop} (ha : s.heap.IsList a xs.toArray) (hb : s.heap.IsList b ys.toArray) (hi : StrsAre xs ss) (hj : StrsAre ys ss) (hok : ss.all PyData.strOk = true)
    (hu : A.units + 64 < cLine) (h : Q (.bool false) s) : wpAny (model prog w) A (compareOp .NotEq (.ref a) (.ref b)) Q E s :=
  ne_dataH_same (reads_newData ha hi.carried) (reads_newData hb hj.carried) (shaped_strs hok) (shaped_strs hok) hu (SeqAt.noMix_of_shape (.list .str) rfl _ _ (list_map_has fun _ => rfl) (list_map_has fun _ => rfl))
    (by
      have e : Spec.same (.list (ss.map PyData.str)) (.list (ss.map PyData.str)) = true := by simp only [Spec.same]; exact same_strs ss
      rw [e]; exact h)
end
end Mine

set_option maxHeartbeats 1000000
namespace Mine
open Builtin Builtin.Str in
theorem rev_picked (l : List Nat) (h : l.length ≤ 4) (t tb : Tok) : sliceMade (S l) t none none (some (-1, tb)) = Made.str (S l.reverse) := by
  rcases l with _ | ⟨a, _ | ⟨b, _ | ⟨c, _ | ⟨d, _ | ⟨e, r⟩⟩⟩⟩⟩
  · with_unfolding_all rfl
  · with_unfolding_all rfl
  · with_unfolding_all rfl
  · with_unfolding_all rfl
  · with_unfolding_all rfl
  · simp only [List.length_cons] at h; omega
theorem join16 : ∀ la ∈ lams16, Str.join (Str.ofString ".") (PyProof.Rows.signs (S la)) ++ Str.ofString ".local" = S (hostOf la) ∧ (Str.join (Str.ofString ".") (PyProof.Rows.signs (S la))).length + (Str.ofString ".local").length ≤ 100 := by decide +kernel
theorem ok16 : ∀ la ∈ lams16, PyData.strOk (S (hostOf la)) = true := by decide +kernel
theorem list_same {xs ws : List Value} (hl : xs.length = ws.length) (h : ∀ (j : Nat) (v : Value), xs[j]? = some v → ws[j]? = some v) : xs = ws :=
  List.ext_getElem hl fun i h1 h2 => by
    have := h i _ (List.getElem?_eq_getElem h1)
    rw [List.getElem?_eq_getElem h2] at this
    exact (Option.some.inj this).symm
theorem paired_hosts : ∀ {xs ys : List Value} {W : List (List Nat)}, StrsAre xs (W.map S) → Paired (fun v y => ∃ l t u, v = Value.str (S l) t ∧ y = Value.str (S (hostOf l.reverse)) u) xs ys → StrsAre ys (W.map fun l => S (hostOf l.reverse))
  | [], _, [], _, .nil => .nil
  | _ :: _, _, w :: W, .cons _ t hs, .cons h r => by
    obtain ⟨l, t', u, e1, rfl⟩ := h
    have e2 : S w = S l := by injection e1
    rw [S_inj e2, List.map_cons]
    exact .cons _ _ (paired_hosts hs r)
theorem hosts_ways {g : Nat} (hg : g < 64) : ((HG g).map fun la => S (hostOf la)).Perm ((waysL (wdG g)).map fun l => S (hostOf l.reverse)) := by
  have := (end_facts hg).perm.map fun la => S (hostOf la)
  rwa [List.map_map] at this
theorem hosts_ok {g : Nat} (hg : g < 64) {ss : List Str} (hp : ss.Perm ((HG g).map fun la => S (hostOf la))) : ss.all PyData.strOk = true := by
  rw [List.all_eq_true]
  intro x hx
  obtain ⟨la, hla, rfl⟩ := List.mem_map.mp (hp.mem_iff.mp hx)
  exact ok16 la ((queueG g hg).2.1 la hla)
theorem perm5 {α : Type} (wa ea os oh c5 : α) (e1 e2 : List α) : (ea :: os :: oh :: c5 :: wa :: (e1 ++ e2)).Perm (wa :: ea :: os :: oh :: (e1 ++ c5 :: e2)) := by
  have h1 : (e1 ++ c5 :: e2).Perm (c5 :: (e1 ++ e2)) := List.perm_middle
  have h2 : (wa :: ea :: os :: oh :: (e1 ++ c5 :: e2)).Perm (ea :: os :: oh :: wa :: (e1 ++ c5 :: e2)) := (List.perm_middle (l₁ := [ea, os, oh]) (a := wa)).symm
  have h3 : (ea :: os :: oh :: wa :: (e1 ++ c5 :: e2)).Perm (ea :: os :: oh :: wa :: c5 :: (e1 ++ e2)) := (((h1.cons wa).cons oh).cons os).cons ea
  have h4 : (ea :: os :: oh :: wa :: c5 :: (e1 ++ e2)).Perm (ea :: os :: oh :: c5 :: wa :: (e1 ++ e2)) := (((List.Perm.swap c5 wa _).cons oh).cons os).cons ea
  exact ((h2.trans h3).trans h4).symm
theorem mem_rest {α : Type} {q c : α} {e1 e2 : List α} (h : q ∈ e1 ++ c :: e2) (hne : q ≠ c) : q ∈ e1 ++ e2 := by
  rcases List.mem_append.mp h with h | h
  · exact List.mem_append_left _ h
  · rcases List.mem_cons.mp h with rfl | h
    · exact absurd rfl hne
    · exact List.mem_append_right _ h
def lastsT (W : List (List Nat)) (i : Nat) : List (Str × Int) := (W.take i).foldl (fun T w => addOne T (S [w.getLastD 0], 1)) []
def backT (g : Nat) (W : List (List Nat)) (i : Nat) : Int := ((W.take i).map fun w => ((w.filter fun n => wdG g (w.getLastD 0) n).length : Int)).sum
theorem lastsT_step {W : List (List Nat)} {i : Nat} {w : List Nat} (h : W[i]? = some w) : lastsT W (i + 1) = addOne (lastsT W i) (S [w.getLastD 0], 1) := by
  unfold lastsT
  rw [List.take_add_one, h, List.foldl_append]
  rfl
theorem backT_step {g : Nat} {W : List (List Nat)} {i : Nat} {w : List Nat} (h : W[i]? = some w) : backT g W (i + 1) = backT g W i + ((w.filter fun n => wdG g (w.getLastD 0) n).length : Int) := by
  unfold backT
  rw [List.take_add_one, h, List.map_append, List.sum_append]
  simp
theorem lastsT_len (W : List (List Nat)) : ∀ i, (lastsT W i).length ≤ i
  | 0 => by unfold lastsT; simp
  | i + 1 => by
    have ih := lastsT_len W i
    cases h : W[i]? with
    | none =>
      have : lastsT W (i + 1) = lastsT W i := by unfold lastsT; rw [List.take_add_one, h]; simp
      rw [this]; omega
    | some w =>
      rw [lastsT_step h]
      unfold addOne
      split <;> simp <;> omega
theorem dict_nc {prog : Program} {w : World} {K : Type} [DecidableEq K] {knd : KeyKind prog w K} {o o5 : Obj} {kvs : List (K × Value)} (h : o.IsDictOf knd kvs) {v : Option Value} (h5 : o5.data = .cell v) : o ≠ o5 := by
  obtain ⟨es, ep, _, q, _⟩ := h
  rintro rfl
  rw [q] at h5; cases h5
theorem seq_nc {o o5 : Obj} {vs : Array Value} {n : Nat} (h : o.data = .seq vs n) {v : Option Value} (h5 : o5.data = .cell v) : o ≠ o5 := by
  rintro rfl
  rw [h] at h5; cases h5
theorem five_off (L : Nat) : L + 1 ≠ L + 1 + 1 + 1 + 1 + 1 := by omega
theorem way_last {w : List Nat} (h : w.reverse ∈ lams16) : ∃ k, w.length = k + 1 ∧ w[k]? = some (w.getLastD 0) ∧ w.getLastD 0 ∈ abcd ∧ ∀ n ∈ w, n ∈ abcd := by
  have hd : ∀ la ∈ lams16, la ≠ [] ∧ la.headD 0 ∈ abcd ∧ ∀ n ∈ la, n ∈ abcd := by decide
  obtain ⟨h1, h2, h3⟩ := hd _ h
  obtain ⟨c, r, e⟩ := List.exists_cons_of_ne_nil h1
  rw [e] at h2 h3
  have hw : w = r.reverse ++ [c] := by rw [← List.reverse_reverse w, e, List.reverse_cons]
  have hl : w.getLastD 0 = c := by rw [hw]; simp
  refine ⟨r.length, by rw [hw]; simp, ?_, ?_, fun n hn => ?_⟩
  · rw [hl, hw]; simp
  · rw [hl]; exact h2
  · refine h3 n ?_
    rw [← e]
    exact List.mem_reverse.mpr hn
theorem ch_last {w : List Nat} {k c : Nat} (hl : w.length = k + 1) (hc : w[k]? = some c) : (seqIndex? (-1) (S w).length).bind ((S w).cps[·]?) = some c := by
  rw [S_len, hl]
  have hx : seqIndex? (-1) (k + 1) = some k := by
    unfold seqIndex?
    have h1 : ((-1 : Int) < 0) := by decide
    have h2 : ¬ ((-1 : Int) + ((k + 1 : Nat) : Int) < 0) := by omega
    have h3 : (-1 : Int) + ((k + 1 : Nat) : Int) = (k : Int) := by omega
    simp [h1, h3]
    omega
  rw [hx]
  simpa using hc
theorem tally_at {kv : List (Str × Value)} {T : List (Str × Int)} (h : Bears kv T) (hn : (kv.map (·.1)).Nodup) (k : Str) (tz : Tok) :
    ∃ n0 t0, (valueAt kv k).getD (.int 0 tz) = .int n0 t0 ∧ ∀ t', Bears (stored kv k (.int (n0 + 1) t')) (addOne T (k, 1)) := by
  cases e : valueAt kv k with
  | none => exact ⟨0, tz, rfl, fun t' => h.addNone e⟩
  | some v =>
    obtain ⟨o, t, rfl, hb⟩ := h.addSome hn 1 e
    exact ⟨o, t, rfl, hb⟩
def filtP (f : Nat → Bool) (v : Value) : Bool := match v with | .str x _ => f (x.cps.getD 0 0) | _ => false
theorem filt_len {f : Nat → Bool} : ∀ {vs : List Value} {ns : List Nat}, vs.length = ns.length → (∀ (j : Nat) (v : Value), vs[j]? = some v → ∃ c u, ns[j]? = some c ∧ v = .str ⟨#[c]⟩ u) → (vs.filter (filtP f)).length = (ns.filter f).length
  | [], [], _, _ => rfl
  | [], _ :: _, h, _ => by simp at h
  | _ :: _, [], h, _ => by simp at h
  | v :: r, n :: q, h, k => by
    obtain ⟨c, u, e1, rfl⟩ := k 0 v rfl
    have e1 : n = c := by simpa using e1
    subst e1
    have ih := filt_len (f := f) (vs := r) (ns := q) (by simpa using h) fun j v hj => by
      obtain ⟨c, u, a, b⟩ := k (j + 1) v (by simpa using hj)
      exact ⟨c, u, by simpa using a, b⟩
    rw [List.filter_cons, List.filter_cons]
    have e : filtP f (.str ⟨#[n]⟩ u) = f n := rfl
    rw [e]
    cases hb : f n
    · simpa using ih
    · simpa using ih
theorem ascii_of {w : List Nat} (h : ∀ n ∈ w, n ∈ abcd) : (S w).cps.all (· < 128) = true := by
  have ha : ∀ n ∈ abcd, n < 128 := by decide
  rw [Array.all_eq_true]
  intro i hi
  have hm : w[i]'(by simpa using hi) ∈ w := List.getElem_mem _
  simpa using ha _ (h _ hm)
end Mine

set_option maxHeartbeats 1000000
namespace Mine
section
variable {prog : Program} {w : World} {A : Around} {E : Value → Shared → Prop} {s : Shared}
theorem applied_two {sl : Addr} {u : Tok} {Q : Int × Int × Nat → Shared → Prop} (hs : s.heap.IsSliceOf sl .none (.int 2 u) .none) (h : Q (0, 1, 2) s) :
    wpAny (model prog w) A (Builtin.Slice.sliceApplied (.ref sl) (pure ((5 : Nat) : Int))) Q E s := by
  obtain ⟨os, hos, hcs, hds⟩ := id hs
  unfold Builtin.Slice.sliceApplied Builtin.Slice.sliceFields
  refine wpAny_bind (wpAny_bind (wpAny_field hos hds (x := .none) rfl (wpAny_bind (wpAny_field hos hds (x := .int 2 u) rfl (wpAny_bind (wpAny_field hos hds (x := .none) rfl (wpAny_pure ?_)))))))
  refine wpAny_bind (slicePart_none ?_)
  show wpAny _ _ (if ((1 : Int) == 0) = true then _ else _) _ _ s
  rw [if_neg (by decide)]
  refine wpAny_bind (slicePart_none (wpAny_bind (slicePart_int (wpAny_bind (wpAny_pure ?_)))))
  exact wpAny_pure h
theorem tuple_two {t sl : Addr} {v0 v1 v2 v3 v4 : Value} {u : Tok} {Q : Value → Shared → Prop} (ht : s.heap.IsTuple t #[v0, v1, v2, v3, v4]) (hs : s.heap.IsSliceOf sl .none (.int 2 u) .none)
    (h : Q (.ref s.heap.objs.size) { s with heap := s.heap.push { cls := .type "tuple", data := .seq #[v0, v1] } }) : wpAny (model prog w) A (getItem (.ref t) (.ref sl)) Q E s := by
  obtain ⟨os, hos, hcs, hds⟩ := id hs
  have hTs : s.TypeIs (.ref sl) "slice" := ⟨os, hos, hcs⟩
  have hsz : sizeOk (.seq #[v0, v1]) := by show 2 ≤ sizeLine; rw [sizeLine_eq]; decide
  unfold getItem
  try with_reducible refine wpAny_holding ?_
  first | refine wpAny_bind (wpAny_pure ?_) | skip
  refine wpAny_bind (wpAny_sequenceKey ht.typeIs (by decide) ?_)
  refine wpAny_bind (wpAny_callSpecial?_slot (name := Str.ofString "__getitem__") ht.typeIs slot_tuple_getitem
    (wpAny_call_entry slot_tuple_getitem ht.typeIs entry_tuple_getitem ?_ (args_tuple_getitem _ _)))
  show wpAny _ _ (Builtin.Tuple.tupleItemsOf (.ref t) >>= _) _ _ s
  refine wpAny_bind (tupleItemsOf_ ht ?_)
  refine wpAny_bind (wpAny_typeOf hTs ?_)
  rw [if_pos (by decide)]
  refine wpAny_bind (applied_two hs ?_)
  first
    | exact wpAny_bind (m := Builtin.Tuple.tupleExact _) (wpAny_newObj_type (wpAny_pure ⟨_, rfl, wpAny_pure h⟩) hsz)
    | exact wpAny_bind (m := Builtin.Tuple.tupleExact _) (wpAny_newObj_type (wpAny_bind (wpAny_pure (wpAny_pure ⟨_, rfl, wpAny_pure h⟩))) hsz)
    | exact wpAny_bind (wpAny_bind (m := Builtin.Tuple.tupleExact _) (wpAny_newObj_type (wpAny_pure (wpAny_pure ⟨_, rfl, wpAny_pure h⟩)) hsz))
    | exact wpAny_bind (wpAny_bind (m := Builtin.Tuple.tupleExact _) (wpAny_newObj_type (wpAny_pure ⟨_, rfl, wpAny_pure h⟩) hsz))
theorem sliceTwoZ {h h₀ : Heap} {L : Addr} {m : Str → Option Value} {news : List (Addr × Obj)} {value slice : Expr} {t : Addr} {v0 v1 v2 v3 v4 : Value} {u : Tok} {gn dr tk os} {Q : Value → Shared → Prop} (Z : Lz h₀ L m news h) (ht : h.IsTuple t #[v0, v1, v2, v3, v4])
    (H : ∀ a h', Lz h₀ L m ((a, { cls := .type "tuple", data := .seq #[v0, v1] }) :: news) h' → Q (.ref a) ⟨h', gn, dr, tk, os⟩)
    (hs : subscripted slice false (.ref t) (.ref h.objs.size) = operate [.ref h.objs.size, .ref t] (getItem (.ref t) (.ref h.objs.size)) := by with_unfolding_all rfl)
    (hg : ∀ r, letTemporaryGo value (.ref t) r = pure () := by intro _; with_unfolding_all rfl) :
    wpAny (model prog w) A (subscriptTail value slice (.ref t) (.ref h.objs.size)) Q E ⟨h.push { cls := .type "slice", data := .fields #[.none, .int 2 u, .none] }, gn, dr, tk, os⟩ := by
  have ht' : (h.push { cls := .type "slice", data := .fields #[.none, .int 2 u, .none] }).IsTuple t #[v0, v1, v2, v3, v4] := by
    obtain ⟨o, ho, r⟩ := ht
    exact ⟨o, Heap.get?_push_of_some _ ho, r⟩
  refine subscriptTail_ops (s := ⟨h.push { cls := .type "slice", data := .fields #[.none, .int 2 u, .none] }, gn, dr, tk, os⟩) ht'.typeIs slot_tuple_getitem.lookup (tuple_two ht' (Heap.IsSliceOf.new ..) ?_) hs hg
  exact H _ _ ((Z.ext fun _ _ e => Heap.get?_push_of_some _ e).push _ rfl)
end
end Mine

set_option maxHeartbeats 1000000
namespace Mine
theorem bears_look : ∀ {kb : List (Str × Value)} {T : List (Str × Int)}, Bears kb T → ∀ {k : Str} {n : Int}, lookT T k = some n → ∃ t, valueAt kb k = some (.int n t)
  | [], [], _, k, n, h => by unfold lookT at h; simp at h
  | p :: r, q :: u, hb, k, n, h => by
    obtain ⟨h1, ⟨t, h2⟩, h3⟩ := hb
    rw [valueAt_cons]
    unfold lookT at h
    rw [List.find?_cons] at h
    by_cases e : q.1 = k
    · rw [if_pos (h1.trans e), h2]
      simp only [e, decide_true, Option.map_some, Option.some.injEq] at h
      exact ⟨t, by rw [h]⟩
    · rw [if_neg (fun z => e (h1.symm.trans z))]
      simp only [e, decide_false] at h
      exact bears_look h3 (by unfold lookT; exact h)
  | [], _ :: _, h, _, _, _ => h.elim
  | _ :: _, [], h, _, _, _ => h.elim
theorem hits_of {A : Around} {s : Shared} {kb : List (Str × Value)} {Tb : List (Str × Int)} (hb : Bears kb Tb) : ∀ {ka : List (Str × Value)} {T : List (Str × Int)}, Bears ka T → (∀ q ∈ T, lookT Tb q.1 = some q.2) → KeqHits A s kb ka true
  | [], [], _, _ => .nil
  | (k, v) :: r, q :: u, ha, h => by
    obtain ⟨h1, ⟨t, h2⟩, h3⟩ := ha
    have h1 : k = q.1 := h1
    have h2 : v = .int q.2 t := h2
    subst h1 h2
    obtain ⟨t', hv⟩ := bears_look hb (h q (.head _))
    exact KeqHits.hit (e := true) (b := true) hv (by have := SeqAt.EqAt.int_int (A := A) (s := s) q.2 t q.2 t'; rwa [beq_self_eq_true] at this) (hits_of hb h3 fun x hx => h x (.tail _ hx))
  | [], _ :: _, h, _ => h.elim
  | _ :: _, [], h, _ => h.elim
theorem bears_ints : ∀ {kb : List (Str × Value)} {T : List (Str × Int)}, Bears kb T → IntsAre (kb.map (·.2)) (T.map (·.2))
  | [], [], _ => .nil
  | p :: r, q :: u, hb => by
    obtain ⟨h1, ⟨t, h2⟩, h3⟩ := hb
    rw [List.map_cons, List.map_cons, h2]
    exact .cons _ _ (bears_ints h3)
  | [], _ :: _, h => h.elim
  | _ :: _, [], h => h.elim
end Mine

set_option maxHeartbeats 4000000
namespace Mine
local macro_rules | `(tactic| walk_at "storeName") => `(tactic| (k_dflt (refine stZ (by assumption) (fun _ _ Z' => ?_)); have F' := Z'.fr; have N' := Z'.nw; try dsimp only))
local macro_rules | `(tactic| walk_at "newTuple") => `(tactic| (k_dflt (refine newTupleZ (by assumption) (fun _ _ Z' => ?_)); have F' := Z'.fr; have N' := Z'.nw; try dsimp only))
local macro_rules | `(tactic| walk_at "newList") => `(tactic| (k_dflt (refine newListZ (by assumption) (fun _ _ Z' => ?_)); have F' := Z'.fr; have N' := Z'.nw; try dsimp only))

local macro_rules | `(tactic| walk_at "subscriptTail Name Slice str ref") => `(tactic| (k_dflt (first | refine' sliceZ_sn ?zz ?_ | refine' sliceZ_ns ?zz ?_ | refine' sliceZ_ss ?zz ?_ | refine' sliceZ_nn ?zz ?_); (case zz => assumption); intro _ _ _ Z'; have F' := Z'.fr; have N' := Z'.nw; try dsimp only))

local macro_rules | `(tactic| walk_at "storeName") => `(tactic| (k_dflt (refine stX (by assumption) (fun _ _ Z' => ?_)); have F' := Z'.fr; have N' := Z'.nw; try dsimp only))
theorem cells_five {cm : Str → Option Value} {n₁ n₂ n₃ n₄ n₅ : Str} {c₁ c₂ c₃ c₄ c₅ : Addr} {cells : List (Addr × Obj)} (x : CellsAre cm [(n₁, c₁), (n₂, c₂), (n₃, c₃), (n₄, c₄), (n₅, c₅)] cells) :
    ∃ o₁ o₂ o₃ o₄ o₅, cells = [(c₁, o₁), (c₂, o₂), (c₃, o₃), (c₄, o₄), (c₅, o₅)] ∧ o₁.data = .cell (cm n₁) ∧ o₂.data = .cell (cm n₂) ∧ o₃.data = .cell (cm n₃) ∧ o₄.data = .cell (cm n₄) ∧ o₅.data = .cell (cm n₅) := by
  cases x with | cons h r => obtain ⟨a, b, c, d, rfl, h1, h2, h3, h4⟩ := r.four; exact ⟨_, a, b, c, d, rfl, h, h1, h2, h3, h4⟩
theorem ints_cons {vs : List Value} {ds : List Int} {n : Nat} (h : IntsAre vs ds) (hl : ds.length = n + 1) : ∃ a t vs' ds', vs = Value.int a t :: vs' ∧ ds = a :: ds' ∧ IntsAre vs' ds' ∧ ds'.length = n := by
  rcases h with _ | ⟨a, t, h⟩
  · cases hl
  · exact ⟨a, t, _, _, rfl, rfl, h, Nat.succ.inj hl⟩
inductive TenInts (vs : List Value) (ds : List Int) : Prop
  | mk : ∀ a0 a1 a2 a3 a4 a5 a6 a7 a8 a9 t0 t1 t2 t3 t4 t5 t6 t7 t8 t9, ds = [a0, a1, a2, a3, a4, a5, a6, a7, a8, a9] →
    vs = [Value.int a0 t0, .int a1 t1, .int a2 t2, .int a3 t3, .int a4 t4, .int a5 t5, .int a6 t6, .int a7 t7, .int a8 t8, .int a9 t9] → TenInts vs ds
theorem cons_eq {α : Type} {a : α} {x y z : List α} (h : x = a :: y) (e : y = z) : x = a :: z := h.trans (congrArg _ e)
theorem ints_ten {vs : List Value} {ds : List Int} (h : IntsAre vs ds) (hl : ds.length = 10) : TenInts vs ds := by
  obtain ⟨a0, t0, v0, d0, e0, f0, h, hl⟩ := ints_cons h hl
  obtain ⟨a1, t1, v1, d1, e1, f1, h, hl⟩ := ints_cons h hl
  obtain ⟨a2, t2, v2, d2, e2, f2, h, hl⟩ := ints_cons h hl
  obtain ⟨a3, t3, v3, d3, e3, f3, h, hl⟩ := ints_cons h hl
  obtain ⟨a4, t4, v4, d4, e4, f4, h, hl⟩ := ints_cons h hl
  obtain ⟨a5, t5, v5, d5, e5, f5, h, hl⟩ := ints_cons h hl
  obtain ⟨a6, t6, v6, d6, e6, f6, h, hl⟩ := ints_cons h hl
  obtain ⟨a7, t7, v7, d7, e7, f7, h, hl⟩ := ints_cons h hl
  obtain ⟨a8, t8, v8, d8, e8, f8, h, hl⟩ := ints_cons h hl
  obtain ⟨a9, t9, v9, d9, e9, f9, h, hl⟩ := ints_cons h hl
  obtain rfl := List.eq_nil_of_length_eq_zero hl
  cases h
  exact ⟨a0, a1, a2, a3, a4, a5, a6, a7, a8, a9, t0, t1, t2, t3, t4, t5, t6, t7, t8, t9, cons_eq f0 (cons_eq f1 (cons_eq f2 (cons_eq f3 (cons_eq f4 (cons_eq f5 (cons_eq f6 (cons_eq f7 (cons_eq f8 f9)))))))),
    cons_eq e0 (cons_eq e1 (cons_eq e2 (cons_eq e3 (cons_eq e4 (cons_eq e5 (cons_eq e6 (cons_eq e7 (cons_eq e8 e9))))))))⟩
theorem pick4 (v0 v1 v2 v3 v4 v5 v6 v7 v8 v9 : Value) : slicePick #[v0, v1, v2, v3, v4, v5, v6, v7, v8, v9] (some 4) none none = #[v4, v5, v6, v7, v8, v9] := by with_unfolding_all rfl
set_option maxHeartbeats 0 in
set_option maxHeartbeats 0 in
theorem law_spec : ∀ {w : World} {lo : List Str} {A : Around} {R : Result → Shared → Prop} {s : Shared} {mg mb : Str → Option Value} {l : Addr} {lobj : Obj} {vs : List Value} {ns : List Int} {k : Nat},
  (hd.heap_39 w.params).In s.heap → TopRead hd.view_39 lo mg mb s.heap → A.depth = 301 → A.handled = none → A.units ≤ 100 → A.frames = some [] → s.heap.get? l = some lobj → lobj.cls = .type "list" → lobj.data = .seq vs.toArray k → IntsAre vs ns → ns.length ≤ 1048576 →
    (∀ h' tk, Ext s.heap h' → R (.ok (.ret (.bool true))) { s with heap := h', toks := tk }) →
    codeAny (model (PySem.Challenge.rw_xo0016_01).row.prog w) A (.call (.ref 158) ⟨[.ref l], []⟩) R s := by
  k_fill
  intro w lo A R s mg mb l lobj vs ns k X T hdp hh hun hfr hl hcl hdt hI hlen hR
  refine' enterC X T ?k1 ?k2 ?k3 ?k4 ?k5 ?k6 ?_ ?c2 ?c3 ?c4
  case k1 => k_is
  case k2 => k_is
  case k3 => show A.depth < 1000; omega
  case k4 => exact BindsTo.of_eq (binds := [("script", .ref l)]) rfl
  case k5 => rfl
  case k6 => decide
  case c2 => rfl
  case c3 => rfl
  case c4 => rfl
  intro L h₁ tk cells F N Y
  obtain ⟨o5, o4, o3, o2, o1, rfl, d5, d4, d3, d2, d1⟩ := cells_five Y
  have hnd5 : ∀ y : Nat, [y + 1 + 1 + 1 + 1 + 1, y + 1 + 1 + 1 + 1, y + 1 + 1 + 1, y + 1 + 1, y + 1].Nodup := fun y => by simp; omega
  have Z : Lz s.heap L _ _ h₁ := ⟨F, N, hnd5 L⟩
  refine wpAny_noRaise (hideQ fun Q₀ hQ₀ => ?_)
  clear F N Y
  have F := Z.fr
  have N := Z.nw
  refine wpAny_execs_cons (wpAny_Assign_Name ?_)
  repeat (walk1; try dsimp only)
  refine wpAny_call (drawn_spec (X.keeps Z.keep) (T.keeps Z.keep) (by show A.depth + 1 < 900; omega) hh (Z.keep _ _ hl) hcl hdt hI hlen fun h' tk' dr od nd dvs ds x hnw hod hdc hdd hdI hdl hdb => ?_)
  have Z := Z.addNew x hod hnw
  have F := Z.fr
  have N := Z.nw
  dsimp only
  walk1
  rename Lz _ _ _ _ _ => Z
  rename_i hpA _ _ _
  have hwos : (hpA.objs.size == sysModules) = false := Z.fr.notModules (modules_low T.nolimit)
  obtain ⟨a0, a1, a2, a3, a4, a5, a6, a7, a8, a9, t0, t1, t2, t3, t4, t5, t6, t7, t8, t9, rfl, rfl⟩ := ints_ten hdI hdl
  refine wpAny_execs_cons (wpAny_Assign_Name ?_)
  repeat (walk1; try dsimp only)
  have Z := Z.push { cls := .type "dict", data := .dict #[] } rfl
  refine tail_any (Heap.IsList.typeIs (items := #[Value.int a0 t0, .int a1 t1, .int a2 t2, .int a3 t3, .int a4 t4, .int a5 t5, .int a6 t6, .int a7 t7, .int a8 t8, .int a9 t9]) ⟨od, Z.get (by simp), hdc, nd, hdd⟩) PySem.F.slot_list_getitem.lookup (wpAny_getItem_list (items := #[Value.int a0 t0, .int a1 t1, .int a2 t2, .int a3 t3, .int a4 t4, .int a5 t5, .int a6 t6, .int a7 t7, .int a8 t8, .int a9 t9]) ⟨od, Z.get (by simp), hdc, nd, hdd⟩ (by decide) (by decide) rfl ?_) rfl
  repeat (walk1; try dsimp only)
  refine tail_any (Heap.IsList.typeIs (items := #[Value.int a0 t0, .int a1 t1, .int a2 t2, .int a3 t3, .int a4 t4, .int a5 t5, .int a6 t6, .int a7 t7, .int a8 t8, .int a9 t9]) ⟨od, Z.get (by simp), hdc, nd, hdd⟩) PySem.F.slot_list_getitem.lookup (wpAny_getItem_list (items := #[Value.int a0 t0, .int a1 t1, .int a2 t2, .int a3 t3, .int a4 t4, .int a5 t5, .int a6 t6, .int a7 t7, .int a8 t8, .int a9 t9]) ⟨od, Z.get (by simp), hdc, nd, hdd⟩ (by decide) (by decide) rfl ?_) rfl
  repeat (walk1; try dsimp only)
  refine tail_any (Heap.IsList.typeIs (items := #[Value.int a0 t0, .int a1 t1, .int a2 t2, .int a3 t3, .int a4 t4, .int a5 t5, .int a6 t6, .int a7 t7, .int a8 t8, .int a9 t9]) ⟨od, Z.get (by simp), hdc, nd, hdd⟩) PySem.F.slot_list_getitem.lookup (wpAny_getItem_list (items := #[Value.int a0 t0, .int a1 t1, .int a2 t2, .int a3 t3, .int a4 t4, .int a5 t5, .int a6 t6, .int a7 t7, .int a8 t8, .int a9 t9]) ⟨od, Z.get (by simp), hdc, nd, hdd⟩ (by decide) (by decide) rfl ?_) rfl
  repeat (walk1; try dsimp only)
  refine tail_any (Heap.IsList.typeIs (items := #[Value.int a0 t0, .int a1 t1, .int a2 t2, .int a3 t3, .int a4 t4, .int a5 t5, .int a6 t6, .int a7 t7, .int a8 t8, .int a9 t9]) ⟨od, Z.get (by simp), hdc, nd, hdd⟩) PySem.F.slot_list_getitem.lookup (wpAny_getItem_list (items := #[Value.int a0 t0, .int a1 t1, .int a2 t2, .int a3 t3, .int a4 t4, .int a5 t5, .int a6 t6, .int a7 t7, .int a8 t8, .int a9 t9]) ⟨od, Z.get (by simp), hdc, nd, hdd⟩ (by decide) (by decide) rfl ?_) rfl
  walk1
  refine ⟨[(S [97], .int a0 t0), (S [98], .int a1 t1), (S [99], .int a2 t2), (S [100], .int a3 t3)], ⟨by rfl, rfl, by rfl, rfl, by rfl, rfl, by rfl, rfl, trivial⟩, Heap.DictOf.new _, fun h₂ hD2 hs2 => ?_⟩
  obtain ⟨ow, how, hdw⟩ := Heap.dictOf_iff.mp hD2
  have Z := Z.upd (pre := []) hs2 how
  generalize hwor : hpA.objs.size = wor at *
  dsimp only
  walk1
  refine wpAny_execs_cons (wpAny_Assign_Name ?_)
  repeat (walk1; try dsimp only)
  rename Lz _ _ _ _ _ => Z
  refine' sliceZ_list (l := dr) (items := #[Value.int a0 t0, .int a1 t1, .int a2 t2, .int a3 t3, .int a4 t4, .int a5 t5, .int a6 t6, .int a7 t7, .int a8 t8, .int a9 t9]) Z ⟨od, Z.get (by simp), hdc, nd, hdd⟩ (.int 4 _) .none ?_ (hsz := by rw [sizeLine_eq]; simp)
  intro sl h₃ Z
  rw [pick4] at Z
  have F := Z.fr
  have N := Z.nw
  repeat (walk1; try dsimp only)
  have hI6 : IntsAre [Value.int a4 t4, .int a5 t5, .int a6 t6, .int a7 t7, .int a8 t8, .int a9 t9] [a4, a5, a6, a7, a8, a9] := .cons _ _ (.cons _ _ (.cons _ _ (.cons _ _ (.cons _ _ (.cons _ _ .nil)))))
  refine wpAny_call (wires_spec (vs := [Value.int a4 t4, .int a5 t5, .int a6 t6, .int a7 t7, .int a8 t8, .int a9 t9]) (X.keeps Z.keep) (T.keeps Z.keep) (by show A.depth + 1 < 900; omega) hh (Z.get (.head _)) rfl rfl hI6 rfl fun h' tk' wr owr kvw x hnw hwr hws howr hkl hkv => ?_)
  dsimp only
  have Z := Z.addNew x hwr hnw
  refine stC (pre := [_, _, _, _, _, _, _, _]) (post := []) Z d1 fun h₄ ow1 Z dw1 => ?_
  dsimp only
  have F := Z.fr
  have N := Z.nw
  refine wpAny_execs_cons (wpAny_Assign_Name ?_)
  repeat (walk1; try dsimp only)
  rename Lz _ _ _ _ _ => Z
  refine wpAny_call (localename_spec (X.keeps Z.keep) (T.keeps Z.keep) (by show A.depth + 1 < 890; omega) hh ⟨_, Z.get (.head _), rfl, _, rfl⟩ (by decide +kernel) (by decide +kernel) fun h' tk₄ t x => ?_)
  have Z := (Z.ext x).sub (List.sublist_cons_self ..)
  rw [show Str.ofString "a" ++ Str.ofString "." ++ Str.ofString "local" = S (hostOf [97]) from by decide +kernel]
  have F := Z.fr
  have N := Z.nw
  dsimp only
  repeat (walk1; try dsimp only)
  rename_i ha _ Z1 F1 N1 hpB _ Z F N
  clear F1 N1 Z1
  have hlbs : (hpB.objs.size == sysModules) = false := Z.fr.notModules (modules_low T.nolimit)
  refine wpAny_Dict_walk (knd := PySem.strKind (PySem.Challenge.rw_xo0016_01).row.prog w) (by rfl) rfl (List.cons_ne_nil _ _) (by decide) ?_
  have Z := Z.push { cls := .type "dict", data := .dict #[] } rfl
  have F := Z.fr
  have N := Z.nw

  repeat (walk1; try dsimp only)
  rw [show Str.ofString "local" = S (hostOf []) from by decide +kernel]
  refine wpAny_call (reach_spec (X.keeps Z.keep) (T.keeps Z.keep) (by show A.depth + 1 < 890; omega) hh good0.1 fun h₅ tk₅ t5 x => ?_)
  rw [good0.2]
  have Z := Z.ext x
  have F := Z.fr
  have N := Z.nw
  dsimp only
  iterate 2 (walk1; try dsimp only)
  refine ⟨[(S (hostOf []), .str (Str.ofString "") _)], ⟨by rfl, rfl, trivial⟩, (Heap.DictOf.new _).at fun o q => x _ _ q, fun h₆ hD6 hs6 => ?_⟩
  obtain ⟨olb, hlb, hdlb⟩ := Heap.dictOf_iff.mp hD6
  have Z := Z.upd (pre := []) hs6 hlb
  generalize hlbx : hpB.objs.size = lb at *
  clear F N
  try dsimp only
  refine stC (pre := [_, _, _, _, _, _, _, _, _]) (post := [_]) Z d2 fun h₇ olc Z dlc => ?_
  dsimp only
  have F := Z.fr
  have N := Z.nw
  refine wpAny_execs_cons (wpAny_Assign_Name ?_)
  refine emptyDictZ (knd := PySem.strKind (PySem.Challenge.rw_xo0016_01).row.prog w) Z (modules_low T.nolimit) fun ea h₈ oe Z hes hoe => stX Z fun h₉ t₉ Z => ?_
  dsimp only
  have F := Z.fr
  have N := Z.nw
  iterate 8 (walk1; try dsimp only)
  rename Lz _ _ _ _ _ => Z
  rw [show Str.ofString "" = S [] from by decide +kernel] at Z
  have Z := Z.perm (news' := (ea, oe) :: (lb, olb) :: ([_, _, _, _, _] ++ [_, _, _, _, _])) (((List.perm_append_comm (l₁ := [_, _, _, _, _]) (l₂ := [_, _, _, _, _])).cons _).cons _)
  obtain ⟨g, hgd⟩ : ∃ g, g = bitB (nz a4) (nz a5) (nz a6) (nz a7) (nz a8) (nz a9) := ⟨_, rfl⟩
  have hg : g < 64 := hgd ▸ bitB_lt ..
  obtain ⟨d, hd0⟩ : ∃ d, d = (a0.fmod 3).toNat := ⟨_, rfl⟩
  refine wpAny_execs_cons (hideQ fun Qw hQw => ?_)
  refine (WhileZ (h₀ := s.heap) (L := L) (J1 w g d L dr wor wr ea lb od ow owr ow1 olc o4 o5) (n₀ := 17) Z
    ⟨0, rfl, _, _, oe, olb, o3, ha, [.str (S (hostOf [97])) t], 0, _, [], _, _, _, ov_at ⟨rfl, rfl, rfl, rfl, rfl, rfl, trivial⟩, rfl, d3, ?_, ?_, ?_, ?_, ?_, hdlb, ?_, hoe, ?_, Nat.zero_le _, Nat.zero_le _, ?_⟩ ?_)
  · simp
  · simp
  · simp
  · exact .head _
  · exact .cons _ _ .nil
  · refine ⟨fun la hla => ?_, by simp [merged, stored]⟩
    rcases hla with rfl | hla
    · exact ⟨_, rfl⟩
    · cases hla
  · exact ⟨fun _ h => (nomatch h), rfl, Nat.le_refl _⟩
  · intro q hq
    simp only [List.mem_cons, List.not_mem_nil, or_false] at hq
    rcases hq with rfl | rfl | rfl | rfl | rfl
    · exact seq_nf rfl
    · exact dict_nf howr
    · exact seq_nf rfl
    · exact dict_nf hdw
    · exact seq_nf hdd
  · rintro n m₁ news₁ h₁ tk₁ Z ⟨p, rfl, m₀, ents, oe, ol, oh, ha, hvs, hn, lkvs, ekvs, tm, tp, vh, rfl, rfl, doh, hdr, hwo, hwr', hha, hvst, hol, hlab, hoe, hent, hple, hp16, hnf⟩
    have F := Z.fr
    have N := Z.nw
    repeat (walk1; try dsimp only)
    have hql : hvs.length = (queue (wdG g) p).length := by rw [hvst.length, List.length_map]
    have hq16 : (queue (wdG g) p).length ≤ 16 := (queue_still hg hp16).1
    refine call_len_list (items := hvs.toArray) ⟨_, Z.get (List.mem_append_right _ hha), rfl, _, rfl⟩ (by simp; omega) ?_
    iterate 2 (walk1; try dsimp only)
    have hsz : hvs.toArray.size = (queue (wdG g) p).length := by rw [List.size_toArray, hql]
    rw [hsz]
    by_cases hlt : p < (queue (wdG g) p).length
    · rw [if_pos (by rw [decide_eq_true_eq]; omega)]
      refine hideQ fun Qb hQb => ?_
      obtain ⟨la, hla⟩ : ∃ la, (queue (wdG g) p)[p]? = some la := ⟨_, List.getElem?_eq_getElem hlt⟩
      have F := Z.fr
      have N := Z.nw
      obtain ⟨q1, q2, q3, q4, q5, q6, q7, q8⟩ := turn_one hg hp16 hla
      refine wpAny_execs_cons (wpAny_Assign_Name ?_)
      repeat (walk1; try dsimp only)
      obtain ⟨th, hth⟩ := hvst.get (i := p) (x := S (hostOf la)) (by rw [List.getElem?_map, hla]; rfl)
      refine tail_any (Heap.IsList.typeIs (items := hvs.toArray) ⟨_, Z.get (List.mem_append_right _ hha), rfl, _, rfl⟩) PySem.F.slot_list_getitem.lookup
        (wpAny_getItem_list (items := hvs.toArray) ⟨_, Z.get (List.mem_append_right _ hha), rfl, _, rfl⟩ (by omega) (by omega) (by simpa using hth) ?_) rfl
      refine stC (pre := [_, _, _, _]) (post := [_, _] ++ ents) Z doh fun h₂ oh Z doh => ?_
      have Z := Z.perm (news' := [_, _, _, _, _, _, _] ++ ents) (List.Perm.refl _)
      have F := Z.fr
      have N := Z.nw
      try dsimp only
      refine wpAny_execs_cons (wpAny_Assign_Name ?_)
      repeat (walk1; try dsimp only)
      obtain ⟨g1, g2, g3⟩ := good16 la q1
      obtain ⟨e1, e2⟩ := hostOf_cons q1
      have hl13 : (46 :: hostOf la.tail).length ≤ 13 := by rw [e2] at g3; simp at g3 ⊢; omega
      have hsl : (S (46 :: hostOf la.tail)).length ≤ sizeLine := by rw [S_len, sizeLine_eq]; omega
      refine wpAny_call (reach_spec (X.keeps Z.keep) (T.keeps Z.keep) (by show A.depth + 1 < 890; omega) hh g1 fun h₃ tk₃ t3 x => ?_)
      rw [g2]
      have Z := Z.ext x
      have F := Z.fr
      have N := Z.nw
      dsimp only
      repeat (walk1; try dsimp only)
      rename Lz _ _ _ _ _ => Z
      rw [show Txt.slice (S (46 :: hostOf la.tail)) (some 1) none = S (hostOf la.tail) from sl_from (46 :: hostOf la.tail) (k := 1) rfl (by simp)]
      obtain ⟨tl, htl⟩ := hlab.at' la.tail q4
      refine wpAny_notIn_of (strKind_is _ _ _ _) hlbs (dictZ Z (.tail _ (.head _)) hol).mapOf ?_
      rw [htl]
      simp only [Option.isSome_some, Bool.not_true]
      walk1
      simp only [Bool.false_eq_true, if_false]
      refine wpAny_execs_nil ?_
      try dsimp only
      refine wpAny_execs_cons (wpAny_Assign_Subscript ?_)
      have F := Z.fr
      have N := Z.nw
      repeat (walk1; try dsimp only)
      rw [e2]
      repeat (walk1; try dsimp only)
      rename Lz _ _ _ _ _ => Z
      rw [show Txt.slice (S (46 :: hostOf la.tail)) (some 1) none = S (hostOf la.tail) from sl_from (46 :: hostOf la.tail) (k := 1) rfl (by simp),
        show Txt.item (S (la.headD 0 :: 46 :: hostOf la.tail)) 0 = S [la.headD 0] from item_S (la.headD 0 :: 46 :: hostOf la.tail) (k := 0) rfl (Nat.zero_lt_succ _)]
      refine tail_any (dictZ Z (.tail _ (.head _)) hol).typeIs PySem.F.slot_dict_getitem.lookup (wpAny_getItem_of (strKind_is _ _ _ _) (dictZ Z (.tail _ (.head _)) hol).mapOf htl ?_) rfl
      try dsimp only
      have F := Z.fr
      have N := Z.nw
      repeat (walk1; try dsimp only)
      have hl4 : ∀ la ∈ lams16, la.length ≤ 4 := by decide
      have hla4 := hl4 la q1
      refine PyProof.Rows.add_str (fun t4 tk4 => ?_) (by rw [S_len, S_len, sizeLine_eq, List.length_tail]; simp; omega)
      rw [show S [la.headD 0] ++ S la.tail = S la from by rw [S_app]; exact congrArg S e1.symm]
      try dsimp only
      repeat (walk1; try dsimp only)
      refine setDictZ (pre := [_]) (post := [_, _, _, _, _] ++ ents) Z hol (strKind_is _ _ _ _) (fun h₅ ol t₅ Z hol => ?_) (by have := hlab.len; rw [q8] at this; rw [sizeLine_eq]; omega)
      have hlab := hlab.put (la := la) (by rw [e1]; exact List.cons_ne_nil _ _) t4
      have Z := Z.perm (news' := [_, _, _, _, _, _, _] ++ ents) (List.Perm.refl _)
      have F := Z.fr
      have N := Z.nw
      try dsimp only
      have hwl : ∀ x ∈ abcd, ∀ y ∈ abcd, (wiresF [a4, a5, a6, a7, a8, a9] (S [x, y])).isSome = wdG g x y := by rw [hgd]; exact wired_link a4 a5 a6 a7 a8 a9
      refine wpAny_execs_cons (wpAny_mono (Q := fun f s' => f = Flow.next ∧ TryEnd w g la s.heap L ea lb ha dr wor oe ol o5 o4 oh olc ow1 ents (.str (S (mailL d ((queue (wdG g) p).take p))) tm) (.int (p : Nat) tp) (.str (S (46 :: hostOf la.tail)) t3) s s') ?_ (fun f s' hM => ?_) fun _ _ x => x)
      · refine hideQ fun Qt hQt => ?_
        refine wpAny_Try_except ?_
        refine hideE fun Et hEt => ?_
        have F := Z.fr
        have N := Z.nw
        repeat (walk1; try dsimp only)
        obtain ⟨tx, htx⟩ := hlab.at' la (.inr (by simp))
        refine tail_any (dictZ Z (.tail _ (.head _)) hol).typeIs PySem.F.slot_dict_getitem.lookup (wpAny_getItem_of (strKind_is _ _ _ _) (dictZ Z (.tail _ (.head _)) hol).mapOf htx ?_) rfl
        try dsimp only
        repeat (walk1; try dsimp only)
        rw [e2]
        have hLn : s.heap.get? L = none := by
          cases q : s.heap.get? L with
          | none => rfl
          | some o => exact absurd (Heap.lt_size q) (Nat.not_lt.mpr Z.fr.above)
        obtain ⟨oL, eL, epL, hoL, hdL, hskL, hfL⟩ := Z.fr.ns
        refine wpAny_call (send_spec (base := s.heap) (X.keeps Z.keep) (T.keeps Z.keep) (by show A.depth + 1 = 302; omega) hh (by show A.units + 3 ≤ 1000; omega) (by show A.frames.map _ = _; rw [hfr]; rfl) (fun b o q => Z.keep b o q)
          (by exact ⟨(fun q => by cases q), ⟨L, oL, rfl, hLn, hoL, fun vs q => by rw [hdL] at q; cases q⟩, trivial⟩) hws (dictZ Z (List.mem_append_right _ hwr') howr) hkv (by simp at hl13 ⊢; omega) (by rw [S_len]; omega) (fun htk => ?_) (fun htk => ?_))
        · intro h' tk' t tl' rf otl vs' nn orf kv x hT n1 n2 n3 n5 n6 n7 n8 n4 n9 n10 n11
          dsimp only
          have Z := Z.addTwo x n6 n9 n1 n2 n3
          refine asgTup hh Z hT (fun _ Z => asgConsX Z fun _ _ Z => asgConsX Z fun _ _ Z => asgNil ?_)
          repeat (refine wpAny_execs_nil ?_; try dsimp only)
          rw [← e2, taken_link hwl q1] at n4
          subst hQt
          refine ⟨rfl, _, _, _, [(tl', otl), (rf, orf)] ++ ents, tl', rf, otl, vs', nn, orf, kv, rfl, (Z.toBack (frt := [_, _, _, _, _, _, _]) [_, _]).congr (ov_at ⟨rfl, rfl, rfl, rfl, rfl, rfl, rfl, rfl, rfl, trivial⟩),
            fun q hq => List.mem_append_right _ hq, .head _, n7, n8, n4, .tail _ (.head _), n5, n10, ?_, ?_⟩
          · have := congrArg List.length n11
            rw [List.length_map, ← e2, refused_link hwl q1] at this
            exact this
          · intro q hq
            rcases List.mem_cons.mp hq with rfl | hq
            · exact seq_nf n8
            · rcases List.mem_cons.mp hq with rfl | hq
              · exact dict_nf n10
              · exact hnf q hq
        · intro h' tk' ex dx rf orf kv fly up hns nx1 nx2 nx3 nx4 nx5 n2 n5 n9 n10 n11
          subst hEt
          dsimp only
          refine wpAny_notes (by show A.frames.map _ = _; rw [hfr]; rfl) rfl fly fun h₆ fly up1 => ?_
          refine wpAny_lands (s := ⟨h₆, s.gens, s.drawn, tk', s.os⟩) fly fun h₇ fly up2 => ?_
          have Z5 := Z
          have hnf7 : ∀ q ∈ ([(ea, oe), (lb, ol), (L + 1 + 1 + 1 + 1 + 1, o5), (L + 1 + 1 + 1 + 1, o4), (L + 1 + 1 + 1, oh), (L + 1 + 1, olc), (L + 1, ow1)] ++ ents), ∀ vs, q.2.data ≠ .fields vs := by
            intro q hq
            rcases List.mem_append.mp hq with hq | hq
            · simp only [List.mem_cons, List.not_mem_nil, or_false] at hq
              rcases hq with rfl | rfl | rfl | rfl | rfl | rfl | rfl
              · exact dict_nf hoe
              · exact dict_nf hol
              · exact cell_nf d5
              · exact cell_nf d4
              · exact cell_nf doh
              · exact cell_nf dlc
              · exact cell_nf dw1
            · exact hnf q hq
          have Z := Z.afterUp fly.stays ((up.trans up1).trans up2) hnf7
          refine wpAny_handleBy_cons (codeAny_handlers_test ?_) (by intro q; cases q)
          have F := Z.fr
          have N := Z.nw
          walk1
          try dsimp only
          obtain ⟨slx, vsx, hex, hx2, _⟩ := id fly.exc
          have hC := ((X.keeps Z.keep) 113 _ rfl : Heap.get? _ 113 = some (excClassObj _ _ 113 112 _ _ _ _ _ _ _ _ _ _ _ _ _ _))
          refine wpAny_excMatches_sub_self hC hex rfl (by decide) (codeAny_handlers_suite_as ?_)
          refine wpAny_lands (s := ⟨h₇, s.gens, s.drawn, _, s.os⟩) fly fun h₈ fly up3 => ?_
          obtain ⟨odx, esx, epx, hodx, hddx, hrx⟩ := hns
          have hLdx : dx ∉ [L] := fun q => by rw [List.mem_singleton.mp q] at nx2; obtain ⟨oL, _, _, hL, _⟩ := Z5.fr.ns; rw [hL] at nx2; cases nx2
          have hLrf : rf ∉ [L] := fun q => by rw [List.mem_singleton.mp q] at n2; obtain ⟨oL, _, _, hL, _⟩ := Z5.fr.ns; rw [hL] at n2; cases n2
          have hodx8 := (((up1.trans up2).trans up3) dx odx hodx fun vs q => by rw [hddx] at q; cases q).1 hLdx
          have horf8 := (((up1.trans up2).trans up3) rf orf n9 (dict_nf n10)).1 hLrf
          obtain ⟨slx, vsx, hex, hx2, _⟩ := id fly.exc
          have Z := Z5.raised fly.stays (((up.trans up1).trans up2).trans up3) hnf7 nx1 nx2 n2 nx3 nx4 nx5 hex hodx8 horf8
          refine stX Z fun h₉ t₉ Z => ?_
          have F := Z.fr
          have N := Z.nw
          dsimp only
          repeat (walk1; try dsimp only)
          rename Lz _ _ _ _ _ => Z
          refine rec_attrK (X.keeps Z.keep) (Z.get (.tail _ (.head _))) ⟨odx, esx, epx, Z.get (.tail _ (.tail _ (.head _))), hddx, hrx⟩ ?_
          try dsimp only
          iterate 2 (walk1; try dsimp only)
          rename Lz _ _ _ _ _ => Z
          refine unpack_held (items := #[_, _]) rfl (Z.get (.tail _ (.tail _ (.head _)))) rfl hx2 ⟨_, Z.get (.head _), rfl, _, rfl⟩ fun h₁₀ hx10 => ?_
          have Z := Z.ext fun b o e => hx10 b o (Nat.ne_of_lt (Heap.lt_size e)) e
          refine wpAny_bind (wpAny_holding (wpAny_bindName (stX Z fun _ _ Z => ?_)))
          refine wpAny_bind (wpAny_holding (wpAny_bindName (stX Z fun _ _ Z => ?_)))
          refine wpAny_pure ?_
          repeat (refine wpAny_execs_nil ?_; try dsimp only)
          refine wpAny_nameGoes_keeps rfl Z.fr.ns rfl fun h₁₁ v11 hn11 hs11 => ?_
          have Z := Z.set hn11 hs11
          dsimp only
          have Z := Z.sub (news' := (_, _) :: (rf, orf) :: ([_, _, _, _, _, _, _] ++ ents)) ((((((List.Sublist.refl _).cons₂ _).cons _).cons _).cons₂ _).cons _)
          rw [← e2, taken_link hwl q1] at htk
          subst hQt
          refine ⟨rfl, _, _, _, [(_, _), (rf, orf)] ++ ents, _, rf, _, [], 0, orf, kv, rfl, (Z.toBack (frt := [_, _, _, _, _, _, _]) [_, _]).congr (ov_at ⟨rfl, rfl, rfl, rfl, rfl, rfl, rfl, rfl, rfl, trivial⟩),
            fun q hq => List.mem_append_right _ hq, .head _, rfl, rfl, by rw [htk]; exact .nil, .tail _ (.head _), n5, n10, ?_, ?_⟩
          · have := congrArg List.length n11
            rw [List.length_map, ← e2, refused_link hwl q1] at this
            exact this
          · intro q hq
            rcases List.mem_cons.mp hq with rfl | hq
            · exact seq_nf rfl
            · rcases List.mem_cons.mp hq with rfl | hq
              · exact dict_nf n10
              · exact hnf q hq
      · obtain ⟨rfl, h', tk', m', ents', tl', rf, otl, vs', nn, orf, kv, rfl, Z, hents, htl', hotc, hotd, hvs', hrf, hrfs, horf, hkvl, hnf⟩ := hM
        have F := Z.fr
        have N := Z.nw
        dsimp only
        have F := Z.fr
        have N := Z.nw
        have hkl4 : (kids (wdG g) la).length ≤ 4 := by unfold kids; rw [List.length_map]; exact Nat.le_trans (List.length_filter_le _ _) (by decide)
        have hvl := hvst.length
        have hvl' := hvs'.length
        rw [List.length_map] at hvl hvl'
        refine wpAny_execs_cons (wpAny_Assign_Name ?_)
        repeat (walk1; try dsimp only)
        refine addListsZ Z ⟨_, Z.get (List.mem_append_right _ (hents _ hha)), rfl, _, rfl⟩ ⟨_, Z.get (List.mem_append_right _ htl'), hotc, nn, hotd⟩ (fun hb h₁₂ Z => ?_) (by rw [sizeLine_eq]; omega)
        have F := Z.fr
        have N := Z.nw
        try dsimp only
        repeat (walk1; try dsimp only)
        rename Lz _ _ _ _ _ => Z
        rename_i hpC _ _ _
        have hds : (hpC.objs.size == sysModules) = false := Z.fr.notModules (modules_low T.nolimit)
        have hrl4 : refs (wdG g) la ≤ 4 := by unfold refs; exact Nat.le_trans (List.length_filter_le _ _) (by decide)
        refine call_len_dict hrfs (dictZ Z (.tail _ (List.mem_append_right _ hrf)) horf) (by omega) ?_
        rw [hkvl]
        try dsimp only
        iterate 5 (walk1; try dsimp only)
        refine wpAny_Dict_walk (knd := PySem.strKind (PySem.Challenge.rw_xo0016_01).row.prog w) (by rfl) rfl (List.cons_ne_nil _ _) (by decide) ?_
        have Z := Z.push { cls := .type "dict", data := .dict #[] } rfl
        have F := Z.fr
        have N := Z.nw
        iterate 4 (walk1; try dsimp only)
        rw [e2]
        iterate 3 (walk1; try dsimp only)
        rw [show Txt.item (S (la.headD 0 :: 46 :: hostOf la.tail)) 0 = S [la.headD 0] from item_S (la.headD 0 :: 46 :: hostOf la.tail) (k := 0) rfl (Nat.zero_lt_succ _)]
        refine ⟨[(S [la.headD 0], .int 1 _)], ⟨strKind_is _ _ _ _, rfl, trivial⟩, Heap.DictOf.new _, fun h₁₃ hD13 hs13 => ?_⟩
        obtain ⟨od2, hod2, hdd2⟩ := Heap.dictOf_iff.mp hD13
        have Z := Z.upd (pre := []) hs13 hod2
        have F := Z.fr
        have N := Z.nw
        try dsimp only
        repeat (walk1; try dsimp only)
        rename Lz _ _ _ _ _ => Z
        rename_i tup _ _ _
        refine setDictZ (pre := [_, _, _]) (post := [_, _, _, _, _, _] ++ ents') Z hoe (strKind_is _ _ _ _) (fun h₁₄ oe t₁₄ Z hoe => ?_) (by have := hent.len; rw [q8] at this; rw [sizeLine_eq]; omega)
        obtain ⟨en, hen, Z⟩ := Lz.back (frt := [_, _, _, _, _, _, _]) [_, _, _] Z
        have hla0 : la ≠ [] := by rw [e1]; exact List.cons_ne_nil _ _
        have hent := hent.put (ents' := en) hla0 q6 (fun q hq => by rw [hen]; exact List.mem_append_right _ (hents q hq)) (by rw [hen]; exact .head _) (by rw [hen]; exact .tail _ (.head _)) hds hdd2 ⟨rfl, ⟨_, rfl⟩, trivial⟩
        rw [← q3] at hent
        have hnf : ∀ q ∈ en, ∀ vs, q.2.data ≠ .fields vs := fun q hq => by
          rw [hen] at hq
          rcases List.mem_append.mp hq with hq | hq
          · simp only [List.mem_cons, List.not_mem_nil, or_false] at hq
            rcases hq with rfl | rfl | rfl
            · exact seq_nf rfl
            · exact dict_nf hdd2
            · exact seq_nf rfl
          · exact hnf q hq
        have hdr : (dr, od) ∈ en := by rw [hen]; exact List.mem_append_right _ (hents _ hdr)
        have hwo : (wor, ow) ∈ en := by rw [hen]; exact List.mem_append_right _ (hents _ hwo)
        have hwr' : (wr, owr) ∈ en := by rw [hen]; exact List.mem_append_right _ (hents _ hwr')
        have hha : (hb, lstO (hvs ++ vs') 0) ∈ en := by rw [hen]; exact .tail _ (.tail _ (.head _))
        clear hen
        have F := Z.fr
        have N := Z.nw
        try dsimp only
        refine wpAny_execs_cons (wpAny_Assign_Name ?_)
        iterate 4 (walk1; try dsimp only)
        have hml : (mailL d ((queue (wdG g) p).take p)).length ≤ 320 := by
          have := mail_len ((queue (wdG g) p).take p) d fun x hx => queue_mem hg hp16 x (List.mem_of_mem_take hx)
          rw [q8] at this; omega
        refine PyProof.Rows.add_str (fun t15 tk15 => ?_) (by rw [S_len, S_len, sizeLine_eq]; exact mail_fits2 hml hl13)
        rw [S_app]
        try dsimp only
        iterate 16 (walk1; try dsimp only)
        rename Lz _ _ _ _ _ => Z
        have hdrl : Heap.IsList _ dr _ := ⟨od, Z.get (.tail _ (List.mem_append_right _ hdr)), hdc, nd, hdd⟩
        refine tail_any hdrl.typeIs PySem.F.slot_list_getitem.lookup (wpAny_getItem_list hdrl (by decide) (by decide) rfl ?_) rfl
        rw [show ((#[Value.int a0 t0, .int a1 _, .int a2 _, .int a3 _, .int a4 _, .int a5 _, .int a6 _, .int a7 _, .int a8 _, .int a9 _] : Array Value)[Int.toNat 0]) = .int a0 t0 from rfl]
        iterate 2 (walk1; try dsimp only)
        walk1
        try dsimp only
        rw [fm_eq p a0, ← hd0]
        obtain ⟨te, hte⟩ := eol_at p d tk15 (tk15 + 1) (tk15 + 1 + 1)
        refine tail_any (Heap.IsList.typeIs ⟨_, Z.get (.head _), rfl, _, rfl⟩) PySem.F.slot_list_getitem.lookup
          (wpAny_getItem_list ⟨_, Z.get (.head _), rfl, _, rfl⟩ (m3_nonneg _) (m3_fits _) (by rw [Int.toNat_natCast]; exact hte) ?_) rfl
        try dsimp only
        refine PyProof.Rows.add_str (fun t16 tk16 => ?_) (by rw [S_len, S_len, sizeLine_eq, List.length_append]; exact mail_fits hml hl13 (eol_len _))
        rw [S_app]
        have Z := Z.sub (List.sublist_cons_self ..)
        have F := Z.fr
        have N := Z.nw
        try dsimp only
        repeat (walk1; try dsimp only)
        rename Lz _ _ _ _ _ => Z
        rw [← q3] at hlab
        have hmail : mailL d ((queue (wdG g) (p + 1)).take (p + 1)) = mailL d ((queue (wdG g) p).take p) ++ (46 :: hostOf la.tail) ++ eolL (d + p) := by
          rw [q3, mail_app, q8]
          simp [mailL, rowL]
        subst hQb
        refine ⟨rfl, _, _, _, _, 17 - (p + 1), rfl, Z, by omega, p + 1, rfl, _, en, oe, ol, oh, hb, hvs ++ vs', 0, _, _, _, _, _, ov_at ⟨rfl, rfl, rfl, rfl, by rw [hmail]; rfl, rfl, trivial⟩, rfl, doh, hdr, hwo, hwr', hha, ?_, hol, hlab, hoe, hent, q7, q5, hnf⟩
        rw [q2, List.map_append]
        exact strs_app hvst hvs'
    · rw [if_neg (by rw [decide_eq_true_eq]; omega)]
      subst hQw
      have hpe : p = (queue (wdG g) p).length := Nat.le_antisymm hple (Nat.le_of_not_lt hlt)
      have hqH : queue (wdG g) p = HG g := (queue_still hg hp16).2.2 (Nat.le_of_not_lt hlt)
      have hpH : p = (HG g).length := hqH ▸ hpe
      have htk : (queue (wdG g) p).take p = HG g := by rw [hqH, hpH]; exact List.take_length
      rw [htk] at hlab hent Z
      rw [hqH] at hvst
      have F := Z.fr
      have N := Z.nw
      refine wpAny_execs_cons (wpAny_Assign_Name ?_)
      repeat (walk1; try dsimp only)
      have hH16 : (HG g).length ≤ 16 := (queueG g hg).1
      have hmem : ∀ la ∈ HG g, la ∈ lams16 := (queueG g hg).2.1
      have hml : (mailL d (HG g)).length ≤ 320 := Nat.le_trans (mail_len (HG g) d hmem) (Nat.mul_le_mul_left 20 hH16)
      refine wpAny_call (fix_eols_spec (X.keeps Z.keep) (T.keeps Z.keep) (by show A.depth + 1 < 890; omega) hh (by show (mailL d (HG g)).toArray.size ≤ 4096; rw [List.size_toArray]; exact Nat.le_trans hml (by decide)) fun h₂ tk₂ t2 x => ?_)
      rw [show (⟨(fixL (S (mailL d (HG g))).cps.toList).toArray⟩ : Str) = S ((HG g).flatMap fun la => rowL la ++ [13, 10]) from by rw [List.toList_toArray, fix_mail _ _ hmem]]
      have Z := Z.ext x
      have F := Z.fr
      have N := Z.nw
      try dsimp only
      iterate 5 (walk1; try dsimp only)
      have hfl : (S ((HG g).flatMap fun la => rowL la ++ [13, 10])).length + 2 ≤ sizeLine := by
        have := fixL_len _ (mailL d (HG g)) (Nat.le_refl _)
        rw [fix_mail _ _ hmem] at this
        rw [S_len, sizeLine_eq]
        exact Nat.le_trans (Nat.add_le_add_right (Nat.le_trans this (Nat.mul_le_mul_left 2 hml)) 2) (by decide)
      refine splitZ Z (by decide +kernel) (fun ra rvs h₃ k3 hrvs Z => ?_) hfl
      rw [show Txt.split (S ((HG g).flatMap fun la => rowL la ++ [13, 10])) (Str.ofString "\r\n") = ((HG g).map fun la => S (rowL la)) ++ [S []] from split_mail (HG g) hmem] at hrvs
      have F := Z.fr
      have N := Z.nw
      try dsimp only
      iterate 1 (walk1; try dsimp only)
      rename Lz _ _ _ _ _ => Z
      obtain ⟨wo, hwoD⟩ : ∃ f, f = wo4 a0 a1 a2 a3 := ⟨_, rfl⟩
      obtain ⟨wt, hwtD⟩ : ∃ f, f = wt6 a4 a5 a6 a7 a8 a9 := ⟨_, rfl⟩
      have hb10 := hdb
      simp only [List.mem_cons, List.not_mem_nil, or_false, forall_eq_or_imp, forall_eq] at hb10
      obtain ⟨b0, b1, b2, b3, b4, b5, b6, b7, b8, b9⟩ := hb10
      have hwo6 : ∀ c, (wo c).natAbs ≤ 1000000 := by rw [hwoD]; exact wo4_small b0 b1 b2 b3
      have hwt6 : ∀ c d, (wt c d).natAbs ≤ 1000000 := by rw [hwtD]; exact wt_small b4 b5 b6 b7 b8 b9
      have hsym : ∀ x y, wt x y = wt y x := by rw [hwtD]; exact wt_symm _ _ _ _ _ _
      have hoff : ∀ x y, wdG g x y = false → wt x y = 0 := by rw [hwtD, hgd]; exact fun x y h => wt_off h
      have hWA : WiresAre kvw wt := by rw [hwtD]; exact wires_are hkv b4 b5 b6 b7 b8 b9
      obtain ⟨wkvs, hwk, hworth⟩ : ∃ wkvs, ow.IsDictOf (PySem.strKind (PySem.Challenge.rw_xo0016_01).row.prog w) wkvs ∧ ∀ c ∈ abcd, ∃ t, valueAt wkvs (S [c]) = some (.int (wo c) t) := ⟨_, hdw, by rw [hwoD]; exact worth_at _ _ _ _ _ _ _ _⟩
      have Z := Z.perm (perm8 _ _ _ _ _ _ _ _ _).symm
      refine wpAny_execs_cons (hideQ fun Qw hQw => ?_)
      refine (WhileZ (h₀ := s.heap) (L := L) (J2 w g wo wt L wor ea ha ra [(wor, ow), (wr, owr), (lb, ol), (L + 1 + 1, olc), (L + 1, ow1), (L + 1 + 1 + 1 + 1 + 1, o5), (ha, lstO hvs hn), (ra, lstO rvs 0)]) (n₀ := (HG g).length) Z
        ⟨_, (ra, lstO rvs 0) :: (lb, ol) :: (L + 1 + 1 + 1 + 1 + 1, o5) :: (L + 1 + 1, olc) :: (L + 1, ow1) :: ents, oe, oh, o4, ekvs, tp, vh, _, ov_at ⟨rfl, rfl, rfl, rfl, by rw [← hpH]; rfl, trivial⟩, rfl, d4, doh, ?_, hoe, ?_, Nat.le_refl _⟩ ?_)
      · intro q hq
        simp only [List.mem_cons, List.not_mem_nil, or_false] at hq
        rcases hq with rfl | rfl | rfl | rfl | rfl | rfl | rfl | rfl
        · exact .tail _ (.tail _ (.tail _ (.tail _ (.tail _ hwo))))
        · exact .tail _ (.tail _ (.tail _ (.tail _ (.tail _ hwr'))))
        · exact .tail _ (.head _)
        · exact .tail _ (.tail _ (.tail _ (.head _)))
        · exact .tail _ (.tail _ (.tail _ (.tail _ (.head _))))
        · exact .tail _ (.tail _ (.head _))
        · exact .tail _ (.tail _ (.tail _ (.tail _ (.tail _ hha))))
        · exact .head _
      · refine EntOk2.start wo wt hg ⟨fun la hla => (hent.at' la hla).more fun q hq => .tail _ (.tail _ (.tail _ (.tail _ (.tail _ hq)))), hent.none, hent.len⟩
      · rintro n m₁ news₁ h₁ tk₁ Z ⟨m₀, ents, oe, oh, os, ekvs, tp, vh, vs, rfl, rfl, dos, doh, hbase, hoe, hent, hnle⟩
        have hwo := hbase _ (.head _)
        have hwr' := hbase _ (.tail _ (.head _))
        have hlb := hbase _ (.tail _ (.tail _ (.head _)))
        have hc2 := hbase _ (.tail _ (.tail _ (.tail _ (.head _))))
        have hc1 := hbase _ (.tail _ (.tail _ (.tail _ (.tail _ (.head _)))))
        have hha := hbase _ (.tail _ (.tail _ (.tail _ (.tail _ (.tail _ (.tail _ (.head _)))))))
        have hra := hbase _ (.tail _ (.tail _ (.tail _ (.tail _ (.tail _ (.tail _ (.tail _ (.head _))))))))
        have F := Z.fr
        have N := Z.nw
        iterate 4 (walk1; try dsimp only)
        walk1
        try dsimp only
        by_cases hn0 : n = 0
        · subst hn0
          rw [if_neg (by decide)]
          subst hQw
          have F := Z.fr
          have N := Z.nw
          have hwl : ∀ x ∈ abcd, ∀ y ∈ abcd, (wiresF [a4, a5, a6, a7, a8, a9] (S [x, y])).isSome = wdG g x y := by rw [hgd]; exact wired_link a4 a5 a6 a7 a8 a9
          refine wpAny_execs_cons (wpAny_Assign_Name ?_)
          iterate 4 (walk1; try dsimp only)
          refine ldC (c := L + 1) (o := ow1) Z (List.mem_append_right [_, _, _] hc1) dw1 ?_
          iterate 2 (walk1; try dsimp only)
          refine wpAny_call (ways_spec (X.keeps Z.keep) (T.keeps Z.keep) (by show A.depth + 1 < 900; omega) hh (by show A.units + 3 ≤ 1000; omega) hws (dictZ Z (List.mem_append_right [_, _, _] hwr') howr) hkv fun h₂ tk₂ wa ow9 wvs nw x hna hwa hwc hwd hws9 => ?_)
          have Z := Z.addNew x hwa hna
          rw [ways_link hwl] at hws9
          have EF := end_facts hg
          have hWb := way_back hg
          have hW16 := ways_len16 hg
          generalize hWe : waysL (wdG g) = W at *
          have F := Z.fr
          have N := Z.nw
          try dsimp only
          walk1
          rename Lz _ _ _ _ _ => Z
          refine wpAny_execs_cons (wpAny_If ?_)
          iterate 7 (walk1; try dsimp only)
          have hvl : hvs.length ≤ 16 := by rw [hvst.length, List.length_map]; exact hH16
          refine sortedZ Z ⟨_, Z.get (.tail _ (List.mem_append_right [_, _, _] hha)), rfl, _, rfl⟩ hvst (Nat.lt_of_le_of_lt hvl (by decide)) (fun sa h₃ svs sss se Z hs1 hp1 hso1 => ?_)
          have F := Z.fr
          have N := Z.nw
          try dsimp only
          iterate 4 (walk1; try dsimp only)
          refine wpAny_ListComp_walk (fun _ => true) (fun v y => ∃ l t u, v = .str (S l) t ∧ y = .str (S (hostOf l.reverse)) u) (by decide) (by decide) rfl (by decide) rfl ?_
          refine ldX Z rfl ?_
          refine wpAny_pyIter_list (items := wvs.toArray) ⟨ow9, Z.get (.tail _ (.head _)), hwc, nw, hwd⟩ ?_
          have hDlt : wa < h₃.objs.size := Z.lt (p := (wa, ow9)) (.tail _ (.head _))
          have hwvl : wvs.length ≤ 16 := by rw [hws9.length, List.length_map]; exact hW16
          refine ⟨_, _, _, wvs.toArray.size, _, _, rfl, Walks.list (by exact hh) h₃.objs.size wa (Nat.ne_of_lt hDlt) wvs.toArray, by rw [sizeLine_eq, List.size_toArray]; exact Nat.le_trans hwvl (by decide), ⟨⟨_, Heap.get?_push_size _ rfl, rfl, rfl⟩, ⟨ow9, Heap.get?_push_of_some _ (Z.get (.tail _ (.head _))), hwc, nw, hwd⟩⟩, ?_, ⟨?_, ?_⟩, ?_⟩
          · intro b hb
            show b < (h₃.push _).objs.size
            rw [Heap.size_push]
            have hb' : b = h₃.objs.size ∨ b = wa := by simpa using hb
            rcases hb' with rfl | rfl
            · exact Nat.lt_succ_self _
            · exact Nat.lt_succ_of_lt hDlt
          · intro C i v s₃ m₃ E' hP hn hm hk ht
            exact wpAny_pure ⟨rfl, _, _, rfl, fun _ _ e => e⟩
          · intro C i v s₃ m₃ E' hP hp hn hm hk ht
            have hP' : wvs[i]? = some v := by simpa using hP
            obtain ⟨y, tv, rfl, hy⟩ := hws9.item i v hP'
            rw [List.getElem?_map] at hy
            obtain ⟨l, hl9, rfl⟩ := Option.map_eq_some_iff.mp hy
            obtain ⟨hlr, hl4⟩ := hWb l (List.mem_of_getElem? hl9)
            iterate 6 (walk1; try dsimp only)
            refine wpAny_Subscript_Slice_step (T := "str") PySem.F.slot_str_getitem.lookup ?_
            refine wpAny_Name (wpAny_loadName_local rfl rfl hn hm ?_) (by decide)
            refine wpAny_Slice ?_
            refine evalPart_none_step (evalPart_none_step (evalPart_some_step ?_))
            iterate 3 (walk1; try dsimp only)
            refine ⟨typeIs_str _ _ _, wpAny_getItem_str_slice (l := none) (u := none) (st := some (-1, _)) ⟨_, Heap.get?_push_size _ rfl, rfl, rfl⟩ rfl ?_⟩
            rw [rev_picked l hl4]
            refine ⟨by rw [S_len, sizeLine_eq, List.length_reverse]; exact Nat.le_trans hl4 (by decide), ?_⟩
            iterate 1 (walk1; try dsimp only)
            refine SC.joinStr (by exact hh) (joinOk_signsN (N := 4) (S := 1) (by rw [S_len, List.length_reverse]; exact hl4) (by decide +kernel) (by decide)) fun h₉ k9 t9 hk9 => ?_
            obtain ⟨j1, j2⟩ := join16 _ hlr
            rw [txt_join]
            try dsimp only
            walk1
            try dsimp only
            refine PyProof.Rows.add_str (fun t10 tk10 => ?_) (by rw [sizeLine_eq]; exact Nat.le_trans j2 (by decide))
            rw [j1]
            exact ⟨⟨l, _, _, rfl, rfl⟩, _, _, rfl, fun b o e => hk9 b o (Heap.get?_push_of_some _ e)⟩
          · intro D h' tk ys xs hD hl hpl hlen hxv hF hk
            obtain ⟨n2, hpl'⟩ := hpl
            have hx9 : Ext h₃ h' := fun b o e => hk b o (fun q => by rw [List.mem_singleton.mp q] at e; exact absurd (Heap.lt_size e) (Nat.lt_irrefl _)) (Heap.get?_push_of_some _ e)
            have Z := Z.addNew hx9 hpl' (by
              cases q : Heap.get? h₃ D with
              | none => rfl
              | some y => exact absurd (hD.symm.trans (Heap.get?_push_of_some _ q)) (by simp))
            have F := Z.fr
            have N := Z.nw
            try dsimp only
            iterate 1 (walk1; try dsimp only)
            have hxw : xs = wvs := list_same (by rw [hlen, List.size_toArray]) fun j v hj => by simpa using hxv j v hj
            have hys : StrsAre ys.toList (W.map fun l => S (hostOf l.reverse)) := by
              rw [List.filter_eq_self.mpr (fun _ _ => rfl), hxw] at hF
              exact paired_hosts hws9 hF
            refine sortedZ Z ⟨_, Z.get (.head _), rfl, n2, (by show Data.seq ys n2 = Data.seq ys.toList.toArray n2; rw [Array.toArray_toList])⟩ hys (by rw [hys.length, List.length_map]; exact Nat.lt_of_le_of_lt hW16 (by decide)) (fun sa2 h₅ svs2 sss2 se2 Z hs2 hp2 hso2 => ?_)
            have hwp := hosts_ways hg
            rw [hWe] at hwp
            have hse : sss = sss2 := sorted_one (hp1.trans (hwp.trans hp2.symm)) hso1 hso2
            refine ne_strs (ss := sss) ⟨_, Z.get (.tail _ (.tail _ (.head _))), rfl, _, rfl⟩ ⟨_, Z.get (.head _), rfl, _, rfl⟩ hs1 (by rw [hse]; exact hs2) (hosts_ok hg hp1) (by show A.units + 3 + 64 < cLine; rw [show cLine = 9900 from rfl]; omega) ?_
            have Z := ((Z.sub (List.sublist_cons_self ..)).sub (List.sublist_cons_self ..)).sub (List.sublist_cons_self ..)
            walk1
            simp only [Bool.false_eq_true, if_false]
            refine wpAny_execs_nil ?_
            try dsimp only
            have hc5 := hbase _ (.tail _ (.tail _ (.tail _ (.tail _ (.tail _ (.head _))))))
            obtain ⟨eu, ev, hee⟩ := List.append_of_mem hc5
            have hrest : ∀ q ∈ ents, q ≠ (L + 1 + 1 + 1 + 1 + 1, o5) → q ∈ eu ++ ev := fun q hq hne => mem_rest (hee ▸ hq) hne
            have h97 : ([97] : List Nat) ∈ HG g := by
              have h0 : (queue (wdG g) 0) = (queue (wdG g) 16).take (queue (wdG g) 0).length := (queue_still hg (Nat.zero_le _)).2.1
              have h1 : ([97] : List Nat) ∈ queue (wdG g) 0 := .head _
              rw [h0] at h1
              exact List.mem_of_mem_take h1
            have h970 : (HG g)[0]? = some [97] := by
              have h0 : (queue (wdG g) 0) = (queue (wdG g) 16).take (queue (wdG g) 0).length := (queue_still hg (Nat.zero_le _)).2.1
              have h1 : (queue (wdG g) 0)[0]? = some [97] := rfl
              rw [h0, List.getElem?_take] at h1
              split at h1
              · exact h1
              · cases h1
            obtain ⟨te, fd, fo, z1, z2, z3, z4, fkv, ht1, ht2, ht3, ht4, ht5, ht6⟩ := hent.at' [97] h97
            have r1 := hrest _ hwr' (fun q => dict_nc howr d5 (congrArg Prod.snd q))
            have r2 := hrest _ hc1 (fun q => five_off L (congrArg Prod.fst q))
            have r3 := hrest _ hha (fun q => seq_nc rfl d5 (congrArg Prod.snd q))
            have r4 := hrest _ ht2 (fun q => seq_nc rfl d5 (congrArg Prod.snd q))
            have r5 := hrest _ ht3 (fun q => dict_nc ht5 d5 (congrArg Prod.snd q))
            rw [hee] at Z
            have Z := Z.perm (perm5 _ _ _ _ _ _ _)
            have F := Z.fr
            have N := Z.nw
            refine wpAny_execs_cons (wpAny_Assign_Name ?_)
            refine emptyDictZ (knd := PySem.strKind (PySem.Challenge.rw_xo0016_01).row.prog w) Z (modules_low T.nolimit) fun la9 h₆ ol9 Z hl9 hol9 => stX Z fun h₇ t₇ Z => ?_
            dsimp only
            have F := Z.fr
            have N := Z.nw
            iterate 4 (walk1; try dsimp only)
            rename Lz _ _ _ _ _ => Z
            refine wpAny_execs_cons (hideQ fun Qf hQf => ForZ (h₀ := s.heap) ?_)
            refine ldX Z rfl ?_
            have hrestZ : ∃ rest, rest = [(ea, oe), (L + 1 + 1 + 1 + 1, os), (L + 1 + 1 + 1, oh), (wa, ow9)] ++ (eu ++ ev) := ⟨_, rfl⟩
            obtain ⟨rest, hrs⟩ := hrestZ
            have Z := Z.perm (news' := (la9, ol9) :: (L + 1 + 1 + 1 + 1 + 1, o5) :: ([(ea, oe), (L + 1 + 1 + 1 + 1, os), (L + 1 + 1 + 1, oh), (wa, ow9)] ++ (eu ++ ev))) (List.Perm.cons _ (List.perm_middle (l₁ := [(ea, oe), (L + 1 + 1 + 1 + 1, os), (L + 1 + 1 + 1, oh)]) (l₂ := (wa, ow9) :: (eu ++ ev))).symm)
            rw [← hrs] at Z
            have hwaR : (wa, ow9) ∈ rest := by rw [hrs]; exact .tail _ (.tail _ (.tail _ (.head _)))
            refine srcList hh Z (.tail _ (.tail _ hwaR)) hwc hwd
              (fun i m news => ∃ m₀ od kv oc5 vc tb, m = ov [("entries", .ref ea), ("hosts", .ref ha), ("ways", .ref wa), ("lasts", .ref la9), ("wired_back", .int (backT g W i) tb)] m₀ ∧ news = (la9, od) :: (L + 1 + 1 + 1 + 1 + 1, oc5) :: rest ∧ oc5.data = .cell vc ∧
                od.IsDictOf (PySem.strKind (PySem.Challenge.rw_xo0016_01).row.prog w) kv ∧ Bears kv (lastsT W i))
              ⟨_, ol9, [], o5, _, _, ov_at ⟨rfl, rfl, rfl, rfl, rfl, trivial⟩, rfl, d5, hol9, trivial⟩ ?_ ?_
            · rintro i v m₁ news₁ own h₈ tk₈ hv ⟨m₀, od, kv, oc5, vc, tb, rfl, rfl, dc5, hod, hbe⟩ _ Z
              obtain ⟨y, tv, rfl, hy⟩ := hws9.item i v hv
              rw [List.getElem?_map] at hy
              obtain ⟨l, hl9', rfl⟩ := Option.map_eq_some_iff.mp hy
              obtain ⟨hlr, hl4⟩ := hWb l (List.mem_of_getElem? hl9')
              have e5 : ∀ (x y : Addr × Obj), own ++ x :: y :: rest = (own ++ [x]) ++ y :: rest := fun x y => by simp
              rw [e5] at Z
              refine wpAny_assign_Name (stC Z dc5 fun h₉ oc5 Z dc5 => ?_)
              rw [← e5] at Z
              have F := Z.fr
              have N := Z.nw
              try dsimp only
              refine hideQ fun Qb hQb => ?_
              refine wpAny_execs_cons (wpAny_Assign_Subscript ?_)
              iterate 4 (walk1; try dsimp only)
              obtain ⟨kk, hk1, hk2, hk3', hk4⟩ := way_last hlr
              refine wpAny_dict_get2 (knd := PySem.strKind (PySem.Challenge.rw_xo0016_01).row.prog w) hl9 ?_
              simp only [Bool.false_eq_true, if_false]
              walk1
              refine ldC (c := L + 1 + 1 + 1 + 1 + 1) (o := oc5) Z (List.mem_append_right _ (.tail _ (.head _))) dc5 ?_
              iterate 3 (walk1; try dsimp only)
              refine tail_any (typeIs_str _ _ _) PySem.F.slot_str_getitem.lookup (PyProof.Rows.getItem_str (c := l.getLastD 0) (by decide) (ch_last hk1 hk2) ?_) rfl
              rw [show (⟨#[l.getLastD 0]⟩ : Str) = S [l.getLastD 0] from rfl]
              try dsimp only
              try simp only [Bool.false_eq_true, if_false]
              walk1
              refine ⟨S [l.getLastD 0], valueAt kv, strKind_is _ _ _ _, (dictZ Z (List.mem_append_right _ (.head _)) hod).mapOf, ?_⟩
              have hndk : (kv.map (·.1)).Nodup := by
                obtain ⟨_, _, _, _, _, hn⟩ := hod
                exact hn.2
              obtain ⟨n0, t0, hget, hbe'⟩ := tally_at hbe hndk (S [l.getLastD 0]) _
              rw [hget]
              try dsimp only
              iterate 4 (walk1; try dsimp only)
              refine ldC (c := L + 1 + 1 + 1 + 1 + 1) (o := oc5) Z (List.mem_append_right _ (.tail _ (.head _))) dc5 ?_
              iterate 3 (walk1; try dsimp only)
              refine tail_any (typeIs_str _ _ _) PySem.F.slot_str_getitem.lookup (PyProof.Rows.getItem_str (c := l.getLastD 0) (by decide) (ch_last hk1 hk2) ?_) rfl
              rw [show (⟨#[l.getLastD 0]⟩ : Str) = S [l.getLastD 0] from rfl]
              try dsimp only
              have hiw : i < wvs.length := (List.getElem?_eq_some_iff.mp hv).1
              refine setDictZ (pre := own) (post := (L + 1 + 1 + 1 + 1 + 1, oc5) :: rest) Z hod (strKind_is _ _ _ _) (fun h₁₀ od t₁₀ Z hod => ?_) (by rw [hbe.length, sizeLine_eq]; exact Nat.le_trans (lastsT_len W i) (Nat.le_trans (Nat.le_of_lt (Nat.lt_of_lt_of_le hiw hwvl)) (by decide)))
              rw [← lastsT_step hl9'] at hbe'
              have F := Z.fr
              have N := Z.nw
              try dsimp only
              refine wpAny_execs_cons ?_
              iterate 6 (walk1; try dsimp only)
              have hc1R : (L + 1, ow1) ∈ rest := by rw [hrs]; exact .tail _ (.tail _ (.tail _ (.tail _ r2)))
              have hwrR : (wr, owr) ∈ rest := by rw [hrs]; exact .tail _ (.tail _ (.tail _ (.tail _ r1)))
              refine wpAny_ListComp_free (cl := [(Str.ofString "wires", L + 1), (Str.ofString "way", L + 1 + 1 + 1 + 1 + 1)]) (filtP fun n => wdG g (l.getLastD 0) n) (fun v y => v = y) rfl (by decide) rfl (by decide) rfl ?_
              refine ldC (c := L + 1 + 1 + 1 + 1 + 1) (o := oc5) Z (List.mem_append_right _ (.tail _ (.head _))) dc5 ?_
              refine wpAny_pyIter_ascii (ascii_of hk4) ?_
              refine ⟨_, _, _, _, _, _, rfl, walksLt (Walks.strAscii (by exact hh) _ (S l) _), by rw [sizeLine_eq, List.size_toArray]; exact Nat.le_trans hl4 (by decide), ⟨_, Heap.get?_push_size _ rfl, rfl, rfl⟩, ?_, ⟨?_, ?_⟩, ?_⟩
              · intro b hb
                rw [List.mem_singleton.mp hb, Heap.size_push]
                exact Nat.lt_succ_self _
              · intro C i' v s₃ m₃ E' hC hP hn hm hk3 ht
                obtain ⟨hi4, c, u, hc, rfl⟩ := hP
                have hcl : c ∈ l := by
                  have : l[i']? = some c := by simpa using hc
                  exact List.mem_of_getElem? this
                rw [List.forIn_cons, if_pos rfl]
                refine wpAny_bind (wpAny_bind ?_)
                iterate 3 (walk1; try dsimp only)
                have hkp : ∀ b q, Heap.get? _ b = some q → s₃.heap.get? b = some q := fun b q z => hk3 b q (fun y => Nat.lt_irrefl _ (by have := Heap.lt_size z; rw [List.mem_singleton.mp y] at this; exact this)) (Heap.get?_push_of_some _ z)
                refine wpAny_Name (wpAny_loadName_cell rfl rfl rfl ⟨oc5, hkp _ _ (Z.get (List.mem_append_right _ (.tail _ (.head _)))), dc5⟩ ?_) (by decide)
                iterate 3 (walk1; try dsimp only)
                refine tail_any (typeIs_str _ _ _) PySem.F.slot_str_getitem.lookup (PyProof.Rows.getItem_str (c := l.getLastD 0) (by decide) (ch_last hk1 hk2) ?_) rfl
                rw [show (⟨#[l.getLastD 0]⟩ : Str) = S [l.getLastD 0] from rfl]
                try dsimp only
                refine wpAny_Name (wpAny_loadName_local rfl rfl hn hm ?_) (by decide)
                refine PyProof.Rows.add_str (fun t11 tk11 => ?_) (by show 1 + 1 ≤ sizeLine; rw [sizeLine_eq]; decide)
                rw [show S [l.getLastD 0] ++ (⟨#[c]⟩ : Str) = S [l.getLastD 0, c] from S_app [l.getLastD 0] [c]]
                try dsimp only
                refine wpAny_Name (wpAny_loadName_cell rfl rfl rfl ⟨ow1, hkp _ _ (Z.get (List.mem_append_right _ (.tail _ (.tail _ hc1R)))), dw1⟩ ?_) (by decide)
                have hD3 : s₃.heap.DictOf (PySem.strKind (PySem.Challenge.rw_xo0016_01).row.prog w) wr kvw := Heap.dictOf_iff.mpr ⟨owr, hkp _ _ (Z.get (List.mem_append_right _ (.tail _ (.tail _ hwrR)))), howr⟩
                refine wpAny_in_of (strKind_is _ _ _ _) hws hD3.mapOf (wpAny_truthy_bool ?_)
                refine wpAny_pure (wpAny_pure ⟨?_, _, _, rfl, fun b q z => z⟩)
                show (valueAt kvw (S [l.getLastD 0, c])).isSome = wdG g (l.getLastD 0) c
                rw [is_isSome (hkv _)]
                exact hwl _ hk3' _ (hk4 c hcl)
              · intro C i' v s₃ m₃ E' hC hP hpv hn hm hk3 ht
                refine wpAny_Name (wpAny_loadName_local rfl rfl hn hm ?_) (by decide)
                exact ⟨rfl, _, _, rfl, fun _ _ e => e⟩
              · intro D h' tk ys xs hD hl hpl hlen hvs hF hk3
                obtain ⟨n2, hpl'⟩ := hpl
                have hx9 : Ext _ h' := fun b q z => hk3 b q (fun y => Nat.lt_irrefl _ (by have := Heap.lt_size z; rw [List.mem_singleton.mp y] at this; exact this)) (Heap.get?_push_of_some _ z)
                have Z := Z.addNew hx9 hpl' (by
                  cases q : Heap.get? _ D with
                  | none => rfl
                  | some y => exact absurd (hD.symm.trans (Heap.get?_push_of_some _ q)) (by simp))
                have hyl : ys.size = (l.filter fun n => wdG g (l.getLastD 0) n).length := by
                  rw [← Array.length_toList, (paired_eq hF).symm]
                  refine filt_len (by rw [hlen]; simp) fun j v hj => ?_
                  obtain ⟨_, c, u, h1, h2⟩ := hvs j v hj
                  exact ⟨c, u, by simpa using h1, h2⟩
                have F := Z.fr
                have N := Z.nw
                try dsimp only
                iterate 1 (walk1; try dsimp only)
                refine call_len_list (items := ys) ⟨_, Z.get (.head _), rfl, n2, rfl⟩ (by rw [hyl]; have := List.length_filter_le (fun n => wdG g (l.getLastD 0) n) l; omega) ?_
                rw [hyl]
                try dsimp only
                iterate 3 (walk1; try dsimp only)
                rename Lz _ _ _ _ _ => Z
                subst hQb
                refine ⟨_, _, _, _, rfl, Z.sub (List.sublist_cons_self ..), fun p hp => ?_, _, od, _, oc5, _, _, ov_at ⟨rfl, rfl, rfl, rfl, by rw [backT_step hl9']; rfl, trivial⟩, rfl, dc5, hod, hbe' _⟩
                rw [List.mem_singleton.mp hp]
                exact .tail _ (.tail _ hwaR)
            · rintro h₈ tk₈ m' news' Z _ ⟨m₀, od, kv, oc5, vc, tb, rfl, rfl, dc5, hod, hbe⟩
              subst hQf
              have F := Z.fr
              have N := Z.nw
              have hwn : wvs.length = W.length := by rw [hws9.length, List.length_map]
              have hea : (ea, oe) ∈ rest := by rw [hrs]; exact .head _
              have hhaR : (ha, lstO hvs hn) ∈ rest := by rw [hrs]; exact .tail _ (.tail _ (.tail _ (.tail _ r3)))
              have hteR := (by rw [hrs]; exact .tail _ (.tail _ (.tail _ (.tail _ r4))) : (te, tupO _) ∈ rest)
              have hfdR : (fd, fo) ∈ rest := by rw [hrs]; exact .tail _ (.tail _ (.tail _ (.tail _ r5)))
              refine wpAny_execs_cons (wpAny_Assign_Name ?_)
              iterate 5 (walk1; try dsimp only)
              obtain ⟨th0, hth0⟩ := hvst.get 0 (S (hostOf [97])) (by rw [List.getElem?_map, h970]; rfl)
              refine tail_any (Heap.IsList.typeIs (items := hvs.toArray) ⟨_, Z.get (.tail _ (.tail _ hhaR)), rfl, _, rfl⟩) PySem.F.slot_list_getitem.lookup
                (wpAny_getItem_list (items := hvs.toArray) ⟨_, Z.get (.tail _ (.tail _ hhaR)), rfl, _, rfl⟩ (by decide) (by decide) (by simpa using hth0) ?_) rfl
              try dsimp only
              refine tail_any (dictZ Z (.tail _ (.tail _ hea)) hoe).typeIs PySem.F.slot_dict_getitem.lookup (wpAny_getItem_of (strKind_is _ _ _ _) (dictZ Z (.tail _ (.tail _ hea)) hoe).mapOf ht1 ?_) rfl
              try dsimp only
              iterate 7 (walk1; try dsimp only)
              rename Lz _ _ _ _ _ => Z
              have hT : Heap.IsTuple _ te _ := ⟨_, Z.get (.tail _ (.tail _ hteR)), rfl, _, rfl⟩
              iterate 5 (walk1; try dsimp only)
              refine sliceTwoZ Z hT (fun f2 h₉ Z => ?_)
              have F := Z.fr
              have N := Z.nw
              try dsimp only
              iterate 8 (walk1; try dsimp only)
              refine call_len_list (items := wvs.toArray) ⟨ow9, Z.get (.tail _ (.tail _ (.tail _ hwaR))), hwc, nw, hwd⟩ (by rw [List.size_toArray]; omega) ?_
              rw [List.size_toArray, hwn]
              try dsimp only
              iterate 3 (walk1; try dsimp only)
              refine newTupleZ Z (fun f3 h₁₀ Z => ?_) (by show 2 ≤ sizeLine; rw [sizeLine_eq]; decide)
              have F := Z.fr
              have N := Z.nw
              have hcnt : (entsAfter (wdG g) (DoneG g 0) [97]).cnt = W.length := by rw [← hWe]; exact EF.cnt
              have hback : (entsAfter (wdG g) (DoneG g 0) [97]).back = backT g W W.length := by
                rw [EF.back, hWe]
                unfold backT
                rw [List.take_length]
              rw [hwn] at Z
              refine ne_dataH (reads_tuple_at (Z.get (.tail _ (.head _))) rfl rfl (.cons (.int _ _) (.cons (.int _ _) .nil))) (reads_tuple_at (Z.get (.head _)) rfl rfl (.cons (.int _ _) (.cons (.int _ _) .nil))) rfl rfl (by show A.units + 3 + 64 < cLine; rw [show cLine = 9900 from rfl]; omega) ?_
              rw [hcnt, hback, show (PyData.tuple [PyData.int (W.length : Int), PyData.int (backT g W W.length)]).eqv (PyData.tuple [PyData.int (W.length : Int), PyData.int (backT g W W.length)]) = true from by simp [PyData.eqv, PyData.eqvAll]]
              walk1
              try dsimp only
              rw [if_neg (by decide)]
              have hT : Heap.IsTuple _ te _ := ⟨_, Z.get (.tail _ (.tail _ (.tail _ (.tail _ hteR)))), rfl, _, rfl⟩
              iterate 5 (walk1; try dsimp only)
              refine tail_any hT.typeIs PySem.F.slot_tuple_getitem.lookup (getItem_tuple (x := .ref fd) hT (by decide) (by decide) rfl rfl ?_) rfl
              try dsimp only
              walk1
              try dsimp only
              have hlT : lastsT W wvs.length = lastsL W := by
                unfold lastsT
                rw [hwn, List.take_length]
                rfl
              rw [hlT] at hbe
              have hlen2 : fkv.length = kv.length := by rw [ht6.length, hbe.length, EF.len, hWe]
              refine kne_pairs (knd := PySem.strKind (PySem.Challenge.rw_xo0016_01).row.prog w) Z.nw (.tail _ (.tail _ (.tail _ (.tail _ hfdR)))) (.tail _ (.tail _ (.head _))) ht5 hod ht4 hl9 hlen2 (by show A.units + 3 < cLine; rw [show cLine = 9900 from rfl]; omega)
                (hits_of hbe ht6 (by have := EF.look; rw [hWe] at this; exact this)) ?_
              walk1
              try dsimp only
              simp only [Bool.not_true, Bool.false_eq_true, if_false]
              walk1
              try dsimp only
              try simp only [Bool.not_true, Bool.false_eq_true, if_false]
              refine wpAny_execs_nil ?_
              try dsimp only
              refine wpAny_execs_cons (wpAny_Return_some ?_)
              iterate 5 (walk1; try dsimp only)
              iterate 3 (walk1; try dsimp only)
              refine tail_any hT.typeIs PySem.F.slot_tuple_getitem.lookup (getItem_tuple (x := .ref fd) hT (by decide) (by decide) rfl rfl ?_) rfl
              try dsimp only
              iterate 2 (walk1; try dsimp only)
              refine wpAny_call (count_calls_spec (X.keeps Z.keep) (T.keeps Z.keep) (by show A.depth + 1 < 900; omega) hh ht4 (dictZ Z (.tail _ (.tail _ (.tail _ (.tail _ hfdR)))) ht5) (bears_ints ht6) fun h₁₁ tk₁₁ t11 x => ?_)
              have Z := Z.ext x
              have F := Z.fr
              have N := Z.nw
              have hsum : ((entsAfter (wdG g) (DoneG g 0) [97]).fronts.map (·.2)).sum = (W.length : Int) := by rw [← hWe]; exact EF.sum
              rw [hsum]
              try dsimp only
              iterate 6 (walk1; try dsimp only)
              refine call_len_list (items := wvs.toArray) ⟨ow9, Z.get (.tail _ (.tail _ (.tail _ (.tail _ hwaR)))), hwc, nw, hwd⟩ (by rw [List.size_toArray]; omega) ?_
              rw [List.size_toArray, hwn]
              try dsimp only
              iterate 1 (walk1; try dsimp only)
              rw [beq_self_eq_true]
              subst hQ₀
              exact hR h₁₁ _ fun b o q => Z.keep b o q
        · obtain ⟨i, rfl⟩ : ∃ i, n = i + 1 := ⟨n - 1, by omega⟩
          rw [if_pos (by rw [decide_eq_true_eq]; omega)]
          refine hideQ fun Qb hQb => ?_
          obtain ⟨la, hla⟩ : ∃ la, (HG g)[i]? = some la := ⟨_, List.getElem?_eq_getElem (by omega)⟩
          have F := Z.fr
          have N := Z.nw
          have q1 : la ∈ lams16 := hmem la (List.mem_of_getElem? hla)
          obtain ⟨e1, e2⟩ := hostOf_cons q1
          obtain ⟨g1, g2, g3⟩ := good16 la q1
          have hl13 : (46 :: hostOf la.tail).length ≤ 13 := by rw [e2] at g3; simp at g3 ⊢; omega
          refine wpAny_execs_cons ?_
          iterate 6 (walk1; try dsimp only)
          rename Lz _ _ _ _ _ => Z
          rw [show (((i + 1 : Nat) : Int) - 1) = (i : Int) from by omega] at Z
          have F := Z.fr
          have N := Z.nw
          refine wpAny_Assign_Name ?_
          iterate 3 (walk1; try dsimp only)
          obtain ⟨th, hth⟩ := hvst.get i (S (hostOf la)) (by rw [List.getElem?_map, hla]; rfl)
          have hi63 : (i : Int) < 2 ^ 63 := by omega
          refine tail_any (Heap.IsList.typeIs (items := hvs.toArray) ⟨_, Z.get (List.mem_append_right _ hha), rfl, _, rfl⟩) PySem.F.slot_list_getitem.lookup
            (wpAny_getItem_list (items := hvs.toArray) ⟨_, Z.get (List.mem_append_right _ hha), rfl, _, rfl⟩ (Int.natCast_nonneg _) hi63 (by simpa using hth) ?_) rfl
          refine stC (pre := [_, _]) (post := ents) Z doh fun h₂ oh Z doh => ?_
          have F := Z.fr
          have N := Z.nw
          try dsimp only
          refine wpAny_execs_cons (wpAny_Assign_Name ?_)
          iterate 4 (walk1; try dsimp only)
          obtain ⟨tr, htr⟩ := hrvs.get i (S (46 :: hostOf la.tail)) (by rw [List.getElem?_append_left (by rw [List.length_map]; exact (List.getElem?_eq_some_iff.mp hla).1), List.getElem?_map, hla]; rfl)
          refine tail_any (Heap.IsList.typeIs (items := rvs.toArray) ⟨_, Z.get (List.mem_append_right [_, _, _] hra), rfl, _, rfl⟩) PySem.F.slot_list_getitem.lookup
            (wpAny_getItem_list (items := rvs.toArray) ⟨_, Z.get (List.mem_append_right [_, _, _] hra), rfl, _, rfl⟩ (Int.natCast_nonneg _) hi63 (by simpa using htr) ?_) rfl
          try dsimp only
          iterate 5 (walk1; try dsimp only)
          have hsl : (S (46 :: hostOf la.tail)).length ≤ sizeLine := by rw [S_len, sizeLine_eq]; exact Nat.le_trans hl13 (by decide)
          refine sliceZ_sn Z (fun h₃ k3' t3' Z => ?_) (hsz := hsl)
          rw [show Txt.slice (S (46 :: hostOf la.tail)) (some 1) none = S (hostOf la.tail) from sl_from (46 :: hostOf la.tail) (k := 1) rfl (by simp)]
          refine stC (pre := [_]) (post := _ :: ents) Z dos fun h₄ os Z dos => ?_
          have Z := Z.perm (news' := [_, _, _] ++ ents) (List.Perm.refl _)
          have F := Z.fr
          have N := Z.nw
          try dsimp only
          refine wpAny_execs_cons (wpAny_If ?_)
          iterate 2 (walk1; try dsimp only)
          have q4 : la.tail = [] ∨ la.tail ∈ HG g := by
            by_cases e : la.tail = []
            · exact .inl e
            · exact .inr (List.mem_of_mem_take ((order_at hg hla).2 e).1)
          obtain ⟨tl, htl⟩ := hlab.at' la.tail q4
          refine ldC (c := L + 1 + 1) (o := olc) Z (List.mem_append_right _ hc2) dlc ?_
          refine wpAny_notIn_of (strKind_is _ _ _ _) hlbs (dictZ Z (List.mem_append_right _ hlb) hol).mapOf ?_
          rw [htl]
          simp only [Option.isSome_some, Bool.not_true]
          walk1
          simp only [Bool.false_eq_true, if_false]
          refine wpAny_execs_nil ?_
          try dsimp only
          refine wpAny_execs_cons ?_
          iterate 4 (walk1; try dsimp only)
          obtain ⟨te, fd, fo, z1, z2, z3, z4, fkv, ht1, ht2, ht3, ht4, ht5, ht6⟩ := hent.at' la (List.mem_of_getElem? hla)
          refine tail_any (dictZ Z (.head _) hoe).typeIs PySem.F.slot_dict_getitem.lookup (wpAny_getItem_of (strKind_is _ _ _ _) (dictZ Z (.head _) hoe).mapOf ht1 ?_) rfl
          try dsimp only
          refine asgTup hh Z ⟨_, Z.get (List.mem_append_right _ ht2), rfl, _, rfl⟩ (fun _ Z => asgConsX Z fun _ _ Z => asgConsX Z fun _ _ Z => asgConsX Z fun _ _ Z => asgConsX Z fun _ _ Z => asgConsX Z fun _ _ Z => asgNil ?_)
          try dsimp only
          have hwl := whole_law (wo := wo) (wt := wt) hg hsym hoff hla
          have hbits := bits_all (wo := wo) (wt := wt) hwo6 hwt6 (i := i + 1) hg
          have hiH : i + 1 ≤ 16 := Nat.le_trans hnle hH16
          have hfrl := fun x hx => fronts_len (i := i + 1) hg hiH (la := x) hx
          have F := Z.fr
          have N := Z.nw
          refine wpAny_execs_cons (wpAny_Assign_Name ?_)
          iterate 4 (walk1; try dsimp only)
          iterate 3 (walk1; try dsimp only)
          rw [e2]
          walk1
          rw [show Txt.item (S (la.headD 0 :: 46 :: hostOf la.tail)) 0 = S [la.headD 0] from item_S (la.headD 0 :: 46 :: hostOf la.tail) (k := 0) rfl (Nat.zero_lt_succ _)]
          obtain ⟨tw, htw⟩ := hworth (la.headD 0) (head16 la q1)
          rename Lz _ _ _ _ _ => Z
          refine tail_any (dictZ Z (List.mem_append_right _ hwo) hwk).typeIs PySem.F.slot_dict_getitem.lookup (wpAny_getItem_of (strKind_is _ _ _ _) (dictZ Z (List.mem_append_right _ hwo) hwk).mapOf htw ?_) rfl
          try dsimp only
          walk1
          refine mul_int (hm := IntMulOk.of_le (bits_small (hwo6 _)) (hbits la).1 (by decide)) ?_
          try dsimp only
          iterate 4 (walk1; try dsimp only)
          rename Lz _ _ _ _ _ => Z
          have Z := Z.congr (ov_at (l := [("worth", .ref wor), ("hosts", .ref ha), ("entries", .ref ea), ("rows", .ref ra), ("place", .int (i : Nat) _), ("count", .int _ z1), ("back", .int _ z2), ("free", .int _ z3), ("tied", .int _ z4), ("fronts", .ref fd),
            ("whole", .int (wholeOf wo (sumsAfter wo wt (DoneG g (i + 1))) la) _)]) ⟨rfl, rfl, rfl, rfl, rfl, rfl, rfl, rfl, rfl, rfl, rfl, trivial⟩)
          have F := Z.fr
          have N := Z.nw
          refine wpAny_Assign_Name ?_
          iterate 3 (walk1; try dsimp only)
          iterate 2 (walk1; try dsimp only)
          obtain ⟨tx, htx⟩ := hlab.at' la (.inr (List.mem_of_getElem? hla))
          refine wpAny_ListComp_free (cl := [(Str.ofString "labels", L + 1 + 1), (Str.ofString "host", L + 1 + 1 + 1)]) (leftP la) (fun v y => v = y) rfl (by decide) rfl (by decide) rfl ?_
          walk1
          refine wpAny_pyIter_ascii (by decide +kernel) ?_
          refine ⟨_, _, _, _, _, _, rfl, walksLt (Walks.strAscii (by exact hh) _ (Str.ofString "abcd") _), by rw [sizeLine_eq]; decide +kernel, ⟨_, Heap.get?_push_size _ rfl, rfl, rfl⟩, ?_, ⟨?_, ?_⟩, ?_⟩
          · intro b hb
            rw [List.mem_singleton.mp hb, Heap.size_push]
            exact Nat.lt_succ_self _
          · intro C i' v s₃ m₃ E' hC hP hn hm hk3 ht
            obtain ⟨hi4, c, u, hc, rfl⟩ := hP
            rw [List.forIn_cons, if_pos rfl]
            refine wpAny_bind (wpAny_bind ?_)
            walk1
            have hk4 : ∀ b q, Heap.get? _ b = some q → s₃.heap.get? b = some q := fun b q z => hk3 b q (fun y => Nat.lt_irrefl _ (by have := Heap.lt_size z; rw [List.mem_singleton.mp y] at this; exact this)) (Heap.get?_push_of_some _ z)
            refine wpAny_Name (wpAny_loadName_local rfl rfl hn hm ?_) (by decide)
            walk1
            refine wpAny_Name (wpAny_loadName_cell rfl rfl rfl ⟨olc, hk4 _ _ (Z.get (List.mem_append_right [_, _, _] hc2)), dlc⟩ ?_) (by decide)
            refine wpAny_Name (wpAny_loadName_cell rfl rfl rfl ⟨oh, hk4 _ _ (Z.get (.tail _ (.tail _ (.head _)))), doh⟩ ?_) (by decide)
            have hD3 : s₃.heap.DictOf (PySem.strKind (PySem.Challenge.rw_xo0016_01).row.prog w) lb lkvs := Heap.dictOf_iff.mpr ⟨ol, hk4 _ _ (Z.get (List.mem_append_right [_, _, _] hlb)), hol⟩
            refine tail_any hD3.typeIs PySem.F.slot_dict_getitem.lookup (wpAny_getItem_of (strKind_is _ _ _ _) hD3.mapOf htx ?_) rfl
            try dsimp only
            walk1
            refine wpAny_truthy_bool (wpAny_pure (wpAny_pure ⟨?_, _, _, rfl, fun b q z => z⟩))
            show (!inLab (S la) c) = (!la.contains c)
            rw [inLab16 la q1 c (List.mem_of_getElem? (abcd_at hc))]
          · intro C i' v s₃ m₃ E' hC hP hpv hn hm hk3 ht
            refine wpAny_Name (wpAny_loadName_local rfl rfl hn hm ?_) (by decide)
            exact ⟨rfl, _, _, rfl, fun _ _ e => e⟩
          · intro D h' tk ys xs hD hl hpl hlen hvs hF hk3
            obtain ⟨n2, hpl'⟩ := hpl
            have hx9 : Ext _ h' := fun b q z => hk3 b q (fun y => Nat.lt_irrefl _ (by have := Heap.lt_size z; rw [List.mem_singleton.mp y] at this; exact this)) (Heap.get?_push_of_some _ z)
            have Z := Z.addNew hx9 hpl' (by
              cases q : Heap.get? _ D with
              | none => rfl
              | some y => exact absurd (hD.symm.trans (Heap.get?_push_of_some _ q)) (by simp))
            have hst : StrsAre ys.toList ((leftOf la).map fun n => S [n]) := by
              rw [(paired_eq hF).symm]
              exact left_made abcd_four hlen hvs
            have F := Z.fr
            have N := Z.nw
            try dsimp only
            iterate 1 (walk1; try dsimp only)
            refine join_listW ⟨_, Z.get (.head _), rfl, _, rfl⟩ hst (by decide +kernel) (left_fits la) fun tl1 kl1 => ?_
            rw [join_left]
            try dsimp only
            iterate 2 (walk1; try dsimp only)
            rename Lz _ _ _ _ _ => Z
            refine wpAny_Assign_Name ?_
            iterate 3 (walk1; try dsimp only)
            iterate 2 (walk1; try dsimp only)
            refine wpAny_ListComp_free (cl := [(Str.ofString "sender", L + 1 + 1 + 1 + 1), (Str.ofString "labels", L + 1 + 1)]) (leftP la.tail) (fun v y => v = y) rfl (by decide) rfl (by decide) rfl ?_
            walk1
            refine wpAny_pyIter_ascii (by decide +kernel) ?_
            refine ⟨_, _, _, _, _, _, rfl, walksLt (Walks.strAscii (by exact hh) _ (Str.ofString "abcd") _), by rw [sizeLine_eq]; decide +kernel, ⟨_, Heap.get?_push_size _ rfl, rfl, rfl⟩, ?_, ⟨?_, ?_⟩, ?_⟩
            · intro b hb
              rw [List.mem_singleton.mp hb, Heap.size_push]
              exact Nat.lt_succ_self _
            · intro C i' v s₃ m₃ E' hC hP hn hm hk3 ht
              obtain ⟨hi4, c, u, hc, rfl⟩ := hP
              rw [List.forIn_cons, if_pos rfl]
              refine wpAny_bind (wpAny_bind ?_)
              walk1
              have hk4 : ∀ b q, Heap.get? _ b = some q → s₃.heap.get? b = some q := fun b q z => hk3 b q (fun y => Nat.lt_irrefl _ (by have := Heap.lt_size z; rw [List.mem_singleton.mp y] at this; exact this)) (Heap.get?_push_of_some _ z)
              refine wpAny_Name (wpAny_loadName_local rfl rfl hn hm ?_) (by decide)
              walk1
              refine wpAny_Name (wpAny_loadName_cell rfl rfl rfl ⟨olc, hk4 _ _ (Z.get (List.mem_append_right [_, _, _, _] hc2)), dlc⟩ ?_) (by decide)
              refine wpAny_Name (wpAny_loadName_cell rfl rfl rfl ⟨os, hk4 _ _ (Z.get (.tail _ (.tail _ (.head _)))), dos⟩ ?_) (by decide)
              have hD3 : s₃.heap.DictOf (PySem.strKind (PySem.Challenge.rw_xo0016_01).row.prog w) lb lkvs := Heap.dictOf_iff.mpr ⟨ol, hk4 _ _ (Z.get (List.mem_append_right [_, _, _, _] hlb)), hol⟩
              refine tail_any hD3.typeIs PySem.F.slot_dict_getitem.lookup (wpAny_getItem_of (strKind_is _ _ _ _) hD3.mapOf htl ?_) rfl
              try dsimp only
              walk1
              refine wpAny_truthy_bool (wpAny_pure (wpAny_pure ⟨?_, _, _, rfl, fun b q z => z⟩))
              show (!inLab (S la.tail) c) = (!la.tail.contains c)
              rw [inLabTail la q1 c (List.mem_of_getElem? (abcd_at hc))]
            · intro C i' v s₃ m₃ E' hC hP hpv hn hm hk3 ht
              refine wpAny_Name (wpAny_loadName_local rfl rfl hn hm ?_) (by decide)
              exact ⟨rfl, _, _, rfl, fun _ _ e => e⟩
            · intro D h' tk ys xs hD hl hpl hlen hvs hF hk3
              obtain ⟨n2, hpl'⟩ := hpl
              have hx9 : Ext _ h' := fun b q z => hk3 b q (fun y => Nat.lt_irrefl _ (by have := Heap.lt_size z; rw [List.mem_singleton.mp y] at this; exact this)) (Heap.get?_push_of_some _ z)
              have Z := Z.addNew hx9 hpl' (by
                cases q : Heap.get? _ D with
                | none => rfl
                | some y => exact absurd (hD.symm.trans (Heap.get?_push_of_some _ q)) (by simp))
              have hst : StrsAre ys.toList ((leftOf la.tail).map fun n => S [n]) := by
                rw [(paired_eq hF).symm]
                exact left_made abcd_four hlen hvs
              have F := Z.fr
              have N := Z.nw
              try dsimp only
              iterate 1 (walk1; try dsimp only)
              refine join_listW ⟨_, Z.get (.head _), rfl, _, rfl⟩ hst (by decide +kernel) (left_fits la.tail) fun tl2 kl2 => ?_
              rw [join_left]
              try dsimp only
              iterate 2 (walk1; try dsimp only)
              rename Lz _ _ _ _ _ => Z
              have Z := (Z.sub (List.sublist_cons_self ..)).sub (List.sublist_cons_self ..)
              have Z := Z.congr (ov_at (l := [("worth", .ref wor), ("hosts", .ref ha), ("entries", .ref ea), ("rows", .ref ra), ("place", .int (i : Nat) _), ("count", .int _ z1), ("back", .int _ z2), ("free", .int _ z3), ("tied", .int _ z4), ("fronts", .ref fd),
                ("whole", .int (wholeOf wo (sumsAfter wo wt (DoneG g (i + 1))) la) _), ("left", .str (S (leftOf la)) tl1), ("ahead", .str (S (leftOf la.tail)) tl2)]) ⟨rfl, rfl, rfl, rfl, rfl, rfl, rfl, rfl, rfl, rfl, rfl, rfl, rfl, trivial⟩)
              have F := Z.fr
              have N := Z.nw
              have hla16 : ∀ c ∈ leftOf la, (wo c).natAbs ≤ 1000000 ∧ ∃ t, valueAt wkvs (S [c]) = some (.int (wo c) t) := fun c hc => ⟨hwo6 c, hworth c ((List.mem_filter.mp hc).1)⟩
              have hlt16 : ∀ c ∈ leftOf la.tail, (wo c).natAbs ≤ 1000000 ∧ ∃ t, valueAt wkvs (S [c]) = some (.int (wo c) t) := fun c hc => ⟨hwo6 c, hworth c ((List.mem_filter.mp hc).1)⟩
              refine wpAny_If ?_
              iterate 11 (walk1; try dsimp only)
              refine ldC (c := L + 1) (o := ow1) Z (List.mem_append_right [_, _, _] hc1) dw1 ?_
              iterate 2 (walk1; try dsimp only)
              refine wpAny_call (ties_spec hWA 4 (left_len la) (by decide) (X.keeps Z.keep) (T.keeps Z.keep) (by show A.depth + 1 < _; omega) hh hwos hws (dictZ Z (List.mem_append_right [_, _, _] hwo) hwk) (dictZ Z (List.mem_append_right [_, _, _] hwr') howr) hla16 fun h₅ tk₅ t5 x => ?_)
              have Z := Z.ext x
              have F := Z.fr
              have N := Z.nw
              try dsimp only
              have hwb : PySem.Builtin.Int.intBits (wholeOf wo (sumsAfter wo wt (DoneG g (i + 1))) la) ≤ 4390977 := whole_bits hwo6 (hbits la).1 (hbits la).2
              refine mul_int (hm := IntMulOk.of_le hwb (tie_bits hwo6 hwt6 4 (leftOf la) (left_len la)) (by decide)) ?_
              try dsimp only
              iterate 10 (walk1; try dsimp only)
              refine ldC (c := L + 1) (o := ow1) Z (List.mem_append_right [_, _, _] hc1) dw1 ?_
              iterate 2 (walk1; try dsimp only)
              refine wpAny_call (ties_spec hWA 4 (left_len la.tail) (by decide) (X.keeps Z.keep) (T.keeps Z.keep) (by show A.depth + 1 < _; omega) hh hwos hws (dictZ Z (List.mem_append_right [_, _, _] hwo) hwk) (dictZ Z (List.mem_append_right [_, _, _] hwr') howr) hlt16 fun h₆ tk₆ t6 x => ?_)
              have Z := Z.ext x
              have F := Z.fr
              have N := Z.nw
              try dsimp only
              refine mul_int (hm := IntMulOk.of_le (hbits la).1 (tie_bits hwo6 hwt6 4 (leftOf la.tail) (left_len la.tail)) (by decide)) ?_
              try dsimp only
              walk1
              try dsimp only
              rw [hwl]
              rw [bne_self_eq_false]
              walk1
              simp only [Bool.false_eq_true, if_false]
              refine wpAny_execs_nil ?_
              try dsimp only
              refine wpAny_execs_cons (wpAny_If ?_)
              iterate 3 (walk1; try dsimp only)
              refine wpAny_in_of (strKind_is _ _ _ _) hes (dictZ Z (.head _) hoe).mapOf (wpAny_truthy_bool ?_)
              by_cases ht : la.tail = []
              · rw [ht, hent.none]
                simp only [Option.isSome_none, Bool.false_eq_true, if_false]
                refine wpAny_execs_nil (wpAny_execs_nil ?_)
                subst hQb
                exact ⟨rfl, _, _, _, _, i, rfl, Z, Nat.lt_succ_self _, _, ents, oe, oh, os, ekvs, _, _, _, ov_at ⟨rfl, rfl, rfl, rfl, rfl, trivial⟩, rfl, dos, doh, hbase, hoe, hent.root hla ht (fun _ h => h), Nat.le_of_succ_le hnle⟩
              · obtain ⟨q5, q6⟩ := (order_at hg hla).2 ht
                have q7 : la.tail ∈ HG g := List.mem_of_mem_take q5
                obtain ⟨tp2, gd, go, y1, y2, y3, y4, gkv, hs1, hs2, hs3, hs4, hs5, hs6⟩ := hent.at' la.tail q7
                rw [hs1]
                simp only [Option.isSome_some, if_true]
                have F := Z.fr
                have N := Z.nw
                refine wpAny_execs_cons (wpAny_Assign_Name ?_)
                iterate 3 (walk1; try dsimp only)
                refine tail_any (dictZ Z (.head _) hoe).typeIs PySem.F.slot_dict_getitem.lookup (wpAny_getItem_of (strKind_is _ _ _ _) (dictZ Z (.head _) hoe).mapOf hs1 ?_) rfl
                try dsimp only
                iterate 6 (walk1; try dsimp only)
                rename Lz _ _ _ _ _ => Z
                have hT : Heap.IsTuple _ tp2 _ := ⟨_, Z.get (List.mem_append_right [_, _, _] hs2), rfl, _, rfl⟩
                have hwb : PySem.Builtin.Int.intBits (wholeOf wo (sumsAfter wo wt (DoneG g (i + 1))) la) ≤ 4390977 := whole_bits hwo6 (hbits la).1 (hbits la).2
                iterate 2 (walk1; try dsimp only)
                refine tail_any hT.typeIs PySem.F.slot_tuple_getitem.lookup (getItem_tuple (x := .int _ y1) hT (by decide) (by decide) rfl rfl ?_) rfl
                try dsimp only
                iterate 4 (walk1; try dsimp only)
                refine tail_any hT.typeIs PySem.F.slot_tuple_getitem.lookup (getItem_tuple (x := .int _ y2) hT (by decide) (by decide) rfl rfl ?_) rfl
                try dsimp only
                iterate 5 (walk1; try dsimp only)
                refine tail_any hT.typeIs PySem.F.slot_tuple_getitem.lookup (getItem_tuple (x := .int _ y3) hT (by decide) (by decide) rfl rfl ?_) rfl
                try dsimp only
                walk1
                try dsimp only
                refine mul_int (hm := IntMulOk.of_le (hbits la.tail).1 hwb (by decide)) ?_
                try dsimp only
                iterate 5 (walk1; try dsimp only)
                refine tail_any hT.typeIs PySem.F.slot_tuple_getitem.lookup (getItem_tuple (x := .int _ y4) hT (by decide) (by decide) rfl rfl ?_) rfl
                try dsimp only
                walk1
                try dsimp only
                refine mul_int (hm := IntMulOk.of_le (hbits la.tail).2 hwb (by decide)) ?_
                try dsimp only
                iterate 4 (walk1; try dsimp only)
                refine tail_any hT.typeIs PySem.F.slot_tuple_getitem.lookup (getItem_tuple (x := .ref gd) hT (by decide) (by decide) rfl rfl ?_) rfl
                try dsimp only
                iterate 1 (walk1; try dsimp only)
                refine newTupleZ Z (fun kt h₅ Z => ?_) (by show 5 ≤ sizeLine; rw [sizeLine_eq]; decide)
                refine stX Z fun h₆ t₆ Z => ?_
                have F := Z.fr
                have N := Z.nw
                try dsimp only
                refine wpAny_execs_cons (wpAny_Assign_Name ?_)
                iterate 10 (walk1; try dsimp only)
                have p1 : la.tail ∈ lams16 := hmem _ q7
                obtain ⟨p2, p3⟩ := hostOf_cons p1
                have hca : la.headD 0 ∈ abcd := head16 la q1
                have hcb : la.tail.headD 0 ∈ abcd := head16 la.tail p1
                obtain ⟨tw2, htw2⟩ : ∃ t, valueAt kvw (S [la.headD 0, la.tail.headD 0]) = some (.int (wt (la.headD 0) (la.tail.headD 0)) t) := by
                  rcases hWA.at' (la.headD 0) (la.tail.headD 0) with ⟨h1, _⟩ | h
                  · exfalso
                    have h2 := hkv (S [la.headD 0, la.tail.headD 0])
                    have h3 := wired_link a4 a5 a6 a7 a8 a9 _ hca _ hcb
                    rw [← hgd, q6] at h3
                    rw [h1] at h2
                    cases h4 : wiresF [a4, a5, a6, a7, a8, a9] (S [la.headD 0, la.tail.headD 0]) with
                    | none => rw [h4] at h3; cases h3
                    | some v => rw [h4] at h2; exact h2
                  · exact h
                iterate 2 (walk1; try dsimp only)
                refine ldC (c := L + 1) (o := ow1) Z (.tail _ (List.mem_append_right [_, _, _] hc1)) dw1 ?_
                iterate 4 (walk1; try dsimp only)
                rw [e2]
                walk1
                rw [show Txt.item (S (la.headD 0 :: 46 :: hostOf la.tail)) 0 = S [la.headD 0] from item_S (la.headD 0 :: 46 :: hostOf la.tail) (k := 0) rfl (Nat.zero_lt_succ _)]
                try dsimp only
                iterate 3 (walk1; try dsimp only)
                rw [p3]
                walk1
                rw [show Txt.item (S (la.tail.headD 0 :: 46 :: hostOf la.tail.tail)) 0 = S [la.tail.headD 0] from item_S (la.tail.headD 0 :: 46 :: hostOf la.tail.tail) (k := 0) rfl (Nat.zero_lt_succ _)]
                try dsimp only
                refine PyProof.Rows.add_str (fun t7 tk7 => ?_) (by rw [S_len, S_len, sizeLine_eq]; show 1 + 1 ≤ 16777216; decide)
                rw [S_app]
                try dsimp only
                refine tail_any (dictZ Z (.tail _ (List.mem_append_right [_, _, _] hwr')) howr).typeIs PySem.F.slot_dict_getitem.lookup (wpAny_getItem_of (strKind_is _ _ _ _) (dictZ Z (.tail _ (List.mem_append_right [_, _, _] hwr')) howr).mapOf htw2 ?_) rfl
                try dsimp only
                iterate 4 (walk1; try dsimp only)
                have hT2 : Heap.IsTuple _ tp2 _ := ⟨_, Z.get (.tail _ (List.mem_append_right [_, _, _] hs2)), rfl, _, rfl⟩
                refine tail_any hT2.typeIs PySem.F.slot_tuple_getitem.lookup (getItem_tuple (x := .int _ y3) hT2 (by decide) (by decide) rfl rfl ?_) rfl
                try dsimp only
                refine mul_int (hm := IntMulOk.of_le (intBits_neg_le (bits_small (hwt6 _ _))) (hbits la.tail).1 (by decide)) ?_
                try dsimp only
                walk1
                try dsimp only
                refine mul_int (hm := IntMulOk.of_le (intBits_mul_le (intBits_neg_le (bits_small (hwt6 _ _))) (hbits la.tail).1) (hbits la).1 (by decide)) ?_
                try dsimp only
                iterate 3 (walk1; try dsimp only)
                refine newTupleZ Z (fun ut h₇ Z => ?_) (by show 5 ≤ sizeLine; rw [sizeLine_eq]; decide)
                refine stX Z fun h₈ t₈ Z => ?_
                have F := Z.fr
                have N := Z.nw
                try dsimp only
                refine wpAny_execs_cons (wpAny_Assign_Subscript ?_)
                iterate 9 (walk1; try dsimp only)
                refine wpAny_call (add_func_stats_spec (X.keeps Z.keep) (T.keeps Z.keep) (by show A.depth + 1 < 890; omega) hh hs4 ht4 ⟨_, Z.get (.tail _ (.head _)), rfl, _, rfl⟩ ⟨_, Z.get (.head _), rfl, _, rfl⟩
                  (dictZ Z (.tail _ (.tail _ (List.mem_append_right [_, _, _] hs3))) hs5) hs6 (dictZ Z (.tail _ (.tail _ (List.mem_append_right [_, _, _] ht3))) ht5) ht6 (Nat.le_trans (hfrl _ q7) (by decide)) (Nat.le_trans (hfrl la (List.mem_of_getElem? hla)) (by decide))
                  fun h₉ tk₉ v a kvs' o9 w1 w2 w3 w4 x hna hoa hod9 hbears has hnv hva hvo => ?_)
                have Z := Z.addTwo x hvo hoa hnv hna hva
                have F := Z.fr
                have N := Z.nw
                try dsimp only
                iterate 2 (walk1; try dsimp only)
                refine setDictZ (pre := [_, _, _, _]) (post := [_, _] ++ ents) Z hoe (strKind_is _ _ _ _) (fun h₁₀ oe' t₁₀ Z hoe' => ?_) (by have := hent.len; rw [sizeLine_eq]; exact Nat.le_trans (Nat.le_trans this (Nat.sub_le _ _)) (by decide))
                obtain ⟨en, hen, Z⟩ := Lz.back (frt := [_, _, _]) [_, _, _, _] Z
                have hsub : ∀ q ∈ ents, q ∈ en := fun q hq => by rw [hen]; exact List.mem_append_right _ hq
                have hent' := hent.tell (ents' := en) hg hla ht hsub (by rw [hen]; exact .head _) (by rw [hen]; exact .tail _ (.head _)) has hod9 hbears (Int.add_comm _ _) (Int.add_comm _ _) (Int.zero_add _)
                  (by rw [Int.neg_mul, Int.neg_mul, Int.add_comm, Int.sub_eq_add_neg])
                refine wpAny_execs_nil ?_
                try dsimp only
                refine wpAny_execs_nil ?_
                try dsimp only
                subst hQb
                exact ⟨rfl, _, _, _, _, i, rfl, Z, Nat.lt_succ_self _, _, en, oe', oh, os, _, _, _, _, ov_at ⟨rfl, rfl, rfl, rfl, rfl, trivial⟩, rfl, dos, doh, fun q hq => hsub q (hbase q hq), hoe', hent', Nat.le_of_succ_le hnle⟩
end Mine

set_option maxHeartbeats 4000000
namespace Mine
theorem end_good {c : ClaimW} {cl : Str → Option Addr} {mean : ExcName → Option Value} {args : List WData} {s₁ : Shared} {h : Heap} {t : Nat} {b : Bool}
    (hk : Ext s₁.heap h) (hr : ∀ cls, c.raises args cls = false) (hp : c.post args (.bool b) args = true) (hg : s₁.gens = #[]) :
    GoodWG c cl mean args s₁ (.ok (.ret (.bool b))) { s₁ with heap := h, toks := t } :=
  ⟨.inl ⟨_, _, [], rfl, hr, ReadsW.bool b, hp, fun _ => ⟨List.nodup_nil, fun _ hm => (nomatch hm)⟩⟩, .of_keep hk, rfl, .of_eq hg⟩
open PySem.W.X in
theorem top : PySem.Challenge.rw_xo0016_01.Holds := hd (by
  k_fill
  intro w s₀ s₁ mg mb G Y fa o pm cd doc dV kV ho hd hcd hD hmg hg args vals as hpre hlay hrd hwl hlo
  have KX := kIn_of Y
  refine Ground.open G ?_
  intro T B D TE TW
  wrow_args hpre hlay hrd hwl hlo
  x_fa T KX hmg
  rename_i hL _ _ _ hI _ hlen _
  obtain ⟨lobj, hl1, hl2, hl3, hl4⟩ := hL
  refine wpAny_call (law_spec KX (topRead_of T) rfl rfl (by decide) rfl hl1 hl2 hl4 hI (by omega) fun h' tk x => ?_)
  exact end_good x (fun _ => rfl) (by first | rfl | wrow_post) hg)
end Mine

set_option maxRecDepth 100000 in
set_option maxHeartbeats 8000000 in
theorem PySem.Challenge.cw_xo0016_01_holds : PySem.Challenge.rw_xo0016_01.Holds := by
  exact Mine.top
