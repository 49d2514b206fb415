import PyProof.Rows.All
import Wide.All
import OpenK.AllK
import Wide.FinOn
import Lean
import PySem.Challenge.RW_re0011_01
open PySem PySem.W PySem.Calls PyProof.Rows
set_option Elab.async false
set_option maxRecDepth 100000
set_option maxHeartbeats 8000000
namespace Mine
open_top hd for PySem.Challenge.rw_re0011_01
end Mine
namespace Mine
/-- the facts of the module's top that every call keeps -/
structure Gd (w : World) (mg mb : Str → Option Value) (h : Heap) : Prop where
  X : (hd.heap_39 w.params).In h
  g : h.Ns mainGlobals mg
  b : h.Ns builtinsNs mb
  nolimit : h.NoLimit
  blt : ∀ x : Str, x ≠ "__name__" → mb x = bootBuiltins x
theorem Gd.keeps {w mg mb h h'} (G : Gd w mg mb h) (k : ∀ b o, h.get? b = some o → h'.get? b = some o) : Gd w mg mb h' :=
  ⟨G.X.keeps k, G.g.keeps k, G.b.keeps k, G.nolimit.keeps k, G.blt⟩
theorem Gd.fr {w mg mb h₀ L h m} (G : Gd w mg mb h₀) (F : Fr h₀ L h m) : Gd w mg mb h := G.keeps F.keep

/-- what is not the heap's: nothing printed, every generator without clean-up -/
def Ob (s s' : Shared) : Prop := s'.os = s.os ∧ (AllBare s.gens → AllBare s'.gens)
theorem Ob.refl (s : Shared) : Ob s s := ⟨rfl, id⟩
theorem Ob.trans {s s' s'' : Shared} (a : Ob s s') (b : Ob s' s'') : Ob s s'' := ⟨b.1.trans a.1, fun h => b.2 (a.2 h)⟩
theorem Ob.same (s : Shared) {h : Heap} {tk : Nat} : Ob s { s with heap := h, toks := tk } := ⟨rfl, id⟩
/-- a call's end: all old objects stand -/
def Kp (s s' : Shared) : Prop := (∀ b o, s.heap.get? b = some o → s'.heap.get? b = some o) ∧ Ob s s'
theorem Kp.refl (s : Shared) : Kp s s := ⟨fun _ _ e => e, Ob.refl s⟩
theorem Kp.trans {s s' s'' : Shared} (a : Kp s s') (b : Kp s' s'') : Kp s s'' := ⟨fun x o e => b.1 x o (a.1 x o e), a.2.trans b.2⟩
theorem Kp.fr {s : Shared} {L : Addr} {s' : Shared} {m : Str → Option Value} (F : Fr s.heap L s'.heap m) (h : Ob s s') : Kp s s' := ⟨F.keep, h⟩

section
variable {prog : Program} {w : World} {A : Around} {s : Shared} {mg mb : Str → Option Value} {R : Result → Shared → Prop}
theorem enterF {f : Addr} {name : Str} {params : Arguments} {body : List Stmt} {scope : Scope} {pm cd doc : Value} {args : List Value} {binds : List (Str × Value)}
    (G : Gd w mg mb s.heap)
    (hK : (hd.heap_39 w.params).lookup f = some { cls := .type "function", data := .func (docDef name params body scope pm cd doc) })
    (hcd : codeIn (hd.heap_39 w.params) cd name = true)
    (hroom : A.depth < recursionLimit)
    (hbind : bindArgs (docDef name params body scope pm cd doc) ⟨args, []⟩ = pure binds)
    (hloc : ∀ x ∈ binds, scope.names.lookup x.1 = some .local)
    (hco : scope.isCoroutine = false) (hgen : scope.isGenerator = false) (hk : scope.kind = .function)
    (hcell : ∀ x ∈ scope.names, x.2 ≠ .cell)
    (h : ∀ L h₁, Fr s.heap L h₁ (fun x => binds.reverse.lookup x) →
      wpAny (model prog w) (A.deeper (envOf name scope L f cd)) (execs body (envOf name scope L f cd))
        (fun f s' => R (.ok (.ret (match f with | .ret v => v | _ => .none))) s') (fun _ _ => False)
        { s with heap := h₁, toks := s.toks + binds.length }) :
    codeAny (model prog w) A (.call (.ref f) ⟨args, []⟩) R s :=
  call_plain_ret hroom (G.X _ _ hK) rfl G.nolimit (codeRec_of G.X hcd) hbind hloc (fun h₁ F => h _ h₁ F) hco hgen hk hcell
end

/-- a turn's end -/
def Turn (h₀ : Heap) (L : Addr) (wr : List Addr) (own : List (Addr × Obj)) (Jn : (Str → Option Value) → List (Addr × Obj) → Prop) (s : Shared) (Qr : Value → Shared → Prop) (f : Flow) (s₂ : Shared) : Prop :=
  match f with
  | .ret v => Qr v s₂
  | .brk => False
  | _ => ∃ m₂ news₂, Ob s s₂ ∧ Fr h₀ L s₂.heap m₂ ∧ News h₀ L s₂.heap (own ++ news₂) ∧ (∀ p ∈ news₂, p.1 ∉ wr) ∧ Jn m₂ news₂

section
variable {prog : Program} {w : World} {A : Around} {s : Shared} {env : Env} {h₀ : Heap}
theorem forL {R : Result → Shared → Prop} {x : Str} {px : Pos} {body : List Stmt} {I : Addr} {fp wr : List Addr} {n : Nat} {P : Nat → Value → Prop} {St : Nat → Heap → Prop} {m : Str → Option Value}
    {news : List (Addr × Obj)} (W : Walks prog w A I fp wr n P St) (hx : env.kindOf x = some .local)
    (hp : (env.scope.kind == .class || (env.scope.kind == .module && env.locals != env.globals)) = false)
    (hLf : env.locals ∉ fp) (hwr : ∀ b ∈ wr, h₀.get? b = none) (hnw : ∀ p ∈ news, p.1 ∉ wr)
    (hst : St 0 s.heap) (F : Fr h₀ env.locals s.heap m) (N : News h₀ env.locals s.heap news)
    (J : Nat → (Str → Option Value) → List (Addr × Obj) → Prop) (h0 : J 0 m news)
    (step : ∀ i v m₁ news₁ s₁ own, Ob s s₁ → i < n → P i v → J i m₁ news₁ → (∀ p ∈ news₁, p.1 ∉ wr) → (∀ b ∈ fp, h₀.get? b = none → ∀ o, s₁.heap.get? b = some o → (b, o) ∈ own) →
      (∀ b ∈ wr, b < s₁.heap.objs.size ∧ ∃ o, (b, o) ∈ own) →
      Fr h₀ env.locals s₁.heap (fun y => if y = x then some v else m₁ y) → News h₀ env.locals s₁.heap (own ++ news₁) →
      wpAny (model prog w) A (execs body env) (Turn h₀ env.locals wr own (J (i + 1)) s₁ (fun v s' => R (.ok (.ret v)) s')) (fun _ _ => False) s₁)
    (hlt : ∀ i h, St i h → ∀ b ∈ wr, ∃ o, h.get? b = some o)
    (hR : ∀ s' m' news', Ob s s' → Fr h₀ env.locals s'.heap m' → News h₀ env.locals s'.heap news' → J n m' news' → R (.ok .next) s') :
    codeAny (model prog w) A (.forLoop (.Name x px) (.ref I) body [] env) R s := by
  have hLw : env.locals ∉ wr := fun h => hLf (W.sub _ h)
  have old : ∀ b o, h₀.get? b = some o → b ∉ wr := fun b o e hb => by rw [hwr b hb] at e; cases e
  refine codeAny_forLoop
    (fun k s' => ∃ m' news' i, Ob s s' ∧ St i s'.heap ∧ Fr h₀ env.locals s'.heap m' ∧ News h₀ env.locals s'.heap news' ∧ (∀ p ∈ news', p.1 ∉ wr) ∧ J i m' news' ∧ i ≤ n ∧ k = n + 1 - i) ?_ (n + 1)
    ⟨m, news, 0, Ob.refl s, hst, F, N, hnw, h0, Nat.zero_le _, rfl⟩
  rintro k s' ⟨m', news', i, ob, hst', F', N', hnw', hJ, hi, rfl⟩
  have next : ∀ h₁ : Heap, (∀ b o, b ∉ wr → s'.heap.get? b = some o → h₁.get? b = some o) → Fr h₀ env.locals h₁ m' ∧ News h₀ env.locals h₁ news' := fun h₁ hk₁ =>
    ⟨⟨F'.ns.at' fun o e => hk₁ _ o hLw e, fun b o e => hk₁ b o (old b o e) (F'.keep b o e), F'.above⟩, fun p hp => ⟨hk₁ _ _ (hnw' p hp) (N' p hp).1, (N' p hp).2⟩⟩
  by_cases hlt' : i < n
  · refine W.item i _ _ _ hlt' hst' fun v h₁ tk₁ hP hst₁ hk₁ => ?_
    obtain ⟨F₁, N₁⟩ := next h₁ hk₁
    refine wpAny_assign_Name (wpAny_storeName_local hx F₁.ns (fun h₂ hn₂ hs₂ => ?_) hp)
    have F₂ := F₁.set hn₂ hs₂
    have hsz : ∀ b ∈ wr, b < h₂.objs.size ∧ ∃ o, (b, o) ∈ ownOf h₀ fp h₂ := fun b hb => by
      obtain ⟨o, e⟩ := hlt _ _ hst₁ b hb
      have e₂ : h₂.get? b = some o := (hs₂.2 b fun q => hLw (q ▸ hb)).trans e
      exact ⟨Heap.lt_size e₂, o, mem_ownOf (W.sub _ hb) (hwr b hb) e₂⟩
    refine wpAny_mono (step i v m' news' _ (ownOf h₀ fp h₂) (ob.trans (Ob.same s')) hlt' hP hJ hnw' (fun b hb hn o e => mem_ownOf hb hn e) hsz F₂ ((news_ownOf hLf).append (N₁.set hs₂))) (fun f s₃ h₃ => ?_) fun _ _ e => e.elim
    have fin : (∃ m₂ news₂, Ob { s' with heap := h₂, toks := tk₁ + 1 } s₃ ∧ Fr h₀ env.locals s₃.heap m₂ ∧ News h₀ env.locals s₃.heap (ownOf h₀ fp h₂ ++ news₂) ∧ (∀ p ∈ news₂, p.1 ∉ wr) ∧ J (i + 1) m₂ news₂) →
        ∃ k, k < n + 1 - i ∧ ∃ m' news' i, Ob s s₃ ∧ St i s₃.heap ∧ Fr h₀ env.locals s₃.heap m' ∧ News h₀ env.locals s₃.heap news' ∧ (∀ p ∈ news', p.1 ∉ wr) ∧ J i m' news' ∧ i ≤ n ∧ k = n + 1 - i := by
      rintro ⟨m₂, news₂, ob₃, F₃, N₃, ha₃, hJ₃⟩
      refine ⟨n + 1 - (i + 1), by omega, m₂, news₂, i + 1, (ob.trans (Ob.same s')).trans ob₃, ?_, F₃, N₃.right, ha₃, hJ₃, hlt', rfl⟩
      refine W.frame _ _ _ hst₁ fun b hb o e => ?_
      have e₂ : h₂.get? b = some o := (hs₂.2 b fun q => hLf (q ▸ hb)).trans e
      cases hn : h₀.get? b with
      | some o₀ =>
        have : o₀ = o := by have := F₂.keep b o₀ hn; rw [e₂] at this; exact (Option.some.inj this).symm
        exact this ▸ F₃.keep b o₀ hn
      | none => exact (N₃ _ (List.mem_append_left _ (mem_ownOf hb hn e₂))).1
    cases f with
    | ret v => exact h₃
    | brk => exact h₃.elim
    | cont => exact fin h₃
    | next => exact fin h₃
  · have hin : i = n := by omega
    subst hin
    refine W.done _ _ _ hst' fun h₁ tk₁ hk₁ => wpAny_execs_nil ?_
    obtain ⟨F₁, N₁⟩ := next h₁ hk₁
    exact hR _ m' news' (ob.trans (Ob.same s')) F₁ N₁ hJ

end
section
variable {prog : Program} {w : World} {A : Around} {s : Shared} {h₀ : Heap} {name : Str} {scope : Scope} {L a : Addr} {cd : Value}
/-- a for over a list that stood before the call -/
theorem ForOld2 {Q : Flow → Shared → Prop} {x : Str} {px pos : Pos} {iter : Expr} {body : List Stmt} {l : Addr} {vs : List Value} {m : Str → Option Value} {news : List (Addr × Obj)}
    (hh : A.handled = none) (hl : h₀.IsList l vs.toArray) (F : Fr h₀ L s.heap m) (N : News h₀ L s.heap news)
    (hx : (envOf name scope L a cd).kindOf x = some .local) (hk : scope.kind = .function)
    (hev : ∀ Q' : Value → Shared → Prop, Q' (.ref l) s → wpAny (model prog w) A (eval iter (envOf name scope L a cd)) Q' (fun _ _ => False) s)
    (J : Nat → (Str → Option Value) → List (Addr × Obj) → Prop) (h0 : J 0 m news)
    (step : ∀ i v m₁ news₁ s₁ own, Ob s s₁ → vs[i]? = some v → J i m₁ news₁ → (∀ p ∈ news₁, p.1 ∉ [s.heap.objs.size]) → (s.heap.objs.size < s₁.heap.objs.size) → (∃ o, (s.heap.objs.size, o) ∈ own) →
      Fr h₀ L s₁.heap (fun y => if y = x then some v else m₁ y) → News h₀ L s₁.heap (own ++ news₁) →
      wpAny (model prog w) A (execs body (envOf name scope L a cd)) (Turn h₀ L [s.heap.objs.size] own (J (i + 1)) s₁ (fun v s' => Q (.ret v) s')) (fun _ _ => False) s₁)
    (hR : ∀ s' m' news', Ob s s' → Fr h₀ L s'.heap m' → News h₀ L s'.heap news' → J vs.length m' news' → Q .next s')
    (hs : ∀ x, foldedSetIterable iter (envOf name scope L a cd) x = pure x := by intro _; rfl) :
    wpAny (model prog w) A (exec (.For (.Name x px) iter body [] pos) (envOf name scope L a cd)) Q (fun _ _ => False) s := by
  have hls : s.heap.IsList l vs.toArray := hl.at fun o e => F.keep l o e
  obtain ⟨ol, hol, _⟩ := id hl
  have hlt : l < h₀.objs.size := Heap.lt_size hol
  have hne : l ≠ s.heap.objs.size := Nat.ne_of_lt (Nat.lt_trans (Nat.lt_of_lt_of_le hlt F.above) F.ns.lt)
  refine wpAny_For (hev _ (wpAny_pyIter_list hls ?_)) hs
  have W := Walks.list (prog := prog) (w := w) hh s.heap.objs.size l hne vs.toArray
  have hsz : vs.toArray.size = vs.length := by simp
  rw [hsz] at W
  refine forL (env := envOf name scope L a cd) (h₀ := h₀) (m := m) (news := news) W hx (by show (scope.kind == .class || (scope.kind == .module && L != mainGlobals)) = false; rw [hk]; rfl) ?_ ?_ ?_ ⟨⟨_, Heap.get?_push_size _ rfl, rfl, rfl⟩, hls.at fun o e => Heap.get?_push_of_some _ e⟩ (F.push _) (fun p hp => ⟨Heap.get?_push_of_some _ (N p hp).1, (N p hp).2⟩) J h0 ?_ ?_ ?_
  · intro hm
    rcases List.mem_cons.mp hm with e | hm
    · exact absurd F.ns.lt (e ▸ Nat.lt_irrefl _)
    · exact absurd (Nat.lt_of_lt_of_le hlt F.above) ((List.mem_singleton.mp hm) ▸ Nat.lt_irrefl _)
  · intro b hb
    rw [List.mem_singleton.mp hb]
    exact next_is_new F
  · intro p hp hI
    exact absurd (Heap.lt_size (N p hp).1) ((List.mem_singleton.mp hI) ▸ Nat.lt_irrefl _)
  · intro i v m₁ news₁ s₁ own ob hi hP hJ hoff hfp hw F₁ N₁
    exact step i v m₁ news₁ s₁ own (Ob.trans (Ob.same s) ob) (by simpa using hP) hJ hoff (hw _ (.head _)).1 (hw _ (.head _)).2 F₁ N₁
  · intro i h st b hb
    rw [List.mem_singleton.mp hb]
    obtain ⟨o, ho, _⟩ := st.1
    exact ⟨o, ho⟩
  · intro s' m' news' ob F' N' hJ
    exact hR s' m' news' (Ob.trans (Ob.same s) ob) F' N' hJ
/-- a for over a list that stood before the call -/
theorem ForOld {Q : Flow → Shared → Prop} {x : Str} {px pos : Pos} {iter : Expr} {body : List Stmt} {l : Addr} {vs : List Value} {m : Str → Option Value} {news : List (Addr × Obj)}
    (hh : A.handled = none) (hl : h₀.IsList l vs.toArray) (F : Fr h₀ L s.heap m) (N : News h₀ L s.heap news)
    (hx : (envOf name scope L a cd).kindOf x = some .local) (hk : scope.kind = .function)
    (hev : ∀ Q' : Value → Shared → Prop, Q' (.ref l) s → wpAny (model prog w) A (eval iter (envOf name scope L a cd)) Q' (fun _ _ => False) s)
    (J : Nat → (Str → Option Value) → List (Addr × Obj) → Prop) (h0 : J 0 m news)
    (step : ∀ i v m₁ news₁ s₁ own, Ob s s₁ → vs[i]? = some v → J i m₁ news₁ → (∀ p ∈ news₁, p.1 ∉ [s.heap.objs.size]) → (s.heap.objs.size < s₁.heap.objs.size) →
      Fr h₀ L s₁.heap (fun y => if y = x then some v else m₁ y) → News h₀ L s₁.heap (own ++ news₁) →
      wpAny (model prog w) A (execs body (envOf name scope L a cd)) (Turn h₀ L [s.heap.objs.size] own (J (i + 1)) s₁ (fun v s' => Q (.ret v) s')) (fun _ _ => False) s₁)
    (hR : ∀ s' m' news', Ob s s' → Fr h₀ L s'.heap m' → News h₀ L s'.heap news' → J vs.length m' news' → Q .next s')
    (hs : ∀ x, foldedSetIterable iter (envOf name scope L a cd) x = pure x := by intro _; rfl) :
    wpAny (model prog w) A (exec (.For (.Name x px) iter body [] pos) (envOf name scope L a cd)) Q (fun _ _ => False) s :=
  ForOld2 hh hl F N hx hk hev J h0 (fun i v m₁ news₁ s₁ own a b c d e _ f g => step i v m₁ news₁ s₁ own a b c d e f g) hR hs
end
/-- what a frame's name holds -/
def IntAt (m : Str → Option Value) (x : Str) (i : Int) : Prop := ∃ t, m x = some (.int i t)
def StrAt (m : Str → Option Value) (x : Str) (y : Str) : Prop := ∃ t, m x = some (.str y t)
theorem IntAt.here {m : Str → Option Value} {x : Str} {i j : Int} {t : Tok} (h : i = j) : IntAt (fun y => if y = x then some (.int i t) else m y) x j := ⟨t, by subst h; exact if_pos rfl⟩
theorem StrAt.here {m : Str → Option Value} {x : Str} {i j : Str} {t : Tok} (h : i = j) : StrAt (fun y => if y = x then some (.str i t) else m y) x j := ⟨t, by subst h; exact if_pos rfl⟩
theorem IntAt.up {m : Str → Option Value} {x z : Str} {i : Int} {v : Option Value} (h : IntAt m z i) (hne : z ≠ x) : IntAt (fun y => if y = x then v else m y) z i := let ⟨t, e⟩ := h; ⟨t, (if_neg hne).trans e⟩
theorem StrAt.up {m : Str → Option Value} {x z : Str} {i : Str} {v : Option Value} (h : StrAt m z i) (hne : z ≠ x) : StrAt (fun y => if y = x then v else m y) z i := let ⟨t, e⟩ := h; ⟨t, (if_neg hne).trans e⟩
theorem IntAt.eq {m : Str → Option Value} {x : Str} {i j : Int} (h : IntAt m x i) (e : j = i) : IntAt m x j := e ▸ h
theorem StrAt.eq {m : Str → Option Value} {x : Str} {i j : Str} (h : StrAt m x i) (e : j = i) : StrAt m x j := e ▸ h
theorem IntAt.mk' {m : Str → Option Value} {x : Str} {i : Int} {t : Tok} (e : m x = some (.int i t)) : IntAt m x i := ⟨t, e⟩
theorem StrAt.mk' {m : Str → Option Value} {x : Str} {i : Str} {t : Tok} (e : m x = some (.str i t)) : StrAt m x i := ⟨t, e⟩

def StrsAre (vs : List Value) (us : List Str) : Prop := vs.length = us.length ∧ ∀ (i : Nat) (v : Value), vs[i]? = some v → ∃ (u : Str) (t : Tok), us[i]? = some u ∧ v = .str u t
theorem foldl_take {α β : Type} {f : β → α → β} {z : β} {us : List α} {i : Nat} {u : α} (h : us[i]? = some u) : (us.take (i + 1)).foldl f z = f ((us.take i).foldl f z) u := by
  rw [List.take_add_one, h, List.foldl_append]; rfl

/-! the module's names -/
section
variable (P : Params)
theorem gn_comment_line : nsIn (hd.heap_39 P) mainGlobals (Str.ofString "_comment_line") = some (some (.ref 38)) := by kernel_rfl
theorem gn_iter_escaped_chars : nsIn (hd.heap_39 P) mainGlobals (Str.ofString "_iter_escaped_chars") = some (some (.ref 45)) := by kernel_rfl
theorem gn_strip_quoted_realnames : nsIn (hd.heap_39 P) mainGlobals (Str.ofString "_strip_quoted_realnames") = some (some (.ref 52)) := by kernel_rfl
theorem gn_check_parenthesis : nsIn (hd.heap_39 P) mainGlobals (Str.ofString "_check_parenthesis") = some (some (.ref 59)) := by kernel_rfl
theorem gn_twin_re_1 : nsIn (hd.heap_39 P) mainGlobals (Str.ofString "_twin_re_1") = some (some (.ref 64)) := by kernel_rfl
theorem gn_twin_re_2 : nsIn (hd.heap_39 P) mainGlobals (Str.ofString "_twin_re_2") = some (some (.ref 69)) := by kernel_rfl
theorem gn_quotedata : nsIn (hd.heap_39 P) mainGlobals (Str.ofString "quotedata") = some (some (.ref 76)) := by kernel_rfl
theorem gn_law_units : nsIn (hd.heap_39 P) mainGlobals (Str.ofString "_law_units") = some (some (.ref 81)) := by kernel_rfl
theorem gn_law_pair : nsIn (hd.heap_39 P) mainGlobals (Str.ofString "_law_pair") = some (some (.ref 88)) := by kernel_rfl
theorem gn_law_corners : nsIn (hd.heap_39 P) mainGlobals (Str.ofString "_law_corners") = some (some (.ref 93)) := by kernel_rfl
theorem gn_law_line : nsIn (hd.heap_39 P) mainGlobals (Str.ofString "_law_line") = some (some (.ref 100)) := by kernel_rfl
theorem gn_law_told : nsIn (hd.heap_39 P) mainGlobals (Str.ofString "_law_told") = some (some (.ref 107)) := by kernel_rfl
theorem gn_law_mail : nsIn (hd.heap_39 P) mainGlobals (Str.ofString "_law_mail") = some (some (.ref 112)) := by kernel_rfl
theorem gn_CRLF : nsIn (hd.heap_39 P) mainGlobals (Str.ofString "CRLF") = some (some (.str (Str.ofString "\r\n") 385)) := by kernel_rfl
theorem gb_enumerate : nsIn (hd.heap_39 P) mainGlobals (Str.ofString "enumerate") = some none := by kernel_rfl
theorem gb_len : nsIn (hd.heap_39 P) mainGlobals (Str.ofString "len") = some none := by kernel_rfl
theorem gb_sum : nsIn (hd.heap_39 P) mainGlobals (Str.ofString "sum") = some none := by kernel_rfl
theorem gb_range : nsIn (hd.heap_39 P) mainGlobals (Str.ofString "range") = some none := by kernel_rfl
theorem gb_max : nsIn (hd.heap_39 P) mainGlobals (Str.ofString "max") = some none := by kernel_rfl
end

section
variable {M : Model} {A : Around} {E : Value → Shared → Prop} {s : Shared} {w : World} {h₀ : Heap} {L a : Addr} {m mg mb : Str → Option Value} {cn : Str} {cs : Scope} {ccd : Value} {x : Str} {pos : Pos} {v : Value} {Q : Value → Shared → Prop}
theorem ldG (F : Fr h₀ L s.heap m) (G : Gd w mg mb h₀) (e : nsIn (hd.heap_39 w.params) mainGlobals x = some (some v)) (h : Q v s)
    (hk : cs.kind = .function := by rfl) (hx : (envOf cn cs L a ccd).kindOf x = some .globalImplicit := by rfl) (hd : (x == ("__debug__" : Str)) = false := by decide) :
    wpAny M A (eval (.Name x pos) (envOf cn cs L a ccd)) Q E s := ld_global_at F G.g (mg_of G.X G.g e) h hk hx hd
theorem ldB (F : Fr h₀ L s.heap m) (G : Gd w mg mb h₀) (e : nsIn (hd.heap_39 w.params) mainGlobals x = some none) (hb : bootBuiltins x = some v) (h : Q v s) (hn : x ≠ "__name__" := by decide)
    (hk : cs.kind = .function := by rfl) (hx : (envOf cn cs L a ccd).kindOf x = some .globalImplicit := by rfl) (hd : (x == ("__debug__" : Str)) = false := by decide) :
    wpAny M A (eval (.Name x pos) (envOf cn cs L a ccd)) Q E s := ld_builtin_at F G.g (mg_none_of G.X G.g e) G.b ((G.blt x hn).trans hb) h hk hx hd
end
def Kpt (h₀ h : Heap) : Prop := ∀ b o, h₀.get? b = some o → h.get? b = some o
theorem Kpt.of {h₀ h : Heap} {L : Addr} {m : Str → Option Value} (F : Fr h₀ L h m) : Kpt h₀ h := F.keep
section
variable {M : Model} {A : Around} {E : Value → Shared → Prop} {s : Shared} {w : World} {h₀ : Heap} {mg mb : Str → Option Value} {env : Env} {pos : Pos} {f : Addr} {e : Expr} {rest : List Expr} {Q : Value → Shared → Prop}
theorem callWithG (G : Gd w mg mb h₀) (hk : keepIn (hd.heap_39 w.params) (.ref f) = true) (h : wpAny M A (spliced (backTo pos (starEach (e :: rest) env))) (fun vs s₁ => Kpt h₀ s₁.heap ∧ wpAny M A (call (.ref f) vs) Q E s₁) E s)
    (he : starEach (e :: rest) env = (false, eval e env) :: starEach rest env := by rfl) (hplain : (backTo pos (starEach rest env)).any (·.1) = false := by rfl) :
    wpAny M A (callWith pos (.ref f) [] (backTo pos (starEach (e :: rest) env)) []) Q E s :=
  callWith_K G.X hk (wpAny_mono h (fun vs s₁ x => ⟨G.X.keeps x.1, x.2⟩) fun _ _ x => x) he hplain
end
end Mine
namespace Mine
def cl (x : Str) : Str := if (Txt.rstrip x).length = 0 then Str.ofString "#" else Str.ofString "# " ++ Txt.rstrip x
def EndS (s : Shared) (y : Str) (r : Result) (s' : Shared) : Prop := (∃ t, r = .ok (.ret (.str y t))) ∧ Kp s s'
theorem EndS.mk' {s s' : Shared} {L : Addr} {m : Str → Option Value} {y z : Str} {t : Tok} (F : Fr s.heap L s'.heap m) (ob : Ob s s') (e : y = z) : EndS s z (.ok (.ret (.str y t))) s' := ⟨⟨t, by rw [e]⟩, Kp.fr F ob⟩

theorem comment {prog : Program} {w : World} {A : Around} {s : Shared} {mg mb : Str → Option Value} (G : Gd w mg mb s.heap) (hA : A.depth < recursionLimit) (x : Str) (t0 : Tok) (hx : x.length ≤ 100000) :
   codeAny (model prog w) A (.call (.ref 38) ⟨[.str x t0], []⟩) (EndS s (cl x)) s := by
  w_top off
  refine enterF (binds := [("line", .str x t0)]) G rfl (by kernel_rfl) hA rfl (locs rfl) rfl rfl rfl (by decide) ?_
  intro L h₁ F
  repeat' walk1
  all_goals (refine EndS.mk' (by assumption) ⟨rfl, id⟩ ?_)
  · rw [cl, if_neg (by omega)]
  · rw [cl, if_pos (by omega)]
theorem Fr.kp {h₀ h h' : Heap} {L : Addr} {m : Str → Option Value} (F : Fr h₀ L h m) (k : ∀ b o, h.get? b = some o → h'.get? b = some o) : Fr h₀ L h' m :=
  ⟨F.ns.keeps k, fun b o e => k b o (F.keep b o e), F.above⟩
theorem News.kp {h₀ h h' : Heap} {L : Addr} {news : List (Addr × Obj)} (N : News h₀ L h news) (k : ∀ b o, h.get? b = some o → h'.get? b = some o) : News h₀ L h' news :=
  fun p hp => ⟨k _ _ (N p hp).1, (N p hp).2⟩
theorem callS {prog : Program} {w : World} {A : Around} {s : Shared} {f : Value} {args : List Value} {y : Str} {h₀ : Heap} {L : Addr} {m : Str → Option Value} {news : List (Addr × Obj)} {Q : Value → Shared → Prop} {E : Value → Shared → Prop}
    (C : codeAny (model prog w) A (.call f ⟨args, []⟩) (EndS s y) s) (F : Fr h₀ L s.heap m) (N : News h₀ L s.heap news)
    (h : ∀ t s', Ob s s' → Fr h₀ L s'.heap m → News h₀ L s'.heap news → Q (.str y t) s') : wpAny (model prog w) A (call f args) Q E s := by
  refine wpAny_call (codeAny_mono C ?_)
  rintro r s' ⟨⟨t, rfl⟩, kp⟩
  exact h t s' kp.2 (Fr.kp F kp.1) (News.kp N kp.1)
end Mine
namespace Mine
local macro_rules | `(tactic| walk_at "eval Name") => `(tactic| (refine' ld (by assumption) ?hv ?_; (case hv => ((try dsimp only); (repeat rw [if_neg (by decide)]); first | exact if_pos rfl | assumption))))

def pairF (p : Int × Int) (u : Str) : Int × Int :=
  if u = Str.ofString "(" then (p.1, p.2 + 1) else if u = Str.ofString ")" ∧ p.2 > 0 then (p.1, p.2 - 1) else if u = Str.ofString ")" then (p.1 + 1, p.2) else p

def EndT2 (s : Shared) (P : Int → Int → Prop) (r : Result) (s' : Shared) : Prop :=
  ∃ t a b ta tb, r = .ok (.ret (.ref t)) ∧ s'.heap.get? t = some { cls := .type "tuple", data := .seq #[.int a ta, .int b tb] } ∧ P a b ∧ Kp s s'

theorem pair {prog : Program} {w : World} {A : Around} {s : Shared} {mg mb : Str → Option Value} (G : Gd w mg mb s.heap) (hA : A.depth < recursionLimit) (hh : A.handled = none)
   {l : Addr} {vs : List Value} {us : List Str} (hl : s.heap.IsList l vs.toArray) (hu : StrsAre vs us) :
   codeAny (model prog w) A (.call (.ref 88) ⟨[.ref l], []⟩) (EndT2 s (fun a b => (a, b) = us.foldl pairF (0, 0))) s := by
  w_top off
  refine enterF (binds := [("units", .ref l)]) G rfl (by kernel_rfl) hA rfl (locs rfl) rfl rfl rfl (by decide) ?_
  intro L h₁ F
  have N : News s.heap L h₁ [] := News.nil
  walk1
  walk1
  walk1
  walk1
  walk1
  walk1
  walk1
  walk1
  refine wpAny_execs_cons ?_
  refine ForOld (vs := vs) hh hl (by assumption) (by assumption) rfl rfl ?_ (fun i m news => news = [] ∧ IntAt m (Str.ofString "shut") ((us.take i).foldl pairF (0,0)).1 ∧ IntAt m (Str.ofString "standing") ((us.take i).foldl pairF (0,0)).2) ?_ ?_ ?_
  · intro Q' h; walk1; exact h
  · exact ⟨rfl, ⟨_, rfl⟩, ⟨_, rfl⟩⟩
  · rintro i v m₁ news₁ s₁ own ob hv ⟨rfl, ⟨ta, ha⟩, ⟨tb, hb⟩⟩ hoff hsz F' N'
    obtain ⟨u, t, hu', rfl⟩ := hu.2 i v hv
    rw [foldl_take hu']
    generalize (us.take i).foldl pairF (0,0) = p at ha hb ⊢
    have hne : ¬ Str.ofString ")" = Str.ofString "(" := by decide
    repeat' walk1
    all_goals (
      simp only [beq_iff_eq, beq_eq_false_iff_ne, ne_eq, decide_eq_true_eq, decide_eq_false_iff_not, Bool.not_eq_true] at *
      first
      | contradiction
      | (refine ⟨_, [], ⟨rfl, id⟩, by assumption, by assumption, (fun _ h => nomatch h), rfl, ?_, ?_⟩
         all_goals (repeat' first | exact IntAt.here (by simp [pairF, *]) | (refine IntAt.up ?_ (by decide)) | exact IntAt.eq (IntAt.mk' ha) (by simp [pairF, *]) | exact IntAt.eq (IntAt.mk' hb) (by simp [pairF, *]))))
  · rintro s' m' news' ob F' N' ⟨rfl, ⟨ta, ha⟩, ⟨tb, hb⟩⟩
    rw [show vs.length = us.length from hu.1, List.take_length] at ha hb
    repeat' walk1
    rename News _ _ _ _ => NN
    exact ⟨_, _, _, _, _, rfl, NN.get (.head _), rfl, Kp.fr (by assumption) (Ob.trans ob ⟨rfl, id⟩)⟩
end Mine
namespace Mine
local macro_rules | `(tactic| walk_at "eval Name") => `(tactic| (refine' ld (by assumption) ?hv ?_; (case hv => ((try dsimp only); (repeat rw [if_neg (by decide)]); first | exact if_pos rfl | assumption))))
local macro_rules | `(tactic| walk_at "eval Name") => `(tactic| (refine' ldG (by assumption) (by assumption) (by first | exact gn_comment_line _ | exact gn_iter_escaped_chars _ | exact gn_strip_quoted_realnames _ | exact gn_check_parenthesis _ | exact gn_twin_re_1 _ | exact gn_twin_re_2 _ | exact gn_quotedata _ | exact gn_law_units _ | exact gn_law_pair _ | exact gn_law_corners _ | exact gn_law_line _ | exact gn_law_told _ | exact gn_law_mail _ | exact gn_CRLF _) ?_))
local macro_rules | `(tactic| walk_at "callWith ref") => `(tactic| (refine' callWithG (by assumption) (by kernel_rfl) ?_))
local macro_rules | `(tactic| walk_at "And") => `(tactic| ((with_reducible show Kpt _ _ ∧ _); refine ⟨Kpt.of (by assumption), ?_⟩))

def lineF (o : Option Str) (u : Str) : Option Str := o.bind fun x => if u = Str.ofString "(" then some (cl x) else if u = Str.ofString ")" then (if Txt.slice x none (some 1) = Str.ofString "#" then some (Txt.slice x (some 2) none) else none) else some x
theorem lineF_none (us : List Str) : us.foldl lineF none = none := by
  induction us with
  | nil => rfl
  | cons u r ih => exact ih
theorem lineF_take {us : List Str} {o : Option Str} {z : Str} (h : us.foldl lineF o = some z) (i : Nat) : ∃ y, (us.take i).foldl lineF o = some y := by
  cases e : (us.take i).foldl lineF o with
  | some y => exact ⟨y, rfl⟩
  | none =>
    have := List.take_append_drop i us
    rw [← this, List.foldl_append, e, lineF_none] at h
    cases h
theorem rstrip_len (x : Str) : (Txt.rstrip x).length ≤ x.length := by
  exact fact_rstrip x
theorem cl_len (x : Str) (h : (Txt.rstrip x).length ≤ x.length) : (cl x).length ≤ x.length + 2 := by
  unfold cl
  split
  · show 1 ≤ _; omega
  · rw [Str.length_append]; show 2 + _ ≤ _; omega

theorem lawLine {prog : Program} {w : World} {A : Around} {s : Shared} {mg mb : Str → Option Value} (G : Gd w mg mb s.heap) (hA : A.depth + 5 < recursionLimit) (hh : A.handled = none)
   {l : Addr} {vs : List Value} {us : List Str} (hl : s.heap.IsList l vs.toArray) (hu : StrsAre vs us) (hn : us.length ≤ 1000) (x : Str) (t0 : Tok) (hx : x.length ≤ 1000) (z : Str) (hz : us.foldl lineF (some x) = some z) :
   codeAny (model prog w) A (.call (.ref 100) ⟨[.str x t0, .ref l], []⟩) (EndS s z) s := by
  w_top off
  refine enterF (binds := [("line", .str x t0), ("units", .ref l)]) G rfl (by kernel_rfl) (by omega) rfl (locs rfl) rfl rfl rfl (by decide) ?_
  intro L h₁ F
  have N : News s.heap L h₁ [] := News.nil
  refine wpAny_execs_cons ?_
  refine ForOld (vs := vs) hh hl F N rfl rfl ?_ (fun i m news => ∃ y, news = [] ∧ StrAt m (Str.ofString "line") y ∧ y.length ≤ 1000 + 2 * i ∧ (us.take i).foldl lineF (some x) = some y) ?_ ?_ ?_
  · intro Q' h; walk1; exact h
  · exact ⟨_, rfl, ⟨_, rfl⟩, hx, rfl⟩
  · rintro i v m₁ news₁ s₁ own ob hv ⟨y, rfl, ⟨ta, ha⟩, hy, hf⟩ hoff hsz F' N'
    obtain ⟨u, t, hu', rfl⟩ := hu.2 i v hv
    obtain ⟨y', hy'⟩ := lineF_take hz (i + 1)
    have hi : i < us.length := (List.getElem?_eq_some_iff.mp hu').1
    have hs := foldl_take (f := lineF) (z := some x) hu'
    rw [hf, hy'] at hs
    rw [hy']
    clear hz hy'
    have hne : ¬ Str.ofString ")" = Str.ofString "(" := by decide
    repeat' walk1
    · refine' callS ?C ?F ?N ?_
      case F => exact F'
      case N => exact N'
      case C => exact comment (by exact Gd.fr G F') (by show A.depth + 1 < _; omega) y _ (by omega)
      intro t₂ s₂ ob₂ F₂ N₂
      (repeat' walk1)
      all_goals (
        refine ⟨_, [], Ob.trans ⟨rfl, id⟩ (Ob.trans ob₂ ⟨rfl, id⟩), by assumption, by assumption, (fun _ h => nomatch h), y', rfl, StrAt.here ?_, ?_, rfl⟩
        · simp_all [lineF]
        · simp_all [lineF]
          have := cl_len y (rstrip_len y); omega)
    all_goals (
      simp only [beq_iff_eq, beq_eq_false_iff_ne, ne_eq] at *
      first
      | contradiction
      | (exfalso; simp_all [lineF]; done)
      | (refine ⟨_, [], ⟨rfl, id⟩, by assumption, by assumption, (fun _ h => nomatch h), y', rfl, ?_, ?_, rfl⟩
         · first | exact StrAt.here (by simp_all [lineF]) | exact StrAt.up (StrAt.eq (StrAt.mk' ha) (by simp_all [lineF])) (by decide)
         · first | (simp_all [lineF]; omega) | (have e : y' = y := by simp_all [lineF]
                                                rw [e]; omega) | (have e : y' = Txt.slice y (some 2) none := by simp_all [lineF]
                                                                  rw [e]; omega)))
  · rintro s' m' news' ob F' N' ⟨y, rfl, ⟨ta, ha⟩, hy, hf⟩
    rw [show vs.length = us.length from hu.1, List.take_length, hz] at hf
    cases hf
    repeat' walk1
    exact EndS.mk' F' ob rfl
end Mine
namespace Mine
local macro_rules | `(tactic| walk_at "eval Name") => `(tactic| (refine' ld (by assumption) ?hv ?_; (case hv => ((try dsimp only); (repeat rw [if_neg (by decide)]); first | exact if_pos rfl | assumption))))
local macro_rules | `(tactic| walk_at "eval Name") => `(tactic| (refine' ldG (by assumption) (by assumption) (by first | exact gn_comment_line _ | exact gn_iter_escaped_chars _ | exact gn_strip_quoted_realnames _ | exact gn_check_parenthesis _ | exact gn_twin_re_1 _ | exact gn_twin_re_2 _ | exact gn_quotedata _ | exact gn_law_units _ | exact gn_law_pair _ | exact gn_law_corners _ | exact gn_law_line _ | exact gn_law_told _ | exact gn_law_mail _ | exact gn_CRLF _) ?_))
local macro_rules | `(tactic| walk_at "callWith ref") => `(tactic| (refine' callWithG (by assumption) (by kernel_rfl) ?_))
local macro_rules | `(tactic| walk_at "And") => `(tactic| ((with_reducible show Kpt _ _ ∧ _); refine ⟨Kpt.of (by assumption), ?_⟩))

theorem strip {prog : Program} {w : World} {A : Around} {s : Shared} {mg mb : Str → Option Value} (G : Gd w mg mb s.heap) (hA : A.depth < recursionLimit) (x : Str) (t0 : Tok) (hx : x.length ≤ 100000) (hq : x.cps.contains 34 = false) :
   codeAny (model prog w) A (.call (.ref 52) ⟨[.str x t0], []⟩) (EndS s x) s := by
  w_top off
  refine enterF (binds := [("addr", .str x t0)]) G rfl (by kernel_rfl) hA rfl (locs rfl) rfl rfl rfl (by decide) ?_
  intro L h₁ F
  have N : News s.heap L h₁ [] := News.nil
  walk1
  walk1
  walk1
  walk1
  walk1
  walk1
  walk1
  walk1
  have e : (!(Builtin.Str.occurrences x (Str.ofString "\"") 0 x.length 1).isEmpty) = false := by
    rw [show Str.ofString "\"" = (⟨#[34]⟩ : Str) by decide, StrLaws.found_one]
    exact decide_eq_false (by simpa using hq)
  rw [e, if_neg Bool.false_ne_true]
  walk1
  walk1
  walk1
  exact EndS.mk' (by assumption) ⟨rfl, id⟩ rfl
end Mine
namespace Mine
section
variable {prog : Program} {w : World} {A : Around} {E : Value → Shared → Prop} {s : Shared}
/-- next of a generator that a def made: what it leaves behind is without clean-up -/
theorem nextGen {a : Addr} {g n : Nat} {gs : GenState} {P : Nat → Shared → Shared → Prop} {Y : Protocol} {Q : Option Value → Shared → Prop} (hh : A.handled = none)
    (hl : s.heap.NoLimit) (hroom : A.depth < recursionLimit) (hg : s.heap.IsGen a g) (hgs : s.gens[g]? = some gs)
    (hgo : gs.Goes (model prog w) A.in1 (fun n s₀ r s₁ => r = .ok (.ret .none) ∧ P n s₀ s₁) Y n (.send .none) (s.setGen g .running))
    (hY : ∀ v s₁ gs', gs'.bare = true → Y (n - 1) (s.setGen g .running) v s₁ (fun r' s'' => match n with
        | 0 => False
        | m + 1 => gs'.Goes (model prog w) A.in1 (fun n s₀ r s₁ => r = .ok (.ret .none) ∧ P n s₀ s₁) Y m r' s'') → Q (some v) (s₁.setGen g gs'))
    (hP : ∀ s₁, P n (s.setGen g .running) s₁ → ∀ h', (∀ b o, s₁.heap.get? b = some o → h'.get? b = some o) → Q none { s₁.setGen g .finished with heap := h' }) :
    wpAny (model prog w) A (pyNext (.ref a)) Q E s := by
  unfold pyNext
  refine wpAny_bind (wpAny_attempt (wpAny_callSpecial?_slot (name := Str.ofString "__next__") hg.typeIs slot_gen_next
    (wpAny_call_entry slot_gen_next hg.typeIs entry_gen_next ?_ (args_gen_next _))))
  show wpAny _ A.in1 (Builtin.Generator.genWake (.ref a) (.send .none)) _ _ s
  unfold Builtin.Generator.genWake
  refine wpAny_bind (wpAny_holding (wpAny_genNumber hg (wpAny_bind (wpAny_genState hgs ?_))))
  cases gs with
  | running => exact hgo.elim
  | finished => exact hgo.elim
  | _ =>
    refine wpAny_bind (wpAny_roomToWake hl hroom ?_)
    show wpAny _ A.in1 (.resume g (.send .none) [] _) _ _ s
    refine wpAny_resumeQ hgs hgo (fun x s₁ hx => ?_) (fun v s₁ gs' hb hv => wpAny_pure ⟨v, rfl, wpAny_pure (hY v s₁ gs' hb hv)⟩)
    obtain ⟨rfl, hp⟩ := hx
    show wpAny _ A.in1 (newExc (.type "StopIteration") [] >>= _) _ _ _
    refine wpAny_bind ?_
    simp only [newExc, newTuple]
    refine wpAny_bind (wpAny_newObj_type ?_ (by size_fits))
    refine wpAny_bind (m := firstArgMember _ _) (wpAny_of_eq (a := Value.none) (by first | rfl | (simp only [firstArgMember]; rfl)) ?_)
    refine wpAny_newObj_type ?_ (by size_fits)
    simp only [raiseNew]
    refine wpAny_bind (wpAny_bind (wpAny_handled ?_))
    rw [show A.in1.handled = none from hh]
    refine wpAny_throw ?_
    refine wpAny_bind (wpAny_isInstance (T := "StopIteration") (b := true) ⟨_, Heap.get?_push_size _ rfl, rfl⟩ isSubtype_stop ?_)
    exact wpAny_pure (hP s₁ hp _ fun b o hb => Heap.get?_push_of_some _ (Heap.get?_push_of_some _ hb))
end
section
open Sem (wp)
variable {prog : Program} {w : World} {A : Around} {R : GenEnd} {Y : Protocol} {n : Nat} {s₀ : Shared} {c : Code} {fs : List Frame} {s : Shared} {env : Env}
  {K : Flow → Sem Fin} {H : Value → Sem Fin} {gd : Bool → Bool} {lv : List Value → List Value}

theorem segStmt {st : Stmt} (h : wpAny (model prog w) (A.over c fs) (exec st env) (fun f s' => Seg (model prog w) A R Y n s₀ c (K f) fs s') (fun _ _ => False) s) :
    Seg (model prog w) A R Y n s₀ c ((exec st env).wrap K H gd lv) fs s :=
  seg_wrap (wpAny_mono h (fun _ _ x => x) fun _ _ x => x.elim)

theorem segIf {test : Expr} {body orelse : List Stmt} {pos : Pos}
    (h : wpAny (model prog w) (A.over c fs) (isTrue test env (eval test env)) (fun b s' => if b = true then Seg (model prog w) A R Y n s₀ c ((execs body env).wrap K H gd lv) fs s' else Seg (model prog w) A R Y n s₀ c ((execs orelse env).wrap K H gd lv) fs s') (fun _ _ => False) s) :
    Seg (model prog w) A R Y n s₀ c ((exec (.If test body orelse pos) env).wrap K H gd lv) fs s := by
  rw [exec_If, Sem.bind_eq_wrap', Sem.wrap_wrap]
  refine seg_wrap (wpAny_standAt ?_)
  rw [Sem.bind_eq_wrap', Sem.wrap_wrap]
  refine seg_wrap (wpAny_mono h (fun b s' hb => ?_) fun _ _ x => x.elim)
  cases b with
  | true => exact hb
  | false => exact hb

theorem segFor {target iter : Expr} {body orelse : List Stmt} {pos : Pos}
    (h : wpAny (model prog w) (A.over c fs) (eval iter env) (fun x s₁ => wpAny (model prog w) (A.over c fs) (pyIter x) (fun it s₂ =>
      ∀ p kk, (∀ f, kk (.ok f) = K f) → Seg (model prog w) A R Y n s₀ (.forLoop target it body orelse env) ((model prog w).den (.forLoop target it body orelse env)) (.ret kk none (gd false) (lv []) c p [] :: fs) s₂) (fun _ _ => False) s₁) (fun _ _ => False) s)
    (hs : ∀ x, foldedSetIterable iter env x = pure x := by intro _; rfl) :
    Seg (model prog w) A R Y n s₀ c ((exec (.For target iter body orelse pos) env).wrap K H gd lv) fs s := by
  rw [exec_For, Sem.bind_eq_wrap', Sem.wrap_wrap]
  refine seg_wrap (wpAny_standAt ?_)
  rw [Sem.bind_eq_wrap', Sem.wrap_wrap]
  refine seg_wrap (wpAny_mono h (fun x s₁ h₁ => ?_) fun _ _ x => x.elim)
  rw [Sem.bind_eq_wrap', Sem.wrap_wrap]
  refine seg_wrap (wpAny_of_eq (hs x) ?_)
  rw [Sem.bind_eq_wrap', Sem.wrap_wrap]
  refine seg_wrap (wpAny_standAt ?_)
  rw [Sem.bind_eq_wrap', Sem.wrap_wrap]
  refine seg_wrap (wpAny_holding (wpAny_mono h₁ (fun it s₂ h₂ => ?_) fun _ _ x => x.elim))
  exact seg_call fun p => h₂ p _ fun f => rfl

theorem segLoop {target : Expr} {it : Value} {body : List Stmt}
    (h : wpAny (model prog w) (A.over (.forLoop target it body [] env) fs) (pyNext it) (fun r s₁ => match r with
      | none => Seg (model prog w) A R Y n s₀ (.block [] env) (.pure (.done .next)) fs s₁
      | some v => wpAny (model prog w) (A.over (.forLoop target it body [] env) fs) (letOwnedTupleGo target it v) (fun _ s₂ =>
          wpAny (model prog w) (A.over (.forLoop target it body [] env) fs) (assign target env v) (fun _ s₃ =>
            ∀ H', Seg (model prog w) A R Y n s₀ (.forLoop target it body [] env) ((execs body env).wrap (fun f => match f with
              | .next | .cont => .pure (.again (.forLoop target it body [] env))
              | .brk => .pure (.done .next)
              | .ret v => .pure (.done (.ret v))) H' id id) fs s₃) (fun _ _ => False) s₂) (fun _ _ => False) s₁) (fun _ _ => False) s) :
    Seg (model prog w) A R Y n s₀ (.forLoop target it body [] env) ((model prog w).den (.forLoop target it body [] env)) fs s := by
  show Seg _ A R Y n s₀ _ ((forTurn target it body [] env).onRaise (fun x => do noteFrame x env; theTreesLotGoes x)) fs s
  unfold forTurn
  rw [Sem.onRaise_eq_wrap, Sem.bind_eq_wrap', Sem.wrap_wrap]
  refine seg_wrap (wpAny_standAt ?_)
  rw [Sem.bind_eq_wrap', Sem.wrap_wrap]
  refine seg_wrap (wpAny_onRaise (wpAny_mono h (fun r s₁ h₁ => ?_) fun _ _ x => x.elim))
  cases r with
  | none => exact seg_again rfl h₁
  | some v =>
    dsimp only at h₁ ⊢
    rw [Sem.bind_eq_wrap', Sem.wrap_wrap]
    refine seg_wrap (wpAny_mono h₁ (fun _ s₂ h₂ => ?_) fun _ _ x => x.elim)
    rw [Sem.bind_eq_wrap', Sem.wrap_wrap]
    refine seg_wrap (wpAny_mono h₂ (fun _ s₃ h₃ => ?_) fun _ _ x => x.elim)
    rw [Sem.bind_eq_wrap', Sem.wrap_wrap]
    rw [Sem.wrap_congr (execs body env) _ _ (K' := fun f => match f with
              | .next | .cont => .pure (.again (.forLoop target it body [] env))
              | .brk => .pure (.done .next)
              | .ret v => .pure (.done (.ret v))) (fun f => by cases f <;> rfl) (fun e => rfl)]
    exact h₃ _
end
end Mine
namespace Mine
/-- the texts that _iter_escaped_chars yields; the escape at the end -/
def yl : Bool → List Nat → List Str
  | _, [] => []
  | true, c :: r => (Str.ofString "\\" ++ ⟨#[c]⟩) :: yl false r
  | false, c :: r => if c = 92 then yl true r else (⟨#[c]⟩ : Str) :: yl false r
def fe : Bool → List Nat → Bool
  | b, [] => b
  | true, _ :: r => fe false r
  | false, c :: r => if c = 92 then fe true r else fe false r

/-- the generator's frame is L, the consumer's Lc; what stood below sz when the generator first ran stays -/
def Mv (L sz : Addr) (s₀ s₁ : Shared) : Prop := (∀ b o, b ≠ L → b < sz → s₀.heap.get? b = some o → s₁.heap.get? b = some o) ∧ s₁.gens = s₀.gens ∧ s₁.os = s₀.os
theorem Mv.refl (L sz : Addr) (s : Shared) : Mv L sz s s := ⟨fun _ _ _ _ e => e, rfl, rfl⟩
theorem Mv.step {L sz : Addr} {s₀ s₁ : Shared} (m : Mv L sz s₀ s₁) {h : Heap} {tk : Nat} (k : ∀ b o, b ≠ L → b < sz → s₁.heap.get? b = some o → h.get? b = some o) : Mv L sz s₀ { s₁ with heap := h, toks := tk } :=
  ⟨fun b o h1 h2 e => k b o h1 h2 (m.1 b o h1 h2 e), m.2.1, m.2.2⟩
def GY (L Lc sz : Addr) (its : List Str) : Protocol := fun n s₀ v s₁ kap =>
  ∃ (T : Addr) (u : Str) (tk : Tok) (j : Int) (tj : Tok), its[its.length - 1 - n]? = some u ∧ v = .ref T ∧ s₁.heap.get? T = some { cls := .type "tuple", data := .seq #[.int j tj, .str u tk] } ∧
    Mv L sz s₀ s₁ ∧ sz ≤ T ∧ ∀ s'', (∀ b o, b ≠ Lc → s₁.heap.get? b = some o → s''.heap.get? b = some o) → s''.heap.objs.size ≥ sz → kap (.send .none) s''
def GP (L sz : Addr) (n : Nat) (s₀ s₁ : Shared) : Prop := n = 0 ∧ Mv L sz s₀ s₁

def hE : Heap := ⟨#[], {}⟩
theorem hE_none (b : Addr) : hE.get? b = none := by simp [hE, Heap.get?]
theorem frE {L : Addr} {h : Heap} {m : Str → Option Value} (hn : h.Ns L m) : Fr hE L h m := ⟨hn, fun b o e => by (rw [hE_none] at e; cases e), Nat.zero_le _⟩
def allBut (L : Addr) (h : Heap) : List (Addr × Obj) := ownOf hE ((List.range h.objs.size).filter (fun b => decide (b ≠ L))) h
theorem newsE (L : Addr) (h : Heap) : News hE L h (allBut L h) := news_ownOf (by simp)
theorem mem_allBut {L : Addr} {h : Heap} {b : Addr} {o : Obj} (hb : b ≠ L) (ho : h.get? b = some o) : (b, o) ∈ allBut L h :=
  mem_ownOf (by simp [hb, Heap.lt_size ho]) (hE_none b) ho

section
variable {prog : Program} {w : World} {B : Around} {s : Shared} {env : Env}
theorem pairTurn {xi xc : Str} {pk pv pt : Pos} {x1 : Nat} {e : Addr} {fp wr : List Addr} {n i : Nat} {Pt : Nat → Array Value → Prop} {St : Nat → Heap → Prop} {Mid : Nat → Addr → Heap → Prop} {m : Str → Option Value} {Q : Shared → Prop} {Q0 : Shared → Prop}
    (hB : B.handled = none) (W : WalksT prog w B e fp wr n Pt St Mid) (h2 : ∀ vals, Pt i vals → ∃ v0 v1, vals = #[v0, v1]) (hLf : env.locals ∉ fp) (hi : i < n) (hst : St i s.heap) (hn : s.heap.Ns env.locals m)
    (hxi : env.kindOf xi = some .local) (hxc : env.kindOf xc = some .local) (hp : (env.scope.kind == .class || (env.scope.kind == .module && env.locals != env.globals)) = false)
    (h : ∀ v0 v1 h' tk, Pt i #[v0, v1] → St (i + 1) h' → h'.Ns env.locals (fun y => if y = xc then some v1 else if y = xi then some v0 else m y) →
      (∀ b o, b ≠ env.locals → b ∉ wr → s.heap.get? b = some o → h'.get? b = some o) → Q { s with heap := h', toks := tk }) :
    wpAny (model prog w) B (pyNext (.ref e)) (fun r s₁ => match r with
      | none => Q0 s₁
      | some v => wpAny (model prog w) B (letOwnedTupleGo (.Tuple [.Name xi pk, .Name xc pv] x1 pt) (.ref e) v) (fun _ s₂ =>
          wpAny (model prog w) B (assign (.Tuple [.Name xi pk, .Name xc pv] x1 pt) env v) (fun _ s₃ => Q s₃) (fun _ _ => False) s₂) (fun _ _ => False) s₁) (fun _ _ => False) s := by
  have hLw : env.locals ∉ wr := fun h => hLf (W.sub _ h)
  refine W.item i _ _ _ hi hst fun T vals h₁ tk₁ hPt _ hT hMid hk₁ => ?_
  obtain ⟨v0, v1, rfl⟩ := h2 vals hPt
  refine W.go _ x1 pt i T _ _ _ hMid fun h₂ hst₂ hk₂ => ?_
  have ht₂ : h₂.IsTuple T #[v0, v1] := hT.at fun o e => hk₂ T o (W.apart i T h₁ hMid) e
  refine wpAny_assign_Tuple hB ht₂ rfl rfl fun h₃ hx₃ => ?_
  have up₃ : ∀ b o, h₂.get? b = some o → h₃.get? b = some o := fun b o x => hx₃ b o (Nat.ne_of_lt (Heap.lt_size x)) x
  have n₃ : h₃.Ns env.locals m := hn.at' fun o q => up₃ _ o (hk₂ _ o hLw (hk₁ _ o hLw q))
  show wpAny _ B (do holding [v1] (assign (.Name xi pk) env v0); do holding [] (assign (.Name xc pv) env v1); pure ()) _ _ _
  refine wpAny_bind (wpAny_holding (wpAny_assign_Name (wpAny_storeName_local hxi n₃ (fun h₄ hn₄ hs₄ => ?_) hp)))
  refine wpAny_bind (wpAny_holding (wpAny_assign_Name (wpAny_storeName_local hxc hn₄ (fun h₅ hn₅ hs₅ => wpAny_pure ?_) hp)))
  refine h v0 v1 h₅ _ hPt (W.frame _ _ _ hst₂ fun b hb o q => ?_) hn₅ fun b o hbL hbw q => ?_
  · exact hs₅.extBut b o (fun z => hLf (z ▸ hb)) (hs₄.extBut b o (fun z => hLf (z ▸ hb)) (up₃ b o q))
  · exact hs₅.extBut b o hbL (hs₄.extBut b o hbL (up₃ b o (hk₂ b o hbw (hk₁ b o hbw q))))
end
end Mine
namespace Mine
local macro_rules | `(tactic| walk_at "eval Name") => `(tactic| (refine' ld (by assumption) ?hv ?_; (case hv => ((try dsimp only); (repeat rw [if_neg (by decide)]); first | exact if_pos rfl | assumption))))

theorem notin2 {b sz : Nat} (h : b < sz) : b ∉ [sz + 1, sz] := by simp; omega

theorem ne1 {b sz : Nat} (h : b < sz) : sz + 1 ≠ b := by omega
theorem ne0 {b sz : Nat} (h : b < sz) : sz ≠ b := by omega
theorem stKeep {h h' : Heap} {e it : Addr} {i : Nat} {x : Str} {t : Tok} (st : (∃ old, IsEnum h e it (i : Int) old) ∧ h.IsStrIter it "str_ascii_iterator" x t i)
    (k1 : ∀ o, h.get? e = some o → h'.get? e = some o) (k2 : ∀ o, h.get? it = some o → h'.get? it = some o) : (∃ old, IsEnum h' e it (i : Int) old) ∧ h'.IsStrIter it "str_ascii_iterator" x t i :=
  ⟨let ⟨old, q⟩ := st.1; ⟨old, k1 _ q⟩, let ⟨o, ho, r⟩ := st.2; ⟨o, k2 _ ho, r⟩⟩
theorem drop_get {α : Type} {l r : List α} {k : Nat} {a : α} (h : l.drop k = a :: r) : l[k]? = some a := by
  have : (l.drop k)[0]? = some a := by rw [h]; rfl
  rw [List.getElem?_drop] at this
  simpa using this
theorem drop_next {α : Type} {l r : List α} {n : Nat} {a : α} (h : l.drop (l.length - (n + 1)) = a :: r) (hle : n + 1 ≤ l.length) : l.drop (l.length - n) = r := by
  have e : l.length - n = (l.length - (n + 1)) + 1 := by omega
  rw [e, ← List.tail_drop, h]; rfl

theorem genFresh {prog : Program} {w : World} {A : Around} {mg mb : Str → Option Value} {name : Str} {params : Arguments} {body : List Stmt} {scope : Scope} {pm cd doc : Value} {h₀ : Heap} {L Lc sz : Addr} {m : Str → Option Value} {x : Str} {t : Tok} {s : Shared}
    (hK : (hd.heap_39 w.params).lookup 45 = some { cls := .type "function", data := .func (docDef name params body scope pm cd doc) })
    (G : Gd w mg mb h₀) (hh : A.handled = none) (F : Fr h₀ L s.heap m) (hm : m (Str.ofString "addr") = some (.str x t)) (hsz : sz = s.heap.objs.size) (hLc : Lc ≠ L) (hlc : Lc < sz)
    (hasc : x.cps.all (· < 128) = true) (hfe : fe false x.cps.toList = false) :
    Seg (model prog w) A (fun n s₀ r s₁ => r = .ok (.ret .none) ∧ GP L sz n s₀ s₁) (GY L Lc sz (yl false x.cps.toList)) (yl false x.cps.toList).length s (.func body (envOf name scope L 45 cd)) ((model prog w).den (.func body (envOf name scope L 45 cd))) [] s := by
  w_top off
  have e : (hd.heap_39 w.params).lookup 45 = some { cls := .type "function", data := .func (docDef _ _ _ _ _ _ _) } := rfl
  rw [e] at hK
  simp only [Option.some.injEq, Obj.mk.injEq, Data.func.injEq, docDef, FuncData.mk.injEq, FuncBody.stmts.injEq, true_and, and_true] at hK
  obtain ⟨rfl, _, rfl, rfl, rfl, rfl, rfl, rfl⟩ := hK
  clear e
  have hL : L < sz := hsz ▸ F.ns.lt
  refine seg_func ?_
  refine seg_execs_cons (segStmt ?_)
  refine wpAny_Assign_Name (wpAny_Constant_int (wpAny_storeName_local rfl F.ns (fun h₁ hn₁ hs₁ => ?_)))
  have F₁ := F.set hn₁ hs₁
  dsimp only
  refine seg_execs_cons (segStmt ?_)
  walk1
  walk1
  refine wpAny_storeName_local rfl hn₁ (fun h₂ hn₂ hs₂ => ?_)
  have F₂ := F₁.set hn₂ hs₂
  dsimp only
  have z₂ : h₂.objs.size = sz := by rw [hs₂.1, hsz]; exact hs₁.1
  have k₂ : ∀ b o, b ≠ L → s.heap.get? b = some o → h₂.get? b = some o := fun b o hb q => hs₂.extBut b o hb (hs₁.extBut b o hb q)
  clear hs₁ hs₂ hn₁
  refine seg_execs_cons (segFor ?_)
  walk1
  refine ldB F₂ G (gb_enumerate _) boot_enumerate ?_
  walk1
  walk1
  walk1
  walk1
  refine call_enumerate_str fun h₃ he hit hz hk => ?_
  dsimp only at he hit hz hk ⊢
  refine wpAny_pyIter_enum he ?_
  intro p kk hkk
  rw [z₂] at he hit hz ⊢
  rw [show strIterType x = "str_ascii_iterator" by simp [strIterType, hasc]] at hit
  have hns : h₃.Ns L _ := hn₂.keeps hk
  have hesc : (fun x => if x = Str.ofString "escape" then some (Value.bool false) else if x = Str.ofString "pos" then some (Value.int 0 s.toks) else m x) (Str.ofString "escape") = some (.bool false) := if_pos rfl
  generalize (fun x => if x = Str.ofString "escape" then some (Value.bool false) else if x = Str.ofString "pos" then some (Value.int 0 s.toks) else m x) = m₁ at hns hesc
  generalize hS : ({ s with heap := h₃, toks := _ } : Shared) = S
  have hst : (∃ old, IsEnum S.heap (sz + 1) sz ((0 : Nat) : Int) old) ∧ S.heap.IsStrIter sz "str_ascii_iterator" x t 0 := by rw [← hS]; exact ⟨⟨_, he⟩, hit⟩
  replace hns : S.heap.Ns L m₁ := by rw [← hS]; exact hns
  have hmv : Mv L sz s S := by rw [← hS]; exact ⟨fun b o hb hbs q => hk b o (k₂ b o hb q), rfl, rfl⟩
  have hSz : sz ≤ S.heap.objs.size := by rw [← hS]; exact hz ▸ Nat.le_add_right sz 2
  clear hS he hit hz hk k₂ F₂ z₂ hn₂ F₁ F hm hsz G
  have hk0 := hkk .next
  clear hkk
  dsimp only at hk0
  obtain ⟨its, ht0⟩ : ∃ l, l = yl false x.cps.toList := ⟨_, rfl⟩
  rw [← ht0]
  obtain ⟨n, hn0⟩ : ∃ n, n = its.length := ⟨_, rfl⟩
  rw [← hn0]
  obtain ⟨i, hi0⟩ : ∃ i : Nat, i = 0 := ⟨_, rfl⟩
  obtain ⟨esc, he0⟩ : ∃ b : Bool, b = false := ⟨_, rfl⟩
  obtain ⟨cs, hcs⟩ : ∃ l, l = x.cps.toList.drop i := ⟨_, rfl⟩
  replace hst : (∃ old, IsEnum S.heap (sz + 1) sz (i : Int) old) ∧ S.heap.IsStrIter sz "str_ascii_iterator" x t i := by rw [hi0]; exact hst
  replace hesc : m₁ (Str.ofString "escape") = some (.bool esc) := by rw [he0]; exact hesc
  have hfe' : fe esc cs = false := by rw [he0, hcs, hi0]; exact hfe
  have hn : n = (yl esc cs).length := by rw [hn0, ht0, he0, hcs, hi0]; rfl
  have hits : its.drop (its.length - n) = yl esc cs := by rw [hn0, Nat.sub_self, he0, hcs, hi0]; exact ht0
  have hle : n ≤ its.length := by rw [hn0]; exact Nat.le_refl _
  have hile : i ≤ x.cps.size := by rw [hi0]; exact Nat.zero_le _
  clear hfe ht0 hn0 hi0 he0
  generalize s = s₀ at hmv ⊢
  induction cs generalizing i esc n s₀ S m₁ with
  | nil =>
    refine segLoop ?_
    have hi : i = x.cps.size := by
      have : x.cps.toList.length ≤ i := List.drop_eq_nil_iff.mp hcs.symm
      rw [Array.length_toList] at this
      omega
    subst hi
    refine (WalksT.enumerateD (Draws.strAscii (by exact hh) sz x t) (sz + 1) (Nat.succ_ne_self sz) (fun h => Nat.succ_ne_self sz (List.mem_singleton.mp h)) (.head _)).done _ _ _ hst (fun h₁ tk₁ hk₁ => ?_)
    refine seg_leaf (.ok .next) ?_
    rw [hk0]
    have hns₁ : h₁.Ns L m₁ := hns.at' fun o q => hk₁ L o (notin2 hL) q
    have F₁ := frE hns₁
    obtain rfl : esc = false := hfe'
    refine seg_execs_cons (segIf ?_)
    walk1
    walk1
    walk1
    rw [if_neg Bool.false_ne_true]
    refine seg_execs_nil (seg_execs_nil ?_)
    exact seg_end (.ok (.ret .none)) ⟨rfl, hn, hmv.step fun b o h1 h2 q => hk₁ b o (notin2 h2) q⟩
  | cons c r ih =>
    have hc : x.cps[i]? = some c := by
      have h0 : (x.cps.toList.drop i)[0]? = some c := by rw [← hcs]; rfl
      rw [List.getElem?_drop] at h0
      simpa using h0
    have hi : i < x.cps.size := (Array.getElem?_eq_some_iff.mp hc).1
    have hcs' : r = x.cps.toList.drop (i + 1) := by
      rw [← List.tail_drop, ← hcs]; rfl
    refine segLoop ?_
    refine pairTurn (m := m₁) (by exact hh) (WalksT.enumerateD (Draws.strAscii (by exact hh) sz x t) (sz + 1) (Nat.succ_ne_self sz) (fun h => Nat.succ_ne_self sz (List.mem_singleton.mp h)) (.head _)) ?_ ?_ hi hst hns rfl rfl rfl ?_
    · rintro vals ⟨tj, xv, _, rfl⟩; exact ⟨_, _, rfl⟩
    · exact notin2 hL
    rintro v0 v1 h' tk ⟨tj, xv, ⟨c', u, hc', rfl⟩, hv⟩ hst₁ hns₁ hk₁ H'
    cases hv
    obtain rfl : c = c' := by rw [hc] at hc'; exact Option.some.inj hc'
    have F₁ := frE hns₁
    have N₁ := newsE L h'
    have hmv₁ : Mv L sz s₀ { S with heap := h', toks := tk } := hmv.step fun b o h1 h2 q => hk₁ b o h1 (notin2 h2) q
    have hSz₁ : sz ≤ h'.objs.size := by
      obtain ⟨o, ho, _⟩ := hst₁.2
      exact Nat.le_of_lt (Heap.lt_size ho)
    have F₁ : Fr hE L h' _ := F₁
    refine seg_execs_cons (segIf ?_)
    walk1
    walk1
    walk1
    cases esc with
    | true =>
      rw [if_pos rfl]
      obtain ⟨n', rfl⟩ : ∃ n', n = n' + 1 := ⟨(yl false r).length, hn⟩
      refine seg_execs_cons ?_
      refine seg_Expr_Yield rfl rfl rfl ?_
      (repeat' walk1)
      rename News _ _ _ _ => NN
      rename (∀ (x : Value) (s'' : Shared), _ → _) => hkap
      rename Heap => h₆
      have k₆ : ∀ b o, b ≠ L → h'.get? b = some o → h₆.get? b = some o := fun b o hb q => (NN _ (.tail _ (mem_allBut hb q))).1
      refine ⟨_, _, _, _, _, ?_, rfl, NN.get (.head _), hmv₁.step fun b o h1 h2 q => k₆ b o h1 q, hSz₁, fun s'' hk hz => hkap .none s'' ?_⟩
      · rw [Nat.sub_sub, Nat.add_comm 1 n']; exact drop_get hits
      dsimp only at hk ⊢
      have hst₆ := stKeep hst₁ (fun o q => hk _ o (ne1 hlc) (k₆ _ o (ne1 hL) q)) (fun o q => hk _ o (ne0 hlc) (k₆ _ o (ne0 hL) q))
      rename Fr hE L h₆ _ => F₆
      have n₆ := F₆.ns.at' (fun o q => hk L o hLc.symm q)
      refine seg_execs_cons (segStmt ?_)
      refine wpAny_Assign_Name (Constant_bool (wpAny_storeName_local rfl n₆ (fun h₇ hn₇ hs₇ => ?_)))
      dsimp only
      refine seg_execs_nil (seg_execs_nil (seg_again rfl ?_))
      refine ih _ { s'' with heap := h₇, toks := s''.toks + 1 } hn₇ ?_ n' (i + 1) false hcs' ?_ (if_pos rfl) ?_ ?_ ?_ ?_ hi s'' ?_
      · exact Nat.le_trans hz (Nat.le_of_eq hs₇.1.symm)
      · exact stKeep hst₆ (fun o q => hs₇.extBut _ o (ne1 hL) q) (fun o q => hs₇.extBut _ o (ne0 hL) q)
      · exact hfe'
      · exact Nat.succ.inj hn
      · exact drop_next hits hle
      · exact Nat.le_of_succ_le hle
      · exact (Mv.refl L sz s'').step fun b o h1 _ q => hs₇.extBut b o h1 q
    | false =>
      rw [if_neg Bool.false_ne_true]
      refine seg_execs_cons (segIf ?_)
      (repeat' walk1)
      · have hc92 : c = 92 := by
          have := (beq_iff_eq.mp (by assumption : (({ cps := #[c] } : Str) == Str.ofString "\\") = true))
          simpa [Str.ofString_eq_toList] using this
        subst hc92
        refine seg_execs_cons (segStmt ?_)
        refine wpAny_Assign_Name (Constant_bool (wpAny_storeName_local rfl hns₁ (fun h₇ hn₇ hs₇ => ?_)))
        dsimp only
        refine seg_execs_nil (seg_execs_nil (seg_execs_nil (seg_again rfl ?_)))
        refine ih _ { S with heap := h₇, toks := _ } hn₇ ?_ n (i + 1) true hcs' ?_ (if_pos rfl) ?_ ?_ ?_ hle hi s₀ ?_
        · exact Nat.le_trans hSz₁ (Nat.le_of_eq hs₇.1.symm)
        · exact stKeep hst₁ (fun o q => hs₇.extBut _ o (ne1 hL) q) (fun o q => hs₇.extBut _ o (ne0 hL) q)
        · simpa [fe] using hfe'
        · simpa [yl] using hn
        · simpa [yl] using hits
        · exact hmv₁.step fun b o h1 _ q => hs₇.extBut b o h1 q
      · have hc92 : c ≠ 92 := by
          have := (beq_eq_false_iff_ne.mp (by assumption : (({ cps := #[c] } : Str) == Str.ofString "\\") = false))
          intro h; subst h; exact this (by decide)
        have hn' : n = (yl false r).length + 1 := by rw [hn]; simp [yl, hc92]
        have hits' : its.drop (its.length - n) = (⟨#[c]⟩ : Str) :: yl false r := by rw [hits]; simp [yl, hc92]
        have hfe₂ : fe false r = false := by simpa [fe, hc92] using hfe'
        obtain ⟨n', rfl⟩ : ∃ n', n = n' + 1 := ⟨(yl false r).length, hn'⟩
        refine seg_execs_cons ?_
        refine seg_Expr_Yield rfl rfl rfl ?_
        (repeat' walk1)
        rename News _ _ _ _ => NN
        rename (∀ (x : Value) (s'' : Shared), _ → _) => hkap
        rename Heap => h₆
        have k₆ : ∀ b o, b ≠ L → h'.get? b = some o → h₆.get? b = some o := fun b o hb q => (NN _ (.tail _ (mem_allBut hb q))).1
        refine ⟨_, _, _, _, _, ?_, rfl, NN.get (.head _), hmv₁.step fun b o h1 h2 q => k₆ b o h1 q, hSz₁, fun s'' hk hz => hkap .none s'' ?_⟩
        · rw [Nat.sub_sub, Nat.add_comm 1 n']; exact drop_get hits'
        dsimp only at hk ⊢
        have hst₆ := stKeep hst₁ (fun o q => hk _ o (ne1 hlc) (k₆ _ o (ne1 hL) q)) (fun o q => hk _ o (ne0 hlc) (k₆ _ o (ne0 hL) q))
        rename Fr hE L h₆ _ => F₆
        have n₆ := F₆.ns.at' (fun o q => hk L o hLc.symm q)
        refine seg_execs_nil (seg_execs_nil (seg_execs_nil (seg_again rfl ?_)))
        exact ih _ s'' n₆ hz n' (i + 1) false hcs' hst₆ hesc hfe₂ (Nat.succ.inj hn') (drop_next hits' hle) (Nat.le_of_succ_le hle) hi s'' (Mv.refl L sz s'')
end Mine
namespace Mine
/-- the call of the generator's def: its frame, then the generator's object -/
theorem callGen {prog : Program} {w : World} {A : Around} {s : Shared} {mg mb : Str → Option Value} {R : Result → Shared → Prop} {name : Str} {params : Arguments} {body : List Stmt} {scope : Scope} {pm cd doc : Value} {x : Str} {t : Tok}
    (hK : (hd.heap_39 w.params).lookup 45 = some { cls := .type "function", data := .func (docDef name params body scope pm cd doc) })
    (G : Gd w mg mb s.heap) (hA : A.depth < recursionLimit)
    (h : ∀ h₁ tk nm qn, Fr s.heap s.heap.objs.size h₁ (fun y => [((Str.ofString "addr" : Str), Value.str x t)].reverse.lookup y) → h₁.objs.size = s.heap.objs.size + 1 →
      R (.ok (.ret (.ref (s.heap.objs.size + 1)))) { s with gens := s.gens.push (.fresh (.func body (envOf name scope s.heap.objs.size 45 cd))), toks := tk, heap := h₁.push { cls := .type "generator", data := .fields #[.int s.gens.size 0, nm, qn] } }) :
    codeAny (model prog w) A (.call (.ref 45) ⟨[.str x t], []⟩) R s := by
  have e : (hd.heap_39 w.params).lookup 45 = some { cls := .type "function", data := .func (docDef _ _ _ _ _ _ _) } := rfl
  rw [e] at hK
  simp only [Option.some.injEq, Obj.mk.injEq, Data.func.injEq, docDef, FuncData.mk.injEq, FuncBody.stmts.injEq, true_and, and_true] at hK
  obtain ⟨rfl, _, rfl, rfl, rfl, rfl, rfl, rfl⟩ := hK
  refine codeAny_call_generator hA (G.X _ _ e) rfl rfl rfl rfl (codeRec_of G.X (by kernel_rfl)) ?_
  refine wpAny_of_eq (a := [((Str.ofString "addr" : Str), Value.str x t)]) rfl ?_
  refine wpAny_newFunctionEnv (by decide) (locs rfl) (fun h₁ hns hsb => ⟨G.nolimit.fresh _ hsb, ?_⟩) rfl
  have hz : h₁.objs.size = s.heap.objs.size + 1 := by rw [hsb.1, Heap.size_push]
  have := h h₁ (s.toks + 1 + 1 + 1) (.str (Str.ofString "_iter_escaped_chars") (s.toks + 1)) (.str (Str.ofString "_iter_escaped_chars") (s.toks + 1 + 1)) ⟨hns, fun b o e => hsb.extBut b o (Nat.ne_of_lt (Heap.lt_size e)) (Heap.get?_push_of_some _ e), Nat.le_refl _⟩ hz
  rw [← hz] at this
  exact this
end Mine
namespace Mine
local macro_rules | `(tactic| walk_at "eval Name") => `(tactic| (refine' ld (by assumption) ?hv ?_; (case hv => ((try dsimp only); (repeat rw [if_neg (by decide)]); first | exact if_pos rfl | assumption))))
local macro_rules | `(tactic| walk_at "eval Name") => `(tactic| (refine' ldG (by assumption) (by assumption) (by first | exact gn_comment_line _ | exact gn_iter_escaped_chars _ | exact gn_strip_quoted_realnames _ | exact gn_check_parenthesis _ | exact gn_twin_re_1 _ | exact gn_twin_re_2 _ | exact gn_quotedata _ | exact gn_law_units _ | exact gn_law_pair _ | exact gn_law_corners _ | exact gn_law_line _ | exact gn_law_told _ | exact gn_law_mail _ | exact gn_CRLF _) ?_))
local macro_rules | `(tactic| walk_at "callWith ref") => `(tactic| (refine' callWithG (by assumption) (by kernel_rfl) ?_))
local macro_rules | `(tactic| walk_at "And") => `(tactic| ((with_reducible show Kpt _ _ ∧ _); refine ⟨Kpt.of (by assumption), ?_⟩))
local macro_rules | `(tactic| walk_at "loadName") => `(tactic| (refine' ldn (by assumption) ?hv ?_; (case hv => ((try dsimp only); (repeat rw [if_neg (by decide)]); first | exact if_pos rfl | assumption))))

def chkF (o : Option Int) (u : Str) : Option Int := o.bind fun a => if u = Str.ofString "(" then some (a + 1) else if u = Str.ofString ")" then (if a - 1 < 0 then none else some (a - 1)) else some a
def chk (x : Str) : Bool := match (yl false x.cps.toList).foldl chkF (some 0) with | some a => decide (a = 0) | none => false
theorem chkF_none (us : List Str) : us.foldl chkF none = none := by
  induction us with
  | nil => rfl
  | cons u r ih => exact ih
def EndB (s : Shared) (b : Bool) (r : Result) (s' : Shared) : Prop := r = .ok (.ret (.bool b)) ∧ Kp s s'

def allN (h₀ : Heap) (L : Addr) (h : Heap) : List (Addr × Obj) := ownOf h₀ ((List.range h.objs.size).filter (fun b => decide (b ≠ L))) h
theorem newsN (h₀ : Heap) (L : Addr) (h : Heap) : News h₀ L h (allN h₀ L h) := news_ownOf (by simp)
theorem keepN {h₀ h h' : Heap} {L : Addr} {m m' : Str → Option Value} (F : Fr h₀ L h m) (F' : Fr h₀ L h' m') {l : List (Addr × Obj)} (N : News h₀ L h' l) (hs : ∀ p ∈ allN h₀ L h, p ∈ l) (b : Addr) (o : Obj) (hb : b ≠ L) (ho : h.get? b = some o) : h'.get? b = some o := by
  cases e : h₀.get? b with
  | some o₀ =>
    have := F.keep b o₀ e
    rw [ho] at this
    cases this
    exact F'.keep b _ e
  | none => exact (N _ (hs _ (mem_ownOf (by simp [hb, Heap.lt_size ho]) e ho))).1
theorem letGo_gen {prog : Program} {w : World} {A : Around} {E : Value → Shared → Prop} {s : Shared} {target : Expr} {a : Addr} {g : Nat} {v : Value} {Q : Unit → Shared → Prop} (hg : s.heap.IsGen a g) (h : Q () s) :
    wpAny (model prog w) A (letOwnedTupleGo target (.ref a) v) Q E s := by
  obtain ⟨o, nm, qn, ho, hc, hd, hsl⟩ := hg
  have key : ∀ b : Addr, wpAny (model prog w) A (do
      let o ← load a
      match o.cls, o.data with
      | .type n, .fields vs =>
        if ["enumerate", "zip", "dict_itemiterator", "dict_reverseitemiterator", "odict_iterator", "itertools.zip_longest", "itertools.pairwise"].contains n && vs[0]? == some (rawInt b) then
          rule "for.unpacks-the-owned-tuple"
          updateField a 0 .none
      | _, _ => pure ()) Q E s := fun b => by
    refine wpAny_bind (wpAny_load ho ?_)
    rw [hc, hd]
    exact wpAny_pure h
  unfold letOwnedTupleGo
  split
  · cases v <;> first | exact wpAny_pure h | exact key _
  · cases v <;> first | exact wpAny_pure h | exact key _
  · exact wpAny_pure h
theorem AllBare.set {gs : Array GenState} (h : AllBare gs) {g : Nat} {x : GenState} (hx : x.bare = true) : AllBare (gs.setIfInBounds g x) := fun y hy => by
  obtain ⟨i, hi, rfl⟩ := Array.mem_iff_getElem.mp hy
  rw [Array.getElem_setIfInBounds (by simpa using hi)]
  split
  · exact hx
  · exact h _ (Array.getElem_mem _)

def GTurn (h₀ : Heap) (L : Addr) (news : List (Addr × Obj)) (Jn : (Str → Option Value) → Prop) (s₁ : Shared) (Qr : Value → Shared → Prop) (f : Flow) (s₂ : Shared) : Prop :=
  match f with
  | .ret v => Qr v s₂
  | .brk => False
  | _ => ∃ m₂, s₂.gens = s₁.gens ∧ s₂.os = s₁.os ∧ Fr h₀ L s₂.heap m₂ ∧ News h₀ L s₂.heap news ∧ Jn m₂
theorem lt2 {a b : Nat} (h : a < b) : a < b + 2 := by omega
theorem ne_lt {a b c : Nat} (h : c < b) (h2 : b + 2 ≤ a) : a ≠ c := by omega
/-- a for over the generator that a call of _iter_escaped_chars has just made -/
theorem forGen {prog : Program} {w : World} {AC : Around} {mg mb : Str → Option Value} {h₀ hc : Heap} {name : Str} {scope : Scope} {L af : Addr} {cd : Value} {xi xc : Str} {pk pv pt : Pos} {x1 : Nat} {body : List Stmt} {R : Result → Shared → Prop} {S : Shared} {m₀ m₉ : Str → Option Value}
    {x : Str} {t : Tok} {Lg g : Nat} {namg : Str} {scg : Scope} {cdg pmg docg : Value} {bodyg : List Stmt} {paramsg : Arguments}
    (hK : (hd.heap_39 w.params).lookup 45 = some { cls := .type "function", data := .func (docDef namg paramsg bodyg scg pmg cdg docg) })
    (G : Gd w mg mb hc) (hh : AC.handled = none) (hroom : AC.depth < recursionLimit) (hnl : h₀.NoLimit) (F : Fr h₀ L S.heap m₀) (FG : Fr hc Lg S.heap m₉) (hm9 : m₉ (Str.ofString "addr") = some (.str x t)) (hLL : L < Lg)
    (hsz : S.heap.objs.size = Lg + 2) (hgen : S.heap.IsGen (Lg + 1) g) (hgs : S.gens[g]? = some (.fresh (.func bodyg (envOf namg scg Lg 45 cdg)))) (hasc : x.cps.all (· < 128) = true) (hfe : fe false x.cps.toList = false)
    (hxi : (envOf name scope L af cd).kindOf xi = some .local) (hxc : (envOf name scope L af cd).kindOf xc = some .local) (hk : scope.kind = .function)
    (J : Nat → (Str → Option Value) → Prop) (h0 : J 0 m₀)
    (step : ∀ i u m s₁ v0 tu news, (yl false x.cps.toList)[i]? = some u → J i m → Ob S s₁ → Fr h₀ L s₁.heap (fun y => if y = xc then some (.str u tu) else if y = xi then some v0 else m y) → News h₀ L s₁.heap news →
      wpAny (model prog w) AC (execs body (envOf name scope L af cd)) (GTurn h₀ L news (J (i + 1)) s₁ (fun v s' => R (.ok (.ret v)) s')) (fun _ _ => False) s₁)
    (done : ∀ s' m', Ob S s' → Fr h₀ L s'.heap m' → J (yl false x.cps.toList).length m' → R (.ok .next) s') :
    codeAny (model prog w) AC (.forLoop (.Tuple [.Name xi pk, .Name xc pv] x1 pt) (.ref (Lg + 1)) body [] (envOf name scope L af cd)) R S := by
  have hgo := genFresh (prog := prog) (A := AC.in1) (s := S.setGen g .running) (Lc := L) (sz := Lg + 2) hK G hh FG hm9 hsz.symm (Nat.ne_of_lt hLL) (lt2 hLL) hasc hfe
  generalize yl false x.cps.toList = its at hgo step done
  have hp : ((envOf name scope L af cd).scope.kind == .class || ((envOf name scope L af cd).scope.kind == .module && (envOf name scope L af cd).locals != (envOf name scope L af cd).globals)) = false := by
    show (scope.kind == .class || (scope.kind == .module && L != mainGlobals)) = false; rw [hk]; rfl
  -- the frame and the old objects after a run of the generator
  have fr : ∀ {s' s₁ : Shared} {m : Str → Option Value}, Fr h₀ L s'.heap m → Mv Lg (Lg + 2) s' s₁ → Fr h₀ L s₁.heap m := fun {s' s₁ m} F' mv =>
    ⟨F'.ns.at' fun o q => mv.1 L o (Nat.ne_of_lt hLL) (lt2 hLL) q, fun b o q => by
      have hb : b < L := Nat.lt_of_lt_of_le (Heap.lt_size q) F'.above
      exact mv.1 b o (Nat.ne_of_lt (Nat.lt_trans hb hLL)) (lt2 (Nat.lt_trans hb hLL)) (F'.keep b o q), F'.above⟩
  refine codeAny_forLoop_any (fun k S' => ∃ n gs m, k = n + 1 ∧ n ≤ its.length ∧ Ob S S' ∧ Fr h₀ L S'.heap m ∧ J (its.length - n) m ∧ S'.heap.IsGen (Lg + 1) g ∧ S'.gens[g]? = some gs ∧
      gs.Goes (model prog w) AC.in1 (fun n s₀ r s₁ => r = .ok (.ret .none) ∧ GP Lg (Lg + 2) n s₀ s₁) (GY Lg L (Lg + 2) its) n (.send .none) (S'.setGen g .running)) ?_ (its.length + 1)
    ⟨_, _, _, rfl, Nat.le_refl _, Ob.refl S, F, by rw [Nat.sub_self]; exact h0, hgen, hgs, rfl, hgo⟩
  rintro k S' ⟨n, gs, m, rfl, hle, ob, F', hJ, hg', hgs', hgo'⟩
  refine nextGen (P := GP Lg (Lg + 2)) hh (hnl.keeps F'.keep) hroom hg' hgs' hgo' ?_ ?_
  · intro v s₁ gs' hb hy
    obtain ⟨T, u, tk, j, tj, hu, rfl, hT, hmv, hTz, hnext⟩ := hy
    cases n with
    | zero => exact (hnext s₁ (fun _ _ _ q => q) (by have := Heap.lt_size hT; exact Nat.le_of_lt (Nat.lt_of_le_of_lt hTz this))).elim
    | succ n =>
      have F₁ : Fr h₀ L s₁.heap m := fr (s' := S'.setGen g .running) F' hmv
      have hg₁ : (s₁.setGen g gs').heap.IsGen (Lg + 1) g := by
        obtain ⟨o, nm, qn, ho, r⟩ := hg'
        exact ⟨o, nm, qn, hmv.1 (Lg + 1) o (Nat.succ_ne_self Lg) (Nat.lt_succ_self _) ho, r⟩
      refine letGo_gen hg₁ ?_
      refine wpAny_assign_Tuple hh (⟨_, hT, rfl, _, rfl⟩ : (s₁.setGen g gs').heap.IsTuple T #[.int j tj, .str u tk]) rfl rfl fun h₅ hx₅ => ?_
      have up₅ : ∀ b o, s₁.heap.get? b = some o → h₅.get? b = some o := fun b o q => hx₅ b o (Nat.ne_of_lt (Heap.lt_size q)) q
      have F₅ : Fr h₀ L h₅ m := ⟨F₁.ns.keeps up₅, fun b o q => up₅ b o (F₁.keep b o q), F₁.above⟩
      show wpAny _ AC (do holding [.str u tk] (assign (.Name xi pk) (envOf name scope L af cd) (.int j tj)); do holding [] (assign (.Name xc pv) (envOf name scope L af cd) (.str u tk)); pure ()) _ _ _
      refine wpAny_bind (wpAny_holding (wpAny_assign_Name (wpAny_storeName_local hxi F₅.ns (fun h₆ hn₆ hs₆ => ?_) hp)))
      have F₆ := F₅.set hn₆ hs₆
      refine wpAny_bind (wpAny_holding (wpAny_assign_Name (wpAny_storeName_local hxc F₆.ns (fun h₇ hn₇ hs₇ => wpAny_pure ?_) hp)))
      have F₇ := F₆.set hn₇ hs₇
      have k₇ : ∀ b o, b ≠ L → s₁.heap.get? b = some o → h₇.get? b = some o := fun b o hb q => hs₇.extBut b o hb (hs₆.extBut b o hb (up₅ b o q))
      have eidx : its.length - 1 - n = its.length - (n + 1) := by omega
      have hgsz : g < S'.gens.size := (Array.getElem?_eq_some_iff.mp hgs').1
      have gens₁ : s₁.gens = S'.gens.setIfInBounds g .running := hmv.2.1
      have ob₁ : ∀ (h : Heap) (tk : Nat), Ob S { s₁.setGen g gs' with heap := h, toks := tk } := fun _ _ => Ob.trans ob ⟨hmv.2.2, fun hall => by
        show AllBare (s₁.gens.setIfInBounds g gs')
        rw [gens₁]; exact AllBare.set (AllBare.set hall rfl) hb⟩
      refine wpAny_mono (step (its.length - (n + 1)) u m _ (.int j tj) tk _ (by rw [← eidx]; exact hu) hJ (ob₁ _ _) F₇ (newsN h₀ L h₇)) (fun f s₃ h₃ => ?_) fun _ _ q => q.elim
      have fin : (∃ m₂, s₃.gens = (s₁.setGen g gs').gens ∧ s₃.os = (s₁.setGen g gs').os ∧ Fr h₀ L s₃.heap m₂ ∧ News h₀ L s₃.heap (allN h₀ L h₇) ∧ J (its.length - (n + 1) + 1) m₂) →
          ∃ k', k' < n + 1 + 1 ∧ ∃ n gs m, k' = n + 1 ∧ n ≤ its.length ∧ Ob S s₃ ∧ Fr h₀ L s₃.heap m ∧ J (its.length - n) m ∧ s₃.heap.IsGen (Lg + 1) g ∧ s₃.gens[g]? = some gs ∧
            gs.Goes (model prog w) AC.in1 (fun n s₀ r s₁ => r = .ok (.ret .none) ∧ GP Lg (Lg + 2) n s₀ s₁) (GY Lg L (Lg + 2) its) n (.send .none) (s₃.setGen g .running) := by
        rintro ⟨m₂, e1, e2, F₈, N₈, hJ₈⟩
        have k₈ : ∀ b o, b ≠ L → s₁.heap.get? b = some o → s₃.heap.get? b = some o := fun b o hb q => keepN F₇ F₈ N₈ (fun _ h => h) b o hb (k₇ b o hb q)
        refine ⟨n + 1, by omega, n, gs', m₂, rfl, by omega, ?_, F₈, ?_, ?_, ?_, ?_⟩
        · exact Ob.trans (ob₁ s₁.heap s₁.toks) ⟨e2, fun hall => by rw [e1]; exact hall⟩
        · rw [show its.length - n = its.length - (n + 1) + 1 by omega]; exact hJ₈
        · obtain ⟨o, nm, qn, ho, r⟩ := hg₁
          exact ⟨o, nm, qn, k₈ (Lg + 1) o (Nat.ne_of_gt (Nat.lt_succ_of_lt hLL)) ho, r⟩
        · rw [e1]
          show (s₁.gens.setIfInBounds g gs')[g]? = some gs'
          rw [Array.getElem?_setIfInBounds_self_of_lt (by rw [gens₁, Array.size_setIfInBounds]; exact hgsz)]
        · exact hnext _ k₈ (Nat.le_trans hTz (Nat.le_of_lt (Heap.lt_size (k₈ T _ (ne_lt hLL hTz) hT))))
      cases f with
      | next => exact fin h₃
      | cont => exact fin h₃
      | brk => exact h₃.elim
      | ret v => exact h₃
  · intro s₁ hP h' hk'
    obtain ⟨rfl, hmv⟩ := hP
    have F₁ : Fr h₀ L s₁.heap m := fr (s' := S'.setGen g .running) F' hmv
    refine wpAny_execs_nil (done _ m (Ob.trans ob ⟨hmv.2.2, fun hall => ?_⟩) ⟨F₁.ns.keeps hk', fun b o q => hk' b o (F₁.keep b o q), F₁.above⟩ hJ)
    show AllBare (s₁.gens.setIfInBounds g .finished)
    rw [show s₁.gens = S'.gens.setIfInBounds g .running from hmv.2.1]
    exact AllBare.set (AllBare.set hall rfl) rfl

theorem check {prog : Program} {w : World} {A : Around} {s : Shared} {mg mb : Str → Option Value} (G : Gd w mg mb s.heap) (hA : A.depth + 5 < recursionLimit) (hh : A.handled = none)
   (x : Str) (t0 : Tok) (hx : x.length ≤ 1000) (hq : x.cps.contains 34 = false) (hasc : x.cps.all (· < 128) = true) (hfe : fe false x.cps.toList = false) :
   codeAny (model prog w) A (.call (.ref 59) ⟨[.str x t0], []⟩) (EndB s (chk x)) s := by
  w_top off
  refine enterF (binds := [("addr", .str x t0)]) G rfl (by kernel_rfl) (by omega) rfl (locs rfl) rfl rfl rfl (by decide) ?_
  intro L h₁ F
  have N : News s.heap L h₁ [] := News.nil
  repeat walk1
  refine' callS ?C ?F ?N ?_
  case F => exact F
  case N => exact N
  case C => exact strip (by exact Gd.fr G F) (by show A.depth + 1 < _; omega) x _ (by omega) hq
  intro t₂ s₂ ob₂ F₂ N₂
  repeat walk1
  rename News _ _ _ _ => N₃
  rename Fr s.heap L _ _ => F₃
  rename Heap => h₃
  refine wpAny_For ?_
  repeat walk1
  refine wpAny_call (callGen rfl (by exact Gd.fr G F₃) (by show A.depth + 1 < _; omega) ?_)
  intro h₄ tk nm qn F₄ z₄
  dsimp only at F₄ z₄ ⊢
  have hgen : (h₄.push { cls := .type "generator", data := .fields #[.int s₂.gens.size 0, nm, qn] }).IsGen (h₃.objs.size + 1) s₂.gens.size := by
    rw [← z₄]; exact ⟨_, _, _, Heap.get?_push_size _ rfl, rfl, rfl, rfl⟩
  refine wpAny_pyIter_gen hgen ?_
  have hL₃ : L < h₃.objs.size := F₃.ns.lt
  have obA : ∀ (c : Code) (h : Heap) (tk : Nat), Ob s { s₂ with gens := s₂.gens.push (.fresh c), heap := h, toks := tk } := fun _ _ _ => Ob.trans (Ob.trans ⟨rfl, id⟩ ob₂) ⟨rfl, fun hb => AllBare.push hb rfl⟩
  refine forGen (x := x) (g := s₂.gens.size) rfl (Gd.fr G F₃) hh (by show A.depth + 1 < _; omega) G.nolimit (Fr.push (Fr.kp F₃ F₄.keep) _) (Fr.push F₄ _) rfl hL₃ ?_ hgen ?_ hasc hfe rfl rfl rfl (fun i m => ∃ v, IntAt m (Str.ofString "opens") v ∧ ((yl false x.cps.toList).take i).foldl chkF (some 0) = some v) ⟨0, ⟨_, rfl⟩, rfl⟩ ?_ ?_
  · show (Heap.push _ _).objs.size = _; rw [Heap.size_push, z₄]
  · simp
  · rintro i u m s₅ v0 tu news hu ⟨v, ⟨tv, hv⟩, hf⟩ ob₅ F₅ N₅
    have hs := foldl_take (f := chkF) (z := some 0) hu
    rw [hf] at hs
    have hne : ¬ Str.ofString ")" = Str.ofString "(" := by decide
    clear F F₂ F₃ N N₂ N₃ F₄ hgen
    (repeat' walk1)
    all_goals (simp only [beq_iff_eq, beq_eq_false_iff_ne, ne_eq] at *)
    · exact ⟨_, rfl, rfl, by assumption, by assumption, v + 1, IntAt.here rfl, by rw [hs]; simp [chkF, *]⟩
    · refine ⟨?_, Kp.fr (by assumption) (Ob.trans (obA _ _ _) ob₅)⟩
      have hnone : chkF (some v) u = none := by simp [chkF, *]
      have hall : (yl false x.cps.toList).foldl chkF (some 0) = none := by
        rw [← List.take_append_drop (i + 1) (yl false x.cps.toList), List.foldl_append, hs, hnone, chkF_none]
      unfold chk; rw [hall]
    · exact ⟨_, rfl, rfl, by assumption, by assumption, v - 1, IntAt.here rfl, by rw [hs]; simp [chkF, *]⟩
    · exact ⟨_, rfl, rfl, by assumption, by assumption, v, IntAt.up (IntAt.up (IntAt.mk' hv) (by decide)) (by decide), by rw [hs]; simp [chkF, *]⟩
  · rintro s' m' ob' F' ⟨v, ⟨tv, hv⟩, hf⟩
    rw [List.take_length] at hf
    (repeat' walk1)
    refine ⟨?_, Kp.fr (by assumption) (Ob.trans (obA _ _ _) ob')⟩
    unfold chk; rw [hf]
    rfl
end Mine
namespace Mine
open PySem.Builtin PySem.Builtin.Re
section
variable {M : Model} {A : Around} {E : Value → Shared → Prop} {s : Shared}
theorem runFor_add (a b : Nat) (m : Sre.M) : Sre.M.runFor b (Sre.M.runFor a m) = Sre.M.runFor (a + b) m := by
  induction a generalizing m with
  | zero => simp [Sre.M.runFor]
  | succ a ih =>
    rw [Nat.succ_add]
    simp only [Sre.M.runFor]
    split
    · rename_i h
      cases b with
      | zero => rfl
      | succ b => simp [Sre.M.runFor, h]
    · exact ih _
theorem runFor_done {m : Sre.M} (h : m.outcome.isSome = true) (n : Nat) : Sre.M.runFor n m = m := by
  cases n with
  | zero => rfl
  | succ n => simp [Sre.M.runFor, h]
theorem reDrive_of {Q : Sre.M → Shared → Prop} : ∀ (turns n : Nat) (m : Sre.M), n ≤ 4 * turns → 0 < turns → (Sre.M.runFor n m).outcome.isSome = true → Q (Sre.M.runFor n m) s → wpAny M A (reDrive turns m) Q E s
  | 0, n, m, _, h0, _, _ => absurd h0 (Nat.lt_irrefl _)
  | turns + 1, n, m, hn, _, ho, hq => by
    show wpAny M A (if (Sre.M.runFor 4 m).outcome.isSome = true then pure (Sre.M.runFor 4 m) else do rule "sre.turn"; reDrive turns (Sre.M.runFor 4 m)) Q E s
    by_cases h4 : (Sre.M.runFor 4 m).outcome.isSome = true
    · rw [if_pos h4]
      have e : Sre.M.runFor n m = Sre.M.runFor 4 m := by
        by_cases hle : n ≤ 4
        · have := runFor_add n (4 - n) m
          rw [show n + (4 - n) = 4 by omega, runFor_done ho] at this
          exact this
        · have := runFor_add 4 (n - 4) m
          rw [show 4 + (n - 4) = n by omega, runFor_done h4] at this
          exact this.symm
      rw [e] at hq
      exact wpAny_pure hq
    · rw [if_neg h4]
      have hlt : 4 < n := by
        rcases Nat.lt_or_ge 4 n with h | h
        · exact h
        · exfalso
          have := runFor_add n (4 - n) m
          rw [show n + (4 - n) = 4 by omega, runFor_done ho] at this
          rw [← this] at h4
          exact h4 ho
      have e := runFor_add 4 (n - 4) m
      rw [show 4 + (n - 4) = n by omega] at e
      refine wpAny_bind (wpAny_rule ?_)
      exact reDrive_of turns (n - 4) _ (by omega) (by omega) (by rw [e]; exact ho) (by rw [e]; exact hq)
theorem forRules {α : Type} (l : List α) (f : α → PUnit → Sem (ForInStep PUnit)) (hf : ∀ (i : α) (Q : ForInStep PUnit → Shared → Prop), Q (.yield ⟨⟩) s → wpAny M A (f i ⟨⟩) Q E s) {Q : PUnit → Shared → Prop} (h : Q ⟨⟩ s) :
    wpAny M A (forIn l PUnit.unit f) Q E s := by
  induction l with
  | nil => exact wpAny_pure h
  | cons a l ih =>
    rw [List.forIn_cons]
    exact wpAny_bind (hf a _ ih)
theorem runToEnd {m : Sre.M} {n : Nat} {Q : Option Sre.M → Shared → Prop} (hn : n ≤ 1000) (r : Option Sre.M)
    (ho : (match (Sre.M.runFor n m).outcome with | some .matched => some (some (Sre.M.runFor n m)) | some .failed => some none | _ => none) = some r) (hq : Q r s) : wpAny M A (reRunToEnd m) Q E s := by
  unfold reRunToEnd
  have hs : (Sre.M.runFor n m).outcome.isSome = true := by
    cases h : (Sre.M.runFor n m).outcome with
    | none => rw [h] at ho; cases ho
    | some _ => rfl
  refine wpAny_bind (reDrive_of (2 ^ 64) n m (by omega) (by omega) hs ?_)
  refine wpAny_bind (forRules _ _ (fun i Q hQ => ?_) ?_)
  · (try dsimp only)
    split
    · exact wpAny_bind (wpAny_rule (wpAny_pure hQ))
    · exact wpAny_pure hQ
  cases h : (Sre.M.runFor n m).outcome with
  | none => rw [h] at hs; cases hs
  | some o =>
    rw [h] at ho
    cases o with
    | matched => cases ho; exact wpAny_pure hq
    | failed => cases ho; exact wpAny_pure hq
    | stuck _ => cases ho

def IsPat (h : Heap) (pa ca : Addr) (cv : Array Value) : Prop :=
  (∃ ps fl, h.get? pa = some { cls := .type "re.Pattern", data := .fields #[ps, fl, .int 0 0, .none, .none, .ref ca, .int 0 0] }) ∧ h.get? ca = some { cls := .type "tuple", data := .seq cv }
def codeOf (cv : Array Value) : Array Nat := (cv.map reRawOf).map (·.toNat)
theorem IsPat.keep {h h' : Heap} {pa ca : Addr} {cv : Array Value} (x : IsPat h pa ca cv) {l : Addr} (h1 : pa ≠ l) (h2 : ca ≠ l) (k : ∀ b o, b ≠ l → h.get? b = some o → h'.get? b = some o) : IsPat h' pa ca cv :=
  ⟨let ⟨ps, fl, q⟩ := x.1; ⟨ps, fl, k _ _ h1 q⟩, k _ _ h2 x.2⟩

theorem wholeTarget {pa ca : Addr} {cv : Array Value} {x : Str} {t : Tok} {Q : ReTarget → Shared → Prop} (hp : IsPat s.heap pa ca cv)
    (h : Q { pattern := .ref pa, string := .str x t, code := codeOf cv, text := x.cps, kind := 0, groups := 0, pos := 0, lim := x.cps.size } s) : wpAny M A (reWholeTarget (.ref pa) (.str x t)) Q E s := by
  obtain ⟨⟨ps, fl, q⟩, q2⟩ := hp
  unfold reWholeTarget
  refine wpAny_bind (wpAny_fieldsOf q rfl ?_)
  refine wpAny_bind (wpAny_pure (a := (x.cps, 0)) ?_)
  show wpAny M A (reRawItems (.ref ca) >>= fun c => pure _) Q E s
  unfold reRawItems
  refine wpAny_bind (wpAny_bind (wpAny_seqItems q2 rfl (wpAny_pure ?_)))
  exact wpAny_pure h

def res (m : Sre.M) : Option (Option (Nat × Nat)) := match m.outcome with | some .matched => some (some (m.start, m.handed)) | some .failed => some none | _ => none
def findsB (code t : Array Nat) : Nat → Bool → List (Nat × Nat) → Bool
  | p, must, [] => res (Sre.M.runFor 900 (Sre.forSearch code t 0 p t.size must)) == some none
  | p, must, (b, e) :: ms => (res (Sre.M.runFor 900 (Sre.forSearch code t 0 p t.size must)) == some (some (b, e))) && findsB code t e (e == b) ms
theorem nextFound {T : ReTarget} {p : Nat} {must : Bool} {Q : Option Sre.M → Shared → Prop} {r : Option (Nat × Nat)} (hg : T.groups = 0) (hl : T.lim = T.text.size)
    (hr : (res (Sre.M.runFor 900 (Sre.forSearch T.code T.text 0 p T.text.size must)) == some r) = true)
    (h : ∀ o : Option Sre.M, o.map (fun m => (m.start, m.handed)) = r → Q o s) : wpAny M A (reNextFound T p must) Q E s := by
  unfold reNextFound
  rw [hg, hl]
  have hr := eq_of_beq hr
  unfold res at hr
  refine runToEnd (n := 900) (by omega) (match (Sre.M.runFor 900 (Sre.forSearch T.code T.text 0 p T.text.size must)).outcome with | some .matched => some (Sre.M.runFor 900 (Sre.forSearch T.code T.text 0 p T.text.size must)) | _ => none) ?_ (h _ ?_)
  · split at hr <;> first | rfl | (cases hr)
    all_goals simp_all
  · split at hr <;> simp_all
end
end Mine
namespace Mine
open PySem.Builtin PySem.Builtin.Re
def subRes (t rp : Array Nat) : Nat → List (Nat × Nat) → List Nat
  | d, [] => (t.extract d t.size).toList
  | d, (b, e) :: ms => (t.extract d b).toList ++ rp.toList ++ subRes t rp e ms
def flat (ps : List (Str × Tok)) : List Nat := ps.flatMap fun p => p.1.cps.toList

theorem entry_loop : entryFor table "re.Pattern.sub.loop" = some Builtin.«re.Pattern.sub.loop» := entryFor_of_fast (by kernel_rfl)
theorem quiet_loop : plainId "re.Pattern.sub.loop" = true := by decide +kernel
theorem entry_sub : entryFor table "re.Pattern.sub" = some Builtin.«re.Pattern.sub» := entryFor_of_fast (by kernel_rfl)

theorem sum_le : ∀ (l : List Str) (a : Nat), (∀ y ∈ l, y.length ≤ 10000) → l.foldl (fun a y => a + y.length + (⟨#[]⟩ : Str).length) a ≤ a + 10000 * l.length
  | [], a, _ => by simp
  | y :: l, a, h => by
    have h1 := h y (.head _)
    have h2 := sum_le l (a + y.length + (⟨#[]⟩ : Str).length) fun z hz => h z (.tail _ hz)
    have h3 : (⟨#[]⟩ : Str).length = 0 := rfl
    rw [List.foldl_cons, List.length_cons]
    omega
theorem joinOk_of {x : Str} {l : List Str} (hn : l.length ≤ 100) (h : ∀ y ∈ l, y.length ≤ 10000) : JoinOk ⟨x.cps.extract 0 0⟩ l = true := by
  have e : (⟨x.cps.extract 0 0⟩ : Str) = ⟨#[]⟩ := by simp
  rw [e]
  unfold JoinOk
  rw [List.foldl_toArray' _ _ _ rfl, Bool.not_eq_true']
  have := sum_le l 0 h
  unfold Builtin.Str.tooLong
  exact decide_eq_false (by have : sizeLine = 2 ^ 24 := rfl; omega)
theorem join_flat : ∀ ps : List (Str × Tok), Txt.join ⟨#[]⟩ (ps.map (·.1)) = ⟨(flat ps).toArray⟩
  | [] => rfl
  | [p] => by
    show p.1 = _
    simp [flat]
  | p :: q :: r => by
    have := join_flat (q :: r)
    rw [Txt.join, StrLaws.glued_eq_join] at this ⊢
    show p.1 ++ ⟨#[]⟩ ++ Str.join ⟨#[]⟩ ((q :: r).map (·.1)) = _
    rw [this]
    apply Str.ext'
    simp [flat, Str.cps_append]
section
variable {prog : Program} {w : World} {A : Around} {E : Value → Shared → Prop} {s : Shared}
theorem pushPiece {l : Addr} {ps : List (Str × Tok)} {y : Str} {t : Tok} {Q : Unit → Shared → Prop} (hl : s.heap.PlainList l (strValues ps).toArray) (hz : ps.length ≤ 1000)
    (h : ∀ h', h'.PlainList l (strValues (ps ++ [(y, t)])).toArray → Heap.SameBut l s.heap h' → Q () { s with heap := h' }) :
    wpAny (model prog w) A (updateSeq l (·.push (.str y t))) Q E s := by
  obtain ⟨n, ho⟩ := hl
  refine wpAny_updateSeq ho rfl (h _ ⟨n + 1, ?_⟩ (Heap.SameBut.update ..)) ?_ ?_
  · rw [Heap.get?_update_self _ ho rfl]
    simp [Obj.mapSeq, strValues]
  · simp [strValues]; show _ ≤ 2 ^ 24; omega
  · simp [strValues]; show _ ≤ 2 ^ 24; omega

theorem subLoop {R : Result → Shared → Prop} {pa ca l : Addr} {cv : Array Value} {x rp : Str} {tx tr : Tok} (hpl : pa ≠ l) (hcl : ca ≠ l) (hx : x.cps.size ≤ 10000) (hrp : rp.length ≤ 100) :
    ∀ (ms : List (Nat × Nat)) (d n : Nat) (must : Bool) (ps : List (Str × Tok)) (s : Shared), findsB (codeOf cv) x.cps d must ms = true → IsPat s.heap pa ca cv → s.heap.PlainList l (strValues ps).toArray → ps.length + 2 * ms.length ≤ 98 →
      (∀ p ∈ ps, p.1.length ≤ 10000) → True →
      (∀ t h' tk, (∀ b o, b ≠ l → s.heap.get? b = some o → h'.get? b = some o) → R (.ok (.ret (.str ⟨(flat ps ++ subRes x.cps rp.cps d ms).toArray⟩ t))) { s with heap := h', toks := tk }) →
      codeAny (model prog w) A (.builtin "re.Pattern.sub.loop" ⟨[.ref pa, .str x tx, .str rp tr, rawInt 0, rawInt 0, rawInt n, rawInt d, rawInt d, .bool must, .ref l, .bool false], []⟩) R s := by
  intro ms
  induction ms with
  | nil =>
    intro d n must ps s hf hp hl hlen hps _ hR
    refine codeAny_builtin entry_loop ?_
    unfold «re.Pattern.sub.loop»
    refine wpAny_bind (wholeTarget hp ?_)
    show wpAny _ _ (reLiteralCannotBeTurned (.str rp tr) >>= fun _ => reNextFound _ (Int.toNat (d : Int)) must >>= _) _ _ s
    refine wpAny_bind (wpAny_of_eq (a := ()) rfl ?_)
    rw [Int.toNat_natCast]
    refine wpAny_bind (nextFound (r := none) rfl rfl hf fun o ho => ?_)
    obtain rfl : o = none := by cases o with | none => rfl | some _ => cases ho
    dsimp only
    have fin : ∀ (ps' : List (Str × Tok)) (h' : Heap) (tk : Nat), h'.PlainList l (strValues ps').toArray → ps'.length ≤ 100 → (∀ p ∈ ps', p.1.length ≤ 10000) → flat ps' = flat ps ++ (x.cps.extract d x.cps.size).toList → (∀ b o, b ≠ l → s.heap.get? b = some o → h'.get? b = some o) →
        wpAny (model prog w) (A.under (.builtin "re.Pattern.sub.loop" ⟨[.ref pa, .str x tx, .str rp tr, rawInt 0, rawInt 0, rawInt n, rawInt d, rawInt d, .bool must, .ref l, .bool false], []⟩)) (do
          let joiner ← reSlice x.cps 0 0 0
          let its ← seqItems? (Value.ref l)
          let text ← if (its.getD #[]).isEmpty = true then pure joiner else call (.builtin "str.join") [joiner, .ref l]
          ret text) (fun fin s' => match fin with | .done f => R (.ok f) s' | .again c' => c'.quiet = true ∧ codeAny (model prog w) A c' R s') (fun e s' => R (.error e) s') { s with heap := h', toks := tk } := by
      intro ps' h' tk hl' hlen' hps' hfl hk
      refine wpAny_bind (wpAny_mkStr ?_ (by simp [Str.length]))
      obtain ⟨n', ho⟩ := id hl'
      refine wpAny_bind (wpAny_seqItems ho rfl ?_)
      cases ps' with
      | nil =>
        refine wpAny_bind ?_
        refine wpAny_pure (wpAny_pure ?_)
        have := hR tk h' (tk + 1) hk
        rw [show subRes x.cps rp.cps d [] = (x.cps.extract d x.cps.size).toList from rfl, ← hfl] at this
        simpa [flat] using this
      | cons p ps' =>
        refine wpAny_bind ?_
        refine SC.join (hl'.isList) rfl ?_ fun t' k => wpAny_pure ?_
        · exact joinOk_of (l := (p :: ps').map (·.1)) (by rw [List.length_map]; exact hlen') (by
            intro y hy
            obtain ⟨q, hq, rfl⟩ := List.mem_map.mp hy
            exact hps' q hq)
        have := hR t' h' k hk
        rw [show subRes x.cps rp.cps d [] = (x.cps.extract d x.cps.size).toList from rfl, ← hfl] at this
        rw [← join_flat (p :: ps'), show (⟨#[]⟩ : Str) = ⟨x.cps.extract 0 0⟩ by simp] at this
        exact this
    by_cases hd : d < x.cps.size
    · rw [if_pos hd]
      refine wpAny_bind (wpAny_mkStr ?_ (by show (x.cps.extract d x.cps.size).size ≤ 2 ^ 24; simp; omega))
      refine wpAny_bind (pushPiece hl (by simp at hlen; omega) fun h' hl' hs' => ?_)
      refine fin (ps ++ [(⟨x.cps.extract d x.cps.size⟩, s.toks)]) h' (s.toks + 1) hl' ?_ ?_ ?_ (fun b o hb q => hs'.extBut b o hb q)
      · simp at hlen ⊢; omega
      · intro p hp
        rcases List.mem_append.mp hp with hp | hp
        · exact hps p hp
        · rw [List.mem_singleton.mp hp]; show (x.cps.extract d x.cps.size).size ≤ 10000; simp; omega
      · simp [flat]
    · rw [if_neg hd]
      refine fin ps s.heap s.toks hl (by simp at hlen; omega) hps ?_ (fun _ _ _ q => q)
      have : (x.cps.extract d x.cps.size).toList = [] := by simp; omega
      rw [this, List.append_nil]
  | cons be ms ih =>
    obtain ⟨b, e⟩ := be
    intro d n must ps s hf hp hl hlen hps hms hR
    simp only [findsB, Bool.and_eq_true] at hf
    refine codeAny_builtin entry_loop ?_
    unfold «re.Pattern.sub.loop»
    refine wpAny_bind (wholeTarget hp ?_)
    show wpAny _ _ (reLiteralCannotBeTurned (.str rp tr) >>= fun _ => reNextFound _ (Int.toNat (d : Int)) must >>= _) _ _ s
    refine wpAny_bind (wpAny_of_eq (a := ()) rfl ?_)
    rw [Int.toNat_natCast]
    refine wpAny_bind (nextFound (r := some (b, e)) rfl rfl hf.1 fun o ho => ?_)
    obtain ⟨m, rfl⟩ : ∃ m, o = some m := by cases o with | none => cases ho | some m => exact ⟨m, rfl⟩
    have hb : m.start = b := congrArg Prod.fst (Option.some.inj ho)
    have he : m.handed = e := congrArg Prod.snd (Option.some.inj ho)
    dsimp only
    rw [hb, he]
    have step : ∀ (ps' : List (Str × Tok)) (h' : Heap) (tk : Nat), h'.PlainList l (strValues ps').toArray → ps'.length ≤ ps.length + 1 → (∀ p ∈ ps', p.1.length ≤ 10000) → flat ps' = flat ps ++ (x.cps.extract d b).toList → (∀ b o, b ≠ l → s.heap.get? b = some o → h'.get? b = some o) →
        wpAny (model prog w) (A.under (.builtin "re.Pattern.sub.loop" ⟨[.ref pa, .str x tx, .str rp tr, rawInt 0, rawInt 0, rawInt n, rawInt d, rawInt d, .bool must, .ref l, .bool false], []⟩)) (do
          updateSeq l (·.push (.str rp tr))
          again (.builtin "re.Pattern.sub.loop" ⟨[.ref pa, .str x tx, .str rp tr, rawInt 0, rawInt 0, rawInt ((n : Int) + 1), rawInt e, rawInt e, .bool (e == b), .ref l, .bool false], []⟩))
          (fun fin s' => match fin with | .done f => R (.ok f) s' | .again c' => c'.quiet = true ∧ codeAny (model prog w) A c' R s') (fun e s' => R (.error e) s') { s with heap := h', toks := tk } := by
      intro ps' h' tk hl' hlen' hps' hfl hk
      refine wpAny_bind (pushPiece hl' (by simp at hlen; omega) fun h₂ hl₂ hs₂ => wpAny_pure ⟨plainId_quiet quiet_loop _, ?_⟩)
      have hk₂ : ∀ b o, b ≠ l → s.heap.get? b = some o → h₂.get? b = some o := fun b o hb q => hs₂.extBut b o hb (hk b o hb q)
      refine ih e (n + 1) (e == b) (ps' ++ [(rp, tr)]) { s with heap := h₂, toks := tk } hf.2 (IsPat.keep hp hpl hcl hk₂) hl₂ ?_ ?_ ?_ ?_
      · simp at hlen ⊢; omega
      · intro p hp
        rcases List.mem_append.mp hp with hp | hp
        · exact hps' p hp
        · rw [List.mem_singleton.mp hp]; exact Nat.le_trans hrp (by decide)
      · trivial
      · intro t h₃ tk₃ hk₃
        have := hR t h₃ tk₃ (fun b o hb q => hk₃ b o hb (hk₂ b o hb q))
        have e1 : flat (ps' ++ [(rp, tr)]) ++ subRes x.cps rp.cps e ms = flat ps ++ subRes x.cps rp.cps d ((b, e) :: ms) := by
          have : flat (ps' ++ [(rp, tr)]) = flat ps' ++ rp.cps.toList := by simp [flat]
          rw [this, hfl]; simp [subRes]
        rw [e1]; exact this
    by_cases hd : d < b
    · rw [if_pos hd]
      refine wpAny_bind (wpAny_mkStr ?_ (by show (x.cps.extract d b).size ≤ 2 ^ 24; simp; omega))
      refine wpAny_bind (pushPiece hl (by simp at hlen; omega) fun h' hl' hs' => ?_)
      refine step (ps ++ [(⟨x.cps.extract d b⟩, s.toks)]) h' (s.toks + 1) hl' (by simp) ?_ (by simp [flat]) (fun b o hb q => hs'.extBut b o hb q)
      intro p hp
      rcases List.mem_append.mp hp with hp | hp
      · exact hps p hp
      · rw [List.mem_singleton.mp hp]; show (x.cps.extract d b).size ≤ 10000; simp; omega
    · rw [if_neg hd]
      refine step ps s.heap s.toks hl (by omega) hps ?_ (fun _ _ _ q => q)
      have : (x.cps.extract d b).toList = [] := by simp; omega
      rw [this, List.append_nil]
end
end Mine
namespace Mine
open PySem.Builtin PySem.Builtin.Re
theorem plainAttrs_pat : PlainAttrs "re.Pattern" :=
  ⟨⟨"object.__getattribute__", by rw [typeLookup_type, builtinLookup_eq_fast]; kernel_rfl, by decide +kernel⟩, by rw [typeLookup_type, builtinLookup_eq_fast]; kernel_rfl⟩
theorem slot_pat_sub : Slot "re.Pattern" "sub" "re.Pattern.sub" :=
  .of (owner := "re.Pattern") (n := "sub") (by rw [typeLookup_type, builtinLookup_eq_fast]; kernel_rfl) (by decide +kernel) (by decide +kernel) (by decide +kernel)
    (by first | exact .inl (by decide +kernel) | exact .inr (by decide +kernel)) (by rw [isSubtype_type]; kernel_rfl)
theorem type_pat_sub : typeOf (.builtin "re.Pattern.sub") = pure (.type "method_descriptor") := by show builtinType _ = _; rw [builtinType_eq_fast]; kernel_rfl
theorem str_no_call : typeLookup (.type "str") "__call__" = pure none := by rw [typeLookup_type, builtinLookup_eq_fast]; kernel_rfl
theorem args_pat_sub (a b c : Value) : argsOk "re.Pattern.sub" ⟨[a, b, c], []⟩ := by
  first | (unfold argsOk; kernel_rfl) | (unfold argsOk; decide +kernel)
section
variable {prog : Program} {w : World} {A : Around} {E : Value → Shared → Prop} {s : Shared}
theorem callSub {pa ca : Addr} {cv : Array Value} {x rp : Str} {tx tr : Tok} {ms : List (Nat × Nat)} {Q : Value → Shared → Prop} (hp : IsPat s.heap pa ca cv) (hx : x.cps.size ≤ 10000) (hrp : rp.length ≤ 100) (hnb : rp.cps.contains 92 = false)
    (hf : findsB (codeOf cv) x.cps 0 false ms = true) (hms : ms.length ≤ 40)
    (h : ∀ t h' tk, (∀ b o, s.heap.get? b = some o → h'.get? b = some o) → Q (.str ⟨(subRes x.cps rp.cps 0 ms).toArray⟩ t) { s with heap := h', toks := tk }) :
    wpAny (model prog w) A (call (.builtin "re.Pattern.sub") [.ref pa, .str rp tr, .str x tx]) Q E s := by
  have hT : s.TypeIs (.ref pa) "re.Pattern" := by obtain ⟨⟨ps, fl, q⟩, _⟩ := hp; exact ⟨_, q, rfl⟩
  refine wpAny_call (codeAny_call_builtin slot_pat_sub.plain entry_sub (slot_pat_sub.check _ _ _ _ _ _ _ _ hT (args_pat_sub _ _ _) ?_))
  unfold «re.Pattern.sub» reSubstitute
  refine wpAny_bind (wpAny_of_eq (a := [some (.str rp tr), some (.str x tx), none]) rfl ?_)
  refine wpAny_bind (wpAny_pure (a := (0 : Int)) ?_)
  refine wpAny_bind (wpAny_of_eq (a := none) str_no_call ?_)
  show wpAny _ A.in1 (asStr? (.str rp tr) >>= _) _ _ s
  refine wpAny_bind (wpAny_pure (a := some rp) ?_)
  refine wpAny_bind (wpAny_pure ?_)
  rw [hnb]
  refine wpAny_bind (wpAny_pure ?_)
  refine wpAny_bind (wpAny_holding (wholeTarget hp ?_))
  refine wpAny_bind (wpAny_newObj_type (wpAny_pure ⟨plainId_quiet quiet_loop _, ?_⟩) (by size_fits))
  have hpa : pa < s.heap.objs.size := by obtain ⟨⟨ps, fl, q⟩, _⟩ := hp; exact Heap.lt_size q
  have hca : ca < s.heap.objs.size := Heap.lt_size hp.2
  refine subLoop (Nat.ne_of_lt hpa) (Nat.ne_of_lt hca) hx hrp ms 0 0 false [] _ hf (IsPat.keep (l := s.heap.objs.size) hp (Nat.ne_of_lt hpa) (Nat.ne_of_lt hca) fun b o _ q => Heap.get?_push_of_some _ q) ⟨0, Heap.get?_push_size _ rfl⟩ (by simp; omega) (fun _ hp => nomatch hp) trivial ?_
  intro t h' tk hk
  exact h t h' tk fun b o q => hk b o (Nat.ne_of_lt (Heap.lt_size q)) (Heap.get?_push_of_some _ q)
end
end Mine
namespace Mine
local macro_rules | `(tactic| walk_at "eval Name") => `(tactic| (refine' ld (by assumption) ?hv ?_; (case hv => ((try dsimp only); (repeat rw [if_neg (by decide)]); first | exact if_pos rfl | assumption))))
local macro_rules | `(tactic| walk_at "eval Name") => `(tactic| (refine' ldG (by assumption) (by assumption) (by first | exact gn_comment_line _ | exact gn_iter_escaped_chars _ | exact gn_strip_quoted_realnames _ | exact gn_check_parenthesis _ | exact gn_twin_re_1 _ | exact gn_twin_re_2 _ | exact gn_quotedata _ | exact gn_law_units _ | exact gn_law_pair _ | exact gn_law_corners _ | exact gn_law_line _ | exact gn_law_told _ | exact gn_law_mail _ | exact gn_CRLF _) ?_))
local macro_rules | `(tactic| walk_at "callWith ref") => `(tactic| (refine' callWithG (by assumption) (by kernel_rfl) ?_))
local macro_rules | `(tactic| walk_at "And") => `(tactic| ((with_reducible show Kpt _ _ ∧ _); refine ⟨Kpt.of (by assumption), ?_⟩))
local macro_rules | `(tactic| walk_at "loadName") => `(tactic| (refine' ldn (by assumption) ?hv ?_; (case hv => ((try dsimp only); (repeat rw [if_neg (by decide)]); first | exact if_pos rfl | assumption))))
section
variable {prog : Program} {w : World} {A : Around} {E : Value → Shared → Prop} {s : Shared} {env : Env}
def SubOk (pa : Addr) (Q : Value → Shared → Prop) (v1 v2 : Value) (s : Shared) : Prop :=
  ∃ (ca : Addr) (cv : Array Value) (x rp : Str) (tx tr : Tok) (ms : List (Nat × Nat)), v1 = .str rp tr ∧ v2 = .str x tx ∧ IsPat s.heap pa ca cv ∧ x.cps.size ≤ 10000 ∧ rp.length ≤ 100 ∧ rp.cps.contains 92 = false ∧
    findsB (codeOf cv) x.cps 0 false ms = true ∧ ms.length ≤ 40 ∧ ∀ t h' tk, (∀ b o, s.heap.get? b = some o → h'.get? b = some o) → Q (.str ⟨(subRes x.cps rp.cps 0 ms).toArray⟩ t) { s with heap := h', toks := tk }
theorem evSub {o e1 e2 : Expr} {apos pos : Pos} {pa ca : Addr} {cv : Array Value} {Q : Value → Shared → Prop}
    (h : wpAny (model prog w) A (eval o env) (fun ov s1 => ov = .ref pa ∧ IsPat s1.heap pa ca cv ∧ wpAny (model prog w) A (eval e1 env) (fun v1 s2 => wpAny (model prog w) A (eval e2 env) (fun v2 s3 => SubOk pa Q v1 v2 s3) E s2) E s1) E s)
    (hbase : attributeBase o (Str.ofString "sub") env (eval o env) = eval o env := by rfl) (hs : starEach [e1, e2] env = [(false, eval e1 env), (false, eval e2 env)] := by rfl) (hline : (apos.endLine == pos.line) = true := by rfl) :
    wpAny (model prog w) A (eval (.Call (.Attribute o (Str.ofString "sub") apos) [e1, e2] [] pos) env) Q E s := by
  refine Call_method2 hbase hs hline (wpAny_mono h ?_ fun _ _ e => e)
  rintro ov s1 ⟨rfl, hp, h1⟩
  obtain ⟨⟨ps, fl, q⟩, q2⟩ := id hp
  refine ⟨"re.Pattern", "re.Pattern.sub", plainAttrs_pat, slot_pat_sub, type_pat_sub, ⟨_, q, rfl⟩, ?_, ?_⟩
  · rintro a ⟨⟩; exact ⟨_, q, rfl⟩
  refine Calls.callWith_builtin rfl (Calls.evalArgs_plain (Calls.spliced_cons (wpAny_mono h1 (fun v1 s2 h2 => Calls.spliced_cons (wpAny_mono h2 (fun v2 s3 h3 => Calls.spliced_nil ?_) fun _ _ e => e)) fun _ _ e => e)))
  obtain ⟨ca, cv, x, rp, tx, tr, ms, rfl, rfl, hp, hx, hrp, hnb, hf, hms, hq⟩ := h3
  exact callSub hp hx hrp hnb hf hms hq
end
noncomputable def cv1 (P : Params) : Array Value := match (hd.heap_39 P).lookup 63 with | some o => (match o.data with | .seq v => v | _ => #[]) | none => #[]
noncomputable def cv2 (P : Params) : Array Value := match (hd.heap_39 P).lookup 68 with | some o => (match o.data with | .seq v => v | _ => #[]) | none => #[]
def code1 : Array Nat := #[14, 4, 0, 1, 1, 6, 1, 16, 46, 1]
def code2 : Array Nat := #[14, 9, 4, 1, 2, 16, 10, 16, 13, 0, 7, 7, 16, 13, 16, 10, 15, 18, 5, 16, 10, 15, 13, 11, 16, 13, 5, 5, 0, 16, 10, 1, 15, 2, 0, 1]
theorem code1_eq (P : Params) : codeOf (cv1 P) = code1 := by kernel_rfl
theorem code2_eq (P : Params) : codeOf (cv2 P) = code2 := by kernel_rfl
theorem pat1 {w : World} {h : Heap} (X : (hd.heap_39 w.params).In h) : IsPat h 64 63 (cv1 w.params) := ⟨⟨_, _, X 64 _ rfl⟩, X 63 _ rfl⟩
theorem pat2 {w : World} {h : Heap} (X : (hd.heap_39 w.params).In h) : IsPat h 69 68 (cv2 w.params) := ⟨⟨_, _, X 69 _ rfl⟩, X 68 _ rfl⟩

/-- what quotedata gives -/
structure Quoted (x z : Str) : Prop where
  ex : ∃ ms2 ms1, x.cps.size ≤ 10000 ∧ findsB code2 x.cps 0 false ms2 = true ∧ ms2.length ≤ 40 ∧ (subRes x.cps (Str.ofString "\r\n").cps 0 ms2).length ≤ 10000 ∧
    findsB code1 (subRes x.cps (Str.ofString "\r\n").cps 0 ms2).toArray 0 false ms1 = true ∧ ms1.length ≤ 40 ∧ z = ⟨(subRes (subRes x.cps (Str.ofString "\r\n").cps 0 ms2).toArray (Str.ofString "..").cps 0 ms1).toArray⟩

theorem quotedata {prog : Program} {w : World} {A : Around} {s : Shared} {mg mb : Str → Option Value} (G : Gd w mg mb s.heap) (hA : A.depth + 5 < recursionLimit) (x z : Str) (t0 : Tok) (hz : Quoted x z) :
   codeAny (model prog w) A (.call (.ref 76) ⟨[.str x t0], []⟩) (EndS s z) s := by
  w_top off
  obtain ⟨ms2, ms1, hx, hf2, hl2, hx2, hf1, hl1, rfl⟩ := hz.ex
  refine enterF (binds := [("data", .str x t0)]) G rfl (by kernel_rfl) (by omega) rfl (locs rfl) rfl rfl rfl (by decide) ?_
  intro L h₁ F
  have N : News s.heap L h₁ [] := News.nil
  walk1
  walk1
  refine evSub (pa := 64) (ca := 63) (cv := cv1 w.params) ?_
  walk1
  refine ⟨rfl, pat1 (Gd.fr G F).X, ?_⟩
  walk1
  refine evSub (pa := 69) (ca := 68) (cv := cv2 w.params) ?_
  walk1
  refine ⟨rfl, pat2 (Gd.fr G F).X, ?_⟩
  walk1
  walk1
  refine ⟨68, cv2 w.params, _, _, _, _, ms2, rfl, rfl, pat2 (Gd.fr G F).X, hx, by decide, by decide +kernel, by rw [code2_eq]; exact hf2, hl2, ?_⟩
  intro t h' tk k
  have F' := Fr.kp F k
  refine ⟨63, cv1 w.params, _, _, _, _, ms1, rfl, rfl, pat1 (Gd.fr G F').X, by simpa using hx2, by decide, by decide +kernel, by rw [code1_eq]; exact hf1, hl1, ?_⟩
  intro t h'' tk k'
  have F'' := Fr.kp F' k'
  repeat' walk1
  exact EndS.mk' F'' ⟨rfl, id⟩ rfl
end Mine
namespace Mine
def dt (n : Nat) : List Nat := List.replicate n 46
def join3 (sep : List Nat) (a b c : Nat) : List Nat := dt a ++ (sep ++ (dt b ++ (sep ++ dt c)))
def qn (n : Nat) : Nat := if n = 0 then 0 else n + 1
def ms2 (a b : Nat) : List (Nat × Nat) := [(a, a + 1), (a + 1 + b, a + 1 + b + 1)]
def ms1 (a b : Nat) : List (Nat × Nat) := (if a = 0 then [] else [(0, 1)]) ++ [(a + 2, a + 3), (a + 2 + b + 2, a + 2 + b + 3)]
def okQ (a b c : Nat) : Bool :=
  findsB code2 (join3 [10] a b c).toArray 0 false (ms2 a b) &&
  ((subRes (join3 [10] a b c).toArray #[13, 10] 0 (ms2 a b) == join3 [13, 10] a b c) &&
  (findsB code1 (join3 [13, 10] a b c).toArray 0 false (ms1 a b) &&
  (subRes (join3 [13, 10] a b c).toArray #[46, 46] 0 (ms1 a b) == join3 [13, 10] (qn a) (qn b) (qn c))))
theorem okA0 : (okQ 0 1 2 && okQ 0 1 2) = true := by decide +kernel
theorem okA1 : (okQ 1 2 3 && okQ 0 2 3) = true := by decide +kernel
theorem okA2 : (okQ 2 3 4 && okQ 0 3 4) = true := by decide +kernel
theorem okA3 : (okQ 3 4 5 && okQ 0 4 5) = true := by decide +kernel
theorem okA4 : (okQ 4 5 6 && okQ 0 5 6) = true := by decide +kernel
theorem okA5 : (okQ 5 6 7 && okQ 0 6 7) = true := by decide +kernel
theorem okA6 : (okQ 6 7 8 && okQ 0 7 8) = true := by decide +kernel
theorem okA7 : (okQ 7 8 9 && okQ 0 8 9) = true := by decide +kernel
theorem okA8 : (okQ 8 9 10 && okQ 0 9 10) = true := by decide +kernel
theorem okA9 : (okQ 9 10 11 && okQ 0 10 11) = true := by decide +kernel
theorem okA10 : (okQ 10 11 12 && okQ 0 11 12) = true := by decide +kernel
theorem okA11 : (okQ 11 12 13 && okQ 0 12 13) = true := by decide +kernel
theorem okA12 : (okQ 12 13 14 && okQ 0 13 14) = true := by decide +kernel
theorem okA13 : (okQ 13 14 15 && okQ 0 14 15) = true := by decide +kernel
theorem okA14 : (okQ 14 15 16 && okQ 0 15 16) = true := by decide +kernel
theorem okA15 : (okQ 15 16 17 && okQ 0 16 17) = true := by decide +kernel
theorem okA16 : (okQ 16 17 18 && okQ 0 17 18) = true := by decide +kernel
theorem okA17 : (okQ 17 18 19 && okQ 0 18 19) = true := by decide +kernel
theorem okA18 : (okQ 18 19 20 && okQ 0 19 20) = true := by decide +kernel
theorem okA19 : (okQ 19 20 21 && okQ 0 20 21) = true := by decide +kernel
theorem okA20 : (okQ 20 21 22 && okQ 0 21 22) = true := by decide +kernel
theorem okA21 : (okQ 21 22 23 && okQ 0 22 23) = true := by decide +kernel
theorem okA22 : (okQ 22 23 24 && okQ 0 23 24) = true := by decide +kernel
theorem okA23 : (okQ 23 24 25 && okQ 0 24 25) = true := by decide +kernel
theorem okA24 : (okQ 24 25 26 && okQ 0 25 26) = true := by decide +kernel
theorem okA25 : (okQ 25 26 27 && okQ 0 26 27) = true := by decide +kernel
theorem okA26 : (okQ 26 27 28 && okQ 0 27 28) = true := by decide +kernel
def okS (p : Nat × Nat × Nat) : Bool := (decide (1 ≤ p.2.1) && decide (p.2.1 ≤ 27)) && (decide (p.2.2 = p.2.1 + 1) && (decide (p.1 = 0) || decide (p.1 + 1 = p.2.1)))
theorem okQ_of {a b c : Nat} (h : okS (a, b, c) = true) : okQ a b c = true := by
  simp only [okS, Bool.and_eq_true, Bool.or_eq_true, decide_eq_true_eq] at h
  obtain ⟨⟨h1, h2⟩, rfl, h3⟩ := h
  obtain ⟨k, rfl⟩ : ∃ k, b = k + 1 := ⟨b - 1, by omega⟩
  have hk : k < 27 := by omega
  have key : (okQ k (k + 1) (k + 2) && okQ 0 (k + 1) (k + 2)) = true := by
    match k, hk with
    | 0, _ => exact okA0
    | 1, _ => exact okA1
    | 2, _ => exact okA2
    | 3, _ => exact okA3
    | 4, _ => exact okA4
    | 5, _ => exact okA5
    | 6, _ => exact okA6
    | 7, _ => exact okA7
    | 8, _ => exact okA8
    | 9, _ => exact okA9
    | 10, _ => exact okA10
    | 11, _ => exact okA11
    | 12, _ => exact okA12
    | 13, _ => exact okA13
    | 14, _ => exact okA14
    | 15, _ => exact okA15
    | 16, _ => exact okA16
    | 17, _ => exact okA17
    | 18, _ => exact okA18
    | 19, _ => exact okA19
    | 20, _ => exact okA20
    | 21, _ => exact okA21
    | 22, _ => exact okA22
    | 23, _ => exact okA23
    | 24, _ => exact okA24
    | 25, _ => exact okA25
    | 26, _ => exact okA26
    | k + 27, h => exact absurd h (by omega)
  rw [Bool.and_eq_true] at key
  rcases h3 with rfl | h3
  · exact key.2
  · have : a = k := by omega
    subst this
    exact key.1
def ds (n : Nat) : Str := ⟨(dt n).toArray⟩
theorem quoted_of {a b c : Nat} (h : okS (a, b, c) = true) : Quoted ⟨(join3 [10] a b c).toArray⟩ ⟨(join3 [13, 10] (qn a) (qn b) (qn c)).toArray⟩ := by
  have hq := okQ_of h
  simp only [okS, Bool.and_eq_true, Bool.or_eq_true, decide_eq_true_eq] at h
  simp only [okQ, Bool.and_eq_true, beq_iff_eq] at hq
  obtain ⟨q1, q2, q3, q4⟩ := hq
  have e1 : (Str.ofString "\r\n").cps = #[13, 10] := by decide +kernel
  have e2 : (Str.ofString "..").cps = #[46, 46] := by decide +kernel
  have hlen : ∀ sep : List Nat, sep.length ≤ 2 → (join3 sep a b c).length ≤ 10000 := by
    intro sep hs
    simp only [join3, dt, List.length_append, List.length_replicate]
    omega
  refine ⟨ms2 a b, ms1 a b, by simpa using hlen [10] (by decide), q1, (by show 2 ≤ 40; decide), ?_, ?_, ?_, ?_⟩
  · show (subRes (join3 [10] a b c).toArray _ 0 _).length ≤ _
    rw [e1, q2]; exact hlen _ (by decide)
  · show findsB code1 (subRes (join3 [10] a b c).toArray _ 0 _).toArray _ _ _ = _
    rw [e1, q2]; exact q3
  · unfold ms1; split <;> simp
  · show _ = Str.mk (subRes (subRes (join3 [10] a b c).toArray _ 0 _).toArray _ 0 _).toArray
    rw [e1, e2, q2, q4]
end Mine
namespace Mine
def okP (a b c : Nat) : Bool := (Txt.split ⟨(join3 [13, 10] (qn a) (qn b) (qn c)).toArray⟩ (Str.ofString "\r\n") == [ds (qn a), ds (qn b), ds (qn c)])
theorem okB0 : (okP 0 1 2 && okP 0 1 2) = true := by decide +kernel
theorem okB1 : (okP 1 2 3 && okP 0 2 3) = true := by decide +kernel
theorem okB2 : (okP 2 3 4 && okP 0 3 4) = true := by decide +kernel
theorem okB3 : (okP 3 4 5 && okP 0 4 5) = true := by decide +kernel
theorem okB4 : (okP 4 5 6 && okP 0 5 6) = true := by decide +kernel
theorem okB5 : (okP 5 6 7 && okP 0 6 7) = true := by decide +kernel
theorem okB6 : (okP 6 7 8 && okP 0 7 8) = true := by decide +kernel
theorem okB7 : (okP 7 8 9 && okP 0 8 9) = true := by decide +kernel
theorem okB8 : (okP 8 9 10 && okP 0 9 10) = true := by decide +kernel
theorem okB9 : (okP 9 10 11 && okP 0 10 11) = true := by decide +kernel
theorem okB10 : (okP 10 11 12 && okP 0 11 12) = true := by decide +kernel
theorem okB11 : (okP 11 12 13 && okP 0 12 13) = true := by decide +kernel
theorem okB12 : (okP 12 13 14 && okP 0 13 14) = true := by decide +kernel
theorem okB13 : (okP 13 14 15 && okP 0 14 15) = true := by decide +kernel
theorem okB14 : (okP 14 15 16 && okP 0 15 16) = true := by decide +kernel
theorem okB15 : (okP 15 16 17 && okP 0 16 17) = true := by decide +kernel
theorem okB16 : (okP 16 17 18 && okP 0 17 18) = true := by decide +kernel
theorem okB17 : (okP 17 18 19 && okP 0 18 19) = true := by decide +kernel
theorem okB18 : (okP 18 19 20 && okP 0 19 20) = true := by decide +kernel
theorem okB19 : (okP 19 20 21 && okP 0 20 21) = true := by decide +kernel
theorem okB20 : (okP 20 21 22 && okP 0 21 22) = true := by decide +kernel
theorem okB21 : (okP 21 22 23 && okP 0 22 23) = true := by decide +kernel
theorem okB22 : (okP 22 23 24 && okP 0 23 24) = true := by decide +kernel
theorem okB23 : (okP 23 24 25 && okP 0 24 25) = true := by decide +kernel
theorem okB24 : (okP 24 25 26 && okP 0 25 26) = true := by decide +kernel
theorem okB25 : (okP 25 26 27 && okP 0 26 27) = true := by decide +kernel
theorem okB26 : (okP 26 27 28 && okP 0 27 28) = true := by decide +kernel
theorem okP_of {a b c : Nat} (h : okS (a, b, c) = true) : okP a b c = true := by
  simp only [okS, Bool.and_eq_true, Bool.or_eq_true, decide_eq_true_eq] at h
  obtain ⟨⟨h1, h2⟩, rfl, h3⟩ := h
  obtain ⟨k, rfl⟩ : ∃ k, b = k + 1 := ⟨b - 1, by omega⟩
  have hk : k < 27 := by omega
  have key : (okP k (k + 1) (k + 2) && okP 0 (k + 1) (k + 2)) = true := by
    match k, hk with
    | 0, _ => exact okB0
    | 1, _ => exact okB1
    | 2, _ => exact okB2
    | 3, _ => exact okB3
    | 4, _ => exact okB4
    | 5, _ => exact okB5
    | 6, _ => exact okB6
    | 7, _ => exact okB7
    | 8, _ => exact okB8
    | 9, _ => exact okB9
    | 10, _ => exact okB10
    | 11, _ => exact okB11
    | 12, _ => exact okB12
    | 13, _ => exact okB13
    | 14, _ => exact okB14
    | 15, _ => exact okB15
    | 16, _ => exact okB16
    | 17, _ => exact okB17
    | 18, _ => exact okB18
    | 19, _ => exact okB19
    | 20, _ => exact okB20
    | 21, _ => exact okB21
    | 22, _ => exact okB22
    | 23, _ => exact okB23
    | 24, _ => exact okB24
    | 25, _ => exact okB25
    | 26, _ => exact okB26
    | k + 27, h => exact absurd h (by omega)
  rw [Bool.and_eq_true] at key
  rcases h3 with rfl | h3
  · exact key.2
  · have : a = k := by omega
    subst this
    exact key.1
theorem splitD {a b c : Nat} (h : okS (a, b, c) = true) : Txt.split ⟨(join3 [13, 10] (qn a) (qn b) (qn c)).toArray⟩ (Str.ofString "\r\n") = [ds (qn a), ds (qn b), ds (qn c)] := eq_of_beq (okP_of h)
end Mine
namespace Mine
local macro_rules | `(tactic| walk_at "eval Name") => `(tactic| (refine' ld (by assumption) ?hv ?_; (case hv => ((try dsimp only); (repeat rw [if_neg (by decide)]); first | exact if_pos rfl | assumption))))
local macro_rules | `(tactic| walk_at "eval Name") => `(tactic| (refine' ldG (by assumption) (by assumption) (by first | exact gn_comment_line _ | exact gn_iter_escaped_chars _ | exact gn_strip_quoted_realnames _ | exact gn_check_parenthesis _ | exact gn_twin_re_1 _ | exact gn_twin_re_2 _ | exact gn_quotedata _ | exact gn_law_units _ | exact gn_law_pair _ | exact gn_law_corners _ | exact gn_law_line _ | exact gn_law_told _ | exact gn_law_mail _ | exact gn_CRLF _) ?_))
local macro_rules | `(tactic| walk_at "callWith ref") => `(tactic| (refine' callWithG (by assumption) (by kernel_rfl) ?_))
local macro_rules | `(tactic| walk_at "And") => `(tactic| ((with_reducible show Kpt _ _ ∧ _); refine ⟨Kpt.of (by assumption), ?_⟩))
local macro_rules | `(tactic| walk_at "loadName") => `(tactic| (refine' ldn (by assumption) ?hv ?_; (case hv => ((try dsimp only); (repeat rw [if_neg (by decide)]); first | exact if_pos rfl | assumption))))
def RowsAt (h₀ : Heap) (news : List (Addr × Obj)) (l : Addr) (vs : List Value) : Prop :=
  (news = [] ∧ h₀.IsList l vs.toArray) ∨ ∃ n, news = [(l, { cls := .type "list", data := .seq vs.toArray n })]
theorem RowsAt.list {h₀ h : Heap} {L : Addr} {own news : List (Addr × Obj)} {l : Addr} {vs : List Value} {m : Str → Option Value} (r : RowsAt h₀ news l vs) (F : Fr h₀ L h m) (N : News h₀ L h (own ++ news)) : h.IsList l vs.toArray := by
  rcases r with ⟨rfl, hl⟩ | ⟨n, rfl⟩
  · exact hl.at fun o e => F.keep l o e
  · exact ⟨_, (N _ (List.mem_append_right _ (.head _))).1, rfl, _, rfl⟩
def mailF (o : Option (Nat × Nat × Nat)) (u : Str) : Option (Nat × Nat × Nat) := o.bind fun p =>
  if okS p = true then (if u = Str.ofString "(" then some (qn p.1, qn p.2.1, qn p.2.2) else if u = Str.ofString ")" then some (p.1 - 1, p.2.1 - 1, p.2.2 - 1) else some p) else none
theorem mailF_none (us : List Str) : us.foldl mailF none = none := by
  induction us with
  | nil => rfl
  | cons u r ih => exact ih
theorem mailF_take {us : List Str} {o : Option (Nat × Nat × Nat)} {z : Nat × Nat × Nat} (h : us.foldl mailF o = some z) (i : Nat) : ∃ y, (us.take i).foldl mailF o = some y := by
  cases e : (us.take i).foldl mailF o with
  | some y => exact ⟨y, rfl⟩
  | none =>
    have := List.take_append_drop i us
    rw [← this, List.foldl_append, e, mailF_none] at h
    cases h
def d3 (p : Nat × Nat × Nat) : List Str := [ds p.1, ds p.2.1, ds p.2.2]
def Strs (vs : List Value) (us : List Str) : Prop := ∃ l : List (Str × Tok), vs = strValues l ∧ l.map (·.1) = us
def EndL (s : Shared) (us : List Str) (r : Result) (s' : Shared) : Prop := ∃ l vs, r = .ok (.ret (.ref l)) ∧ s'.heap.IsList l vs.toArray ∧ Strs vs us ∧ Kp s s'
theorem joinD (p : Nat × Nat × Nat) : Txt.join (Str.ofString "\n") (d3 p) = ⟨(join3 [10] p.1 p.2.1 p.2.2).toArray⟩ := by
  unfold Txt.join
  rw [StrLaws.glued_eq_join]
  have e : Str.ofString "\n" = ⟨#[10]⟩ := by decide
  rw [e]
  apply Str.ext'
  show (ds p.1 ++ (⟨#[10]⟩ : Str) ++ (ds p.2.1 ++ (⟨#[10]⟩ : Str) ++ ds p.2.2)).cps = _
  apply Array.ext'
  simp [Str.cps_append, ds, join3]
theorem okS_le {a b c : Nat} (h : okS (a, b, c) = true) : a ≤ 27 ∧ b ≤ 27 ∧ c ≤ 28 := by
  simp only [okS, Bool.and_eq_true, Bool.or_eq_true, decide_eq_true_eq] at h
  omega
theorem qn_le (a : Nat) : qn a ≤ a + 1 := by unfold qn; split <;> omega
theorem lenD {a b c : Nat} (h : okS (a, b, c) = true) : (⟨(join3 [13, 10] (qn a) (qn b) (qn c)).toArray⟩ : Str).length + 2 ≤ sizeLine := by
  have := okS_le h
  have h1 := qn_le a
  have h2 := qn_le b
  have h3 := qn_le c
  show (join3 _ _ _ _).toArray.size + 2 ≤ _
  simp only [List.size_toArray, join3, dt, List.length_append, List.length_replicate, List.length_cons, List.length_nil, sizeLine_eq]
  omega
theorem dsLen (n : Nat) : (ds n).length = n := by show (dt n).toArray.size = n; simp [dt]
theorem joinOkD {p : Nat × Nat × Nat} (h : okS p = true) : JoinOk (Str.ofString "\n") (d3 p) = true := by
  have := okS_le (a := p.1) (b := p.2.1) (c := p.2.2) h
  refine joinOk_of_weight ?_ (by decide)
  simp only [d3, List.map_cons, List.map_nil, dsLen, List.sum_cons, List.sum_nil, List.length_cons, List.length_nil]
  omega
theorem areOf_strs {P : Str → Prop} : ∀ (l : List (Str × Tok)), (∀ r ∈ l.map (·.1), P r) → AreOf (ItemKind.str.within P) (strValues l) (l.map (·.1))
  | [], _ => .nil
  | p :: r, h => .cons ⟨⟨p.2, rfl⟩, h _ (List.mem_cons_self ..)⟩ (areOf_strs r fun z hz => h z (List.mem_cons_of_mem _ hz))
theorem d3_le {p : Nat × Nat × Nat} (h : okS p = true) : ∀ r ∈ d3 p, r.length ≤ 30 := by
  have := okS_le (a := p.1) (b := p.2.1) (c := p.2.2) h
  intro r hr
  simp only [d3, List.mem_cons, List.not_mem_nil, or_false] at hr
  rcases hr with rfl | rfl | rfl <;> rw [dsLen] <;> omega
theorem keptKpt {h₀ : Heap} : KeptH (Kpt h₀) := fun _ ob a b o e => Heap.get?_push_of_some _ (a b o e)
theorem Keeps.rf (s : Shared) : Keeps s s := ⟨s.heap, s.toks, rfl, fun _ _ e => e⟩
theorem Keeps.mk' {s : Shared} {h' : Heap} {tk : Nat} (k : Kpt s.heap h') : Keeps s { s with heap := h', toks := tk } := ⟨h', tk, rfl, k⟩
theorem strs_carried : ∀ {ys : List Value} {us : List Str}, CarriedAll ys (us.map PyData.str) → Strs ys us
  | _, [], .nil => ⟨[], rfl, rfl⟩
  | _, _ :: _, .cons (.str _ t) r => by
    obtain ⟨l, rfl, rfl⟩ := strs_carried r
    exact ⟨(_, t) :: l, rfl, rfl⟩
def un (r : Str) : Str := if Txt.slice r none (some 2) = Str.ofString ".." then Txt.slice r (some 1) none else Str.ofString ""
theorem News.reord {h₀ h : Heap} {L : Addr} {a : Addr × Obj} {own news : List (Addr × Obj)} (N : News h₀ L h (a :: (own ++ news))) : News h₀ L h (own ++ [a]) := fun p hp => by
  rcases List.mem_append.mp hp with h | h
  · exact N p (.tail _ (List.mem_append_left _ h))
  · rw [List.mem_singleton.mp h]; exact N a (.head _)
theorem News.addO {h₀ h : Heap} {L D : Addr} {o : Obj} {own news : List (Addr × Obj)} (N : News h₀ L h (own ++ news)) (e : h.get? D = some o) (h1 : D ≠ L) (h2 : h₀.get? D = none) : News h₀ L h (own ++ [(D, o)]) := fun p hp => by
  rcases List.mem_append.mp hp with h | h
  · exact N p (List.mem_append_left _ h)
  · rw [List.mem_singleton.mp h]; exact ⟨e, h1, h2⟩
theorem un_all : (List.range 29).all (fun n => un (ds n) == ds (n - 1)) = true := by decide +kernel
theorem un_ds {n : Nat} (h : n ≤ 28) : un (ds n) = ds (n - 1) := eq_of_beq (List.all_eq_true.mp un_all n (List.mem_range.mpr (by omega)))
theorem mailT {prog : Program} {w : World} {A : Around} {s : Shared} {mg mb : Str → Option Value} (G : Gd w mg mb s.heap) (hA : A.depth + 7 < recursionLimit) (hh : A.handled = none)
   {l : Addr} {vs : List Value} {us : List Str} (hl : s.heap.IsList l vs.toArray) (hu : StrsAre vs us) (hn : us.length ≤ 1000) 
   {l' : Addr} {vs' : List Value} {p z : Nat × Nat × Nat} (hl' : s.heap.IsList l' vs'.toArray) (hp : Strs vs' (d3 p)) (hz : us.foldl mailF (some p) = some z) :
   codeAny (model prog w) A (.call (.ref 112) ⟨[.ref l', .ref l], []⟩) (EndL s (d3 z)) s := by
  w_top off
  refine enterF (binds := [("rows", .ref l'), ("units", .ref l)]) G rfl (by kernel_rfl) (by omega) rfl (locs rfl) rfl rfl rfl (by decide) ?_
  intro L h₁ F
  have N : News s.heap L h₁ [] := News.nil
  refine wpAny_execs_cons ?_
  refine ForOld2 (vs := vs) hh hl F N rfl rfl ?_ (fun i m news => ∃ l vs q, RowsAt s.heap news l vs ∧ m (Str.ofString "rows") = some (.ref l) ∧ Strs vs (d3 q) ∧ (us.take i).foldl mailF (some p) = some q) ?_ ?_ ?_
  · intro Q' h; walk1; exact h
  · exact ⟨_, _, p, .inl ⟨rfl, hl'⟩, rfl, hp, rfl⟩
  · rintro i v m₁ news₁ s₁ own ob hv ⟨lr, vr, q, hr, hm, ⟨lq, rfl, hlq⟩, hf⟩ hoff hsz ⟨oI, hI⟩ F' N'
    obtain ⟨u, t, hu', rfl⟩ := hu.2 i v hv
    have hlr := hr.list F' N'
    obtain ⟨y', hy'⟩ := mailF_take hz (i + 1)
    have hs := foldl_take (f := mailF) (z := some p) hu'
    rw [hf, hy'] at hs
    rw [hy']
    have hok : okS q = true := by
      by_cases h : okS q = true
      · exact h
      · simp [mailF, h] at hs
    clear hz hy' F N
    repeat' walk1
    · refine SC.join hlr hlq (joinOkD hok) ?_
      intro t₂ k₂
      rw [joinD]
      (repeat' walk1)
      refine' callS ?C ?F ?N ?_
      case F => exact F'
      case N => exact N'
      case C => exact quotedata (by exact Gd.fr G F') (by show A.depth + 1 + 5 < _; omega) _ _ _ (quoted_of hok)
      intro t₃ s₃ ob₃ F₃ N₃
      (repeat' walk1)
      refine splitN1 F₃ N₃ (by decide) ?_ (lenD hok)
      intro lw h₄ k₄ hw F₄ N₄
      rw [splitD hok] at hw
      (repeat' walk1)
      rename Fr _ _ _ _ => F₅
      rename News _ _ _ _ => N₅
      refine ⟨_, [_], Ob.trans ⟨rfl, id⟩ (Ob.trans ob₃ ⟨rfl, id⟩), F₅, News.reord N₅, ?_, s₃.heap.objs.size, strValues lw, y', .inr ⟨_, rfl⟩, if_pos rfl, ⟨lw, rfl, ?_⟩, rfl⟩
      · intro p hp
        rw [List.mem_singleton.mp hp]
        intro hI'
        have h1 := List.mem_singleton.mp hI'
        have h2 := Heap.lt_size (N₃ _ (List.mem_append_left _ hI)).1
        exact absurd h2 (h1 ▸ Nat.lt_irrefl _)
      · rw [hw]
        have hq : y' = (qn q.1, qn q.2.1, qn q.2.2) := by simp_all [mailF]
        rw [hq]; rfl
    · refine srcA_listD (K := ItemKind.str.within (fun r => r.length ≤ 30)) (pz := fun _ => true) (d := fun r => PyData.str (un r)) hh hlr (as := d3 q) (hlq ▸ areOf_strs lq (hlq ▸ d3_le hok)) F' N' ?_ ?_ ?_ (by show 3 ≤ _; decide)
      · intro C a' v' s₂ m₂ E' hi hn' hm' htk
        exact wpAny_pure ⟨rfl, Keeps.rf _⟩
      · intro C a' v' s₂ m₂ E' hi _ hn' hm' htk
        obtain ⟨⟨t', rfl⟩, hb⟩ := hi
        repeat' walk1
        refine tail_of_ItemOn (SBH.sliceItem_ns (P := Kpt s₂.heap) keptKpt (fun _ _ e => e) ?_ (by rw [sizeLine_eq]; omega)) (by with_unfolding_all rfl) (by intro _; with_unfolding_all rfl)
        intro h₅ t₅ k₅ kp₅
        have hn₅ := Heap.Ns.keeps hn' kp₅
        clear hn'
        repeat' walk1
        · refine tail_of_ItemOn (SBH.sliceItem_sn (P := Kpt s₂.heap) keptKpt kp₅ ?_ (by rw [sizeLine_eq]; omega)) (by with_unfolding_all rfl) (by intro _; with_unfolding_all rfl)
          intro h₆ t₆ k₆ kp₆
          refine ⟨?_, h₆, k₆, rfl, kp₆⟩
          rw [show un a' = Txt.slice a' (some 1) none from if_pos (eq_of_beq (by assumption))]
          exact Carried.str _ _
        · rw [show un a' = Str.ofString "" from if_neg (ne_of_beq_false (by assumption))]
          exact Carried.str _ _
        · exact ⟨h₅, _, rfl, kp₅⟩
      · intro D ys h' tk F₅ N₅ hD hlD hpl hc
        obtain ⟨⟨n, hpn⟩, hne⟩ := id hpl
        have hDL := hpl.ne_locals F₅
        repeat' walk1
        refine ⟨_, [(D, _)], ⟨rfl, id⟩, F₅, News.addO N₅ hpn hDL hD, ?_, D, ys, y', .inr ⟨_, rfl⟩, if_pos rfl, ?_, rfl⟩
        · intro p hp
          rw [List.mem_singleton.mp hp]
          intro hI'
          exact hne _ (List.mem_append_left _ hI) (List.mem_singleton.mp hI').symm
        · have hq : y' = (q.1 - 1, q.2.1 - 1, q.2.2 - 1) := by
            have : ¬ Str.ofString ")" = Str.ofString "(" := by decide
            simp_all [mailF]
          rw [hq]
          have e : ((d3 q).filter (fun _ => true)).map (fun r => PyData.str (un r)) = (d3 (q.1 - 1, q.2.1 - 1, q.2.2 - 1)).map PyData.str := by
            obtain ⟨h1, h2, h3⟩ := okS_le (a := q.1) (b := q.2.1) (c := q.2.2) hok
            simp [d3, un_ds (show q.1 ≤ 28 by omega), un_ds (show q.2.1 ≤ 28 by omega), un_ds h3]
          exact strs_carried (e ▸ hc)
    · refine ⟨_, news₁, ⟨rfl, id⟩, F', N', hoff, lr, strValues lq, y', hr, (if_neg (by decide)).trans hm, ⟨lq, rfl, ?_⟩, rfl⟩
      have hq : y' = q := by simp_all [mailF]
      rw [hq, hlq]
  · rintro s' m' news' ob F' N' ⟨lr, vr, q, hr, hm, hlq, hf⟩
    rw [show vs.length = us.length from hu.1, List.take_length, hz] at hf
    cases hf
    repeat' walk1
    exact ⟨lr, vr, rfl, hr.list (own := []) F' N', hlq, Kp.fr F' ob⟩
end Mine
namespace Mine
local macro_rules | `(tactic| walk_at "eval Name") => `(tactic| (refine' ld (by assumption) ?hv ?_; (case hv => ((try dsimp only); (repeat rw [if_neg (by decide)]); first | exact if_pos rfl | assumption))))
local macro_rules | `(tactic| walk_at "eval Name") => `(tactic| (refine' ldG (by assumption) (by assumption) (by first | exact gn_comment_line _ | exact gn_iter_escaped_chars _ | exact gn_strip_quoted_realnames _ | exact gn_check_parenthesis _ | exact gn_twin_re_1 _ | exact gn_twin_re_2 _ | exact gn_quotedata _ | exact gn_law_units _ | exact gn_law_pair _ | exact gn_law_corners _ | exact gn_law_line _ | exact gn_law_told _ | exact gn_law_mail _ | exact gn_CRLF _) ?_))
local macro_rules | `(tactic| walk_at "callWith ref") => `(tactic| (refine' callWithG (by assumption) (by kernel_rfl) ?_))
local macro_rules | `(tactic| walk_at "And") => `(tactic| ((with_reducible show Kpt _ _ ∧ _); refine ⟨Kpt.of (by assumption), ?_⟩))
local macro_rules | `(tactic| walk_at "loadName") => `(tactic| (refine' ldn (by assumption) ?hv ?_; (case hv => ((try dsimp only); (repeat rw [if_neg (by decide)]); first | exact if_pos rfl | assumption))))
def toldS (x : Str) (b : Bool) (n : Int) : Str :=
  let core := if b = true then Txt.rstrip x else x
  let told := Txt.mul (Str.ofString "# ") n ++ core
  if core = Str.ofString "" ∧ n > 0 then Txt.slice told none (some (-1)) else told
theorem told {prog : Program} {w : World} {A : Around} {s : Shared} {mg mb : Str → Option Value} (G : Gd w mg mb s.heap) (hA : A.depth < recursionLimit) (x : Str) (t0 : Tok) (hx : x.length ≤ 100) (b : Bool) (n : Int) (tn : Tok) (h0 : 0 ≤ n) (hn : n ≤ 100) :
   codeAny (model prog w) A (.call (.ref 107) ⟨[.str x t0, .bool b, .int n tn], []⟩) (EndS s (toldS x b n)) s := by
  w_top off
  refine enterF (binds := [("bottom", .str x t0), ("touched", .bool b), ("stay", .int n tn)]) G rfl (by kernel_rfl) hA rfl (locs rfl) rfl rfl rfl (by decide) ?_
  intro L h₁ F
  have N : News s.heap L h₁ [] := News.nil
  have hm : (Txt.mul (Str.ofString "# ") n).length ≤ 2 * 100 := len_mul_leN (by decide) hn
  repeat' walk1
  all_goals (
    refine EndS.mk' (by assumption) ⟨rfl, id⟩ ?_
    simp only [beq_iff_eq, beq_eq_false_iff_ne, ne_eq] at *
    subst_vars
    simp_all [toldS]
    try omega)
end Mine
namespace Mine
local macro_rules | `(tactic| walk_at "eval Name") => `(tactic| (refine' ld (by assumption) ?hv ?_; (case hv => ((try dsimp only); (repeat rw [if_neg (by decide)]); first | exact if_pos rfl | assumption))))
local macro_rules | `(tactic| walk_at "eval Name") => `(tactic| (refine' ldG (by assumption) (by assumption) (by first | exact gn_comment_line _ | exact gn_iter_escaped_chars _ | exact gn_strip_quoted_realnames _ | exact gn_check_parenthesis _ | exact gn_twin_re_1 _ | exact gn_twin_re_2 _ | exact gn_quotedata _ | exact gn_law_units _ | exact gn_law_pair _ | exact gn_law_corners _ | exact gn_law_line _ | exact gn_law_told _ | exact gn_law_mail _ | exact gn_CRLF _) ?_))
local macro_rules | `(tactic| walk_at "callWith ref") => `(tactic| (refine' callWithG (by assumption) (by kernel_rfl) ?_))
local macro_rules | `(tactic| walk_at "And") => `(tactic| ((with_reducible show Kpt _ _ ∧ _); refine ⟨Kpt.of (by assumption), ?_⟩))
local macro_rules | `(tactic| walk_at "loadName") => `(tactic| (refine' ldn (by assumption) ?hv ?_; (case hv => ((try dsimp only); (repeat rw [if_neg (by decide)]); first | exact if_pos rfl | assumption))))

def unitOf (n : Int) : Str := ([Str.ofString "(", Str.ofString "(", Str.ofString ")", Str.ofString ")", Str.ofString "\\(", Str.ofString "\\)"] : List Str).getD n.toNat (Str.ofString "")
/-- a new list of texts -/
def EndN (s : Shared) (us : List Str) (r : Result) (s' : Shared) : Prop := ∃ l vs, r = .ok (.ret (.ref l)) ∧ s'.heap.IsList l vs.toArray ∧ s.heap.get? l = none ∧ Strs vs us ∧ Kp s s'
theorem unitsT {prog : Program} {w : World} {A : Around} {s : Shared} {mg mb : Str → Option Value} (G : Gd w mg mb s.heap) (hA : A.depth < recursionLimit) (hh : A.handled = none)
   {l : Addr} {vs : List Value} {ns : List Int} (hl : s.heap.IsList l vs.toArray) (hv : IntsAre vs ns) (hb : ∀ n ∈ ns, 0 ≤ n ∧ n < 6) (hn : ns.length ≤ 1000) :
   codeAny (model prog w) A (.call (.ref 81) ⟨[.ref l], []⟩) (EndN s (ns.map unitOf)) s := by
  w_top off
  refine enterF (binds := [("numbers", .ref l)]) G rfl (by kernel_rfl) (by omega) rfl (locs rfl) rfl rfl rfl (by decide) ?_
  intro L h₁ F
  have N : News s.heap L h₁ [] := News.nil
  have hl1 := hl.at fun o e => F.keep l o e
  (repeat' walk1)
  refine srcC_listDW (pz := fun _ => true) (d := fun r => PyData.str (unitOf r)) hh hl1 hv.areOf F N ?_ ?_ ?_ (by show _ ≤ _; rw [sizeLine_eq]; omega)
  · intro C a' v' s₂ m₂ E' hi hn' hm' htk
    intro htk
    exact wpAny_pure ⟨rfl, Keeps.rf _⟩
  · intro C a' v' s₂ m₂ E' hmem hi _ hn' hm' htk
    obtain ⟨t', rfl⟩ := hi
    have hb' := hb _ hmem
    (repeat' walk1)
    refine wpAny_newTuple ?_
    dsimp only
    have hn₂ := Heap.Ns.keeps hn' (h' := s₂.heap.push { cls := .type "tuple", data := .seq #[.str (Str.ofString "(") s₂.toks, .str (Str.ofString "(") (s₂.toks + 1), .str (Str.ofString ")") (s₂.toks + 1 + 1), .str (Str.ofString ")") (s₂.toks + 1 + 1 + 1), .str (Str.ofString "\\(") (s₂.toks + 1 + 1 + 1 + 1), .str (Str.ofString "\\)") (s₂.toks + 1 + 1 + 1 + 1 + 1)] }) (fun b o e => Heap.get?_push_of_some _ e)
    clear hn'
    (repeat' walk1)
    have hk : ∃ (x : Str) (tk : Tok), ([.str (Str.ofString "(") s₂.toks, .str (Str.ofString "(") (s₂.toks + 1), .str (Str.ofString ")") (s₂.toks + 1 + 1), .str (Str.ofString ")") (s₂.toks + 1 + 1 + 1), .str (Str.ofString "\\(") (s₂.toks + 1 + 1 + 1 + 1), .str (Str.ofString "\\)") (s₂.toks + 1 + 1 + 1 + 1 + 1)] : List Value)[a'.toNat]? = some (.str x tk) ∧ x = unitOf a' := by
      obtain ⟨h0, h6⟩ := hb'
      obtain ⟨k, rfl⟩ : ∃ k : Nat, a' = k := ⟨a'.toNat, by omega⟩
      match k, h6 with
      | 0, _ => exact ⟨_, _, rfl, rfl⟩
      | 1, _ => exact ⟨_, _, rfl, rfl⟩
      | 2, _ => exact ⟨_, _, rfl, rfl⟩
      | 3, _ => exact ⟨_, _, rfl, rfl⟩
      | 4, _ => exact ⟨_, _, rfl, rfl⟩
      | 5, _ => exact ⟨_, _, rfl, rfl⟩
      | k + 6, h => exact absurd h (by omega)
    obtain ⟨x, tk, hx, rfl⟩ := hk
    refine item_tupleT (j := a'.toNat) ⟨_, Heap.get?_push_size _ rfl, rfl, _, rfl⟩ (by omega) (by omega) ?_ hx ⟨Carried.str _ _, Keeps.mk' fun b o e => Heap.get?_push_of_some _ e⟩
    have hj : ¬ a' < 0 := by omega
    simp only [seqIndex?, if_neg hj]
    exact if_pos (by simp; omega)
  · intro D ys h' tk F₅ N₅ hD hlD hpl hc
    repeat' walk1
    exact ⟨D, ys, rfl, hlD, hD, strs_carried (by rw [List.filter_eq_self.mpr (fun _ _ => rfl)] at hc; rw [List.map_map]; exact hc), Kp.fr F₅ ⟨rfl, id⟩⟩
end Mine
namespace Mine
/-! the plain law: 1 an open bracket, -1 a closing one, 0 neither -/
def pairK (p : Int × Int) (d : Int) : Int × Int := if d = 1 then (p.1, p.2 + 1) else if d = -1 ∧ p.2 > 0 then (p.1, p.2 - 1) else if d = -1 then (p.1 + 1, p.2) else p
def chkK (o : Option Int) (d : Int) : Option Int := o.bind fun a => if d = 1 then some (a + 1) else if d = -1 then (if a - 1 < 0 then none else some (a - 1)) else some a
def mailK (o : Option (Nat × Nat × Nat)) (d : Int) : Option (Nat × Nat × Nat) := o.bind fun p =>
  if okS p = true then (if d = 1 then some (qn p.1, qn p.2.1, qn p.2.2) else if d = -1 then some (p.1 - 1, p.2.1 - 1, p.2.2 - 1) else some p) else none
def lineK (o : Option (Bool × Nat)) (d : Int) : Option (Bool × Nat) := o.bind fun p => if p.2 ≤ 30 then (if d = 1 then some (true, p.2 + 1) else if d = -1 then (if p.2 = 0 ∨ p.1 = false then none else some (true, p.2 - 1)) else some p) else none
def endK (o : Option Int) : Bool := match o with | some a => decide (a = 0) | none => false
def needOf (p q : Int × Int) : Int :=
  let a := p.2 - p.1
  let b := q.2 - q.1
  max (max (max (max (max (max (max (p.1) (p.1 - a - 2 * b)) (p.1 - 3 * a - 3 * b)) (p.1 - 4 * a - 5 * b)) (q.1 - a)) (q.1 - a - b)) (q.1 - 4 * a - 3 * b)) (q.1 - 4 * a - 4 * b)
def stayOf (p q : Int × Int) : Int := needOf p q + 5 * (p.2 - p.1) + 5 * (q.2 - q.1)
def word1 {α : Type} (x y : List α) : List α := x ++ y ++ y ++ x ++ x ++ y ++ x ++ y ++ y ++ x
def word2 {α : Type} (x y : List α) : List α := x ++ y ++ y ++ x ++ y ++ x ++ x ++ y ++ y ++ x
def rep {α : Type} (n : Int) (a : α) : List α := List.replicate n.toNat a
def behindL {α : Type} (o c : α) (held need stay : Int) : List α := rep (held - need + stay) c ++ rep (need - stay - held) o
def textK (held need stay : Int) (ks : List Int) : List Int := rep held 1 ++ ks ++ behindL 1 (-1) held need stay
def goodW (n s : Int) (ks : List Int) : Bool :=
  endK ((textK n n s ks).foldl chkK (some 0)) &&
  (decide (n ≤ 0) || !endK ((textK (n - 1) n s ks).foldl chkK (some 0))) &&
  (ks.foldl lineK (some (decide (n > 0), n.toNat)) == some (decide (n > 0) || ks.contains 1, s.toNat)) &&
  (ks.foldl mailK (some (n.toNat, n.toNat + 1, n.toNat + 2)) == some (0, s.toNat + 1, s.toNat + 2))
def goodX (x y : List Int) : Bool :=
  let p := x.foldl pairK (0, 0)
  let q := y.foldl pairK (0, 0)
  let n := needOf p q
  let s := stayOf p q
  decide (0 ≤ n) && decide (n ≤ 25) && decide (0 ≤ s) && decide (s ≤ 25) && goodW n s (word1 x y) && goodW n s (word2 x y)
def three : List Int := [1, -1, 0]
def goodAt (a b : Int) : Bool := three.all fun c => three.all fun d => three.all fun e => goodX [a, b, c] [d, e]
theorem good00 : goodAt 1 1 = true := by decide +kernel
theorem good01 : goodAt 1 (-1) = true := by decide +kernel
theorem good02 : goodAt 1 0 = true := by decide +kernel
theorem good10 : goodAt (-1) 1 = true := by decide +kernel
theorem good11 : goodAt (-1) (-1) = true := by decide +kernel
theorem good12 : goodAt (-1) 0 = true := by decide +kernel
theorem good20 : goodAt 0 1 = true := by decide +kernel
theorem good21 : goodAt 0 (-1) = true := by decide +kernel
theorem good22 : goodAt 0 0 = true := by decide +kernel
def kd (n : Int) : Int := if n < 2 then 1 else if n < 4 then -1 else 0
theorem kd_three (n : Int) : kd n ∈ three := by
  unfold kd three
  split
  · simp
  · split <;> simp
theorem good_all (a b c d e : Int) : goodX [kd a, kd b, kd c] [kd d, kd e] = true := by
  have key : ∀ a ∈ three, ∀ b ∈ three, goodAt a b = true := by
    intro a ha b hb
    simp only [three, List.mem_cons, List.not_mem_nil, or_false] at ha hb
    rcases ha with rfl | rfl | rfl <;> rcases hb with rfl | rfl | rfl
    · exact good00
    · exact good01
    · exact good02
    · exact good10
    · exact good11
    · exact good12
    · exact good20
    · exact good21
    · exact good22
  have h := key _ (kd_three a) _ (kd_three b)
  unfold goodAt at h
  exact List.all_eq_true.mp (List.all_eq_true.mp (List.all_eq_true.mp h _ (kd_three c)) _ (kd_three d)) _ (kd_three e)
end Mine
namespace Mine
/-- a tuple's iterator owns no tuple -/
theorem letGo_tupIter {prog : Program} {w : World} {A : Around} {E : Value → Shared → Prop} {s : Shared} {elts : List Expr} {x1 : Nat} {pos : Pos} {I l T : Addr} {i : Nat} {Q : Unit → Shared → Prop} (hit : s.heap.IsTupleIter I l i) (hQ : Q () s) :
    wpAny (model prog w) A (letOwnedTupleGo (.Tuple elts x1 pos) (.ref I) (.ref T)) Q E s := by
  obtain ⟨o, ho, hc, hd⟩ := hit
  unfold letOwnedTupleGo
  refine wpAny_bind (wpAny_load ho ?_)
  rw [hc, hd]
  refine wpAny_of_eq (a := ()) ?_ hQ
  rfl
theorem ints_snoc {vs : List Value} {ns : List Int} (h : IntsAre vs ns) (n : Int) (t : Tok) : IntsAre (vs ++ [.int n t]) (ns ++ [n]) := by
  induction h with
  | nil => exact .cons n t .nil
  | cons m u _ ih => exact .cons m u ih
theorem intsLen {vs : List Value} {ns : List Int} (h : IntsAre vs ns) : vs.length = ns.length := by
  induction h with
  | nil => rfl
  | cons m u _ ih => exact congrArg (· + 1) ih
/-- what stood in the old heap (its objects lie below three new ones) stays when only the new ones change -/
theorem keptOld {h₁ h h' : Heap} {I C D : Addr} (hI : h₁.objs.size ≤ I) (hC : h₁.objs.size ≤ C) (hD : h₁.objs.size ≤ D) (k : Kpt h₁ h)
    (u : ∀ b o, b ≠ I → b ≠ C → b ≠ D → h.get? b = some o → h'.get? b = some o) : Kpt h₁ h' := fun b o e =>
  have hb := Heap.lt_size e
  u b o (Nat.ne_of_lt (Nat.lt_of_lt_of_le hb hI)) (Nat.ne_of_lt (Nat.lt_of_lt_of_le hb hC)) (Nat.ne_of_lt (Nat.lt_of_lt_of_le hb hD)) (k b o e)
def PairsAt (h : Heap) (its : Array Value) (xs : List (Int × Int)) : Prop :=
  its.size = xs.length ∧ ∀ (k : Nat) (p : Int × Int), xs[k]? = some p → ∃ t ti tj, its[k]? = some (.ref t) ∧ h.IsTuple t #[.int p.1 ti, .int p.2 tj]
section
variable {prog : Program} {w : World} {A : Around} {s : Shared} {env : Env}
theorem compPairs {elt iter : Expr} {a b z : Str} {pa pb tp pz : Pos} {kk : Nat} {scope : Scope} {cl : List (Str × Addr)} {pos spos : Pos} {Q : Flow → Shared → Prop} {xs : List (Int × Int)} {f : Int → Int → Int} (hh : A.handled = none)
    (hlen : xs.length ≤ 100)
    (h : wpAny (model prog w) A (eval iter env) (fun xv s₁ => ∃ ax its m₁, xv = .ref ax ∧ s₁.heap.IsTuple ax its ∧ PairsAt s₁.heap its xs ∧ s₁.heap.Ns env.locals m₁ ∧
      (∀ i j C h tk m ti tj, Kpt s₁.heap h → h.Ns C m → m a = some (.int i ti) → m b = some (.int j tj) → (i, j) ∈ xs →
        wpAny (model prog w) A (eval elt (compEnvC scope cl C env)) (fun r s' => ∃ tk' t, r = .int (f i j) t ∧ s' = { s₁ with heap := h, toks := tk' }) (fun _ _ => False) { s₁ with heap := h, toks := tk }) ∧
      (∀ D vs h' tk, (∀ c o, c ≠ env.locals → s₁.heap.get? c = some o → h'.get? c = some o) → h'.Ns env.locals (fun q => if q = z then some (.ref D) else m₁ q) → h'.PlainList D vs.toArray → s₁.heap.get? D = none →
        IntsAre vs (xs.map fun p => f p.1 p.2) → Q .next { s₁ with heap := h', toks := tk })) (fun _ _ => False) s)
    (hz : env.kindOf z = some .local) (hp : (env.scope.kind == .class || (env.scope.kind == .module && env.locals != env.globals)) = false)
    (hsw : swapsWith (.ListComp elt [⟨.Tuple [.Name a pa, .Name b pb] kk tp, iter, [], 0⟩] scope pos) (some (.Name z pz)) spos.line env = pure true)
    (hclos : closureFor scope env = pure cl) (hcell : ∀ q ∈ scope.names, q.2 ≠ .cell) (hkind : scope.kind = .function)
    (hnames : ∀ q ∈ scope.names, q.2 = .local → scope.names.lookup q.1 = some .local) (ha : scope.names.lookup a = some .local) (hb : scope.names.lookup b = some .local) (hab : a ≠ b)
    (hs : ∀ x, foldedSetIterable iter env x = pure x := by intro _; rfl) :
    wpAny (model prog w) A (exec (.Assign [.Name z pz] (.ListComp elt [⟨.Tuple [.Name a pa, .Name b pb] kk tp, iter, [], 0⟩] scope pos) spos) env) Q (fun _ _ => False) s := by
  rw [exec_Assign_Name_used _ _ _ _ hsw]
  refine wpAny_bind (wpAny_standAt (wpAny_bind ?_))
  show wpAny _ A (do let _ ← comprehension (.ListComp elt [⟨.Tuple [.Name a pa, .Name b pb] kk tp, iter, [], 0⟩] scope pos) scope env _ (newList []) false (eval iter env) (some (assign (.Name z pz) env))) _ _ s
  refine wpAny_bind (wpAny_mono (wpAny_comprehension_free (use := some (assign (.Name z pz) env)) (Q := fun _ s' => Q .next s') rfl hs hclos hkind hnames
    (wpAny_mono h ?_ fun _ _ e => e)) (fun _ s' hq => wpAny_pure (wpAny_pure hq)) fun _ _ e => e)
  rintro xv s₁ ⟨ax, its, m₁, rfl, htup, ⟨hsz, hprs⟩, hns, helt, hfin⟩
  refine wpAny_pyIter_tuple htup ?_
  -- the new list, the comprehension's frame
  refine wpAny_newObj_type (wpAny_newFunctionEnv hcell (by intro y hy; simp at hy) (fun h₁ hns₁ hsb₁ => ?_) hkind)
  dsimp only at hns₁ hsb₁ ⊢
  have gI := Heap.get?_push_size s₁.heap (o := { cls := .type "tuple_iterator", data := .fields #[.ref ax, .int 0 0] }) rfl
  have lt1 : ∀ b o, s₁.heap.get? b = some o → b < s₁.heap.objs.size := fun b o e => Heap.lt_size e
  have zI : (s₁.heap.push { cls := .type "tuple_iterator", data := .fields #[.ref ax, .int 0 0] }).objs.size = s₁.heap.objs.size + 1 := Heap.size_push ..
  have up1 : ∀ b o, s₁.heap.get? b = some o → (s₁.heap.push { cls := .type "tuple_iterator", data := .fields #[.ref ax, .int 0 0] }).get? b = some o := fun b o e => Heap.get?_push_of_some _ e
  generalize s₁.heap.push { cls := .type "tuple_iterator", data := .fields #[.ref ax, .int 0 0] } = P₁ at *
  have gD := Heap.get?_push_size P₁ (o := { cls := .type "list", dict := none, data := .seq ([] : List Value).toArray }) rfl
  have zD : (P₁.push { cls := .type "list", dict := none, data := .seq ([] : List Value).toArray }).objs.size = s₁.heap.objs.size + 2 := by rw [Heap.size_push, zI]
  have up12 : ∀ b o, P₁.get? b = some o → (P₁.push { cls := .type "list", dict := none, data := .seq ([] : List Value).toArray }).get? b = some o := fun b o e => Heap.get?_push_of_some _ e
  rw [zI] at gD ⊢
  generalize P₁.push { cls := .type "list", dict := none, data := .seq ([] : List Value).toArray } = P₂ at *
  rw [zD] at hns₁ hsb₁ ⊢
  have up2 : ∀ b o, P₂.get? b = some o → b ≠ s₁.heap.objs.size + 2 → h₁.get? b = some o := fun b o e hb => hsb₁.extBut b o hb (Heap.get?_push_of_some _ e)
  have kept₁ : Kpt s₁.heap h₁ := fun b o e => up2 b o (up12 b o (up1 b o e)) (Nat.ne_of_lt (Nat.lt_add_right 2 (lt1 b o e)))
  have hI₁ : h₁.IsTupleIter s₁.heap.objs.size ax 0 := ⟨_, up2 _ _ (up12 _ _ gI) (Nat.ne_of_lt (Nat.lt_add_of_pos_right (by decide))), rfl, rfl⟩
  have hD₁ : h₁.PlainList (s₁.heap.objs.size + 1) #[] := ⟨_, up2 _ _ gD (Nat.ne_of_lt (Nat.lt_succ_self _))⟩
  clear up1 up12 up2 gI gD zI zD hsb₁ lt1
  have W := Walks.tuple (prog := prog) (w := w) hh s₁.heap.objs.size ax (Nat.ne_of_lt (by obtain ⟨_, e, _⟩ := htup; exact Heap.lt_size e)) its
  have tupUp : ∀ {h' : Heap}, Kpt s₁.heap h' → h'.IsTuple ax its := fun k => htup.at fun o e => k ax o e
  have loop : ∀ tk₀, codeAny (model prog w) A (.compLoop (.ListComp elt [⟨.Tuple [.Name a pa, .Name b pb] kk tp, iter, [], 0⟩] scope pos) 0 (.ref s₁.heap.objs.size) (.ref (s₁.heap.objs.size + 1)) (compEnvC scope cl (s₁.heap.objs.size + 2) env))
      (compPost (model prog w) A (fun _ _ => False) (some (assign (.Name z pz) env)) (fun _ s' => Q .next s') (.ref (s₁.heap.objs.size + 1)) (s₁.heap.objs.size + 2)) { s₁ with heap := h₁, toks := tk₀ } := by
    intro tk₀
    refine LCp.codeAny_compLoop_pair
      (fun k s' => ∃ h' tk i vs m', s' = { s₁ with heap := h', toks := tk } ∧ i ≤ xs.length ∧ k = xs.length + 1 - i ∧ h'.IsTupleIter s₁.heap.objs.size ax i ∧ h'.PlainList (s₁.heap.objs.size + 1) (List.toArray vs) ∧
        IntsAre vs ((xs.take i).map fun p => f p.1 p.2) ∧ h'.Ns (s₁.heap.objs.size + 2) m' ∧ Kpt s₁.heap h') ?_ (xs.length + 1)
      ⟨h₁, tk₀, 0, [], _, rfl, Nat.zero_le _, rfl, hI₁, hD₁, .nil, hns₁, kept₁⟩
    rintro k s' ⟨h', tk, i, vs, m', rfl, hi, rfl, hit, hD, hvs, hn', kept⟩
    by_cases hlt : i < xs.length
    · refine W.item i _ _ _ (hsz ▸ hlt) ⟨hit, tupUp kept⟩ fun v h₂ tk₂ hPv hst₂ hk₂ => ?_
      obtain ⟨t, ti, tj, hv, ht⟩ := hprs i xs[i] (List.getElem?_eq_getElem hlt)
      obtain rfl : v = .ref t := Option.some.inj (hPv.symm.trans hv)
      have mem : (xs[i].1, xs[i].2) ∈ xs := List.getElem_mem hlt
      have step : ((xs.take (i + 1)).map fun p => f p.1 p.2) = ((xs.take i).map fun p => f p.1 p.2) ++ [f xs[i].1 xs[i].2] := by
        rw [List.take_succ_eq_append_getElem hlt, List.map_append]; rfl
      have kept₂ : Kpt s₁.heap h₂ := keptOld (I := s₁.heap.objs.size) (C := s₁.heap.objs.size) (D := s₁.heap.objs.size) (Nat.le_refl _) (Nat.le_refl _) (Nat.le_refl _) kept fun b o h1 _ _ e => hk₂ b o (by simpa using h1) e
      refine letGo_tupIter hst₂.1 ?_
      refine wpAny_assign_Tuple hh (ht.at fun o e => kept₂ t o e) rfl rfl fun h₃ he => ?_
      have he' : ∀ b o, h₂.get? b = some o → h₃.get? b = some o := fun b o e => he b o (Nat.ne_of_lt (Heap.lt_size e)) e
      have nCI : s₁.heap.objs.size + 2 ≠ s₁.heap.objs.size := Nat.ne_of_gt (Nat.lt_add_of_pos_right (by decide))
      have hn₃ : h₃.Ns (s₁.heap.objs.size + 2) m' := hn'.at' fun o e => he' _ o (hk₂ _ o (by simpa using nCI) e)
      refine assignInOrder_cons (wpAny_assign_Name (wpAny_storeName_local (lookup_relabel_local ha) hn₃ (fun h₄ hn₄ hs₄ => ?_) (by simp [compEnvC, relabel, hkind])))
      refine assignInOrder_cons (wpAny_assign_Name (wpAny_storeName_local (lookup_relabel_local hb) hn₄ (fun h₅ hn₅ hs₅ => ?_) (by simp [compEnvC, relabel, hkind])))
      refine assignInOrder_nil ?_
      have nDI : s₁.heap.objs.size + 1 ≠ s₁.heap.objs.size := Nat.succ_ne_self _
      have nDC : s₁.heap.objs.size + 1 ≠ s₁.heap.objs.size + 2 := Nat.ne_of_lt (Nat.lt_succ_self _)
      have at5 : ∀ b o, b ≠ s₁.heap.objs.size + 2 → h₂.get? b = some o → h₅.get? b = some o := fun b o q e => hs₅.extBut b o q (hs₄.extBut b o q (he' b o e))
      have kept₅ : Kpt s₁.heap h₅ := keptOld (I := s₁.heap.objs.size + 2) (C := s₁.heap.objs.size + 2) (D := s₁.heap.objs.size + 2) (Nat.le_add_right _ _) (Nat.le_add_right _ _) (Nat.le_add_right _ _) kept₂ fun b o q _ _ e => at5 b o q e
      have hit₅ : h₅.IsTupleIter s₁.heap.objs.size ax (i + 1) := hst₂.1.at fun o e => at5 _ o nCI.symm e
      have hD₅ : h₅.PlainList (s₁.heap.objs.size + 1) (List.toArray vs) := hD.at fun o e => at5 _ o nDC (hk₂ _ o (by simp) e)
      refine wpAny_mono (helt _ _ _ h₅ _ _ ti tj kept₅ hn₅ (by simp [hab]) (by simp) mem) ?_ fun _ _ e => e.elim
      rintro r s' ⟨tk', tr, rfl, rfl⟩
      refine wpAny_list_append_plain hD₅ (fun h₆ hD₆ hs₆ => ?_) (by rw [List.size_toArray, intsLen hvs, List.length_map, List.length_take, sizeLine_eq]; omega)
      refine ⟨xs.length + 1 - (i + 1), by omega, h₆, tk', i + 1, vs ++ [.int (f xs[i].1 xs[i].2) tr], _, rfl, hlt, rfl, hit₅.at fun o e => hs₆.extBut _ o nDI.symm e, ?_, ?_, hn₅.sameBut hs₆ nDC.symm, ?_⟩
      · rw [List.push_toArray] at hD₆; exact hD₆
      · rw [step]; exact ints_snoc hvs _ _
      · exact keptOld (I := s₁.heap.objs.size + 1) (C := s₁.heap.objs.size + 1) (D := s₁.heap.objs.size + 1) (Nat.le_add_right _ _) (Nat.le_add_right _ _) (Nat.le_add_right _ _) kept₅ fun b o q _ _ e => hs₆.extBut b o q e
    · have hin : i = xs.length := by omega
      subst hin
      rw [List.take_length] at hvs
      refine W.done _ _ _ ⟨hsz ▸ hit, tupUp kept⟩ fun h₂ tk₂ hk₂ => ?_
      show wpAny _ A (assign (.Name z pz) env (.ref (s₁.heap.objs.size + 1))) _ _ _
      have kept₂ : Kpt s₁.heap h₂ := keptOld (I := s₁.heap.objs.size) (C := s₁.heap.objs.size) (D := s₁.heap.objs.size) (Nat.le_refl _) (Nat.le_refl _) (Nat.le_refl _) kept fun b o h1 _ _ e => hk₂ b o (by simpa using h1) e
      have nCI : s₁.heap.objs.size + 2 ≠ s₁.heap.objs.size := Nat.ne_of_gt (Nat.lt_add_of_pos_right (by decide))
      have hLs : env.locals < s₁.heap.objs.size := hns.lt
      refine wpAny_assign_Name (wpAny_storeName_local hz (hns.at' fun o e => kept₂ _ o e) (fun h₃ hn₃ hs₃ => ?_) hp)
      refine ⟨m', (hn'.at' fun o e => hk₂ _ o (by simp) e).sameBut hs₃ (Nat.ne_of_gt (Nat.lt_add_right 2 hLs)), fun h₄ hs₄ => ?_⟩
      refine hfin _ vs h₄ _ (fun c o hc e => ?_) (hn₃.sameBut hs₄ (Nat.ne_of_lt (Nat.lt_add_right 2 hLs))) ?_ (Heap.get?_none_of_le (Nat.le_add_right _ _)) hvs
      · exact hs₄.extBut _ _ (Nat.ne_of_lt (Nat.lt_add_right 2 (Heap.lt_size e))) (hs₃.extBut _ _ hc (kept₂ _ _ e))
      · exact hD.at fun o e => hs₄.extBut _ _ (Nat.ne_of_lt (Nat.lt_succ_self _)) (hs₃.extBut _ _ (Nat.ne_of_gt (Nat.lt_add_right 1 hLs)) (hk₂ _ o (by simp) e))
  exact codeAny_compStart_list (loop _) (W.self 0 _ _ _ ⟨hI₁, tupUp kept₁⟩ (loop _))
end
end Mine
namespace Mine
theorem pair_bd (us : List Str) : ∀ p : Int × Int, 0 ≤ p.1 → 0 ≤ p.2 → 0 ≤ (us.foldl pairF p).1 ∧ 0 ≤ (us.foldl pairF p).2 ∧ (us.foldl pairF p).1 + (us.foldl pairF p).2 ≤ p.1 + p.2 + us.length := by
  induction us with
  | nil => intro p h1 h2; exact ⟨h1, h2, by simp⟩
  | cons u r ih =>
    intro p h1 h2
    have hb : 0 ≤ (pairF p u).1 ∧ 0 ≤ (pairF p u).2 ∧ (pairF p u).1 + (pairF p u).2 ≤ p.1 + p.2 + 1 := by
      unfold pairF
      split
      · exact ⟨h1, by simp; omega, by simp; omega⟩
      · split
        · rename_i h; exact ⟨h1, by have := h.2; simp; omega, by simp; omega⟩
        · split
          · exact ⟨by simp; omega, h2, by simp; omega⟩
          · exact ⟨h1, h2, by omega⟩
    obtain ⟨a, b, c⟩ := ih (pairF p u) hb.1 hb.2.1
    exact ⟨a, b, by simp only [List.foldl_cons, List.length_cons]; omega⟩
section
variable {prog : Program} {w : World} {A : Around} {s : Shared} {mg mb : Str → Option Value} {R : Result → Shared → Prop}
theorem enterC {f : Addr} {name : Str} {params : Arguments} {body : List Stmt} {scope : Scope} {pm cd doc : Value} {args : List Value} {binds : List (Str × Value)}
    (G : Gd w mg mb s.heap)
    (hK : (hd.heap_39 w.params).lookup f = some { cls := .type "function", data := .func (docDef name params body scope pm cd doc) })
    (hcd : codeIn (hd.heap_39 w.params) cd name = true)
    (hroom : A.depth < recursionLimit)
    (hbind : bindArgs (docDef name params body scope pm cd doc) ⟨args, []⟩ = pure binds)
    (hloc : ∀ x ∈ binds, scope.names.lookup x.1 = some .local)
    (hco : scope.isCoroutine = false) (hgen : scope.isGenerator = false) (hk : scope.kind = .function)
    (h : ∀ L h₁ tk, Fr s.heap L h₁ (bindL (envOfC name scope L f cd).kindOf binds fun _ => none) → Cl L (cellsFrom (L + 1) scope.names []) h₁ (bindC (envOfC name scope L f cd).kindOf binds fun _ => none) →
      wpAny (model prog w) (A.deeper (envOfC name scope L f cd)) (execs body (envOfC name scope L f cd))
        (fun f s' => R (.ok (.ret (match f with | .ret v => v | _ => .none))) s') (fun _ _ => False)
        { s with heap := h₁, toks := tk }) :
    codeAny (model prog w) A (.call (.ref f) ⟨args, []⟩) R s :=
  call_cells_ret hroom (G.X _ _ hK) rfl G.nolimit (codeRec_of G.X hcd) hbind (fun x hx => .inl (hloc x hx)) (fun h₁ tk F X => h _ h₁ tk F X) hco hgen hk
end
/-- a call that gives two ints -/
theorem callT2 {prog : Program} {w : World} {A : Around} {s : Shared} {f : Value} {args : List Value} {P : Int → Int → Prop} {Q : Value → Shared → Prop} {E : Value → Shared → Prop}
    (C : codeAny (model prog w) A (.call f ⟨args, []⟩) (EndT2 s P) s)
    (h : ∀ t a b ta tb s', Ob s s' → Kpt s.heap s'.heap → s'.heap.IsTuple t #[.int a ta, .int b tb] → P a b → Q (.ref t) s') : wpAny (model prog w) A (call f args) Q E s := by
  refine wpAny_call (codeAny_mono C ?_)
  rintro r s' ⟨t, a, b, ta, tb, rfl, ht, hP, kp⟩
  exact h t a b ta tb s' kp.2 kp.1 ⟨_, ht, rfl, _, rfl⟩ hP
section
variable {M : Model} {A : Around} {E : Value → Shared → Prop} {s : Shared} {w : World} {h₀ : Heap} {L a : Addr} {m mg mb : Str → Option Value} {cn : Str} {cs : Scope} {ccd : Value} {x : Str} {pos : Pos} {v : Value} {Q : Value → Shared → Prop}
theorem ldGC (F : Fr h₀ L s.heap m) (G : Gd w mg mb h₀) (e : nsIn (hd.heap_39 w.params) mainGlobals x = some (some v)) (h : Q v s)
    (hk : cs.kind = .function := by rfl) (hx : (envOfC cn cs L a ccd).kindOf x = some .globalImplicit := by rfl) (hd : (x == ("__debug__" : Str)) = false := by decide) :
    wpAny M A (eval (.Name x pos) (envOfC cn cs L a ccd)) Q E s := Name_function_global hk hx (loadGlobal_global (env := envOfC cn cs L a ccd) (G.g.keeps F.keep) (mg_of G.X G.g e) h) hd
theorem ldBC (F : Fr h₀ L s.heap m) (G : Gd w mg mb h₀) (e : nsIn (hd.heap_39 w.params) mainGlobals x = some none) (hb : bootBuiltins x = some v) (h : Q v s) (hn : x ≠ "__name__" := by decide)
    (hk : cs.kind = .function := by rfl) (hx : (envOfC cn cs L a ccd).kindOf x = some .globalImplicit := by rfl) (hd : (x == ("__debug__" : Str)) = false := by decide) :
    wpAny M A (eval (.Name x pos) (envOfC cn cs L a ccd)) Q E s := Name_function_global hk hx (loadGlobal_builtin (env := envOfC cn cs L a ccd) (G.g.keeps F.keep) (mg_none_of G.X G.g e) (G.b.keeps F.keep) ((G.blt x hn).trans hb) h) hd
end
theorem evTup4 {M : Model} {A : Around} {E : Value → Shared → Prop} {s : Shared} {env : Env} {i₁ j₁ i₂ j₂ i₃ j₃ i₄ j₄ : Int} {a₁ b₁ a₂ b₂ a₃ b₃ a₄ b₄ t₁ t₂ t₃ t₄ t : Pos} {Q : Value → Shared → Prop}
    (h : ∀ h' tk ax its, Kpt s.heap h' → h'.IsTuple ax its → PairsAt h' its [(i₁, j₁), (i₂, j₂), (i₃, j₃), (i₄, j₄)] → Q (.ref ax) { s with heap := h', toks := tk }) :
    wpAny M A (eval (.Tuple [.Tuple [.Constant (.int i₁) 0 a₁, .Constant (.int j₁) 0 b₁] 0 t₁, .Tuple [.Constant (.int i₂) 0 a₂, .Constant (.int j₂) 0 b₂] 0 t₂,
      .Tuple [.Constant (.int i₃) 0 a₃, .Constant (.int j₃) 0 b₃] 0 t₃, .Tuple [.Constant (.int i₄) 0 a₄, .Constant (.int j₄) 0 b₄] 0 t₄] 0 t) env) Q E s := by
  w_top off
  have tup : ∀ (h : Heap) (v₁ v₂ : Value), (h.push { cls := .type "tuple", data := .seq [v₁, v₂].toArray }).IsTuple h.objs.size #[v₁, v₂] := fun h v₁ v₂ => ⟨_, Heap.get?_push_size _ rfl, rfl, _, rfl⟩
  have up : ∀ (h : Heap) (o : Obj), Kpt h (h.push o) := fun h o b ob e => Heap.get?_push_of_some _ e
  (repeat walk1)
  refine wpAny_newTuple ?_
  have T₁ := tup s.heap (.int i₁ s.toks) (.int j₁ (s.toks + 1))
  have K₁ := up s.heap { cls := .type "tuple", data := .seq [.int i₁ s.toks, .int j₁ (s.toks + 1)].toArray }
  dsimp only at T₁ K₁ ⊢
  generalize s.heap.objs.size = r₁ at *
  generalize s.heap.push _ = h₁ at *
  (repeat walk1)
  refine wpAny_newTuple ?_
  have T₂ := tup h₁ (.int i₂ (s.toks + 1 + 1)) (.int j₂ (s.toks + 1 + 1 + 1))
  have K₂ := up h₁ { cls := .type "tuple", data := .seq [.int i₂ (s.toks + 1 + 1), .int j₂ (s.toks + 1 + 1 + 1)].toArray }
  dsimp only at T₂ K₂ ⊢
  generalize h₁.objs.size = r₂ at *
  generalize h₁.push _ = h₂ at *
  (repeat walk1)
  refine wpAny_newTuple ?_
  have T₃ := tup h₂ (.int i₃ (s.toks + 1 + 1 + 1 + 1)) (.int j₃ (s.toks + 1 + 1 + 1 + 1 + 1))
  have K₃ := up h₂ { cls := .type "tuple", data := .seq [.int i₃ (s.toks + 1 + 1 + 1 + 1), .int j₃ (s.toks + 1 + 1 + 1 + 1 + 1)].toArray }
  dsimp only at T₃ K₃ ⊢
  generalize h₂.objs.size = r₃ at *
  generalize h₂.push _ = h₃ at *
  (repeat walk1)
  refine wpAny_newTuple ?_
  have T₄ := tup h₃ (.int i₄ (s.toks + 1 + 1 + 1 + 1 + 1 + 1)) (.int j₄ (s.toks + 1 + 1 + 1 + 1 + 1 + 1 + 1))
  have K₄ := up h₃ { cls := .type "tuple", data := .seq [.int i₄ (s.toks + 1 + 1 + 1 + 1 + 1 + 1), .int j₄ (s.toks + 1 + 1 + 1 + 1 + 1 + 1 + 1)].toArray }
  dsimp only at T₄ K₄ ⊢
  generalize h₃.objs.size = r₄ at *
  generalize h₃.push _ = h₄ at *
  (repeat walk1)
  refine wpAny_newTuple ?_
  have K₅ := up h₄ { cls := .type "tuple", data := .seq [.ref r₁, .ref r₂, .ref r₃, .ref r₄].toArray }
  refine h _ _ _ #[.ref r₁, .ref r₂, .ref r₃, .ref r₄] (fun b o e => K₅ _ _ (K₄ _ _ (K₃ _ _ (K₂ _ _ (K₁ _ _ e))))) ⟨_, Heap.get?_push_size _ rfl, rfl, _, rfl⟩ ⟨rfl, ?_⟩
  intro k p hk
  match k, hk with
  | 0, hk => cases hk; exact ⟨r₁, _, _, rfl, T₁.at fun o e => K₅ _ _ (K₄ _ _ (K₃ _ _ (K₂ _ _ e)))⟩
  | 1, hk => cases hk; exact ⟨r₂, _, _, rfl, T₂.at fun o e => K₅ _ _ (K₄ _ _ (K₃ _ _ e))⟩
  | 2, hk => cases hk; exact ⟨r₃, _, _, rfl, T₃.at fun o e => K₅ _ _ (K₄ _ _ e)⟩
  | 3, hk => cases hk; exact ⟨r₄, _, _, rfl, T₄.at fun o e => K₅ _ _ e⟩
end Mine
namespace Mine
local macro_rules | `(tactic| walk_at "callWith ref") => `(tactic| (refine' callWithG (by assumption) (by kernel_rfl) ?_))
local macro_rules | `(tactic| walk_at "And") => `(tactic| ((with_reducible show Kpt _ _ ∧ _); refine ⟨Kpt.of (by assumption), ?_⟩))
local macro_rules | `(tactic| walk_at "eval Name") => `(tactic| (refine' ldLoc (by assumption) ?hv ?_; (case hv => ((try dsimp only); (repeat rw [if_neg (by decide)]); first | exact if_pos rfl | assumption))))
local macro_rules | `(tactic| walk_at "eval Name") => `(tactic| (refine' ldC (by assumption) (by rfl) ?hv ?_; (case hv => ((try dsimp only); (repeat rw [if_neg (by decide)]); first | exact if_pos rfl | assumption))))
local macro_rules | `(tactic| walk_at "eval Name") => `(tactic| (refine' ldGC (by assumption) (by assumption) (by exact gn_law_pair _) ?_))
theorem corners {prog : Program} {w : World} {A : Around} {s : Shared} {mg mb : Str → Option Value} (G : Gd w mg mb s.heap) (hA : A.depth + 5 < recursionLimit) (hh : A.handled = none)
   {l₁ l₂ : Addr} {vs₁ vs₂ : List Value} {us₁ us₂ : List Str} (hl₁ : s.heap.IsList l₁ vs₁.toArray) (hu₁ : StrsAre vs₁ us₁) (hl₂ : s.heap.IsList l₂ vs₂.toArray) (hu₂ : StrsAre vs₂ us₂) (hn₁ : us₁.length ≤ 100) (hn₂ : us₂.length ≤ 100) :
   codeAny (model prog w) A (.call (.ref 93) ⟨[.ref l₁, .ref l₂], []⟩) (EndT2 s fun a b => a = needOf (us₁.foldl pairF (0, 0)) (us₂.foldl pairF (0, 0)) ∧ b = stayOf (us₁.foldl pairF (0, 0)) (us₂.foldl pairF (0, 0))) s := by
  w_top off
  refine enterC (binds := [("x", .ref l₁), ("y", .ref l₂)]) G rfl (by kernel_rfl) (by omega) rfl (locs rfl) rfl rfl rfl ?_
  intro L h₁ tk F X
  obtain ⟨m, ⟨hx, hy⟩, F⟩ : ∃ m, (m (Str.ofString "x") = some (.ref l₁) ∧ m (Str.ofString "y") = some (.ref l₂)) ∧ Fr s.heap L h₁ m := ⟨_, ⟨rfl, rfl⟩, F⟩
  obtain ⟨cm, X⟩ : ∃ cm, Cl L _ h₁ cm := ⟨_, X⟩
  refine wpAny_execs_cons ?_
  walk1
  walk1
  walk1
  walk1
  walk1
  walk1
  walk1
  walk1
  refine callT2 (pair (by exact Gd.fr G F) (by show A.depth + 1 < _; omega) (by exact hh) (by exact hl₁.at fun o e => F.keep _ o e) hu₁) ?_
  intro t a b ta tb s₂ ob₂ k₂ ht hP
  have F₂ := Fr.kp F k₂
  have X₂ := X.keeps k₂
  clear F X
  try dsimp only
  refine wpAny_assign_Tuple hh ht rfl rfl fun h₃ he => ?_
  have k₃ : Kpt s₂.heap h₃ := fun b o e => he b o (Nat.ne_of_lt (Heap.lt_size e)) e
  have F₃ := Fr.kp F₂ k₃
  have X₃ := X₂.keeps k₃
  clear F₂ X₂ ht
  refine assignInOrder_cons (wpAny_assign_Name (stC F₃ X₃ rfl fun h₄ F₄ X₄ => ?_))
  refine assignInOrder_cons (wpAny_assign_Name (stLoc F₄ X₄ fun h₅ F₅ X₅ => ?_))
  refine assignInOrder_nil ?_
  clear F₃ X₃ F₄ X₄
  dsimp only
  refine wpAny_execs_cons ?_
  walk1
  walk1
  walk1
  walk1
  walk1
  walk1
  walk1
  walk1
  refine callT2 (pair (by exact Gd.fr G F₅) (by show A.depth + 1 < _; omega) (by exact hh) (by exact hl₂.at fun o e => F₅.keep _ o e) hu₂) ?_
  intro t' c d tc td s₆ ob₆ k₆ ht' hP'
  have F₆ := Fr.kp F₅ k₆
  have X₆ := X₅.keeps k₆
  clear F₅ X₅
  try dsimp only
  refine wpAny_assign_Tuple hh ht' rfl rfl fun h₇ he' => ?_
  have k₇ : Kpt s₆.heap h₇ := fun b o e => he' b o (Nat.ne_of_lt (Heap.lt_size e)) e
  have F₇ := Fr.kp F₆ k₇
  have X₇ := X₆.keeps k₇
  clear F₆ X₆ ht'
  refine assignInOrder_cons (wpAny_assign_Name (stC F₇ X₇ rfl fun h₈ F₈ X₈ => ?_))
  refine assignInOrder_cons (wpAny_assign_Name (stLoc F₈ X₈ fun h₉ F₉ X₉ => ?_))
  refine assignInOrder_nil ?_
  clear F₇ X₇ F₈ X₈
  dsimp only
  refine wpAny_execs_cons ?_
  refine wpAny_Assign_Name ?_
  (repeat walk1)
  refine stC F₉ X₉ rfl fun h₁₀ F₁₀ X₁₀ => ?_
  clear F₉ X₉
  dsimp only
  refine wpAny_execs_cons ?_
  refine wpAny_Assign_Name ?_
  (repeat walk1)
  refine stC F₁₀ X₁₀ rfl fun h₁₁ F₁₁ X₁₁ => ?_
  clear F₁₀ X₁₀
  dsimp only
  refine wpAny_execs_cons ?_
  with_reducible refine' compPairs (xs := [(0, 0), (1, 2), (3, 3), (4, 5)]) (f := fun i j => a - i * (b - a) - j * (d - c)) ?hh ?len ?hm ?hz ?hp ?hsw ?hclos ?hcell ?hkind ?hnames ?ha ?hb ?hab ?hs
  case hh => exact hh
  case len => decide
  case hz => rfl
  case hp => rfl
  case hsw => with_unfolding_all rfl
  case hclos => with_unfolding_all rfl
  case hcell => decide
  case hkind => rfl
  case hnames => decide
  case ha => rfl
  case hb => rfl
  case hab => decide
  case hs => intro _; rfl
  with_reducible refine evTup4 ?_
  intro h₁₂ tk₁₂ ax its k₁₂ htup hprs
  have F₁₂ := Fr.kp F₁₁ k₁₂
  have X₁₂ := X₁₁.keeps k₁₂
  refine ⟨ax, its, _, rfl, htup, hprs, F₁₂.ns, ?_, ?_⟩
  · intro i j C h tk' mi ti tj kh hnC hi hj hmem
    have cu : h.IsCell (L + 1) (some (.int a ta)) := (X₁₂.cell (Str.ofString "u") _ rfl).keeps kh
    have cp : h.IsCell (L + 3) (some (.int (b - a) _)) := (X₁₂.cell (Str.ofString "p") _ rfl).keeps kh
    have cq : h.IsCell (L + 4) (some (.int (d - c) _)) := (X₁₂.cell (Str.ofString "q") _ rfl).keeps kh
    obtain ⟨i0, i5, j0, j5⟩ : 0 ≤ i ∧ i ≤ 5 ∧ 0 ≤ j ∧ j ≤ 5 := by
      simp only [List.mem_cons, Prod.mk.injEq, List.not_mem_nil, or_false] at hmem
      omega
    clear F₁₁ F₁₂ X₁₁ X₁₂
    refine wpAny_mono (Q := fun r s' => ∃ tk' t, r = .int (a - i * (b - a) - j * (d - c)) t ∧ s' = { s₆ with heap := h, toks := tk' }) ?_ (fun _ _ x => x) fun _ _ e => e
    walk1
    walk1
    refine wpAny_Name (wpAny_loadName_cell rfl rfl rfl cu ?_) rfl
    walk1
    walk1
    refine wpAny_Name (wpAny_loadName_cell rfl rfl rfl cp ?_) rfl
    walk1
    walk1
    walk1
    walk1
    refine wpAny_Name (wpAny_loadName_cell rfl rfl rfl cq ?_) rfl
    walk1
    walk1
    exact ⟨_, _, rfl, rfl⟩
  · intro D vs h₁₃ tk₁₃ k₁₃ n₁₃ hD D₀ hvs
    have neL : ∀ b o, s.heap.get? b = some o → b ≠ L := fun b o e => Nat.ne_of_lt (Nat.lt_of_lt_of_le (Heap.lt_size e) F₁₂.above)
    have F₁₃ : Fr s.heap L h₁₃ _ := ⟨n₁₃, fun b o e => k₁₃ b o (neL b o e) (F₁₂.keep b o e), F₁₂.above⟩
    have X₁₃ := X₁₂.extBut k₁₃ (Nat.le_refl _)
    have DL : D ≠ L := fun e => by obtain ⟨o, _, _, eo, _⟩ := F₁₂.ns; rw [← e, D₀] at eo; cases eo
    have Ds : s.heap.get? D = none := by
      cases e : s.heap.get? D with
      | none => rfl
      | some o => rw [F₁₂.keep D o e] at D₀; cases D₀
    clear n₁₃ k₁₃ F₁₁ F₁₂ X₁₁ X₁₂ htup hprs D₀ k₁₂
    dsimp only at F₁₃ X₁₃ ⊢
    refine wpAny_execs_cons ?_
    with_reducible refine' compPairs (xs := [(1, 0), (1, 1), (4, 3), (4, 4)]) (f := fun i j => c - i * (b - a) - j * (d - c)) ?hh2 ?len2 ?hm2 ?hz2 ?hp2 ?hsw2 ?hclos2 ?hcell2 ?hkind2 ?hnames2 ?ha2 ?hb2 ?hab2 ?hs2
    case hh2 => exact hh
    case len2 => decide
    case hz2 => rfl
    case hp2 => rfl
    case hsw2 => with_unfolding_all rfl
    case hclos2 => with_unfolding_all rfl
    case hcell2 => decide
    case hkind2 => rfl
    case hnames2 => decide
    case ha2 => rfl
    case hb2 => rfl
    case hab2 => decide
    case hs2 => intro _; rfl
    with_reducible refine evTup4 ?_
    intro h₁₄ tk₁₄ ax its k₁₄ htup hprs
    have F₁₄ := Fr.kp F₁₃ k₁₄
    have X₁₄ := X₁₃.keeps k₁₄
    replace hD : h₁₄.PlainList D vs.toArray := hD.at fun o e => k₁₄ D o e
    refine ⟨ax, its, _, rfl, htup, hprs, F₁₄.ns, ?_, ?_⟩
    · intro i j C h tk' mi ti tj kh hnC hi hj hmem
      have cu : h.IsCell (L + 2) (some (.int c tc)) := (X₁₄.cell (Str.ofString "v") _ rfl).keeps kh
      have cp : h.IsCell (L + 3) (some (.int (b - a) _)) := (X₁₄.cell (Str.ofString "p") _ rfl).keeps kh
      have cq : h.IsCell (L + 4) (some (.int (d - c) _)) := (X₁₄.cell (Str.ofString "q") _ rfl).keeps kh
      obtain ⟨i0, i5, j0, j5⟩ : 0 ≤ i ∧ i ≤ 5 ∧ 0 ≤ j ∧ j ≤ 5 := by
        simp only [List.mem_cons, Prod.mk.injEq, List.not_mem_nil, or_false] at hmem
        omega
      clear F₁₃ F₁₄ X₁₃ X₁₄
      refine wpAny_mono (Q := fun r s' => ∃ tk' t, r = .int (c - i * (b - a) - j * (d - c)) t ∧ s' = { s₆ with heap := h, toks := tk' }) ?_ (fun _ _ x => x) fun _ _ e => e
      walk1
      walk1
      refine wpAny_Name (wpAny_loadName_cell rfl rfl rfl cu ?_) rfl
      walk1
      walk1
      refine wpAny_Name (wpAny_loadName_cell rfl rfl rfl cp ?_) rfl
      walk1
      walk1
      walk1
      walk1
      refine wpAny_Name (wpAny_loadName_cell rfl rfl rfl cq ?_) rfl
      walk1
      walk1
      exact ⟨_, _, rfl, rfl⟩
    · intro D' vs' h₁₅ tk₁₅ k₁₅ n₁₅ hD' D₀' hvs'
      have F₁₅ : Fr s.heap L h₁₅ _ := ⟨n₁₅, fun b o e => k₁₅ b o (neL b o e) (F₁₄.keep b o e), F₁₄.above⟩
      have X₁₅ := X₁₄.extBut k₁₅ (Nat.le_refl _)
      have DL' : D' ≠ L := fun e => by obtain ⟨o, _, _, eo, _⟩ := F₁₄.ns; rw [← e, D₀'] at eo; cases eo
      have Ds' : s.heap.get? D' = none := by
        cases e : s.heap.get? D' with
        | none => rfl
        | some o => rw [F₁₄.keep D' o e] at D₀'; cases D₀'
      replace hD : h₁₅.PlainList D vs.toArray := hD.at fun o e => k₁₅ D o DL e
      clear n₁₅ k₁₅ F₁₃ F₁₄ X₁₃ X₁₄ htup hprs D₀' k₁₄
      dsimp only at F₁₅ X₁₅ ⊢
      have cp : h₁₅.IsCell (L + 3) (some (.int (b - a) _)) := X₁₅.cell (Str.ofString "p") _ rfl
      have cq : h₁₅.IsCell (L + 4) (some (.int (d - c) _)) := X₁₅.cell (Str.ofString "q") _ rfl
      have none_of : ∀ k, s.heap.get? (L + k) = none := fun k => Heap.get?_none_of_le (Nat.le_trans F₁₅.above (Nat.le_add_right _ _))
      obtain ⟨op, gp, dp⟩ := cp
      obtain ⟨oq, gq, dq⟩ := cq
      obtain ⟨n₁, g₁⟩ := hD
      obtain ⟨n₂, g₂⟩ := hD'
      have N₁₅ : News s.heap L h₁₅ [(L + 3, op), (L + 4, oq), (D, { cls := .type "list", data := .seq vs.toArray n₁ }), (D', { cls := .type "list", data := .seq vs'.toArray n₂ })] := by
        intro p hp
        simp only [List.mem_cons, List.not_mem_nil, or_false] at hp
        rcases hp with rfl | rfl | rfl | rfl
        · exact ⟨gp, Nat.ne_of_gt (Nat.lt_add_of_pos_right (by decide)), none_of _⟩
        · exact ⟨gq, Nat.ne_of_gt (Nat.lt_add_of_pos_right (by decide)), none_of _⟩
        · exact ⟨g₁, DL, Ds⟩
        · exact ⟨g₂, DL', Ds'⟩
      clear X₁₅ gp gq
      refine wpAny_execs_cons ?_
      refine wpAny_Assign_Name ?_
      walk1
      refine ldBC F₁₅ G (gb_max _) boot_max ?_
      (repeat walk1)
      rename News _ _ _ _ => N₁₆
      rename Fr s.heap L _ _ => F₁₆
      have hl₁₆ : Heap.IsList _ h₁₅.objs.size (vs ++ vs').toArray := ⟨_, (N₁₆ _ (.head _)).1, rfl, _, rfl⟩
      refine max_list_N (by exact hh) F₁₆ N₁₆ hl₁₆ (hvs.append hvs') (by simp) ?_
      intro h₁₇ M tM tk₁₇ F₁₇ N₁₇ hM hle
      clear F₁₅ F₁₆ N₁₅ N₁₆ hl₁₆
      refine stLocN F₁₇ N₁₇ fun h₁₈ F₁₈ N₁₈ => ?_
      clear F₁₇ N₁₇
      dsimp only
      refine wpAny_execs_cons ?_
      (repeat walk1)
      rename News _ _ _ _ => N₁₉
      rename Fr s.heap L _ _ => F₁₉
      have hneed : M = needOf (a, b) (c, d) := by
        simp only [List.map_cons, List.map_nil, List.cons_append, List.nil_append, List.mem_cons, List.not_mem_nil, or_false, forall_eq_or_imp, forall_eq] at hM hle
        unfold needOf
        simp only
        omega
      refine ⟨_, _, _, _, _, rfl, N₁₉.get (.head _), ⟨?_, ?_⟩, Kp.fr F₁₉ (Ob.trans (Ob.trans ⟨rfl, id⟩ ob₂) (Ob.trans ⟨rfl, id⟩ (Ob.trans ob₆ ⟨rfl, id⟩)))⟩
      · rw [← hP, ← hP']; exact hneed
      · rw [← hP, ← hP', stayOf, hneed]
end Mine
namespace Mine
local macro_rules | `(tactic| walk_at "eval Name") => `(tactic| (refine' ld (by assumption) ?hv ?_; (case hv => ((try dsimp only); (repeat rw [if_neg (by decide)]); first | exact if_pos rfl | assumption))))
local macro_rules | `(tactic| walk_at "eval Name") => `(tactic| (refine' ldG (by assumption) (by assumption) (by first | exact gn_comment_line _ | exact gn_iter_escaped_chars _ | exact gn_strip_quoted_realnames _ | exact gn_check_parenthesis _ | exact gn_twin_re_1 _ | exact gn_twin_re_2 _ | exact gn_quotedata _ | exact gn_law_units _ | exact gn_law_pair _ | exact gn_law_corners _ | exact gn_law_line _ | exact gn_law_told _ | exact gn_law_mail _ | exact gn_CRLF _) ?_))
local macro_rules | `(tactic| walk_at "callWith ref") => `(tactic| (refine' callWithG (by assumption) (by kernel_rfl) ?_))
local macro_rules | `(tactic| walk_at "And") => `(tactic| ((with_reducible show Kpt _ _ ∧ _); refine ⟨Kpt.of (by assumption), ?_⟩))
local macro_rules | `(tactic| walk_at "loadName") => `(tactic| (refine' ldn (by assumption) ?hv ?_; (case hv => ((try dsimp only); (repeat rw [if_neg (by decide)]); first | exact if_pos rfl | assumption))))

local macro_rules | `(tactic| walk_at "eval Name") => `(tactic| first | (refine' ldB (by assumption) (by assumption) (gb_len _) boot_len ?_) | (refine' ldB (by assumption) (by assumption) (gb_sum _) boot_sum ?_) | (refine' ldB (by assumption) (by assumption) (gb_range _) boot_range ?_) | (refine' ldB (by assumption) (by assumption) (gb_max _) boot_max ?_))
theorem cutS {M : Model} {A : Around} {α : Type} {t : Sem α} {Q : α → Shared → Prop} {E : Value → Shared → Prop} {s : Shared} (P : Shared → Prop) (h : P s) (k : ∀ s', P s' → wpAny M A t Q E s') : wpAny M A t Q E s := k s h
theorem ints_carried : ∀ {ys : List Value} {ns : List Int}, CarriedAll ys (ns.map PyData.int) → IntsAre ys ns
  | _, [], .nil => .nil
  | _, _ :: _, .cons (.int _ t) r => .cons _ t (ints_carried r)
def nums (ns : List Int) : List Int := (ns.take 5).map (fun n => n.fmod 6)
def nums5 (ns : List Int) : List Int := nums ns ++ [2, 0, 1, 3, 4].drop (nums ns).length
def lst (vs : List Value) : Obj := { cls := .type "list", data := .seq vs.toArray }
def ListIn (news : List (Addr × Obj)) (D : Addr) (vs : List Value) : Prop := ∃ o : Obj, (D, o) ∈ news ∧ o.cls = .type "list" ∧ ∃ n, o.data = .seq vs.toArray n
theorem ListIn.list {h₀ h : Heap} {L : Addr} {news : List (Addr × Obj)} {D : Addr} {vs : List Value} (x : ListIn news D vs) (N : News h₀ L h news) : h.IsList D vs.toArray := let ⟨o, hm, hc, n, hd⟩ := x; ⟨o, (N _ hm).1, hc, n, hd⟩
def EndV (s : Shared) (b : Bool) (r : Result) (s' : Shared) : Prop := r = .ok (.ret (.bool b)) ∧ Kp s s'
theorem law1 {prog : Program} {w : World} {A : Around} {s : Shared} {mg mb : Str → Option Value} {l : Addr} {vs : List Value} {ns : List Int} {name : Str} {params : Arguments} {body : List Stmt} {scope : Scope} {pm cd doc : Value} {L : Addr} {h₁ : Heap} {Q : Flow → Shared → Prop}
    (hK : (hd.heap_39 w.params).lookup 117 = some { cls := .type "function", data := .func (docDef name params body scope pm cd doc) })
    (G : Gd w mg mb s.heap) (hA : A.depth + 20 < recursionLimit) (hh : A.handled = none) (hl : s.heap.IsList l vs.toArray) (hi : IntsAre vs ns) (hn : ns.length ≤ 1000) (F : Fr s.heap L h₁ (fun x => [((Str.ofString "script" : Str), Value.ref l)].reverse.lookup x))
    (K : ∀ s', Ob s s' → ∀ m D ys n, m (Str.ofString "script") = some (.ref l) → m (Str.ofString "numbers") = some (.ref D) → IntsAre ys (nums5 ns) → Fr s.heap L s'.heap m → News s.heap L s'.heap [(D, { cls := .type "list", data := .seq ys.toArray n })] →
      wpAny (model prog w) (A.deeper (envOf name scope L 117 cd)) (execs (body.drop 2) (envOf name scope L 117 cd)) Q (fun _ _ => False) s') :
    wpAny (model prog w) (A.deeper (envOf name scope L 117 cd)) (execs body (envOf name scope L 117 cd)) Q (fun _ _ => False) { s with heap := h₁, toks := s.toks + 1 } := by
  w_top off
  have e : (hd.heap_39 w.params).lookup 117 = some { cls := .type "function", data := .func (docDef _ _ _ _ _ _ _) } := rfl
  rw [e] at hK
  simp only [Option.some.injEq, Obj.mk.injEq, Data.func.injEq, docDef, FuncData.mk.injEq, FuncBody.stmts.injEq, true_and, and_true] at hK
  obtain ⟨rfl, _, rfl, rfl, rfl, rfl, rfl, rfl⟩ := hK
  clear e
  dsimp only [List.drop] at K
  have N : News s.heap L h₁ [] := News.nil
  have hl₁ := hl.at fun o e => F.keep l o e
  (repeat walk1)
  rename News _ _ _ _ => N₂
  rename Fr s.heap L _ _ => F₂
  rename Heap => h₂
  have hi₂ : IntsAre (slicePick vs.toArray none (some 5) none).toList (ns.take 5) := slice_ints_uptoW hi (by decide)
  have hl₂ : h₂.IsList (h₁.objs.size + 1) (slicePick vs.toArray none (some 5) none).toList.toArray := ⟨_, (N₂ _ (.head _)).1, rfl, _, rfl⟩
  refine srcA_listDW (pz := fun _ => true) (d := fun n => PyData.int (Int.fmod n 6)) (by exact hh) hl₂ hi₂.areOf F₂ N₂ ?_ ?_ ?_ (by rw [List.length_take, sizeLine_eq]; omega)
  · intro C a' v' s₂ m₂ E' hi hn' hm' htk htk2
    exact wpAny_pure ⟨rfl, Keeps.rf _⟩
  · intro C a' v' s₂ m₂ E' hmem hi _ hn' hm' htk
    obtain ⟨t', rfl⟩ := hi
    (repeat walk1)
    · exact Carried.int _ _
    · exact Keeps.mk' fun _ _ e => e
  intro D ys h₃ tk F₃ N₃ hD hlD hpl hc
  obtain ⟨⟨n, gD⟩, hne⟩ := id hpl
  clear hne
  have DL := hpl.ne_locals F₃
  have hys : IntsAre ys (nums ns) := ints_carried (by rw [List.filter_eq_self.mpr (fun _ _ => rfl)] at hc; rw [nums, List.map_map]; exact hc)
  dsimp only
  refine cutS (fun s' => Ob s s' ∧ ∃ m D ys n, (m (Str.ofString "script") = some (.ref l) ∧ m (Str.ofString "numbers") = some (.ref D) ∧ IntsAre ys (nums ns)) ∧ Fr s.heap L s'.heap m ∧ News s.heap L s'.heap [(D, { cls := .type "list", data := .seq ys.toArray n })])
    ⟨⟨rfl, id⟩, _, D, ys, n, ⟨(if_neg (by decide)).trans rfl, if_pos rfl, hys⟩, F₃, fun p hp => by rw [List.mem_singleton.mp hp]; exact ⟨gD, DL, hD⟩⟩ ?_
  clear hc hys gD hpl hlD hD DL F₃ N₃ F₂ N₂ F N hl₁ hl₂ hi₂
  clear D ys n h₃ tk h₂ h₁
  rintro s₁ ⟨ob₁, m, D, ys, n, ⟨hms, hmn, hys⟩, F, N⟩
  have hl₁ := hl.at fun o e => F.keep l o e
  have hlD : s₁.heap.IsList D ys.toArray := ⟨_, (N _ (.head _)).1, rfl, _, rfl⟩
  (repeat walk1)
  rename News _ _ _ _ => N₂
  rename Fr s.heap L _ _ => F₂
  have hlen : ys.length = (nums ns).length := intsLen hys
  have hn5 : (nums ns).length ≤ 5 := by rw [nums, List.length_map, List.length_take]; omega
  refine call_len_list (items := ys.toArray) ⟨_, (N₂ _ (.tail _ (.head _))).1, rfl, _, rfl⟩ (by rw [List.size_toArray]; omega) ?_
  (repeat walk1)
  refine kba_turn (value' := Expr.Name (Str.ofString "_") ⟨0, 0, 0, 0⟩) (fun _ => rfl) ?_
  clear hl₁ hlD N F
  (repeat walk1)
  clear N₂ F₂
  rename News _ _ _ _ => N₂
  rename Fr s.heap L _ _ => F₂
  have ht : IntsAre [.int 2 s₁.toks, .int 0 (s₁.toks + 1), .int 1 (s₁.toks + 1 + 1), .int 3 (s₁.toks + 1 + 1 + 1), .int 4 (s₁.toks + 1 + 1 + 1 + 1)] [2, 0, 1, 3, 4] := .cons _ _ (.cons _ _ (.cons _ _ (.cons _ _ (.cons _ _ .nil))))
  have hd₂ := slice_ints_fromW ht (x := (ys.toArray.size : Int)) (by omega)
  rw [Int.toNat_natCast, List.size_toArray, hlen] at hd₂
  refine add_lists_ints F₂ N₂ (vs := ys) (ws := (slicePick _ (some (ys.toArray.size : Int)) none none).toList) ⟨_, (N₂ _ (.tail _ (.tail _ (.head _)))).1, rfl, _, rfl⟩ ⟨_, (N₂ _ (.head _)).1, rfl, _, rfl⟩ hys (by rw [List.size_toArray, hlen]; exact hd₂) ?_ (by rw [List.length_drop, sizeLine_eq]; simp; omega)
  intro h₃ F₃ N₃ hi₃
  clear F₂ N₂
  walk1
  dsimp only
  rename Fr s.heap L _ _ => F₄
  rename News _ _ _ _ => N₄
  exact K _ (Ob.trans ob₁ ⟨rfl, id⟩) _ _ _ _ ((if_neg (by decide)).trans hms) (if_pos rfl) hi₃ F₄ (fun p hp => by rw [List.mem_singleton.mp hp]; exact N₄ _ (.head _))
end Mine
namespace Mine
local macro_rules | `(tactic| walk_at "eval Name") => `(tactic| (refine' ld (by assumption) ?hv ?_; (case hv => ((try dsimp only); (repeat rw [if_neg (by decide)]); first | exact if_pos rfl | assumption))))
local macro_rules | `(tactic| walk_at "eval Name") => `(tactic| (refine' ldG (by assumption) (by assumption) (by first | exact gn_comment_line _ | exact gn_iter_escaped_chars _ | exact gn_strip_quoted_realnames _ | exact gn_check_parenthesis _ | exact gn_twin_re_1 _ | exact gn_twin_re_2 _ | exact gn_quotedata _ | exact gn_law_units _ | exact gn_law_pair _ | exact gn_law_corners _ | exact gn_law_line _ | exact gn_law_told _ | exact gn_law_mail _ | exact gn_CRLF _) ?_))
local macro_rules | `(tactic| walk_at "callWith ref") => `(tactic| (refine' callWithG (by assumption) (by kernel_rfl) ?_))
local macro_rules | `(tactic| walk_at "And") => `(tactic| ((with_reducible show Kpt _ _ ∧ _); refine ⟨Kpt.of (by assumption), ?_⟩))
local macro_rules | `(tactic| walk_at "loadName") => `(tactic| (refine' ldn (by assumption) ?hv ?_; (case hv => ((try dsimp only); (repeat rw [if_neg (by decide)]); first | exact if_pos rfl | assumption))))
local macro_rules | `(tactic| walk_at "eval Name") => `(tactic| first | (refine' ldB (by assumption) (by assumption) (gb_len _) boot_len ?_) | (refine' ldB (by assumption) (by assumption) (gb_sum _) boot_sum ?_) | (refine' ldB (by assumption) (by assumption) (gb_range _) boot_range ?_) | (refine' ldB (by assumption) (by assumption) (gb_max _) boot_max ?_))
/-- a call that gives a new list of texts -/
theorem callN {prog : Program} {w : World} {A : Around} {s : Shared} {f : Value} {args : List Value} {us : List Str} {h₀ : Heap} {L : Addr} {m : Str → Option Value} {news : List (Addr × Obj)} {Q : Value → Shared → Prop} {E : Value → Shared → Prop}
    (C : codeAny (model prog w) A (.call f ⟨args, []⟩) (EndN s us) s) (F : Fr h₀ L s.heap m) (N : News h₀ L s.heap news)
    (h : ∀ D o vs s', Ob s s' → Fr h₀ L s'.heap m → News h₀ L s'.heap ((D, o) :: news) → ListIn [(D, o)] D vs → Strs vs us → Q (.ref D) s') : wpAny (model prog w) A (call f args) Q E s := by
  refine wpAny_call (codeAny_mono C ?_)
  rintro r s' ⟨D, vs, rfl, ⟨o, go, hc, n, hd⟩, hD, hs, kp⟩
  refine h D o vs s' kp.2 (Fr.kp F kp.1) (fun p hp => ?_) ⟨o, .head _, hc, n, hd⟩ hs
  rcases List.mem_cons.mp hp with rfl | hp
  · refine ⟨go, fun e => ?_, ?_⟩
    · obtain ⟨o', _, _, e', _⟩ := F.ns
      rw [← e] at e'
      have e' : s.heap.get? D = some o' := e'
      rw [hD] at e'; cases e'
    · cases e : h₀.get? D with
      | none => rfl
      | some o' => have := F.keep D o' e; rw [hD] at this; cases this
  · exact News.kp N kp.1 p hp
theorem law2 {prog : Program} {w : World} {A : Around} {s : Shared} {mg mb : Str → Option Value} {l : Addr} {vs : List Value} {ns : List Int} {name : Str} {params : Arguments} {body : List Stmt} {scope : Scope} {pm cd doc : Value} {L : Addr} {Q : Flow → Shared → Prop}
    (hK : (hd.heap_39 w.params).lookup 117 = some { cls := .type "function", data := .func (docDef name params body scope pm cd doc) })
    (G : Gd w mg mb s.heap) (hA : A.depth + 20 < recursionLimit) (hh : A.handled = none) {ys : List Value} {ks : List Int} (hys : IntsAre ys ks) (hk5 : ks.length ≤ 100) (hb : ∀ n ∈ ks, 0 ≤ n ∧ n < 6)
    {s₁ : Shared} {m : Str → Option Value} {D : Addr} {n : Nat} (hms : m (Str.ofString "script") = some (.ref l)) (hmn : m (Str.ofString "numbers") = some (.ref D)) (F : Fr s.heap L s₁.heap m) (N : News s.heap L s₁.heap [(D, { cls := .type "list", data := .seq ys.toArray n })])
    (K : ∀ s', Ob s₁ s' → ∀ m X Y ox oy vx vy, m (Str.ofString "script") = some (.ref l) → m (Str.ofString "x") = some (.ref X) → m (Str.ofString "y") = some (.ref Y) → ListIn [(X, ox)] X vx → ListIn [(Y, oy)] Y vy → Strs vx ((ks.take 3).map unitOf) → Strs vy ((ks.drop 3).map unitOf) →
      Fr s.heap L s'.heap m → News s.heap L s'.heap [(Y, oy), (X, ox)] →
      wpAny (model prog w) (A.deeper (envOf name scope L 117 cd)) (execs (body.drop 4) (envOf name scope L 117 cd)) Q (fun _ _ => False) s') :
    wpAny (model prog w) (A.deeper (envOf name scope L 117 cd)) (execs (body.drop 2) (envOf name scope L 117 cd)) Q (fun _ _ => False) s₁ := by
  w_top off
  have e : (hd.heap_39 w.params).lookup 117 = some { cls := .type "function", data := .func (docDef _ _ _ _ _ _ _) } := rfl
  rw [e] at hK
  simp only [Option.some.injEq, Obj.mk.injEq, Data.func.injEq, docDef, FuncData.mk.injEq, FuncBody.stmts.injEq, true_and, and_true] at hK
  obtain ⟨rfl, _, rfl, rfl, rfl, rfl, rfl, rfl⟩ := hK
  clear e
  dsimp only [List.drop] at K ⊢
  have hlD : s₁.heap.IsList D ys.toArray := ⟨_, (N _ (.head _)).1, rfl, _, rfl⟩
  (repeat walk1)
  rename Fr s.heap L _ _ => F₂
  rename News _ _ _ _ => N₂
  have hi₂ := slice_ints_uptoW hys (y := 3) (by decide)
  refine callN (unitsT (by exact Gd.fr G F₂) (by show A.depth + 1 < _; omega) (by exact hh) ⟨_, (N₂ _ (.head _)).1, rfl, _, rfl⟩ hi₂ (fun n hn => hb n (List.mem_of_mem_take hn)) (by rw [List.length_take]; omega)) F₂ N₂ ?_
  intro X ox vx s₃ ob₃ F₃ N₃ lx sx
  clear F N F₂ N₂ hlD
  walk1
  try dsimp only
  rename Fr s.heap L _ _ => F₄
  rename News _ _ _ _ => N₄
  clear F₃ N₃
  have hlD : Heap.IsList _ D ys.toArray := ⟨_, (N₄ _ (.tail _ (.tail _ (.head _)))).1, rfl, _, rfl⟩
  (repeat walk1)
  rename Fr s.heap L _ _ => F₅
  rename News _ _ _ _ => N₅
  clear F₄ N₄ hlD
  have hi₅ := slice_ints_fromW hys (x := 3) (by decide)
  refine callN (unitsT (by exact Gd.fr G F₅) (by show A.depth + 1 < _; omega) (by exact hh) ⟨_, (N₅ _ (.head _)).1, rfl, _, rfl⟩ hi₅ (fun n hn => hb n (List.mem_of_mem_drop hn)) (by rw [List.length_drop]; omega)) F₅ N₅ ?_
  intro Y oy vy s₆ ob₆ F₆ N₆ ly sy
  clear F₅ N₅
  walk1
  try dsimp only
  rename Fr s.heap L _ _ => F₇
  rename News _ _ _ _ => N₇
  refine K _ (Ob.trans (Ob.trans ⟨rfl, id⟩ ob₃) (Ob.trans (Ob.trans ⟨rfl, id⟩ ob₆) ⟨rfl, id⟩)) _ X Y ox oy vx vy ?_ ?_ (if_pos rfl) lx ly sx sy F₇ (fun p hp => ?_)
  · rw [if_neg (by decide), if_neg (by decide)]; exact hms
  · rw [if_neg (by decide)]; exact if_pos rfl
  · simp only [List.mem_cons, List.not_mem_nil, or_false] at hp
    rcases hp with rfl | rfl
    · exact N₇ _ (.head _)
    · exact N₇ _ (.tail _ (.tail _ (.head _)))
end Mine
namespace Mine
local macro_rules | `(tactic| walk_at "eval Name") => `(tactic| (refine' ld (by assumption) ?hv ?_; (case hv => ((try dsimp only); (repeat rw [if_neg (by decide)]); first | exact if_pos rfl | assumption))))
local macro_rules | `(tactic| walk_at "eval Name") => `(tactic| (refine' ldG (by assumption) (by assumption) (by first | exact gn_comment_line _ | exact gn_iter_escaped_chars _ | exact gn_strip_quoted_realnames _ | exact gn_check_parenthesis _ | exact gn_twin_re_1 _ | exact gn_twin_re_2 _ | exact gn_quotedata _ | exact gn_law_units _ | exact gn_law_pair _ | exact gn_law_corners _ | exact gn_law_line _ | exact gn_law_told _ | exact gn_law_mail _ | exact gn_CRLF _) ?_))
local macro_rules | `(tactic| walk_at "callWith ref") => `(tactic| (refine' callWithG (by assumption) (by kernel_rfl) ?_))
local macro_rules | `(tactic| walk_at "And") => `(tactic| ((with_reducible show Kpt _ _ ∧ _); refine ⟨Kpt.of (by assumption), ?_⟩))
local macro_rules | `(tactic| walk_at "loadName") => `(tactic| (refine' ldn (by assumption) ?hv ?_; (case hv => ((try dsimp only); (repeat rw [if_neg (by decide)]); first | exact if_pos rfl | assumption))))
local macro_rules | `(tactic| walk_at "eval Name") => `(tactic| first | (refine' ldB (by assumption) (by assumption) (gb_len _) boot_len ?_) | (refine' ldB (by assumption) (by assumption) (gb_sum _) boot_sum ?_) | (refine' ldB (by assumption) (by assumption) (gb_range _) boot_range ?_) | (refine' ldB (by assumption) (by assumption) (gb_max _) boot_max ?_))
def bot (p : Nat) : Str := ([Str.ofString "a", Str.ofString "", Str.ofString ".", Str.ofString "b a"] : List Str).getD (p % 4) (Str.ofString "") ++ ([Str.ofString "", Str.ofString " ", Str.ofString " \t", Str.ofString "\t "] : List Str).getD (p / 4) (Str.ofString "")
theorem item4 {prog : Program} {w : World} {A : Around} {E : Value → Shared → Prop} {s : Shared} {value slice : Expr} {t : Addr} {a b c d : Str} {ta tb tc td : Tok} {k : Int} {u : Tok} {j : Nat} {Q : Value → Shared → Prop} (ht : IsTup s.heap t #[.str a ta, .str b tb, .str c tc, .str d td]) (hk : k = (j : Int)) (hj : j < 4)
    (h : ∀ tk, Q (.str (([a, b, c, d] : List Str).getD j (Str.ofString "")) tk) s)
    (hs : subscripted slice false (.ref t) (.int k u) = operate [.ref t, .int k u] (getItem (.ref t) (.int k u)) := by with_unfolding_all rfl) :
    wpAny (model prog w) A (subscriptTail value slice (.ref t) (.int k u)) Q E s := by
  subst hk
  obtain ⟨tk, hx⟩ : ∃ tk, ([.str a ta, .str b tb, .str c tc, .str d td] : List Value)[j]? = some (.str (([a, b, c, d] : List Str).getD j (Str.ofString "")) tk) := by
    match j, hj with
    | 0, _ => exact ⟨_, rfl⟩
    | 1, _ => exact ⟨_, rfl⟩
    | 2, _ => exact ⟨_, rfl⟩
    | 3, _ => exact ⟨_, rfl⟩
    | j + 4, h => exact absurd h (by omega)
  refine item_tupleT (l := [.str a ta, .str b tb, .str c tc, .str d td]) (j := j) ht (by omega) (by omega) ?_ hx (h tk) hs
  have hj0 : ¬ ((j : Int) < 0) := by omega
  simp only [seqIndex?, if_neg hj0]
  exact if_pos (by simp; omega)
theorem getD_len {l : List Str} {j n : Nat} (h : ∀ x ∈ l, x.length ≤ n) : (l.getD j (Str.ofString "")).length ≤ n := by
  rw [List.getD_eq_getElem?_getD]
  cases e : l[j]? with
  | none => exact Nat.zero_le _
  | some x => exact h x (List.mem_of_getElem? e)
theorem law3 {prog : Program} {w : World} {A : Around} {s : Shared} {mg mb : Str → Option Value} {l : Addr} {vs : List Value} {ns : List Int} {name : Str} {params : Arguments} {body : List Stmt} {scope : Scope} {pm cd doc : Value} {L : Addr} {Q : Flow → Shared → Prop}
    (hK : (hd.heap_39 w.params).lookup 117 = some { cls := .type "function", data := .func (docDef name params body scope pm cd doc) })
    (G : Gd w mg mb s.heap) (hA : A.depth + 20 < recursionLimit) (hh : A.handled = none) (hl : s.heap.IsList l vs.toArray) (hi : IntsAre vs ns)
    {s₁ : Shared} {m : Str → Option Value} {X Y : Addr} {ox oy : Obj} {vx vy : List Value} {ux uy : List Str} (hms : m (Str.ofString "script") = some (.ref l)) (hmx : m (Str.ofString "x") = some (.ref X)) (hmy : m (Str.ofString "y") = some (.ref Y))
    (lx : ListIn [(X, ox)] X vx) (ly : ListIn [(Y, oy)] Y vy) (sx : Strs vx ux) (sy : Strs vy uy) (F : Fr s.heap L s₁.heap m) (N : News s.heap L s₁.heap [(Y, oy), (X, ox)])
    (K : ∀ s', Ob s₁ s' → ∀ m p tp, m (Str.ofString "x") = some (.ref X) → m (Str.ofString "y") = some (.ref Y) → m (Str.ofString "bottom") = some (.str (bot p) tp) → p < 16 → Fr s.heap L s'.heap m → News s.heap L s'.heap [(Y, oy), (X, ox)] →
      wpAny (model prog w) (A.deeper (envOf name scope L 117 cd)) (execs (body.drop 6) (envOf name scope L 117 cd)) Q (fun _ _ => False) s') :
    wpAny (model prog w) (A.deeper (envOf name scope L 117 cd)) (execs (body.drop 4) (envOf name scope L 117 cd)) Q (fun _ _ => False) s₁ := by
  w_top off
  have e : (hd.heap_39 w.params).lookup 117 = some { cls := .type "function", data := .func (docDef _ _ _ _ _ _ _) } := rfl
  rw [e] at hK
  simp only [Option.some.injEq, Obj.mk.injEq, Data.func.injEq, docDef, FuncData.mk.injEq, FuncBody.stmts.injEq, true_and, and_true] at hK
  obtain ⟨rfl, _, rfl, rfl, rfl, rfl, rfl, rfl⟩ := hK
  clear e
  dsimp only [List.drop] at K ⊢
  (repeat walk1)
  refine LSm.sum_ints F N (by exact hh) (hl.at fun o e => F.keep l o e) hi ?_
  intro h₂ tk₂ t₂ F₂ N₂
  clear F N
  obtain ⟨p, hp, hp16⟩ : ∃ p : Nat, (ns.sum + 4).fmod 16 = (p : Int) ∧ p < 16 := by
    rw [Int.fmod_eq_emod_of_nonneg _ (by decide)]
    exact ⟨((ns.sum + 4) % 16).toNat, by omega, by omega⟩
  have hp4 : ((ns.sum + 4).fmod 16).fmod 4 = ((p % 4 : Nat) : Int) := by rw [hp, Int.fmod_eq_emod_of_nonneg _ (by decide)]; omega
  have hpd : ((ns.sum + 4).fmod 16).fdiv 4 = ((p / 4 : Nat) : Int) := by rw [hp, Int.fdiv_eq_ediv_of_nonneg _ (by decide)]; omega
  (repeat walk1)
  clear F₂ N₂
  rename Fr s.heap L _ _ => F₂
  rename News _ _ _ _ => N₂
  refine item4 ⟨_, (N₂ _ (.head _)).1, rfl, _, rfl⟩ hp4 (Nat.mod_lt _ (by decide)) ?_
  intro tk₃
  obtain ⟨b₁, hb₁⟩ : ∃ b, b = ([Str.ofString "a", Str.ofString "", Str.ofString ".", Str.ofString "b a"] : List Str).getD (p % 4) (Str.ofString "") := ⟨_, rfl⟩
  have l₁ : b₁.length ≤ 3 := hb₁ ▸ getD_len (by decide)
  rw [← hb₁]
  (repeat walk1)
  clear F₂ N₂
  rename Fr s.heap L _ _ => F₂
  rename News _ _ _ _ => N₂
  refine item4 ⟨_, (N₂ _ (.head _)).1, rfl, _, rfl⟩ hpd (by omega) ?_
  intro tk₄
  obtain ⟨b₂, hb₂⟩ : ∃ b, b = ([Str.ofString "", Str.ofString " ", Str.ofString " \t", Str.ofString "\t "] : List Str).getD (p / 4) (Str.ofString "") := ⟨_, rfl⟩
  have l₂ : b₂.length ≤ 3 := hb₂ ▸ getD_len (by decide)
  rw [← hb₂]
  walk1
  walk1
  try dsimp only
  clear F₂ N₂
  rename Fr s.heap L _ _ => F₂
  rename News _ _ _ _ => N₂
  refine K _ ⟨rfl, id⟩ _ p _ ?_ ?_ ((if_pos rfl).trans (by rw [hb₁, hb₂]; rfl)) hp16 F₂ (fun q hq => N₂ q (.tail _ (.tail _ hq)))
  · rw [if_neg (by decide), if_neg (by decide)]; exact hmx
  · rw [if_neg (by decide), if_neg (by decide)]; exact hmy
end Mine
namespace Mine
section
variable {prog : Program} {w : World} {A : Around} {s : Shared} {h₀ : Heap} {name : Str} {scope : Scope} {L a : Addr} {cd : Value}
/-- a for over a range made in the call -/
theorem ForRg {R : Result → Shared → Prop} {x : Str} {px : Pos} {body : List Stmt} {r : Addr} {a₀ b₀ : Int} {t u v : Tok} {m : Str → Option Value} {news : List (Addr × Obj)}
    (hh : A.handled = none) (hr : IsRange s.heap r a₀ b₀ 1 t u v) (ha : -1000 ≤ a₀) (ha' : a₀ ≤ 1000) (hb : -1000 ≤ b₀) (hb' : b₀ ≤ 1000) (F : Fr h₀ L s.heap m) (N : News h₀ L s.heap news)
    (hx : (envOf name scope L a cd).kindOf x = some .local) (hk : scope.kind = .function)
    (J : Nat → (Str → Option Value) → List (Addr × Obj) → Prop) (h0 : J 0 m news)
    (step : ∀ i tv m₁ news₁ s₁ own, Ob s s₁ → i < (b₀ - a₀).toNat → J i m₁ news₁ → (∀ p ∈ news₁, p.1 ∉ [s.heap.objs.size]) → s.heap.objs.size < s₁.heap.objs.size → (∃ o, (s.heap.objs.size, o) ∈ own) →
      Fr h₀ L s₁.heap (fun y => if y = x then some (.int (a₀ + (i : Int)) tv) else m₁ y) → News h₀ L s₁.heap (own ++ news₁) →
      wpAny (model prog w) A (execs body (envOf name scope L a cd)) (Turn h₀ L [s.heap.objs.size] own (J (i + 1)) s₁ (fun v s' => R (.ok (.ret v)) s')) (fun _ _ => False) s₁)
    (hR : ∀ s' m' news', Ob s s' → Fr h₀ L s'.heap m' → News h₀ L s'.heap news' → J (b₀ - a₀).toNat m' news' → R (.ok .next) s') :
    wpAny (model prog w) A (pyIter (.ref r)) (fun it s₂ => codeAny (model prog w) A (.forLoop (.Name x px) it body [] (envOf name scope L a cd)) R s₂) (fun _ _ => False) s := by
  refine wpAny_pyIter_range hr (small_one (by omega) (by omega) (by omega) (by omega)) ?_
  have W := Walks.range (prog := prog) (w := w) hh s.heap.objs.size a₀ 1 (b₀ - a₀).toNat
  refine forL (env := envOf name scope L a cd) (h₀ := h₀) (m := m) (news := news) W hx (by show (scope.kind == .class || (scope.kind == .module && L != mainGlobals)) = false; rw [hk]; rfl) ?_ ?_ ?_ ?_ (F.push _) (fun p hp => ⟨Heap.get?_push_of_some _ (N p hp).1, (N p hp).2⟩) J h0 ?_ ?_ ?_
  · intro hm
    exact absurd F.ns.lt ((List.mem_singleton.mp hm) ▸ Nat.lt_irrefl _)
  · intro b hb
    rw [List.mem_singleton.mp hb]
    exact next_is_new F
  · intro p hp hI
    exact absurd (Heap.lt_size (N p hp).1) ((List.mem_singleton.mp hI) ▸ Nat.lt_irrefl _)
  · have e := Heap.get?_push_size s.heap (o := { cls := .type "range_iterator", data := .fields #[rawInt a₀, rawInt (Builtin.Range.rangeSize a₀ b₀ 1), rawInt 1] }) rfl
    rw [rangeSize_nat] at e ⊢
    show IsRangeIter _ _ (a₀ + ((0 : Nat) : Int) * 1) (((b₀ - a₀).toNat : Int) - ((0 : Nat) : Int)) 1
    have e1 : a₀ + ((0 : Nat) : Int) * 1 = a₀ := by omega
    have e2 : ((b₀ - a₀).toNat : Int) - ((0 : Nat) : Int) = ((b₀ - a₀).toNat : Int) := by omega
    rw [e1, e2]
    exact e
  · rintro i v m₁ news₁ s₁ own ob hi ⟨tv, rfl⟩ hJ hoff hfp hw F₁ N₁
    rw [Int.mul_one] at F₁
    exact step i tv m₁ news₁ s₁ own (Ob.trans (Ob.same s) ob) hi hJ hoff (hw _ (.head _)).1 (hw _ (.head _)).2 F₁ N₁
  · intro i h st b hb
    rw [List.mem_singleton.mp hb]
    exact ⟨_, st⟩
  · intro s' m' news' ob F' N' hJ
    exact hR s' m' news' (Ob.trans (Ob.same s) ob) F' N' hJ
/-- a for over a tuple -/
theorem ForTup {R : Result → Shared → Prop} {x : Str} {px : Pos} {body : List Stmt} {T : Addr} {items : Array Value} {m : Str → Option Value} {news : List (Addr × Obj)}
    (hh : A.handled = none) (ht : s.heap.IsTuple T items) (hT : h₀.get? T = none) (F : Fr h₀ L s.heap m) (N : News h₀ L s.heap news)
    (hx : (envOf name scope L a cd).kindOf x = some .local) (hk : scope.kind = .function) (hTL : T ≠ L)
    (J : Nat → (Str → Option Value) → List (Addr × Obj) → Prop) (h0 : J 0 m news)
    (step : ∀ i v m₁ news₁ s₁ own, Ob s s₁ → items[i]? = some v → J i m₁ news₁ → (∀ p ∈ news₁, p.1 ∉ [s.heap.objs.size]) → s.heap.objs.size < s₁.heap.objs.size → (∃ o, (s.heap.objs.size, o) ∈ own) →
      Fr h₀ L s₁.heap (fun y => if y = x then some v else m₁ y) → News h₀ L s₁.heap (own ++ news₁) →
      wpAny (model prog w) A (execs body (envOf name scope L a cd)) (Turn h₀ L [s.heap.objs.size] own (J (i + 1)) s₁ (fun v s' => R (.ok (.ret v)) s')) (fun _ _ => False) s₁)
    (hR : ∀ s' m' news', Ob s s' → Fr h₀ L s'.heap m' → News h₀ L s'.heap news' → J items.size m' news' → R (.ok .next) s') :
    wpAny (model prog w) A (pyIter (.ref T)) (fun it s₂ => codeAny (model prog w) A (.forLoop (.Name x px) it body [] (envOf name scope L a cd)) R s₂) (fun _ _ => False) s := by
  have hlt : T < s.heap.objs.size := by obtain ⟨_, e, _⟩ := ht; exact Heap.lt_size e
  refine wpAny_pyIter_tuple ht ?_
  have W := Walks.tuple (prog := prog) (w := w) hh s.heap.objs.size T (Nat.ne_of_lt hlt) items
  refine forL (env := envOf name scope L a cd) (h₀ := h₀) (m := m) (news := news) W hx (by show (scope.kind == .class || (scope.kind == .module && L != mainGlobals)) = false; rw [hk]; rfl) ?_ ?_ ?_ ⟨⟨_, Heap.get?_push_size _ rfl, rfl, rfl⟩, ht.at fun o e => Heap.get?_push_of_some _ e⟩ (F.push _) (fun p hp => ⟨Heap.get?_push_of_some _ (N p hp).1, (N p hp).2⟩) J h0 ?_ ?_ ?_
  · intro hm
    rcases List.mem_cons.mp hm with e | hm
    · exact absurd F.ns.lt (e ▸ Nat.lt_irrefl _)
    · exact hTL (List.mem_singleton.mp hm).symm
  · intro b hb
    rw [List.mem_singleton.mp hb]
    exact next_is_new F
  · intro p hp hI
    exact absurd (Heap.lt_size (N p hp).1) ((List.mem_singleton.mp hI) ▸ Nat.lt_irrefl _)
  · rintro i v m₁ news₁ s₁ own ob hi hP hJ hoff hfp hw F₁ N₁
    exact step i v m₁ news₁ s₁ own (Ob.trans (Ob.same s) ob) hP hJ hoff (hw _ (.head _)).1 (hw _ (.head _)).2 F₁ N₁
  · intro i h st b hb
    rw [List.mem_singleton.mp hb]
    obtain ⟨o, ho, _⟩ := st.1
    exact ⟨o, ho⟩
  · intro s' m' news' ob F' N' hJ
    exact hR s' m' news' (Ob.trans (Ob.same s) ob) F' N' hJ
end
end Mine
namespace Mine
local macro_rules | `(tactic| walk_at "eval Name") => `(tactic| (refine' ld (by assumption) ?hv ?_; (case hv => ((try dsimp only); (repeat rw [if_neg (by decide)]); first | exact if_pos rfl | assumption))))
local macro_rules | `(tactic| walk_at "eval Name") => `(tactic| (refine' ldG (by assumption) (by assumption) (by first | exact gn_comment_line _ | exact gn_iter_escaped_chars _ | exact gn_strip_quoted_realnames _ | exact gn_check_parenthesis _ | exact gn_twin_re_1 _ | exact gn_twin_re_2 _ | exact gn_quotedata _ | exact gn_law_units _ | exact gn_law_pair _ | exact gn_law_corners _ | exact gn_law_line _ | exact gn_law_told _ | exact gn_law_mail _ | exact gn_CRLF _) ?_))
local macro_rules | `(tactic| walk_at "callWith ref") => `(tactic| (refine' callWithG (by assumption) (by kernel_rfl) ?_))
local macro_rules | `(tactic| walk_at "And") => `(tactic| ((with_reducible show Kpt _ _ ∧ _); refine ⟨Kpt.of (by assumption), ?_⟩))
local macro_rules | `(tactic| walk_at "loadName") => `(tactic| (refine' ldn (by assumption) ?hv ?_; (case hv => ((try dsimp only); (repeat rw [if_neg (by decide)]); first | exact if_pos rfl | assumption))))
local macro_rules | `(tactic| walk_at "eval Name") => `(tactic| first | (refine' ldB (by assumption) (by assumption) (gb_len _) boot_len ?_) | (refine' ldB (by assumption) (by assumption) (gb_sum _) boot_sum ?_) | (refine' ldB (by assumption) (by assumption) (gb_range _) boot_range ?_) | (refine' ldB (by assumption) (by assumption) (gb_max _) boot_max ?_))

theorem Strs.are {vs : List Value} {us : List Str} (h : Strs vs us) : StrsAre vs us := by
  obtain ⟨l, rfl, rfl⟩ := h
  refine ⟨by simp [strValues], fun i v e => ?_⟩
  simp only [strValues, List.getElem?_map, Option.map_eq_some_iff] at e ⊢
  obtain ⟨p, hp, rfl⟩ := e
  exact ⟨p.1, p.2, ⟨p, hp, rfl⟩, rfl⟩
theorem Strs.append {vs vs' : List Value} {us us' : List Str} (h : Strs vs us) (h' : Strs vs' us') : Strs (vs ++ vs') (us ++ us') := by
  obtain ⟨l, rfl, rfl⟩ := h
  obtain ⟨l', rfl, rfl⟩ := h'
  exact ⟨l ++ l', by simp [strValues], by simp⟩
theorem Strs.len {vs : List Value} {us : List Str} (h : Strs vs us) : vs.length = us.length := h.are.1
theorem ListIn.mono {news news' : List (Addr × Obj)} {D : Addr} {vs : List Value} (x : ListIn news D vs) (h : ∀ p ∈ news, p ∈ news') : ListIn news' D vs := let ⟨o, hm, r⟩ := x; ⟨o, h _ hm, r⟩
theorem addL {prog : Program} {w : World} {A : Around} {E : Value → Shared → Prop} {s : Shared} {h₀ : Heap} {L : Addr} {m : Str → Option Value} {news : List (Addr × Obj)} {l b : Addr} {va vb : List Value} {ua ub : List Str} {Q : Value → Shared → Prop} (keep : List (Addr × Obj))
    (hk : ∀ p ∈ keep, p ∈ news) (F : Fr h₀ L s.heap m) (N : News h₀ L s.heap news) (la : ListIn news l va) (lb : ListIn news b vb) (sa : Strs va ua) (sb : Strs vb ub) (hsz : ua.length + ub.length ≤ 10000)
    (h : ∀ D o h' v', Fr h₀ L h' m → News h₀ L h' ((D, o) :: keep) → ListIn [(D, o)] D v' → Strs v' (ua ++ ub) → Q (.ref D) { s with heap := h' }) :
    wpAny (model prog w) A (binaryOp .Add (.ref l) (.ref b)) Q E s := by
  refine add_lists F N (la.list N) (lb.list N) ?_ (by rw [sa.len, sb.len, sizeLine_eq]; omega)
  intro h' F' N'
  refine h _ _ h' (va ++ vb) F' (fun p hp => ?_) ⟨{ cls := .type "list", data := .seq (va ++ vb).toArray }, .head _, rfl, _, rfl⟩ (sa.append sb)
  rcases List.mem_cons.mp hp with rfl | hp
  · exact N' _ (.head _)
  · exact N' p (.tail _ (hk p hp))
theorem law4 {prog : Program} {w : World} {A : Around} {s : Shared} {mg mb : Str → Option Value} {name : Str} {params : Arguments} {body : List Stmt} {scope : Scope} {pm cd doc : Value} {L : Addr} {Q : Flow → Shared → Prop}
    (hK : (hd.heap_39 w.params).lookup 117 = some { cls := .type "function", data := .func (docDef name params body scope pm cd doc) })
    (G : Gd w mg mb s.heap) (hA : A.depth + 20 < recursionLimit) (hh : A.handled = none)
    {s₁ : Shared} {m : Str → Option Value} {X Y : Addr} {ox oy : Obj} {vx vy : List Value} {ux uy : List Str} {b : Value} (hmx : m (Str.ofString "x") = some (.ref X)) (hmy : m (Str.ofString "y") = some (.ref Y)) (hmb : m (Str.ofString "bottom") = some b)
    (lx : ListIn [(X, ox)] X vx) (ly : ListIn [(Y, oy)] Y vy) (sx : Strs vx ux) (sy : Strs vy uy) (hx : ux.length ≤ 100) (hy : uy.length ≤ 100) (F : Fr s.heap L s₁.heap m) (N : News s.heap L s₁.heap [(Y, oy), (X, ox)])
    (K : ∀ s', Ob s₁ s' → ∀ m P R op or vp vr tn ts, m (Str.ofString "bottom") = some b → m (Str.ofString "need") = some (.int (needOf (ux.foldl pairF (0, 0)) (uy.foldl pairF (0, 0))) tn) → m (Str.ofString "stay") = some (.int (stayOf (ux.foldl pairF (0, 0)) (uy.foldl pairF (0, 0))) ts) →
      m (Str.ofString "one") = some (.ref P) → m (Str.ofString "other") = some (.ref R) → ListIn [(P, op)] P vp → ListIn [(R, or)] R vr → Strs vp (word1 ux uy) → Strs vr (word2 ux uy) → Fr s.heap L s'.heap m → News s.heap L s'.heap [(R, or), (P, op)] →
      wpAny (model prog w) (A.deeper (envOf name scope L 117 cd)) (execs (body.drop 9) (envOf name scope L 117 cd)) Q (fun _ _ => False) s') :
    wpAny (model prog w) (A.deeper (envOf name scope L 117 cd)) (execs (body.drop 6) (envOf name scope L 117 cd)) Q (fun _ _ => False) s₁ := by
  w_top off
  have e : (hd.heap_39 w.params).lookup 117 = some { cls := .type "function", data := .func (docDef _ _ _ _ _ _ _) } := rfl
  rw [e] at hK
  simp only [Option.some.injEq, Obj.mk.injEq, Data.func.injEq, docDef, FuncData.mk.injEq, FuncBody.stmts.injEq, true_and, and_true] at hK
  obtain ⟨rfl, _, rfl, rfl, rfl, rfl, rfl, rfl⟩ := hK
  clear e
  dsimp only [List.drop] at K ⊢
  have lX := lx.mono (news' := [(Y, oy), (X, ox)]) (fun p hp => .tail _ hp)
  have lY := ly.mono (news' := [(Y, oy), (X, ox)]) (fun p hp => by rw [List.mem_singleton.mp hp]; exact .head _)
  (repeat walk1)
  refine callT2 (corners (by exact Gd.fr G F) (by show A.depth + 1 + 5 < _; omega) (by exact hh) (by exact lX.list N) sx.are (by exact lY.list N) sy.are hx hy) ?_
  intro t a c ta tc s₂ ob₂ k₂ ht ⟨ha, hc⟩
  have F₂ := Fr.kp F k₂
  have N₂ := News.kp N k₂
  clear F N
  try dsimp only
  refine wpAny_assign_Tuple (by exact hh) ht rfl rfl fun h₃ he => ?_
  have k₃ : Kpt s₂.heap h₃ := fun b o e => he b o (Nat.ne_of_lt (Heap.lt_size e)) e
  have F₃ := Fr.kp F₂ k₃
  have N₃ := News.kp N₂ k₃
  clear F₂ N₂ ht
  (repeat walk1)
  clear F₃ N₃
  rename Fr s.heap L _ _ => F₂
  rename News _ _ _ _ => N₂
  refine addL [(Y, oy), (X, ox)] (fun p hp => hp) F₂ N₂ (lx.mono (fun p hp => by rw [List.mem_singleton.mp hp]; simp)) (ly.mono (fun p hp => by rw [List.mem_singleton.mp hp]; simp)) sx sy (by (try simp only [List.length_append]); omega) ?_
  intro aD1 ao1 ah1 av1 aF1 aN1 al1 as1
  clear F₂ N₂
  (repeat walk1)
  rename Fr s.heap L _ _ => F₂
  rename News _ _ _ _ => N₂
  refine addL [(Y, oy), (X, ox)] (fun p hp => .tail _ hp) F₂ N₂ (al1.mono (fun p hp => by rw [List.mem_singleton.mp hp]; exact .head _)) (ly.mono (fun p hp => by rw [List.mem_singleton.mp hp]; simp)) as1 sy (by (try simp only [List.length_append]); omega) ?_
  intro aD2 ao2 ah2 av2 aF2 aN2 al2 as2
  clear F₂ N₂
  (repeat walk1)
  rename Fr s.heap L _ _ => F₂
  rename News _ _ _ _ => N₂
  refine addL [(Y, oy), (X, ox)] (fun p hp => .tail _ hp) F₂ N₂ (al2.mono (fun p hp => by rw [List.mem_singleton.mp hp]; exact .head _)) (lx.mono (fun p hp => by rw [List.mem_singleton.mp hp]; simp)) as2 sx (by (try simp only [List.length_append]); omega) ?_
  intro aD3 ao3 ah3 av3 aF3 aN3 al3 as3
  clear F₂ N₂
  (repeat walk1)
  rename Fr s.heap L _ _ => F₂
  rename News _ _ _ _ => N₂
  refine addL [(Y, oy), (X, ox)] (fun p hp => .tail _ hp) F₂ N₂ (al3.mono (fun p hp => by rw [List.mem_singleton.mp hp]; exact .head _)) (lx.mono (fun p hp => by rw [List.mem_singleton.mp hp]; simp)) as3 sx (by (try simp only [List.length_append]); omega) ?_
  intro aD4 ao4 ah4 av4 aF4 aN4 al4 as4
  clear F₂ N₂
  (repeat walk1)
  rename Fr s.heap L _ _ => F₂
  rename News _ _ _ _ => N₂
  refine addL [(Y, oy), (X, ox)] (fun p hp => .tail _ hp) F₂ N₂ (al4.mono (fun p hp => by rw [List.mem_singleton.mp hp]; exact .head _)) (ly.mono (fun p hp => by rw [List.mem_singleton.mp hp]; simp)) as4 sy (by (try simp only [List.length_append]); omega) ?_
  intro aD5 ao5 ah5 av5 aF5 aN5 al5 as5
  clear F₂ N₂
  (repeat walk1)
  rename Fr s.heap L _ _ => F₂
  rename News _ _ _ _ => N₂
  refine addL [(Y, oy), (X, ox)] (fun p hp => .tail _ hp) F₂ N₂ (al5.mono (fun p hp => by rw [List.mem_singleton.mp hp]; exact .head _)) (lx.mono (fun p hp => by rw [List.mem_singleton.mp hp]; simp)) as5 sx (by (try simp only [List.length_append]); omega) ?_
  intro aD6 ao6 ah6 av6 aF6 aN6 al6 as6
  clear F₂ N₂
  (repeat walk1)
  rename Fr s.heap L _ _ => F₂
  rename News _ _ _ _ => N₂
  refine addL [(Y, oy), (X, ox)] (fun p hp => .tail _ hp) F₂ N₂ (al6.mono (fun p hp => by rw [List.mem_singleton.mp hp]; exact .head _)) (ly.mono (fun p hp => by rw [List.mem_singleton.mp hp]; simp)) as6 sy (by (try simp only [List.length_append]); omega) ?_
  intro aD7 ao7 ah7 av7 aF7 aN7 al7 as7
  clear F₂ N₂
  (repeat walk1)
  rename Fr s.heap L _ _ => F₂
  rename News _ _ _ _ => N₂
  refine addL [(Y, oy), (X, ox)] (fun p hp => .tail _ hp) F₂ N₂ (al7.mono (fun p hp => by rw [List.mem_singleton.mp hp]; exact .head _)) (ly.mono (fun p hp => by rw [List.mem_singleton.mp hp]; simp)) as7 sy (by (try simp only [List.length_append]); omega) ?_
  intro aD8 ao8 ah8 av8 aF8 aN8 al8 as8
  clear F₂ N₂
  (repeat walk1)
  rename Fr s.heap L _ _ => F₂
  rename News _ _ _ _ => N₂
  refine addL [(Y, oy), (X, ox)] (fun p hp => .tail _ hp) F₂ N₂ (al8.mono (fun p hp => by rw [List.mem_singleton.mp hp]; exact .head _)) (lx.mono (fun p hp => by rw [List.mem_singleton.mp hp]; simp)) as8 sx (by (try simp only [List.length_append]); omega) ?_
  intro aD9 ao9 ah9 av9 aF9 aN9 al9 as9
  clear F₂ N₂
  walk1
  try dsimp only
  clear aF9 aN9
  (repeat walk1)
  rename Fr s.heap L _ _ => F₂
  rename News _ _ _ _ => N₂
  refine addL [(aD9, ao9), (Y, oy), (X, ox)] (fun p hp => hp) F₂ N₂ (lx.mono (fun p hp => by rw [List.mem_singleton.mp hp]; simp)) (ly.mono (fun p hp => by rw [List.mem_singleton.mp hp]; simp)) sx sy (by (try simp only [List.length_append]); omega) ?_
  intro bD1 bo1 bh1 bv1 bF1 bN1 bl1 bs1
  clear F₂ N₂
  (repeat walk1)
  rename Fr s.heap L _ _ => F₂
  rename News _ _ _ _ => N₂
  refine addL [(aD9, ao9), (Y, oy), (X, ox)] (fun p hp => .tail _ hp) F₂ N₂ (bl1.mono (fun p hp => by rw [List.mem_singleton.mp hp]; exact .head _)) (ly.mono (fun p hp => by rw [List.mem_singleton.mp hp]; simp)) bs1 sy (by (try simp only [List.length_append]); omega) ?_
  intro bD2 bo2 bh2 bv2 bF2 bN2 bl2 bs2
  clear F₂ N₂
  (repeat walk1)
  rename Fr s.heap L _ _ => F₂
  rename News _ _ _ _ => N₂
  refine addL [(aD9, ao9), (Y, oy), (X, ox)] (fun p hp => .tail _ hp) F₂ N₂ (bl2.mono (fun p hp => by rw [List.mem_singleton.mp hp]; exact .head _)) (lx.mono (fun p hp => by rw [List.mem_singleton.mp hp]; simp)) bs2 sx (by (try simp only [List.length_append]); omega) ?_
  intro bD3 bo3 bh3 bv3 bF3 bN3 bl3 bs3
  clear F₂ N₂
  (repeat walk1)
  rename Fr s.heap L _ _ => F₂
  rename News _ _ _ _ => N₂
  refine addL [(aD9, ao9), (Y, oy), (X, ox)] (fun p hp => .tail _ hp) F₂ N₂ (bl3.mono (fun p hp => by rw [List.mem_singleton.mp hp]; exact .head _)) (ly.mono (fun p hp => by rw [List.mem_singleton.mp hp]; simp)) bs3 sy (by (try simp only [List.length_append]); omega) ?_
  intro bD4 bo4 bh4 bv4 bF4 bN4 bl4 bs4
  clear F₂ N₂
  (repeat walk1)
  rename Fr s.heap L _ _ => F₂
  rename News _ _ _ _ => N₂
  refine addL [(aD9, ao9), (Y, oy), (X, ox)] (fun p hp => .tail _ hp) F₂ N₂ (bl4.mono (fun p hp => by rw [List.mem_singleton.mp hp]; exact .head _)) (lx.mono (fun p hp => by rw [List.mem_singleton.mp hp]; simp)) bs4 sx (by (try simp only [List.length_append]); omega) ?_
  intro bD5 bo5 bh5 bv5 bF5 bN5 bl5 bs5
  clear F₂ N₂
  (repeat walk1)
  rename Fr s.heap L _ _ => F₂
  rename News _ _ _ _ => N₂
  refine addL [(aD9, ao9), (Y, oy), (X, ox)] (fun p hp => .tail _ hp) F₂ N₂ (bl5.mono (fun p hp => by rw [List.mem_singleton.mp hp]; exact .head _)) (lx.mono (fun p hp => by rw [List.mem_singleton.mp hp]; simp)) bs5 sx (by (try simp only [List.length_append]); omega) ?_
  intro bD6 bo6 bh6 bv6 bF6 bN6 bl6 bs6
  clear F₂ N₂
  (repeat walk1)
  rename Fr s.heap L _ _ => F₂
  rename News _ _ _ _ => N₂
  refine addL [(aD9, ao9), (Y, oy), (X, ox)] (fun p hp => .tail _ hp) F₂ N₂ (bl6.mono (fun p hp => by rw [List.mem_singleton.mp hp]; exact .head _)) (ly.mono (fun p hp => by rw [List.mem_singleton.mp hp]; simp)) bs6 sy (by (try simp only [List.length_append]); omega) ?_
  intro bD7 bo7 bh7 bv7 bF7 bN7 bl7 bs7
  clear F₂ N₂
  (repeat walk1)
  rename Fr s.heap L _ _ => F₂
  rename News _ _ _ _ => N₂
  refine addL [(aD9, ao9), (Y, oy), (X, ox)] (fun p hp => .tail _ hp) F₂ N₂ (bl7.mono (fun p hp => by rw [List.mem_singleton.mp hp]; exact .head _)) (ly.mono (fun p hp => by rw [List.mem_singleton.mp hp]; simp)) bs7 sy (by (try simp only [List.length_append]); omega) ?_
  intro bD8 bo8 bh8 bv8 bF8 bN8 bl8 bs8
  clear F₂ N₂
  (repeat walk1)
  rename Fr s.heap L _ _ => F₂
  rename News _ _ _ _ => N₂
  refine addL [(aD9, ao9), (Y, oy), (X, ox)] (fun p hp => .tail _ hp) F₂ N₂ (bl8.mono (fun p hp => by rw [List.mem_singleton.mp hp]; exact .head _)) (lx.mono (fun p hp => by rw [List.mem_singleton.mp hp]; simp)) bs8 sx (by (try simp only [List.length_append]); omega) ?_
  intro bD9 bo9 bh9 bv9 bF9 bN9 bl9 bs9
  clear F₂ N₂
  walk1
  try dsimp only
  clear bF9 bN9
  rename Fr s.heap L _ _ => F₂
  rename News _ _ _ _ => N₂
  refine K _ (Ob.trans (Ob.trans ⟨rfl, id⟩ ob₂) ⟨rfl, id⟩) _ aD9 bD9 ao9 bo9 av9 bv9 ta tc ?_ ?_ ?_ ?_ (if_pos rfl) al9 bl9 as9 bs9 F₂ (fun p hp => N₂ p (by simp only [List.mem_cons, List.not_mem_nil, or_false] at hp ⊢; rcases hp with h | h <;> simp [h]))
  · repeat rw [if_neg (by decide)]
    exact hmb
  · repeat rw [if_neg (by decide)]
    rw [if_pos rfl, ha]
  · repeat rw [if_neg (by decide)]
    rw [if_pos rfl, hc]
  · repeat rw [if_neg (by decide)]
    rw [if_pos rfl]
end Mine
namespace Mine
local macro_rules | `(tactic| walk_at "eval Name") => `(tactic| (refine' ld (by assumption) ?hv ?_; (case hv => ((try dsimp only); (repeat rw [if_neg (by decide)]); first | exact if_pos rfl | assumption))))
local macro_rules | `(tactic| walk_at "eval Name") => `(tactic| (refine' ldG (by assumption) (by assumption) (by first | exact gn_comment_line _ | exact gn_iter_escaped_chars _ | exact gn_strip_quoted_realnames _ | exact gn_check_parenthesis _ | exact gn_twin_re_1 _ | exact gn_twin_re_2 _ | exact gn_quotedata _ | exact gn_law_units _ | exact gn_law_pair _ | exact gn_law_corners _ | exact gn_law_line _ | exact gn_law_told _ | exact gn_law_mail _ | exact gn_CRLF _) ?_))
local macro_rules | `(tactic| walk_at "callWith ref") => `(tactic| (refine' callWithG (by assumption) (by kernel_rfl) ?_))
local macro_rules | `(tactic| walk_at "And") => `(tactic| ((with_reducible show Kpt _ _ ∧ _); refine ⟨Kpt.of (by assumption), ?_⟩))
local macro_rules | `(tactic| walk_at "loadName") => `(tactic| (refine' ldn (by assumption) ?hv ?_; (case hv => ((try dsimp only); (repeat rw [if_neg (by decide)]); first | exact if_pos rfl | assumption))))
local macro_rules | `(tactic| walk_at "eval Name") => `(tactic| first | (refine' ldB (by assumption) (by assumption) (gb_len _) boot_len ?_) | (refine' ldB (by assumption) (by assumption) (gb_sum _) boot_sum ?_) | (refine' ldB (by assumption) (by assumption) (gb_range _) boot_range ?_) | (refine' ldB (by assumption) (by assumption) (gb_max _) boot_max ?_))


def lawFor (body : List Stmt) : List Stmt := match body.drop 9 with | (.For _ _ b _ _) :: _ => b | _ => []
def textS (held n y : Int) (uu : List Str) : Str := Txt.mul (Str.ofString "(") held ++ Txt.join (Str.ofString "") uu ++ (Txt.mul (Str.ofString ")") (held - n + y) ++ Txt.mul (Str.ofString "(") (n - y - held))
def Checked (x : Str) : Prop := x.length ≤ 1000 ∧ x.cps.contains 34 = false ∧ x.cps.all (· < 128) = true ∧ fe false x.cps.toList = false
/-- what the loops keep of the frame -/
structure Kept (m : Str → Option Value) (U : Addr) (b : Str) (n y : Int) : Prop where
  u : m (Str.ofString "units") = some (.ref U)
  b : ∃ t, m (Str.ofString "bottom") = some (.str b t)
  n : ∃ t, m (Str.ofString "need") = some (.int n t)
  y : ∃ t, m (Str.ofString "stay") = some (.int y t)
theorem Kept.up {m : Str → Option Value} {U : Addr} {b : Str} {n y : Int} (h : Kept m U b n y) {x : Str} {v : Option Value} (hx : (x == Str.ofString "units" || x == Str.ofString "bottom" || x == Str.ofString "need" || x == Str.ofString "stay") = false) : Kept (fun q => if q = x then v else m q) U b n y := by
  simp only [Bool.or_eq_false_iff, beq_eq_false_iff_ne, ne_eq] at hx
  obtain ⟨⟨⟨h1, h2⟩, h3⟩, h4⟩ := hx
  obtain ⟨tb, hb⟩ := h.b
  obtain ⟨tn, hn⟩ := h.n
  obtain ⟨ty, hy⟩ := h.y
  exact ⟨(if_neg (Ne.symm h1)).trans h.u, ⟨tb, (if_neg (Ne.symm h2)).trans hb⟩, ⟨tn, (if_neg (Ne.symm h3)).trans hn⟩, ⟨ty, (if_neg (Ne.symm h4)).trans hy⟩⟩
theorem sumLe2 {uu : List Str} (h : ∀ r ∈ uu, r.length ≤ 2) : (uu.map (·.length)).sum ≤ 2 * uu.length := by
  induction uu with
  | nil => exact Nat.zero_le _
  | cons u r ih =>
    have h1 := h u (.head _)
    have h2 := ih fun x hx => h x (.tail _ hx)
    simp only [List.map_cons, List.sum_cons, List.length_cons]
    omega
theorem joinOkU {uu : List Str} (hu : uu.length ≤ 100) (h : ∀ r ∈ uu, r.length ≤ 2) : JoinOk (Str.ofString "") uu = true := by
  have := sumLe2 h
  refine joinOk_of_weight ?_ (by decide)
  omega
theorem callB {prog : Program} {w : World} {A : Around} {s : Shared} {f : Value} {args : List Value} {b : Bool} {h₀ : Heap} {L : Addr} {m : Str → Option Value} {news : List (Addr × Obj)} {Q : Value → Shared → Prop} {E : Value → Shared → Prop}
    (C : codeAny (model prog w) A (.call f ⟨args, []⟩) (EndB s b) s) (F : Fr h₀ L s.heap m) (N : News h₀ L s.heap news)
    (h : ∀ s', Ob s s' → Fr h₀ L s'.heap m → News h₀ L s'.heap news → Q (.bool b) s') : wpAny (model prog w) A (call f args) Q E s := by
  refine wpAny_call (codeAny_mono C ?_)
  rintro r s' ⟨rfl, kp⟩
  exact h s' kp.2 (Fr.kp F kp.1) (News.kp N kp.1)
theorem law6a {prog : Program} {w : World} {A : Around} {s : Shared} {mg mb : Str → Option Value} {name : Str} {params : Arguments} {body : List Stmt} {scope : Scope} {pm cd doc : Value} {L : Addr} {Q : Flow → Shared → Prop}
    (hK : (hd.heap_39 w.params).lookup 117 = some { cls := .type "function", data := .func (docDef name params body scope pm cd doc) })
    (G : Gd w mg mb s.heap) (hA : A.depth + 20 < recursionLimit) (hh : A.handled = none)
    {s₁ : Shared} {m : Str → Option Value} {nw : List (Addr × Obj)} {U : Addr} {vu : List Value} {uu : List Str} {b : Str} {n y : Int} (hm : Kept m U b n y) (lU : ListIn nw U vu) (sU : Strs vu uu) (hu : uu.length ≤ 100) (hu' : ∀ r ∈ uu, r.length ≤ 2) (hn0 : 0 ≤ n) (hn : n ≤ 25) (hy0 : 0 ≤ y) (hy : y ≤ 25)
    (F : Fr s.heap L s₁.heap m) (N : News s.heap L s₁.heap nw)
    (hc : ∀ held : Int, n - 1 ≤ held → 0 ≤ held → held ≤ n → Checked (textS held n y uu) ∧ chk (textS held n y uu) = decide (held = n))
    (K : ∀ s', Ob s₁ s' → ∀ m', Kept m' U b n y → Fr s.heap L s'.heap m' → News s.heap L s'.heap nw →
      wpAny (model prog w) (A.deeper (envOf name scope L 117 cd)) (execs ((lawFor body).drop 2) (envOf name scope L 117 cd)) Q (fun _ _ => False) s') :
    wpAny (model prog w) (A.deeper (envOf name scope L 117 cd)) (execs (lawFor body) (envOf name scope L 117 cd)) Q (fun _ _ => False) s₁ := by
  w_top off
  have e : (hd.heap_39 w.params).lookup 117 = some { cls := .type "function", data := .func (docDef _ _ _ _ _ _ _) } := rfl
  rw [e] at hK
  simp only [Option.some.injEq, Obj.mk.injEq, Data.func.injEq, docDef, FuncData.mk.injEq, FuncBody.stmts.injEq, true_and, and_true] at hK
  obtain ⟨rfl, _, rfl, rfl, rfl, rfl, rfl, rfl⟩ := hK
  clear e
  dsimp only [List.drop, lawFor] at K ⊢
  obtain ⟨lq, rfl, hlq⟩ := id sU
  have hU := hm.u
  obtain ⟨tn, hmn⟩ := hm.n
  (repeat walk1)
  refine SC.join (lU.list N) hlq ?_ ?_
  · exact joinOkU hu hu'
  intro t₂ k₂
  walk1
  try dsimp only
  rename Fr s.heap L _ _ => F₂
  rename News _ _ _ _ => N₂
  clear F N
  refine wpAny_execs_cons ?_
  refine wpAny_For ?_
  (repeat walk1)
  refine max_two_N (by exact hh) F₂ N₂ ?_
  intro h₃ tk₃ F₃ N₃
  clear F₂ N₂
  (repeat walk1)
  rename IsRange _ _ _ _ _ _ _ _ => hr
  rename Fr s.heap L _ _ => F₄
  rename News _ _ _ _ => N₄
  obtain ⟨a₀, ha₀⟩ : ∃ a : Int, (if n - 1 > 0 then n - 1 else 0) = a := ⟨_, rfl⟩
  have hb₀ : 0 ≤ a₀ ∧ a₀ ≤ n ∧ n - 1 ≤ a₀ := by rw [← ha₀]; split <;> omega
  rw [ha₀] at hr
  obtain ⟨x, hx⟩ : ∃ x, x = Txt.join (Str.ofString "") (lq.map (·.1)) := ⟨_, rfl⟩
  refine ForRg (by exact hh) hr (by omega) (by omega) (by omega) (by omega) F₄ N₄ rfl rfl (fun i m' news' => news' = nw ∧ Kept m' U b n y ∧ StrAt m' (Str.ofString "text") x) ⟨rfl, hm.up (by decide), ⟨_, by rw [hx, hlq]; exact if_pos rfl⟩⟩ ?_ ?_
  · rintro i tv m₁ news₁ s₅ own ob₅ hi ⟨rfl, hm₁, ⟨tx, hmx⟩⟩ hoff hsz hown F₅ N₅
    obtain ⟨tn', hmn'⟩ := hm₁.n
    obtain ⟨ty', hmy'⟩ := hm₁.y
    clear F₄ N₄ hr
    have hle : a₀ + (i : Int) ≤ n := by omega
    obtain ⟨hch, hck⟩ := hc (a₀ + (i : Int)) (by omega) (by omega) hle
    have e₁ : (Txt.mul (Str.ofString ")") (a₀ + (i : Int) - n + y)).length ≤ 1 * 100 := len_mul_leN (by decide) (by omega)
    have e₂ : (Txt.mul (Str.ofString "(") (n - y - (a₀ + (i : Int)))).length ≤ 1 * 100 := len_mul_leN (by decide) (by omega)
    have e₃ : (Txt.mul (Str.ofString "(") (a₀ + (i : Int))).length ≤ 1 * 100 := len_mul_leN (by decide) (by omega)
    have ex : x.length ≤ 1000 := by
      have := hch.1
      rw [textS, Str.length_append, Str.length_append] at this
      rw [hx, hlq]; omega
    (repeat walk1)
    rename Fr s.heap L _ _ => F₆
    rename News _ _ _ _ => N₆
    clear F₅ N₅
    rw [textS, ← hlq, ← hx] at hch hck
    obtain ⟨hc1, hc2, hc3, hc4⟩ := hch
    refine callB (check (by exact Gd.fr G F₆) (by show A.depth + 1 + 5 < _; omega) (by exact hh) _ _ hc1 hc2 hc3 hc4) F₆ N₆ ?_
    intro s₇ ob₇ F₇ N₇
    rw [hck]
    clear F₆ N₆
    have key : (decide (a₀ + (i : Int) = n) != (a₀ + (i : Int) == n)) = false := by
      rw [show (a₀ + (i : Int) == n) = decide (a₀ + (i : Int) = n) from rfl]; simp
    (repeat' walk1)
    all_goals first
      | (exfalso; exact Bool.noConfusion ((‹_ = true› : (decide (a₀ + (i : Int) = n) != (a₀ + (i : Int) == n)) = true).symm.trans key))
      | exact ⟨_, news₁, Ob.trans ⟨rfl, id⟩ ob₇, F₇, N₇, hoff, rfl, (hm₁.up (by decide)).up (by decide), StrAt.up (StrAt.up ⟨tx, hmx⟩ (by decide)) (by decide)⟩
  · rintro s₈ m₈ news₈ ob₈ F₈ N₈ ⟨rfl, hm₈, _⟩
    exact K s₈ (Ob.trans ⟨rfl, id⟩ ob₈) m₈ hm₈ F₈ N₈
end Mine
namespace Mine
local macro_rules | `(tactic| walk_at "eval Name") => `(tactic| (refine' ld (by assumption) ?hv ?_; (case hv => ((try dsimp only); (repeat rw [if_neg (by decide)]); first | exact if_pos rfl | assumption))))
local macro_rules | `(tactic| walk_at "eval Name") => `(tactic| (refine' ldG (by assumption) (by assumption) (by first | exact gn_comment_line _ | exact gn_iter_escaped_chars _ | exact gn_strip_quoted_realnames _ | exact gn_check_parenthesis _ | exact gn_twin_re_1 _ | exact gn_twin_re_2 _ | exact gn_quotedata _ | exact gn_law_units _ | exact gn_law_pair _ | exact gn_law_corners _ | exact gn_law_line _ | exact gn_law_told _ | exact gn_law_mail _ | exact gn_CRLF _) ?_))
local macro_rules | `(tactic| walk_at "callWith ref") => `(tactic| (refine' callWithG (by assumption) (by kernel_rfl) ?_))
local macro_rules | `(tactic| walk_at "And") => `(tactic| ((with_reducible show Kpt _ _ ∧ _); refine ⟨Kpt.of (by assumption), ?_⟩))
local macro_rules | `(tactic| walk_at "loadName") => `(tactic| (refine' ldn (by assumption) ?hv ?_; (case hv => ((try dsimp only); (repeat rw [if_neg (by decide)]); first | exact if_pos rfl | assumption))))
local macro_rules | `(tactic| walk_at "eval Name") => `(tactic| first | (refine' ldB (by assumption) (by assumption) (gb_len _) boot_len ?_) | (refine' ldB (by assumption) (by assumption) (gb_sum _) boot_sum ?_) | (refine' ldB (by assumption) (by assumption) (gb_range _) boot_range ?_) | (refine' ldB (by assumption) (by assumption) (gb_max _) boot_max ?_))



def itc : Nat → Str → Str
  | 0, b => b
  | n + 1, b => cl (itc n b)
theorem itc_len (n : Nat) (b : Str) : (itc n b).length ≤ b.length + 2 * n := by
  induction n with
  | zero => exact Nat.le_refl _
  | succ n ih =>
    have := cl_len (itc n b) (rstrip_len (itc n b))
    show (cl (itc n b)).length ≤ _
    omega
theorem Strs.rows {vs : List Value} {us : List Str} (h : Strs vs us) : PyProof.Rows.StrsAre vs us := by
  obtain ⟨l, rfl, rfl⟩ := h
  induction l with
  | nil => exact .nil
  | cons p r ih => exact .cons p.1 p.2 ih
def OrP (s₉ : Shared) (h₀ : Heap) (L : Addr) (m : Str → Option Value) (news : List (Addr × Obj)) (B : Bool) (v : Value) (s' : Shared) : Prop := v = .bool B ∧ Ob s₉ s' ∧ Fr h₀ L s'.heap m ∧ News h₀ L s'.heap news
theorem law6b {prog : Program} {w : World} {A : Around} {s : Shared} {mg mb : Str → Option Value} {name : Str} {params : Arguments} {body : List Stmt} {scope : Scope} {pm cd doc : Value} {L : Addr} {Q : Flow → Shared → Prop}
    (hK : (hd.heap_39 w.params).lookup 117 = some { cls := .type "function", data := .func (docDef name params body scope pm cd doc) })
    (G : Gd w mg mb s.heap) (hA : A.depth + 20 < recursionLimit) (hh : A.handled = none)
    {s₁ : Shared} {m : Str → Option Value} {nw : List (Addr × Obj)} {U : Addr} {vu : List Value} {uu : List Str} {b : Str} {n y : Int} (hm : Kept m U b n y) (lU : ListIn nw U vu) (sU : Strs vu uu) (hu : uu.length ≤ 100) (hn0 : 0 ≤ n) (hn : n ≤ 25) (hy0 : 0 ≤ y) (hy : y ≤ 25) (hb : b.length ≤ 10)
    (F : Fr s.heap L s₁.heap m) (N : News s.heap L s₁.heap nw)
    (hc : uu.foldl lineF (some (itc n.toNat b)) = some (toldS b (decide (n > 0) || uu.any (· == Str.ofString "(")) y))
    (K : ∀ s', Ob s₁ s' → ∀ m', Kept m' U b n y → Fr s.heap L s'.heap m' → News s.heap L s'.heap nw →
      wpAny (model prog w) (A.deeper (envOf name scope L 117 cd)) (execs ((lawFor body).drop 5) (envOf name scope L 117 cd)) Q (fun _ _ => False) s') :
    wpAny (model prog w) (A.deeper (envOf name scope L 117 cd)) (execs ((lawFor body).drop 2) (envOf name scope L 117 cd)) Q (fun _ _ => False) s₁ := by
  w_top off
  have e : (hd.heap_39 w.params).lookup 117 = some { cls := .type "function", data := .func (docDef _ _ _ _ _ _ _) } := rfl
  rw [e] at hK
  simp only [Option.some.injEq, Obj.mk.injEq, Data.func.injEq, docDef, FuncData.mk.injEq, FuncBody.stmts.injEq, true_and, and_true] at hK
  obtain ⟨rfl, _, rfl, rfl, rfl, rfl, rfl, rfl⟩ := hK
  clear e
  dsimp only [List.drop, lawFor] at K ⊢
  obtain ⟨tn, hmn⟩ := hm.n
  obtain ⟨tb, hmb⟩ := hm.b
  walk1
  walk1
  walk1
  walk1
  try dsimp only
  rename Fr s.heap L _ _ => F₂
  rename News _ _ _ _ => N₂
  clear F N
  refine wpAny_execs_cons ?_
  refine wpAny_For ?_
  (repeat walk1)
  rename IsRange _ _ _ _ _ _ _ _ => hr
  rename Fr s.heap L _ _ => F₄
  rename News _ _ _ _ => N₄
  refine ForRg (by exact hh) hr (by omega) (by omega) (by omega) (by omega) F₄ N₄ rfl rfl (fun i m' news' => news' = nw ∧ Kept m' U b n y ∧ StrAt m' (Str.ofString "line") (itc i b)) ⟨rfl, hm.up (by decide), ⟨_, if_pos rfl⟩⟩ ?_ ?_
  · rintro i tv m₁ news₁ s₅ own ob₅ hi ⟨rfl, hm₁, ⟨tx, hmx⟩⟩ hoff hsz hown F₅ N₅
    clear F₄ N₄ hr
    have hlen := itc_len i b
    (repeat walk1)
    refine callS (comment (by exact Gd.fr G F₅) (by show A.depth + 1 < _; omega) _ _ (by omega)) F₅ N₅ ?_
    intro t₆ s₆ ob₆ F₆ N₆
    clear F₅ N₅
    (repeat walk1)
    rename Fr s.heap L _ _ => F₇
    rename News _ _ _ _ => N₇
    exact ⟨_, news₁, Ob.trans ⟨rfl, id⟩ (Ob.trans ob₆ ⟨rfl, id⟩), F₇, N₇, hoff, rfl, (hm₁.up (by decide)).up (by decide), StrAt.here rfl⟩
  · rintro s₈ m₈ news₈ ob₈ F₈ N₈ ⟨rfl, hm₈, ⟨tx, hmx⟩⟩
    clear F₄ N₄ hr
    have hlen := itc_len (n - 0).toNat b
    have hn0' : (n - 0).toNat = n.toNat := by omega
    rw [hn0'] at hmx hlen
    have hmu := hm₈.u
    obtain ⟨tn', hmn'⟩ := hm₈.n
    obtain ⟨ty', hmy'⟩ := hm₈.y
    obtain ⟨tb', hmb'⟩ := hm₈.b
    dsimp only
    (repeat walk1)
    refine callS (lawLine (by exact Gd.fr G F₈) (by show A.depth + 1 + 5 < _; omega) (by exact hh) (lU.list N₈) sU.are (by omega) _ _ (by omega) _ hc) F₈ N₈ ?_
    intro t₉ s₉ ob₉ F₉ N₉
    clear F₈ N₈
    (repeat ((fail_if_success (with_reducible show wpAny _ _ (eval (Expr.BoolOp _ _ _) _) _ _ _)); walk1))
    refine wpAny_mono (Q := OrP s₉ s.heap L m₈ news₈ (decide (n > 0) || uu.any fun x => x == Str.ofString "(")) ?_ ?_ (fun _ _ e => e)
    · (repeat' walk1)
      · exact ⟨by simp [*], ⟨rfl, id⟩, F₉, N₉⟩
      · refine in_list_strs (lU.list N₉) sU.rows ?_
        exact ⟨by simp [*], ⟨rfl, id⟩, F₉, N₉⟩
    rintro v s₁₀ ⟨rfl, ob₁₀, F₁₀, N₁₀⟩
    clear F₉ N₉
    (repeat walk1)
    refine callS (told (by exact Gd.fr G F₁₀) (by show A.depth + 1 < _; omega) _ _ (by omega) _ _ _ hy0 (by omega)) F₁₀ N₁₀ ?_
    intro t₁₁ s₁₁ ob₁₁ F₁₁ N₁₁
    clear F₁₀ N₁₀
    walk1
    walk1
    walk1
    · exfalso
      simp at *
    · walk1
      exact K s₁₁ (Ob.trans (Ob.trans ⟨rfl, id⟩ ob₈) (Ob.trans (Ob.trans ⟨rfl, id⟩ ob₉) (Ob.trans ob₁₀ (Ob.trans ⟨rfl, id⟩ ob₁₁)))) m₈ hm₈ F₁₁ N₁₁
end Mine
namespace Mine
local macro_rules | `(tactic| walk_at "eval Name") => `(tactic| (refine' ld (by assumption) ?hv ?_; (case hv => ((try dsimp only); (repeat rw [if_neg (by decide)]); first | exact if_pos rfl | assumption))))
local macro_rules | `(tactic| walk_at "eval Name") => `(tactic| (refine' ldG (by assumption) (by assumption) (by first | exact gn_comment_line _ | exact gn_iter_escaped_chars _ | exact gn_strip_quoted_realnames _ | exact gn_check_parenthesis _ | exact gn_twin_re_1 _ | exact gn_twin_re_2 _ | exact gn_quotedata _ | exact gn_law_units _ | exact gn_law_pair _ | exact gn_law_corners _ | exact gn_law_line _ | exact gn_law_told _ | exact gn_law_mail _ | exact gn_CRLF _) ?_))
local macro_rules | `(tactic| walk_at "callWith ref") => `(tactic| (refine' callWithG (by assumption) (by kernel_rfl) ?_))
local macro_rules | `(tactic| walk_at "And") => `(tactic| ((with_reducible show Kpt _ _ ∧ _); refine ⟨Kpt.of (by assumption), ?_⟩))
local macro_rules | `(tactic| walk_at "loadName") => `(tactic| (refine' ldn (by assumption) ?hv ?_; (case hv => ((try dsimp only); (repeat rw [if_neg (by decide)]); first | exact if_pos rfl | assumption))))
local macro_rules | `(tactic| walk_at "eval Name") => `(tactic| first | (refine' ldB (by assumption) (by assumption) (gb_len _) boot_len ?_) | (refine' ldB (by assumption) (by assumption) (gb_sum _) boot_sum ?_) | (refine' ldB (by assumption) (by assumption) (gb_range _) boot_range ?_) | (refine' ldB (by assumption) (by assumption) (gb_max _) boot_max ?_))




theorem Strs.carried {vs : List Value} {us : List Str} (h : Strs vs us) : CarriedAll vs (us.map PyData.str) := by
  obtain ⟨l, rfl, rfl⟩ := h
  induction l with
  | nil => exact .nil
  | cons p r ih => exact .cons (.str p.1 p.2) ih
theorem ne_rows {prog : Program} {w : World} {A : Around} {E : Value → Shared → Prop} {s : Shared} {a b : Addr} {xs ys : List Value} {u v t : Str} {Q : Value → Shared → Prop} (ha : s.heap.IsList a xs.toArray) (hb : s.heap.IsList b ys.toArray)
    (sx : Strs xs [u, v, t]) (sy : Strs ys [u, v, t]) (ou : PyData.strOk u = true) (ov : PyData.strOk v = true) (ot : PyData.strOk t = true) (hu : A.units + 64 < cLine) (h : Q (.bool false) s) : wpAny (model prog w) A (compareOp .NotEq (.ref a) (.ref b)) Q E s := by
  have h1 : SeqAt.shaped (.list ([u, v, t].map PyData.str)) = true := by
    simp [SeqAt.shaped, PyData.canLay0, PyData.depth, PyData.canLayAll0, PyData.depthAll, ou, ov, ot]
  have h2 : PySem.Spec.same (.list ([u, v, t].map PyData.str)) (.list ([u, v, t].map PyData.str)) = true := by
    simp [PySem.Spec.same, PySem.Spec.sameAll]
  have h3 : SeqAt.noMix (.list ([u, v, t].map PyData.str)) (.list ([u, v, t].map PyData.str)) = true := by
    simp [SeqAt.noMix, SeqAt.noMixAll]
  exact ne_dataH_same (reads_newData ha sx.carried) (reads_newData hb sy.carried) h1 h1 hu h3 (by rw [h2]; exact h)
theorem mul_all : (List.range 29).all (fun k => Txt.mul (Str.ofString ".") (k : Int) == ds k) = true := by decide +kernel
theorem mul_ds {k : Nat} (h : k ≤ 28) : Txt.mul (Str.ofString ".") (k : Int) = ds k := eq_of_beq (List.all_eq_true.mp mul_all k (List.mem_range.mpr (by omega)))
theorem ok_all : (List.range 29).all (fun k => PyData.strOk (ds k)) = true := by decide +kernel
theorem ok_ds {k : Nat} (h : k ≤ 28) : PyData.strOk (ds k) = true := List.all_eq_true.mp ok_all k (List.mem_range.mpr (by omega))
theorem holdL {h₀ h : Heap} {L l : Addr} {m : Str → Option Value} {news : List (Addr × Obj)} {vs : List Value} (F : Fr h₀ L h m) (N : News h₀ L h news) (hl : h.IsList l vs.toArray) :
    ∃ ex, News h₀ L h (ex ++ news) ∧ ∀ h' m' own, Fr h₀ L h' m' → News h₀ L h' (own ++ (ex ++ news)) → h'.IsList l vs.toArray := by
  obtain ⟨o, go, hc, n, hd⟩ := hl
  cases e : h₀.get? l with
  | some o' =>
    have := F.keep l o' e
    rw [go] at this
    cases this
    exact ⟨[], N, fun h' m' own F' _ => ⟨o, F'.keep l o e, hc, n, hd⟩⟩
  | none =>
    refine ⟨[(l, o)], fun p hp => ?_, fun h' m' own _ N' => ⟨o, (N' _ (List.mem_append_right _ (.head _))).1, hc, n, hd⟩⟩
    rcases List.mem_cons.mp hp with rfl | hp
    · refine ⟨go, fun q => ?_, e⟩
      obtain ⟨oL, es, ep, gL, dL, _⟩ := F.ns
      have q : l = L := q
      rw [← q, go] at gL
      cases gL
      rw [hd] at dL; cases dL
    · exact N p hp
theorem law6c {prog : Program} {w : World} {A : Around} {s : Shared} {mg mb : Str → Option Value} {name : Str} {params : Arguments} {body : List Stmt} {scope : Scope} {pm cd doc : Value} {L : Addr} {Q : Flow → Shared → Prop}
    (hK : (hd.heap_39 w.params).lookup 117 = some { cls := .type "function", data := .func (docDef name params body scope pm cd doc) })
    (G : Gd w mg mb s.heap) (hA : A.depth + 20 < recursionLimit) (hh : A.handled = none) (hU : A.units + 100 < cLine)
    {s₁ : Shared} {m : Str → Option Value} {nw : List (Addr × Obj)} {U : Addr} {vu : List Value} {uu : List Str} {b : Str} {n y : Int} (hm : Kept m U b n y) (lU : ListIn nw U vu) (sU : Strs vu uu) (hu : uu.length ≤ 100) (hn0 : 0 ≤ n) (hn : n ≤ 25) (hy0 : 0 ≤ y) (hy : y ≤ 25)
    (F : Fr s.heap L s₁.heap m) (N : News s.heap L s₁.heap nw)
    (hc : uu.foldl mailF (some (n.toNat, n.toNat + 1, n.toNat + 2)) = some (0, y.toNat + 1, y.toNat + 2))
    (K : ∀ s', Ob s₁ s' → ∀ m', Kept m' U b n y → Fr s.heap L s'.heap m' → News s.heap L s'.heap nw → Q .next s') :
    wpAny (model prog w) (A.deeper (envOf name scope L 117 cd)) (execs ((lawFor body).drop 5) (envOf name scope L 117 cd)) Q (fun _ _ => False) s₁ := by
  w_top off
  have e : (hd.heap_39 w.params).lookup 117 = some { cls := .type "function", data := .func (docDef _ _ _ _ _ _ _) } := rfl
  rw [e] at hK
  simp only [Option.some.injEq, Obj.mk.injEq, Data.func.injEq, docDef, FuncData.mk.injEq, FuncBody.stmts.injEq, true_and, and_true] at hK
  obtain ⟨rfl, _, rfl, rfl, rfl, rfl, rfl, rfl⟩ := hK
  clear e
  dsimp only [List.drop, lawFor] at K ⊢
  obtain ⟨tn, hmn⟩ := hm.n
  obtain ⟨ty, hmy⟩ := hm.y
  have hmu := hm.u
  obtain ⟨N₀, rfl⟩ : ∃ k : Nat, n = k := ⟨n.toNat, by omega⟩
  obtain ⟨Y₀, rfl⟩ : ∃ k : Nat, y = k := ⟨y.toNat, by omega⟩
  rw [Int.toNat_natCast, Int.toNat_natCast] at hc
  have m0 := mul_ds (k := N₀) (by omega)
  have m1 : Txt.mul (Str.ofString ".") ((N₀ : Int) + 1) = ds (N₀ + 1) := mul_ds (k := N₀ + 1) (by omega)
  have m2 : Txt.mul (Str.ofString ".") ((N₀ : Int) + 2) = ds (N₀ + 2) := mul_ds (k := N₀ + 2) (by omega)
  have y1 : Txt.mul (Str.ofString ".") ((Y₀ : Int) + 1) = ds (Y₀ + 1) := mul_ds (k := Y₀ + 1) (by omega)
  have y2 : Txt.mul (Str.ofString ".") ((Y₀ : Int) + 2) = ds (Y₀ + 2) := mul_ds (k := Y₀ + 2) (by omega)
  (repeat walk1)
  clear F N
  rename Fr s.heap L _ _ => F₂
  rename News _ _ _ _ => N₂
  refine wpAny_call (codeAny_mono (mailT (p := (N₀, N₀ + 1, N₀ + 2)) (by exact Gd.fr G F₂) (by show A.depth + 1 + 7 < _; omega) (by exact hh) ((lU.mono (fun p hp => .tail _ hp)).list N₂) sU.are (by omega) ⟨_, (N₂ _ (.head _)).1, rfl, _, rfl⟩ ⟨[(Txt.mul (Str.ofString ".") (N₀ : Int), _), (Txt.mul (Str.ofString ".") ((N₀ : Int) + 1), _), (Txt.mul (Str.ofString ".") ((N₀ : Int) + 2), _)], rfl, by rw [m0, m1, m2]; rfl⟩ hc) ?_)
  rintro r s₃ ⟨l, vs, rfl, hl, hs, kp⟩
  obtain ⟨ex, N₃, hold⟩ := holdL (Fr.kp F₂ kp.1) (News.kp N₂ kp.1) hl
  have F₃ := Fr.kp F₂ kp.1
  have ob₃ := kp.2
  clear F₂ N₂ kp hl
  (repeat walk1)
  rename Fr s.heap L _ _ => F₅
  rename News _ _ _ _ => N₅
  clear F₃ N₃
  refine ne_rows (hold _ _ [_] F₅ N₅) ⟨_, (N₅ _ (.head _)).1, rfl, _, rfl⟩ hs ⟨[(Str.ofString "", _), (Txt.mul (Str.ofString ".") ((Y₀ : Int) + 1), _), (Txt.mul (Str.ofString ".") ((Y₀ : Int) + 2), _)], rfl, by rw [y1, y2]; rfl⟩ (ok_ds (by show 0 ≤ 28; omega)) (ok_ds (by show Y₀ + 1 ≤ 28; omega)) (ok_ds (by show Y₀ + 2 ≤ 28; omega)) (by show A.units + 3 + 64 < _; omega) ?_
  walk1
  walk1
  walk1
  dsimp only
  walk1
  refine K _ (Ob.trans (Ob.trans ⟨rfl, id⟩ ob₃) ⟨rfl, id⟩) _ (hm.up (by decide)) F₅ (fun p hp => N₅ p (.tail _ (List.mem_append_right _ (.tail _ hp))))
end Mine
namespace Mine
local macro_rules | `(tactic| walk_at "eval Name") => `(tactic| (refine' ld (by assumption) ?hv ?_; (case hv => ((try dsimp only); (repeat rw [if_neg (by decide)]); first | exact if_pos rfl | assumption))))
local macro_rules | `(tactic| walk_at "eval Name") => `(tactic| (refine' ldG (by assumption) (by assumption) (by first | exact gn_comment_line _ | exact gn_iter_escaped_chars _ | exact gn_strip_quoted_realnames _ | exact gn_check_parenthesis _ | exact gn_twin_re_1 _ | exact gn_twin_re_2 _ | exact gn_quotedata _ | exact gn_law_units _ | exact gn_law_pair _ | exact gn_law_corners _ | exact gn_law_line _ | exact gn_law_told _ | exact gn_law_mail _ | exact gn_CRLF _) ?_))
local macro_rules | `(tactic| walk_at "callWith ref") => `(tactic| (refine' callWithG (by assumption) (by kernel_rfl) ?_))
local macro_rules | `(tactic| walk_at "And") => `(tactic| ((with_reducible show Kpt _ _ ∧ _); refine ⟨Kpt.of (by assumption), ?_⟩))
local macro_rules | `(tactic| walk_at "loadName") => `(tactic| (refine' ldn (by assumption) ?hv ?_; (case hv => ((try dsimp only); (repeat rw [if_neg (by decide)]); first | exact if_pos rfl | assumption))))
local macro_rules | `(tactic| walk_at "eval Name") => `(tactic| first | (refine' ldB (by assumption) (by assumption) (gb_len _) boot_len ?_) | (refine' ldB (by assumption) (by assumption) (gb_sum _) boot_sum ?_) | (refine' ldB (by assumption) (by assumption) (gb_range _) boot_range ?_) | (refine' ldB (by assumption) (by assumption) (gb_max _) boot_max ?_))





/-- what one word must give -/
structure Word (b : Str) (n y : Int) (uu : List Str) : Prop where
  len : uu.length ≤ 100
  two : ∀ r ∈ uu, r.length ≤ 2
  chk : ∀ held : Int, n - 1 ≤ held → 0 ≤ held → held ≤ n → Checked (textS held n y uu) ∧ chk (textS held n y uu) = decide (held = n)
  line : uu.foldl lineF (some (itc n.toNat b)) = some (toldS b (decide (n > 0) || uu.any (· == Str.ofString "(")) y)
  mail : uu.foldl mailF (some (n.toNat, n.toNat + 1, n.toNat + 2)) = some (0, y.toNat + 1, y.toNat + 2)
structure Kept3 (m : Str → Option Value) (b : Str) (n y : Int) : Prop where
  b : ∃ t, m (Str.ofString "bottom") = some (.str b t)
  n : ∃ t, m (Str.ofString "need") = some (.int n t)
  y : ∃ t, m (Str.ofString "stay") = some (.int y t)
theorem Kept3.on {m : Str → Option Value} {b : Str} {n y : Int} (h : Kept3 m b n y) (U : Addr) : Kept (fun q => if q = Str.ofString "units" then some (.ref U) else m q) U b n y := by
  obtain ⟨⟨tb, hb⟩, ⟨tn, hn⟩, ⟨ty, hy⟩⟩ := h
  exact ⟨if_pos rfl, ⟨tb, (if_neg (by decide)).trans hb⟩, ⟨tn, (if_neg (by decide)).trans hn⟩, ⟨ty, (if_neg (by decide)).trans hy⟩⟩
theorem law5 {prog : Program} {w : World} {A : Around} {s : Shared} {mg mb : Str → Option Value} {name : Str} {params : Arguments} {body : List Stmt} {scope : Scope} {pm cd doc : Value} {L : Addr}
    (hK : (hd.heap_39 w.params).lookup 117 = some { cls := .type "function", data := .func (docDef name params body scope pm cd doc) })
    (G : Gd w mg mb s.heap) (hA : A.depth + 20 < recursionLimit) (hh : A.handled = none) (hU : A.units + 100 < cLine)
    {s₁ : Shared} (ob₁ : Ob s s₁) {m : Str → Option Value} {P R : Addr} {op or : Obj} {vp vr : List Value} {up ur : List Str} {b : Str} {n y : Int} (hm : Kept3 m b n y) (hmp : m (Str.ofString "one") = some (.ref P)) (hmr : m (Str.ofString "other") = some (.ref R))
    (lp : ListIn [(P, op)] P vp) (lr : ListIn [(R, or)] R vr) (sp : Strs vp up) (sr : Strs vr ur) (hn0 : 0 ≤ n) (hn : n ≤ 25) (hy0 : 0 ≤ y) (hy : y ≤ 25) (hb : b.length ≤ 10) (wp : Word b n y up) (wr : Word b n y ur)
    (F : Fr s.heap L s₁.heap m) (N : News s.heap L s₁.heap [(R, or), (P, op)]) :
    wpAny (model prog w) (A.deeper (envOf name scope L 117 cd)) (execs (body.drop 9) (envOf name scope L 117 cd)) (fun f s' => EndV s true (.ok (.ret (match f with | .ret v => v | _ => .none))) s') (fun _ _ => False) s₁ := by
  w_top off
  have turn : ∀ {s₂ : Shared} {m₂ : Str → Option Value} {own : List (Addr × Obj)} {U : Addr} {vu : List Value} {uu : List Str} {J : Nat → (Str → Option Value) → List (Addr × Obj) → Prop} {k : Nat} {wr : List Addr} {Qr : Value → Shared → Prop},
      (∀ m', Kept m' U b n y → J k m' [(R, or), (P, op)]) → (∀ p ∈ [(R, or), (P, op)], p.1 ∉ wr) → Kept m₂ U b n y → ListIn [(R, or), (P, op)] U vu → Strs vu uu → Word b n y uu → Fr s.heap L s₂.heap m₂ → News s.heap L s₂.heap (own ++ [(R, or), (P, op)]) →
      wpAny (model prog w) (A.deeper (envOf name scope L 117 cd)) (execs (lawFor body) (envOf name scope L 117 cd)) (Turn s.heap L wr own (J k) s₂ Qr) (fun _ _ => False) s₂ := by
    intro s₂ m₂ own U vu uu J k wr Qr hJ hoff hk lU sU W F₂ N₂
    have lU' : ListIn (own ++ [(R, or), (P, op)]) U vu := lU.mono fun p hp => List.mem_append_right _ hp
    refine law6a hK G hA hh hk lU' sU W.len W.two hn0 hn hy0 hy F₂ N₂ W.chk ?_
    intro s₃ ob₃ m₃ hk₃ F₃ N₃
    refine law6b hK G hA hh hk₃ lU' sU W.len hn0 hn hy0 hy hb F₃ N₃ W.line ?_
    intro s₄ ob₄ m₄ hk₄ F₄ N₄
    refine law6c hK G hA hh hU hk₄ lU' sU W.len hn0 hn hy0 hy F₄ N₄ W.mail ?_
    intro s₅ ob₅ m₅ hk₅ F₅ N₅
    exact ⟨m₅, _, Ob.trans ob₃ (Ob.trans ob₄ ob₅), F₅, N₅, hoff, hJ m₅ hk₅⟩
  have e : (hd.heap_39 w.params).lookup 117 = some { cls := .type "function", data := .func (docDef _ _ _ _ _ _ _) } := rfl
  rw [e] at hK
  simp only [Option.some.injEq, Obj.mk.injEq, Data.func.injEq, docDef, FuncData.mk.injEq, FuncBody.stmts.injEq, true_and, and_true] at hK
  obtain ⟨rfl, _, rfl, rfl, rfl, rfl, rfl, rfl⟩ := hK
  clear e
  dsimp only [List.drop, lawFor] at turn ⊢
  refine wpAny_execs_cons ?_
  refine wpAny_For ?_
  (repeat walk1)
  rename Fr s.heap L _ _ => F₂
  rename News _ _ _ _ => N₂
  refine ForTup (items := #[.ref P, .ref R]) (by exact hh) ⟨_, (N₂ _ (.head _)).1, rfl, _, rfl⟩ (N₂ _ (.head _)).2.2 F₂ (fun p hp => N₂ p (.tail _ hp)) rfl rfl (N₂ _ (.head _)).2.1
    (fun i m' news' => news' = [(R, or), (P, op)] ∧ Kept3 m' b n y) ⟨rfl, hm⟩ ?_ ?_
  · rintro i v m₁ news₁ s₃ own ob₃ hv ⟨rfl, hm₁⟩ hoff hsz hown F₃ N₃
    have done : ∀ U m', Kept m' U b n y → (fun (m' : Str → Option Value) (news' : List (Addr × Obj)) => news' = [(R, or), (P, op)] ∧ Kept3 m' b n y) m' [(R, or), (P, op)] := fun U m' h => ⟨rfl, h.b, h.n, h.y⟩
    match i, hv with
    | 0, hv =>
      cases hv
      exact turn (J := fun _ m' news' => news' = [(R, or), (P, op)] ∧ Kept3 m' b n y) (k := 1) (fun m' h => done P m' h) hoff (hm₁.on P) (lp.mono fun p hp => by rw [List.mem_singleton.mp hp]; simp) sp wp F₃ N₃
    | 1, hv =>
      cases hv
      exact turn (J := fun _ m' news' => news' = [(R, or), (P, op)] ∧ Kept3 m' b n y) (k := 2) (fun m' h => done R m' h) hoff (hm₁.on R) (lr.mono fun p hp => by rw [List.mem_singleton.mp hp]; simp) sr wr F₃ N₃
    | k + 2, hv => simp at hv
  · rintro s₄ m₄ news₄ ob₄ F₄ N₄ ⟨rfl, hm₄⟩
    clear F₂ N₂ F N
    dsimp only
    (repeat walk1)
    exact ⟨rfl, Kp.fr F₄ (Ob.trans ob₁ (Ob.trans ⟨rfl, id⟩ ob₄))⟩
end Mine
namespace Mine
/-! from the units to their kinds -/
def Ok6 (k : Int) : Prop := 0 ≤ k ∧ k < 6
theorem six {P : Int → Prop} (h : ∀ n : Fin 6, P (n.val : Int)) {k : Int} (hk : Ok6 k) : P k := by
  obtain ⟨h0, h6⟩ := hk
  obtain ⟨n, rfl⟩ : ∃ n : Nat, k = n := ⟨k.toNat, by omega⟩
  exact h ⟨n, by omega⟩
theorem unit_open {k : Int} (h : Ok6 k) : (unitOf k = Str.ofString "(") ↔ (kd k = 1) := six (P := fun k => (unitOf k = Str.ofString "(") ↔ (kd k = 1)) (by decide +kernel) h
theorem unit_shut {k : Int} (h : Ok6 k) : (unitOf k = Str.ofString ")") ↔ (kd k = -1) := six (P := fun k => (unitOf k = Str.ofString ")") ↔ (kd k = -1)) (by decide +kernel) h
theorem unit_len {k : Int} (h : Ok6 k) : (unitOf k).length ≤ 2 := six (P := fun k => (unitOf k).length ≤ 2) (by decide +kernel) h
theorem unit_asc {k : Int} (h : Ok6 k) : ∀ c ∈ (unitOf k).cps.toList, c < 128 ∧ c ≠ 34 := six (P := fun k => ∀ c ∈ (unitOf k).cps.toList, c < 128 ∧ c ≠ 34) (by decide +kernel) h
theorem unit_yl {k : Int} (h : Ok6 k) : yl false (unitOf k).cps.toList = [unitOf k] ∧ fe false (unitOf k).cps.toList = false := six (P := fun k => yl false (unitOf k).cps.toList = [unitOf k] ∧ fe false (unitOf k).cps.toList = false) (by decide +kernel) h
theorem foldl_units {β : Type} {f : β → Str → β} {g : β → Int → β} (h : ∀ b k, Ok6 k → f b (unitOf k) = g b (kd k)) : ∀ (ks : List Int), (∀ k ∈ ks, Ok6 k) → ∀ b, (ks.map unitOf).foldl f b = (ks.map kd).foldl g b
  | [], _, _ => rfl
  | k :: r, hk, b => by
    show (r.map unitOf).foldl f (f b (unitOf k)) = (r.map kd).foldl g (g b (kd k))
    rw [h b k (hk k (.head _))]
    exact foldl_units h r (fun x hx => hk x (.tail _ hx)) _
theorem pair_units {b : Int × Int} {k : Int} (h : Ok6 k) : pairF b (unitOf k) = pairK b (kd k) := by
  unfold pairF pairK
  simp only [unit_open h, unit_shut h]
theorem chk_units {b : Option Int} {k : Int} (h : Ok6 k) : chkF b (unitOf k) = chkK b (kd k) := by
  unfold chkF chkK
  simp only [unit_open h, unit_shut h]
theorem mail_units {b : Option (Nat × Nat × Nat)} {k : Int} (h : Ok6 k) : mailF b (unitOf k) = mailK b (kd k) := by
  unfold mailF mailK
  simp only [unit_open h, unit_shut h]
theorem yl_append : ∀ (a b : List Nat) (e : Bool), yl e (a ++ b) = (if a = [] then yl e b else yl e a ++ yl (fe e a) b)
  | [], _, _ => rfl
  | c :: r, b, true => by
    rw [if_neg (by simp)]
    show _ :: yl false (r ++ b) = (_ :: yl false r) ++ yl (fe false r) b
    rw [yl_append r b false]
    split
    · next h => subst h; rfl
    · rfl
  | c :: r, b, false => by
    rw [if_neg (by simp)]
    show (if c = 92 then yl true (r ++ b) else _ :: yl false (r ++ b)) = (if c = 92 then yl true r else _ :: yl false r) ++ yl (if c = 92 then fe true r else fe false r) b
    split
    · rw [yl_append r b true]
      split
      · next h => subst h; rfl
      · rfl
    · rw [yl_append r b false]
      split
      · next h => subst h; rfl
      · rfl
theorem fe_append : ∀ (a b : List Nat) (e : Bool), fe e (a ++ b) = fe (fe e a) b
  | [], _, _ => by cases ‹Bool› <;> rfl
  | c :: r, b, true => fe_append r b false
  | c :: r, b, false => by
    show (if c = 92 then fe true (r ++ b) else fe false (r ++ b)) = fe (if c = 92 then fe true r else fe false r) b
    split
    · exact fe_append r b true
    · exact fe_append r b false
def flatU (ks : List Int) : List Nat := (ks.map fun k => (unitOf k).cps.toList).flatten
theorem flatU_yl : ∀ (ks : List Int), (∀ k ∈ ks, Ok6 k) → yl false (flatU ks) = ks.map unitOf ∧ fe false (flatU ks) = false
  | [], _ => ⟨rfl, rfl⟩
  | k :: r, hk => by
    obtain ⟨h1, h2⟩ := unit_yl (hk k (.head _))
    obtain ⟨h3, h4⟩ := flatU_yl r fun x hx => hk x (.tail _ hx)
    show yl false ((unitOf k).cps.toList ++ flatU r) = unitOf k :: r.map unitOf ∧ fe false ((unitOf k).cps.toList ++ flatU r) = false
    rw [yl_append, fe_append, h2, h1, h3, h4]
    refine ⟨?_, rfl⟩
    split
    · next h => rw [h] at h1; cases h1
    · rfl
theorem flatU_all : ∀ (ks : List Int), (∀ k ∈ ks, Ok6 k) → ∀ c ∈ flatU ks, c < 128 ∧ c ≠ 34 := by
  intro ks hk c hc
  unfold flatU at hc
  obtain ⟨l, hl, hc⟩ := List.mem_flatten.mp hc
  obtain ⟨k, hk', rfl⟩ := List.mem_map.mp hl
  exact unit_asc (hk k hk') c hc
theorem flatU_len : ∀ (ks : List Int), (∀ k ∈ ks, Ok6 k) → (flatU ks).length ≤ 2 * ks.length
  | [], _ => Nat.le_refl _
  | k :: r, hk => by
    have h1 := unit_len (hk k (.head _))
    have h2 := flatU_len r fun x hx => hk x (.tail _ hx)
    show ((unitOf k).cps.toList ++ flatU r).length ≤ _
    rw [List.length_append, Array.length_toList]
    have h1 : (unitOf k).cps.size ≤ 2 := h1
    simp only [List.length_cons]
    omega
theorem flatU_append (a b : List Int) : flatU (a ++ b) = flatU a ++ flatU b := by simp [flatU]
theorem join_flatU : ∀ ks : List Int, (Str.join (Str.ofString "") (ks.map unitOf)).cps.toList = flatU ks
  | [] => rfl
  | [k] => by simp [Str.join, flatU]
  | k :: j :: r => by
    have ih := join_flatU (j :: r)
    show (unitOf k ++ Str.ofString "" ++ Str.join (Str.ofString "") ((j :: r).map unitOf)).cps.toList = (unitOf k).cps.toList ++ flatU (j :: r)
    rw [Str.cps_append, Str.cps_append, Array.toList_append, Array.toList_append, ih]
    show (unitOf k).cps.toList ++ [] ++ _ = _
    rw [List.append_nil]
theorem tjoin_flatU (ks : List Int) : (Txt.join (Str.ofString "") (ks.map unitOf)).cps.toList = flatU ks := by
  unfold Txt.join
  rw [StrLaws.glued_eq_join]
  exact join_flatU ks
theorem foldl_app : ∀ (l : List (Array Nat)) (acc : Array Nat), (l.foldl (· ++ ·) acc).toList = acc.toList ++ (l.map Array.toList).flatten
  | [], acc => by simp
  | a :: r, acc => by
    show (r.foldl (· ++ ·) (acc ++ a)).toList = _
    rw [foldl_app r, Array.toList_append]
    simp
theorem mul_flatU (k n : Int) (hk : (unitOf k).length = 1) : (Txt.mul (unitOf k) n).cps.toList = flatU (rep n k) := by
  unfold Txt.mul rep
  by_cases h1 : n < 1
  · rw [if_pos h1, show n.toNat = 0 by omega]; rfl
  · rw [if_neg h1]
    by_cases h2 : n = 1
    · subst h2
      rw [if_pos (by simp)]
      simp [flatU]
    · rw [if_neg (by simp [h2, hk])]
      show (List.foldl (· ++ ·) #[] (List.replicate n.toNat (unitOf k).cps)).toList = _
      rw [foldl_app]
      simp [flatU]
/-- the numbers of a text between its brackets -/
def textN (held n y : Int) (ks : List Int) : List Int := rep held 0 ++ ks ++ (rep (held - n + y) 2 ++ rep (n - y - held) 0)
theorem rep_mem {n : Int} {k x : Int} (h : x ∈ rep n k) : x = k := List.eq_of_mem_replicate h
theorem textN_ok {held n y : Int} {ks : List Int} (h : ∀ k ∈ ks, Ok6 k) : ∀ k ∈ textN held n y ks, Ok6 k := by
  intro k hk
  simp only [textN, List.mem_append] at hk
  rcases hk with (hk | hk) | (hk | hk)
  · rw [rep_mem hk]; exact ⟨by decide, by decide⟩
  · exact h k hk
  · rw [rep_mem hk]; exact ⟨by decide, by decide⟩
  · rw [rep_mem hk]; exact ⟨by decide, by decide⟩
theorem textN_kd (held n y : Int) (ks : List Int) : (textN held n y ks).map kd = textK held n y (ks.map kd) := by
  have h0 : kd 0 = 1 := by decide
  have h2 : kd 2 = -1 := by decide
  simp [textN, textK, behindL, rep, List.map_append, List.map_replicate, h0, h2]
theorem textS_flat (held n y : Int) (ks : List Int) : (textS held n y (ks.map unitOf)).cps.toList = flatU (textN held n y ks) := by
  have u0 : Str.ofString "(" = unitOf 0 := by decide
  have u2 : Str.ofString ")" = unitOf 2 := by decide
  unfold textS
  rw [u0, u2, Str.cps_append, Str.cps_append, Str.cps_append, Array.toList_append, Array.toList_append, Array.toList_append, mul_flatU 0 _ (by decide), mul_flatU 2 _ (by decide), mul_flatU 0 _ (by decide), tjoin_flatU]
  simp only [textN, flatU_append]
theorem textN_len {held n y : Int} {ks : List Int} (h0 : held ≤ 30) (h1 : n ≤ 30) (h2 : y ≤ 30) (h3 : 0 ≤ held) (h4 : 0 ≤ n) (h5 : 0 ≤ y) (h : ks.length ≤ 100) : (textN held n y ks).length ≤ 300 := by
  simp only [textN, rep, List.length_append, List.length_replicate]
  omega
theorem text_checked {held n y : Int} {ks : List Int} (hk : ∀ k ∈ ks, Ok6 k) (h0 : held ≤ 30) (h1 : n ≤ 30) (h2 : y ≤ 30) (h3 : 0 ≤ held) (h4 : 0 ≤ n) (h5 : 0 ≤ y) (h : ks.length ≤ 100) : Checked (textS held n y (ks.map unitOf)) := by
  have e := textS_flat held n y ks
  have ok := textN_ok (held := held) (n := n) (y := y) hk
  have hl := textN_len h0 h1 h2 h3 h4 h5 h
  refine ⟨?_, ?_, ?_, ?_⟩
  · show (textS held n y (ks.map unitOf)).cps.size ≤ 1000
    rw [← Array.length_toList, e]
    have := flatU_len _ ok
    omega
  · rw [Bool.eq_false_iff]
    intro hc
    have hc := Array.contains_iff_mem.mp hc
    rw [← Array.mem_toList_iff, e] at hc
    exact (flatU_all _ ok _ hc).2 rfl
  · rw [← Array.all_toList, e, List.all_eq_true]
    intro c hc
    exact decide_eq_true (flatU_all _ ok c hc).1
  · rw [e]
    exact (flatU_yl _ ok).2
theorem text_chk {held n y : Int} {ks : List Int} (hk : ∀ k ∈ ks, Ok6 k) : chk (textS held n y (ks.map unitOf)) = endK ((textK held n y (ks.map kd)).foldl chkK (some 0)) := by
  have ok := textN_ok (held := held) (n := n) (y := y) hk
  unfold chk
  rw [textS_flat, (flatU_yl _ ok).1, foldl_units (g := chkK) (fun b k h => chk_units h) _ ok, textN_kd]
  rfl
theorem any_units : ∀ (ks : List Int), (∀ k ∈ ks, Ok6 k) → (ks.map unitOf).any (· == Str.ofString "(") = (ks.map kd).contains 1
  | [], _ => rfl
  | k :: r, hk => by
    have h := unit_open (hk k (.head _))
    have ih := any_units r fun x hx => hk x (.tail _ hx)
    rw [List.map_cons, List.map_cons, List.any_cons, List.contains_cons, ih]
    congr 1
    by_cases hq : kd k = 1
    · rw [h.mpr hq, hq]; rfl
    · rw [beq_eq_false_iff_ne.mpr (fun e => hq (h.mp e)), beq_eq_false_iff_ne.mpr (fun e => hq e.symm)]
end Mine
namespace Mine
/-! the line, by its depth -/
theorem slice_text (x : Str) (l u : Option Int) : Txt.slice x l u = StrLaws.sliceText x l u := rfl
theorem rstrip_id {x : Str} (h : ∀ c, x.cps.toList.getLast? = some c → Unicode.isSpace c = false) : Txt.rstrip x = x := by
  have e : (x.cps.toList.reverse.takeWhile Unicode.isSpace).length = 0 := by
    cases hr : x.cps.toList.reverse with
    | nil => rfl
    | cons c r =>
      have hl : x.cps.toList.getLast? = some c := by rw [← List.head?_reverse, hr]; rfl
      rw [List.takeWhile_cons, h c hl]; rfl
  unfold Txt.rstrip Txt.stripBy
  rw [if_pos]
  show (0 == 0 && x.length - ((x.cps.toList.drop 0).reverse.takeWhile Unicode.isSpace).length == x.length) = true
  rw [List.drop_zero, e]
  simp
/-- d comments ahead of c -/
def sg (d : Nat) : List Nat := (List.replicate d [35, 32]).flatten
def vv (c : List Nat) (d : Nat) : Str := ⟨(sg d ++ c).toArray⟩
theorem sg_succ (d : Nat) : sg (d + 1) = 35 :: 32 :: sg d := by simp [sg, List.replicate_succ]
theorem sg_last (d : Nat) : sg (d + 1) = sg d ++ [35, 32] := by simp [sg, List.replicate_succ']
theorem vv_succ (c : List Nat) (d : Nat) : vv c (d + 1) = Str.ofString "# " ++ vv c d := by
  have e : (Str.ofString "# ").cps = #[35, 32] := by decide
  apply Str.ext'
  rw [Str.cps_append, e]
  show (sg (d + 1) ++ c).toArray = #[35, 32] ++ (sg d ++ c).toArray
  rw [sg_succ]
  simp
def Core (c : List Nat) : Prop := ∃ a r, c = a :: r ∧ ∀ b, c.getLast? = some b → Unicode.isSpace b = false
theorem vv_strip {c : List Nat} (h : Core c) (d : Nat) : Txt.rstrip (vv c d) = vv c d := by
  obtain ⟨a, r, rfl, hb⟩ := h
  refine rstrip_id fun b hl => hb b ?_
  rw [← hl]
  show _ = (sg d ++ a :: r).getLast?
  rw [List.getLast?_append, List.getLast?_cons]
  rfl
theorem vv_len {c : List Nat} (h : Core c) (d : Nat) : (vv c d).length ≠ 0 := by
  obtain ⟨a, r, rfl, _⟩ := h
  show (sg d ++ a :: r).toArray.size ≠ 0
  simp
theorem vv_cl {c : List Nat} (h : Core c) (d : Nat) : cl (vv c d) = vv c (d + 1) := by
  unfold cl
  rw [vv_strip h, if_neg (vv_len h d), vv_succ]
theorem vv_down (c : List Nat) (d : Nat) : Txt.slice (vv c (d + 1)) none (some 1) = Str.ofString "#" ∧ Txt.slice (vv c (d + 1)) (some 2) none = vv c d := by
  have hl : (vv c (d + 1)).cps.toList = 35 :: 32 :: (sg d ++ c) := by
    show (sg (d + 1) ++ c).toArray.toList = _
    rw [sg_succ]; rfl
  rw [slice_text, slice_text, StrLaws.sliceText_to (by rw [hl]; simp only [List.length_cons]; omega), StrLaws.sliceText_from (by rw [hl]; simp only [List.length_cons]; omega), hl]
  refine ⟨(by decide : (⟨#[35]⟩ : Str) = Str.ofString "#"), ?_⟩
  apply Str.ext'
  show (List.take _ (sg d ++ c)).toArray = (sg d ++ c).toArray
  rw [List.take_of_length_le]
  simp only [List.length_cons]
  omega
theorem mul_sg (d : Nat) : (Txt.mul (Str.ofString "# ") (d : Int)).cps.toList = sg d := by
  have e : (Str.ofString "# ").cps.toList = [35, 32] := by decide
  have e2 : (Str.ofString "# ").length = 2 := by decide
  unfold Txt.mul
  by_cases h1 : (d : Int) < 1
  · rw [if_pos h1, show d = 0 by omega]; rfl
  · rw [if_neg h1]
    by_cases h2 : d = 1
    · subst h2; rfl
    · rw [if_neg (by rw [e2]; simp; omega)]
      show (List.foldl (· ++ ·) #[] (List.replicate (d : Int).toNat (Str.ofString "# ").cps)).toList = _
      rw [foldl_app, Int.toNat_natCast, List.map_replicate, e]
      rfl
def coreOf (p : Nat) : Str := ([Str.ofString "a", Str.ofString "", Str.ofString ".", Str.ofString "b a"] : List Str).getD (p % 4) (Str.ofString "")
theorem core_all : (List.range 16).all (fun p => Txt.rstrip (bot p) == coreOf p && decide ((bot p).length ≤ 10)) = true := by decide +kernel
theorem core_of {p : Nat} (h : p < 16) : Txt.rstrip (bot p) = coreOf p ∧ (bot p).length ≤ 10 := by
  have := List.all_eq_true.mp core_all p (List.mem_range.mpr h)
  simp only [Bool.and_eq_true, decide_eq_true_eq] at this
  exact ⟨eq_of_beq this.1, this.2⟩
theorem told_ne {x : Str} {c : List Nat} (h : Core c) (hx : Txt.rstrip x = ⟨c.toArray⟩) (d : Nat) : toldS x true (d : Int) = vv c d := by
  have hne : ¬ (⟨c.toArray⟩ : Str) = Str.ofString "" := by
    obtain ⟨a, r, rfl, _⟩ := h
    intro e
    have := congrArg (fun s : Str => s.cps.size) e
    simp [show (Str.ofString "").cps.size = 0 by decide] at this
  unfold toldS
  simp only [if_true, hx]
  rw [if_neg (fun q => hne q.1)]
  apply Str.ext'
  apply Array.ext'
  rw [Str.cps_append, Array.toList_append, mul_sg]
  rfl
theorem told_e0 {x : Str} (hx : Txt.rstrip x = Str.ofString "") : toldS x true 0 = Str.ofString "" := by
  unfold toldS
  simp only [if_true, hx]
  rw [if_neg (fun q => absurd q.2 (by decide))]
  decide
theorem told_e1 {x : Str} (hx : Txt.rstrip x = Str.ofString "") (d : Nat) : toldS x true ((d + 1 : Nat) : Int) = vv [35] d := by
  have hl : (Txt.mul (Str.ofString "# ") ((d + 1 : Nat) : Int) ++ Str.ofString "").cps.toList = sg d ++ [35, 32] := by
    rw [Str.cps_append, Array.toList_append, mul_sg, sg_last]
    show _ ++ [] = _
    rw [List.append_nil]
  have hl2 : (Txt.mul (Str.ofString "# ") ((d + 1 : Nat) : Int) ++ Str.ofString "").length = (sg d).length + 2 := by
    show Array.size _ = _
    rw [← Array.length_toList, hl]; simp
  unfold toldS
  simp only [if_true, hx]
  rw [if_pos ⟨trivial, by omega⟩, slice_text, StrLaws.sliceText_to_neg (by decide) (by rw [hl2]; omega), hl, hl2]
  apply Str.ext'
  show (List.take _ (sg d ++ [35, 32])).toArray = (sg d ++ [35]).toArray
  have e : ((-1 : Int) + (((sg d).length + 2 : Nat) : Int) - 0).toNat = (sg d).length + 1 := by omega
  rw [e, List.take_append, List.take_of_length_le (by omega)]
  simp
theorem core_a : Core [97] := ⟨97, [], rfl, fun b h => by cases h; decide +kernel⟩
theorem core_dot : Core [46] := ⟨46, [], rfl, fun b h => by cases h; decide +kernel⟩
theorem core_ba : Core [98, 32, 97] := ⟨98, _, rfl, fun b h => by cases h; decide +kernel⟩
theorem core_hash : Core [35] := ⟨35, [], rfl, fun b h => by cases h; decide +kernel⟩
theorem core_cases {p : Nat} (h : p < 16) : (∃ c, Core c ∧ Txt.rstrip (bot p) = ⟨c.toArray⟩) ∨ Txt.rstrip (bot p) = Str.ofString "" := by
  rw [(core_of h).1]
  unfold coreOf
  have h4 : p % 4 < 4 := Nat.mod_lt _ (by decide)
  match p % 4, h4 with
  | 0, _ => exact .inl ⟨_, core_a, by decide⟩
  | 1, _ => exact .inr rfl
  | 2, _ => exact .inl ⟨_, core_dot, by decide⟩
  | 3, _ => exact .inl ⟨_, core_ba, by decide⟩
  | k + 4, h => exact absurd h (by omega)
section
variable {p : Nat} (hp : p < 16)
include hp
theorem bot_len : (bot p).length ≤ 10 := (core_of hp).2
theorem bot_told : toldS (bot p) false 0 = bot p := by
  unfold toldS
  simp only [Bool.false_eq_true, if_false]
  rw [if_neg (fun q => absurd q.2 (by decide))]
  show (Str.empty : Str) ++ bot p = _
  exact Str.empty_append _
theorem bot_cl : cl (bot p) = toldS (bot p) true ((1 : Nat) : Int) := by
  rcases core_cases hp with ⟨c, hc, hr⟩ | hr
  · rw [told_ne hc hr, vv_succ]
    unfold cl
    rw [hr]
    have e : (⟨c.toArray⟩ : Str) = vv c 0 := rfl
    rw [e, if_neg (vv_len hc 0)]
  · rw [told_e1 hr 0]
    unfold cl
    rw [hr, if_pos (by decide)]
    decide
theorem told_cl {d : Nat} (_ : d < 32) : cl (toldS (bot p) true (d : Int)) = toldS (bot p) true ((d + 1 : Nat) : Int) := by
  rcases core_cases hp with ⟨c, hc, hr⟩ | hr
  · rw [told_ne hc hr, told_ne hc hr, vv_cl hc]
  · cases d with
    | zero =>
      rw [told_e1 hr 0]
      show cl (toldS (bot p) true 0) = _
      rw [told_e0 hr]
      decide
    | succ d => rw [told_e1 hr, told_e1 hr, vv_cl core_hash]
theorem told_down {d : Nat} (_ : d < 32) (h0 : d ≠ 0) : Txt.slice (toldS (bot p) true (d : Int)) none (some 1) = Str.ofString "#" ∧ Txt.slice (toldS (bot p) true (d : Int)) (some 2) none = toldS (bot p) true ((d - 1 : Nat) : Int) := by
  obtain ⟨d, rfl⟩ : ∃ k, d = k + 1 := ⟨d - 1, by omega⟩
  rw [Nat.add_sub_cancel]
  rcases core_cases hp with ⟨c, hc, hr⟩ | hr
  · rw [told_ne hc hr, told_ne hc hr]
    exact vv_down c d
  · cases d with
    | zero =>
      rw [told_e1 hr 0]
      show _ ∧ _ = toldS (bot p) true 0
      rw [told_e0 hr]
      decide
    | succ d => rw [told_e1 hr, told_e1 hr]; exact vv_down [35] d
theorem itc_told : ∀ n : Nat, n ≤ 30 → itc n (bot p) = toldS (bot p) (decide (n > 0)) (n : Int)
  | 0, _ => (bot_told hp).symm
  | n + 1, h => by
    show cl (itc n (bot p)) = toldS (bot p) (decide (n + 1 > 0)) ((n + 1 : Nat) : Int)
    rw [itc_told n (by omega), decide_eq_true (Nat.succ_pos n)]
    by_cases h0 : n = 0
    · subst h0
      exact (congrArg cl (bot_told hp)).trans (bot_cl hp)
    · rw [decide_eq_true (Nat.pos_of_ne_zero h0)]
      exact told_cl hp (by omega)
theorem line_step {t t' : Bool} {d d' : Nat} {k : Int} (hk : Ok6 k) (hv : t = true ∨ d = 0) (h : lineK (some (t, d)) (kd k) = some (t', d')) :
    lineF (some (toldS (bot p) t (d : Int))) (unitOf k) = some (toldS (bot p) t' (d' : Int)) ∧ (t' = true ∨ d' = 0) := by
  have hne : ¬ (1 : Int) = -1 := by decide
  unfold lineK at h
  unfold lineF
  simp only [Option.bind_some, unit_open hk, unit_shut hk] at h ⊢
  split at h
  · next hd =>
    split at h
    · next h1 =>
      simp only [Option.some.injEq, Prod.mk.injEq] at h
      obtain ⟨rfl, rfl⟩ := h
      rw [if_pos h1]
      refine ⟨?_, .inl rfl⟩
      rcases hv with rfl | rfl
      · rw [told_cl hp (by omega)]
      · cases t with
        | true => rw [told_cl hp (by omega)]
        | false => exact congrArg some ((congrArg cl (bot_told hp)).trans (bot_cl hp))
    · next h1 =>
      rw [if_neg h1]
      split at h
      · next h2 =>
        rw [if_pos h2]
        split at h
        · cases h
        · next h3 =>
          simp only [Option.some.injEq, Prod.mk.injEq] at h
          obtain ⟨rfl, rfl⟩ := h
          simp only [not_or, Bool.not_eq_false] at h3
          obtain ⟨h4, rfl⟩ := h3
          obtain ⟨e1, e2⟩ := told_down hp (d := d) (by omega) h4
          rw [if_pos e1, e2]
          exact ⟨rfl, .inl rfl⟩
      · next h2 =>
        rw [if_neg h2]
        simp only [Option.some.injEq, Prod.mk.injEq] at h
        obtain ⟨rfl, rfl⟩ := h
        exact ⟨rfl, hv⟩
  · cases h
theorem line_fold : ∀ (ks : List Int), (∀ k ∈ ks, Ok6 k) → ∀ (t t' : Bool) (d d' : Nat), (t = true ∨ d = 0) → (ks.map kd).foldl lineK (some (t, d)) = some (t', d') → (ks.map unitOf).foldl lineF (some (toldS (bot p) t (d : Int))) = some (toldS (bot p) t' (d' : Int))
  | [], _, t, t', d, d', _, h => by
    simp only [List.map_nil, List.foldl_nil, Option.some.injEq, Prod.mk.injEq] at h
    obtain ⟨rfl, rfl⟩ := h
    rfl
  | k :: r, hk, t, t', d, d', hv, h => by
    rw [List.map_cons, List.foldl_cons] at h ⊢
    cases e : lineK (some (t, d)) (kd k) with
    | none =>
      rw [e] at h
      have : ∀ l : List Int, l.foldl lineK none = none := fun l => by
        induction l with
        | nil => rfl
        | cons _ _ ih => exact ih
      rw [this] at h; cases h
    | some q =>
      obtain ⟨t₁, d₁⟩ := q
      obtain ⟨h1, h2⟩ := line_step hp (hk k (.head _)) hv e
      rw [e] at h
      rw [h1]
      exact line_fold r (fun x hx => hk x (.tail _ hx)) t₁ t' d₁ d' h2 h
end
end Mine
namespace Mine
theorem word_of {p : Nat} (hp : p < 16) {ks : List Int} (hk : ∀ k ∈ ks, Ok6 k) (hlen : ks.length ≤ 100) {n y : Int} (n0 : 0 ≤ n) (n1 : n ≤ 25) (y0 : 0 ≤ y) (y1 : y ≤ 25) (h : goodW n y (ks.map kd) = true) : Word (bot p) n y (ks.map unitOf) := by
  simp only [goodW, Bool.and_eq_true, beq_iff_eq] at h
  obtain ⟨⟨⟨h1, h2⟩, h3⟩, h4⟩ := h
  refine ⟨by rw [List.length_map]; exact hlen, ?_, ?_, ?_, ?_⟩
  · intro r hr
    obtain ⟨k, hk', rfl⟩ := List.mem_map.mp hr
    exact unit_len (hk k hk')
  · intro held a b c
    refine ⟨text_checked hk (by omega) (by omega) (by omega) b n0 y0 hlen, ?_⟩
    rw [text_chk hk]
    by_cases e : held = n
    · subst e
      rw [h1]; simp
    · have e' : held = n - 1 := by omega
      rw [decide_eq_false e, e']
      simp only [Bool.or_eq_true, decide_eq_true_eq, Bool.not_eq_true'] at h2
      rcases h2 with h2 | h2
      · omega
      · exact h2
  · have e : (y.toNat : Int) = y := by omega
    have e2 : (n.toNat : Int) = n := by omega
    have e3 : decide (n.toNat > 0) = decide (n > 0) := by
      by_cases q : n > 0
      · rw [decide_eq_true q, decide_eq_true (by omega)]
      · rw [decide_eq_false q, decide_eq_false (by omega)]
    rw [itc_told hp _ (by omega), e3, any_units ks hk]
    have := line_fold hp ks hk (decide (n > 0)) _ n.toNat _ (by
      by_cases q : n > 0
      · exact .inl (decide_eq_true q)
      · exact .inr (by omega)) h3
    rw [e] at this
    exact this
  · rw [foldl_units (g := mailK) (fun b k h => mail_units h) _ hk]
    exact h4
theorem word1_map {α β : Type} (f : α → β) (x y : List α) : word1 (x.map f) (y.map f) = (word1 x y).map f := by simp [word1]
theorem word2_map {α β : Type} (f : α → β) (x y : List α) : word2 (x.map f) (y.map f) = (word2 x y).map f := by simp [word2]
theorem mem_word1 {α : Type} {x y : List α} {a : α} (h : a ∈ word1 x y) : a ∈ x ∨ a ∈ y := by
  by_cases q : a ∈ x
  · exact .inl q
  · right
    simpa [word1, q] using h
theorem mem_word2 {α : Type} {x y : List α} {a : α} (h : a ∈ word2 x y) : a ∈ x ∨ a ∈ y := by
  by_cases q : a ∈ x
  · exact .inl q
  · right
    simpa [word2, q] using h
theorem words_of {p : Nat} (hp : p < 16) {a b c d e : Int} (ha : Ok6 a) (hb : Ok6 b) (hc : Ok6 c) (hd : Ok6 d) (he : Ok6 e) {n y : Int}
    (hn : n = needOf (([a, b, c].map unitOf).foldl pairF (0, 0)) (([d, e].map unitOf).foldl pairF (0, 0))) (hy : y = stayOf (([a, b, c].map unitOf).foldl pairF (0, 0)) (([d, e].map unitOf).foldl pairF (0, 0))) :
    0 ≤ n ∧ n ≤ 25 ∧ 0 ≤ y ∧ y ≤ 25 ∧ Word (bot p) n y (word1 ([a, b, c].map unitOf) ([d, e].map unitOf)) ∧ Word (bot p) n y (word2 ([a, b, c].map unitOf) ([d, e].map unitOf)) := by
  have hx : ∀ k ∈ [a, b, c], Ok6 k := by
    intro k hk
    simp only [List.mem_cons, List.not_mem_nil, or_false] at hk
    rcases hk with rfl | rfl | rfl <;> assumption
  have hz : ∀ k ∈ [d, e], Ok6 k := by
    intro k hk
    simp only [List.mem_cons, List.not_mem_nil, or_false] at hk
    rcases hk with rfl | rfl <;> assumption
  have g := good_all a b c d e
  rw [foldl_units (g := pairK) (fun b k h => pair_units h) _ hx, foldl_units (g := pairK) (fun b k h => pair_units h) _ hz] at hn hy
  unfold goodX at g
  simp only [Bool.and_eq_true, decide_eq_true_eq] at g
  rw [show ([kd a, kd b, kd c] : List Int) = [a, b, c].map kd from rfl, show ([kd d, kd e] : List Int) = [d, e].map kd from rfl, ← hn, ← hy] at g
  obtain ⟨⟨⟨⟨⟨g1, g2⟩, g3⟩, g4⟩, g5⟩, g6⟩ := g
  rw [word1_map] at g5
  rw [word2_map] at g6
  refine ⟨g1, g2, g3, g4, ?_, ?_⟩
  · rw [word1_map]
    exact word_of hp (fun k hk => (mem_word1 hk).elim (hx k) (hz k)) (by simp [word1]) g1 g2 g3 g4 g5
  · rw [word2_map]
    exact word_of hp (fun k hk => (mem_word2 hk).elim (hx k) (hz k)) (by simp [word2]) g1 g2 g3 g4 g6
theorem nums5_ok (ns : List Int) : ∀ k ∈ nums5 ns, 0 ≤ k ∧ k < 6 := by
  intro k hk
  simp only [nums5, nums, List.mem_append] at hk
  rcases hk with hk | hk
  · obtain ⟨n, _, rfl⟩ := List.mem_map.mp hk
    rw [Int.fmod_eq_emod_of_nonneg _ (by decide)]
    omega
  · have := List.mem_of_mem_drop hk
    simp only [List.mem_cons, List.not_mem_nil, or_false] at this
    omega
theorem nums5_len (ns : List Int) : (nums5 ns).length = 5 := by
  simp only [nums5, nums, List.length_append, List.length_drop, List.length_map, List.length_take, List.length_cons, List.length_nil]
  omega
theorem five {α : Type} {l : List α} (h : l.length = 5) : ∃ a b c d e, l = [a, b, c, d, e] := by
  match l, h with
  | [a, b, c, d, e], _ => exact ⟨a, b, c, d, e, rfl⟩
theorem lawT2 {prog : Program} {w : World} {A : Around} {s : Shared} {mg mb : Str → Option Value} {l : Addr} {vs : List Value} {ns : List Int}
    (G : Gd w mg mb s.heap) (hA : A.depth + 20 < recursionLimit) (hh : A.handled = none) (hU : A.units + 100 < cLine) (hl : s.heap.IsList l vs.toArray) (hi : IntsAre vs ns) (hn : ns.length ≤ 1000) :
   codeAny (model prog w) A (.call (.ref 117) ⟨[.ref l], []⟩) (EndV s true) s := by
  refine enterF (binds := [("script", .ref l)]) G rfl (by kernel_rfl) (by omega) rfl (locs rfl) rfl rfl rfl (by decide) ?_
  intro L h₁ F
  refine law1 (by rfl) G hA hh hl hi hn F ?_
  intro s₁ ob₁ m₁ D ys k hms hmn hys F₁ N₁
  have h5 := nums5_len ns
  have hok := nums5_ok ns
  refine law2 (vs := vs) (ns := ns) (by rfl) G hA hh hys (by omega) hok hms hmn F₁ N₁ ?_
  intro s₂ ob₂ m₂ X Y ox oy vx vy hms₂ hmx hmy lx ly sx sy F₂ N₂
  refine law3 (vs := vs) (ns := ns) (by rfl) G hA hh hl hi hms₂ hmx hmy lx ly sx sy F₂ N₂ ?_
  intro s₃ ob₃ m₃ p tp hmx₃ hmy₃ hmb hp F₃ N₃
  refine law4 (by rfl) G hA hh hmx₃ hmy₃ hmb lx ly sx sy (by rw [List.length_map, List.length_take]; omega) (by rw [List.length_map, List.length_drop]; omega) F₃ N₃ ?_
  intro s₄ ob₄ m₄ P R op or vp vr tn ts hmb₄ hmn₄ hmy₄ hm1 hm2 lp lr sp sr F₄ N₄
  obtain ⟨a, b, c, d, e, hks⟩ := five h5
  rw [hks] at hok sp sr hmn₄ hmy₄
  obtain ⟨n, hnn⟩ : ∃ n, n = needOf (([a, b, c].map unitOf).foldl pairF (0, 0)) (([d, e].map unitOf).foldl pairF (0, 0)) := ⟨_, rfl⟩
  obtain ⟨y, hyy⟩ : ∃ y, y = stayOf (([a, b, c].map unitOf).foldl pairF (0, 0)) (([d, e].map unitOf).foldl pairF (0, 0)) := ⟨_, rfl⟩
  obtain ⟨n0, n1, y0, y1, w1, w2⟩ := words_of hp (hok a (by simp)) (hok b (by simp)) (hok c (by simp)) (hok d (by simp)) (hok e (by simp)) hnn hyy
  refine law5 (by rfl) G hA hh hU (Ob.trans (Ob.trans (Ob.trans ob₁ ob₂) ob₃) ob₄) ⟨⟨tp, hmb₄⟩, ⟨tn, hmn₄.trans (by rw [hnn]; rfl)⟩, ⟨ts, hmy₄.trans (by rw [hyy]; rfl)⟩⟩ hm1 hm2 lp lr sp sr n0 n1 y0 y1 (bot_len hp) w1 w2 F₄ N₄
theorem gn_law (P : Params) : nsIn (hd.heap_39 P) mainGlobals (Str.ofString "law") = some (some (.ref 117)) := by kernel_rfl
end Mine
theorem PySem.Challenge.cw_re0011_01_holds : PySem.Challenge.rw_re0011_01.Holds := by
  refine Mine.hd ?_
  k_fill
  intro w s₀ s₁ mg mb G Y fa o pm cd doc dV kV ho hd hcd hD hmg hg args vals as hpre hlay hrd hwl hlo
  have KX := kIn_of Y
  refine Ground.open G ?_
  intro T B D TE TW
  have G' : Mine.Gd w mg mb s₁.heap := ⟨KX, T.g, T.b, T.nolimit, T.builtins⟩
  have hfa : fa = 117 := by
    have e := (mg_of KX T.g (Mine.gn_law _)).symm.trans hmg
    exact (Value.ref.inj (Option.some.inj e)).symm
  subst hfa
  clear T B D TE TW Y hmg hD hcd ho hd
  wrow_args hpre hlay hrd hwl hlo
  (with_reducible rename IntsAre _ _ => hI)
  (with_reducible rename Heap.IsList _ _ _ => hL)
  (with_reducible rename ¬ _ < _ => hc)
  show wpAny _ _ (call (Value.ref 117) [Value.ref _]) _ _ _
  refine wpAny_call (codeAny_mono (Mine.lawT2 G' (by decide) (by rfl) (by decide) hL hI (by omega)) ?_)
  rintro r s' ⟨rfl, kp⟩
  refine ⟨.inl ⟨.bool true, .bool true, [], rfl, ?_, .bool true, ?_, unshared_nil⟩, .of_keep kp.1, kp.2.1, kp.2.2 (.of_eq hg)⟩
  · exact raisesW_false (by wrow_none_raised)
  · wrow_post
