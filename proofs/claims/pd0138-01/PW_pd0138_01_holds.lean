import PyProof.Rows.All
import Wide.All
import OpenK.AllK
import Wide.FinOn
import Lean
import PySem.Challenge.RW_pd0138_01
open PySem PySem.W PyProof.Rows
set_option Elab.async false
set_option maxRecDepth 100000
set_option maxHeartbeats 8000000
section
section
open PySem PySem.W PyProof.Rows
namespace Mine
open_top hd for PySem.Challenge.rw_pd0138_01
end Mine
end
section
open PySem PySem.W PyProof.Rows
namespace Mine
abbrev PR : Program := PySem.Challenge.rw_pd0138_01.row.toRowW.prog
noncomputable abbrev KK (w : World) : Frag := Mine.hd.heap_39 w.params
abbrev TT (mean : ExcName → Option Value) (mg mb : Str → Option Value) (h : Heap) : Prop := Top Mine.hd.view_39 (looseW Mine.hd.view_39 []) mean mg mb h
abbrev Ret (h₀ : Heap) (L : Addr) (m : Str → Option Value) (news : List (Addr × Obj)) (s : Shared) (Q : Value → Shared → Prop) (Out : Value → Prop) : Prop :=
  ∀ (v : Value) (h' : Heap) (g' : Array GenState) (tk' : Nat), Out v → Fr h₀ L h' m → News h₀ L h' news → AllBare g' → Q v { s with heap := h', gens := g', toks := tk' }
abbrev RetL (h₀ : Heap) (L : Addr) (m : Str → Option Value) (news : List (Addr × Obj)) (s : Shared) (Q : Value → Shared → Prop) (Out : Value → Addr → Obj → Prop) : Prop :=
  ∀ (v : Value) (D : Addr) (o : Obj) (h' : Heap) (g' : Array GenState) (tk' : Nat), Out v D o → Fr h₀ L h' m → News h₀ L h' ((D, o) :: news) → (∀ p ∈ news, p.1 < D) → AllBare g' → Q v { s with heap := h', gens := g', toks := tk' }
abbrev CtrG (w : World) (d : Nat) (f : Addr) (vs : List Value) (pre : List (Addr × Obj) → Prop) (R : Heap → Addr → (Str → Option Value) → List (Addr × Obj) → Shared → (Value → Shared → Prop) → Prop) : Prop :=
  ∀ (mean : ExcName → Option Value) (mg mb : Str → Option Value) (dp un : Nat) (gd : Option (List Code)) (cn : Str) (cs : Scope) (a : Addr) (ccd : Value) (cl : List (Str × Addr)) (outer : List Env) (A₀ : Around) (base h₀ : Heap) (L : Addr) (m : Str → Option Value) (news : List (Addr × Obj)) (s : Shared) (Q E : Value → Shared → Prop),
    Below A₀ base outer h₀ → Fr h₀ L s.heap m → (KK w).In h₀ → News h₀ L s.heap news → TT mean mg mb h₀ → cs.kind = .function → pre news → dp + d < recursionLimit → un + 16 * d < cLine → AllBare s.gens →
    R h₀ L m news s Q →
    wpAny (model PR w) (ktrTop dp un gd cn cs L a ccd cl outer) (call (.ref f) vs) Q E s
abbrev Ctr (w : World) (d : Nat) (f : Addr) (vs : List Value) (pre : Prop) (Out : Value → Prop) : Prop := CtrG w d f vs (fun _ => pre) (fun h₀ L m news s Q => Ret h₀ L m news s Q Out)
abbrev CtrL (w : World) (d : Nat) (f : Addr) (vs : List Value) (pre : Prop) (Out : Value → Addr → Obj → Prop) : Prop := CtrG w d f vs (fun _ => pre) (fun h₀ L m news s Q => RetL h₀ L m news s Q Out)
theorem ctr_use {w : World} {d : Nat} {f : Addr} {vs : List Value} {pre : List (Addr × Obj) → Prop} {R : Heap → Addr → (Str → Option Value) → List (Addr × Obj) → Shared → (Value → Shared → Prop) → Prop} (C : CtrG w d f vs pre R) {mean : ExcName → Option Value} {mg mb : Str → Option Value} {dp un : Nat} {gd : Option (List Code)} {cn : Str} {cs : Scope} {a : Addr} {ccd : Value} {cl : List (Str × Addr)} {outer : List Env} {A₀ : Around} {base h₀ : Heap} {L : Addr} {m : Str → Option Value} {news : List (Addr × Obj)} {s : Shared} {Q E : Value → Shared → Prop}
    (B : Below A₀ base outer h₀) (F : Fr h₀ L s.heap m) (X : (KK w).In h₀) (N : News h₀ L s.heap news) (T : TT mean mg mb h₀) (hk : cs.kind = .function) (hp : pre news) (hd : dp + d < recursionLimit) (hu : un + 16 * d < cLine) (hg : AllBare s.gens)
    (ret : R h₀ L m news s Q) : wpAny (model PR w) (ktrTop dp un gd cn cs L a ccd cl outer) (call (.ref f) vs) Q E s :=
  C _ _ _ _ _ _ _ _ _ _ _ _ _ _ _ _ _ _ _ _ _ B F X N T hk hp hd hu hg ret
end Mine
end
local macro_rules | `(tactic| walk_at "c16") => `(tactic| ((case k1 => k_asm); (case k2 => k_asm); (case k3 => k_asm); (case k4 => k_asm); (case k5 => k_asm); (case k6 => first | exact rfl | assumption)))
local macro_rules | `(tactic| walk_at "c80") => `(tactic| ((case k8 => ktr_room); (case k9 => ktr_units); (case k10 => assumption); k_whole))
local macro_rules | `(tactic| walk_at "ccc") => `(tactic| (walk_at "c16"; (case k7 => first | assumption | exact ⟨by assumption, by assumption⟩ | (refine' ⟨?_, ?_⟩; (· k_mem); (· assumption)) | exact True.intro); walk_at "c80"))
local macro_rules | `(tactic| walk_at "ct1") => `(tactic| (intro v' h' g' tk' hv' F' N' G'; (first | subst hv' | (obtain ⟨t', hv'⟩ := hv'; subst hv')); (try dsimp only); (try k_sweep)))
section
open PySem PySem.W PyProof.Rows PySem.Calls
namespace Mine
section
variable {prog : Program} {w : World} {A : Around} {E : Value → Shared → Prop} {s : Shared}
theorem sub_str_str : isSubtype (.type "str") (.type "str") = pure true := by rw [isSubtype_type]; kernel_rfl
theorem ty_str : typeOf (.type "str") = pure (.type "type") := by first | rfl | (rw [typeOf]; kernel_rfl) | kernel_rfl
theorem issub_self {dep : Int} {tk : Tok} {Q : Fin → Shared → Prop} (hq : Q (.done (.ret (.bool true))) s) :
    wpAny (model prog w) A (Builtin.«issubclass.nested» ⟨[.type "str", .type "str", .int dep tk], []⟩) Q E s := by
  have hm := ty_str
  have hself := sub_str_str
  repeat (any_goals (first | assumption | (rw [if_pos hm]) | (rw [hself]) | wp_step))
theorem kind_isn : builtinKind "issubclass.nested" = none := by decide +kernel
theorem plain_isn : plainId "issubclass.nested" = true := by decide +kernel
theorem args_isn (a b c : Value) : argsOk "issubclass.nested" ⟨[a, b, c], []⟩ := by unfold argsOk; kernel_rfl
theorem isn_self {dep : Int} {tk : Tok} : Meets (Builtin.«issubclass.nested» ⟨[.type "str", .type "str", .int dep tk], []⟩) (fun _ R s => R (.ok (.ret (.bool true))) s) :=
  fun _ _ _ _ _ hs => issub_self hs
theorem issub_tup {tp : Addr} {tk : Tok} {cs rest : List Value} {Q : Fin → Shared → Prop} (htp : s.heap.get? tp = some { cls := .type "tuple", data := .seq cs.toArray }) (hcs : cs = .type "str" :: rest) (hq : Q (.done (.ret (.bool true))) s) :
    wpAny (model prog w) A (Builtin.«issubclass.nested» ⟨[.type "str", .ref tp, .int 0 tk], []⟩) Q E s := by
  obtain ⟨h, g, d, t, os⟩ := s
  have hT2 : (⟨h, g, d, t, os⟩ : Shared).TypeIs (.ref tp) "tuple" := ⟨_, htp, rfl⟩
  have f1 := F.isi_sub_tuple
  repeat (any_goals (first | assumption | wp_step))
  refine wpAny_arrayLoop ?_
  simp only [Option.getD_some, List.toList_toArray]
  subst hcs
  rw [List.forIn_cons]
  refine wpAny_bind (wpAny_bind (call_function_meets kind_isn plain_isn F.entry_issubclass_nested (args_isn _ _ _) isn_self ?_))
  show wpAny _ _ (truthy (.bool true) >>= _) _ _ _
  refine wpAny_bind (m := truthy (.bool true)) (wpAny_pure ?_)
  refine wpAny_bind (wpAny_pure (wpAny_pure (wpAny_pure ?_)))
  repeat (any_goals (first | assumption | wp_step))
theorem call_issub {tp : Addr} {Q : Value → Shared → Prop} (htp : s.heap.get? tp = some { cls := .type "tuple", data := .seq #[.type "str", .type "bytes"] }) (hq : Q (.bool true) s) :
    wpAny (model prog w) A (call (.builtin "issubclass") [.type "str", .ref tp]) Q E s :=
  call_issubclass (S := fun _ R s => s.heap.get? tp = some { cls := .type "tuple", data := .seq #[.type "str", .type "bytes"] } ∧ R (.ok (.ret (.bool true))) s) (fun _ _ _ _ _ hs => issubclass_outer (issub_tup (cs := [.type "str", .type "bytes"]) hs.1 rfl hs.2)) ⟨htp, hq⟩
end
end Mine
end
section
open PySem PySem.W PyProof.Rows PySem.Calls PySem.Spec
namespace Mine
section
variable {prog : Program} {w : World} {A : Around} {s : Shared} {env : Env} {h₀ : Heap}
noncomputable def TurnPost (h₀ : Heap) (L I : Addr) (oI : Obj) (J : (Str → Option Value) → List (Addr × Obj) → Array GenState → Prop) (s : Shared) (Q : Flow → Shared → Prop) (f : Flow) (s₂ : Shared) : Prop :=
  match f with
  | .ret v => Q (.ret v) s₂
  | .brk => Q .next s₂
  | _ => ∃ h' g' tk' m' news', s₂ = { s with heap := h', gens := g', toks := tk' } ∧ Fr h₀ L h' m' ∧ News h₀ L h' ((I, oI) :: news') ∧ J m' news' g'
theorem for_walks {x : Str} {px : Pos} {body : List Stmt} {I : Addr} {fp : List Addr} {n : Nat} {P : Nat → Value → Prop} {St : Nat → Heap → Prop} {m₀ : Str → Option Value} {news₀ : List (Addr × Obj)} {oI₀ : Obj}
    {R : Result → Shared → Prop} (W : Walks prog w A I fp [I] n P St) (keep : List (Addr × Obj))
    (J : Nat → (Str → Option Value) → List (Addr × Obj) → Array GenState → Prop)
    (hfp : ∀ b ∈ fp, b = I ∨ (∃ o, (b, o) ∈ keep) ∨ (∃ o, h₀.get? b = some o))
    (hLf : env.locals ∉ fp) (hSI : ∀ i h, St i h → ∃ o, h.get? I = some o)
    (hJk : ∀ i m news g, J i m news g → ∀ p ∈ keep, p ∈ news)
    (hJI : ∀ i m news g, J i m news g → ∀ p ∈ news, p.1 < I)
    (F : Fr h₀ env.locals s.heap m₀) (N : News h₀ env.locals s.heap ((I, oI₀) :: news₀)) (hst : St 0 s.heap) (h0 : J 0 m₀ news₀ s.gens)
    (turn : ∀ i v m₁ news₁ g h tk oI, i < n → P i v → J i m₁ news₁ g → (∀ p ∈ news₁, p.1 < I) → Fr h₀ env.locals h (fun y => if y = x then some v else m₁ y) → News h₀ env.locals h ((I, oI) :: news₁) →
      wpAny (model prog w) A (execs body env) (TurnPost h₀ env.locals I oI (J (i + 1)) s (fun f s' => R (.ok f) s')) (fun _ _ => False) { s with heap := h, gens := g, toks := tk })
    (done : ∀ m₁ news₁ g h tk, J n m₁ news₁ g → Fr h₀ env.locals h m₁ → News h₀ env.locals h news₁ → R (.ok .next) { s with heap := h, gens := g, toks := tk })
    (hx : env.kindOf x = some .local := by rfl)
    (hp : (env.scope.kind == .class || (env.scope.kind == .module && env.locals != env.globals)) = false := by rfl) :
    codeAny (model prog w) A (.forLoop (.Name x px) (.ref I) body [] env) R s := by
  have hI0 : h₀.get? I = none := (N _ (.head _)).2.2
  have hIL : I ≠ env.locals := (N _ (.head _)).2.1
  refine codeAny_forLoop
    (fun k s' => ∃ h g tk m news oI i, s' = { s with heap := h, gens := g, toks := tk } ∧ St i h ∧ Fr h₀ env.locals h m ∧ News h₀ env.locals h ((I, oI) :: news) ∧ J i m news g ∧ i ≤ n ∧ k = n + 1 - i) ?_ (n + 1)
    ⟨s.heap, s.gens, s.toks, m₀, news₀, oI₀, 0, rfl, hst, F, N, h0, Nat.zero_le _, rfl⟩
  rintro k s' ⟨h, g, tk, m, news, oI, i, rfl, hst', F', N', hJ, hi, rfl⟩
  have hnw : ∀ p ∈ news, p.1 < I := hJI _ _ _ _ hJ
  have next : ∀ h₁ : Heap, (∀ b o, b ∉ [I] → h.get? b = some o → h₁.get? b = some o) → Fr h₀ env.locals h₁ m ∧ News h₀ env.locals h₁ news := fun h₁ hk₁ =>
    ⟨⟨F'.ns.at' fun o e => hk₁ _ o (fun q => hIL (List.mem_singleton.mp q).symm) e, fun b o e => hk₁ b o (fun q => by rw [List.mem_singleton.mp q, hI0] at e; cases e) (F'.keep b o e), F'.above⟩,
     fun p hp => ⟨hk₁ _ _ (fun q => absurd (hnw p hp) (by rw [List.mem_singleton.mp q]; exact Nat.lt_irrefl _)) (N' p (.tail _ hp)).1, (N' p (.tail _ hp)).2⟩⟩
  by_cases hlt : i < n
  · refine W.item i _ _ _ hlt hst' fun v h₁ tk₁ hP hst₁ hk₁ => ?_
    obtain ⟨F₁, N₁⟩ := next h₁ hk₁
    refine wpAny_assign_Name (wpAny_storeName_local hx F₁.ns (fun h₂ hn₂ hs₂ => ?_) hp)
    have F₂ := F₁.set hn₂ hs₂
    have N₂ := N₁.set hs₂
    have hst₂ : St (i + 1) h₂ := W.frame _ _ _ hst₁ fun b hb o e => (hs₂.2 b fun q => hLf (q ▸ hb)).trans e
    cases hoI : h₂.get? I with
    | none =>
      obtain ⟨o, e⟩ := hSI _ _ hst₂
      rw [hoI] at e; cases e
    | some oI₂ =>
      have NI : News h₀ env.locals h₂ ((I, oI₂) :: news) := fun p hp => (List.mem_cons.mp hp).elim (fun q => by subst q; exact ⟨hoI, hIL, hI0⟩) (fun q => N₂ p q)
      refine wpAny_mono (turn i v m news g h₂ _ oI₂ hlt hP hJ hnw F₂ NI) (fun f s₃ h₃ => ?_) fun _ _ e => e.elim
      have fin : (∃ h' g' tk' m' news', s₃ = { s with heap := h', gens := g', toks := tk' } ∧ Fr h₀ env.locals h' m' ∧ News h₀ env.locals h' ((I, oI₂) :: news') ∧ J (i + 1) m' news' g') → ∃ m, m < n + 1 - i ∧ ∃ h g tk m_1 news oI i, s₃ = { s with heap := h, gens := g, toks := tk } ∧ St i h ∧ Fr h₀ env.locals h m_1 ∧ News h₀ env.locals h ((I, oI) :: news) ∧ J i m_1 news g ∧ i ≤ n ∧ m = n + 1 - i := by
        rintro ⟨h', g', tk', m', news', rfl, F₃, N₃, hJ₃⟩
        refine ⟨n + 1 - (i + 1), by omega, h', g', tk', m', news', oI₂, i + 1, rfl, ?_, F₃, N₃, hJ₃, hlt, rfl⟩
        refine W.frame _ _ _ hst₂ fun b hb o e => ?_
        rcases hfp b hb with rfl | ⟨o', ho'⟩ | ⟨o', ho'⟩
        · rw [hoI] at e; cases e; exact (N₃ _ (.head _)).1
        · have e1 := (N₂ _ (hJk _ _ _ _ hJ _ ho')).1
          rw [e] at e1; cases e1
          exact (N₃ _ (.tail _ (hJk _ _ _ _ hJ₃ _ ho'))).1
        · have e1 := F₂.keep _ _ ho'
          rw [e] at e1; cases e1
          exact F₃.keep _ _ ho'
      cases f with
      | ret v => exact h₃
      | brk => exact h₃
      | cont => exact fin h₃
      | next => exact fin h₃
  · have hin : i = n := by omega
    subst hin
    refine W.done _ _ _ hst' fun h₁ tk₁ hk₁ => wpAny_execs_nil ?_
    obtain ⟨F₁, N₁⟩ := next h₁ hk₁
    exact done m news g h₁ tk₁ hJ F₁ N₁
theorem for_list {x : Str} {px : Pos} {body : List Stmt} {l : Addr} {items : Array Value} {ol : Obj} {m₀ : Str → Option Value} {news₀ : List (Addr × Obj)} {E : Value → Shared → Prop}
    {R : Result → Shared → Prop} (J : Nat → (Str → Option Value) → List (Addr × Obj) → Array GenState → Prop)
    (hh : A.handled = none) (hl : (l, ol) ∈ news₀) (hc : ol.cls = .type "list") (hd : ∃ k, ol.data = .seq items k)
    (F : Fr h₀ env.locals s.heap m₀) (N : News h₀ env.locals s.heap news₀)
    (hJa : ∀ i m news g, J i m news g → news.map (·.1) = news₀.map (·.1))
    (hJk : ∀ i m news g, J i m news g → (l, ol) ∈ news)
    (h0 : J 0 m₀ news₀ s.gens)
    (turn : ∀ i v m₁ news₁ g h tk I oI, i < items.size → items[i]? = some v → J i m₁ news₁ g → (∀ p ∈ news₁, p.1 < I) → Fr h₀ env.locals h (fun y => if y = x then some v else m₁ y) → News h₀ env.locals h ((I, oI) :: news₁) →
      wpAny (model prog w) A (execs body env) (TurnPost h₀ env.locals I oI (J (i + 1)) s (fun f s' => R (.ok f) s')) (fun _ _ => False) { s with heap := h, gens := g, toks := tk })
    (done : ∀ m₁ news₁ g h tk, J items.size m₁ news₁ g → Fr h₀ env.locals h m₁ → News h₀ env.locals h news₁ → R (.ok .next) { s with heap := h, gens := g, toks := tk })
    (hx : env.kindOf x = some .local := by rfl)
    (hp : (env.scope.kind == .class || (env.scope.kind == .module && env.locals != env.globals)) = false := by rfl) :
    wpAny (model prog w) A (pyIter (.ref l)) (fun it s₂ => codeAny (model prog w) A (.forLoop (.Name x px) it body [] env) R s₂) E s := by
  have hls : s.heap.IsList l items := ⟨ol, (N _ hl).1, hc, hd⟩
  have hne : l ≠ s.heap.objs.size := Nat.ne_of_lt (Heap.lt_size (N _ hl).1)
  refine wpAny_pyIter_list hls ?_
  refine for_walks (s := { s with heap := s.heap.push { cls := .type "list_iterator", data := .fields #[.ref l, .int 0 0] } }) (Walks.list hh s.heap.objs.size l hne items) [(l, ol)] J ?_ ?_ ?_ ?_ ?_ (F.push _) (N.push F _) ?_ h0 ?_ ?_ hx hp
  · intro b hb
    rcases List.mem_cons.mp hb with rfl | hb
    · exact .inl rfl
    · rw [List.mem_singleton.mp hb]; exact .inr (.inl ⟨ol, .head _⟩)
  · intro hb
    rcases List.mem_cons.mp hb with q | hb
    · exact absurd F.ns.lt (q ▸ Nat.lt_irrefl _)
    · exact (N _ hl).2.1 (List.mem_singleton.mp hb).symm
  · rintro i h ⟨⟨o, ho, _⟩, _⟩; exact ⟨o, ho⟩
  · intro i m news g hJ p hp; rw [List.mem_singleton.mp hp]; exact hJk _ _ _ _ hJ
  · intro i m news g hJ p hp
    have : p.1 ∈ news₀.map (·.1) := by rw [← hJa _ _ _ _ hJ]; exact List.mem_map_of_mem hp
    obtain ⟨q, hq, e⟩ := List.mem_map.mp this
    rw [← e]; exact Heap.lt_size (N _ hq).1
  · exact ⟨⟨_, Heap.get?_push_size _ rfl, rfl, rfl⟩, hls.push _⟩
  · intro i v m₁ news₁ g h tk oI hi hP hJ hlt F₁ N₁
    exact turn i v m₁ news₁ g h tk _ oI hi hP hJ hlt F₁ N₁
  · intro m₁ news₁ g h tk hJ F₁ N₁
    exact done m₁ news₁ g h tk hJ F₁ N₁
theorem for_tuple {x : Str} {px : Pos} {body : List Stmt} {l : Addr} {items : Array Value} {ol : Obj} {m₀ : Str → Option Value} {news₀ : List (Addr × Obj)} {E : Value → Shared → Prop}
    {R : Result → Shared → Prop} (J : Nat → (Str → Option Value) → List (Addr × Obj) → Array GenState → Prop)
    (hh : A.handled = none) (hl : (l, ol) ∈ news₀) (hc : ol.cls = .type "tuple") (hd : ∃ k, ol.data = .seq items k)
    (F : Fr h₀ env.locals s.heap m₀) (N : News h₀ env.locals s.heap news₀)
    (hJa : ∀ i m news g, J i m news g → news.map (·.1) = news₀.map (·.1))
    (hJk : ∀ i m news g, J i m news g → (l, ol) ∈ news)
    (h0 : J 0 m₀ news₀ s.gens)
    (turn : ∀ i v m₁ news₁ g h tk I oI, i < items.size → items[i]? = some v → J i m₁ news₁ g → (∀ p ∈ news₁, p.1 < I) → Fr h₀ env.locals h (fun y => if y = x then some v else m₁ y) → News h₀ env.locals h ((I, oI) :: news₁) →
      wpAny (model prog w) A (execs body env) (TurnPost h₀ env.locals I oI (J (i + 1)) s (fun f s' => R (.ok f) s')) (fun _ _ => False) { s with heap := h, gens := g, toks := tk })
    (done : ∀ m₁ news₁ g h tk, J items.size m₁ news₁ g → Fr h₀ env.locals h m₁ → News h₀ env.locals h news₁ → R (.ok .next) { s with heap := h, gens := g, toks := tk })
    (hx : env.kindOf x = some .local := by rfl)
    (hp : (env.scope.kind == .class || (env.scope.kind == .module && env.locals != env.globals)) = false := by rfl) :
    wpAny (model prog w) A (pyIter (.ref l)) (fun it s₂ => codeAny (model prog w) A (.forLoop (.Name x px) it body [] env) R s₂) E s := by
  have hls : s.heap.IsTuple l items := ⟨ol, (N _ hl).1, hc, hd⟩
  have hne : l ≠ s.heap.objs.size := Nat.ne_of_lt (Heap.lt_size (N _ hl).1)
  refine wpAny_pyIter_tuple hls ?_
  refine for_walks (s := { s with heap := s.heap.push { cls := .type "tuple_iterator", data := .fields #[.ref l, .int 0 0] } }) (Walks.tuple hh s.heap.objs.size l hne items) [(l, ol)] J ?_ ?_ ?_ ?_ ?_ (F.push _) (N.push F _) ?_ h0 ?_ ?_ hx hp
  · intro b hb
    rcases List.mem_cons.mp hb with rfl | hb
    · exact .inl rfl
    · rw [List.mem_singleton.mp hb]; exact .inr (.inl ⟨ol, .head _⟩)
  · intro hb
    rcases List.mem_cons.mp hb with q | hb
    · exact absurd F.ns.lt (q ▸ Nat.lt_irrefl _)
    · exact (N _ hl).2.1 (List.mem_singleton.mp hb).symm
  · rintro i h ⟨⟨o, ho, _⟩, _⟩; exact ⟨o, ho⟩
  · intro i m news g hJ p hp; rw [List.mem_singleton.mp hp]; exact hJk _ _ _ _ hJ
  · intro i m news g hJ p hp
    have : p.1 ∈ news₀.map (·.1) := by rw [← hJa _ _ _ _ hJ]; exact List.mem_map_of_mem hp
    obtain ⟨q, hq, e⟩ := List.mem_map.mp this
    rw [← e]; exact Heap.lt_size (N _ hq).1
  · exact ⟨⟨_, Heap.get?_push_size _ rfl, rfl, rfl⟩, hls.at fun o e => Heap.get?_push_of_some _ e⟩
  · intro i v m₁ news₁ g h tk oI hi hP hJ hlt F₁ N₁
    exact turn i v m₁ news₁ g h tk _ oI hi hP hJ hlt F₁ N₁
  · intro m₁ news₁ g h tk hJ F₁ N₁
    exact done m₁ news₁ g h tk hJ F₁ N₁
noncomputable def SPost (h₀ : Heap) (L I D : Addr) (x : Str) (oI : Obj) (tail : List (Addr × Obj)) (m₀ : Str → Option Value) (acc : List Str → Prop) (s : Shared) (Q : Flow → Shared → Prop) (f : Flow) (s₂ : Shared) : Prop :=
  match f with
  | .ret v => Q (.ret v) s₂
  | .brk => Q .next s₂
  | _ => ∃ h' g' tk' m' rs k, s₂ = { s with heap := h', gens := g', toks := tk' } ∧ Fr h₀ L h' m' ∧ News h₀ L h' ((I, oI) :: (D, W.listOf (strValues rs).toArray k) :: tail) ∧ AllBare g' ∧ (∀ y : Str, y ≠ x → m' y = m₀ y) ∧ acc (rs.map (·.1))
theorem for_strs {x : Str} {px : Pos} {body : List Stmt} {l D : Addr} {items : Array Value} {ol : Obj} {m₀ : Str → Option Value} {rs₀ : List (Str × Tok)} {k₀ : Nat} {tail : List (Addr × Obj)} {E : Value → Shared → Prop}
    {R : Result → Shared → Prop} (acc : Nat → List Str → Prop)
    (hh : A.handled = none) (hl : (l, ol) ∈ tail) (hc : ol.cls = .type "list") (hd : ∃ k, ol.data = .seq items k)
    (F : Fr h₀ env.locals s.heap m₀) (N : News h₀ env.locals s.heap ((D, W.listOf (strValues rs₀).toArray k₀) :: tail)) (hg : AllBare s.gens)
    (h0 : acc 0 (rs₀.map (·.1)))
    (turn : ∀ i v rs k g h tk I oI, i < items.size → items[i]? = some v → acc i (rs.map (·.1)) → AllBare g → D < I → AllLt I tail → Fr h₀ env.locals h (fun y => if y = x then some v else m₀ y) → News h₀ env.locals h ((I, oI) :: (D, W.listOf (strValues rs).toArray k) :: tail) →
      wpAny (model prog w) A (execs body env) (SPost h₀ env.locals I D x oI tail m₀ (acc (i + 1)) s (fun f s' => R (.ok f) s')) (fun _ _ => False) { s with heap := h, gens := g, toks := tk })
    (done : ∀ v rs k g h tk, acc items.size (rs.map (·.1)) → AllBare g → Fr h₀ env.locals h (fun y => if y = x then v else m₀ y) → News h₀ env.locals h ((D, W.listOf (strValues rs).toArray k) :: tail) → R (.ok .next) { s with heap := h, gens := g, toks := tk })
    (hx : env.kindOf x = some .local := by rfl)
    (hp : (env.scope.kind == .class || (env.scope.kind == .module && env.locals != env.globals)) = false := by rfl) :
    wpAny (model prog w) A (pyIter (.ref l)) (fun it s₂ => codeAny (model prog w) A (.forLoop (.Name x px) it body [] env) R s₂) E s := by
  refine for_list (J := fun i m news g => AllBare g ∧ (∀ y : Str, y ≠ x → m y = m₀ y) ∧ ∃ rs k, acc i (rs.map (·.1)) ∧ news = (D, W.listOf (strValues rs).toArray k) :: tail) hh (.tail _ hl) hc hd F N ?_ ?_ ⟨hg, fun _ _ => rfl, rs₀, k₀, h0, rfl⟩ ?_ ?_ hx hp
  · rintro i m news g ⟨_, _, rs, k, _, rfl⟩; rfl
  · rintro i m news g ⟨_, _, rs, k, _, rfl⟩; exact .tail _ hl
  · rintro i v m₁ news₁ g h tk I oI hi hv ⟨hg', hm, rs, k, ha, rfl⟩ hlt F₁ N₁
    have e : (fun y => if y = x then some v else m₁ y) = fun y => if y = x then some v else m₀ y := by
      funext y; by_cases q : y = x
      · simp [q]
      · simp [q, hm y q]
    rw [e] at F₁
    refine wpAny_mono (turn i v rs k g h tk I oI hi hv ha hg' (hlt _ (.head _)) (allLt_of fun q hq => hlt _ (.tail _ hq)) F₁ N₁) (fun f s₃ h₃ => ?_) fun _ _ q => q
    cases f with
    | ret v => exact h₃
    | brk => exact h₃
    | cont => obtain ⟨h', g', tk', m', rs', k', e1, F', N', G', hm', ha'⟩ := h₃; exact ⟨h', g', tk', m', _, e1, F', N', G', hm', rs', k', ha', rfl⟩
    | next => obtain ⟨h', g', tk', m', rs', k', e1, F', N', G', hm', ha'⟩ := h₃; exact ⟨h', g', tk', m', _, e1, F', N', G', hm', rs', k', ha', rfl⟩
  · rintro m₁ news₁ g h tk ⟨hg', hm, rs, k, ha, rfl⟩ F₁ N₁
    have e : m₁ = fun y => if y = x then m₁ x else m₀ y := by
      funext y; by_cases q : y = x
      · simp [q]
      · simp [q, hm y q]
    rw [e] at F₁
    exact done (m₁ x) rs k g h tk ha hg' F₁ N₁
theorem spost_next {L I D : Addr} {x : Str} {oI : Obj} {tail news' : List (Addr × Obj)} {m₀ m' : Str → Option Value} {acc : List Str → Prop} {Q : Flow → Shared → Prop} {h' : Heap} {g' : Array GenState} {tk' : Nat} {rs : List (Str × Tok)} {k : Nat}
    (F : Fr h₀ L h' m') (N : News h₀ L h' news') (hs : ∀ p ∈ ((I, oI) :: (D, W.listOf (strValues rs).toArray k) :: tail), p ∈ news') (G : AllBare g') (hm : ∀ y : Str, y ≠ x → m' y = m₀ y) (ha : acc (rs.map (·.1))) :
    SPost h₀ L I D x oI tail m₀ acc s Q .next { s with heap := h', gens := g', toks := tk' } := ⟨h', g', tk', m', rs, k, rfl, F, fun p hp => N p (hs p hp), G, hm, ha⟩
theorem spost_cont {L I D : Addr} {x : Str} {oI : Obj} {tail news' : List (Addr × Obj)} {m₀ m' : Str → Option Value} {acc : List Str → Prop} {Q : Flow → Shared → Prop} {h' : Heap} {g' : Array GenState} {tk' : Nat} {rs : List (Str × Tok)} {k : Nat}
    (F : Fr h₀ L h' m') (N : News h₀ L h' news') (hs : ∀ p ∈ ((I, oI) :: (D, W.listOf (strValues rs).toArray k) :: tail), p ∈ news') (G : AllBare g') (hm : ∀ y : Str, y ≠ x → m' y = m₀ y) (ha : acc (rs.map (·.1))) :
    SPost h₀ L I D x oI tail m₀ acc s Q .cont { s with heap := h', gens := g', toks := tk' } := ⟨h', g', tk', m', rs, k, rfl, F, fun p hp => N p (hs p hp), G, hm, ha⟩
noncomputable def OnePost (h₀ : Heap) (L I : Addr) (oI : Obj) (news₀ : List (Addr × Obj)) (Pm : (Str → Option Value) → Prop) (s : Shared) (f : Flow) (s₂ : Shared) : Prop :=
  f = .next ∧ ∃ h' g' tk' m', s₂ = { s with heap := h', gens := g', toks := tk' } ∧ Fr h₀ L h' m' ∧ News h₀ L h' ((I, oI) :: news₀) ∧ AllBare g' ∧ Pm m'
theorem OnePost.intro {L I : Addr} {oI : Obj} {news₀ news' : List (Addr × Obj)} {Pm : (Str → Option Value) → Prop} {h' : Heap} {g' : Array GenState} {tk' : Nat} {m' : Str → Option Value} (F : Fr h₀ L h' m') (N : News h₀ L h' news') (hs : ∀ p ∈ ((I, oI) :: news₀), p ∈ news') (G : AllBare g') (hm : Pm m') :
    OnePost h₀ L I oI news₀ Pm s .next { s with heap := h', gens := g', toks := tk' } := ⟨rfl, h', g', tk', m', rfl, F, fun p hp => N p (hs p hp), G, hm⟩
theorem for_one {x : Str} {px : Pos} {body : List Stmt} {l : Addr} {v : Value} {ol : Obj} {m₀ : Str → Option Value} {news₀ : List (Addr × Obj)} {E : Value → Shared → Prop}
    {R : Result → Shared → Prop} (Pm : (Str → Option Value) → (Str → Option Value) → Prop)
    (hh : A.handled = none) (hl : (l, ol) ∈ news₀) (hc : ol.cls = .type "tuple") (hd : ∃ k, ol.data = .seq #[v] k)
    (F : Fr h₀ env.locals s.heap m₀) (N : News h₀ env.locals s.heap news₀) (hg : AllBare s.gens)
    (turn : ∀ g h tk I oI, AllBare g → (∀ p ∈ news₀, p.1 < I) → Fr h₀ env.locals h (fun y => if y = x then some v else m₀ y) → News h₀ env.locals h ((I, oI) :: news₀) →
      wpAny (model prog w) A (execs body env) (OnePost h₀ env.locals I oI news₀ (Pm m₀) s) (fun _ _ => False) { s with heap := h, gens := g, toks := tk })
    (done : ∀ m' g h tk, AllBare g → Pm m₀ m' → Fr h₀ env.locals h m' → News h₀ env.locals h news₀ → R (.ok .next) { s with heap := h, gens := g, toks := tk })
    (hx : env.kindOf x = some .local := by rfl)
    (hp : (env.scope.kind == .class || (env.scope.kind == .module && env.locals != env.globals)) = false := by rfl) :
    wpAny (model prog w) A (pyIter (.ref l)) (fun it s₂ => codeAny (model prog w) A (.forLoop (.Name x px) it body [] env) R s₂) E s := by
  refine for_tuple (J := fun i m news g => AllBare g ∧ news = news₀ ∧ (i = 0 → m = m₀) ∧ (i = 1 → Pm m₀ m)) hh hl hc hd F N ?_ ?_ ⟨hg, rfl, fun _ => rfl, fun q => absurd q (by decide)⟩ ?_ ?_ hx hp
  · rintro i m news g ⟨_, rfl, _⟩; rfl
  · rintro i m news g ⟨_, rfl, _⟩; exact hl
  · rintro i v' m₁ news₁ g h tk I oI hi hv ⟨hg', rfl, h0, _⟩ hlt F₁ N₁
    have hi0 : i = 0 := by simpa using hi
    subst hi0
    have : v' = v := by simpa using hv.symm
    subst this
    rw [h0 rfl] at F₁
    refine wpAny_mono (turn g h tk I oI hg' hlt F₁ N₁) (fun f s₃ h₃ => ?_) fun _ _ q => q
    obtain ⟨rfl, h', g', tk', m', e1, F', N', G', hm'⟩ := h₃
    exact ⟨h', g', tk', m', _, e1, F', N', G', rfl, fun q => absurd q (by decide), fun _ => hm'⟩
  · rintro m₁ news₁ g h tk ⟨hg', rfl, _, h1⟩ F₁ N₁
    exact done m₁ g h tk hg' (h1 rfl) F₁ N₁
end
end Mine
end
section
open PySem PySem.W PyProof.Rows
namespace Mine
/- plain facts, no program in sight -/
noncomputable def nstep (acc : List Str) (c : Str) : List Str :=
  if c = Str.ofString "" ∨ c = Str.ofString "." then acc
  else if c ≠ Str.ofString ".." ∨ acc = [] ∨ acc.getLast? = some (Str.ofString "..") then acc ++ [c]
  else acc.dropLast
theorem strValues_get {l : List (Str × Tok)} {i : Nat} {v : Value} (h : (strValues l).toArray[i]? = some v) : ∃ c t, v = .str c t ∧ (l.map (·.1))[i]? = some c := by
  simp only [strValues, List.getElem?_toArray, List.getElem?_map, Option.map_eq_some_iff] at h ⊢
  obtain ⟨p, hp, rfl⟩ := h
  exact ⟨p.1, p.2, rfl, p, hp, rfl⟩
theorem strsAre_of (rs : List (Str × Tok)) : StrsAre (strValues rs) (rs.map (·.1)) := by
  induction rs with
  | nil => exact .nil
  | cons p r ih => exact .cons _ _ ih
noncomputable def wgt (l : List Str) : Nat := (l.map (·.length)).sum + l.length
theorem wgt_append (a b : List Str) : wgt (a ++ b) = wgt a + wgt b := by simp [wgt]; omega
theorem wgt_dropLast (a : List Str) : wgt a.dropLast ≤ wgt a := by
  rcases List.eq_nil_or_concat a with rfl | ⟨b, c, rfl⟩
  · exact Nat.le_refl _
  · simp only [List.concat_eq_append, List.dropLast_concat, wgt_append]; omega
theorem wgt_nstep (a : List Str) (c : Str) : wgt (nstep a c) ≤ wgt a + wgt [c] := by
  unfold nstep
  split
  · omega
  · split
    · rw [wgt_append]; exact Nat.le_refl _
    · have := wgt_dropLast a; omega
theorem wgt_fold (cs : List Str) : ∀ a, wgt (cs.foldl nstep a) ≤ wgt a + wgt cs := by
  induction cs with
  | nil => intro a; simp [wgt]
  | cons c r ih =>
    intro a
    have h1 := ih (nstep a c)
    have h2 := wgt_nstep a c
    have h3 : wgt (c :: r) = wgt [c] + wgt r := wgt_append [c] r
    rw [List.foldl_cons]; omega
theorem wgt_take (cs : List Str) (i : Nat) : wgt (cs.take i) ≤ wgt cs := by
  have := wgt_append (cs.take i) (cs.drop i)
  rw [List.take_append_drop] at this; omega
theorem len_le_wgt (l : List Str) : l.length ≤ wgt l := by unfold wgt; omega
theorem sum_le_wgt (l : List Str) : (l.map (·.length)).sum ≤ wgt l := by unfold wgt; omega
theorem mem_le_wgt {l : List Str} {c : Str} (h : c ∈ l) : c.length ≤ wgt l := by
  obtain ⟨a, b, rfl⟩ := List.append_of_mem h
  rw [wgt_append]; simp only [wgt, List.map_cons, List.sum_cons, List.length_cons]; omega
theorem join_le_wgt (s : Str) (hs : s.length ≤ 1) (l : List Str) : (Txt.join s l).length ≤ wgt l := by
  show (Builtin.Str.glued s l).length ≤ _
  rw [StrLaws.glued_eq_join]
  have := StrLaws.join_length_le s l
  have h2 : l.length * s.length ≤ l.length * 1 := Nat.mul_le_mul_left _ hs
  unfold wgt; omega
theorem norm_wgt {x : Str} {cs : List Str} {i n : Nat} (ha : cs = ((Txt.split x (Str.ofString "/")).take i).foldl nstep []) (hW : wgt (Txt.split x (Str.ofString "/")) ≤ n) : wgt cs ≤ n := by
  have h1 := wgt_fold ((Txt.split x (Str.ofString "/")).take i) []
  have h2 := wgt_take (Txt.split x (Str.ofString "/")) i
  have h4 : wgt [] = 0 := rfl
  rw [ha]; omega
theorem joinOk1 {l : List Str} (h : wgt l ≤ 16000000) : (l.map (·.length)).sum + l.length * (Str.ofString "/").length ≤ 16777216 := by
  have h3 : (Str.ofString "/").length = 1 := by decide
  rw [h3]; unfold wgt at h; omega
theorem joinOk0 {l : List Str} (h : wgt l ≤ 16000000) : (l.map (·.length)).sum + l.length * (Str.ofString "").length ≤ 16777216 := by
  have h3 : (Str.ofString "").length = 0 := by decide
  rw [h3]; unfold wgt at h; omega
noncomputable def normF (x : Str) : Str :=
  if (Txt.join (Str.ofString "/") ((Txt.split x (Str.ofString "/")).foldl nstep [])).length = 0 then Str.ofString "." else Txt.join (Str.ofString "/") ((Txt.split x (Str.ofString "/")).foldl nstep [])
theorem nil_append (a : Str) : Str.ofString "" ++ a = a := Str.empty_append a
theorem len_zero {x : Str} (h : x.length = 0) : x = Str.ofString "" := Str.ext' (Array.eq_empty_of_size_eq_zero h)
theorem len_pos_ne {c : Str} (h : (c.length : Int) ≠ 0) : c ≠ Str.ofString "" := fun e => h (by rw [e]; decide)
theorem nstep_skip1 {a : List Str} {c : Str} (h : (c.length : Int) = 0) : nstep a c = a := by
  unfold nstep; rw [if_pos (.inl (len_zero (by omega)))]
theorem nstep_skip2 {a : List Str} {c : Str} (h : (c == Str.ofString ".") = true) : nstep a c = a := by
  unfold nstep; rw [if_pos (.inr (eq_of_beq h))]
theorem not_skip {c : Str} (h0 : (c.length : Int) ≠ 0) (h1 : (c == Str.ofString ".") = false) : ¬ (c = Str.ofString "" ∨ c = Str.ofString ".") := by
  rintro (e | e)
  · exact len_pos_ne h0 e
  · rw [e] at h1; revert h1; decide
theorem nstep_push1 {a : List Str} {c : Str} (h0 : (c.length : Int) ≠ 0) (h1 : (c == Str.ofString ".") = false) (h2 : (c != Str.ofString "..") = true) : nstep a c = a ++ [c] := by
  unfold nstep; rw [if_neg (not_skip h0 h1), if_pos (.inl (by simpa using h2))]
theorem nstep_push2 {c : Str} (h0 : (c.length : Int) ≠ 0) (h1 : (c == Str.ofString ".") = false) : nstep [] c = [c] := by
  unfold nstep; rw [if_neg (not_skip h0 h1), if_pos (.inr (.inl rfl))]; rfl
theorem nstep_push3 {a : List Str} {c c1 : Str} (h0 : (c.length : Int) ≠ 0) (h1 : (c == Str.ofString ".") = false) (h2 : (c1 == Str.ofString "..") = true) : nstep (a ++ [c1]) c = a ++ [c1] ++ [c] := by
  unfold nstep; rw [if_neg (not_skip h0 h1), if_pos (.inr (.inr (by rw [List.getLast?_concat, eq_of_beq h2])))]
theorem nstep_pop {a : List Str} {c c1 : Str} (h0 : (c.length : Int) ≠ 0) (h1 : (c == Str.ofString ".") = false) (h2 : (c != Str.ofString "..") = false) (h3 : (c1 == Str.ofString "..") = false) : nstep (a ++ [c1]) c = a := by
  unfold nstep
  rw [if_neg (not_skip h0 h1), if_neg, List.dropLast_concat]
  rintro (e | e | e)
  · exact e (by simpa using h2)
  · simp at e
  · rw [List.getLast?_concat] at e
    have e := Option.some.inj e
    rw [e] at h3; revert h3; decide
theorem acc_end {rs new : List (Str × Tok)} {cs : List Str} {c : Str} {i : Nat} (ha : rs.map (·.1) = (cs.take i).foldl nstep []) (hc : cs[i]? = some c) (e : nstep (rs.map (·.1)) c = new.map (·.1)) : new.map (·.1) = (cs.take (i + 1)).foldl nstep [] := by
  rw [List.take_add_one, hc, List.foldl_append, ← ha, ← e]; rfl
noncomputable def joinF (a b : Str) : Str := if a.length = 0 then b else a ++ (Str.ofString "/" ++ b)
theorem joinF_nil {a b : Str} (h : (a.length : Int) = 0) : b = joinF a b := by unfold joinF; rw [if_pos (by omega)]
theorem joinF_cons {a b : Str} (h : (a.length : Int) ≠ 0) : a ++ (Str.ofString "/" ++ b) = joinF a b := by unfold joinF; rw [if_neg (by omega)]
theorem map2 {m m₀ : Str → Option Value} {x y : Str} {v : Value} (h : m x = some v) (hm : ∀ z, z ≠ x → z ≠ y → m z = m₀ z) : m = fun z => if z = x then some v else if z = y then m y else m₀ z := by
  funext z
  by_cases h1 : z = x
  · rw [if_pos h1, h1, h]
  · rw [if_neg h1]
    by_cases h2 : z = y
    · rw [if_pos h2, h2]
    · rw [if_neg h2, hm z h1 h2]
theorem normF_nil : normF (Str.ofString "") = Str.ofString "." := by decide +kernel
theorem normF_empty {x : Str} (h : (x.length : Int) = 0) : normF x = Str.ofString "." := by rw [len_zero (x := x) (by omega)]; exact normF_nil
theorem normF_of {x : Str} {cs : List Str} {n : Nat} (hn : (Txt.split x (Str.ofString "/")).length = n) (ha : cs = ((Txt.split x (Str.ofString "/")).take n).foldl nstep []) (h : ((Str.ofString "" ++ Txt.join (Str.ofString "/") cs).length : Int) ≠ 0) : Str.ofString "" ++ Txt.join (Str.ofString "/") cs = normF x := by
  rw [← hn, List.take_length] at ha
  rw [nil_append] at h ⊢
  unfold normF
  rw [← ha, if_neg (by omega)]
theorem normF_of0 {x : Str} {cs : List Str} {n : Nat} (hn : (Txt.split x (Str.ofString "/")).length = n) (ha : cs = ((Txt.split x (Str.ofString "/")).take n).foldl nstep []) (h : ((Str.ofString "" ++ Txt.join (Str.ofString "/") cs).length : Int) = 0) : Str.ofString "." = normF x := by
  rw [← hn, List.take_length] at ha
  rw [nil_append] at h
  unfold normF
  rw [← ha, if_pos (by omega)]
end Mine
end
section
open PySem PySem.W PyProof.Rows PySem.Calls PySem.Spec
namespace Mine
section
variable {prog : Program} {w : World} {A : Around} {E : Value → Shared → Prop} {s : Shared} {h₀ : Heap} {L D : Addr} {m : Str → Option Value} {news news' : List (Addr × Obj)} {rs : List (Str × Tok)} {k : Nat} {c : Str} {t : Tok}
theorem sv_len (rs : List (Str × Tok)) : (strValues rs).length = rs.length := List.length_map ..
theorem sv_snoc (rs : List (Str × Tok)) (c : Str) (t : Tok) : strValues (rs ++ [(c, t)]) = strValues rs ++ [.str c t] := List.map_append ..
theorem sv_push (rs : List (Str × Tok)) (c : Str) (t : Tok) : (strValues rs).toArray.push (.str c t) = (strValues (rs ++ [(c, t)])).toArray := by rw [sv_snoc]; simp
theorem fit_small {n : Nat} (h : n ≤ 100000) : (n : Int) < 2 ^ 63 := by omega
theorem line_small {n : Nat} (h : n ≤ 100000) : n ≤ sizeLine := Nat.le_trans h (by decide)
theorem pop_small (h : rs.length ≤ 100000) : (strValues (rs ++ [(c, t)])).toArray.toList.length ≤ sizeLine := by
  have e : (strValues (rs ++ [(c, t)])).toArray.toList.length = rs.length + 1 := by simp [strValues]
  rw [e]; exact Nat.le_trans (Nat.succ_le_succ h) (by decide)
theorem split_size {l : List (Str × Tok)} {cs : List Str} (h : l.map (·.1) = cs) : cs.length = (strValues l).toArray.size := by rw [List.size_toArray, sv_len, ← h, List.length_map]
theorem truthy_sv {Q : Bool → Shared → Prop} (N : News h₀ L s.heap news) (hm : (D, W.listOf (strValues rs).toArray k) ∈ news) (hb : rs.length ≤ 100000)
    (h : Q (decide (0 < rs.length)) { s with toks := s.toks + 1 + 1 }) : wpAny (model prog w) A (truthy (.ref D)) Q E s :=
  wpAny_truthy_list (News.isList N hm) (by rw [List.size_toArray, sv_len]; exact fit_small hb) (by
    have e : (!(strValues rs).toArray.isEmpty) = decide (0 < rs.length) := by
      cases rs with
      | nil => rfl
      | cons _ _ => simp [strValues]
    rw [e]; exact h)
theorem append_sv {Q : Value → Shared → Prop} (F : Fr h₀ L s.heap m) (N : News h₀ L s.heap news) (U : Upd D (W.listOf (strValues rs).toArray k) (W.listOf (strValues (rs ++ [(c, t)])).toArray (k + 1)) news news')
    (hb : rs.length ≤ 100000) (h : ∀ h', Fr h₀ L h' m → News h₀ L h' news' → Q .none { s with heap := h' }) : wpAny (model prog w) A (call (.builtin "list.append") [.ref D, .str c t]) Q E s :=
  append_K F N (by rw [sv_push]; exact U) h (by rw [List.size_toArray, sv_len]; exact line_small hb)
theorem pop_sv {Q : Value → Shared → Prop} (F : Fr h₀ L s.heap m) (N : News h₀ L s.heap news) (U : Upd D (W.listOf (strValues (rs ++ [(c, t)])).toArray k) (W.listOf (strValues rs).toArray (k + 1)) news news')
    (hb : rs.length ≤ 100000) (h : ∀ h', Fr h₀ L h' m → News h₀ L h' news' → Q (.str c t) { s with heap := h' }) : wpAny (model prog w) A (call (.builtin "list.pop") [.ref D]) Q E s :=
  kl_pop F N (by rw [sv_snoc]; exact kpa_last _ _) U (pop_small hb) h
theorem last_get (rs : List (Str × Tok)) (c : Str) (t : Tok) : (strValues (rs ++ [(c, t)])).toArray[((-1 : Int) + ((strValues (rs ++ [(c, t)])).toArray.size : Nat)).toNat]? = some (.str c t) := by
  have e : ((-1 : Int) + ((strValues (rs ++ [(c, t)])).toArray.size : Nat)).toNat = (strValues rs).length := by rw [sv_snoc]; simp; omega
  rw [e, sv_snoc]; simp
theorem last_sv {value slice : Expr} {u : Tok} {Q : Value → Shared → Prop} (N : News h₀ L s.heap news) (hm : (D, W.listOf (strValues (rs ++ [(c, t)])).toArray k) ∈ news)
    (h : Q (.str c t) s)
    (hs : subscripted slice false (.ref D) (.int (-1) u) = operate [.ref D, .int (-1) u] (getItem (.ref D) (.int (-1) u)) := by with_unfolding_all rfl) :
    wpAny (model prog w) A (subscriptTail value slice (.ref D) (.int (-1) u)) Q E s :=
  have hL := News.isList N hm
  tail_any hL.typeIs slot_list_getitem.lookup (wpAny_getItem_list_neg hL (by decide) (by rw [sv_snoc]; simp; omega) (by decide) (last_get _ _ _) h) hs
theorem ne_of_allLt {d : Addr} {l : List (Addr × Obj)} (h : AllLt d l) : ∀ p ∈ l, p.1 ≠ d := by
  induction l with
  | nil => intro p hp; cases hp
  | cons q r ih =>
    intro p hp
    rcases List.mem_cons.mp hp with e | hp
    · rw [e]; exact Nat.ne_of_lt h.1
    · exact ih h.2 p hp
theorem ne_of_lts {d : Addr} {l : List (Addr × Obj)} (h : ∀ p ∈ l, p.1 < d) : ∀ p ∈ l, p.1 ≠ d := fun p hp => Nat.ne_of_lt (h p hp)
end
end Mine
end
local macro_rules | `(tactic| walk_at "call builtin:list.append") => `(tactic| (k_here; (try dsimp only [List.cons_append, List.nil_append]); (with_reducible show wpAny _ _ (call (Value.builtin _) [Value.ref _, Value.str _ _]) _ _ _); k_dflt (refine' Mine.append_sv ?k1 ?k2 ?k3 ?z ?_; (case k1 => k_asm); (case k2 => k_asm); (case k3 => k_upd); (case z => (try simp only [List.length_append, List.length_cons, List.length_nil]); omega); k_whole); intro h' F' N'; (try k_sweep)))
local macro_rules | `(tactic| walk_at "call builtin:str.join") => `(tactic| (k_here; (try dsimp only [List.cons_append, List.nil_append]); (with_reducible show wpAny _ _ (call (Value.builtin "str.join") [Value.str _ _, Value.ref _]) _ _ _); k_dflt (refine' join_list (News.isList ?k1 ?k2) (Mine.strsAre_of _) ?k3 ?_; (case k1 => k_asm); (case k2 => k_mem); (case k3 => first | assumption | walk_at "j3"); k_whole); intro t' k'))
local macro_rules | `(tactic| walk_at "subscriptTail Name UnaryOp ref int") => `(tactic| (k_here; k_dflt (refine' Mine.last_sv ?k1 ?k2 ?_ ?k3; (case k1 => k_asm); (case k2 => k_mem); (case k3 => with_unfolding_all rfl); k_whole)))
section
open PySem PySem.W PyProof.Rows
namespace Mine
local macro_rules | `(tactic| walk_at "call builtin:issubclass") => `(tactic| (k_here; k_dflt (refine' call_issub (News.get ?k1 ?k2) ?_; (case k1 => k_asm); (case k2 => k_mem); k_whole)))
theorem getsep (w : World) (x : Str) (t : Tok) : Ctr w 1 136 [.str x t] True (fun v => ∃ t, v = .str (Str.ofString "/") t) := by
  dsimp only [Ctr, CtrL, CtrG, Ret, RetL, TT, KK, PR]
  w_top off
  k_fill
  intros; rename_i hret
  refine wpAny_call ?_
  k_dflt cell_enter
  k_steps
  all_goals exact hret _ _ _ _ ⟨_, rfl⟩ (by k_asm) (by k_asm) (by assumption)
theorem fspath (w : World) (x : Str) (t : Tok) : Ctr w 1 122 [.str x t] True (fun v => v = .str x t) := by
  dsimp only [Ctr, CtrL, CtrG, Ret, RetL, TT, KK, PR]
  w_top off
  k_fill
  intros; rename_i hret
  refine wpAny_call ?_
  k_dflt cell_enter
  k_steps
  all_goals exact hret _ _ _ _ rfl (by k_asm) (by (refine' cb_drop ?cbN ?cbS; (case cbN => assumption); (case cbS => kcj_all))) (by assumption)
local macro_rules | `(tactic| walk_at "call ref") => `(tactic| (k_here; k_dflt ((refine' ctr_use (fspath _ _ _) ?k1 ?k2 ?k3 ?k4 ?k5 ?k6 ?k7 ?k8 ?k9 ?k10 ?_; walk_at "c16"; (case k7 => trivial); walk_at "c80")); intro v' h' g' tk' hv' F' N' G'; subst hv'; (try dsimp only); (try k_sweep)))
theorem splitroot (w : World) (x : Str) (t : Tok) : CtrL w 2 150 [.str x t] (x.length ≤ 1000 ∧ (Txt.slice x none (some 1) != Str.ofString "/") = true) (fun v D o => v = .ref D ∧ ∃ t1 t2, o = { cls := .type "tuple", data := .seq #[.str (Str.ofString "") t1, .str (Str.ofString "") t2, .str x t] }) := by
  dsimp only [Ctr, CtrL, CtrG, Ret, RetL, TT, KK, PR]
  w_top off
  k_fill
  intros; rename_i hret
  (with_reducible rename (_ ∧ _) => hpre)
  obtain ⟨hp1, hp2⟩ := hpre
  refine wpAny_call ?_
  k_dflt cell_enter
  k_steps
  all_goals first | (exfalso; simp_all; done) | exact hret _ _ _ _ _ _ ⟨rfl, _, _, rfl⟩ (by k_asm) (by k_asm) (by assumption) (by assumption)
end Mine
end
local macro_rules | `(tactic| walk_at "call ref") => `(tactic| (k_here; k_dflt ((refine' Mine.ctr_use (Mine.fspath _ _ _) ?k1 ?k2 ?k3 ?k4 ?k5 ?k6 ?k7 ?k8 ?k9 ?k10 ?_; walk_at "ccc")); walk_at "ct1"))
local macro_rules | `(tactic| walk_at "call ref") => `(tactic| (k_here; k_dflt ((refine' Mine.ctr_use (Mine.getsep _ _ _) ?k1 ?k2 ?k3 ?k4 ?k5 ?k6 ?k7 ?k8 ?k9 ?k10 ?_; walk_at "ccc")); walk_at "ct1"))
section
open PySem PySem.W PyProof.Rows
namespace Mine
local macro_rules | `(tactic| walk_at "call ref") => `(tactic| (k_here; k_dflt ((refine' ctr_use (splitroot _ _ _) ?k1 ?k2 ?k3 ?k4 ?k5 ?k6 ?k7 ?k8 ?k9 ?k10 ?_; walk_at "c16"; (case k7 => exact ⟨by assumption, by assumption⟩); walk_at "c80")); intro v' D' o' h' g' tk' hv' F' N' l1 G'; obtain ⟨hv1, t1, t2, hv2⟩ := hv'; subst hv1; subst hv2; (try dsimp only); (try k_lt l1); (try k_sweep)))
local macro_rules | `(tactic| k_all) => `(tactic| exact ne_of_allLt (by assumption))
local macro_rules | `(tactic| walk_at "truthy ref") => `(tactic| (k_here; k_dflt (refine' truthy_sv ?k1 ?k2 ?k3 ?_; (case k1 => k_asm); (case k2 => k_mem); (case k3 => (try simp only [List.length_append, List.length_cons, List.length_nil]); omega); k_whole)))
local macro_rules | `(tactic| walk_at "call builtin:list.pop") => `(tactic| (k_here; (try dsimp only); k_dflt (refine' pop_sv ?k1 ?k2 ?k3 ?z ?_; (case k1 => k_asm); (case k2 => k_asm); (case k3 => k_upd); (case z => omega); k_whole); intro h' F' N'; (try k_sweep)))
theorem nil_or_snoc (rs : List (Str × Tok)) : rs = [] ∨ ∃ rs' c t, rs = rs' ++ [(c, t)] := by
  rcases List.eq_nil_or_concat rs with h | ⟨a, b, h⟩
  · exact .inl h
  · exact .inr ⟨a, b.1, b.2, by rw [h, List.concat_eq_append]⟩
theorem normpath (w : World) (x : Str) (t : Tok) : Ctr w 4 157 [.str x t] (x.length ≤ 1000 ∧ (Txt.slice x none (some 1) != Str.ofString "/") = true) (fun v => ∃ t, v = .str (normF x) t) := by
  dsimp only [Ctr, CtrL, CtrG, Ret, RetL, TT, KK, PR]
  w_top off
  k_fill
  intros; rename_i hret
  (with_reducible rename (_ ∧ _) => hpre)
  obtain ⟨hp1, hp2⟩ := hpre
  refine wpAny_call ?_
  k_dflt cell_enter
  generalize hst : Stmt.For _ _ _ _ _ = st
  k_steps
  · subst hst
    refine wpAny_For ?_
    k_steps
    (with_reducible rename (List.map _ _ = Txt.split _ _) => hsplit)
    have hW : wgt (Txt.split x (Str.ofString "/")) ≤ x.length + 1 := by
      have := weighs_of_split hsplit (by decide)
      rw [hsplit] at this; exact this
    refine' for_strs (rs₀ := []) (k₀ := 0) (fun i rs => rs = ((Txt.split x (Str.ofString "/")).take i).foldl nstep []) rfl ?l1 ?lc ?ld ?l2 ?l3 ?l4 ?l5 ?turn ?done
    (case l3 => k_asm)
    (case l2 => k_asm)
    (case l1 => k_mem)
    (case lc => exact rfl)
    (case ld => exact ⟨_, rfl⟩)
    (case l4 => assumption)
    (case l5 => exact rfl)
    case turn =>
      intro i v rs k g h tk I oI hi hv ha hg1 hlt1 hlt2 F1 N1
      obtain ⟨c, tc, rfl, hc⟩ := strValues_get hv
      rw [hsplit] at hc
      have hcl : c.length ≤ 1001 := by have := mem_le_wgt (List.mem_of_getElem? hc); omega
      have hrl : rs.length ≤ 1001 := by
        have h1 := norm_wgt ha hW
        have h3 := len_le_wgt (rs.map (·.1))
        rw [List.length_map] at h3; omega
      (with_reducible rename (_ ∧ _ ∧ AllLt _ _) => l1x)
      obtain ⟨lx1, lx2, lx3⟩ := l1x
      replace hlt1 := ltN hlt1
      simp only [AllLt] at hlt2
      obtain ⟨ly1, ly2, ly3⟩ := hlt2
      generalize hst : Stmt.If (Expr.BoolOp _ (Expr.Compare _ _ _ _ :: _) _) _ _ _ = st
      k_steps
      all_goals first | ((try dsimp only); refine' spost_cont ?e1 ?e2 ?e3 ?e4 ?e5 ?e6; (case e1 => k_asm); (case e2 => k_asm); (case e3 => exact fun _ hp => hp); (case e4 => assumption); (case e5 => (intro y hy; exact if_neg hy)); (case e6 => (refine acc_end ha hc ?_; first | exact nstep_skip1 (by assumption) | exact nstep_skip2 (by assumption)))) | skip
      subst hst
      rcases nil_or_snoc rs with rfl | ⟨rs', c1, tc1, rfl⟩
      · k_steps
        all_goals first | (exfalso; (with_reducible rename (¬ 0 < _) => hz); exact hz (by simp; done)) | ((try dsimp only); (first | refine' spost_next ?e1 ?e2 ?e3 ?e4 ?e5 ?e6 | refine' spost_cont ?e1 ?e2 ?e3 ?e4 ?e5 ?e6); (case e1 => k_asm); (case e2 => k_asm); (case e3 => exact fun _ hp => hp); (case e4 => assumption); (case e5 => (intro y hy; exact if_neg hy)); (case e6 => (refine acc_end ha hc ?_; (simp only [List.map_append, List.map_cons, List.map_nil, List.nil_append]); first | exact nstep_skip1 (by assumption) | exact nstep_skip2 (by assumption) | exact nstep_push1 (by assumption) (by assumption) (by assumption) | exact nstep_push2 (by assumption) (by assumption) | exact nstep_push3 (by assumption) (by assumption) (by assumption) | exact nstep_pop (by assumption) (by assumption) (by assumption) (by assumption))))
      · simp only [List.length_append, List.length_cons, List.length_nil] at hrl
        k_steps
        all_goals first | (exfalso; (with_reducible rename (¬ 0 < _) => hz); exact hz (by simp; done)) | ((try dsimp only); (first | refine' spost_next ?e1 ?e2 ?e3 ?e4 ?e5 ?e6 | refine' spost_cont ?e1 ?e2 ?e3 ?e4 ?e5 ?e6); (case e1 => k_asm); (case e2 => k_asm); (case e3 => exact fun _ hp => hp); (case e4 => assumption); (case e5 => (intro y hy; exact if_neg hy)); (case e6 => (refine acc_end ha hc ?_; (simp only [List.map_append, List.map_cons, List.map_nil, List.nil_append]); first | exact nstep_skip1 (by assumption) | exact nstep_skip2 (by assumption) | exact nstep_push1 (by assumption) (by assumption) (by assumption) | exact nstep_push2 (by assumption) (by assumption) | exact nstep_push3 (by assumption) (by assumption) (by assumption) | exact nstep_pop (by assumption) (by assumption) (by assumption) (by assumption))))
    case done =>
      intro v rs k g h tk ha hg1 F1 N1
      have hw : wgt (rs.map (·.1)) ≤ 1001 := Nat.le_trans (norm_wgt ha hW) (by omega)
      have hjl : (Txt.join (Str.ofString "/") (rs.map (·.1))).length ≤ 1001 := Nat.le_trans (join_le_wgt _ (by decide) _) hw
      have hjl2 : (Str.ofString "" ++ Txt.join (Str.ofString "/") (rs.map (·.1))).length ≤ 1001 := by rw [nil_append]; exact hjl
      have hjo := joinOk1 (Nat.le_trans hw (by decide))
      have hn := split_size hsplit
      k_steps
      · exact hret _ _ _ _ ⟨_, congrArg (Value.str · _) (normF_of hn ha (by assumption))⟩ (by k_asm) (by (refine' cb_drop ?cbN ?cbS; (case cbN => assumption); (case cbS => kcj_all))) (by assumption)
      · exact hret _ _ _ _ ⟨_, congrArg (Value.str · _) (normF_of0 hn ha (by assumption))⟩ (by k_asm) (by (refine' cb_drop ?cbN ?cbS; (case cbN => assumption); (case cbS => kcj_all))) (by assumption)
  · exact hret _ _ _ _ ⟨_, congrArg (Value.str · _) (normF_empty (by assumption)).symm⟩ (by k_asm) (by k_asm) (by assumption)
end Mine
end
local macro_rules | `(tactic| walk_at "call ref") => `(tactic| (k_here; k_dflt ((refine' Mine.ctr_use (Mine.normpath _ _ _) ?k1 ?k2 ?k3 ?k4 ?k5 ?k6 ?k7 ?k8 ?k9 ?k10 ?_; walk_at "ccc")); walk_at "ct1"))
section
open PySem PySem.W PyProof.Rows
namespace Mine
theorem join (w : World) (a b : Str) (t u : Tok) : Ctr w 3 143 [.str a t, .str b u] (a.length ≤ 1000 ∧ b.length ≤ 1000 ∧ Txt.startswith b (Str.ofString "/") = false ∧ Txt.endswith a (Str.ofString "/") = false) (fun v => ∃ t, v = .str (joinF a b) t) := by
  dsimp only [Ctr, CtrL, CtrG, Ret, RetL, TT, KK, PR]
  w_top off
  k_fill
  intros; rename_i hret
  (with_reducible rename (_ ∧ _) => hpre)
  obtain ⟨hp1, hp2, hp3, hp4⟩ := hpre
  refine wpAny_call ?_
  (refine' kp_rest ?k1 ?k2 ?k3 ?k4 ?k5 ?kA ?kF ?kK ?k6 ?k7 ?k8 ?kV ?kP ?kG ?kB ?_ ?c2 ?c3 ?c4 ?c5; (case kA => exact rfl); (case kF => exact rfl); (case kK => assumption); (case k1 => k_asm); (case k2 => k_asm); (case k3 => k_asm); (case k4 => k_asm); (case k5 => k_asm); (case k6 => k_is); (case k7 => k_is); (case k8 => ktr_room); (case kV => kl_lit); (case kP => exact rfl); (case kG => exact fun _ => rfl); (case kB => exact fun _ => locs rfl); (case c5 => decide); (case c2 => exact rfl); (case c3 => exact rfl); (case c4 => exact rfl); k_whole; intro D' g' L' h' l1 FG' F' N' B' X' T'; (try k_lt l1); (try dsimp only); (try k_lift B'); (try k_fold))
  generalize hst : Stmt.For _ _ _ _ _ = st
  k_steps
  subst hst
  refine wpAny_For ?_
  k_steps
  refine' for_one (fun m₀ m' => (∃ tp, m' (Str.ofString "path") = some (.str (joinF a b) tp)) ∧ ∀ z : Str, z ≠ Str.ofString "path" → z ≠ Str.ofString "b" → m' z = m₀ z) rfl ?l1 ?lc ?ld ?l2 ?l3 ?l4 ?turn ?done
  (case l3 => k_asm)
  (case l2 => k_asm)
  (case l1 => k_mem)
  (case lc => exact rfl)
  (case ld => exact ⟨_, rfl⟩)
  (case l4 => assumption)
  case turn =>
    intro g h tk I oI hg1 hlt1 F1 N1
    k_steps
    · refine' OnePost.intro ?e1 ?e2 ?e3 ?e4 ?e5; (case e1 => k_asm); (case e2 => k_asm); (case e3 => exact fun _ hp => hp); (case e4 => assumption); (case e5 => exact ⟨⟨_, (if_pos rfl).trans (congrArg (fun q => some (Value.str q _)) (joinF_cons (by assumption)))⟩, fun z h1 h2 => (if_neg h1).trans ((if_neg h2).trans (if_neg h2))⟩)
    · refine' OnePost.intro ?e1 ?e2 ?e3 ?e4 ?e5; (case e1 => k_asm); (case e2 => k_asm); (case e3 => exact fun _ hp => hp); (case e4 => assumption); (case e5 => exact ⟨⟨_, (if_pos rfl).trans (congrArg (fun q => some (Value.str q _)) (joinF_nil (by assumption)))⟩, fun z h1 h2 => (if_neg h1).trans ((if_neg h2).trans (if_neg h2))⟩)
  case done =>
    intro m' g h tk hg1 hm F1 N1
    obtain ⟨⟨tp, hm1⟩, hm2⟩ := hm
    rw [map2 hm1 hm2] at F1
    k_steps
    exact hret _ _ _ _ ⟨_, rfl⟩ (by k_asm) (by (refine' cb_drop ?cbN ?cbS; (case cbN => assumption); (case cbS => kcj_all))) (by assumption)
end Mine
end
local macro_rules | `(tactic| walk_at "call ref") => `(tactic| (k_here; k_dflt ((refine' Mine.ctr_use (Mine.join _ _ _ _ _) ?k1 ?k2 ?k3 ?k4 ?k5 ?k6 ?k7 ?k8 ?k9 ?k10 ?_; walk_at "ccc")); walk_at "ct1"))
section
open PySem PySem.W PyProof.Rows
namespace Mine
abbrev chs (x : Str) : List Nat := x.cps.toList
theorem chs_append (a b : Str) : chs (a ++ b) = chs a ++ chs b := by simp [chs, Str.cps_append]
theorem chs_ext {a b : Str} (h : chs a = chs b) : a = b := Str.ext' (Array.toList_inj.mp h)
theorem chs_len (a : Str) : (chs a).length = a.length := by simp [chs, Str.length]
theorem txtjoin (s : Str) (l : List Str) : Txt.join s l = Str.join s l := StrLaws.glued_eq_join s l
theorem join_head (s : Str) {c : Str} {l : List Str} (hc : chs c ≠ []) : (chs (Str.join s (c :: l))).head? = (chs c).head? := by
  cases l with
  | nil => rfl
  | cons d r =>
    show (chs (c ++ s ++ Str.join s (d :: r))).head? = _
    rw [chs_append, chs_append, List.append_assoc]
    cases h : chs c with
    | nil => exact absurd h hc
    | cons a b => rfl
theorem slice1 {x : Str} (h : 1 ≤ x.length) : Txt.slice x none (some 1) = ⟨((chs x).take 1).toArray⟩ := by
  have := StrLaws.sliceText_to (x := x) (j := 1) ⟨by decide, by have := chs_len x; simp only [chs] at this; omega⟩
  exact this
theorem slice1_ok {x : Str} (h : (chs x).head? ≠ some 47) : (Txt.slice x none (some 1) != Str.ofString "/") = true := by
  by_cases h0 : x.length = 0
  · rw [len_zero h0]; decide +kernel
  · rw [slice1 (by omega)]
    have h1 : (chs x).length = x.length := chs_len x
    cases hx : chs x with
    | nil => rw [hx] at h1; simp at h1; omega
    | cons a r =>
      rw [hx] at h
      have ha : a ≠ 47 := fun e => h (by rw [e]; rfl)
      rw [bne_iff_ne]
      intro e
      have : chs ⟨(List.take 1 (a :: r)).toArray⟩ = chs (Str.ofString "/") := congrArg chs e
      have e2 : chs (Str.ofString "/") = [47] := by decide
      rw [e2] at this
      simp [chs] at this
      exact ha this
noncomputable def wayF (c : Str) : Str := if (c == Str.ofString "(") = true then Str.ofString "x" else if (c == Str.ofString ")") = true then Str.ofString ".." else Str.ofString "."
theorem way_strs {ys : List Value} {cs : List Str} (h : CarriedAll ys (List.map (fun a' => if (a' == Str.ofString "(") = true then PyData.str (Str.ofString "x") else if (a' == Str.ofString ")") = true then PyData.str (Str.ofString "..") else PyData.str (Str.ofString ".")) (List.filter (fun _ => true) cs))) : StrsAre ys (cs.map wayF) := by
  have e : (fun a' : Str => if (a' == Str.ofString "(") = true then PyData.str (Str.ofString "x") else if (a' == Str.ofString ")") = true then PyData.str (Str.ofString "..") else PyData.str (Str.ofString ".")) = fun a' => PyData.str (wayF a') := by
    funext a; unfold wayF; split <;> (try split) <;> rfl
  have e2 : List.filter (fun _ : Str => true) cs = cs := List.filter_eq_self.mpr (fun _ _ => rfl)
  rw [e, e2] at h
  exact h.strsOf
theorem wayF_cases (c : Str) : wayF c = Str.ofString "x" ∨ wayF c = Str.ofString ".." ∨ wayF c = Str.ofString "." := by
  unfold wayF; split
  · exact .inl rfl
  · split
    · exact .inr (.inl rfl)
    · exact .inr (.inr rfl)
theorem way_wgt (cs : List Str) : wgt (cs.map wayF) ≤ 3 * cs.length := by
  induction cs with
  | nil => simp [wgt]
  | cons c r ih =>
    have h3 : wgt (wayF c :: r.map wayF) = wgt [wayF c] + wgt (r.map wayF) := wgt_append [wayF c] _
    have h4 : wgt [wayF c] ≤ 3 := by rcases wayF_cases c with e | e | e <;> rw [e] <;> decide
    rw [List.map_cons, List.length_cons]; omega
theorem way_head (cs : List Str) : (chs (Txt.join (Str.ofString "/") (cs.map wayF))).head? ≠ some 47 := by
  rw [txtjoin]
  cases cs with
  | nil => decide
  | cons c r =>
    rw [List.map_cons, join_head]
    · rcases wayF_cases c with e | e | e <;> rw [e] <;> decide
    · rcases wayF_cases c with e | e | e <;> rw [e] <;> decide
/- def map4 -/
theorem map4 {m m₀ : Str → Option Value} {a b c d : Str} {va vb : Value} (ha : m a = some va) (hb : m b = some vb) (hm : ∀ y, y ≠ a → y ≠ b → y ≠ c → y ≠ d → m y = m₀ y) :
    m = fun y => if y = a then some va else if y = b then some vb else if y = c then m c else if y = d then m d else m₀ y := by
  funext y
  by_cases h1 : y = a
  · rw [if_pos h1, h1, ha]
  · rw [if_neg h1]
    by_cases h2 : y = b
    · rw [if_pos h2, h2, hb]
    · rw [if_neg h2]
      by_cases h3 : y = c
      · rw [if_pos h3, h3]
      · rw [if_neg h3]
        by_cases h4 : y = d
        · rw [if_pos h4, h4]
        · rw [if_neg h4, hm y h1 h2 h3 h4]
end Mine
end
section
open PySem PySem.W PyProof.Rows
namespace Mine
local macro_rules | `(tactic| walk_at "call builtin:str.join") => `(tactic| (k_here; (with_reducible show wpAny _ _ (call (Value.builtin "str.join") [Value.str _ _, Value.ref _]) _ _ _); (with_reducible rename CarriedAll _ _ => hc'); k_dflt (refine' join_list (by assumption) (way_strs hc') ?k3 ?_; (case k3 => assumption); k_whole); intro t' k'))
theorem lawway (w : World) (D : Addr) (rs : List (Str × Tok)) (k : Nat) : CtrG w 6 169 [.ref D] (fun news => (D, W.listOf (strValues rs).toArray k) ∈ news ∧ rs.length ≤ 100) (fun h₀ L m news s Q => Ret h₀ L m news s Q (fun v => ∃ t, v = .str (normF (Txt.join (Str.ofString "/") ((rs.map (·.1)).map wayF))) t)) := by
  dsimp only [Ctr, CtrL, CtrG, Ret, RetL, TT, KK, PR]
  w_top off
  k_fill
  intros; rename_i hret
  (with_reducible rename (_ ∧ _) => hpre)
  obtain ⟨hp1, hp2⟩ := hpre
  have hw := way_wgt (rs.map (·.1))
  rw [List.length_map] at hw
  have hj1 := joinOk1 (Nat.le_trans hw (by omega))
  have hj2 := Nat.le_trans (join_le_wgt (Str.ofString "/") (by decide) ((rs.map (·.1)).map wayF)) (Nat.le_trans hw (show 3 * rs.length ≤ 1000 by omega))
  have hj3 := slice1_ok (way_head (rs.map (·.1)))
  refine wpAny_call ?_
  k_dflt cell_enter
  (with_reducible rename News _ _ _ _ => N0)
  have hIL := News.isList N0 hp1
  have hSA := strsAre_of rs
  k_steps
  all_goals exact hret _ _ _ _ ⟨_, rfl⟩ (by k_asm) (by (refine' cb_drop ?cbN ?cbS; (case cbN => assumption); (case cbS => kcj_all))) (by assumption)
end Mine
end
local macro_rules | `(tactic| walk_at "call ref") => `(tactic| (k_here; k_dflt ((refine' Mine.ctr_use (Mine.lawway _ _ _ _) ?k1 ?k2 ?k3 ?k4 ?k5 ?k6 ?k7 ?k8 ?k9 ?k10 ?_; walk_at "ccc")); walk_at "ct1"))
section
open PySem PySem.W PyProof.Rows PySem.Calls PySem.Spec PySem.W.X
namespace Mine
section
variable {prog : Program} {w : World} {A : Around} {P : End → Shared → Prop} {c : Code} {fs : List Frame} {s : Shared} {env : Env}
  {K : Flow → Sem Fin} {H : Value → Sem Fin} {gd : Bool → Bool} {lv : List Value → List Value}
theorem sx_wrap {α : Type} {m : Sem α} {K : α → Sem Fin} {H : Value → Sem Fin} {gd lv}
    (h : wpAny (model prog w) (A.over c fs) m (fun a s' => SegX (model prog w) A c (K a) fs s' P) (fun x s' => SegX (model prog w) A c (H x) fs s' P) s) :
    SegX (model prog w) A c (m.wrap K H gd lv) fs s P := by
  rintro Γ p rfl hΓ
  obtain ⟨e, s', hr, hq⟩ := runs_wrap_of_wp (Φ := fun e s' => e.quiet = true ∧ P e s') K H gd lv m (h (Γ.over fs) p (hΓ.over fs)) (fun a p' s' h' => h' Γ p' rfl hΓ) (fun x p' s' h' => h' Γ p' rfl hΓ)
  exact ⟨e, s', hr, hq⟩
theorem sx_bind_wrap {α β : Type} {m : Sem α} {K : α → Sem β} {K' : β → Sem Fin} {H' : Value → Sem Fin} {gd lv}
    (h : wpAny (model prog w) (A.over c fs) m (fun a s' => SegX (model prog w) A c ((K a).wrap K' H' gd lv) fs s' P) (fun x s' => SegX (model prog w) A c (H' x) fs s' P) s) : SegX (model prog w) A c ((m >>= K).wrap K' H' gd lv) fs s P := by
  rw [Sem.bind_eq_wrap', Sem.wrap_wrap]; exact sx_wrap h
theorem sx_at {p' : Pos} {k : Unit → Sem Fin} (h : SegX (model prog w) A c (k ()) fs s P) : SegX (model prog w) A c (.at p' k) fs s P :=
  sx_wrap (m := standAt p') (K := k) (H := .raise) (gd := id) (lv := id) (wpAny_standAt h)
theorem sx_point {l : List Value} {k : Unit → Sem Fin} (h : SegX (model prog w) A c (k ()) fs s P) : SegX (model prog w) A c (.point l k) fs s P :=
  sx_wrap (m := point) (K := k) (H := .raise) (gd := id) (lv := fun _ => l) (wpAny_point h)
theorem sx_nil (h : SegX (model prog w) A c (K .next) fs s P) : SegX (model prog w) A c ((execs [] env).wrap K H gd lv) fs s P := h
theorem sx_cons {st : Stmt} {rest : List Stmt}
    (h : SegX (model prog w) A c ((exec st env).wrap (fun f => match f with | .next => (execs rest env).wrap K H gd lv | f => K f) H gd lv) fs s P) :
    SegX (model prog w) A c ((execs (st :: rest) env).wrap K H gd lv) fs s P := by rw [execs_cons_wrap]; exact h
theorem sx_stmt {st : Stmt} (h : wpAny (model prog w) (A.over c fs) (exec st env) (fun f s' => SegX (model prog w) A c (K f) fs s' P) (fun _ _ => False) s) :
    SegX (model prog w) A c ((exec st env).wrap K H gd lv) fs s P := sx_wrap (wpAny_mono h (fun _ _ x => x) fun _ _ x => x.elim)
theorem sx_If {test : Expr} {body orelse : List Stmt} {pos : Pos}
    (h : wpAny (model prog w) (A.over c fs) (isTrue test env (eval test env)) (fun b s' => if b = true then SegX (model prog w) A c ((execs body env).wrap K H gd lv) fs s' P else SegX (model prog w) A c ((execs orelse env).wrap K H gd lv) fs s' P) (fun _ _ => False) s) :
    SegX (model prog w) A c ((exec (.If test body orelse pos) env).wrap K H gd lv) fs s P := by
  rw [exec_If]
  refine sx_bind_wrap (wpAny_standAt ?_)
  refine sx_bind_wrap (wpAny_mono h (fun b s' hb => ?_) fun _ _ x => x.elim)
  cases b with
  | true => rw [if_pos rfl] at hb; simpa using hb
  | false => rw [if_neg Bool.false_ne_true] at hb; simpa using hb
theorem sx_For {target iter : Expr} {body orelse : List Stmt} {pos : Pos}
    (h : wpAny (model prog w) (A.over c fs) (eval iter env) (fun x s₁ => wpAny (model prog w) (A.over c fs) (pyIter x) (fun it s₂ =>
      ∀ p, SegX (model prog w) A (.forLoop target it body orelse env) (denote table (.forLoop target it body orelse env))
      (.ret (fun r => ((match r with | .ok f => (.pure f : Sem Flow) | .error e => .raise e).onRaise fun (x : Value) => do
        if (← field x 1) == Value.none then unsupported "frame.own-activation:exception-without-traceback"
        setFlight x env.frame).wrap K H gd lv) none (gd false) (lv []) c p [] :: fs) s₂ P) (fun _ _ => False) s₁) (fun _ _ => False) s)
    (hs : ∀ x, foldedSetIterable iter env x = pure x := by intro _; rfl) :
    SegX (model prog w) A c ((exec (.For target iter body orelse pos) env).wrap K H gd lv) fs s P := by
  rw [exec_For]
  refine sx_bind_wrap (wpAny_standAt ?_)
  refine sx_bind_wrap (wpAny_mono h (fun x s₁ h₁ => ?_) fun _ _ x => x.elim)
  refine sx_bind_wrap (wpAny_of_eq (hs x) ?_)
  refine sx_bind_wrap (wpAny_standAt ?_)
  refine sx_bind_wrap (wpAny_holding (wpAny_mono h₁ (fun it s₂ h₂ => ?_) fun _ _ x => x.elim))
  exact s_call _ _ _ _ _ _ _ _ _ _ _ _ h₂
theorem sx_Yield {e : Expr} {ypos pos : Pos} (hfs : splitAtGen fs = none) (hgd : gd false = false) (hfg : fs.any Frame.guarded = false)
    (h : wpAny (model prog w) (A.over c fs) (eval e env) (fun v s' => ∀ l k p, k (.send .none) = K .next → P (.susp v false l k c p fs) s') (fun _ _ => False) s)
    (hco : env.scope.isCoroutine = false := by rfl) (hi : interactive env = false := by rfl) :
    SegX (model prog w) A c ((exec (.Expr (.Yield (some e) ypos) pos) env).wrap K H gd lv) fs s P := by
  rw [exec_Expr env _ pos hi rfl]
  show SegX (model prog w) A c (.at pos fun _ => ((eval e env >>= fun v => (standAt ypos >>= fun _ => yieldOut env v)) >>= fun x =>
    dropValue (.Yield (some e) ypos) pos x).wrap K H gd lv) fs s P
  have hy : ∀ v, yieldOut env v = yieldValue v := fun v => by simp only [yieldOut, hco, Bool.false_eq_true, if_false]
  simp only [hy]
  refine sx_at ?_
  rw [Sem.bind_eq_wrap', Sem.bind_eq_wrap', Sem.wrap_wrap, Sem.wrap_wrap]
  refine sx_wrap (wpAny_mono h (fun v s' h' => ?_) fun _ _ x => x.elim)
  refine sx_at ?_
  have key : SegX (model prog w) A c (.yield v (gd false) (lv []) fun r => ((match r with | .send x => (pure x : Sem Value) | .throw e => raiseThrown e).wrap (fun x => (dropValue (.Yield (some e) ypos) pos x).wrap K H gd lv) H gd lv)) fs s' P := by
    rw [hgd]
    exact s_yield _ _ _ _ _ _ _ _ _ _ hfs hfg fun p => h' _ _ p rfl
  exact key
theorem sx_forTurn {target : Expr} {it : Value} {body orelse : List Stmt}
    (h : wpAny (model prog w) (A.over (.forLoop target it body orelse env) fs) (pyNext it) (fun r s' => match r with
      | none => SegX (model prog w) A (.block orelse env) (denote table (.block orelse env)) fs s' P
      | some v => wpAny (model prog w) (A.over (.forLoop target it body orelse env) fs) (letOwnedTupleGo target it v) (fun _ s₁ =>
          wpAny (model prog w) (A.over (.forLoop target it body orelse env) fs) (assign target env v) (fun _ s₂ =>
            SegX (model prog w) A (.forLoop target it body orelse env) ((execs body env).wrap (fun f => match f with
              | .next | .cont => .pure (.again (.forLoop target it body orelse env))
              | .brk => .pure (.done .next)
              | .ret v => .pure (.done (.ret v))) (fun e => (do noteFrame e env; theTreesLotGoes e : Sem Unit).wrap (fun _ => .raise e) .raise id id) id id) fs s₂ P) (fun _ _ => False) s₁) (fun _ _ => False) s') (fun _ _ => False) s) :
    SegX (model prog w) A (.forLoop target it body orelse env) (denote table (.forLoop target it body orelse env)) fs s P := by
  show SegX _ A _ ((forTurn target it body orelse env).onRaise (fun x => do noteFrame x env; theTreesLotGoes x)) fs s P
  unfold forTurn
  rw [Sem.onRaise_eq_wrap]
  refine sx_bind_wrap (wpAny_standAt ?_)
  refine sx_bind_wrap (wpAny_onRaise (wpAny_mono h (fun r s' hr => ?_) fun _ _ x => x.elim))
  cases r with
  | none => exact s_again _ _ _ _ _ _ _ _ rfl hr
  | some v =>
    refine sx_bind_wrap (wpAny_mono hr (fun _ s₁ h₁ => ?_) fun _ _ x => x.elim)
    refine sx_bind_wrap (wpAny_mono h₁ (fun _ s₂ h₂ => ?_) fun _ _ x => x.elim)
    rw [Sem.bind_eq_wrap', Sem.wrap_wrap]
    rw [Sem.wrap_congr (execs body env) _ _ (K' := fun f => match f with
              | .next | .cont => .pure (.again (.forLoop target it body orelse env))
              | .brk => .pure (.done .next)
              | .ret v => .pure (.done (.ret v))) (H' := (fun e => (do noteFrame e env; theTreesLotGoes e : Sem Unit).wrap (fun _ => .raise e) .raise id id))
        (fun f => by cases f <;> rfl)
        (fun e => by first | exact Sem.bind_eq_wrap _ _ | (show (do noteFrame e env; theTreesLotGoes e : Sem Unit).bind (fun _ => .raise e) = _; rw [Sem.bind_eq_wrap]))]
    exact h₂
theorem sx_func {body : List Stmt}
    (h : SegX (model prog w) A (.func body env) ((execs body env).wrap (fun f => .pure (.done (.ret (match f with | .ret v => v | _ => .none))))
      (fun e => (leaving env e).wrap (fun _ => .raise e) .raise id id) id id) fs s P) :
    SegX (model prog w) A (.func body env) (denote table (.func body env)) fs s P := by
  show SegX _ A _ (.point [] fun _ => ((execs body env).onRaise (leaving env)) >>= _) fs s P
  refine sx_point ?_
  rw [Sem.onRaise_eq_wrap, Sem.bind_eq_wrap', Sem.wrap_wrap]
  rw [Sem.wrap_congr (execs body env) _ _ (K' := fun f => .pure (.done (.ret (match f with | .ret v => v | _ => .none))))
    (H' := fun e => (leaving env e).wrap (fun _ => .raise e) .raise id id) (fun f => by cases f <;> rfl)
    (fun e => by rw [Sem.bind_eq_wrap, Sem.wrap_wrap]; rfl)]
  exact h
noncomputable def Goes1 (prog : Program) (w : World) (A : Around) (gs : GenState) (s : Shared) (P : End → Shared → Prop) : Prop := match gs with
  | .fresh c => SegX (model prog w) A c (denote table c) [] s P
  | .suspended k _ c _ fs _ => SegX (model prog w) A c (k (.send .none)) fs s P
  | _ => False
theorem resumeX {α : Type} {E : Value → Shared → Prop} {Q : α → Shared → Prop} {g : Nat} {gs : GenState} {l : List Value} {k : GenResult → Sem α} (hg : s.gens[g]? = some gs)
    (hgo : Goes1 prog w A gs (s.setGen g .running) P) (hP : ∀ e s₁, e.quiet = true → P e s₁ → wpAny (model prog w) A (k e.result) Q E (s₁.setGen g e.genState)) :
    wpAny (model prog w) A (.resume g (.send .none) l k) Q E s := by
  have mk : ∀ (c₀ : Code) (t₀ : Sem Fin) (fs₀ : List Frame), SegX (model prog w) A c₀ t₀ fs₀ (s.setGen g .running) P →
      SegX (model prog w) A c₀ t₀ fs₀ (s.setGen g .running) (fun e s₁ => ∀ Γ p, Γ.In A → Sem.wp (model prog w) Γ (k e.result) (fun a _ s' => Q a s') (fun e _ s' => E e s') p (s₁.setGen g e.genState)) := by
    intro c₀ t₀ fs₀ h Γ p hc hΓ
    obtain ⟨e, s', hr, hq, hp⟩ := h Γ p hc hΓ
    exact ⟨e, s', hr, hq, fun Γ p hi => hP e s' hq hp Γ p hi⟩
  intro Γ p hΓ
  cases gs with
  | fresh c => exact wake_any α prog w hg (.inl ⟨rfl, rfl, rfl, rfl⟩) (fun Γ => Γ.In A) (fun _ h => h) (mk _ _ _ hgo) Γ p hΓ
  | suspended k₀ l₀ c₀ p₀ fs₀ cl => exact wake_any α prog w hg (.inr ⟨k₀, l₀, p₀, cl, rfl, rfl⟩) (fun Γ => Γ.In A) (fun _ h => h) (mk _ _ _ hgo) Γ p hΓ
  | running => exact hgo.elim
  | finished => exact hgo.elim
theorem pyNextX {E : Value → Shared → Prop} {a : Addr} {g : Nat} {gs : GenState} {Q : Option Value → Shared → Prop} (hh : A.handled = none)
    (hl : s.heap.NoLimit) (hroom : A.depth < recursionLimit)
    (hg : s.heap.IsGen a g) (hgs : s.gens[g]? = some gs) (hgo : Goes1 prog w A.in1 gs (s.setGen g .running) P)
    (hY : ∀ v l k c p fs s₁, (End.susp v false l k c p fs).quiet = true → P (.susp v false l k c p fs) s₁ → Q (some v) (s₁.setGen g (End.susp v false l k c p fs).genState))
    (hE : ∀ e s₁, P e s₁ → (∃ v l k c p fs, e = .susp v false l k c p fs) ∨ e = .ret (.ok (.ret .none)))
    (hP : ∀ s₁, P (.ret (.ok (.ret .none))) s₁ → ∀ h', (∀ b o, s₁.heap.get? b = some o → h'.get? b = some o) → Q none { s₁.setGen g .finished with heap := h' }) :
    wpAny (model prog w) A (pyNext (.ref a)) Q E s := by
  unfold pyNext
  refine wpAny_bind (wpAny_attempt (wpAny_callSpecial?_slot (name := Str.ofString "__next__") hg.typeIs slot_gen_next
    (wpAny_call_entry slot_gen_next hg.typeIs entry_gen_next ?_ (args_gen_next _))))
  show wpAny _ _ (Builtin.Generator.genWake (.ref a) (.send .none)) _ _ s
  unfold Builtin.Generator.genWake
  refine wpAny_bind (wpAny_holding (wpAny_genNumber hg (wpAny_bind (wpAny_genState hgs ?_))))
  have fin : ∀ (k : GenResult → Sem Fin) (hk : k = fun r => match r with | .yielded v => ret v | _ => k r), True := fun _ _ => trivial
  cases gs with
  | running => exact hgo.elim
  | finished => exact hgo.elim
  | _ =>
    refine wpAny_bind (wpAny_roomToWake hl hroom ?_)
    show wpAny _ _ (.resume g (.send .none) [] _) _ _ s
    refine resumeX hgs hgo (fun e s₁ hq hp => ?_)
    rcases hE e s₁ hp with ⟨v, l, k, c, p, fs, rfl⟩ | rfl
    · exact wpAny_pure ⟨v, rfl, wpAny_pure (hY v l k c p fs s₁ hq hp)⟩
    · show wpAny _ _ (newExc (.type "StopIteration") [] >>= _) _ _ _
      refine wpAny_bind ?_
      simp only [newExc, newTuple]
      refine wpAny_bind (wpAny_newObj_type ?_ (by size_fits))
      refine wpAny_bind (m := firstArgMember _ _) (wpAny_of_eq (a := Value.none) (by first | rfl | (simp only [firstArgMember]; rfl)) ?_)
      refine wpAny_newObj_type ?_ (by size_fits)
      simp only [raiseNew]
      refine wpAny_bind (wpAny_bind (wpAny_handled ?_))
      rw [show A.in1.handled = none from hh]
      refine wpAny_throw ?_
      refine wpAny_bind (wpAny_isInstance (T := "StopIteration") (b := true) ⟨_, Heap.get?_push_size _ rfl, rfl⟩ isSubtype_stop ?_)
      exact wpAny_pure (hP s₁ hp _ fun b o hb => Heap.get?_push_of_some _ (Heap.get?_push_of_some _ hb))
end
end Mine
end
section
open PySem PySem.W PyProof.Rows PySem.Calls PySem.Spec PySem.W.X
namespace Mine
noncomputable def escs : Nat → Bool → List Nat → List (Nat × Str)
  | _, _, [] => []
  | i, true, c :: r => (i, ⟨#[92, c]⟩) :: escs (i + 1) false r
  | i, false, c :: r => if c = 92 then escs (i + 1) true r else (i, ⟨#[c]⟩) :: escs (i + 1) false r
noncomputable def endsOk : Bool → List Nat → Bool
  | b, [] => !b
  | true, _ :: r => endsOk false r
  | false, c :: r => if c = 92 then endsOk true r else endsOk false r
theorem bs_lit : Str.ofString "\\" = ⟨#[92]⟩ := by decide
theorem bs_append (c : Nat) : Str.ofString "\\" ++ (⟨#[c]⟩ : Str) = ⟨#[92, c]⟩ := by rw [bs_lit]; rfl
theorem bs_eq {c : Nat} (h : ((⟨#[c]⟩ : Str) == Str.ofString "\\") = true) : c = 92 := by
  have := eq_of_beq h
  rw [bs_lit] at this
  injection this with e
  simpa using e
theorem bs_ne {c : Nat} (h : ((⟨#[c]⟩ : Str) == Str.ofString "\\") = false) : c ≠ 92 := by
  intro e; subst e; rw [bs_lit] at h; revert h; decide
theorem map_at {m : Str → Option Value} {x : Str} {v : Value} (h : m x = some v) : m = fun y => if y = x then some v else m y := by
  funext y
  by_cases h1 : y = x
  · rw [if_pos h1, h1, h]
  · rw [if_neg h1]
structure Kept (own : List (Addr × Obj)) (hb : Heap) (h : Heap) : Prop where
  own : ∀ p ∈ own, h.get? p.1 = some p.2
  base : ∀ b o, hb.get? b = some o → h.get? b = some o
structure Moves (ad : List Addr) (s s' : Shared) : Prop where
  same : ∃ h' tk, s' = { s with heap := h', toks := tk }
  keep : ∀ b o, b ∉ ad → s.heap.get? b = some o → s'.heap.get? b = some o
theorem Moves.refl (ad : List Addr) (s : Shared) : Moves ad s s := ⟨⟨s.heap, s.toks, rfl⟩, fun _ _ _ e => e⟩
theorem Moves.step {ad : List Addr} {s : Shared} {h h' : Heap} {tk tk' : Nat} (m : Moves ad s { s with heap := h, toks := tk }) (hk : ∀ b o, b ∉ ad → h.get? b = some o → h'.get? b = some o) : Moves ad s { s with heap := h', toks := tk' } :=
  ⟨⟨h', tk', rfl⟩, fun b o hb e => hk b o hb (m.keep b o hb e)⟩
noncomputable def tupObj (i : Nat) (ch : Str) (tk tu : Tok) : Obj := { cls := .type "tuple", data := .seq #[.int i tk, .str ch tu] }
noncomputable def PS (G : List (Addr × Obj) → GenState → Prop) (hb : Heap) (items : List (Nat × Str)) (ad : List Addr) (s₀ : Shared) (e : End) (s' : Shared) : Prop :=
  match items with
  | [] => e = .ret (.ok (.ret .none)) ∧ Moves ad s₀ s'
  | (i, ch) :: _ => ∃ l k c p fs t own tk tu, e = .susp (.ref t) false l k c p fs ∧ s'.heap.get? t = some (tupObj i ch tk tu) ∧ s₀.heap.get? t = none ∧ t ∉ ad ∧
      (∀ q ∈ own, s'.heap.get? q.1 = some q.2 ∧ hb.get? q.1 = none ∧ q.1 ≠ t ∧ (q.1 ∈ ad ∨ s₀.heap.get? q.1 = none)) ∧ Moves ad s₀ s' ∧ G own e.genState
noncomputable def GS (prog : Program) (w : World) (A : Around) (hb : Heap) : List (Nat × Str) → List (Addr × Obj) → GenState → Prop
  | [], own, gs => ∀ s : Shared, Kept own hb s.heap → Goes1 prog w A gs s (PS (fun _ _ => False) hb [] (own.map (·.1)) s)
  | p :: r, own, gs => ∀ s : Shared, Kept own hb s.heap → Goes1 prog w A gs s (PS (GS prog w A hb r) hb (p :: r) (own.map (·.1)) s)
noncomputable def nextG (prog : Program) (w : World) (A : Around) (hb : Heap) (items : List (Nat × Str)) : List (Addr × Obj) → GenState → Prop := match items with
  | [] => fun _ _ => False
  | _ :: r => GS prog w A hb r
theorem GS_iff {prog : Program} {w : World} {A : Around} {hb : Heap} {items : List (Nat × Str)} {own : List (Addr × Obj)} {gs : GenState} :
    GS prog w A hb items own gs ↔ ∀ s : Shared, Kept own hb s.heap → Goes1 prog w A gs s (PS (nextG prog w A hb items) hb items (own.map (·.1)) s) := by
  cases items <;> exact Iff.rfl
structure AdOk (C En It : Addr) (ad : List Addr) (s₀ : Shared) : Prop where
  all : ∀ a, a = C ∨ a = En ∨ a = It → a ∈ ad ∨ s₀.heap.get? a = none
  sub : ∀ a ∈ ad, a = C ∨ a = En ∨ a = It
structure Oth (hb : Heap) (ad : List Addr) (s₀ : Shared) (others : List (Addr × Obj)) : Prop where
  mem : ∀ p ∈ others, s₀.heap.get? p.1 = some p.2 ∧ p.1 ∉ ad ∧ hb.get? p.1 = none
  all : ∀ b o, b ∉ ad → s₀.heap.get? b = some o → (b, o) ∈ others ∨ hb.get? b = some o
theorem Oth.exist {hb : Heap} (ad : List Addr) {s₀ : Shared} (hk : ∀ b o, hb.get? b = some o → s₀.heap.get? b = some o) : ∃ others, Oth hb ad s₀ others := by
  refine ⟨(List.range s₀.heap.objs.size).filterMap fun a => if a ∈ ad ∨ (hb.get? a).isSome = true then none else (s₀.heap.get? a).map fun o => (a, o), ?_, ?_⟩
  · intro p hp
    obtain ⟨a, _, e⟩ := List.mem_filterMap.mp hp
    split at e
    · cases e
    · rename_i hn
      obtain ⟨o, ho, rfl⟩ := Option.map_eq_some_iff.mp e
      refine ⟨ho, fun q => hn (.inl q), ?_⟩
      cases q : hb.get? a with
      | none => rfl
      | some o' => exact absurd (.inr (by rw [q]; rfl)) hn
  · intro b o hb' e
    cases q : hb.get? b with
    | some o' =>
      have := hk b o' q
      rw [e] at this
      exact .inr (by rw [Option.some.inj this])
    | none =>
      refine .inl (List.mem_filterMap.mpr ⟨b, List.mem_range.mpr (Heap.lt_size e), ?_⟩)
      rw [if_neg, e]; rfl
      rintro (h | h)
      · exact hb' h
      · rw [q] at h; cases h
theorem Oth.moves {hb : Heap} {ad : List Addr} {s₀ : Shared} {others : List (Addr × Obj)} {C : Addr} {h : Heap} {m : Str → Option Value} {tk : Nat} (O : Oth hb ad s₀ others) (F : Fr hb C h m) (N : News hb C h others) : Moves ad s₀ { s₀ with heap := h, toks := tk } :=
  ⟨⟨h, tk, rfl⟩, fun b o hb e => (O.all b o hb e).elim (fun q => (N _ q).1) fun q => F.keep _ _ q⟩
theorem Oth.start {hb : Heap} {ad : List Addr} {s₀ : Shared} {others : List (Addr × Obj)} {C : Addr} (O : Oth hb ad s₀ others) (hC : C ∈ ad) : News hb C s₀.heap others :=
  fun p hp => ⟨(O.mem p hp).1, fun q => (O.mem p hp).2.1 (q ▸ hC), (O.mem p hp).2.2⟩
theorem Oth.ne {hb : Heap} {ad : List Addr} {s₀ : Shared} {others : List (Addr × Obj)} {C En It a : Addr} (O : Oth hb ad s₀ others) (had : AdOk C En It ad s₀) (ha : a = C ∨ a = En ∨ a = It) : ∀ p ∈ others, p.1 ≠ a := by
  intro p hp q
  rcases had.all a ha with h1 | h1
  · exact (O.mem p hp).2.1 (q ▸ h1)
  · have := (O.mem p hp).1; rw [q, h1] at this; cases this
section
variable {prog : Program} {w : World} {A : Around} {hb : Heap} {env : Env}
theorem gen_enum_loop {xi xv xe : Str} {pi pv pt : Pos} {x1} {body : List Stmt} {fs : List Frame} {C En It : Addr} {x : Str} {n : Nat} {St : Nat → Heap → Prop}
    (hC : env.locals = C) (hCE : C ≠ En) (hCI : C ≠ It) (hEI : En ≠ It)
    (D : Draws prog w (A.over (.forLoop (.Tuple [.Name xi pi, .Name xv pv] x1 pt) (.ref En) body [] env) fs).in1 It [It] n (fun i v => ∃ c u, x.cps[i]? = some c ∧ v = .str ⟨#[c]⟩ u) St)
    (hh : (A.over (.forLoop (.Tuple [.Name xi pi, .Name xv pv] x1 pt) (.ref En) body [] env) fs).handled = none)
    (hn : n = x.cps.size)
    (turn : ∀ (i : Nat) (b : Bool) (c : Nat) (u tk : Tok) (r : List Nat) (s₀ : Shared) (ad : List Addr) (others : List (Addr × Obj)) (h : Heap) (tk' : Nat) (m : Str → Option Value) (oE oI : Obj), endsOk b (c :: r) = true → AdOk C En It ad s₀ → Oth hb ad s₀ others → Fr hb C h (fun y => if y = xv then some (.str ⟨#[c]⟩ u) else if y = xi then some (.int (i : Nat) tk) else if y = xe then some (.bool b) else m y) → News hb C h ((En, oE) :: (It, oI) :: others) →
      (∀ (s₀' : Shared) (ad' : List Addr) (others' : List (Addr × Obj)) (b' : Bool) (h' : Heap) (tk'' : Nat) (m' : Str → Option Value), endsOk b' r = true → AdOk C En It ad' s₀' → Oth hb ad' s₀' others' → Fr hb C h' m' → m' xe = some (.bool b') → News hb C h' ((En, oE) :: (It, oI) :: others') →
        SegX (model prog w) A (.forLoop (.Tuple [.Name xi pi, .Name xv pv] x1 pt) (.ref En) body [] env) (denote table (.forLoop (.Tuple [.Name xi pi, .Name xv pv] x1 pt) (.ref En) body [] env)) fs { s₀' with heap := h', toks := tk'' } (PS (nextG prog w A hb (escs (i + 1) b' r)) hb (escs (i + 1) b' r) ad' s₀')) →
      SegX (model prog w) A (.forLoop (.Tuple [.Name xi pi, .Name xv pv] x1 pt) (.ref En) body [] env) ((execs body env).wrap (fun f => match f with
              | .next | .cont => .pure (.again (.forLoop (.Tuple [.Name xi pi, .Name xv pv] x1 pt) (.ref En) body [] env))
              | .brk => .pure (.done .next)
              | .ret v => .pure (.done (.ret v))) (fun e => (do noteFrame e env; theTreesLotGoes e : Sem Unit).wrap (fun _ => .raise e) .raise id id) id id) fs { s₀ with heap := h, toks := tk' } (PS (nextG prog w A hb (escs i b (c :: r))) hb (escs i b (c :: r)) ad s₀))
    (fin : ∀ (s₀ : Shared) (ad : List Addr) (others : List (Addr × Obj)) (h : Heap) (tk : Nat) (m : Str → Option Value), Oth hb ad s₀ others → Fr hb C h m → m xe = some (.bool false) → News hb C h others →
      SegX (model prog w) A (.block [] env) (denote table (.block [] env)) fs { s₀ with heap := h, toks := tk } (PS (fun _ _ => False) hb [] ad s₀))
    (hxi : env.kindOf xi = some .local := by rfl) (hxv : env.kindOf xv = some .local := by rfl)
    (hp : (env.scope.kind == .class || (env.scope.kind == .module && env.locals != env.globals)) = false := by rfl) :
    ∀ (r : List Nat) (i : Nat) (b : Bool) (s₀ : Shared) (ad : List Addr) (others : List (Addr × Obj)) (h : Heap) (tk : Nat) (m : Str → Option Value) (old : Value), r = (chs x).drop i → i ≤ n → endsOk b r = true → AdOk C En It ad s₀ → Oth hb ad s₀ others →
      Fr hb C h m → m xe = some (.bool b) → IsEnum h En It i old → St i h → hb.get? En = none → hb.get? It = none → News hb C h others →
      SegX (model prog w) A (.forLoop (.Tuple [.Name xi pi, .Name xv pv] x1 pt) (.ref En) body [] env) (denote table (.forLoop (.Tuple [.Name xi pi, .Name xv pv] x1 pt) (.ref En) body [] env)) fs { s₀ with heap := h, toks := tk } (PS (nextG prog w A hb (escs i b r)) hb (escs i b r) ad s₀) := by
  intro r
  induction r with
  | nil =>
    intro i b s₀ ad others h tk m old hr hi hend had O F hm hE hst hEb hIb N
    have hb0 : b = false := by simpa [endsOk] using hend
    subst hb0
    have hin : i = n := by
      have : (chs x).length ≤ i := by
        have := congrArg List.length hr; simp only [List.length_nil, List.length_drop] at this; omega
      rw [chs_len] at this; rw [hn] at hi ⊢; exact Nat.le_antisymm hi this
    subst hin
    refine sx_forTurn ?_
    refine wpAny_pyNext_enum_endD D hE hst fun h' he' => ?_
    have F' : Fr hb C h' m := ⟨F.ns.at' fun o e => he' C o hCI e, fun b o e => he' b o (fun q => by rw [q, hIb] at e; cases e) (F.keep b o e), F.above⟩
    exact fin s₀ ad others h' _ m O F' hm (fun p hp => ⟨he' _ _ (O.ne had (.inr (.inr rfl)) p hp) (N p hp).1, (N p hp).2⟩)
  | cons c r ih =>
    intro i b s₀ ad others h tk m old hr hi hend had O F hm hE hst hEb hIb N
    have hlt : i < n := by
      have := congrArg List.length hr; simp only [List.length_cons, List.length_drop] at this
      have h2 := chs_len x
      rw [hn]; show i < x.length; omega
    have hci : x.cps[i]? = some c := by
      have h1 : (chs x)[i]? = some c := by
        have h2 : ((chs x).drop i)[0]? = some c := by rw [← hr]; rfl
        rw [List.getElem?_drop] at h2; simpa using h2
      simpa [chs] using h1
    have hr' : r = (chs x).drop (i + 1) := by
      have h2 : ((chs x).drop i).drop 1 = r := by rw [← hr]; rfl
      rw [List.drop_drop] at h2; exact h2.symm
    refine sx_forTurn ?_
    refine wpAny_pyNext_enum_itemD D hE hst hlt hEI (fun q => hEI (List.mem_singleton.mp q)) fun v h₁ tk₁ hv hEo hst₁ ht₁ hz₁ hk₁ => ?_
    obtain ⟨c', u, hc', rfl⟩ := hv
    have : c' = c := by rw [hci] at hc'; exact (Option.some.inj hc').symm
    subst this
    have hCh : C < h.objs.size := F.ns.lt
    have hEh : En < h.objs.size := Heap.lt_size hE
    obtain ⟨oI0, hoI0⟩ := D.live _ _ hst
    have hIh : It < h.objs.size := Heap.lt_size hoI0
    refine wpAny_letOwnedTupleGo_enum hEo fun h₂ he₂ hs₂ => ?_
    replace hs₂ : Heap.SameBut En h₁ h₂ := hs₂
    have ht₂ : h₂.IsTuple h.objs.size #[.int (i : Nat) tk₁, .str ⟨#[c']⟩ u] := ⟨_, (hs₂.2 _ (Nat.ne_of_gt hEh)).trans ht₁, rfl, _, rfl⟩
    have hz₂ : h₂.objs.size = h.objs.size + 1 := hs₂.1.trans hz₁
    refine wpAny_assign_Tuple hh ht₂ rfl rfl fun h₃ hx₃ => ?_
    replace hx₃ : Heap.ExtBut h₂.objs.size h₂ h₃ := hx₃
    have old₃ : ∀ b o, b < h.objs.size → h₂.get? b = some o → h₃.get? b = some o := fun b o hb x => hx₃ b o (by rw [hz₂]; exact Nat.ne_of_lt (Nat.lt_succ_of_lt hb)) x
    have k₃ : ∀ b o, b ≠ En → b ≠ It → h.get? b = some o → h₃.get? b = some o := fun b o h1 h2 e => old₃ b o (Heap.lt_size e) ((hs₂.2 b h1).trans (hk₁ b o h1 h2 e))
    have F₃ : Fr hb C h₃ m := ⟨F.ns.at' fun o e => k₃ C o hCE hCI e, fun b o e => k₃ b o (fun q => by rw [q, hEb] at e; cases e) (fun q => by rw [q, hIb] at e; cases e) (F.keep b o e), F.above⟩
    show wpAny _ _ (do holding [Value.str ⟨#[c']⟩ u] (assign (.Name xi pi) env (.int (i : Nat) tk₁)); do holding [] (assign (.Name xv pv) env (.str ⟨#[c']⟩ u)); pure ()) _ _ _
    subst hC
    refine wpAny_bind (wpAny_holding (wpAny_assign_Name (wpAny_storeName_local hxi F₃.ns (fun h₄ hn₄ hs₄ => ?_) hp)))
    replace hs₄ : Heap.SameBut env.locals h₃ h₄ := hs₄
    refine wpAny_bind (wpAny_holding (wpAny_assign_Name (wpAny_storeName_local hxv hn₄ (fun h₅ hn₅ hs₅ => wpAny_pure ?_) hp)))
    replace hs₅ : Heap.SameBut env.locals h₄ h₅ := hs₅
    have F₅ := (F₃.set hn₄ hs₄).set hn₅ hs₅
    have up : ∀ b o, b ≠ env.locals → b < h.objs.size → h₂.get? b = some o → h₅.get? b = some o := fun b o hbL hb x => hs₅.extBut b o hbL (hs₄.extBut b o hbL (old₃ b o hb x))
    have hE₅ : IsEnum h₅ En It ((i : Int) + 1) (.str ⟨#[c']⟩ u) := up En _ (Ne.symm hCE) hEh he₂
    have hst₂ : St (i + 1) h₂ := D.frame _ _ _ hst₁ fun b hb o e => (hs₂.2 b (fun q => hEI (by rw [← q]; exact List.mem_singleton.mp hb))).trans e
    have hst₅ : St (i + 1) h₅ := D.frame _ _ _ hst₂ fun b hb o e => up b o (by rw [List.mem_singleton.mp hb]; exact Ne.symm hCI) (by rw [List.mem_singleton.mp hb]; exact hIh) e
    obtain ⟨oI, hoI⟩ := D.live _ _ hst₅
    have N₅ : News hb env.locals h₅ [(En, { cls := .type "enumerate", dict := none, data := .fields #[.none, .bool false, .ref It, rawInt ((i : Int) + 1), .none, .str ⟨#[c']⟩ u], slots := #[] }), (It, oI)] := by
      intro p hp
      rcases List.mem_cons.mp hp with rfl | hp
      · exact ⟨hE₅, Ne.symm hCE, hEb⟩
      · rw [List.mem_singleton.mp hp]; exact ⟨hoI, Ne.symm hCI, hIb⟩
    have N₆ : News hb env.locals h₅ others := fun p hp => ⟨hs₅.extBut _ _ (N p hp).2.1 (hs₄.extBut _ _ (N p hp).2.1 (k₃ _ _ (O.ne had (.inr (.inl rfl)) p hp) (O.ne had (.inr (.inr rfl)) p hp) (N p hp).1)), (N p hp).2⟩
    have N₇ := N₅.append N₆
    have e : (fun y => if y = xv then some (Value.str ⟨#[c']⟩ u) else if y = xi then some (Value.int (i : Nat) tk₁) else m y) = fun y => if y = xv then some (Value.str ⟨#[c']⟩ u) else if y = xi then some (Value.int (i : Nat) tk₁) else if y = xe then some (.bool b) else m y := by
      funext y
      by_cases h3 : y = xe
      · rw [h3, hm]; simp
      · simp [h3]
    have F₆ : Fr hb env.locals h₅ (fun y => if y = xv then some (Value.str ⟨#[c']⟩ u) else if y = xi then some (Value.int (i : Nat) tk₁) else if y = xe then some (.bool b) else m y) := by
      rw [← e]; exact F₅
    refine turn i b c' u tk₁ r s₀ ad others h₅ _ m _ oI hend had O F₆ N₇ ?_
    intro s₀' ad' others' b' h' tk'' m' hend' had' O' F' hm' N'
    have hE' : IsEnum h' En It ((i + 1 : Nat) : Int) (.str ⟨#[c']⟩ u) := by
      have : ((i + 1 : Nat) : Int) = (i : Int) + 1 := by push_cast; rfl
      rw [this]; exact (N' _ (.head _)).1
    have hst' : St (i + 1) h' := D.frame _ _ _ hst₅ fun b hb o e => by
      rw [List.mem_singleton.mp hb] at e ⊢
      rw [hoI] at e; cases e
      exact (N' _ (.tail _ (.head _))).1
    exact ih (i + 1) b' s₀' ad' others' h' tk'' m' _ hr' hlt hend' had' O' F' hm' hE' hst' hEb hIb (fun p hp => N' p (.tail _ (.tail _ hp)))
theorem ps_yield {i : Nat} {ch : Str} {rest : List (Nat × Str)} {ad : List Addr} {s₀ : Shared} {C En It t : Addr} {oE oI : Obj} {others : List (Addr × Obj)} {h : Heap} {m : Str → Option Value} {l : List Value} {k : Resume → Sem PySem.Fin} {c : Code} {p : Pos} {fs : List Frame} {tk tu : Tok} {tk' : Nat}
    (O : Oth hb ad s₀ others) (had : AdOk C En It ad s₀) (F : Fr hb C h m) (N : News hb C h ((t, tupObj i ch tk tu) :: (En, oE) :: (It, oI) :: others)) (lt1 : En < t) (lt2 : It < t) (lt3 : ∀ p ∈ others, p.1 < t)
    (res : ∀ s'' others'', AdOk C En It [C, En, It] s'' → Oth hb [C, En, It] s'' others'' → Fr hb C s''.heap m → News hb C s''.heap ((En, oE) :: (It, oI) :: others'') →
      SegX (model prog w) A c (k (.send .none)) fs s'' (PS (nextG prog w A hb rest) hb rest [C, En, It] s'')) :
    PS (nextG prog w A hb ((i, ch) :: rest)) hb ((i, ch) :: rest) ad s₀ (.susp (.ref t) false l k c p fs) { s₀ with heap := h, toks := tk' } := by
  obtain ⟨oC, es, ep, hoC, hr⟩ := F.ns
  have htC : t ≠ C := (N _ (.head _)).2.1
  have hCb : hb.get? C = none := by
    cases q : hb.get? C with
    | none => rfl
    | some o => exact absurd (Heap.lt_size q) (Nat.not_lt.mpr F.above)
  have htad : t ∉ ad := fun q => by
    rcases had.sub t q with e | e | e
    · exact htC e
    · exact Nat.lt_irrefl _ (e ▸ lt1)
    · exact Nat.lt_irrefl _ (e ▸ lt2)
  have Nt : ∀ q ∈ ((En, oE) :: (It, oI) :: others), h.get? q.1 = some q.2 ∧ q.1 ≠ C ∧ hb.get? q.1 = none := fun q hq => N q (.tail _ hq)
  refine ⟨l, k, c, p, fs, t, [(C, oC), (En, oE), (It, oI)], tk, tu, rfl, (N _ (.head _)).1, ?_, htad, ?_, O.moves F (fun q hq => Nt q (.tail _ (.tail _ hq))), ?_⟩
  · cases q : s₀.heap.get? t with
    | none => rfl
    | some o =>
      rcases O.all t o htad q with z | z
      · exact absurd (lt3 _ z) (Nat.lt_irrefl _)
      · rw [(N _ (.head _)).2.2] at z; cases z
  · intro q hq
    rcases List.mem_cons.mp hq with rfl | hq
    · exact ⟨hoC, hCb, Ne.symm htC, had.all _ (.inl rfl)⟩
    · rcases List.mem_cons.mp hq with rfl | hq
      · exact ⟨(Nt _ (.head _)).1, (Nt _ (.head _)).2.2, Nat.ne_of_lt lt1, had.all _ (.inr (.inl rfl))⟩
      · rw [List.mem_singleton.mp hq]
        exact ⟨(Nt _ (.tail _ (.head _))).1, (Nt _ (.tail _ (.head _))).2.2, Nat.ne_of_lt lt2, had.all _ (.inr (.inr rfl))⟩
  · show GS prog w A hb rest _ _
    rw [GS_iff]
    intro s'' hK
    show SegX (model prog w) A c (k (.send .none)) fs s'' _
    obtain ⟨others'', O''⟩ := Oth.exist [C, En, It] hK.base
    have h1 := hK.own _ (.head _)
    have h2 := hK.own _ (.tail _ (.head _))
    have h3 := hK.own _ (.tail _ (.tail _ (.head _)))
    refine res s'' others'' ⟨fun a ha => .inl (by rcases ha with rfl | rfl | rfl <;> simp), fun a ha => by simpa using ha⟩ O'' ⟨⟨oC, es, ep, h1, hr⟩, hK.base, F.above⟩ ?_
    intro q hq
    rcases List.mem_cons.mp hq with rfl | hq
    · exact ⟨h2, (Nt _ (.head _)).2⟩
    · rcases List.mem_cons.mp hq with rfl | hq
      · exact ⟨h3, (Nt _ (.tail _ (.head _))).2⟩
      · exact O''.start (.head _) q hq
theorem lts_of_all {d : Addr} {l : List (Addr × Obj)} (h : AllLt d l) : ∀ p ∈ l, p.1 < d := by
  induction l with
  | nil => intro p hp; cases hp
  | cons q r ih =>
    intro p hp
    rcases List.mem_cons.mp hp with e | hp
    · rw [e]; exact h.1
    · exact ih h.2 p hp
end
end Mine
end
section
open PySem PySem.W PyProof.Rows PySem.Calls PySem.Spec PySem.W.X
namespace Mine
noncomputable def genObj (g : Nat) (nm qn : Str) (t u : Tok) : Obj := { cls := .type "generator", data := .fields #[.int g 0, .str nm t, .str qn u] }
section
variable {prog : Program} {w : World} {A A₀ : Around} {s : Shared} {K : Frag} {L : Addr} {h₀ base : Heap} {m mg mb : Str → Option Value} {news : List (Addr × Obj)} {p : Program} {loose : List Str} {mean : ExcName → Option Value}
theorem code_gen {R : Result → Shared → Prop} {name qual : Str} {params : Arguments} {body : List Stmt} {scope : Scope} {dV kV doc pm cdv ct oc : Value} {an od : Option Addr} {osl : Array (Option Value)} {f : Addr} {args : Args} {binds : List (Str × Value)}
    (F : Fr h₀ L s.heap m) (X₀ : K.In h₀) (N : News h₀ L s.heap news) (T : Top p loose mean mg mb h₀)
    (ho : K.lookup f = some ⟨oc, od, .func (fnOf name qual params body scope dV kV doc pm an cdv ct), osl⟩) (hcd : codeIn K cdv qual = true) (hroom : A.depth < recursionLimit)
    (hbind : BindsTo s (fnOf name qual params body scope dV kV doc pm an cdv ct) args binds) (hloc : ∀ y ∈ binds, scope.names.lookup y.1 = some .local)
    (h : ∀ C G h₁ oC t u tk, Fr h₀ L h₁ m → h₁.Ns C (fun y => binds.reverse.lookup y) → h₁.get? C = some oC → News h₀ L h₁ ((G, genObj s.gens.size name qual t u) :: (C, oC) :: news) → C < G → (∀ p ∈ news, p.1 < C) → h₀.objs.size ≤ C →
      R (.ok (.ret (.ref G))) { s with heap := h₁, gens := s.gens.push (.fresh (.func body (envOf qual scope C f cdv))), toks := tk })
    (hco : scope.isCoroutine = false) (hgen : scope.isGenerator = true) (hk : scope.kind = .function)
    (hcell : ∀ x ∈ scope.names, x.2 ≠ .cell) : codeAny (model prog w) A (.call (.ref f) args) R s := by
  have X := X₀.keeps F.keep
  refine codeAny_call_generator hroom (X _ _ ho) rfl hco hgen rfl (codeRec_of X hcd) (hbind _ _ _ _ ?_)
  refine wpAny_newFunctionEnv hcell hloc (fun h' hns hsb => ⟨(T.nolimit.keeps F.keep).fresh _ hsb, ?_⟩) hk
  obtain ⟨oC, es, ep, hoC, hr⟩ := id hns
  have hz : h'.objs.size = s.heap.objs.size + 1 := by rw [hsb.1, Heap.size_push]
  have keep : ∀ b o, s.heap.get? b = some o → h'.get? b = some o := fun b o e => hsb.extBut b o (Nat.ne_of_lt (Heap.lt_size e)) (Heap.get?_push_of_some _ e)
  have keep2 : ∀ (q : Obj) b o, s.heap.get? b = some o → (h'.push q).get? b = some o := fun q b o e => Heap.get?_push_of_some _ (keep b o e)
  have fresh0 : ∀ a, s.heap.objs.size ≤ a → h₀.get? a = none := fun a ha => by
    cases q : h₀.get? a with
    | none => rfl
    | some o => exact absurd (Heap.lt_size (F.keep _ _ q)) (Nat.not_lt.mpr ha)
  have hL : L < s.heap.objs.size := F.ns.lt
  refine h s.heap.objs.size h'.objs.size _ oC (s.toks + binds.length) (s.toks + binds.length + 1) _ ⟨F.ns.at' fun o e => keep2 _ L o e, fun b o e => keep2 _ b o (F.keep b o e), F.above⟩ ?_ (Heap.get?_push_of_some _ hoC) ?_ (by rw [hz]; exact Nat.lt_succ_self _) (fun q hq => Heap.lt_size (N q hq).1) (Nat.le_trans F.above (Nat.le_of_lt hL))
  · exact hns.at' fun o e => Heap.get?_push_of_some _ e
  · intro q hq
    rcases List.mem_cons.mp hq with rfl | hq
    · exact ⟨Heap.get?_push_size _ rfl, by rw [hz]; exact Nat.ne_of_gt (Nat.lt_succ_of_lt hL), fresh0 _ (by rw [hz]; exact Nat.le_succ _)⟩
    · rcases List.mem_cons.mp hq with rfl | hq
      · exact ⟨Heap.get?_push_of_some _ hoC, Nat.ne_of_gt hL, fresh0 _ (Nat.le_refl _)⟩
      · exact ⟨keep2 _ _ _ (N q hq).1, (N q hq).2⟩
theorem enum_K {E : Value → Shared → Prop} {x : Str} {t : Tok} {Q : Value → Shared → Prop} (F : Fr h₀ L s.heap m) (N : News h₀ L s.heap news)
    (h : ∀ En It h', Fr h₀ L h' m → News h₀ L h' news → IsEnum h' En It 0 .none → h'.IsStrIter It (strIterType x) x t 0 → L ≠ En → L ≠ It → En ≠ It → h₀.get? En = none → h₀.get? It = none → s.heap.get? En = none → s.heap.get? It = none →
      (∀ b o, s.heap.get? b = some o → h'.get? b = some o) → Q (.ref En) { s with heap := h' }) :
    wpAny (model prog w) A (call (.type "enumerate") [.str x t]) Q E s := by
  have hL : L < s.heap.objs.size := F.ns.lt
  have new : ∀ a, s.heap.objs.size ≤ a → s.heap.get? a = none := fun a ha => by
    cases q : s.heap.get? a with
    | none => rfl
    | some o => exact absurd (Heap.lt_size q) (Nat.not_lt.mpr ha)
  have fresh0 : ∀ a, s.heap.objs.size ≤ a → h₀.get? a = none := fun a ha => by
    cases q : h₀.get? a with
    | none => rfl
    | some o => exact absurd (Heap.lt_size (F.keep _ _ q)) (Nat.not_lt.mpr ha)
  refine call_enumerate_str fun h' hE hS hz hk => h _ _ h' ⟨F.ns.at' fun o e => hk L o e, fun b o e => hk b o (F.keep b o e), F.above⟩ (fun p hp => ⟨hk _ _ (N p hp).1, (N p hp).2⟩) hE hS (Nat.ne_of_lt (Nat.lt_succ_of_lt hL)) (Nat.ne_of_lt hL) (Nat.ne_of_gt (Nat.lt_succ_self _)) (fresh0 _ (Nat.le_succ _)) (fresh0 _ (Nat.le_refl _)) (new _ (Nat.le_succ _)) (new _ (Nat.le_refl _)) hk
theorem draws_str (hh : A.handled = none) (It : Addr) (x : Str) (t : Tok) : Draws prog w A It [It] x.cps.size (fun i v => ∃ c u, x.cps[i]? = some c ∧ v = .str ⟨#[c]⟩ u) (fun i h => h.IsStrIter It (strIterType x) x t i) := by
  cases ha : x.cps.all (· < 128)
  · have e : strIterType x = "str_iterator" := by simp only [strIterType, ha, Bool.false_eq_true, if_false]
    rw [e]; exact Draws.strWide hh It x t
  · have e : strIterType x = "str_ascii_iterator" := by simp only [strIterType, ha, if_true]
    rw [e]; exact Draws.strAscii hh It x t
end
end Mine
end
section
open PySem PySem.W PyProof.Rows PySem.Calls PySem.Spec PySem.W.X
namespace Mine
local macro_rules | `(tactic| walk_at "call type:enumerate") => `(tactic| (k_here; k_dflt (refine' enum_K ?k1 ?k2 ?_; (case k1 => k_asm); (case k2 => k_asm); k_whole); intro En It h' F' N' hE' hS' n1 n2 n3 n4 n5 n6 n7 hk'))
theorem iterCall (w : World) (x : Str) (t : Tok) (hx : x.length ≤ 1000) (hend : endsOk false (chs x) = true) : ∀ (mean : ExcName → Option Value) (mg mb : Str → Option Value) (dp un : Nat) (gd : Option (List Code)) (cn : Str) (cs : Scope) (a : Addr) (ccd : Value) (cl : List (Str × Addr)) (outer : List Env) (A₀ : Around) (base h₀ : Heap) (L : Addr) (m : Str → Option Value) (news : List (Addr × Obj)) (s : Shared) (Q E : Value → Shared → Prop),
    Below A₀ base outer h₀ → Fr h₀ L s.heap m → (KK w).In h₀ → News h₀ L s.heap news → TT mean mg mb h₀ → cs.kind = .function → dp + 2 < recursionLimit → un + 32 < cLine →
    (∀ (G C : Addr) (oC : Obj) (nm qn : Str) (u1 u2 : Tok) (h' : Heap) (gs : GenState) (tk' : Nat), Fr h₀ L h' m → News h₀ L h' ((G, genObj s.gens.size nm qn u1 u2) :: (C, oC) :: news) → C < G → (∀ p ∈ news, p.1 < C) → gs.bare = true →
      GS PR w (ktrTop dp un gd cn cs L a ccd cl outer).in1 h₀ (escs 0 false (chs x)) [(C, oC)] gs → Q (.ref G) { s with heap := h', gens := s.gens.push gs, toks := tk' }) →
    wpAny (model PR w) (ktrTop dp un gd cn cs L a ccd cl outer) (call (.ref 28) [.str x t]) Q E s := by
  dsimp only [TT, KK, PR]
  w_top off
  k_fill
  intro mean mg mb dp un gd cn cs a ccd cl outer A₀ base h₀ L m news s Q E B F X N T hk hd hu hret
  refine wpAny_call ?_
  k_dflt (refine' code_gen ?k2 ?k3 ?k4 ?k5 ?k6 ?k7 ?k8 ?k9 ?kB ?_ ?c2 ?c3 ?c4 ?c5; (case k2 => k_asm); (case k3 => k_asm); (case k4 => k_asm); (case k5 => k_asm); (case k6 => k_is); (case k7 => k_is); (case k8 => ktr_room); (case k9 => exact BindsTo.of_eq rfl); (case c5 => decide); (case kB => exact locs rfl); (case c2 => exact rfl); (case c3 => exact rfl); (case c4 => exact rfl); k_whole)
  intro C G h₁ oC u1 u2 tk F₁ hns hoC N₁ hCG hlt hle
  refine hret G C oC _ _ u1 u2 h₁ _ _ F₁ N₁ hCG hlt rfl ?_
  clear hret
  rw [GS_iff]
  intro s₁ hK
  obtain ⟨oC', es, ep, hoC', hr⟩ := id hns
  have : oC' = oC := by rw [hoC] at hoC'; exact (Option.some.inj hoC').symm
  subst this
  have FG : Fr h₀ C s₁.heap _ := ⟨⟨oC', es, ep, hK.own _ (.head _), hr⟩, hK.base, hle⟩
  obtain ⟨others, O⟩ := Oth.exist [C] hK.base
  have NG := O.start (C := C) (.head _)
  clear F N F₁ N₁ hlt
  show SegX _ _ _ _ _ _ _
  refine sx_func ?_
  refine sx_cons (sx_stmt ?_)
  k_steps
  dsimp only
  refine sx_cons (sx_stmt ?_)
  k_steps
  dsimp only
  refine sx_cons (sx_For ?_)
  k_steps
  rename_i N' En It h₂ F₂ N₂ hE hS n1 n2 n3 n4 n5 n6 n7 hk₂
  refine wpAny_pyIter_enum hE ?_
  intro p
  have new : ∀ a, a ≠ C → h₀.get? a = none → _ → s₁.heap.get? a = none := fun a h1 h2 (h3 : Heap.get? _ a = none) => by
    cases q : s₁.heap.get? a with
    | none => rfl
    | some o =>
      rcases O.all a o (fun z => h1 (List.mem_singleton.mp z)) q with z | z
      · have := (N' _ z).1
        rw [h3] at this; cases this
      · rw [h2] at z; cases z
  have had : AdOk C En It [C] s₁ := ⟨fun a ha => by
      rcases ha with rfl | rfl | rfl
      · exact .inl (.head _)
      · exact .inr (new _ (Ne.symm n1) n4 n6)
      · exact .inr (new _ (Ne.symm n2) n5 n7), fun a ha => .inl (List.mem_singleton.mp ha)⟩
  refine' gen_enum_loop (hb := h₀) (x := x) (xe := Str.ofString "escape") (C := C) (En := En) (It := It) (n := x.cps.size) (St := fun i h => h.IsStrIter It (strIterType x) x t i) ?hC n1 n2 n3 ?D ?hh rfl ?turn ?fin ?a1 ?a2 ?a3 (chs x) 0 false s₁ [C] others h₂ _ _ .none rfl (Nat.zero_le _) hend had O F₂ rfl hE hS n4 n5 N₂
  (case hC => exact rfl)
  (case D => exact draws_str rfl It x t)
  (case hh => exact rfl)
  (case a1 => exact rfl)
  (case a2 => exact rfl)
  (case a3 => exact rfl)
  case turn =>
    clear hE hS N₂ F₂ hk₂ n6 n7 O had hK hend
    intro i b c u tk r s₀ ad others h tk' m oE oI hend had O F N IH
    cases b with
    | true =>
      refine sx_cons (sx_If ?_)
      k_steps
      refine sx_cons (sx_Yield rfl rfl rfl ?_)
      k_steps
      (with_reducible rename (_ ∧ _ ∧ AllLt _ _) => l1)
      (with_reducible rename (_ = Sem.wrap _ _ _ _ _) => hk')
      (with_reducible rename News _ _ _ _ => N9)
      rw [bs_append] at N9
      refine' ps_yield (ch := ⟨#[92, c]⟩) O had ?F N9 l1.1 l1.2.1 (lts_of_all l1.2.2) ?res
      (case F => k_asm)
      case res =>
        intro s'' others'' had'' O'' F'' N''
        rw [hk']
        refine sx_cons (sx_stmt ?_)
        k_steps
        dsimp only
        refine sx_nil ?_
        refine s_again _ _ _ _ _ _ _ _ rfl ?_
        exact IH s'' [C, En, It] others'' false _ _ _ hend had'' O'' (by k_asm) rfl (by k_asm)
    | false =>
      refine sx_cons (sx_If ?_)
      k_steps
      refine sx_cons (sx_If ?_)
      k_steps
      · (with_reducible rename (_ = true) => hc)
        have hc' := bs_eq hc
        have e1 : escs i false (c :: r) = escs (i + 1) true r := if_pos hc'
        have e2 : endsOk true r = true := by
          have h9 : (if c = 92 then endsOk true r else endsOk false r) = true := hend
          rw [if_pos hc'] at h9; exact h9
        rw [e1]
        refine sx_cons (sx_stmt ?_)
        k_steps
        dsimp only
        refine sx_nil ?_
        refine sx_nil ?_
        refine sx_nil ?_
        refine s_again _ _ _ _ _ _ _ _ rfl ?_
        exact IH s₀ ad others true _ _ _ e2 had O (by k_asm) rfl (by k_asm)
      · (with_reducible rename ((_ == _) = false) => hc)
        have hc' := bs_ne hc
        have e1 : escs i false (c :: r) = (i, ⟨#[c]⟩) :: escs (i + 1) false r := if_neg hc'
        have e2 : endsOk false r = true := by
          have h9 : (if c = 92 then endsOk true r else endsOk false r) = true := hend
          rw [if_neg hc'] at h9; exact h9
        refine sx_cons (sx_Yield rfl rfl rfl ?_)
        k_steps
        rw [e1]
        (with_reducible rename (_ ∧ _ ∧ AllLt _ _) => l1)
        (with_reducible rename (_ = Sem.wrap _ _ _ _ _) => hk')
        refine' ps_yield (ch := ⟨#[c]⟩) O had ?F ?N l1.1 l1.2.1 (lts_of_all l1.2.2) ?res
        (case F => k_asm)
        (case N => k_asm)
        case res =>
          intro s'' others'' had'' O'' F'' N''
          rw [hk']
          refine sx_nil ?_
          refine sx_nil ?_
          refine sx_nil ?_
          refine s_again _ _ _ _ _ _ _ _ rfl ?_
          exact IH s'' [C, En, It] others'' false _ s''.toks _ e2 had'' O'' F'' rfl N''
  case fin =>
    clear hE hS N₂ F₂ hk₂ n6 n7 O had hK
    intro s₀ ad others h tk m O F hm N
    rw [map_at hm] at F
    refine s_pop _ _ _ _ _ _ _ (.ok .next) _ rfl _ _ _ _ _ _ _ ?_
    show SegX _ _ _ (Sem.wrap _ _ _ _ (execs _ _)) _ _ _
    refine sx_cons (sx_If ?_)
    k_steps
    refine sx_nil ?_
    refine s_end _ _ _ _ _ _ (.ok (.ret .none)) _ rfl ?_
    exact ⟨rfl, O.moves (by k_asm) (by k_asm)⟩
end Mine
end
section
open PySem PySem.W PyProof.Rows PySem.Calls PySem.Spec PySem.W.X
namespace Mine
section
variable {prog : Program} {w : World} {A : Around} {s : Shared} {env : Env} {h₀ : Heap} {L G C : Addr} {rest : List (Addr × Obj)}
noncomputable def GPost (h₀ : Heap) (L : Addr) (tail : List (Addr × Obj)) (adr : List Addr) (J : (Str → Option Value) → List (Addr × Obj) → Prop) (s : Shared) (g : Array GenState) (R : Result → Shared → Prop) (f : Flow) (s₂ : Shared) : Prop :=
  match f with
  | .ret v => R (.ok (.ret v)) s₂
  | .brk => R (.ok .next) s₂
  | _ => ∃ h' tk' m' led, s₂ = { s with heap := h', gens := g, toks := tk' } ∧ Fr h₀ L h' m' ∧ News h₀ L h' (led ++ tail) ∧ led.map (·.1) = adr ∧ J m' led
theorem gpost_next {tail news' led : List (Addr × Obj)} {adr : List Addr} {J : (Str → Option Value) → List (Addr × Obj) → Prop} {g : Array GenState} {R : Result → Shared → Prop} {h' : Heap} {tk' : Nat} {m' : Str → Option Value}
    (F : Fr h₀ L h' m') (N : News h₀ L h' news') (hs : ∀ p ∈ led ++ tail, p ∈ news') (hl : led.map (·.1) = adr) (hJ : J m' led) : GPost h₀ L tail adr J s g R .next { s with heap := h', gens := g, toks := tk' } :=
  ⟨h', tk', m', led, rfl, F, fun p hp => N p (hs p hp), hl, hJ⟩
theorem gpost_one {D : Addr} {o : Obj} {tail : List (Addr × Obj)} {adr : List Addr} {J : (Str → Option Value) → List (Addr × Obj) → Prop} {g : Array GenState} {R : Result → Shared → Prop} {h' : Heap} {tk' : Nat} {m' : Str → Option Value}
    (F : Fr h₀ L h' m') (N : News h₀ L h' ((D, o) :: tail)) (hl : [D] = adr) (hJ : J m' [(D, o)]) : GPost h₀ L tail adr J s g R .next { s with heap := h', gens := g, toks := tk' } :=
  ⟨h', tk', m', [(D, o)], rfl, F, N, hl, hJ⟩
theorem letGen {E : Value → Shared → Prop} {target : Expr} {g : Nat} {nm qn : Str} {u1 u2 : Tok} {v : Value} {Q : Unit → Shared → Prop} (hG : s.heap.get? G = some (genObj g nm qn u1 u2)) (h : Q () s) :
    wpAny (model prog w) A (letOwnedTupleGo target (.ref G) v) Q E s := by
  unfold letOwnedTupleGo
  split
  · cases v with
    | ref a =>
      refine wpAny_bind (wpAny_load hG ?_)
      exact wpAny_pure h
    | _ => exact wpAny_pure h
  · cases v with
    | ref a =>
      refine wpAny_bind (wpAny_load hG ?_)
      exact wpAny_pure h
    | _ => exact wpAny_pure h
  · exact wpAny_pure h
theorem allBare_set {gs : Array GenState} {x : GenState} (h : AllBare gs) (hx : x.bare = true) (g : Nat) : AllBare (gs.setIfInBounds g x) := by
  intro y hy
  rcases Array.mem_or_eq_of_mem_setIfInBounds hy with q | q
  · exact h y q
  · rw [q]; exact hx
theorem allBare_push {gs : Array GenState} {x : GenState} (h : AllBare gs) (hx : x.bare = true) : AllBare (gs.push x) := by
  intro y hy
  rcases Array.mem_push.mp hy with q | q
  · exact h y q
  · rw [q]; exact hx
theorem setGen_setGen (s s₁ : Shared) (g : Nat) (x : GenState) {h : Heap} {tk : Nat} (e : s₁ = { s.setGen g .running with heap := h, toks := tk }) : s₁.setGen g x = { s with heap := h, gens := s.gens.setIfInBounds g x, toks := tk } := by
  subst e
  simp [Shared.setGen]
inductive GI (prog : Program) (w : World) (A : Around) (L : Addr) (h₀ : Heap) (G : Addr) (g₀ : Nat) (nm qn : Str) (u1 u2 : Tok) (rest led₀ : List (Addr × Obj)) (items : List (Nat × Str)) (J : Nat → (Str → Option Value) → List (Addr × Obj) → Prop) (s : Shared) (k : Nat) (s' : Shared) : Prop
  | mk (j : Nat) (h : Heap) (g : Array GenState) (tk : Nat) (m : Str → Option Value) (own led : List (Addr × Obj)) (gs : GenState) (e : s' = { s with heap := h, gens := g, toks := tk }) (F : Fr h₀ L h m) (N : News h₀ L h (led ++ (own ++ (G, genObj g₀ nm qn u1 u2) :: rest)))
      (hoff : ∀ p ∈ led, ∀ q ∈ (own ++ (G, genObj g₀ nm qn u1 u2) :: rest), q.1 ≠ p.1) (hown : ∀ q ∈ own, q.1 ≠ G ∧ ∀ p ∈ rest, p.1 ≠ q.1) (hg : AllBare g) (hgs : g[g₀]? = some gs) (hGS : GS prog w A.in1 h₀ (items.drop j) own gs) (hJ : J j m led) (hled : led.map (·.1) = led₀.map (·.1)) (hj : j ≤ items.length) (hk : k = items.length + 1 - j) : GI prog w A L h₀ G g₀ nm qn u1 u2 rest led₀ items J s k s'
theorem for_gen {xi xv : Str} {pi pv pt : Pos} {x1} {body : List Stmt} {R : Result → Shared → Prop} {items : List (Nat × Str)} {g₀ : Nat} {nm qn : Str} {u1 u2 : Tok} {own₀ led₀ : List (Addr × Obj)} {m₀ : Str → Option Value} {gs₀ : GenState}
    (J₀ : (Str → Option Value) → Nat → (Str → Option Value) → List (Addr × Obj) → Prop)
    (hL : env.locals = L) (hh : A.handled = none) (hroom : A.depth < recursionLimit) (hlim : h₀.NoLimit)
    (F : Fr h₀ L s.heap m₀) (N : News h₀ L s.heap (led₀ ++ (own₀ ++ (G, genObj g₀ nm qn u1 u2) :: rest)))
    (hoff : ∀ p ∈ led₀, ∀ q ∈ (own₀ ++ (G, genObj g₀ nm qn u1 u2) :: rest), q.1 ≠ p.1) (hown : ∀ q ∈ own₀, q.1 ≠ G ∧ ∀ p ∈ rest, p.1 ≠ q.1)
    (hg : AllBare s.gens) (hgs : s.gens[g₀]? = some gs₀) (hGS : GS prog w A.in1 h₀ items own₀ gs₀) (h0 : J₀ m₀ 0 m₀ led₀)
    (turn : ∀ (j i : Nat) (ch : Str) (tk tu : Tok) (m₁ : Str → Option Value) (led tail : List (Addr × Obj)) (h : Heap) (g : Array GenState) (tk' : Nat), items[j]? = some (i, ch) → J₀ m₀ j m₁ led → led.map (·.1) = led₀.map (·.1) → (∀ p ∈ led, ∀ q ∈ tail, q.1 ≠ p.1) → (∀ p ∈ rest, p ∈ tail) → AllBare g →
      Fr h₀ L h (fun y => if y = xv then some (.str ch tu) else if y = xi then some (.int (i : Nat) tk) else m₁ y) → News h₀ L h (led ++ tail) →
      wpAny (model prog w) A (execs body env) (GPost h₀ L tail (led₀.map (·.1)) (J₀ m₀ (j + 1)) s g R) (fun _ _ => False) { s with heap := h, gens := g, toks := tk' })
    (done : ∀ (m₁ : Str → Option Value) (led : List (Addr × Obj)) (h : Heap) (g : Array GenState) (tk : Nat), J₀ m₀ items.length m₁ led → led.map (·.1) = led₀.map (·.1) → AllBare g → Fr h₀ L h m₁ → News h₀ L h (led ++ rest) → R (.ok .next) { s with heap := h, gens := g, toks := tk })
    (hxi : env.kindOf xi = some .local := by rfl) (hxv : env.kindOf xv = some .local := by rfl)
    (hp : (env.scope.kind == .class || (env.scope.kind == .module && env.locals != env.globals)) = false := by rfl) :
    codeAny (model prog w) A (.forLoop (.Tuple [.Name xi pi, .Name xv pv] x1 pt) (.ref G) body [] env) R s := by
  subst hL
  generalize J₀ m₀ = J at h0 turn done
  refine codeAny_forLoop_any (fun k s' => GI prog w A env.locals h₀ G g₀ nm qn u1 u2 rest led₀ items J s k s') ?_ (items.length + 1)
    ⟨0, s.heap, s.gens, s.toks, m₀, own₀, led₀, gs₀, rfl, F, N, hoff, hown, hg, hgs, hGS, h0, rfl, Nat.zero_le _, rfl⟩
  rintro k s' ⟨j, h, g, tk, m, own, led, gs, rfl, F, N, hoff, hown, hg, hgs, hGS, hJ, hled, hj, rfl⟩
  have hGm : (G, genObj g₀ nm qn u1 u2) ∈ (led ++ (own ++ (G, genObj g₀ nm qn u1 u2) :: rest)) := List.mem_append.mpr (.inr (List.mem_append.mpr (.inr (.head _))))
  have hGh := (N _ hGm).1
  have hIs : h.IsGen G g₀ := ⟨_, _, _, hGh, rfl, rfl, rfl⟩
  have hK : Kept own h₀ h := ⟨fun p hp => (N p (List.mem_append.mpr (.inr (List.mem_append.mpr (.inl hp))))).1, F.keep⟩
  have hLown : ∀ q ∈ own, q.1 ≠ env.locals := fun q hq => (N q (List.mem_append.mpr (.inr (List.mem_append.mpr (.inl hq))))).2.1
  have hbown : ∀ q ∈ own, h₀.get? q.1 = none := fun q hq => (N q (List.mem_append.mpr (.inr (List.mem_append.mpr (.inl hq))))).2.2
  have nin : ∀ b, (∀ q ∈ own, q.1 ≠ b) → b ∉ own.map (·.1) := fun b hb q => by
    obtain ⟨z, hz, e⟩ := List.mem_map.mp q
    exact hb z hz e
  rw [GS_iff] at hGS
  have hgo := hGS (({ s with heap := h, gens := g, toks := tk } : Shared).setGen g₀ .running) hK
  -- what the moves keep
  have kept : ∀ s₁ : Shared, Moves (own.map (·.1)) (({ s with heap := h, gens := g, toks := tk } : Shared).setGen g₀ .running) s₁ →
      Fr h₀ env.locals s₁.heap m ∧ News h₀ env.locals s₁.heap (led ++ (G, genObj g₀ nm qn u1 u2) :: rest) := by
    intro s₁ mv
    refine ⟨⟨F.ns.at' fun o e => mv.keep _ o (nin _ hLown) e, fun b o e => mv.keep b o (nin _ fun q hq z => by rw [← z, hbown q hq] at e; cases e) (F.keep b o e), F.above⟩, ?_⟩
    intro p hp
    rcases List.mem_append.mp hp with hp | hp
    · have z := N p (List.mem_append.mpr (.inl hp))
      exact ⟨mv.keep _ _ (nin _ fun q hq => hoff p hp q (List.mem_append.mpr (.inl hq))) z.1, z.2⟩
    · have z := N p (List.mem_append.mpr (.inr (List.mem_append.mpr (.inr hp))))
      refine ⟨mv.keep _ _ (nin _ fun q hq => ?_) z.1, z.2⟩
      rcases List.mem_cons.mp hp with rfl | hp
      · exact (hown q hq).1
      · exact Ne.symm ((hown q hq).2 p hp)
  refine pyNextX hh (hlim.keeps F.keep) hroom hIs hgs hgo ?_ ?_ ?_
  · -- a yield
    intro v l k c p fs s₁ hq hP
    cases hd : items.drop j with
    | nil => rw [hd] at hP; exact absurd hP.1 (by simp)
    | cons it r =>
      obtain ⟨i, ch⟩ := it
      have hit : items[j]? = some (i, ch) := by
        have : (items.drop j)[0]? = some (i, ch) := by rw [hd]; rfl
        rw [List.getElem?_drop] at this; simpa using this
      have hdr : items.drop (j + 1) = r := by
        have : (items.drop j).drop 1 = r := by rw [hd]; rfl
        rw [List.drop_drop] at this; exact this
      have hlt : j < items.length := (List.getElem?_eq_some_iff.mp hit).1
      rw [hd] at hP
      obtain ⟨l', k', c', p', fs', t, own', tk1, tu, he, ht, hnew, htad, hq', mv, hG'⟩ := hP
      injection he with e1 e2 e3 e4 e5 e6 e7
      subst e1 e3 e4 e5 e6 e7
      obtain ⟨F₁, N₁⟩ := kept s₁ mv
      obtain ⟨h₁, tk₁, es⟩ := mv.same
      have est := setGen_setGen ({ s with heap := h, gens := g, toks := tk } : Shared) s₁ g₀ (End.susp (.ref t) false l k c p fs).genState es
      rw [est]
      have hh₁ : s₁.heap = h₁ := by rw [es]
      rw [hh₁] at F₁ N₁ ht hq'
      have hnewh : h.get? t = none := hnew
      have ne_t : ∀ b o, h.get? b = some o → b ≠ t := fun b o e q => by rw [q, hnewh] at e; cases e
      have hbare : (End.susp (.ref t) false l k c p fs).genState.bare = true := End.bare_of_quiet hq
      have hGh₁ : h₁.get? G = some (genObj g₀ nm qn u1 u2) := (N₁ _ (List.mem_append.mpr (.inr (.head _)))).1
      refine letGen hGh₁ ?_
      refine wpAny_assign_Tuple hh (⟨_, ht, rfl, _, rfl⟩ : h₁.IsTuple t #[.int (i : Nat) tk1, .str ch tu]) rfl rfl fun h₃ hx₃ => ?_
      replace hx₃ : Heap.ExtBut h₁.objs.size h₁ h₃ := hx₃
      have k₃ : ∀ b o, h₁.get? b = some o → h₃.get? b = some o := fun b o e => hx₃ b o (Nat.ne_of_lt (Heap.lt_size e)) e
      have F₃ : Fr h₀ env.locals h₃ m := ⟨F₁.ns.at' fun o e => k₃ _ o e, fun b o e => k₃ b o (F₁.keep b o e), F₁.above⟩
      show wpAny _ _ (do holding [Value.str ch tu] (assign (.Name xi pi) env (.int (i : Nat) tk1)); do holding [] (assign (.Name xv pv) env (.str ch tu)); pure ()) _ _ _
      refine wpAny_bind (wpAny_holding (wpAny_assign_Name (wpAny_storeName_local hxi F₃.ns (fun h₄ hn₄ hs₄ => ?_) hp)))
      replace hs₄ : Heap.SameBut env.locals h₃ h₄ := hs₄
      refine wpAny_bind (wpAny_holding (wpAny_assign_Name (wpAny_storeName_local hxv hn₄ (fun h₅ hn₅ hs₅ => wpAny_pure ?_) hp)))
      replace hs₅ : Heap.SameBut env.locals h₄ h₅ := hs₅
      have F₅ := (F₃.set hn₄ hs₄).set hn₅ hs₅
      -- addresses of the generator's own
      have own_ne : ∀ q ∈ own', ∀ b o, h.get? b = some o → (∀ z ∈ own, z.1 ≠ b) → q.1 ≠ b := by
        intro q hq2 b o e hb z
        rcases (hq' q hq2).2.2.2 with z1 | z1
        · obtain ⟨y, hy, ey⟩ := List.mem_map.mp z1
          exact hb y hy (ey.trans z)
        · have z2 : h.get? q.1 = none := z1
          rw [z, e] at z2; cases z2
      obtain ⟨oL, _, _, hoL, _⟩ := F.ns
      have N₁own : News h₀ env.locals h₁ own' := fun q hq2 => ⟨(hq' q hq2).1, own_ne q hq2 _ oL hoL hLown, (hq' q hq2).2.1⟩
      have N₂ : News h₀ env.locals h₁ (led ++ (own' ++ (G, genObj g₀ nm qn u1 u2) :: rest)) := by
        intro p hp
        rcases List.mem_append.mp hp with hp | hp
        · exact N₁ p (List.mem_append.mpr (.inl hp))
        · rcases List.mem_append.mp hp with hp | hp
          · exact N₁own p hp
          · exact N₁ p (List.mem_append.mpr (.inr hp))
      have N₅ : News h₀ env.locals h₅ (led ++ (own' ++ (G, genObj g₀ nm qn u1 u2) :: rest)) := ((show News h₀ env.locals h₃ _ from fun p hp => ⟨k₃ _ _ (N₂ p hp).1, (N₂ p hp).2⟩).set hs₄).set hs₅
      have hoff' : ∀ p ∈ led, ∀ q ∈ (own' ++ (G, genObj g₀ nm qn u1 u2) :: rest), q.1 ≠ p.1 := by
        intro p hp q hq2
        rcases List.mem_append.mp hq2 with hq2 | hq2
        · exact own_ne q hq2 _ _ (N p (List.mem_append.mpr (.inl hp))).1 fun z hz => hoff p hp z (List.mem_append.mpr (.inl hz))
        · exact hoff p hp q (List.mem_append.mpr (.inr hq2))
      have hown' : ∀ q ∈ own', q.1 ≠ G ∧ ∀ p ∈ rest, p.1 ≠ q.1 := fun q hq2 =>
        ⟨own_ne q hq2 _ _ hGh fun z hz => (hown z hz).1, fun p hp => Ne.symm (own_ne q hq2 _ _ (N p (List.mem_append.mpr (.inr (List.mem_append.mpr (.inr (.tail _ hp)))))).1 fun z hz => Ne.symm ((hown z hz).2 p hp))⟩
      have hg' : AllBare (g.setIfInBounds g₀ (End.susp (.ref t) false l k c p fs).genState) := allBare_set hg hbare g₀
      refine wpAny_mono (turn j i ch tk1 tu m led (own' ++ (G, genObj g₀ nm qn u1 u2) :: rest) h₅ _ _ hit hJ hled hoff' (fun p hp => List.mem_append.mpr (.inr (.tail _ hp))) hg' F₅ N₅) (fun f s₃ h₃ => ?_) fun _ _ e => e.elim
      have fin : (∃ h' tk' m' led', s₃ = { s with heap := h', gens := g.setIfInBounds g₀ (End.susp (.ref t) false l k c p fs).genState, toks := tk' } ∧ Fr h₀ env.locals h' m' ∧ News h₀ env.locals h' (led' ++ (own' ++ (G, genObj g₀ nm qn u1 u2) :: rest)) ∧ led'.map (·.1) = led₀.map (·.1) ∧ J (j + 1) m' led') →
          ∃ n, n < items.length + 1 - j ∧ GI prog w A env.locals h₀ G g₀ nm qn u1 u2 rest led₀ items J s n s₃ := by
        rintro ⟨h', tk', m', led', rfl, F', N', hl', hJ'⟩
        refine ⟨items.length + 1 - (j + 1), by omega, j + 1, h', _, tk', m', own', led', (End.susp (.ref t) false l k c p fs).genState, rfl, F', N', ?_, hown', hg', ?_, ?_, hJ', hl', hlt, rfl⟩
        · intro p hp q hq2
          have : p.1 ∈ led.map (·.1) := by rw [hled, ← hl']; exact List.mem_map_of_mem hp
          obtain ⟨y, hy, ey⟩ := List.mem_map.mp this
          rw [← ey]; exact hoff' y hy q hq2
        · have hlt2 : g₀ < g.size := (Array.getElem?_eq_some_iff.mp hgs).1
          simp [hlt2]
        · rw [hdr]; exact hG'
      cases f with
      | ret v => exact h₃
      | brk => exact h₃
      | cont => exact fin h₃
      | next => exact fin h₃
  · intro e s₁ hP
    cases hd : items.drop j with
    | nil => rw [hd] at hP; exact .inr hP.1
    | cons it r =>
      obtain ⟨i, ch⟩ := it
      rw [hd] at hP
      obtain ⟨l', k', c', p', fs', t, own', tk1, tu, he, _⟩ := hP
      exact .inl ⟨_, _, _, _, _, _, he⟩
  · intro s₁ hP h' hk'
    cases hd : items.drop j with
    | cons it r =>
      obtain ⟨i, ch⟩ := it
      rw [hd] at hP
      obtain ⟨l', k', c', p', fs', t, own', tk1, tu, he, _⟩ := hP
      cases he
    | nil =>
      rw [hd] at hP
      obtain ⟨_, mv⟩ := hP
      have hjn : j = items.length := Nat.le_antisymm hj (by simpa using hd)
      subst hjn
      obtain ⟨F₁, N₁⟩ := kept s₁ mv
      obtain ⟨h₁, tk₁, es⟩ := mv.same
      have est := setGen_setGen ({ s with heap := h, gens := g, toks := tk } : Shared) s₁ g₀ .finished es
      rw [est]
      have hh₁ : s₁.heap = h₁ := by rw [es]
      rw [hh₁] at F₁ N₁ hk'
      refine wpAny_execs_nil ?_
      refine done m led h' _ _ hJ hled (allBare_set hg rfl g₀) ⟨F₁.ns.at' fun o e => hk' _ o e, fun b o e => hk' b o (F₁.keep b o e), F₁.above⟩ ?_
      intro p hp
      rcases List.mem_append.mp hp with hp | hp
      · exact ⟨hk' _ _ (N₁ p (List.mem_append.mpr (.inl hp))).1, (N₁ p (List.mem_append.mpr (.inl hp))).2⟩
      · exact ⟨hk' _ _ (N₁ p (List.mem_append.mpr (.inr (.tail _ hp)))).1, (N₁ p (List.mem_append.mpr (.inr (.tail _ hp)))).2⟩
end
theorem iter_use {w : World} {x : Str} {t : Tok} (hx : x.length ≤ 1000) (hend : endsOk false (chs x) = true) {mean : ExcName → Option Value} {mg mb : Str → Option Value} {dp un : Nat} {gd : Option (List Code)} {cn : Str} {cs : Scope} {a : Addr} {ccd : Value} {cl : List (Str × Addr)} {outer : List Env} {A₀ : Around} {base h₀ : Heap} {L : Addr} {m : Str → Option Value} {news : List (Addr × Obj)} {s : Shared} {Q E : Value → Shared → Prop}
    (B : Below A₀ base outer h₀) (F : Fr h₀ L s.heap m) (X : (KK w).In h₀) (N : News h₀ L s.heap news) (T : TT mean mg mb h₀) (hk : cs.kind = .function) (hd : dp + 2 < recursionLimit) (hu : un + 32 < cLine)
    (ret : ∀ (G C : Addr) (oC : Obj) (nm qn : Str) (u1 u2 : Tok) (h' : Heap) (gs : GenState) (tk' : Nat), Fr h₀ L h' m → News h₀ L h' ((G, genObj s.gens.size nm qn u1 u2) :: (C, oC) :: news) → C < G → (∀ p ∈ news, p.1 < C) → gs.bare = true →
      GS PR w (ktrTop dp un gd cn cs L a ccd cl outer).in1 h₀ (escs 0 false (chs x)) [(C, oC)] gs → Q (.ref G) { s with heap := h', gens := s.gens.push gs, toks := tk' }) :
    wpAny (model PR w) (ktrTop dp un gd cn cs L a ccd cl outer) (call (.ref 28) [.str x t]) Q E s :=
  iterCall w x t hx hend mean mg mb dp un gd cn cs a ccd cl outer A₀ base h₀ L m news s Q E B F X N T hk hd hu ret
end Mine
end
local macro_rules | `(tactic| walk_at "call ref") => `(tactic| (k_here; k_dflt ((refine' Mine.iter_use ?h1 ?h2 ?k1 ?k2 ?k3 ?k4 ?k5 ?k6 ?k8 ?k9 ?_; (case h1 => assumption); (case h2 => assumption); walk_at "c16"; (case k8 => ktr_room); (case k9 => ktr_units); k_whole)); intro G' C' oC' nm' qn' u1' u2' h' gs' tk' F' N' l1 l2 hb' hGS'; (try dsimp only); (try k_sweep)))
section
open PySem PySem.W PyProof.Rows
namespace Mine
abbrev SSt := Nat × Option Nat × List Str
noncomputable def sstep (x : Str) (st : SSt) (p : Nat × Str) : SSt :=
  if p.2 = Str.ofString "\"" then
    match st.2.1 with
    | none => (st.1, some p.1, st.2.2)
    | some o => (p.1 + 1, none, if st.1 ≠ o then st.2.2 ++ [Txt.slice x (some (st.1 : Nat)) (some (o : Nat))] else st.2.2)
  else st
noncomputable def sfold (x : Str) (l : List (Nat × Str)) : SSt := l.foldl (sstep x) (0, none, [])
noncomputable def sEnd (x : Str) (st : SSt) : List Str := if st.1 < x.length then st.2.2 ++ [Txt.slice x (some (st.1 : Nat)) none] else st.2.2
noncomputable def hasQuote (x : Str) : Bool := !(Builtin.Str.occurrences x (Str.ofString "\"") 0 x.length 1).isEmpty
noncomputable def stripF (x : Str) : Str := if hasQuote x = true then Txt.join (Str.ofString "") (sEnd x (sfold x (escs 0 false (chs x)))) else x
theorem escs_lt : ∀ (cs : List Nat) (i : Nat) (b : Bool), ∀ p ∈ escs i b cs, p.1 < i + cs.length
  | [], _, _ => by intro p hp; simp [escs] at hp
  | c :: r, i, true => by
    intro p hp
    rcases List.mem_cons.mp (show p ∈ (i, (⟨#[92, c]⟩ : Str)) :: escs (i + 1) false r from hp) with e | hp
    · rw [e]; simp
    · have := escs_lt r (i + 1) false p hp; simp only [List.length_cons]; omega
  | c :: r, i, false => by
    intro p hp
    by_cases hc : c = 92
    · have e : escs i false (c :: r) = escs (i + 1) true r := if_pos hc
      rw [e] at hp
      have := escs_lt r (i + 1) true p hp; simp only [List.length_cons]; omega
    · have e : escs i false (c :: r) = (i, ⟨#[c]⟩) :: escs (i + 1) false r := if_neg hc
      rw [e] at hp
      rcases List.mem_cons.mp hp with e | hp
      · rw [e]; simp
      · have := escs_lt r (i + 1) false p hp; simp only [List.length_cons]; omega
theorem escs_len : ∀ (cs : List Nat) (i : Nat) (b : Bool), (escs i b cs).length ≤ cs.length
  | [], _, _ => by simp [escs]
  | c :: r, i, true => by
    have := escs_len r (i + 1) false
    show ((i, (⟨#[92, c]⟩ : Str)) :: escs (i + 1) false r).length ≤ _
    simp only [List.length_cons]; omega
  | c :: r, i, false => by
    by_cases hc : c = 92
    · have e : escs i false (c :: r) = escs (i + 1) true r := if_pos hc
      rw [e]
      have := escs_len r (i + 1) true; simp only [List.length_cons]; omega
    · have e : escs i false (c :: r) = (i, ⟨#[c]⟩) :: escs (i + 1) false r := if_neg hc
      rw [e]
      have := escs_len r (i + 1) false; simp only [List.length_cons]; omega
theorem slice_len (x : Str) (l u : Option Int) : (Txt.slice x l u).length ≤ x.length := Txt.slice_le x l u
theorem sstep_wgt (x : Str) (st : SSt) (p : Nat × Str) : wgt (sstep x st p).2.2 ≤ wgt st.2.2 + (x.length + 1) := by
  unfold sstep
  split
  · split
    · simp
    · dsimp only
      split
      · rw [wgt_append]
        have h1 := slice_len x (some (st.1 : Nat)) (some ((‹Nat› : Nat) : Int))
        show wgt _ + wgt [_] ≤ _
        simp only [wgt, List.map_cons, List.map_nil, List.sum_cons, List.sum_nil, List.length_cons, List.length_nil] at *
        omega
      · omega
  · omega
theorem sfold_wgt (x : Str) : ∀ (l : List (Nat × Str)) (st : SSt), wgt (l.foldl (sstep x) st).2.2 ≤ wgt st.2.2 + l.length * (x.length + 1)
  | [], st => by simp
  | p :: r, st => by
    have h1 := sfold_wgt x r (sstep x st p)
    have h2 := sstep_wgt x st p
    rw [List.foldl_cons, List.length_cons, Nat.succ_mul]; omega
theorem sstep_start (x : Str) (st : SSt) (p : Nat × Str) {n : Nat} (hp : p.1 < n) (h : st.1 ≤ n) (ho : ∀ o, st.2.1 = some o → o < n) : (sstep x st p).1 ≤ n ∧ ∀ o, (sstep x st p).2.1 = some o → o < n := by
  unfold sstep
  split
  · split
    · exact ⟨h, fun o e => by cases e; exact hp⟩
    · exact ⟨hp, fun o e => by cases e⟩
  · exact ⟨h, ho⟩
theorem sfold_start (x : Str) {n : Nat} : ∀ (l : List (Nat × Str)) (st : SSt), (∀ p ∈ l, p.1 < n) → st.1 ≤ n → (∀ o, st.2.1 = some o → o < n) → (l.foldl (sstep x) st).1 ≤ n ∧ ∀ o, (l.foldl (sstep x) st).2.1 = some o → o < n
  | [], st, _, h, ho => ⟨h, ho⟩
  | p :: r, st, hl, h, ho => by
    have z := sstep_start x st p (hl p (.head _)) h ho
    exact sfold_start x r (sstep x st p) (fun q hq => hl q (.tail _ hq)) z.1 z.2
theorem sfold_len (x : Str) : ∀ (l : List (Nat × Str)) (st : SSt), (l.foldl (sstep x) st).2.2.length ≤ st.2.2.length + l.length
  | [], st => by simp
  | p :: r, st => by
    have h1 := sfold_len x r (sstep x st p)
    have h2 : (sstep x st p).2.2.length ≤ st.2.2.length + 1 := by
      unfold sstep
      split
      · split
        · simp
        · dsimp only; split <;> simp
      · omega
    rw [List.foldl_cons, List.length_cons]; omega
theorem sfold_succ {x : Str} {items : List (Nat × Str)} {j : Nat} {p : Nat × Str} (hit : items[j]? = some p) : sfold x (items.take (j + 1)) = sstep x (sfold x (items.take j)) p := by
  unfold sfold
  rw [List.take_add_one, hit, List.foldl_append]; rfl
theorem sstep_no {x : Str} {st : SSt} {i : Nat} {ch : Str} (h : (ch == Str.ofString "\"") = false) : sstep x st (i, ch) = st := by
  unfold sstep; rw [if_neg (by intro e; dsimp only at e; rw [e] at h; revert h; decide)]
theorem sstep_open {x : Str} {st i : Nat} {rs : List Str} {ch : Str} (h : (ch == Str.ofString "\"") = true) : sstep x (st, none, rs) (i, ch) = (st, some i, rs) := by
  unfold sstep; rw [if_pos (eq_of_beq h)]
theorem sstep_close {x : Str} {st o i : Nat} {rs : List Str} {ch : Str} (h : (ch == Str.ofString "\"") = true) (hne : st ≠ o) : sstep x (st, some o, rs) (i, ch) = (i + 1, none, rs ++ [Txt.slice x (some (st : Nat)) (some (o : Nat))]) := by
  unfold sstep; rw [if_pos (eq_of_beq h)]; dsimp only; rw [if_pos hne]
theorem sstep_close0 {x : Str} {st o i : Nat} {rs : List Str} {ch : Str} (h : (ch == Str.ofString "\"") = true) (he : st = o) : sstep x (st, some o, rs) (i, ch) = (i + 1, none, rs) := by
  unfold sstep; rw [if_pos (eq_of_beq h)]; dsimp only; rw [if_neg (by simpa using he)]
theorem wgt_snoc {rs : List (Str × Tok)} {a x : Str} {t : Tok} (h : wgt (rs.map (·.1)) ≤ 2000000) (ha : a.length ≤ x.length) (hx : x.length ≤ 1000) : wgt ((rs ++ [(a, t)]).map (·.1)) ≤ 16000000 := by
  rw [List.map_append, wgt_append]
  have : wgt ([(a, t)].map (·.1)) = a.length + 1 := by simp [wgt]
  omega
theorem strip_bounds {x : Str} (hx : x.length ≤ 1000) {st : Nat} {op : Option Nat} {rs : List (Str × Tok)} (hf : sfold x (escs 0 false (chs x)) = (st, op, rs.map (·.1))) : rs.length ≤ 100000 ∧ wgt (rs.map (·.1)) ≤ 2000000 := by
  have h1 := sfold_len x (escs 0 false (chs x)) (0, none, [])
  have h2 := escs_len (chs x) 0 false
  have h3 := chs_len x
  have h5 := sfold_wgt x (escs 0 false (chs x)) (0, none, [])
  have e : (escs 0 false (chs x)).foldl (sstep x) (0, none, []) = (st, op, rs.map (·.1)) := hf
  rw [e] at h1 h5
  simp only [List.length_nil, List.length_map] at h1
  have h6 : wgt ([] : List Str) = 0 := rfl
  have h7 : (escs 0 false (chs x)).length * (x.length + 1) ≤ 1000 * 1001 := Nat.mul_le_mul (by omega) (by omega)
  dsimp only at h5
  rw [h6] at h5
  exact ⟨by omega, by omega⟩
theorem stripF_yes {x : Str} {st : Nat} {op : Option Nat} {rs : List (Str × Tok)} {t : Tok} (hq : (Builtin.Str.occurrences x (Str.ofString "\"") 0 x.length 1).isEmpty = false) (hf : sfold x (escs 0 false (chs x)) = (st, op, rs.map (·.1))) (h : ((st : Nat) : Int) < (x.length : Nat)) :
    Txt.join (Str.ofString "") ((rs ++ [(Txt.slice x (some (st : Nat)) none, t)]).map (·.1)) = stripF x := by
  unfold stripF hasQuote
  rw [if_pos (by rw [hq]; rfl), hf]
  unfold sEnd
  rw [if_pos (by dsimp only; omega), List.map_append]; rfl
theorem stripF_no {x : Str} {st : Nat} {op : Option Nat} {rs : List (Str × Tok)} (hq : (Builtin.Str.occurrences x (Str.ofString "\"") 0 x.length 1).isEmpty = false) (hf : sfold x (escs 0 false (chs x)) = (st, op, rs.map (·.1))) (h : ¬ ((st : Nat) : Int) < (x.length : Nat)) :
    Txt.join (Str.ofString "") (rs.map (·.1)) = stripF x := by
  unfold stripF hasQuote
  rw [if_pos (by rw [hq]; rfl), hf]
  unfold sEnd
  rw [if_neg (by dsimp only; omega)]
end Mine
end
local macro_rules | `(tactic| walk_at "j3") => `(tactic| (exact Mine.joinOk0 (Mine.wgt_snoc (by assumption) (by assumption) (by assumption))))
section
open PySem PySem.W PyProof.Rows PySem.Calls PySem.Spec PySem.W.X
namespace Mine
inductive OpV : Option Nat → Value → Prop
  | none : OpV none .none
  | some (o : Nat) (t : Tok) : OpV (some o) (.int (o : Nat) t)
noncomputable def sJ (x : Str) (items : List (Nat × Str)) (m₀ : Str → Option Value) (j : Nat) (m : Str → Option Value) (led : List (Addr × Obj)) : Prop :=
  ∃ (D : Addr) (st : Nat) (op : Option Nat) (rs : List (Str × Tok)) (k : Nat) (t1 : Tok) (ov : Value), sfold x (items.take j) = (st, op, rs.map (·.1)) ∧ m (Str.ofString "start") = some (.int (st : Nat) t1) ∧ m (Str.ofString "open_pos") = some ov ∧ OpV op ov ∧
    (∀ y : Str, y ≠ Str.ofString "start" → y ≠ Str.ofString "open_pos" → y ≠ Str.ofString "pos" → y ≠ Str.ofString "ch" → m y = m₀ y) ∧ led = [(D, W.listOf (strValues rs).toArray k)]
theorem news_rot3 {h₀ h : Heap} {L : Addr} {a b c : Addr × Obj} {r : List (Addr × Obj)} (N : News h₀ L h (a :: b :: c :: r)) : News h₀ L h ([c] ++ ([b] ++ a :: r)) := by
  intro p hp
  simp only [List.cons_append, List.nil_append, List.mem_cons] at hp
  exact N p (by simp only [List.mem_cons]; rcases hp with h | h | h | h <;> simp [h])
local macro_rules | `(tactic| k_all) => `(tactic| assumption)
theorem strip (w : World) (x : Str) (t : Tok) : Ctr w 3 35 [.str x t] (x.length ≤ 1000 ∧ endsOk false (chs x) = true) (fun v => ∃ t, v = .str (stripF x) t) := by
  dsimp only [Ctr, CtrL, CtrG, Ret, RetL, TT, KK, PR]
  w_top off
  k_fill
  intros; rename_i hret
  (with_reducible rename (_ ∧ _) => hpre)
  obtain ⟨hp1, hp2⟩ := hpre
  refine wpAny_call ?_
  k_dflt cell_enter
  generalize hst : Stmt.For _ _ _ _ _ = st
  k_steps
  · exact hret _ _ _ _ ⟨_, congrArg (Value.str · _) (show x = stripF x by unfold stripF hasQuote; rw [if_neg (by simp_all)])⟩ (by k_asm) (by k_asm) (by assumption)
  · subst hst
    refine wpAny_For ?_
    k_steps
    rename_i G C oC nm qn u1 u2 h1 gs tk1 FX NX lt1 lt2 hb hGS
    refine wpAny_pyIter_gen ⟨_, _, _, News.get NX (.head _), rfl, rfl, rfl⟩ ?_
    have N2 := news_rot3 NX
    refine' for_gen (J₀ := sJ x (escs 0 false (chs x))) (items := escs 0 false (chs x)) (own₀ := [(C, oC)]) (gs₀ := gs) ?hL ?hh ?r1 ?r2 ?rF ?rN ?r3 ?r4 ?r5 ?r6 ?rG ?r7 ?turn ?done ?a1 ?a2 ?a3
    (case hL => exact rfl)
    (case rF => exact FX)
    (case rN => exact N2)
    (case rG => exact hGS)
    (case hh => exact rfl)
    (case a1 => exact rfl)
    (case a2 => exact rfl)
    (case a3 => exact rfl)
    (case r6 => simp)
    (case r5 => exact allBare_push (by assumption) hb)
    (case r1 => ktr_room)
    (case r2 => exact Top.nolimit (by assumption))
    (case r7 => exact ⟨_, 0, none, [], 0, _, _, rfl, rfl, rfl, .none, fun _ _ _ _ _ => rfl, rfl⟩)
    case r3 =>
      intro p hp q hq
      rw [List.mem_singleton.mp hp]
      have e0 := lt2 _ (.head _)
      rcases List.mem_cons.mp hq with rfl | hq
      · exact Nat.ne_of_gt e0
      · rcases List.mem_cons.mp hq with rfl | hq
        · exact Nat.ne_of_gt (Nat.lt_trans e0 lt1)
        · exact ne_of_lts (by assumption) q hq
    case r4 =>
      intro q hq
      rw [List.mem_singleton.mp hq]
      exact ⟨Nat.ne_of_lt lt1, fun p hp => Nat.ne_of_lt (lt2 p (.tail _ hp))⟩
    case turn =>
      intro j i ch tk tu m₁ led tail h g tk' hit hJ hled hoff hrest hg1 F1 N1
      obtain ⟨D, st, op, rs, k, t1, ov, hf, hm1, hm2, hop, hm, rfl⟩ := hJ
      rw [map4 hm1 hm2 hm] at F1
      simp only [List.cons_append, List.nil_append] at N1
      simp only [List.map_cons, List.map_nil, List.cons.injEq, and_true] at hled
      subst hled
      have hD : ∀ q ∈ tail, q.1 ≠ D := fun q hq => hoff _ (.head _) q hq
      have hrl : rs.length ≤ 100000 := by
        have h1 := sfold_len x ((escs 0 false (chs x)).take j) (0, none, [])
        have h2 := escs_len (chs x) 0 false
        have h3 := chs_len x
        have h4 : (sfold x ((escs 0 false (chs x)).take j)).2.2.length = rs.length := by rw [hf]; simp
        unfold sfold at h4
        rw [List.length_take] at h1
        simp only [List.length_nil] at h1
        omega
      have hS := sfold_succ (x := x) hit
      rw [hf] at hS
      clear FX NX N2 hGS hit hf hoff
      cases hop with
      | none =>
        k_steps
        · rw [sstep_open (by assumption)] at hS
          refine' gpost_next (led := [(D, W.listOf (strValues rs).toArray k)]) ?e1 ?e2 ?e3 ?e4 ?e5; (case e1 => k_asm); (case e2 => k_asm); (case e3 => exact fun _ hp => hp); (case e4 => exact rfl)
          (case e5 => exact ⟨_, _, _, _, _, _, _, hS, rfl, rfl, .some _ _, fun y h1 h2 h3 h4 => by simp only [if_neg h1, if_neg h2, if_neg h3, if_neg h4], rfl⟩)
        · rw [sstep_no (by assumption)] at hS
          refine' gpost_next (led := [(D, W.listOf (strValues rs).toArray k)]) ?e1 ?e2 ?e3 ?e4 ?e5; (case e1 => k_asm); (case e2 => k_asm); (case e3 => exact fun _ hp => hp); (case e4 => exact rfl)
          (case e5 => exact ⟨_, _, _, _, _, _, _, hS, rfl, rfl, .none, fun y h1 h2 h3 h4 => by simp only [if_neg h1, if_neg h2, if_neg h3, if_neg h4], rfl⟩)
      | some o t2 =>
        k_steps
        · rw [sstep_close (by assumption) (by omega)] at hS
          refine' gpost_one ?e1 ?e2 ?e4 ?e5; (case e1 => k_asm); (case e2 => k_asm); (case e4 => exact rfl)
          (case e5 => exact ⟨_, _, _, _, _, _, _, by rw [hS, List.map_append]; rfl, rfl, rfl, .none, fun y h1 h2 h3 h4 => by simp only [if_neg h1, if_neg h2, if_neg h3, if_neg h4], rfl⟩)
        · rw [sstep_close0 (by assumption) (by omega)] at hS
          refine' gpost_next (led := [(D, W.listOf (strValues rs).toArray k)]) ?e1 ?e2 ?e3 ?e4 ?e5; (case e1 => k_asm); (case e2 => k_asm); (case e3 => exact fun _ hp => hp); (case e4 => exact rfl)
          (case e5 => exact ⟨_, _, _, _, _, _, _, hS, rfl, rfl, .none, fun y h1 h2 h3 h4 => by simp only [if_neg h1, if_neg h2, if_neg h3, if_neg h4], rfl⟩)
        · rw [sstep_no (by assumption)] at hS
          refine' gpost_next (led := [(D, W.listOf (strValues rs).toArray k)]) ?e1 ?e2 ?e3 ?e4 ?e5; (case e1 => k_asm); (case e2 => k_asm); (case e3 => exact fun _ hp => hp); (case e4 => exact rfl)
          (case e5 => exact ⟨_, _, _, _, _, _, _, hS, rfl, rfl, .some _ _, fun y h1 h2 h3 h4 => by simp only [if_neg h1, if_neg h2, if_neg h3, if_neg h4], rfl⟩)
    case done =>
      intro m₁ led h g tk hJ hled hg1 F1 N1
      obtain ⟨D, st, op, rs, k, t1, ov, hf, hm1, hm2, hop, hm, rfl⟩ := hJ
      rw [map4 hm1 hm2 hm] at F1
      simp only [List.cons_append, List.nil_append] at N1
      simp only [List.map_cons, List.map_nil, List.cons.injEq, and_true] at hled
      subst hled
      have hD := @ne_of_lts D _ (by assumption)
      rw [List.take_length] at hf
      obtain ⟨hrl, hw⟩ := strip_bounds hp1 hf
      have hj0 := joinOk0 (Nat.le_trans hw (by decide))
      clear FX NX N2 hGS
      k_steps
      · exact hret _ _ _ _ ⟨_, congrArg (Value.str · _) (stripF_yes (by assumption) hf (by assumption))⟩ (by k_asm) (by (refine' cb_drop ?cbN ?cbS; (case cbN => assumption); (case cbS => kcj_all))) (by assumption)
      · exact hret _ _ _ _ ⟨_, congrArg (Value.str · _) (stripF_no (by assumption) hf (by omega))⟩ (by k_asm) (by (refine' cb_drop ?cbN ?cbS; (case cbN => assumption); (case cbS => kcj_all))) (by assumption)
end Mine
end
local macro_rules | `(tactic| walk_at "call ref") => `(tactic| (k_here; k_dflt ((refine' Mine.ctr_use (Mine.strip _ _ _) ?k1 ?k2 ?k3 ?k4 ?k5 ?k6 ?k7 ?k8 ?k9 ?k10 ?_; walk_at "ccc")); walk_at "ct1"))
section
open PySem PySem.W PyProof.Rows
namespace Mine
noncomputable def chk : Int → List (Nat × Str) → Bool
  | o, [] => o == 0
  | o, p :: r => if p.2 = Str.ofString "(" then chk (o + 1) r else if p.2 = Str.ofString ")" then (if o - 1 < 0 then false else chk (o - 1) r) else chk o r
noncomputable def checkF (x : Str) : Bool := chk 0 (escs 0 false (chs (stripF x)))
theorem chk_open {o : Int} {i : Nat} {ch : Str} {r : List (Nat × Str)} (h : (ch == Str.ofString "(") = true) : chk o ((i, ch) :: r) = chk (o + 1) r := by
  show (if ch = Str.ofString "(" then chk (o + 1) r else if ch = Str.ofString ")" then (if o - 1 < 0 then false else chk (o - 1) r) else chk o r) = _
  rw [if_pos (eq_of_beq h)]
theorem ne_of_beqf {a b : Str} (h : (a == b) = false) : a ≠ b := fun e => by rw [e] at h; simp at h
theorem chk_close {o : Int} {i : Nat} {ch : Str} {r : List (Nat × Str)} (h0 : (ch == Str.ofString "(") = false) (h : (ch == Str.ofString ")") = true) (hn : ¬ o - 1 < 0) : chk o ((i, ch) :: r) = chk (o - 1) r := by
  show (if ch = Str.ofString "(" then chk (o + 1) r else if ch = Str.ofString ")" then (if o - 1 < 0 then false else chk (o - 1) r) else chk o r) = _
  rw [if_neg (ne_of_beqf h0), if_pos (eq_of_beq h), if_neg hn]
theorem chk_fail {o : Int} {i : Nat} {ch : Str} {r : List (Nat × Str)} (h0 : (ch == Str.ofString "(") = false) (h : (ch == Str.ofString ")") = true) (hn : o - 1 < 0) : chk o ((i, ch) :: r) = false := by
  show (if ch = Str.ofString "(" then chk (o + 1) r else if ch = Str.ofString ")" then (if o - 1 < 0 then false else chk (o - 1) r) else chk o r) = _
  rw [if_neg (ne_of_beqf h0), if_pos (eq_of_beq h), if_pos hn]
theorem chk_other {o : Int} {i : Nat} {ch : Str} {r : List (Nat × Str)} (h0 : (ch == Str.ofString "(") = false) (h : (ch == Str.ofString ")") = false) : chk o ((i, ch) :: r) = chk o r := by
  show (if ch = Str.ofString "(" then chk (o + 1) r else if ch = Str.ofString ")" then (if o - 1 < 0 then false else chk (o - 1) r) else chk o r) = _
  rw [if_neg (ne_of_beqf h0), if_neg (ne_of_beqf h)]
theorem map3 {m m₀ : Str → Option Value} {a c d : Str} {va : Value} (ha : m a = some va) (hm : ∀ y, y ≠ a → y ≠ c → y ≠ d → m y = m₀ y) :
    m = fun y => if y = a then some va else if y = c then m c else if y = d then m d else m₀ y := by
  funext y
  by_cases h1 : y = a
  · rw [if_pos h1, h1, ha]
  · rw [if_neg h1]
    by_cases h3 : y = c
    · rw [if_pos h3, h3]
    · rw [if_neg h3]
      by_cases h4 : y = d
      · rw [if_pos h4, h4]
      · rw [if_neg h4, hm y h1 h3 h4]
end Mine
end
section
open PySem PySem.W PyProof.Rows PySem.Calls PySem.Spec PySem.W.X
namespace Mine
noncomputable def cJ (items : List (Nat × Str)) (m₀ : Str → Option Value) (j : Nat) (m : Str → Option Value) (led : List (Addr × Obj)) : Prop :=
  ∃ (o : Int) (t1 : Tok), chk 0 items = chk o (items.drop j) ∧ 0 ≤ o ∧ o ≤ (j : Nat) ∧ m (Str.ofString "opens") = some (.int o t1) ∧
    (∀ y : Str, y ≠ Str.ofString "opens" → y ≠ Str.ofString "pos" → y ≠ Str.ofString "ch" → m y = m₀ y) ∧ led = []
theorem news_rot2 {h₀ h : Heap} {L : Addr} {a b : Addr × Obj} {r : List (Addr × Obj)} (N : News h₀ L h (a :: b :: r)) : News h₀ L h ([] ++ ([b] ++ a :: r)) := by
  intro p hp
  simp only [List.cons_append, List.nil_append, List.mem_cons] at hp
  exact N p (by simp only [List.mem_cons]; rcases hp with h | h | h <;> simp [h])
theorem check (w : World) (x : Str) (t : Tok) : Ctr w 5 42 [.str x t] (x.length ≤ 1000 ∧ endsOk false (chs x) = true ∧ (stripF x).length ≤ 1000 ∧ endsOk false (chs (stripF x)) = true) (fun v => v = .bool (checkF x)) := by
  dsimp only [Ctr, CtrL, CtrG, Ret, RetL, TT, KK, PR]
  w_top off
  k_fill
  intros; rename_i hret
  (with_reducible rename (_ ∧ _) => hpre)
  obtain ⟨hp1, hp2, hp3, hp4⟩ := hpre
  refine wpAny_call ?_
  k_dflt cell_enter
  generalize hst : Stmt.For _ _ _ _ _ = st
  k_steps
  subst hst
  refine wpAny_For ?_
  k_steps
  rename_i G C oC nm qn u1 u2 h1 gs tk1 FX NX lt1 lt2 hb hGS
  refine wpAny_pyIter_gen ⟨_, _, _, News.get NX (.head _), rfl, rfl, rfl⟩ ?_
  have N2 := news_rot2 NX
  refine' for_gen (J₀ := cJ (escs 0 false (chs (stripF x)))) (items := escs 0 false (chs (stripF x))) (led₀ := []) (own₀ := [(C, oC)]) (gs₀ := gs) ?hL ?hh ?r1 ?r2 ?rF ?rN ?r3 ?r4 ?r5 ?r6 ?rG ?r7 ?turn ?done ?a1 ?a2 ?a3
  (case hL => exact rfl)
  (case rF => exact FX)
  (case rN => exact N2)
  (case rG => exact hGS)
  (case hh => exact rfl)
  (case a1 => exact rfl)
  (case a2 => exact rfl)
  (case a3 => exact rfl)
  (case r6 => simp)
  (case r5 => exact allBare_push (by assumption) hb)
  (case r1 => ktr_room)
  (case r2 => exact Top.nolimit (by assumption))
  (case r7 => exact ⟨0, _, rfl, Int.le_refl _, Int.le_refl _, rfl, fun _ _ _ _ => rfl, rfl⟩)
  (case r3 => intro p hp; cases hp)
  case r4 =>
    intro q hq
    rw [List.mem_singleton.mp hq]
    exact ⟨Nat.ne_of_lt lt1, fun p hp => Nat.ne_of_lt (lt2 p hp)⟩
  case turn =>
    intro j i ch tk tu m₁ led tail h g tk' hit hJ hled hoff hrest hg1 F1 N1
    obtain ⟨o, t1, hc, ho0, hoj, hm1, hm, rfl⟩ := hJ
    rw [map3 hm1 hm] at F1
    simp only [List.nil_append] at N1
    have hjl : j < 1001 := by
      have h1 := (List.getElem?_eq_some_iff.mp hit).1
      have h2 := escs_len (chs (stripF x)) 0 false
      have h3 := chs_len (stripF x)
      omega
    have hdr : (escs 0 false (chs (stripF x))).drop j = (i, ch) :: (escs 0 false (chs (stripF x))).drop (j + 1) := by
      have h1 := (List.getElem?_eq_some_iff.mp hit)
      rw [List.drop_eq_getElem_cons h1.1, h1.2]
    rw [hdr] at hc
    clear FX NX N2 hGS hit
    k_steps
    · refine' gpost_next (led := []) ?e1 ?e2 ?e3 ?e4 ?e5; (case e1 => k_asm); (case e2 => k_asm); (case e3 => exact fun _ hp => hp); (case e4 => exact rfl)
      (case e5 => exact ⟨_, _, by rw [hc]; exact chk_open (by assumption), by omega, by omega, rfl, fun y h1 h2 h3 => by simp only [if_neg h1, if_neg h2, if_neg h3], rfl⟩)
    · dsimp only [GPost]
      k_steps
      refine hret _ _ _ _ ?_ (by k_asm) (cb_drop (by assumption) hrest) (by assumption)
      have h9 : chk 0 (escs 0 false (chs (stripF x))) = false := by rw [hc]; exact chk_fail (by assumption) (by assumption) (by assumption)
      show _ = Value.bool (chk 0 (escs 0 false (chs (stripF x))))
      rw [h9]
    · refine' gpost_next (led := []) ?e1 ?e2 ?e3 ?e4 ?e5; (case e1 => k_asm); (case e2 => k_asm); (case e3 => exact fun _ hp => hp); (case e4 => exact rfl)
      (case e5 => exact ⟨_, _, by rw [hc]; exact chk_close (by assumption) (by assumption) (by assumption), by omega, by omega, rfl, fun y h1 h2 h3 => by simp only [if_neg h1, if_neg h2, if_neg h3], rfl⟩)
    · refine' gpost_next (led := []) ?e1 ?e2 ?e3 ?e4 ?e5; (case e1 => k_asm); (case e2 => k_asm); (case e3 => exact fun _ hp => hp); (case e4 => exact rfl)
      (case e5 => exact ⟨_, _, by rw [hc]; exact chk_other (by assumption) (by assumption), by omega, by omega, rfl, fun y h1 h2 h3 => by simp only [if_neg h1, if_neg h2, if_neg h3], rfl⟩)
  case done =>
    intro m₁ led h g tk hJ hled hg1 F1 N1
    obtain ⟨o, t1, hc, ho0, hoj, hm1, hm, rfl⟩ := hJ
    rw [map3 hm1 hm] at F1
    simp only [List.nil_append] at N1
    rw [List.drop_length] at hc
    have hol : o ≤ 1001 := by
      have h2 := escs_len (chs (stripF x)) 0 false
      have h3 := chs_len (stripF x)
      omega
    clear FX NX N2 hGS
    k_steps
    refine hret _ _ _ _ ?_ (by k_asm) (by k_asm) (by assumption)
    show _ = Value.bool (chk 0 (escs 0 false (chs (stripF x))))
    rw [hc]; rfl
end Mine
end
local macro_rules | `(tactic| walk_at "call ref") => `(tactic| (k_here; k_dflt ((refine' Mine.ctr_use (Mine.check _ _ _) ?k1 ?k2 ?k3 ?k4 ?k5 ?k6 ?k7 ?k8 ?k9 ?k10 ?_; walk_at "ccc")); walk_at "ct1"))
section
open PySem PySem.W PyProof.Rows PySem.Calls PySem.Spec PySem.W.X
namespace Mine
local macro_rules | `(tactic| k_all) => `(tactic| assumption)
noncomputable def CkOk (x : Str) : Prop := x.length ≤ 1000 ∧ endsOk false (chs x) = true ∧ (stripF x).length ≤ 1000 ∧ endsOk false (chs (stripF x)) = true
noncomputable def keepF (c : Str) : Str := if checkF c = true then c else Str.ofString "('', '')"
theorem keep_end {rs : List (Str × Tok)} {cs : List Str} {c d : Str} {t : Tok} {i : Nat} (ha : rs.map (·.1) = (cs.take i).map keepF) (hc : cs[i]? = some c) (e : keepF c = d) : (rs ++ [(d, t)]).map (·.1) = (cs.take (i + 1)).map keepF := by
  rw [List.take_add_one, hc, List.map_append, List.map_append, ha, ← e]; rfl
theorem keepF_yes {c : Str} (h : checkF c = true) : keepF c = c := if_pos h
theorem keepF_no {c : Str} (h : checkF c = false) : keepF c = Str.ofString "('', '')" := if_neg (by rw [h]; exact Bool.false_ne_true)
theorem validate (w : World) (D : Addr) (vs : List (Str × Tok)) (k : Nat) : CtrG w 7 49 [.ref D] (fun news => (D, W.listOf (strValues vs).toArray k) ∈ news ∧ vs.length ≤ 100 ∧ ∀ c ∈ vs.map (·.1), CkOk c)
    (fun h₀ L m news s Q => RetL h₀ L m news s Q (fun v D2 o => v = .ref D2 ∧ ∃ rs k2, o = W.listOf (strValues rs).toArray k2 ∧ rs.map (·.1) = (vs.map (·.1)).map keepF)) := by
  dsimp only [Ctr, CtrL, CtrG, Ret, RetL, TT, KK, PR]
  w_top off
  k_fill
  intros; rename_i hret
  (with_reducible rename (_ ∧ _) => hpre)
  obtain ⟨hp1, hp2, hp3⟩ := hpre
  refine wpAny_call ?_
  k_dflt cell_enter
  generalize hst : Stmt.For _ _ _ _ _ = st
  k_steps
  subst hst
  refine wpAny_For ?_
  k_steps
  have hD := ne_of_lts (by assumption)
  refine' for_strs (rs₀ := []) (k₀ := 0) (fun i rs => rs = ((vs.map (·.1)).take i).map keepF) rfl ?l1 ?lc ?ld ?l2 ?l3 ?l4 ?l5 ?turn ?done
  (case l3 => k_asm)
  (case l2 => k_asm)
  (case l1 => exact hp1)
  (case lc => exact rfl)
  (case ld => exact ⟨_, rfl⟩)
  (case l4 => assumption)
  (case l5 => exact rfl)
  case turn =>
    intro i v rs k g h tk I oI hi hv ha hg1 hlt1 hlt2 F1 N1
    obtain ⟨c, tc, rfl, hc⟩ := strValues_get hv
    have hcc := hp3 c (List.mem_of_getElem? hc)
    unfold CkOk at hcc
    replace hlt1 := ltN hlt1
    have hrl : rs.length ≤ 1000 := by
      have := congrArg List.length ha
      simp only [List.length_map, List.length_take] at this
      omega
    k_steps
    · refine' spost_next ?e1 ?e2 ?e3 ?e4 ?e5 ?e6; (case e1 => k_asm); (case e2 => k_asm); (case e3 => exact fun _ hp => hp); (case e4 => assumption); (case e5 => (intro y hy; simp only [if_neg hy])); (case e6 => exact keep_end ha hc (keepF_yes (by assumption)))
    · refine' spost_next ?e1 ?e2 ?e3 ?e4 ?e5 ?e6; (case e1 => k_asm); (case e2 => k_asm); (case e3 => exact fun _ hp => hp); (case e4 => assumption); (case e5 => (intro y hy; simp only [if_neg hy])); (case e6 => exact keep_end ha hc (keepF_no (by assumption)))
  case done =>
    intro v rs k g h tk ha hg1 F1 N1
    have ha' : rs.map (·.1) = (vs.map (·.1)).map keepF := by
      rw [ha, List.size_toArray, sv_len, ← List.length_map (f := (·.1)) (as := vs), List.take_length]
    k_steps
    exact hret _ _ _ _ _ _ ⟨rfl, rs, k, rfl, ha'⟩ (by k_asm) (by k_asm) (by assumption) (by assumption)
end Mine
end
section
open PySem PySem.W PyProof.Rows PySem.Calls PySem.Spec
namespace Mine
theorem slice_step {prog : Program} {w : World} {A : Around} {E : Value → Shared → Prop} {s : Shared} {h₀ : Heap} {L l : Addr} {m : Str → Option Value} {news : List (Addr × Obj)} {value slice : PySem.Expr} {vs : List Value} {ns : List Int} {vl vu : Value} {lo hi : Option Int} {Q : Value → Shared → Prop}
    {vk : Value} {st : Option Int} {ops : List Value} (F : Fr h₀ L s.heap m) (N : News h₀ L s.heap news) (hl : s.heap.IsList l vs.toArray) (hi' : IntsAre vs ns) (pl : IsPart vl lo) (pu : IsPart vu hi) (pk : IsPart vk st) (h0 : st ≠ some 0)
    (h : ∀ D ws ms h', Fr h₀ L h' m → News h₀ L h' ((D, listOf (List.toArray ws) 0) :: news) → (∀ p ∈ news, p.1 < D) → IntsAre ws ms → Q (.ref D) { s with heap := h' })
    (hs : subscripted slice false (.ref l) (.ref s.heap.objs.size) = operate ops (getItem (.ref l) (.ref s.heap.objs.size))) (ht : ∀ r, letTemporaryGo value (.ref l) r = pure ()) (hz : vs.toArray.size ≤ sizeLine) :
    wpAny (model prog w) A (subscriptTail value slice (.ref l) (.ref s.heap.objs.size)) Q E { s with heap := s.heap.push { cls := .type "slice", data := .fields #[vl, vu, vk] } } :=
  kmk_slice3_lit F N hl pl pu pk h0 rfl (fun D h' F' N' l1 => h D _ _ h' F' N' l1 (hi'.pick lo hi st)) hs ht hz
local macro_rules | `(tactic| walk_at "subscriptTail Name Slice ref ref") => `(tactic| (k_here; (with_reducible show wpAny _ _ (subscriptTail _ (PySem.Expr.Slice _ none (some _) _) (Value.ref _) (Value.ref _)) _ _ _); k_dflt (refine' slice_step ?F ?N ?l ?i ?p ?q ?k ?h0 ?_ ?s ?t ?z; (case F => k_asm); (case N => k_asm); (case l => kmk_list); (case i => l_ints); (case p => kmk_part); (case q => kmk_part); (case k => kmk_part); (case h0 => decide); (case s => with_unfolding_all rfl); (case t => kmk_pure); (case z => kmk_size)); intro D' ws' ms' h' F' N' l1 hI'; (try k_lt l1); (try k_sweep)))
noncomputable def units : List Str := [Str.ofString "\"", Str.ofString "(", Str.ofString ")", Str.ofString "\\\"", Str.ofString "\\(", Str.ofString "\\)", Str.ofString "\\\\", Str.ofString "a", Str.ofString "b", Str.ofString "c", Str.ofString "d", Str.ofString "e", Str.ofString "f", Str.ofString "g"]
theorem sign_unit : ∀ n : Nat, n < 11 → [Str.ofString "\"", Str.ofString "\"", Str.ofString "\"", Str.ofString "(", Str.ofString "(", Str.ofString ")", Str.ofString ")", Str.ofString "\\\"", Str.ofString "\\(", Str.ofString "\\)", Str.ofString "\\\\"].getD n Str.empty ∈ units := by decide
theorem chr_unit : ∀ n : Nat, n < 7 → ({ cps := #[(97 + (n : Int)).toNat] } : Str) ∈ units := by decide
theorem lawunit (w : World) (l : Addr) (vs : List Value) (ns : List Int) (k : Nat) (t : Tok) (hk7 : k < 7) : ∀ (mean : ExcName → Option Value) (mg mb : Str → Option Value) (dp un : Nat) (gd : Option (List Code)) (cn : Str) (cs : Scope) (a : Addr) (ccd : Value) (cl : List (Str × Addr)) (outer : List Env) (A₀ : Around) (base h₀ : Heap) (L : Addr) (m : Str → Option Value) (news : List (Addr × Obj)) (s : Shared) (Q E : Value → Shared → Prop),
    Below A₀ base outer h₀ → Fr h₀ L s.heap m → (KK w).In h₀ → News h₀ L s.heap news → TT mean mg mb h₀ → cs.kind = .function → base.IsList l vs.toArray → IntsAre vs ns → ns.length ≤ 63 → dp + 2 < recursionLimit → un + 32 < cLine → AllBare s.gens →
    Ret h₀ L m news s Q (fun v => ∃ u t, v = .str u t ∧ u ∈ units) →
    wpAny (model PR w) (ktrTop dp un gd cn cs L a ccd cl outer) (call (.ref 164) [.ref l, .int (k : Nat) t]) Q E s := by
  dsimp only [Ret, TT, KK, PR]
  w_top off
  k_fill
  intros; rename_i hret
  refine wpAny_call ?_
  k_dflt cell_enter
  k_steps
  · rename_i ktbLt _ _ _ _
    exact hret _ _ _ _ ⟨_, _, rfl, sign_unit _ ktbLt⟩ (by k_asm) (by (refine' cb_drop ?cbN ?cbS; (case cbN => assumption); (case cbS => kcj_all))) (by assumption)
  · exact hret _ _ _ _ ⟨_, _, rfl, chr_unit _ hk7⟩ (by k_asm) (by (refine' cb_drop ?cbN ?cbS; (case cbN => assumption); (case cbS => kcj_all))) (by assumption)
end Mine
end
section
open PySem PySem.W PyProof.Rows PySem.Calls PySem.Spec
namespace Mine
section
variable {prog : Program} {w : World} {A : Around} {s : Shared} {env : Env} {h₀ : Heap}
theorem for_range {x : Str} {px : Pos} {body : List Stmt} {r : Addr} {b₀ : Int} {t₀ u₀ v₀ : Tok} {n : Nat} {m₀ : Str → Option Value} {news₀ : List (Addr × Obj)} {E : Value → Shared → Prop}
    {R : Result → Shared → Prop} (J : Nat → (Str → Option Value) → List (Addr × Obj) → Array GenState → Prop)
    (hh : A.handled = none) (hr : IsRange s.heap r 0 b₀ 1 t₀ u₀ v₀) (hsmall : Builtin.Range.small 0 b₀ 1 = true) (hn : Builtin.Range.rangeSize 0 b₀ 1 = (n : Int))
    (F : Fr h₀ env.locals s.heap m₀) (N : News h₀ env.locals s.heap news₀)
    (hJa : ∀ i m news g, J i m news g → ∀ p ∈ news, p.1 ∈ news₀.map (·.1))
    (h0 : J 0 m₀ news₀ s.gens)
    (turn : ∀ i t m₁ news₁ g h tk I oI, i < n → J i m₁ news₁ g → (∀ p ∈ news₁, p.1 < I) → Fr h₀ env.locals h (fun y => if y = x then some (.int (i : Nat) t) else m₁ y) → News h₀ env.locals h ((I, oI) :: news₁) →
      wpAny (model prog w) A (execs body env) (TurnPost h₀ env.locals I oI (J (i + 1)) s (fun f s' => R (.ok f) s')) (fun _ _ => False) { s with heap := h, gens := g, toks := tk })
    (done : ∀ m₁ news₁ g h tk, J n m₁ news₁ g → Fr h₀ env.locals h m₁ → News h₀ env.locals h news₁ → R (.ok .next) { s with heap := h, gens := g, toks := tk })
    (hx : env.kindOf x = some .local := by rfl)
    (hp : (env.scope.kind == .class || (env.scope.kind == .module && env.locals != env.globals)) = false := by rfl) :
    wpAny (model prog w) A (pyIter (.ref r)) (fun it s₂ => codeAny (model prog w) A (.forLoop (.Name x px) it body [] env) R s₂) E s := by
  refine wpAny_pyIter_range hr hsmall ?_
  have W : Walks prog w A s.heap.objs.size [s.heap.objs.size] [s.heap.objs.size] n (fun i v => i < n ∧ ∃ t, v = .int (0 + i * 1) t)
      (fun i h => IsRangeIter h s.heap.objs.size (0 + (i : Nat) * 1) ((n : Int) - (i : Nat)) 1) := (Walks.range hh _ 0 1 n).bound
  refine for_walks (s := { s with heap := s.heap.push { cls := .type "range_iterator", data := .fields #[rawInt 0, rawInt (Builtin.Range.rangeSize 0 b₀ 1), rawInt 1] } }) W [] J ?_ ?_ ?_ ?_ ?_ (F.push _) (N.push F _) ?_ h0 ?_ ?_ hx hp
  · intro b hb
    exact .inl (List.mem_singleton.mp hb)
  · intro hb
    exact absurd F.ns.lt ((List.mem_singleton.mp hb) ▸ Nat.lt_irrefl _)
  · intro i h hs; exact ⟨_, hs⟩
  · intro i m news g hJ p hp; cases hp
  · intro i m news g hJ p hp
    have : p.1 ∈ news₀.map (·.1) := hJa _ _ _ _ hJ _ hp
    obtain ⟨q, hq, e⟩ := List.mem_map.mp this
    rw [← e]; exact Heap.lt_size (N _ hq).1
  · show IsRangeIter _ _ _ _ _; rw [hn]; simpa using Heap.get?_push_size _ rfl
  · rintro i v m₁ news₁ g h tk oI hi ⟨_, t, rfl⟩ hJ hlt F₁ N₁
    have e1 : (0 : Int) + (i : Int) * 1 = ((i : Nat) : Int) := by omega
    rw [e1] at F₁
    exact turn i t m₁ news₁ g h tk _ oI hi hJ hlt F₁ N₁
  · intro m₁ news₁ g h tk hJ F₁ N₁
    exact done m₁ news₁ g h tk hJ F₁ N₁
end
end Mine
end
section
open PySem PySem.W PyProof.Rows
namespace Mine
noncomputable def dots : Nat → Str → Str
  | 0, p => p
  | n + 1, p => joinF (dots n p) (Str.ofString "..")
noncomputable def lstep (st : Str × Str × Nat) (u : Str) : Str × Str × Nat :=
  if u = Str.ofString "\"" ∧ 0 < st.2.2 then (st.1 ++ u, dots st.2.2 st.2.1, 0)
  else (st.1 ++ u, joinF st.2.1 u, if u = Str.ofString "\"" ∨ 0 < st.2.2 then st.2.2 + 1 else 0)
noncomputable def lst (us : List Str) : Str × Str × Nat := us.foldl lstep (Str.ofString "", Str.ofString "", 0)
noncomputable def namesOf (p : Str) : List Str := (Txt.split (normF p) (Str.ofString "/")).filter (fun c => c != Str.ofString ".")
structure GoodVals (vs ds : List (Str × Tok)) (i : Nat) : Prop where
  len : vs.length = 3 * i
  len' : ds.length = 3 * i
  ok : ∀ c ∈ vs.map (·.1), CkOk c
  sok : ∀ c ∈ vs.map (·.1), PyData.strOk c = true
  keep : (vs.map (·.1)).map keepF = ds.map (·.1)
noncomputable def LInv (l V D : Addr) (tail : List (Addr × Obj)) (i : Nat) (m : Str → Option Value) (news : List (Addr × Obj)) (g : Array GenState) : Prop :=
  AllBare g ∧ ∃ (us : List Str) (vs ds : List (Str × Tok)) (kv kd : Nat) (t1 t2 t3 : Tok), us.length = i ∧ (∀ u ∈ us, u ∈ units) ∧
    m (Str.ofString "text") = some (.str (lst us).1 t1) ∧ m (Str.ofString "path") = some (.str (lst us).2.1 t2) ∧ m (Str.ofString "deep") = some (.int ((lst us).2.2 : Nat) t3) ∧
    m (Str.ofString "script") = some (.ref l) ∧ m (Str.ofString "values") = some (.ref V) ∧ m (Str.ofString "due") = some (.ref D) ∧
    news = (D, W.listOf (strValues ds).toArray kd) :: (V, W.listOf (strValues vs).toArray kv) :: tail ∧ GoodVals vs ds i
theorem map6 {m : Str → Option Value} {a b c d e f : Str} {va vb vc vd ve vf : Value} (ha : m a = some va) (hb : m b = some vb) (hc : m c = some vc) (hd : m d = some vd) (he : m e = some ve) (hf : m f = some vf) :
    m = fun y => if y = a then some va else if y = b then some vb else if y = c then some vc else if y = d then some vd else if y = e then some ve else if y = f then some vf else m y := by
  funext y
  by_cases h : y = a
  · rw [if_pos h, h, ha]
  rw [if_neg h]
  by_cases h : y = b
  · rw [if_pos h, h, hb]
  rw [if_neg h]
  by_cases h : y = c
  · rw [if_pos h, h, hc]
  rw [if_neg h]
  by_cases h : y = d
  · rw [if_pos h, h, hd]
  rw [if_neg h]
  by_cases h : y = e
  · rw [if_pos h, h, he]
  rw [if_neg h]
  by_cases h : y = f
  · rw [if_pos h, h, hf]
  rw [if_neg h]
end Mine
end
section
open PySem PySem.W PyProof.Rows
namespace Mine
abbrev Sl : Str := Str.ofString "/"
abbrev Qt : Str := Str.ofString "\""
abbrev Op : Str := Str.ofString "("
abbrev Cl : Str := Str.ofString ")"
abbrev DD : Str := Str.ofString ".."
abbrev AllU (l : List Str) : Prop := ∀ u ∈ l, u ∈ units
theorem sl_lit : Sl = ⟨#[47]⟩ := by decide
theorem chs_sl : chs Sl = [47] := by decide
theorem chs_qt : chs Qt = [34] := by decide
theorem chs_dd : chs DD = [46, 46] := by decide
theorem chs_e : chs (Str.ofString "") = [] := by decide
theorem chs_empty : chs Str.empty = [] := rfl
theorem u_no47 : ∀ u ∈ units, 47 ∉ chs u := by decide
theorem u_len : ∀ u ∈ units, (chs u).length ≤ 2 := by decide
theorem u_ne : ∀ u ∈ units, chs u ≠ [] := by decide
theorem u_dot : ∀ u ∈ units, u ≠ Str.ofString "." := by decide
theorem u_emp : ∀ u ∈ units, u ≠ Str.ofString "" := by decide
theorem u_dd : ∀ u ∈ units, u ≠ Str.ofString ".." := by decide
theorem u_q : ∀ u ∈ units, 34 ∈ chs u → u ≠ Qt → chs u = [92, 34] := by decide
theorem q_u : Qt ∈ units := by decide
theorem op_u : Op ∈ units := by decide
theorem cl_u : Cl ∈ units := by decide
inductive Shape : List Nat → Prop
  | one {c : Nat} (h : c ≠ 92) : Shape [c]
  | two (c : Nat) : Shape [92, c]
noncomputable def shapeB : List Nat → Bool
  | [c] => c != 92
  | [a, _] => a == 92
  | _ => false
theorem shape_of : ∀ {l : List Nat}, shapeB l = true → Shape l
  | [], h => nomatch h
  | [c], h => .one (by simpa [shapeB] using h)
  | [a, c], h => by
    have : a = 92 := by simpa [shapeB] using h
    subst this
    exact .two c
  | _ :: _ :: _ :: _, h => nomatch h
theorem u_shape {u : Str} (h : u ∈ units) : Shape (chs u) := shape_of ((show ∀ u ∈ units, shapeB (chs u) = true by decide) u h)
theorem chs_map_inj {l l' : List Str} (h : l.map chs = l'.map chs) : l = l' := by
  induction l generalizing l' with
  | nil => cases l' with
    | nil => rfl
    | cons b s => simp at h
  | cons a r ih => cases l' with
    | nil => simp at h
    | cons b s =>
      simp only [List.map_cons, List.cons.injEq] at h
      rw [chs_ext h.1, ih h.2]
/- join and split at one sign -/
noncomputable def jc : List (List Nat) → List Nat
  | [] => []
  | [a] => a
  | a :: b :: r => a ++ 47 :: jc (b :: r)
theorem chs_join : ∀ l : List Str, chs (Str.join Sl l) = jc (l.map chs)
  | [] => rfl
  | [a] => rfl
  | a :: b :: r => by
    show chs (a ++ Sl ++ Str.join Sl (b :: r)) = _
    rw [chs_append, chs_append, chs_join (b :: r), chs_sl]
    simp [jc]
theorem sep_inj : ∀ {a b r s : List Nat}, 47 ∉ a → 47 ∉ b → a ++ 47 :: r = b ++ 47 :: s → a = b ∧ r = s
  | [], [], _, _, _, _, h => ⟨rfl, by simpa using h⟩
  | [], y :: b, _, _, _, hb, h => by simp at h; exact absurd h.1 (fun e => hb (by rw [← e]; exact .head _))
  | x :: a, [], _, _, ha, _, h => by simp at h; exact absurd h.1 (fun e => ha (by rw [e]; exact .head _))
  | x :: a, y :: b, r, s, ha, hb, h => by
    simp only [List.cons_append, List.cons.injEq] at h
    obtain ⟨e1, e2⟩ := sep_inj (fun z => ha (.tail _ z)) (fun z => hb (.tail _ z)) h.2
    exact ⟨by rw [h.1, e1], e2⟩
theorem jc_inj : ∀ {l l' : List (List Nat)}, l ≠ [] → l' ≠ [] → (∀ c ∈ l, 47 ∉ c) → (∀ c ∈ l', 47 ∉ c) → jc l = jc l' → l = l'
  | [], _, h, _, _, _, _ => absurd rfl h
  | _ :: _, [], _, h, _, _, _ => absurd rfl h
  | [a], [b], _, _, _, _, h => by rw [show a = b from h]
  | [a], b :: c :: s, _, _, h1, _, h => by
    have h : a = b ++ 47 :: jc (c :: s) := h
    exact absurd (by rw [h]; simp) (h1 a (.head _))
  | a :: c :: r, [b], _, _, _, h2, h => by
    have h : a ++ 47 :: jc (c :: r) = b := h
    exact absurd (by rw [← h]; simp) (h2 b (.head _))
  | a :: c :: r, b :: d :: s, _, _, h1, h2, h => by
    have h : a ++ 47 :: jc (c :: r) = b ++ 47 :: jc (d :: s) := h
    obtain ⟨e1, e2⟩ := sep_inj (h1 a (.head _)) (h2 b (.head _)) h
    have e3 := jc_inj (l := c :: r) (l' := d :: s) (by simp) (by simp) (fun x hx => h1 x (.tail _ hx)) (fun x hx => h2 x (.tail _ hx)) e2
    rw [e1, e3]
theorem split_ne (x : Str) : Txt.split x Sl ≠ [] := fun e => by
  have := PyProof.Rows.split_pos x Sl
  rw [e] at this; simp at this
theorem split_free (x : Str) : ∀ c ∈ Txt.split x Sl, 47 ∉ chs c := by
  rw [sl_lit]; exact StrLaws.split_free x 47
theorem split_of {x : Str} {l : List Str} (hne : l ≠ []) (h : ∀ c ∈ l, 47 ∉ chs c) (hx : chs x = jc (l.map chs)) : Txt.split x Sl = l := by
  have h1 : chs x = jc ((Txt.split x Sl).map chs) := by rw [← chs_join, StrLaws.join_split]
  refine chs_map_inj (jc_inj ?_ ?_ ?_ ?_ (h1.symm.trans hx))
  · simpa using split_ne x
  · simpa using hne
  · intro c hc
    obtain ⟨d, hd, rfl⟩ := List.mem_map.mp hc
    exact split_free x d hd
  · intro c hc
    obtain ⟨d, hd, rfl⟩ := List.mem_map.mp hc
    exact h d hd
theorem split_join {l : List Str} (hne : l ≠ []) (h : ∀ c ∈ l, 47 ∉ chs c) : Txt.split (Txt.join Sl l) Sl = l :=
  split_of hne h (by rw [txtjoin]; exact chs_join l)
theorem jc_snoc : ∀ {l : List (List Nat)} (c : List Nat), l ≠ [] → jc (l ++ [c]) = jc l ++ 47 :: c
  | [], _, h => absurd rfl h
  | [a], c, _ => rfl
  | a :: b :: r, c, _ => by
    have := jc_snoc (l := b :: r) c (by simp)
    show a ++ 47 :: jc (b :: r ++ [c]) = (a ++ 47 :: jc (b :: r)) ++ 47 :: c
    rw [this]; simp
noncomputable def comps (p : Str) : List Str := (Txt.split p Sl).foldl nstep []
theorem split_e : Txt.split (Str.ofString "") Sl = [Str.ofString ""] := split_of (by simp) (by decide) (by decide)
theorem comps_nil : comps (Str.ofString "") = [] := by unfold comps; rw [split_e]; decide
theorem chs_joinF (p c : Str) : chs (joinF p c) = if chs p = [] then chs c else chs p ++ 47 :: chs c := by
  unfold joinF
  have := chs_len p
  by_cases h : p.length = 0
  · rw [if_pos h, if_pos (List.eq_nil_of_length_eq_zero (by omega))]
  · rw [if_neg h, if_neg (fun e => by rw [e] at this; simp at this; omega), chs_append, chs_append, chs_sl]; rfl
theorem comps_join {p c : Str} (hc : 47 ∉ chs c) : comps (joinF p c) = nstep (comps p) c := by
  have h0 := chs_joinF p c
  by_cases h : chs p = []
  · rw [if_pos h] at h0
    have e1 : p = Str.ofString "" := chs_ext (by rw [h, chs_e])
    have e2 : Txt.split (joinF p c) Sl = [c] := split_of (by simp) (by simpa using hc) (by rw [h0]; rfl)
    rw [e1, comps_nil]
    unfold comps
    rw [e1] at e2
    rw [e2]; rfl
  · rw [if_neg h] at h0
    have e2 : Txt.split (joinF p c) Sl = Txt.split p Sl ++ [c] := by
      refine split_of (by simp) ?_ ?_
      · intro d hd
        rcases List.mem_append.mp hd with hd | hd
        · exact split_free p d hd
        · rw [List.mem_singleton.mp hd]; exact hc
      · rw [h0, List.map_append, List.map_singleton, jc_snoc _ (by simpa using split_ne p), ← chs_join, StrLaws.join_split]
    unfold comps
    rw [e2, List.foldl_append]; rfl
theorem comps_of {l : List Str} (h : ∀ c ∈ l, 47 ∉ chs c) : comps (Txt.join Sl l) = l.foldl nstep [] := by
  cases l with
  | nil => exact comps_nil
  | cons a r => unfold comps; rw [split_join (by simp) h]
theorem jc_len_pos {l : List Str} (hne : l ≠ []) (h : ∀ c ∈ l, chs c ≠ []) : (Txt.join Sl l).length ≠ 0 := by
  intro e
  have h1 := chs_len (Txt.join Sl l)
  rw [txtjoin, chs_join] at h1
  rw [txtjoin] at e
  have h2 : jc (l.map chs) = [] := List.eq_nil_of_length_eq_zero (by omega)
  match l, hne, h with
  | [a], _, h => exact h a (.head _) h2
  | a :: b :: r, _, _ => have h2 : chs a ++ 47 :: jc ((b :: r).map chs) = [] := h2; simp at h2
theorem normF_eq (p : Str) : normF p = if (Txt.join Sl (comps p)).length = 0 then Str.ofString "." else Txt.join Sl (comps p) := rfl
theorem names_of {p : Str} {l : List Str} (hc : comps p = l) (hl : AllU l) : namesOf p = l := by
  unfold namesOf
  rw [normF_eq, hc]
  cases l with
  | nil =>
    rw [if_pos (by decide)]
    rw [show Txt.split (Str.ofString ".") (Str.ofString "/") = [Str.ofString "."] from split_of (by simp) (by decide) (by decide)]
    decide
  | cons a r =>
    rw [if_neg (jc_len_pos (by simp) (fun c hc => u_ne c (hl c hc)))]
    rw [show Txt.split (Txt.join Sl (a :: r)) (Str.ofString "/") = a :: r from split_join (by simp) (fun c hc => u_no47 c (hl c hc))]
    refine List.filter_eq_self.mpr fun c hc => ?_
    simpa using u_dot c (hl c hc)
theorem nstep_u {acc : List Str} {u : Str} (hu : u ∈ units) : nstep acc u = acc ++ [u] := by
  unfold nstep
  rw [if_neg (fun h => h.elim (u_emp u hu) (u_dot u hu)), if_pos (.inl (u_dd u hu))]
theorem nstep_dd {acc : List Str} {c : Str} (hu : c ≠ DD) : nstep (acc ++ [c]) DD = acc := by
  unfold nstep
  rw [if_neg (by decide), if_neg, List.dropLast_concat]
  rintro (e | e | e)
  · exact e rfl
  · simp at e
  · rw [List.getLast?_concat] at e
    exact hu (Option.some.inj e)
theorem dots_comps : ∀ (pd : List Str) (p : Str) (s : List Str), comps p = s ++ pd → AllU pd → comps (dots pd.length p) = s
  | [], p, s, h, _ => by rw [List.append_nil] at h; exact h
  | c :: pd, p, s, h, hu => by
    have ih := dots_comps pd p (s ++ [c]) (by rw [h]; simp) (fun x hx => hu x (.tail _ hx))
    show comps (joinF (dots pd.length p) DD) = s
    rw [comps_join (by decide), ih]
    exact nstep_dd (u_dd c (hu c (.head _)))
end Mine
end
section
open PySem PySem.W PyProof.Rows
namespace Mine
abbrev ASt := List Str × List Str
noncomputable def astep (st : ASt) (u : Str) : ASt :=
  if u = Qt then (if st.2 = [] then (st.1, [u]) else (st.1, [])) else if st.2 = [] then (st.1 ++ [u], []) else (st.1, st.2 ++ [u])
noncomputable def ast (us : List Str) : ASt := us.foldl astep ([], [])
noncomputable def nms (us : List Str) : List Str := (ast us).1 ++ (ast us).2
noncomputable def fl (us : List Str) : List Nat := us.flatMap chs
theorem fl_append (a b : List Str) : fl (a ++ b) = fl a ++ fl b := List.flatMap_append
theorem fl_one (u : Str) : fl [u] = chs u := by simp [fl]
theorem fl_nil : fl [] = [] := rfl
theorem fl_cons (u : Str) (r : List Str) : fl (u :: r) = chs u ++ fl r := rfl
structure PathP (p : Str) : Prop where
  head : (chs p).head? ≠ some 47
  last : (chs p).getLast? ≠ some 47
theorem pathP_nil : PathP (Str.ofString "") := ⟨by decide, by decide⟩
theorem pathP_join {p c : Str} (hp : PathP p) (hc : 47 ∉ chs c) (hn : chs c ≠ []) : PathP (joinF p c) := by
  have h1 : (chs c).head? ≠ some 47 := fun e => hc (List.mem_of_mem_head? e)
  have h2 : (chs c).getLast? ≠ some 47 := fun e => hc (List.mem_of_getLast? e)
  refine ⟨?_, ?_⟩
  · rw [chs_joinF]
    split
    · exact h1
    · rename_i h
      cases hpp : chs p with
      | nil => exact absurd hpp h
      | cons a r => have := hp.head; rw [hpp] at this; exact this
  · rw [chs_joinF]
    split
    · exact h2
    · rw [List.getLast?_append]
      cases hcc : chs c with
      | nil => exact absurd hcc hn
      | cons a r =>
        rw [hcc] at h2
        rw [List.getLast?_cons_cons]
        intro e
        rw [Option.or_eq_some_iff] at e
        rcases e with e | e
        · exact h2 e
        · simp at e
theorem joinF_len (p c : Str) : (joinF p c).length ≤ p.length + 1 + c.length := by
  have h := congrArg List.length (chs_joinF p c)
  have h1 := chs_len p
  have h2 := chs_len c
  rw [chs_len] at h
  split at h <;> (try simp only [List.length_append, List.length_cons] at h) <;> omega
theorem pathP_dots {p : Str} (hp : PathP p) : ∀ n, PathP (dots n p)
  | 0 => hp
  | n + 1 => pathP_join (pathP_dots hp n) (by decide) (by decide)
theorem dots_len (p : Str) : ∀ n, (dots n p).length ≤ p.length + 3 * n
  | 0 => Nat.le_refl _
  | n + 1 => by
    have h1 := dots_len p n
    have h2 := joinF_len (dots n p) DD
    have h3 : DD.length = 2 := by decide
    show (joinF (dots n p) DD).length ≤ _
    omega
structure Inv (n : Nat) (x : Str × Str × Nat) (a : ASt) (us : List Str) : Prop where
  text : chs x.1 = fl us
  deep : x.2.2 = a.2.length
  path : comps x.2.1 = a.1 ++ a.2
  u1 : AllU a.1
  u2 : AllU a.2
  plen : x.2.1.length + 3 * x.2.2 ≤ 6 * n
  pp : PathP x.2.1
  alen : a.1.length + a.2.length ≤ n
  tlen : (fl us).length ≤ 2 * n
theorem allU_app {a b : List Str} (ha : AllU a) (hb : AllU b) : AllU (a ++ b) := fun u h => (List.mem_append.mp h).elim (ha u) (hb u)
theorem allU_one {u : Str} (h : u ∈ units) : AllU [u] := fun _ hv => (List.mem_singleton.mp hv) ▸ h
theorem ar1 {J P U D n : Nat} (jl : J ≤ P + 1 + U) (hU : U ≤ 2) (ipl : P + 3 * D ≤ 6 * n) : J + 3 * (D + 1) ≤ 6 * (n + 1) := by
  have h1 : J ≤ P + 3 := Nat.le_trans jl (Nat.add_le_add_left hU (P + 1))
  have h2 : P + 3 + (3 * D + 3) = P + 3 * D + (3 + 3) := Nat.add_add_add_comm P 3 (3 * D) 3
  have h3 : P + 3 + (3 * D + 3) ≤ 6 * n + 6 := h2 ▸ Nat.add_le_add_right ipl 6
  exact Nat.le_trans (Nat.add_le_add_right h1 _) h3
theorem ar2 {J P U D n : Nat} (jl : J ≤ P + 1 + U) (hU : U ≤ 2) (ipl : P + 3 * D ≤ 6 * n) : J + 3 * 0 ≤ 6 * (n + 1) :=
  Nat.le_trans (Nat.le_add_right J _) (ar1 jl hU ipl)
theorem ar3 {J P D n : Nat} (dl : J ≤ P + 3 * D) (ipl : P + 3 * D ≤ 6 * n) : J + 3 * 0 ≤ 6 * (n + 1) :=
  Nat.le_trans dl (Nat.le_trans ipl (Nat.mul_le_mul_left 6 (Nat.le_succ n)))
theorem inv_step {n : Nat} {x : Str × Str × Nat} {a : ASt} {us : List Str} {u : Str} (I : Inv n x a us) (hu : u ∈ units) : Inv (n + 1) (lstep x u) (astep a u) (us ++ [u]) := by
  obtain ⟨it, ide, ip, i1, i2, ipl, ipp, ial, itl⟩ := I
  have hl := u_len u hu
  have hn := u_ne u hu
  have h47 := u_no47 u hu
  have tx : chs (x.1 ++ u) = fl (us ++ [u]) := by rw [chs_append, it, fl_append, fl_one]
  have tl : (fl (us ++ [u])).length ≤ 2 * (n + 1) := by rw [fl_append, fl_one, List.length_append]; exact Nat.add_le_add itl hl
  have jl := joinF_len x.2.1 u
  rw [chs_len] at hl
  have cj : comps (joinF x.2.1 u) = (a.1 ++ a.2) ++ [u] := by rw [comps_join h47, ip, nstep_u hu]
  have al1 : ∀ {k : Nat}, a.1.length + a.2.length ≤ k → a.1.length + 1 + a.2.length ≤ k + 1 := fun h => by rw [Nat.succ_add]; exact Nat.succ_le_succ h
  by_cases hd : a.2 = []
  · have hd0 : x.2.2 = 0 := by rw [ide, hd]; rfl
    have hnd : ¬ 0 < x.2.2 := by rw [hd0]; exact Nat.lt_irrefl 0
    have ial0 : a.1.length ≤ n := Nat.le_trans (Nat.le_add_right _ _) ial
    by_cases hq : u = Qt
    · have e1 : lstep x u = (x.1 ++ u, joinF x.2.1 u, x.2.2 + 1) := by
        unfold lstep
        rw [if_neg (fun h => hnd h.2), if_pos (.inl hq)]
      have e2 : astep a u = (a.1, [u]) := by unfold astep; rw [if_pos hq, if_pos hd]
      rw [e1, e2]
      refine ⟨tx, by rw [hd0]; rfl, ?_, i1, allU_one hu, ar1 jl hl ipl, pathP_join ipp h47 hn, Nat.succ_le_succ ial0, tl⟩
      rw [cj, hd]; simp
    · have e1 : lstep x u = (x.1 ++ u, joinF x.2.1 u, 0) := by
        unfold lstep
        rw [if_neg (fun h => hq h.1), if_neg (fun h => h.elim hq hnd)]
      have e2 : astep a u = (a.1 ++ [u], []) := by unfold astep; rw [if_neg hq, if_pos hd]
      rw [e1, e2]
      refine ⟨tx, rfl, ?_, allU_app i1 (allU_one hu), (fun _ h => nomatch h), ar2 jl hl ipl, pathP_join ipp h47 hn, ?_, tl⟩
      · rw [cj, hd]; simp
      · rw [List.length_append]; exact Nat.succ_le_succ ial0
  · have hd0 : 0 < x.2.2 := by rw [ide]; exact List.length_pos_iff.mpr hd
    by_cases hq : u = Qt
    · have e1 : lstep x u = (x.1 ++ u, dots x.2.2 x.2.1, 0) := by
        unfold lstep
        rw [if_pos ⟨hq, hd0⟩]
      have e2 : astep a u = (a.1, []) := by unfold astep; rw [if_pos hq, if_neg hd]
      rw [e1, e2]
      refine ⟨tx, rfl, ?_, i1, (fun _ h => nomatch h), ar3 (dots_len x.2.1 x.2.2) ipl, pathP_dots ipp _, ?_, tl⟩
      · dsimp only; rw [ide, dots_comps a.2 x.2.1 a.1 ip i2]; simp
      · exact Nat.le_trans (Nat.le_add_right _ _) (Nat.le_trans ial (Nat.le_succ n))
    · have e1 : lstep x u = (x.1 ++ u, joinF x.2.1 u, x.2.2 + 1) := by
        unfold lstep
        rw [if_neg (fun h => hq h.1), if_pos (.inr hd0)]
      have e2 : astep a u = (a.1, a.2 ++ [u]) := by unfold astep; rw [if_neg hq, if_neg hd]
      rw [e1, e2]
      refine ⟨tx, by rw [List.length_append, ide]; rfl, ?_, i1, allU_app i2 (allU_one hu), ar1 jl hl ipl, pathP_join ipp h47 hn, ?_, tl⟩
      · rw [cj]; simp
      · rw [List.length_append]; exact Nat.succ_le_succ ial
theorem inv_fold : ∀ (r : List Str) (n : Nat) (x : Str × Str × Nat) (a : ASt) (us : List Str), Inv n x a us → AllU r → Inv (n + r.length) (r.foldl lstep x) (r.foldl astep a) (us ++ r)
  | [], n, x, a, us, h, _ => by simpa using h
  | u :: r, n, x, a, us, h, hr => by
    have := inv_fold r (n + 1) (lstep x u) (astep a u) (us ++ [u]) (inv_step h (hr u (.head _))) (fun v hv => hr v (.tail _ hv))
    rw [List.append_assoc] at this
    have e : n + (u :: r).length = n + 1 + r.length := by rw [List.length_cons]; omega
    rw [e]; exact this
theorem inv {us : List Str} (h : AllU us) : Inv us.length (lst us) (ast us) us := by
  have := inv_fold us 0 (Str.ofString "", Str.ofString "", 0) ([], []) [] ⟨by decide, rfl, by rw [comps_nil]; rfl, (fun _ h => nomatch h), (fun _ h => nomatch h), by decide, pathP_nil, by decide, by decide⟩ h
  simp only [Nat.zero_add, List.nil_append] at this; exact this
theorem lst_snoc (us : List Str) (u : Str) : lst (us ++ [u]) = lstep (lst us) u := by unfold lst; rw [List.foldl_append]; rfl
theorem nms_u {us : List Str} (h : AllU us) : AllU (nms us) := allU_app (inv h).u1 (inv h).u2
theorem nms_len {us : List Str} (h : AllU us) : (nms us).length ≤ us.length := by have := (inv h).alen; unfold nms; rw [List.length_append]; exact this
theorem names_nms {us : List Str} (h : AllU us) : namesOf (lst us).2.1 = nms us := names_of (inv h).path (nms_u h)
/- sides for the contracts -/
theorem startsw {b : Str} (h : (chs b).head? ≠ some 47) : Txt.startswith b (Str.ofString "/") = false := by
  rw [show Str.ofString "/" = ⟨#[47]⟩ from sl_lit]
  rw [Bool.eq_false_iff]
  intro e
  unfold Txt.startswith at e
  rw [Bool.and_eq_true, decide_eq_true_eq] at e
  have := (StrLaws.subAt_one b 47 0).mp e
  exact h (by rw [List.head?_eq_getElem?]; exact this)
theorem endsw {b : Str} (h : (chs b).getLast? ≠ some 47) : Txt.endswith b (Str.ofString "/") = false := by
  rw [show Str.ofString "/" = ⟨#[47]⟩ from sl_lit]
  rw [Bool.eq_false_iff]
  intro e
  unfold Txt.endswith at e
  rw [Bool.and_eq_true, decide_eq_true_eq] at e
  have h1 : (⟨#[47]⟩ : Str).length = 1 := rfl
  have h2 := chs_len b
  have := (StrLaws.subAt_one b 47 (b.length - 1)).mp ⟨by omega, by rw [h1] at e; exact e.2⟩
  exact h (by rw [List.getLast?_eq_getElem?, h2]; exact this)
theorem endsOk_units : ∀ us : List Str, AllU us → endsOk false (fl us) = true
  | [], _ => rfl
  | u :: r, h => by
    have ih := endsOk_units r (fun v hv => h v (.tail _ hv))
    rw [fl_cons]
    generalize hc : chs u = c
    have hs : Shape c := hc ▸ u_shape (h u (.head _))
    cases hs with
    | one h92 => show (if _ then _ else _) = true; rw [if_neg h92]; exact ih
    | two c => exact ih
end Mine
end
section
open PySem PySem.W PyProof.Rows
namespace Mine
/- the strip -/
noncomputable def posd : Nat → List Str → List (Nat × Str)
  | _, [] => []
  | i, u :: r => (i + (chs u).length - 1, u) :: posd (i + (chs u).length) r
theorem mk_chs (u : Str) : (⟨(chs u).toArray⟩ : Str) = u := chs_ext (by simp [chs])
theorem escs_units : ∀ (us : List Str) (i : Nat), AllU us → escs i false (fl us) = posd i us
  | [], _, _ => rfl
  | u :: r, i, h => by
    have ih := fun j => escs_units r j (fun v hv => h v (.tail _ hv))
    have hm := mk_chs u
    have hs := u_shape (h u (.head _))
    show escs i false (chs u ++ fl r) = (i + (chs u).length - 1, u) :: posd (i + (chs u).length) r
    rw [← ih]
    generalize chs u = c at hm hs ⊢
    subst hm
    cases hs with
    | one h92 =>
      show (if _ then _ else _) = _
      rw [if_neg h92]
      rfl
    | two c => rfl
theorem take_step {X c post : List Nat} {k : Nat} (hk : k ≤ X.length) (hx : X = X.take k ++ (c ++ post)) : X.take (k + c.length) = X.take k ++ c := by
  have hl : (X.take k).length = k := by rw [List.length_take]; omega
  conv => lhs; rw [hx]
  rw [← List.append_assoc]
  exact List.take_left' (by rw [List.length_append, hl])
theorem chs_jn : ∀ l : List Str, chs (Txt.join (Str.ofString "") l) = fl l := by
  intro l
  rw [txtjoin]
  induction l with
  | nil => rfl
  | cons a r ih =>
    cases r with
    | nil => rw [fl_cons]; simp [fl, Str.join]
    | cons b s =>
      show chs (a ++ Str.ofString "" ++ Str.join (Str.ofString "") (b :: s)) = _
      rw [chs_append, chs_append, ih, chs_e, fl_cons a, List.append_nil]
theorem chs_slice {x : Str} {a b : Nat} (hab : a ≤ b) (hb : b ≤ x.length) : chs (Txt.slice x (some (a : Nat)) (some (b : Nat))) = ((chs x).take b).drop a := by
  have h : Txt.slice x (some (a : Nat)) (some (b : Nat)) = _ := StrLaws.sliceText_nat x hab hb
  rw [h]
  show ((chs x).drop a).take (b - a) = _
  rw [List.drop_take]
theorem chs_slice_from {x : Str} {a : Nat} (ha : a ≤ x.length) : chs (Txt.slice x (some (a : Nat)) none) = (chs x).drop a := by
  have hl := chs_len x
  have h : Txt.slice x (some (a : Nat)) none = _ := StrLaws.sliceText_from (x := x) (i := a) ⟨Int.natCast_nonneg a, Int.ofNat_le.mpr (show a ≤ (chs x).length from hl ▸ ha)⟩
  rw [h]
  show ((chs x).drop a).take (((chs x).length : Int) - (a : Int)).toNat = _
  exact List.take_of_length_le (by rw [List.length_drop, Int.toNat_sub]; exact Nat.le_refl _)
structure SI (x : Str) (k : Nat) (st : SSt) (a : ASt) : Prop where
  le : st.1 ≤ k
  cat : fl st.2.2 ++ ((chs x).take k).drop st.1 = fl (a.1 ++ a.2)
  op : match st.2.1 with
    | none => a.2 = []
    | some o => a.2 ≠ [] ∧ st.1 ≤ o ∧ o ≤ k ∧ fl st.2.2 ++ ((chs x).take o).drop st.1 = fl a.1
theorem take_len {X : List Nat} {k : Nat} (h : k ≤ X.length) : (X.take k).length = k := by rw [List.length_take]; exact Nat.min_eq_left h
theorem drop_nil {X : List Nat} {k j : Nat} (hk : k ≤ X.length) (h : k ≤ j) : (X.take k).drop j = [] := List.drop_eq_nil_of_le (by rw [take_len hk]; exact h)
theorem si_step {x : Str} {k : Nat} {st : SSt} {a : ASt} {u : Str} {post : List Nat} (S : SI x k st a) (hk : k ≤ (chs x).length) (hx : chs x = (chs x).take k ++ (chs u ++ post)) :
    SI x (k + (chs u).length) (sstep x st (k + (chs u).length - 1, u)) (astep a u) := by
  obtain ⟨s0, op, R⟩ := st
  obtain ⟨S1, S2, S3⟩ := S
  have hl := chs_len x
  dsimp only at S1 S2 S3
  have htl := take_len hk
  have ht := take_step hk hx
  have hd : ((chs x).take (k + (chs u).length)).drop s0 = ((chs x).take k).drop s0 ++ chs u := by
    rw [ht, List.drop_append_of_le_length (by rw [htl]; exact S1)]
  have S1' : s0 ≤ k + (chs u).length := Nat.le_trans S1 (Nat.le_add_right _ _)
  by_cases hq : u = Qt
  · have e1 : (chs u).length = 1 := by rw [hq]; decide
    rw [e1] at hd ht S1' ⊢
    have ek : k + 1 - 1 = k := rfl
    rw [ek]
    have hk1 : k + 1 ≤ (chs x).length := by
      have h := congrArg List.length hx
      rw [List.length_append, htl, List.length_append, e1] at h
      rw [h]
      exact Nat.add_le_add_left (Nat.le_add_right 1 _) k
    cases op with
    | none =>
      have S3 : a.2 = [] := S3
      have r1 : sstep x (s0, none, R) (k, u) = (s0, some k, R) := by unfold sstep; rw [if_pos hq]
      have r2 : astep a u = (a.1, [u]) := by unfold astep; rw [if_pos hq, if_pos S3]
      rw [r1, r2]
      rw [S3, List.append_nil] at S2
      refine ⟨S1', ?_, List.cons_ne_nil _ _, S1, Nat.le_succ k, S2⟩
      dsimp only
      rw [hd, ← List.append_assoc, S2, fl_append, fl_one]
    | some o =>
      obtain ⟨h1, h2, h3, h4⟩ := S3
      have r2 : astep a u = (a.1, []) := by unfold astep; rw [if_pos hq, if_neg h1]
      have r1 : sstep x (s0, some o, R) (k, u) = (k + 1, none, if s0 ≠ o then R ++ [Txt.slice x (some (s0 : Nat)) (some (o : Nat))] else R) := by unfold sstep; rw [if_pos hq]
      have ho : o ≤ (chs x).length := Nat.le_trans h3 hk
      rw [r1, r2]
      refine ⟨Nat.le_refl _, ?_, rfl⟩
      dsimp only
      rw [drop_nil hk1 (Nat.le_refl _), List.append_nil, List.append_nil, ← h4]
      split
      · rw [fl_append, fl_one, chs_slice h2 (hl ▸ ho)]
      · rename_i h
        have h : s0 = o := Decidable.not_not.mp h
        rw [h, drop_nil ho (Nat.le_refl _), List.append_nil]
  · have r1 : sstep x (s0, op, R) (k + (chs u).length - 1, u) = (s0, op, R) := by unfold sstep; rw [if_neg hq]
    rw [r1]
    cases op with
    | none =>
      have S3 : a.2 = [] := S3
      have r2 : astep a u = (a.1 ++ [u], []) := by unfold astep; rw [if_neg hq, if_pos S3]
      rw [r2]
      refine ⟨S1', ?_, rfl⟩
      dsimp only
      rw [S3, List.append_nil] at S2
      rw [hd, ← List.append_assoc, S2, List.append_nil, fl_append, fl_one]
    | some o =>
      obtain ⟨h1, h2, h3, h4⟩ := S3
      have r2 : astep a u = (a.1, a.2 ++ [u]) := by unfold astep; rw [if_neg hq, if_neg h1]
      rw [r2]
      refine ⟨S1', ?_, List.append_ne_nil_of_right_ne_nil _ (List.cons_ne_nil _ _), h2, Nat.le_trans h3 (Nat.le_add_right _ _), h4⟩
      dsimp only
      rw [hd, ← List.append_assoc, S2, ← List.append_assoc, fl_append _ [u], fl_one]
theorem si_fold (x : Str) : ∀ (r : List Str) (k : Nat) (st : SSt) (a : ASt), SI x k st a → k ≤ (chs x).length → chs x = (chs x).take k ++ fl r → SI x (chs x).length ((posd k r).foldl (sstep x) st) (r.foldl astep a)
  | [], k, st, a, S, hk, hx => by
    have h1 := congrArg List.length hx
    rw [List.length_append, take_len hk, fl_nil, List.length_nil, Nat.add_zero] at h1
    rw [h1]; exact S
  | u :: r, k, st, a, S, hk, hx => by
    rw [fl_cons] at hx
    have h1 := congrArg List.length hx
    rw [List.length_append, take_len hk, List.length_append, ← Nat.add_assoc] at h1
    refine si_fold x r (k + (chs u).length) _ _ (si_step S hk hx) (Nat.le_trans (Nat.le_add_right _ _) (Nat.le_of_eq h1.symm)) ?_
    rw [take_step hk hx, List.append_assoc]; exact hx
theorem ast_noq : ∀ (us : List Str) (s : List Str), (∀ u ∈ us, u ≠ Qt) → us.foldl astep (s, []) = (s ++ us, [])
  | [], s, _ => by simp
  | u :: r, s, h => by
    rw [List.foldl_cons, show astep (s, []) u = (s ++ [u], []) by unfold astep; rw [if_neg (h u (.head _)), if_pos rfl], ast_noq r (s ++ [u]) (fun v hv => h v (.tail _ hv))]
    simp
theorem strip_units {x : Str} {us : List Str} (h : AllU us) (hx : chs x = fl us) : chs (stripF x) = fl (nms us) := by
  have hl := chs_len x
  unfold stripF
  have hh : hasQuote x = decide (34 ∈ chs x) := by
    unfold hasQuote
    rw [show Str.ofString "\"" = ⟨#[34]⟩ by decide]
    exact StrLaws.found_one x 34
  rw [hh]
  by_cases hq : 34 ∈ chs x
  · rw [if_pos (by simpa using hq), chs_jn]
    have hs := si_fold x us 0 (0, none, []) ([], []) ⟨Nat.le_refl _, by simp [fl], rfl⟩ (Nat.zero_le _) (by simpa using hx)
    have he : escs 0 false (chs x) = posd 0 us := by rw [hx]; exact escs_units us 0 h
    rw [he]
    unfold sfold
    obtain ⟨s1, s2, s3⟩ := hs
    have ht : (chs x).take (chs x).length = chs x := List.take_length
    rw [ht] at s2
    unfold nms ast sEnd
    rw [← s2]
    split
    · rename_i hlt
      rw [fl_append, fl_one, chs_slice_from (hl ▸ s1)]
    · rename_i hlt
      rw [List.drop_eq_nil_of_le (by rw [hl]; exact Nat.le_of_not_lt hlt), List.append_nil]
  · rw [if_neg (by simpa using hq), hx]
    have hn : ∀ u ∈ us, u ≠ Qt := by
      intro u hu e
      refine hq ?_
      rw [hx]
      exact List.mem_flatMap.mpr ⟨u, hu, by rw [e]; decide⟩
    have := ast_noq us [] hn
    unfold nms ast
    rw [this]; simp
end Mine
end
section
open PySem PySem.W PyProof.Rows
namespace Mine
/- the check -/
noncomputable def bal : Int → List Str → Bool
  | o, [] => o == 0
  | o, u :: r => if u = Op then bal (o + 1) r else if u = Cl then (if o - 1 < 0 then false else bal (o - 1) r) else bal o r
theorem chk_posd : ∀ (us : List Str) (i : Nat) (o : Int), chk o (posd i us) = bal o us
  | [], _, _ => rfl
  | u :: r, i, o => by
    have ih := fun j o => chk_posd r j o
    show (if u = Op then chk (o + 1) (posd (i + (chs u).length) r) else if u = Cl then (if o - 1 < 0 then false else chk (o - 1) (posd (i + (chs u).length) r)) else chk o (posd (i + (chs u).length) r)) = _
    rw [ih, ih, ih]; rfl
theorem check_units {x : Str} {us : List Str} (h : AllU us) (hx : chs x = fl us) : checkF x = bal 0 (nms us) := by
  unfold checkF
  rw [strip_units h hx, escs_units _ 0 (nms_u h), chk_posd]
noncomputable def wstep (st : Nat × Nat) (u : Str) : Nat × Nat :=
  if u = Op then (st.1, st.2 + 1) else if u = Cl then (if st.2 = 0 then (st.1 + 1, 0) else (st.1, st.2 - 1)) else st
noncomputable def wfold (l : List Str) : Nat × Nat := l.foldl wstep (0, 0)
theorem bal_opens : ∀ (p : Nat) (o : Int) (l : List Str), bal o (List.replicate p Op ++ l) = bal (o + (p : Nat)) l
  | 0, o, l => by simp
  | p + 1, o, l => by
    rw [List.replicate_succ]
    show (if Op = Op then bal (o + 1) (List.replicate p Op ++ l) else _) = _
    rw [if_pos rfl, bal_opens p]
    congr 1; omega
theorem bal_closes : ∀ (q o : Nat), bal (o : Nat) (List.replicate q Cl) = decide (o = q)
  | 0, o => by
    show ((o : Int) == 0) = _
    rw [Bool.eq_iff_iff]; simp
  | q + 1, o => by
    rw [List.replicate_succ]
    show (if Cl = Op then _ else if Cl = Cl then (if (o : Int) - 1 < 0 then false else bal ((o : Int) - 1) (List.replicate q Cl)) else _) = _
    rw [if_neg (by decide), if_pos rfl]
    cases o with
    | zero => rw [if_pos (by decide)]; symm; exact decide_eq_false (fun h => nomatch h)
    | succ o' =>
      have e : ((o' + 1 : Nat) : Int) - 1 = (o' : Nat) := Int.add_sub_cancel (o' : Int) 1
      rw [e, if_neg (Int.not_lt.mpr (Int.natCast_nonneg o')), bal_closes q]
      exact decide_eq_decide.mpr ⟨congrArg Nat.succ, Nat.succ.inj⟩
theorem wstep_mono (st : Nat × Nat) (u : Str) : st.1 ≤ (wstep st u).1 := by
  unfold wstep
  split
  · exact Nat.le_refl _
  · split
    · split
      · exact Nat.le_succ _
      · exact Nat.le_refl _
    · exact Nat.le_refl _
theorem wfold_mono : ∀ (l : List Str) (st : Nat × Nat), st.1 ≤ (l.foldl wstep st).1
  | [], _ => Nat.le_refl _
  | u :: r, st => Nat.le_trans (wstep_mono st u) (wfold_mono r (wstep st u))
theorem int_pred {o : Nat} (h : ¬ (o : Int) - 1 < 0) : ∃ o', o = o' + 1 ∧ (o : Int) - 1 = (o' : Nat) := by
  cases o with
  | zero => exact absurd (by decide) h
  | succ o' => exact ⟨o', rfl, Int.add_sub_cancel (o' : Int) 1⟩
theorem pred_neg {o : Nat} (h : (o : Int) - 1 < 0) : o = 0 := by
  cases o with
  | zero => rfl
  | succ o' =>
    have e : ((o' + 1 : Nat) : Int) - 1 = (o' : Nat) := Int.add_sub_cancel (o' : Int) 1
    rw [e] at h
    exact absurd h (Int.not_lt.mpr (Int.natCast_nonneg o'))
theorem bal_way (p q : Nat) : ∀ (l : List Str) (a b o : Nat), a ≤ p → o + a = p + b → bal (o : Nat) (l ++ List.replicate q Cl) = decide ((l.foldl wstep (a, b)).1 ≤ p ∧ p + (l.foldl wstep (a, b)).2 = q + (l.foldl wstep (a, b)).1)
  | [], a, b, o, ha, ho => by
    rw [List.nil_append, bal_closes]
    show _ = decide (a ≤ p ∧ p + b = q + a)
    rw [Bool.eq_iff_iff, decide_eq_true_eq, decide_eq_true_eq, ← ho]
    exact ⟨fun h => ⟨ha, by rw [h]⟩, fun h => Nat.add_right_cancel h.2⟩
  | u :: r, a, b, o, ha, ho => by
    rw [List.cons_append, List.foldl_cons]
    show (if u = Op then bal ((o : Int) + 1) (r ++ List.replicate q Cl) else if u = Cl then (if (o : Int) - 1 < 0 then false else bal ((o : Int) - 1) (r ++ List.replicate q Cl)) else bal o (r ++ List.replicate q Cl)) = _
    by_cases h1 : u = Op
    · rw [if_pos h1, show wstep (a, b) u = (a, b + 1) by unfold wstep; rw [if_pos h1]]
      exact bal_way p q r a (b + 1) (o + 1) ha ((Nat.succ_add o a).trans (congrArg Nat.succ ho))
    · rw [if_neg h1]
      by_cases h2 : u = Cl
      · rw [if_pos h2]
        by_cases hb : b = 0
        · rw [show wstep (a, b) u = (a + 1, 0) by unfold wstep; rw [if_neg h1, if_pos h2, if_pos hb]]
          subst hb
          split
          · rename_i hneg
            have o0 := pred_neg hneg
            have hm : a + 1 ≤ (r.foldl wstep (a + 1, 0)).1 := wfold_mono r (a + 1, 0)
            rw [o0, Nat.zero_add, Nat.add_zero] at ho
            symm; rw [decide_eq_false_iff_not]
            exact fun h => Nat.not_succ_le_self a (Nat.le_trans hm (ho ▸ h.1))
          · rename_i hneg
            obtain ⟨o', rfl, e⟩ := int_pred hneg
            rw [e]
            have ho' : o' + (a + 1) = p + 0 := by rw [← ho, Nat.succ_add]; rfl
            exact bal_way p q r (a + 1) 0 o' (Nat.le_trans (Nat.le_add_left _ _) (Nat.le_of_eq ho')) ho'
        · rw [show wstep (a, b) u = (a, b - 1) by unfold wstep; rw [if_neg h1, if_pos h2, if_neg hb]]
          obtain ⟨b', rfl⟩ : ∃ b', b = b' + 1 := ⟨b - 1, (Nat.succ_pred_eq_of_ne_zero hb).symm⟩
          rw [if_neg]
          · cases o with
            | zero =>
              rw [Nat.zero_add] at ho
              exact absurd (ho ▸ ha) (Nat.not_le.mpr (Nat.lt_of_lt_of_le (Nat.lt_succ_self p) (Nat.add_le_add_left (Nat.succ_le_succ (Nat.zero_le b')) p)))
            | succ o' =>
              have e : ((o' + 1 : Nat) : Int) - 1 = (o' : Nat) := Int.add_sub_cancel (o' : Int) 1
              rw [e]
              exact bal_way p q r a b' o' ha (Nat.succ.inj ((Nat.succ_add o' a).symm.trans ho))
          · intro hneg
            have o0 := pred_neg hneg
            rw [o0, Nat.zero_add] at ho
            exact absurd (ho ▸ ha) (Nat.not_le.mpr (Nat.lt_of_lt_of_le (Nat.lt_succ_self p) (Nat.add_le_add_left (Nat.succ_le_succ (Nat.zero_le b')) p)))
      · rw [if_neg h2, show wstep (a, b) u = (a, b) by unfold wstep; rw [if_neg h1, if_neg h2]]
        exact bal_way p q r a b o ha ho
theorem bal_all (l : List Str) (p q : Nat) : bal 0 (List.replicate p Op ++ (l ++ List.replicate q Cl)) = decide ((wfold l).1 ≤ p ∧ p + (wfold l).2 = q + (wfold l).1) := by
  rw [bal_opens]
  have e : (0 : Int) + ((p : Nat) : Int) = ((p : Nat) : Int) := by omega
  rw [e]
  exact bal_way p q l 0 0 p (Nat.zero_le _) (by omega)
/- the units with brackets about them -/
theorem ast_opens : ∀ (p : Nat) (s : List Str), (List.replicate p Op).foldl astep (s, []) = (s ++ List.replicate p Op, []) := fun p s =>
  ast_noq _ s (fun u hu => by rw [List.eq_of_mem_replicate hu]; decide)
theorem ast_pre (pre : List Str) : ∀ (us : List Str) (s pd : List Str), us.foldl astep (pre ++ s, pd) = (pre ++ (us.foldl astep (s, pd)).1, (us.foldl astep (s, pd)).2)
  | [], s, pd => rfl
  | u :: r, s, pd => by
    rw [List.foldl_cons, List.foldl_cons]
    have e : astep (pre ++ s, pd) u = (pre ++ (astep (s, pd) u).1, (astep (s, pd) u).2) := by
      unfold astep
      split
      · split <;> rfl
      · split
        · simp
        · rfl
    rw [e, ast_pre pre r]
theorem ast_closes : ∀ (q : Nat) (s pd : List Str), ((List.replicate q Cl).foldl astep (s, pd)).1 ++ ((List.replicate q Cl).foldl astep (s, pd)).2 = s ++ pd ++ List.replicate q Cl
  | 0, s, pd => by simp
  | q + 1, s, pd => by
    rw [List.replicate_succ, List.foldl_cons]
    by_cases h : pd = []
    · rw [show astep (s, pd) Cl = (s ++ [Cl], []) by unfold astep; rw [if_neg (by decide), if_pos h], ast_closes q, h]
      simp
    · rw [show astep (s, pd) Cl = (s, pd ++ [Cl]) by unfold astep; rw [if_neg (by decide), if_neg h], ast_closes q]
      simp
noncomputable def wrap (p : Nat) (us : List Str) (q : Nat) : List Str := List.replicate p Op ++ (us ++ List.replicate q Cl)
theorem wrap_u {us : List Str} (h : AllU us) (p q : Nat) : AllU (wrap p us q) :=
  allU_app (fun _ hu => (List.eq_of_mem_replicate hu) ▸ op_u) (allU_app h (fun _ hu => (List.eq_of_mem_replicate hu) ▸ cl_u))
theorem nms_wrap (p q : Nat) (us : List Str) : nms (wrap p us q) = List.replicate p Op ++ (nms us ++ List.replicate q Cl) := by
  unfold nms ast wrap
  rw [List.foldl_append, List.foldl_append, ast_opens]
  have := ast_pre (List.replicate p Op) us [] []
  rw [List.append_nil] at this
  rw [List.nil_append, this, ast_closes]
  simp
theorem check_wrap {us : List Str} (h : AllU us) {x : Str} {p q : Nat} (hx : chs x = fl (wrap p us q)) : checkF x = decide ((wfold (nms us)).1 ≤ p ∧ p + (wfold (nms us)).2 = q + (wfold (nms us)).1) := by
  rw [check_units (wrap_u h p q) hx, nms_wrap, bal_all]
theorem fl_len {us : List Str} (h : AllU us) : (fl us).length ≤ 2 * us.length := (inv h).tlen
theorem ckok_units {x : Str} {us : List Str} (h : AllU us) (hn : us.length ≤ 100) (hx : chs x = fl us) : CkOk x := by
  have h1 := chs_len x
  have h2 := chs_len (stripF x)
  have h3 := fl_len h
  have h4 := strip_units h hx
  have h5 := fl_len (nms_u h)
  have h6 := nms_len h
  rw [hx] at h1
  rw [h4] at h2
  exact ⟨by omega, by rw [hx]; exact endsOk_units us h, by omega, by rw [h4]; exact endsOk_units _ (nms_u h)⟩
/- the way -/
abbrev X1 : Str := Str.ofString "x"
noncomputable def wayL (a b : Nat) : List Str := List.replicate a DD ++ List.replicate b X1
theorem wayF_free (u : Str) : 47 ∉ chs (wayF u) := by rcases wayF_cases u with e | e | e <;> rw [e] <;> decide
theorem way_step (a b : Nat) (u : Str) : nstep (wayL a b) (wayF u) = wayL (wstep (a, b) u).1 (wstep (a, b) u).2 := by
  by_cases h1 : u = Op
  · rw [show wayF u = X1 by unfold wayF; rw [if_pos (by rw [h1]; decide)], show wstep (a, b) u = (a, b + 1) by unfold wstep; rw [if_pos h1]]
    unfold nstep
    rw [if_neg (by decide), if_pos (.inl (by decide))]
    unfold wayL
    rw [List.replicate_succ' (n := b)]; simp
  · by_cases h2 : u = Cl
    · rw [show wayF u = DD by rw [h2]; decide]
      by_cases hb : b = 0
      · rw [show wstep (a, b) u = (a + 1, 0) by unfold wstep; rw [if_neg h1, if_pos h2, if_pos hb], hb]
        unfold nstep
        rw [if_neg (by decide), if_pos]
        · unfold wayL
          rw [List.replicate_succ' (n := a)]; simp
        · unfold wayL
          cases a with
          | zero => exact .inr (.inl rfl)
          | succ a => refine .inr (.inr ?_); rw [List.replicate_succ']; simp
      · rw [show wstep (a, b) u = (a, b - 1) by unfold wstep; rw [if_neg h1, if_pos h2, if_neg hb]]
        obtain ⟨c, rfl⟩ : ∃ c, b = c + 1 := ⟨b - 1, by omega⟩
        have e : wayL a (c + 1) = wayL a c ++ [X1] := by unfold wayL; rw [List.replicate_succ']; simp
        rw [e]
        exact nstep_dd (by decide)
    · rw [show wayF u = Str.ofString "." by unfold wayF; rw [if_neg (by simpa using h1), if_neg (by simpa using h2)], show wstep (a, b) u = (a, b) by unfold wstep; rw [if_neg h1, if_neg h2]]
      unfold nstep
      rw [if_pos (.inr rfl)]
theorem way_fold : ∀ (l : List Str) (a b : Nat), (l.map wayF).foldl nstep (wayL a b) = wayL (l.foldl wstep (a, b)).1 (l.foldl wstep (a, b)).2
  | [], _, _ => rfl
  | u :: r, a, b => by rw [List.map_cons, List.foldl_cons, List.foldl_cons, way_step, way_fold r]
theorem way_comps (l : List Str) : comps (Txt.join Sl (l.map wayF)) = wayL (wfold l).1 (wfold l).2 := by
  rw [comps_of (by intro c hc; obtain ⟨u, _, rfl⟩ := List.mem_map.mp hc; exact wayF_free u)]
  exact way_fold l 0 0
noncomputable def wayS (a b : Nat) : Str := if (Txt.join Sl (wayL a b)).length = 0 then Str.ofString "." else Txt.join Sl (wayL a b)
theorem way_norm (l : List Str) : normF (Txt.join Sl (l.map wayF)) = wayS (wfold l).1 (wfold l).2 := by
  rw [normF_eq, way_comps]; rfl
theorem wstep_sum (st : Nat × Nat) (u : Str) : (wstep st u).1 + (wstep st u).2 ≤ st.1 + st.2 + 1 := by
  unfold wstep
  split
  · exact Nat.le_refl _
  · split
    · split
      · exact Nat.succ_le_succ (Nat.le_add_right _ _)
      · exact Nat.le_trans (Nat.add_le_add_left (Nat.sub_le _ _) _) (Nat.le_succ _)
    · exact Nat.le_succ _
theorem wfold_sum : ∀ (l : List Str) (st : Nat × Nat), (l.foldl wstep st).1 + (l.foldl wstep st).2 ≤ st.1 + st.2 + l.length
  | [], st => Nat.le_refl _
  | u :: r, st => Nat.le_trans (wfold_sum r (wstep st u)) (Nat.le_trans (Nat.add_le_add_right (wstep_sum st u) _) (Nat.le_of_eq (Nat.succ_add _ _)))
theorem wf7 {us : List Str} (h : AllU us) (hL : us.length ≤ 7) : (wfold (nms us)).1 < 8 ∧ (wfold (nms us)).2 < 8 ∧ (wfold (nms us)).1 + (wfold (nms us)).2 < 8 := by
  have hw : (wfold (nms us)).1 + (wfold (nms us)).2 ≤ 0 + 0 + (nms us).length := wfold_sum (nms us) (0, 0)
  have h1 := Nat.le_trans hw (Nat.le_trans (Nat.le_of_eq (Nat.zero_add _)) (Nat.le_trans (nms_len h) hL))
  exact ⟨Nat.lt_succ_of_le (Nat.le_trans (Nat.le_add_right _ _) h1), Nat.lt_succ_of_le (Nat.le_trans (Nat.le_add_left _ _) h1), Nat.lt_succ_of_le h1⟩
theorem way_count : ∀ a : Nat, a < 8 → ∀ b : Nat, b < 8 → a + b < 8 → Txt.count (wayS a b) DD = a ∧ Txt.count (wayS a b) X1 = b ∧ (wayS a b).length ≤ 40 := by decide +kernel
theorem way_counts {us : List Str} (h : AllU us) (hn : us.length ≤ 7) :
    Txt.count (normF (Txt.join Sl ((nms us).map wayF))) DD = ((wfold (nms us)).1 : Nat) ∧ Txt.count (normF (Txt.join Sl ((nms us).map wayF))) X1 = ((wfold (nms us)).2 : Nat) ∧ (normF (Txt.join Sl ((nms us).map wayF))).length ≤ 40 := by
  obtain ⟨h1, h2, h3⟩ := wf7 h hn
  rw [way_norm]
  exact way_count _ h1 _ h2 h3
end Mine
end
section
open PySem PySem.W PyProof.Rows
namespace Mine
theorem lst_bounds {us : List Str} {i : Nat} (h : AllU us) (hi : us.length = i) (h7 : i ≤ 7) : (lst us).1.length ≤ 100 ∧ (lst us).2.1.length ≤ 100 ∧ (lst us).2.2 ≤ 7 := by
  have I := inv h
  have h7 : us.length ≤ 7 := hi ▸ h7
  have h5 := congrArg List.length I.text
  rw [chs_len] at h5
  exact ⟨h5 ▸ Nat.le_trans I.tlen (Nat.le_trans (Nat.mul_le_mul_left 2 h7) (by decide)), Nat.le_trans (Nat.le_add_right _ _) (Nat.le_trans I.plen (Nat.le_trans (Nat.mul_le_mul_left 6 h7) (by decide))),
    I.deep ▸ Nat.le_trans (Nat.le_add_left _ _) (Nat.le_trans I.alen h7)⟩
theorem u_length {u : Str} (h : u ∈ units) : u.length ≤ 2 := by have := u_len u h; rw [chs_len] at this; exact this
theorem join_ok {p c : Str} (hp : PathP p) (hl : p.length ≤ 900) (hc : 47 ∉ chs c) (hcl : c.length ≤ 2) : p.length ≤ 1000 ∧ c.length ≤ 1000 ∧ Txt.startswith c (Str.ofString "/") = false ∧ Txt.endswith p (Str.ofString "/") = false :=
  ⟨by omega, by omega, startsw (fun e => hc (List.mem_of_mem_head? e)), endsw hp.last⟩
theorem join_u {us : List Str} {i : Nat} {u : Str} (h : AllU us) (hi : us.length = i) (h7 : i ≤ 7) (hu : u ∈ units) : (lst us).2.1.length ≤ 1000 ∧ u.length ≤ 1000 ∧ Txt.startswith u (Str.ofString "/") = false ∧ Txt.endswith (lst us).2.1 (Str.ofString "/") = false :=
  join_ok (inv h).pp (by have := (lst_bounds h hi h7).2.1; omega) (u_no47 u hu) (u_length hu)
theorem join_dd {us : List Str} {i j : Nat} (h : AllU us) (hi : us.length = i) (h7 : i ≤ 7) (hj : j < (lst us).2.2) : (dots j (lst us).2.1).length ≤ 1000 ∧ (Str.ofString "..").length ≤ 1000 ∧ Txt.startswith (Str.ofString "..") (Str.ofString "/") = false ∧ Txt.endswith (dots j (lst us).2.1) (Str.ofString "/") = false :=
  join_ok (pathP_dots (inv h).pp j) (by have := lst_bounds h hi h7; have := dots_len (lst us).2.1 j; omega) (by decide) (by decide)
theorem path_ok {us : List Str} {i : Nat} (h : AllU us) (hi : us.length = i) (h7 : i ≤ 7) : (lst us).2.1.length ≤ 1000 ∧ (Txt.slice (lst us).2.1 none (some 1) != Str.ofString "/") = true :=
  ⟨by have := (lst_bounds h hi h7).2.1; omega, slice1_ok (inv h).pp.head⟩
theorem lst_yes {us : List Str} {u : Str} (h1 : (u == Str.ofString "\"") = true) (h2 : ((0 : Nat) : Int) < ((lst us).2.2 : Nat)) : lst (us ++ [u]) = ((lst us).1 ++ u, dots (lst us).2.2 (lst us).2.1, 0) := by
  rw [lst_snoc]; unfold lstep; rw [if_pos ⟨eq_of_beq h1, by omega⟩]
theorem lst_no {us : List Str} {u : Str} (h : (u == Str.ofString "\"") = false ∨ ¬ ((0 : Nat) : Int) < ((lst us).2.2 : Nat)) : (lst (us ++ [u])).2.1 = joinF (lst us).2.1 u := by
  rw [lst_snoc]; unfold lstep
  rw [if_neg]
  rintro ⟨h1, h2⟩
  rcases h with h | h
  · rw [h1] at h; revert h; decide
  · omega
theorem lst_up {us : List Str} {u : Str} (h : ((u == Str.ofString "\"") = true ∧ ¬ ((0 : Nat) : Int) < ((lst us).2.2 : Nat)) ∨ ((u == Str.ofString "\"") = false ∧ ((0 : Nat) : Int) < ((lst us).2.2 : Nat))) : (lst (us ++ [u])).2.2 = (lst us).2.2 + 1 := by
  rw [lst_snoc]; unfold lstep
  rcases h with ⟨h1, h2⟩ | ⟨h1, h2⟩
  · rw [if_neg (by rintro ⟨_, h⟩; omega), if_pos (.inl (eq_of_beq h1))]
  · rw [if_neg (by rintro ⟨h, _⟩; rw [h] at h1; revert h1; decide), if_pos (.inr (by omega))]
theorem lst_zero {us : List Str} {u : Str} (h1 : (u == Str.ofString "\"") = false) (h2 : ¬ ((0 : Nat) : Int) < ((lst us).2.2 : Nat)) : (lst (us ++ [u])).2.2 = 0 := by
  rw [lst_snoc]; unfold lstep
  rw [if_neg (by rintro ⟨_, h⟩; omega), if_neg]
  rintro (h | h)
  · rw [h] at h1; revert h1; decide
  · omega
theorem lst_text (us : List Str) (u : Str) : (lst (us ++ [u])).1 = (lst us).1 ++ u := by
  rw [lst_snoc]; unfold lstep; split <;> rfl
theorem strip_ok {us : List Str} {i : Nat} (h : AllU us) (hi : us.length = i) (h7 : i ≤ 7) : (lst us).1.length ≤ 1000 ∧ endsOk false (chs (lst us).1) = true :=
  ⟨by have := (lst_bounds h hi h7).1; omega, by rw [(inv h).text]; exact endsOk_units us h⟩
theorem strip_eq {us : List Str} (h : AllU us) : stripF (lst us).1 = Txt.join (Str.ofString "") (nms us) := chs_ext (by rw [strip_units h (inv h).text, chs_jn])
theorem fl_le {l : List Str} (h : AllU l) : wgt l ≤ 3 * l.length := by
  induction l with
  | nil => decide
  | cons u r ih =>
    have := ih (fun v hv => h v (.tail _ hv))
    have h1 := u_length (h u (.head _))
    have h3 : wgt (u :: r) = wgt [u] + wgt r := wgt_append [u] r
    have h4 : wgt [u] = u.length + 1 := by simp [wgt]
    rw [List.length_cons]; omega
theorem norm_len {us : List Str} {i : Nat} (h : AllU us) (hi : us.length = i) (h7 : i ≤ 7) : (normF (lst us).2.1).length ≤ 100 := by
  rw [normF_eq, show comps (lst us).2.1 = nms us from (inv h).path]
  have h1 := join_le_wgt Sl (by decide) (nms us)
  have h2 := fl_le (nms_u h)
  have h3 := nms_len h
  split
  · decide
  · omega
theorem rs_facts {us : List Str} {i : Nat} {rs : List (Str × Tok)} (h : AllU us) (hi : us.length = i) (h7 : i ≤ 7) (hl : rs.map (·.1) = nms us) :
    rs.length ≤ 100 ∧ ((rs.map (·.1)).map (·.length)).sum + (rs.map (·.1)).length * (Str.ofString "").length ≤ 16777216 ∧ stripF (lst us).1 = Txt.join (Str.ofString "") (rs.map (·.1)) ∧
    Txt.count (normF (Txt.join (Str.ofString "/") ((rs.map (·.1)).map wayF))) (Str.ofString "..") = ((wfold (nms us)).1 : Nat) ∧
    Txt.count (normF (Txt.join (Str.ofString "/") ((rs.map (·.1)).map wayF))) (Str.ofString "x") = ((wfold (nms us)).2 : Nat) ∧
    (normF (Txt.join (Str.ofString "/") ((rs.map (·.1)).map wayF))).length ≤ 40 ∧ (wfold (nms us)).1 ≤ 7 ∧ (wfold (nms us)).2 ≤ 7 := by
  have hn : us.length ≤ 7 := hi ▸ h7
  have h1 := Nat.le_trans (nms_len h) hn
  have h2 := congrArg List.length hl
  rw [List.length_map] at h2
  have h4 := joinOk0 (l := nms us) (Nat.le_trans (fl_le (nms_u h)) (Nat.le_trans (Nat.mul_le_mul_left 3 h1) (by decide)))
  obtain ⟨c1, c2, c3⟩ := way_counts h hn
  obtain ⟨w1, w2, _⟩ := wf7 h hn
  exact ⟨h2 ▸ Nat.le_trans h1 (by decide), by rw [hl]; exact h4, by rw [hl]; exact strip_eq h, by rw [hl]; exact c1, by rw [hl]; exact c2, by rw [hl]; exact c3, Nat.le_of_lt_succ w1, Nat.le_of_lt_succ w2⟩
theorem cb7 : ∀ a : Nat, a < 8 → (a : Int) ≤ 100 ∧ (a : Int) - 1 ≤ 100 ∧ (a : Int) + 1 ≤ 100 ∧ -100 ≤ (a : Int) ∧ -100 ≤ (a : Int) - 1 ∧ -100 ≤ (a : Int) + 1 := by decide +kernel
theorem count_bounds {C1 C2 : Int} {a b : Nat} (h1 : C1 = (a : Nat)) (h2 : C2 = (b : Nat)) (ha : a ≤ 7) (hb : b ≤ 7) :
    C1 ≤ 100 ∧ C2 ≤ 100 ∧ C1 - 1 ≤ 100 ∧ C2 - 1 ≤ 100 ∧ C1 + 1 ≤ 100 ∧ C2 + 1 ≤ 100 ∧ -100 ≤ C1 ∧ -100 ≤ C2 ∧ -100 ≤ C1 - 1 ∧ -100 ≤ C2 - 1 ∧ -100 ≤ C1 + 1 ∧ -100 ≤ C2 + 1 := by
  subst h1 h2
  have x := cb7 a (Nat.lt_succ_of_le ha)
  have y := cb7 b (Nat.lt_succ_of_le hb)
  exact ⟨x.1, y.1, x.2.1, y.2.1, x.2.2.1, y.2.2.1, x.2.2.2.1, y.2.2.2.1, x.2.2.2.2.1, y.2.2.2.2.1, x.2.2.2.2.2, y.2.2.2.2.2⟩
end Mine
end
section
open PySem PySem.W PyProof.Rows PySem.Calls PySem.Spec PyProof.V PySem.SeqAt
namespace Mine
abbrev sPath : Str := Str.ofString "path"
abbrev sDeep : Str := Str.ofString "deep"
abbrev sStep : Str := Str.ofString "step"
noncomputable def IfP (h₀ : Heap) (L : Addr) (news : List (Addr × Obj)) (m : Str → Option Value) (p : Str) (d : Nat) (s : Shared) (f : Flow) (s' : Shared) : Prop :=
  f = .next ∧ ∃ m' h' g' tk' t2 t3, s' = { s with heap := h', gens := g', toks := tk' } ∧ AllBare g' ∧ Fr h₀ L h' m' ∧ News h₀ L h' news ∧
    m' (Str.ofString "path") = some (.str p t2) ∧ m' (Str.ofString "deep") = some (.int (d : Nat) t3) ∧ ∀ z : Str, z ≠ Str.ofString "path" → z ≠ Str.ofString "deep" → z ≠ Str.ofString "step" → m' z = m z
theorem map3c {m m₀ : Str → Option Value} {a b c : Str} {va vb : Value} (ha : m a = some va) (hb : m b = some vb) (hm : ∀ y, y ≠ a → y ≠ b → y ≠ c → m y = m₀ y) :
    m = fun y => if y = a then some va else if y = b then some vb else if y = c then m c else m₀ y := by
  funext y
  by_cases h1 : y = a
  · rw [if_pos h1, h1, ha]
  · rw [if_neg h1]
    by_cases h2 : y = b
    · rw [if_pos h2, h2, hb]
    · rw [if_neg h2]
      by_cases h3 : y = c
      · rw [if_pos h3, h3]
      · rw [if_neg h3, hm y h1 h2 h3]
section
variable {prog : Program} {w : World} {A : Around} {h₀ : Heap} {L : Addr} {news : List (Addr × Obj)} {m : Str → Option Value}
theorem cut_if {st : Stmt} {env : Env} {E : Value → Shared → Prop} {s s₀ : Shared} {h : Heap} {Q : Flow → Shared → Prop} (_ : Fr h₀ L h m) (_ : News h₀ L h news) (p : Str) (d : Nat)
    (hif : wpAny (model prog w) A (exec st env) (IfP h₀ L news m p d s₀) (fun _ _ => False) s)
    (rest : ∀ (m₂ : Str → Option Value) (h' : Heap) (g' : Array GenState) (tk' : Nat) (t2 t3 : Tok), AllBare g' → Fr h₀ L h' (fun y => if y = Str.ofString "path" then some (.str p t2) else if y = Str.ofString "deep" then some (.int (d : Nat) t3) else if y = Str.ofString "step" then m₂ (Str.ofString "step") else m y) →
      News h₀ L h' news → Q .next { s₀ with heap := h', gens := g', toks := tk' }) :
    wpAny (model prog w) A (exec st env) Q E s := by
  refine wpAny_mono hif (fun f s' hp => ?_) (fun _ _ e => e.elim)
  obtain ⟨rfl, m', h', g', tk', t2, t3, rfl, hg, F', N', hp, hd, hz⟩ := hp
  rw [map3c hp hd hz] at F'
  exact rest m' h' g' tk' t2 t3 hg F' N'
theorem tpost_next {I : Addr} {oI : Obj} {J : (Str → Option Value) → List (Addr × Obj) → Array GenState → Prop} {s : Shared} {Q : Flow → Shared → Prop} {h' : Heap} {g' : Array GenState} {tk' : Nat} {news' : List (Addr × Obj)}
    (F : Fr h₀ L h' m) (N : News h₀ L h' news') (hs : ∀ p ∈ ((I, oI) :: news), p ∈ news') (hJ : J m news g') : TurnPost h₀ L I oI J s Q .next { s with heap := h', gens := g', toks := tk' } :=
  ⟨h', g', tk', m, news, rfl, F, fun p hp => N p (hs p hp), hJ⟩
theorem ifp_intro {news' : List (Addr × Obj)} {m' : Str → Option Value} {p : Str} {d : Nat} {s : Shared} {h' : Heap} {g' : Array GenState} {tk' : Nat} {t2 t3 : Tok} (F : Fr h₀ L h' m') (N : News h₀ L h' news') (hs : ∀ p ∈ news, p ∈ news') (G : AllBare g')
    (hp : m' (Str.ofString "path") = some (.str p t2)) (hd : m' (Str.ofString "deep") = some (.int (d : Nat) t3)) (hz : ∀ z : Str, z ≠ Str.ofString "path" → z ≠ Str.ofString "deep" → z ≠ Str.ofString "step" → m' z = m z) :
    IfP h₀ L news m p d s .next { s with heap := h', gens := g', toks := tk' } := ⟨rfl, m', h', g', tk', t2, t3, rfl, G, F, fun p hp => N p (hs p hp), hp, hd, hz⟩
end
noncomputable def DJ (p0 : Str) (news₀ : List (Addr × Obj)) (m₀ : Str → Option Value) (j : Nat) (m : Str → Option Value) (news : List (Addr × Obj)) (g : Array GenState) : Prop :=
  AllBare g ∧ news = news₀ ∧ (∃ t, m (Str.ofString "path") = some (.str (dots j p0) t)) ∧ ∀ z : Str, z ≠ Str.ofString "path" → z ≠ Str.ofString "step" → m z = m₀ z
theorem small7 {d : Nat} (h : d ≤ 7) : Builtin.Range.small 0 (d : Int) 1 = true ∧ Builtin.Range.rangeSize 0 (d : Int) 1 = (d : Int) := by
  have : ∀ d : Nat, d < 8 → Builtin.Range.small 0 (d : Int) 1 = true ∧ Builtin.Range.rangeSize 0 (d : Int) 1 = (d : Int) := by decide
  exact this d (by omega)
section
variable {prog : Program} {w : World} {A : Around} {s : Shared} {env : Env} {h₀ : Heap}
theorem for_dots {px : Pos} {body : List Stmt} {r : Addr} {t₀ u₀ v₀ : Tok} {n : Nat} {m₀ : Str → Option Value} {news₀ : List (Addr × Obj)} {E : Value → Shared → Prop}
    {R : Result → Shared → Prop} {p0 : Str} {t1 : Tok} (hn : n ≤ 7)
    (hh : A.handled = none) (hr : IsRange s.heap r 0 (n : Nat) 1 t₀ u₀ v₀)
    (F : Fr h₀ env.locals s.heap m₀) (N : News h₀ env.locals s.heap news₀) (hg : AllBare s.gens) (hp0 : m₀ (Str.ofString "path") = some (.str p0 t1))
    (turn : ∀ (j : Nat) (t tp : Tok) (mj : Str → Option Value) (g : Array GenState) (h : Heap) (tk : Nat) (I : Addr) (oI : Obj), j < n → AllBare g → (∀ p ∈ news₀, p.1 < I) →
      Fr h₀ env.locals h (fun y => if y = Str.ofString "step" then some (.int (j : Nat) t) else if y = Str.ofString "path" then some (.str (dots j p0) tp) else if y = Str.ofString "step" then mj (Str.ofString "step") else m₀ y) → News h₀ env.locals h ((I, oI) :: news₀) →
      wpAny (model prog w) A (execs body env) (TurnPost h₀ env.locals I oI (DJ p0 news₀ m₀ (j + 1)) s (fun f s' => R (.ok f) s')) (fun _ _ => False) { s with heap := h, gens := g, toks := tk })
    (done : ∀ (tp : Tok) (mj : Str → Option Value) (g : Array GenState) (h : Heap) (tk : Nat), AllBare g →
      Fr h₀ env.locals h (fun y => if y = Str.ofString "path" then some (.str (dots n p0) tp) else if y = Str.ofString "step" then mj (Str.ofString "step") else m₀ y) → News h₀ env.locals h news₀ → R (.ok .next) { s with heap := h, gens := g, toks := tk })
    (hx : env.kindOf (Str.ofString "step") = some .local := by rfl)
    (hp : (env.scope.kind == .class || (env.scope.kind == .module && env.locals != env.globals)) = false := by rfl) :
    wpAny (model prog w) A (pyIter (.ref r)) (fun it s₂ => codeAny (model prog w) A (.forLoop (.Name (Str.ofString "step") px) it body [] env) R s₂) E s := by
  refine for_range (DJ p0 news₀ m₀) hh hr (small7 hn).1 (small7 hn).2 F N ?_ ⟨hg, rfl, ⟨_, hp0⟩, fun _ _ _ => rfl⟩ ?_ ?_ hx hp
  · rintro j m news g ⟨_, rfl, _⟩ p hp; exact List.mem_map_of_mem hp
  · rintro j t mj newsj g h tk I oI hj ⟨hgj, rfl, ⟨tp, hm1⟩, hm2⟩ hlt Fj Nj
    rw [map2 hm1 hm2] at Fj
    exact turn j t tp mj g h tk I oI hj hgj hlt Fj Nj
  · rintro mj newsj g h tk ⟨hgj, rfl, ⟨tp, hm1⟩, hm2⟩ Fj Nj
    rw [map2 hm1 hm2] at Fj
    exact done tp mj g h tk hgj Fj Nj
end
theorem strs_rs {ys : List Value} {cs : List Str} (h : StrsAre ys cs) : ∃ rs : List (Str × Tok), ys = strValues rs ∧ rs.map (·.1) = cs := by
  induction h with
  | nil => exact ⟨[], rfl, rfl⟩
  | cons x t _ ih =>
    obtain ⟨rs, rfl, rfl⟩ := ih
    exact ⟨(x, t) :: rs, rfl, rfl⟩
noncomputable def NamesP (h₀ : Heap) (L : Addr) (news : List (Addr × Obj)) (m : Str → Option Value) (l : List Str) (s : Shared) (f : Flow) (s' : Shared) : Prop :=
  f = .next ∧ ∃ (D : Addr) (rs : List (Str × Tok)) (k : Nat) (h' : Heap) (g' : Array GenState) (tk' : Nat), s' = { s with heap := h', gens := g', toks := tk' } ∧ AllBare g' ∧ Fr h₀ L h' (fun y => if y = Str.ofString "names" then some (.ref D) else m y) ∧
    News h₀ L h' ((D, W.listOf (strValues rs).toArray k) :: news) ∧ (∀ p ∈ news, p.1 ≠ D) ∧ rs.map (·.1) = l
section
variable {prog : Program} {w : World} {A : Around} {h₀ : Heap} {L : Addr} {news : List (Addr × Obj)} {m : Str → Option Value}
theorem cut_names {st : Stmt} {env : Env} {E : Value → Shared → Prop} {s s₀ : Shared} {h : Heap} {Q : Flow → Shared → Prop} (_ : Fr h₀ L h m) (_ : News h₀ L h news) (l : List Str)
    (hn : wpAny (model prog w) A (exec st env) (NamesP h₀ L news m l s₀) (fun _ _ => False) s)
    (rest : ∀ (D : Addr) (rs : List (Str × Tok)) (k : Nat) (h' : Heap) (g' : Array GenState) (tk' : Nat), AllBare g' → Fr h₀ L h' (fun y => if y = Str.ofString "names" then some (.ref D) else m y) →
      News h₀ L h' ((D, W.listOf (strValues rs).toArray k) :: news) → (∀ p ∈ news, p.1 ≠ D) → rs.map (·.1) = l → Q .next { s₀ with heap := h', gens := g', toks := tk' }) :
    wpAny (model prog w) A (exec st env) Q E s := by
  refine wpAny_mono hn (fun f s' hp => ?_) (fun _ _ e => e.elim)
  obtain ⟨rfl, D, rs, k, h', g', tk', rfl, hg, F', N', hne, hl⟩ := hp
  exact rest D rs k h' g' tk' hg F' N' hne hl
theorem namesp_intro {D S : Addr} {oS : Obj} {ys : List Value} {p : Str} {us : List Str} {l : List (Str × Tok)} {s : Shared} {h' : Heap} {g' : Array GenState} {tk' : Nat} (hU : AllU us) (hp : p = (lst us).2.1)
    (F : Fr h₀ L h' (fun y => if y = Str.ofString "names" then some (.ref D) else m y)) (N : News h₀ L h' ((S, oS) :: news)) (NP : NewPlain h' ((S, oS) :: news) D ys.toArray) (hn : h₀.get? D = none) (G : AllBare g')
    (hc : CarriedAll ys (List.map PyData.str (List.filter (fun a' => a' != Str.ofString ".") (List.map (fun x => x.fst) l)))) (hs : List.map (fun x => x.fst) l = Txt.split (normF p) (Str.ofString "/")) :
    NamesP h₀ L news m (nms us) s .next { s with heap := h', gens := g', toks := tk' } := by
  have h1 : StrsAre ys (nms us) := by
    have h2 : (List.filter (fun a' => a' != Str.ofString ".") (List.map (fun x => x.fst) l)) = nms us := by
      rw [hs, hp]; exact names_nms hU
    rw [h2] at hc
    have h3 := CarriedAll.strsOf (f := fun x => x) hc
    rw [List.map_id'] at h3
    exact h3
  obtain ⟨rs, rfl, hrs⟩ := strs_rs h1
  obtain ⟨n, e⟩ := NP.1
  refine ⟨rfl, D, rs, n, h', g', tk', rfl, G, F, fun p hp => ?_, fun p hp => NP.2 p (.tail _ hp), hrs⟩
  rcases List.mem_cons.mp hp with rfl | hp
  · exact ⟨e, NP.ne_locals F, hn⟩
  · exact N p (.tail _ hp)
end
section
variable {prog : Program} {w : World} {A : Around} {E : Value → Shared → Prop} {s : Shared} {h₀ : Heap} {L D b : Addr} {m : Str → Option Value} {news news' : List (Addr × Obj)} {rs : List (Str × Tok)} {k n2 : Nat} {c1 c2 : Str} {u1 u2 : Tok}
theorem not_long {n : Nat} (b : Bool) (h : n ≤ 100000) : ¬(b && Builtin.List.listTooLong n) = true := by
  rw [Bool.and_eq_true]
  rintro ⟨_, h2⟩
  unfold Builtin.List.listTooLong at h2
  exact absurd (of_decide_eq_true h2) (Nat.not_lt.mpr (line_small h))
theorem extend_sv {Q : Value → Shared → Prop} (F : Fr h₀ L s.heap m) (N : News h₀ L s.heap news) (hb : (b, W.listOf (strValues [(c1, u1), (c2, u2)]).toArray n2) ∈ news)
    (U : Upd D (W.listOf (strValues rs).toArray k) (W.listOf (strValues (rs ++ [(c1, u1), (c2, u2)])).toArray (k + 1)) news news') (hl : rs.length ≤ 1000)
    (h : ∀ h', Fr h₀ L h' m → News h₀ L h' news' → Q .none { s with heap := h' }) : wpAny (model prog w) A (call (.builtin "list.extend") [.ref D, .ref b]) Q E s :=
  kl_extend F N hb (l := strValues (rs ++ [(c1, u1), (c2, u2)])) (by simp [strValues]) (by simp [strValues]) U (not_long _ (by simp [strValues]; omega)) (by rw [show (strValues rs).toArray.toList.length = rs.length by simp [strValues]]; exact line_small (by omega)) (by rw [show (strValues rs).toArray.size + (strValues [(c1, u1), (c2, u2)]).toArray.size = rs.length + 2 by simp [strValues]]; exact Nat.le_trans (line_small (n := rs.length + 2) (by omega)) (Nat.le_succ _)) h
end
theorem readsAll_of_strs {h : Heap} : ∀ {vs : List Value} {cs : List Str}, StrsAre vs cs → ReadsAll h vs (cs.map PyData.str) []
  | _, _, .nil => .nil
  | _, _, .cons k t r => by
    have := ReadsAll.cons (Reads.str (h := h) k t) (readsAll_of_strs (h := h) r)
    simpa using this
theorem reads_of_strs {h : Heap} {a : Addr} {vs : List Value} {cs : List Str} (hl : h.IsList a vs.toArray) (hi : StrsAre vs cs) : Reads h (.ref a) (.list (cs.map PyData.str)) [a] := by
  obtain ⟨o, ho, hc, n, hd⟩ := hl
  exact Reads.list ho hc hd (by simpa using readsAll_of_strs hi)
theorem canLayAll0_strs : ∀ cs : List Str, (∀ c ∈ cs, PyData.strOk c = true) → PyData.canLayAll0 (cs.map PyData.str) = true
  | [], _ => by simp [PyData.canLayAll0]
  | n :: r, h => by simp [PyData.canLayAll0, PyData.canLay0, canLayAll0_strs r (fun c hc => h c (.tail _ hc)), h n (.head _)]
theorem depthAll_strs : ∀ cs : List Str, PyData.depthAll (cs.map PyData.str) ≤ 1
  | [] => by simp [PyData.depthAll]
  | n :: r => by
    have := depthAll_strs r
    simp only [List.map_cons, PyData.depthAll, PyData.depth]
    omega
theorem shaped_strs (cs : List Str) (hs : ∀ c ∈ cs, PyData.strOk c = true) : shaped (.list (cs.map PyData.str)) = true := by
  have h1 := depthAll_strs cs
  have h2 : PyData.depth (.list (cs.map PyData.str)) ≤ 64 := by simp only [PyData.depth]; omega
  show (PyData.canLay0 (.list (cs.map PyData.str)) && decide (PyData.depth (.list (cs.map PyData.str)) ≤ 64)) = true
  rw [Bool.and_eq_true]
  exact ⟨by simp only [PyData.canLay0]; exact canLayAll0_strs cs hs, decide_eq_true h2⟩
theorem noMix_strs : ∀ cs ds : List Str, noMixAll (cs.map PyData.str) (ds.map PyData.str) = true
  | [], [] => by simp [noMixAll]
  | [], _ :: _ => by simp [noMixAll]
  | _ :: _, [] => by simp [noMixAll]
  | _ :: r, _ :: q => by simp [noMixAll, noMix, noMix_strs r q]
theorem same_strs : ∀ cs : List Str, PySem.Spec.sameAll (cs.map PyData.str) (cs.map PyData.str) = true
  | [] => by simp [PySem.Spec.sameAll]
  | n :: r => by simp only [List.map_cons, PySem.Spec.sameAll, PySem.Spec.same, same_strs r]; simp
theorem eq_strsK {prog : Program} {w : World} {A : Around} {E : Value → Shared → Prop} {s : Shared} {a b : Addr} {r1 r2 : List (Str × Tok)} {Q : Value → Shared → Prop} (hl : s.heap.IsList a (strValues r1).toArray) (hl' : s.heap.IsList b (strValues r2).toArray)
    (e : r1.map (·.1) = r2.map (·.1)) (hs : ∀ c ∈ r2.map (·.1), PyData.strOk c = true) (hu : A.units + 64 < cLine)
    (h : Q (.bool true) s) : wpAny (model prog w) A (compareOp .Eq (.ref a) (.ref b)) Q E s :=
  eq_dataH_same (reads_of_strs hl (strsAre_of r1)) (reads_of_strs hl' (strsAre_of r2)) (shaped_strs _ (e ▸ hs)) (shaped_strs _ hs) hu (by simp only [noMix]; exact noMix_strs _ _) (by simp only [PySem.Spec.same]; rw [e, same_strs]; exact h)
noncomputable def mkT (us : List Str) (p q : Int) : Str := Txt.mul (Str.ofString "(") p ++ (lst us).1 ++ Txt.mul (Str.ofString ")") q
theorem fl_rep (c : Str) (n : Nat) {a : Nat} (h : chs c = [a]) : fl (List.replicate n c) = List.replicate n a := by
  induction n with
  | zero => rfl
  | succ n ih => rw [List.replicate_succ, fl_cons, ih, h, List.replicate_succ]; rfl
theorem chs_mkT {us : List Str} (h : AllU us) (p q : Nat) : chs (mkT us p q) = fl (wrap p us q) := by
  unfold mkT wrap
  rw [chs_append, chs_append, fl_append, fl_append, (inv h).text]
  have e1 : chs (Txt.mul (Str.ofString "(") (p : Int)) = fl (List.replicate p Op) := by
    rw [fl_rep Op p (a := 40) (by decide)]
    exact PyProof.Rows.mul_one_list 40 (p : Int)
  have e2 : chs (Txt.mul (Str.ofString ")") (q : Int)) = fl (List.replicate q Cl) := by
    rw [fl_rep Cl q (a := 41) (by decide)]
    exact PyProof.Rows.mul_one_list 41 (q : Int)
  rw [e1, e2, List.append_assoc]
theorem u_small : ∀ u ∈ units, ∀ c ∈ chs u, c < 1114112 := by decide
theorem sok_of {x : Str} (h : ∀ c ∈ chs x, c < 1114112) : PyData.strOk x = true := by
  show x.cps.all (fun c => decide (c < 0x110000)) = true
  rw [← Array.all_toList, List.all_eq_true]
  intro c hc
  exact decide_eq_true (h c hc)
theorem sok_units {x : Str} {us : List Str} (h : AllU us) (hx : chs x = fl us) : PyData.strOk x = true := sok_of (by
  intro c hc
  rw [hx] at hc
  obtain ⟨u, hu, hc⟩ := List.mem_flatMap.mp hc
  exact u_small u (h u hu) c hc)
theorem gv_sok {vs ds : List (Str × Tok)} {i : Nat} (G : GoodVals vs ds i) : ∀ c ∈ ds.map (·.1), PyData.strOk c = true := by
  intro c hc
  rw [← G.keep] at hc
  obtain ⟨d, hd, rfl⟩ := List.mem_map.mp hc
  unfold keepF
  split
  · exact G.sok d hd
  · exact sok_of (by decide)
theorem ok_mkT {us : List Str} (h : AllU us) (hL : us.length ≤ 7) {p q : Nat} (hp : p ≤ 8) (hq : q ≤ 8) : CkOk (mkT us p q) :=
  ckok_units (wrap_u h p q) (by unfold wrap; simp; omega) (chs_mkT h p q)
theorem keep_mkT {us : List Str} (h : AllU us) (p q : Nat) : keepF (mkT us p q) = if (wfold (nms us)).1 ≤ p ∧ p + (wfold (nms us)).2 = q + (wfold (nms us)).1 then mkT us p q else Str.ofString "('', '')" := by
  unfold keepF
  rw [check_wrap h (chs_mkT h p q)]
  simp
theorem gv7 : ∀ a : Nat, a < 8 → a ≤ 8 ∧ a + 1 ≤ 8 ∧ a - 1 ≤ 8 ∧ (0 < (a : Int) → (a : Int) - 1 = ((a - 1 : Nat) : Int)) := by decide +kernel
theorem gv8 : ∀ a : Nat, a < 8 → ∀ b : Nat, b < 8 → (0 < (a : Int) → 0 < (b : Int) → ¬ (a ≤ a - 1 ∧ a - 1 + b = b - 1 + a)) := by decide +kernel
theorem gv9 : ∀ a : Nat, a < 8 → ∀ b : Nat, b < 8 → ¬ (a ≤ a ∧ a + b = b + 1 + a) ∧ ¬ (a ≤ a + 1 ∧ a + 1 + b = b + a) := by decide +kernel
theorem gv_step {vs ds : List (Str × Tok)} {i : Nat} {us : List Str} {C1 C2 p2 q2 : Int} (G : GoodVals vs ds i) (h : AllU us) (hL : us.length = i + 1) (hi : i < 7) (h1 : C1 = ((wfold (nms us)).1 : Nat)) (h2 : C2 = ((wfold (nms us)).2 : Nat))
    (hc : (p2 = C1 - 1 ∧ q2 = C2 - 1 ∧ 0 < C1 ∧ 0 < C2) ∨ (p2 = C1 ∧ q2 = C2 + 1)) (t1 t2 t3 t4 t5 t6 : Tok) :
    GoodVals (vs ++ [(mkT us C1 C2, t1)] ++ [(mkT us p2 q2, t2)] ++ [(mkT us (C1 + 1) C2, t3)]) (ds ++ [(mkT us C1 C2, t4)] ++ [(Str.ofString "('', '')", t5), (Str.ofString "('', '')", t6)]) (i + 1) := by
  obtain ⟨g1, g2, g3, gs, g4⟩ := G
  have hL7 : us.length ≤ 7 := hL ▸ hi
  obtain ⟨w1, w2, _⟩ := wf7 h hL7
  generalize ha : (wfold (nms us)).1 = a at w1 h1
  generalize hb : (wfold (nms us)).2 = b at w2 h2
  subst h1 h2
  obtain ⟨z1, z3, z5, y1⟩ := gv7 a w1
  obtain ⟨z2, z4, z6, y2⟩ := gv7 b w2
  obtain ⟨z8, z9⟩ := gv9 a w1 b w2
  obtain ⟨p', q', rfl, rfl, hp', hq', hne⟩ : ∃ p' q' : Nat, p2 = (p' : Nat) ∧ q2 = (q' : Nat) ∧ p' ≤ 8 ∧ q' ≤ 8 ∧ ¬ (a ≤ p' ∧ p' + b = q' + a) := by
    rcases hc with ⟨e1, e2, e3, e4⟩ | ⟨e1, e2⟩
    · exact ⟨a - 1, b - 1, e1.trans (y1 e3), e2.trans (y2 e4), z5, z6, gv8 a w1 b w2 e3 e4⟩
    · exact ⟨a, b + 1, e1, e2, z1, z4, z8⟩
  have k1 : keepF (mkT us a b) = mkT us a b := by rw [keep_mkT h, ha, hb, if_pos ⟨Nat.le_refl _, Nat.add_comm _ _⟩]
  have k2 : keepF (mkT us p' q') = Str.ofString "('', '')" := by rw [keep_mkT h, ha, hb, if_neg hne]
  have e3 : ((a : Int) + 1) = ((a + 1 : Nat) : Int) := rfl
  have k3 : keepF (mkT us (a + 1) b) = Str.ofString "('', '')" := by rw [e3, keep_mkT h, ha, hb, if_neg z9]
  refine ⟨by simp only [List.length_append, List.length_cons, List.length_nil, g1]; rfl, by simp only [List.length_append, List.length_cons, List.length_nil, g2]; rfl, ?_, ?_, ?_⟩
  · intro c hc
    simp only [List.map_append, List.map_cons, List.map_nil, List.mem_append, List.mem_singleton] at hc
    rcases hc with ((hc | rfl) | rfl) | rfl
    · exact g3 c hc
    · exact ok_mkT h hL7 z1 z2
    · exact ok_mkT h hL7 hp' hq'
    · rw [e3]; exact ok_mkT h hL7 z3 z2
  · intro c hc
    simp only [List.map_append, List.map_cons, List.map_nil, List.mem_append, List.mem_singleton] at hc
    rcases hc with ((hc | rfl) | rfl) | rfl
    · exact gs c hc
    · exact sok_units (wrap_u h a b) (chs_mkT h a b)
    · exact sok_units (wrap_u h p' q') (chs_mkT h p' q')
    · rw [e3]; exact sok_units (wrap_u h (a + 1) b) (chs_mkT h (a + 1) b)
  · simp only [List.map_append, List.map_cons, List.map_nil, List.append_assoc, List.cons_append, List.nil_append]
    rw [g4, k1, k2, k3]
theorem mul_le {c : Str} {n : Int} (hc : c.length = 1) (hn : n ≤ 100) : (Txt.mul c n).length ≤ 100 := by
  have h := PyProof.Rows.len_mul c n
  rw [hc] at h
  split at h <;> omega
theorem add_a {n : Int} {x : Str} (hn : n ≤ 100) (hx : x.length ≤ 100) : (Txt.mul (Str.ofString "(") n).length + x.length ≤ sizeLine := by
  have := mul_le (c := Str.ofString "(") (by decide) hn
  exact line_small (by omega)
theorem add_b {n k : Int} {x : Str} (hn : n ≤ 100) (hx : x.length ≤ 100) (hk : k ≤ 100) : (Txt.mul (Str.ofString "(") n ++ x).length + (Txt.mul (Str.ofString ")") k).length ≤ sizeLine := by
  have h1 := mul_le (c := Str.ofString "(") (by decide) hn
  have h2 := mul_le (c := Str.ofString ")") (by decide) hk
  rw [Str.length_append]
  exact line_small (by omega)
section
variable {prog : Program} {w : World} {A : Around} {E : Value → Shared → Prop} {s : Shared} {x y : Str} {t u : Tok} {n : Int} {Q : Value → Shared → Prop}
theorem mul1 (hx : x.length = 1) (hn : n ≤ 100) (h0 : -100 ≤ n) (h : ∀ t' k, Q (.str (Txt.mul x n) t') { s with toks := k }) : wpAny (model prog w) A (binaryOp .Mult (.str x t) (.int n u)) Q E s :=
  SB.mul (mulOk_of 16 1048576 (by omega) (by omega) (by omega) (by decide) (by decide)) h
theorem add1 (hsz : x.length + y.length ≤ sizeLine) (h : ∀ t' k, Q (.str (x ++ y) t') { s with toks := k }) : wpAny (model prog w) A (binaryOp .Add (.str x t) (.str y u)) Q E s := SB.add h hsz
end
noncomputable def If2P (h₀ : Heap) (L V : Addr) (p1 p2 p3 : Addr × Obj) (m : Str → Option Value) (vs : List (Str × Tok)) (us : List Str) (C1 C2 : Int) (s : Shared) (f : Flow) (s' : Shared) : Prop :=
  f = .next ∧ ∃ (p q : Int) (t : Tok) (k : Nat) (h' : Heap) (g' : Array GenState) (tk' : Nat), s' = { s with heap := h', gens := g', toks := tk' } ∧ AllBare g' ∧ Fr h₀ L h' m ∧
    News h₀ L h' [p1, p2, p3, (V, W.listOf (strValues (vs ++ [(mkT us p q, t)])).toArray k)] ∧ ((p = C1 - 1 ∧ q = C2 - 1 ∧ 0 < C1 ∧ 0 < C2) ∨ (p = C1 ∧ q = C2 + 1))
section
variable {prog : Program} {w : World} {A : Around} {h₀ : Heap} {L V : Addr} {p1 p2 p3 : Addr × Obj} {m : Str → Option Value} {vs : List (Str × Tok)} {us : List Str} {C1 C2 : Int}
theorem cut_if2 {st : Stmt} {env : Env} {E : Value → Shared → Prop} {s s₀ : Shared} {h : Heap} {k : Nat} {Q : Flow → Shared → Prop} (_ : Fr h₀ L h m) (_ : News h₀ L h [p1, p2, p3, (V, W.listOf (strValues vs).toArray k)]) (us : List Str) (C1 C2 : Int)
    (hn : wpAny (model prog w) A (exec st env) (If2P h₀ L V p1 p2 p3 m vs us C1 C2 s₀) (fun _ _ => False) s)
    (rest : ∀ (p q : Int) (t : Tok) (k : Nat) (h' : Heap) (g' : Array GenState) (tk' : Nat), AllBare g' → Fr h₀ L h' m → News h₀ L h' [p1, p2, p3, (V, W.listOf (strValues (vs ++ [(mkT us p q, t)])).toArray k)] →
      ((p = C1 - 1 ∧ q = C2 - 1 ∧ 0 < C1 ∧ 0 < C2) ∨ (p = C1 ∧ q = C2 + 1)) → Q .next { s₀ with heap := h', gens := g', toks := tk' }) :
    wpAny (model prog w) A (exec st env) Q E s := by
  refine wpAny_mono hn (fun f s' hp => ?_) (fun _ _ e => e.elim)
  obtain ⟨rfl, p, q, t, k, h', g', tk', rfl, hg, F', N', hc⟩ := hp
  exact rest p q t k h' g' tk' hg F' N' hc
theorem if2_intro {p q : Int} {t : Tok} {k : Nat} {s : Shared} {h' : Heap} {g' : Array GenState} {tk' : Nat} (F : Fr h₀ L h' m) (N : News h₀ L h' [p1, p2, p3, (V, W.listOf (strValues (vs ++ [(Txt.mul (Str.ofString "(") p ++ (lst us).1 ++ Txt.mul (Str.ofString ")") q, t)])).toArray k)]) (G : AllBare g')
    (hc : (p = C1 - 1 ∧ q = C2 - 1 ∧ 0 < C1 ∧ 0 < C2) ∨ (p = C1 ∧ q = C2 + 1)) : If2P h₀ L V p1 p2 p3 m vs us C1 C2 s .next { s with heap := h', gens := g', toks := tk' } :=
  ⟨rfl, p, q, t, k, h', g', tk', rfl, G, F, N, hc⟩
end
theorem no_bne {a b : Str} (e : a = b) (h : (a != b) = true) : False := (bne_iff_ne.mp h) e
theorem linv_next {h₀ h' : Heap} {L I l V D : Addr} {oI : Obj} {p1 p2 : Addr × Obj} {m : Str → Option Value} {vs ds : List (Str × Tok)} {kv kd i : Nat} {us : List Str} {t1 t2 t3 : Tok} {s : Shared} {Q : Flow → Shared → Prop} {g' : Array GenState} {tk' : Nat}
    (F : Fr h₀ L h' m) (N : News h₀ L h' (p1 :: p2 :: (I, oI) :: (D, W.listOf (strValues ds).toArray kd) :: (V, W.listOf (strValues vs).toArray kv) :: [])) (G : AllBare g') (hul : us.length = i) (hU : AllU us)
    (ht : m (Str.ofString "text") = some (.str (lst us).1 t1)) (hp : m (Str.ofString "path") = some (.str (lst us).2.1 t2)) (hd : m (Str.ofString "deep") = some (.int ((lst us).2.2 : Nat) t3))
    (hs : m (Str.ofString "script") = some (.ref l)) (hv : m (Str.ofString "values") = some (.ref V)) (hdu : m (Str.ofString "due") = some (.ref D)) (GV : GoodVals vs ds i) :
    TurnPost h₀ L I oI (LInv l V D [] i) s Q .next { s with heap := h', gens := g', toks := tk' } :=
  ⟨h', g', tk', m, [(D, W.listOf (strValues ds).toArray kd), (V, W.listOf (strValues vs).toArray kv)], rfl, F, fun p hp => N p (.tail _ (.tail _ hp)), G, us, vs, ds, kv, kd, t1, t2, t3, hul, hU, ht, hp, hd, hs, hv, hdu, rfl, GV⟩
end Mine
end
section
open PySem PySem.W PyProof.Rows PySem.Calls PySem.Spec
namespace Mine
local macro_rules | `(tactic| walk_at "call ref") => `(tactic| (k_here; k_dflt ((refine' lawunit _ _ _ _ _ _ ?k0 _ _ _ _ _ _ _ _ _ _ _ _ _ _ _ _ _ _ _ _ _ ?k1 ?k2 ?k3 ?k4 ?k5 ?k6 ?k7 ?k8 ?k9 ?k10 ?k11 ?k12 ?_; walk_at "c16"; (case k7 => assumption); (case k8 => assumption); (case k9 => assumption); (case k0 => assumption); (case k10 => ktr_room); (case k11 => ktr_units); (case k12 => assumption); k_whole)); intro v' h' g' tk' hv' F' N' G'; obtain ⟨u', t', hv', hu'⟩ := hv'; subst hv'; have hul' := u_length hu'; (try dsimp only); (try k_sweep)))
local macro_rules | `(tactic| walk_at "call builtin:list.extend") => `(tactic| (k_here; (try dsimp only [List.cons_append, List.nil_append]); (with_reducible show wpAny _ _ (call (Value.builtin _) [Value.ref _, Value.ref _]) _ _ _); k_dflt (refine' extend_sv ?k1 ?k2 ?k4 ?k3 ?z ?_; (case k1 => k_asm); (case k2 => k_asm); (case k4 => k_mem); (case k3 => k_upd); (case z => (try simp only [List.length_append, List.length_cons, List.length_nil]); omega); k_whole); intro h' F' N'; (try k_sweep)))
local macro_rules | `(tactic| walk_at "call ref") => `(tactic| (k_here; k_dflt ((refine' ctr_use (validate _ _ _ _) ?k1 ?k2 ?k3 ?k4 ?k5 ?k6 ?k7 ?k8 ?k9 ?k10 ?_; walk_at "c16"; (case k7 => refine' ⟨?_, ?_, ?_⟩; (· k_mem); (· assumption); (· assumption)); walk_at "c80")); intro v' D' o' h' g' tk' hv' F' N' l1 G'; obtain ⟨hv1, rs', k2', hv2, hrs'⟩ := hv'; subst hv1; subst hv2; have hrs2 := hrs'.trans (GoodVals.keep (by assumption)); (try dsimp only); (try k_lt l1); (try k_sweep)))
local macro_rules | `(tactic| walk_at "compareOp Eq ref ref") => `(tactic| (k_here; (with_reducible show wpAny _ _ (compareOp CmpOp.Eq (Value.ref _) (Value.ref _)) _ _ _); k_dflt (refine' eq_strsK (News.isList ?k1 ?k2) (News.isList ?k3 ?k4) ?e ?s ?u ?_; (case k1 => k_asm); (case k2 => k_mem); (case k3 => k_asm); (case k4 => k_mem); (case e => assumption); (case s => exact gv_sok (by assumption)); (case u => units_room); k_whole)))
local macro_rules | `(tactic| walk_at "binaryOp Mult str int") => `(tactic| (k_here; (with_reducible show wpAny _ _ (binaryOp Operator.Mult (Value.str _ _) (Value.int _ _)) _ _ _); (refine' mul1 ?a ?b ?c ?_; (case a => decide); (case b => assumption); (case c => assumption)); intro _ _))
local macro_rules | `(tactic| walk_at "binaryOp Add str str") => `(tactic| (k_here; (with_reducible show wpAny _ _ (binaryOp Operator.Add (Value.str _ _) (Value.str _ _)) _ _ _); (refine' add1 ?a ?_; (case a => first | exact add_a (by assumption) (by assumption) | exact add_b (by assumption) (by assumption) (by assumption))); intro _ _))
theorem th : PySem.Challenge.rw_pd0138_01.Holds := Mine.hd (by
  k_fill
  intro w s₀ s₁ mg mb G Y fa o pm cd doc dV kV ho hd hcd hD hmg hg args vals as hpre hlay hrd hwl hlo
  have KX := kIn_of Y
  have X := (Ground.X G).1
  have V := (Ground.X G).2
  refine Ground.open G ?_
  intro T B D TE TW
  try (refine guard_noD D (by decide +kernel) ?_; clear D)
  obtain ⟨_, _, M⟩ := bmod_of_top T
  have TA := at_of_top T
  try (obtain ⟨_, _, he, B0⟩ := based_of_top T rfl hmg ho hd; have he' : cd = _ := he; subst he'; clear he)
  clear hmg
  wrow_args hpre hlay hrd hwl hlo
  first | refine callC_kw (enter_call ?_) | refine enter_call ?_ | refine callC_kw (enter_callW ?_) | refine enter_callW ?_ | w_how
  w_top on
  have K0 := below_caller (Top.heap T)
  w_call any ho hd hcd hD T F
  clear hd TA
  k_drop
  (generalize hst : Stmt.For _ _ _ _ _ = st)
  k_steps
  subst hst
  rename_i w_ns _ _ _ _ _ _ _ l_s w_vs _ _ _ _ _ _ _ _ _ _ _ _ _ l_v _ _ _ l_d _ _ _ _ _
  refine wpAny_For ?_
  k_steps
  have hlen : w_ns.length ≤ 63 := by omega
  refine' for_range (n := 7) (LInv l_s l_v l_d []) rfl ?lr ?lsm ?ln ?l2 ?l3 ?lJ ?l5 ?turn ?done
  (case lr => assumption)
  (case lsm => decide +kernel)
  (case ln => decide +kernel)
  (case l2 => k_asm)
  (case l3 => k_asm)
  (case lJ => (rintro i m news g ⟨_, us, vs, ds, kv, kd, t1, t2, t3, _, _, _, _, _, _, _, _, rfl, _⟩ p hp; rcases List.mem_cons.mp hp with rfl | hp; exact .head _; rcases List.mem_cons.mp hp with rfl | hp; exact .tail _ (.head _); cases hp))
  (case l5 => exact ⟨.of_eq (by assumption), [], [], [], 0, 0, _, _, _, rfl, (fun _ h => nomatch h), rfl, rfl, rfl, rfl, rfl, rfl, rfl, ⟨rfl, rfl, (fun _ h => nomatch h), (fun _ h => nomatch h), rfl⟩⟩)
  case turn =>
    rintro i t m₁ news₁ g h tk I oI hi ⟨hg1, us, vs, ds, kv, kd, t1, t2, t3, hul, huu, hm1, hm2, hm3, hm4, hm5, hm6, rfl, hgv⟩ hlt F1 N1
    rw [map6 hm1 hm2 hm3 hm4 hm5 hm6] at F1
    clear hm1 hm2 hm3 hm4 hm5 hm6
    (with_reducible rename (List.length _ = List.length _) => hle0)
    obtain ⟨hb1, hb2, hb3⟩ := lst_bounds huu hul (Nat.le_of_lt hi)
    generalize hst : Stmt.If _ _ _ _ = st
    k_steps
    rename_i u' t' hu' hul' _ _ _ _ _ FA NA
    subst hst
    have hju := join_u huu hul (Nat.le_of_lt hi) hu'
    refine cut_if (s₀ := s₁) FA NA (lst (us ++ [u'])).2.1 (lst (us ++ [u'])).2.2 ?hif ?rest
    case hif =>
      generalize hst2 : Stmt.For _ _ _ _ _ = st2
      k_steps
      · subst hst2
        refine wpAny_For ?_
        k_steps
        refine' for_dots (n := (lst us).2.2) (p0 := (lst us).2.1) hb3 rfl ?lr ?l2 ?l3 ?lG ?l5 ?turnD ?doneD
        (case lr => assumption)
        (case l2 => k_asm)
        (case l3 => k_asm)
        (case lG => assumption)
        (case l5 => exact rfl)
        case turnD =>
          intro j tj tp mj gj hj tkj Ij oIj hij hgj hltj Fj Nj
          have hjd := join_dd huu hul (Nat.le_of_lt hi) hij
          k_steps
          refine' tpost_next ?e1 ?e2 ?e3 ?e4; (case e1 => k_asm); (case e2 => k_asm); (case e3 => exact fun _ hp => hp); (case e4 => exact ⟨by assumption, rfl, ⟨_, rfl⟩, fun z h1 h2 => by simp only [if_neg h1, if_neg h2]⟩)
        case doneD =>
          intro tp mj gj hj tkj hgj Fj Nj
          have hly := lst_yes (us := us) (u := u') (by assumption) (by assumption)
          k_steps
          refine' ifp_intro ?e1 ?e2 ?e3 ?e4 ?e5 ?e6 ?e7; (case e1 => k_asm); (case e2 => k_asm); (case e3 => exact fun _ hp => hp); (case e4 => assumption); (case e7 => (intro z h1 h2 h3; simp only [if_neg h1, if_neg h2, if_neg h3]))
          (case e5 => rw [hly]; exact rfl)
          (case e6 => rw [hly]; exact rfl)
      · refine' ifp_intro ?e1 ?e2 ?e3 ?e4 ?e5 ?e6 ?e7; (case e1 => k_asm); (case e2 => k_asm); (case e3 => exact fun _ hp => hp); (case e4 => assumption); (case e7 => (intro z h1 h2 h3; simp only [if_neg h1, if_neg h2, if_neg h3]))
        (case e5 => rw [lst_no (.inr (by assumption))]; exact rfl)
        (case e6 => rw [lst_up (.inl ⟨by assumption, by assumption⟩)]; exact rfl)
      · refine' ifp_intro ?e1 ?e2 ?e3 ?e4 ?e5 ?e6 ?e7; (case e1 => k_asm); (case e2 => k_asm); (case e3 => exact fun _ hp => hp); (case e4 => assumption); (case e7 => (intro z h1 h2 h3; simp only [if_neg h1, if_neg h2, if_neg h3]))
        (case e5 => rw [lst_no (.inl (by assumption))]; exact rfl)
        (case e6 => rw [lst_up (.inr ⟨by assumption, by assumption⟩)]; exact rfl)
      · refine' ifp_intro ?e1 ?e2 ?e3 ?e4 ?e5 ?e6 ?e7; (case e1 => k_asm); (case e2 => k_asm); (case e3 => exact fun _ hp => hp); (case e4 => assumption); (case e7 => (intro z h1 h2 h3; simp only [if_neg h1, if_neg h2, if_neg h3]))
        (case e5 => rw [lst_no (.inl (by assumption))]; exact rfl)
        (case e6 => rw [lst_zero (by assumption) (by assumption)]; exact rfl)
    case rest =>
      intro m₂ h₂ g₂ tk₂ t2' t3' hg2 F2 N2
      clear FA NA F1 N1
      have hU : AllU (us ++ [u']) := allU_app huu (allU_one hu')
      have hL : (us ++ [u']).length = i + 1 := by rw [List.length_append, hul]; rfl
      rw [← lst_text] at F2
      generalize us ++ [u'] = us2 at hU hL F2
      obtain ⟨hb1', hb2', hb3'⟩ := lst_bounds hU hL hi
      have hpo := path_ok hU hL hi
      have hso := strip_ok hU hL hi
      have hnl := norm_len hU hL hi
      generalize hst : Stmt.Assign [Expr.Name (Str.ofString "names") _] _ _ = st
      k_steps
      subst hst
      refine cut_names (s₀ := s₁) F2 N2 (nms us2) ?hnam ?rest2
      case hnam =>
        k_steps
        refine' namesp_intro hU rfl ?n1 ?n2 ?n3 ?n4 ?n5 ?n6 ?n7
        (case n1 => assumption)
        (case n2 => assumption)
        (case n3 => assumption)
        (case n4 => assumption)
        (case n5 => ((try dsimp only); assumption))
        (case n6 => assumption)
        (case n7 => assumption)
      case rest2 =>
        intro D rs k h₃ g₃ tk₃ hg3 F3 N3 hne hl
        clear F2 N2
        obtain ⟨hrl, hjo, hse, hc1, hc2, hwl, ha7, hb7⟩ := rs_facts hU hL hi hl
        have hne1 : @Ne Nat I D := hne _ (.head _)
        have hne2 : @Ne Nat l_d D := hne _ (.tail _ (.head _))
        have hne3 : @Ne Nat l_v D := hne _ (.tail _ (.tail _ (.head _)))
        have hvl : vs.length ≤ 30 := by have := hgv.len; omega
        have hdl : ds.length ≤ 30 := by have := hgv.len'; omega
        have hlt1 : @LT.lt Nat _ l_d I := hlt _ (.head _)
        have hlt2 : @LT.lt Nat _ l_v I := hlt _ (.tail _ (.head _))
        have hlt3 : @LT.lt Nat _ l_v l_d := by assumption
        obtain ⟨n1, n2, n3, n4, n5, n6, n7, n8, n9, n10, n11, n12⟩ := count_bounds hc1 hc2 ha7 hb7
        clear hb1 hb2 hb3 hb2' hb3' hnl hpo hul' hju hne hlt
        generalize hst : Stmt.If (Expr.BoolOp _ _ _) _ _ _ = st
        k_steps
        · exact (no_bne hse (by assumption)).elim
        subst hst
        (with_reducible rename Fr _ _ _ _ => FA)
        (with_reducible rename News _ _ _ _ => NA)
        refine cut_if2 (s₀ := s₁) FA NA us2 (Txt.count (normF (Txt.join (Str.ofString "/") ((rs.map (·.1)).map wayF))) (Str.ofString "..")) (Txt.count (normF (Txt.join (Str.ofString "/") ((rs.map (·.1)).map wayF))) (Str.ofString "x")) ?hif2 ?rest3
        case hif2 =>
          k_steps
          all_goals (refine' if2_intro ?e1 ?e2 ?e3 ?e4; (case e1 => k_asm); (case e2 => k_asm); (case e3 => assumption); (case e4 => first | exact .inl ⟨rfl, rfl, by assumption, by assumption⟩ | exact .inr ⟨rfl, rfl⟩))
        case rest3 =>
          intro p4 q4 t4 k4 h₄ g₄ tk₄ hg4 F4 N4 hcc
          clear FA NA
          k_steps
          refine' linv_next ?e1 ?e2 ?e3 hL hU ?e4 ?e5 ?e6 ?e7 ?e8 ?e9 ?e10; (case e1 => k_asm); (case e2 => k_asm); (case e3 => assumption); (case e4 => exact rfl); (case e5 => exact rfl); (case e6 => exact rfl); (case e7 => exact rfl); (case e8 => exact rfl); (case e9 => exact rfl); (case e10 => exact gv_step hgv hU hL hi hc1 hc2 hcc _ _ _ _ _ _)
  case done =>
    intro m₁ news₁ g h tk hJ F1 N1
    obtain ⟨hg1, us, vs, ds, kv, kd, t1, t2, t3, hul, huu, hm1, hm2, hm3, hm4, hm5, hm6, rfl, hgv⟩ := hJ
    rw [map6 hm1 hm2 hm3 hm4 hm5 hm6] at F1
    clear hm1 hm2 hm3 hm4 hm5 hm6
    have hvl : vs.length ≤ 100 := by have := hgv.len; omega
    have hvok := hgv.ok
    have hlt3 : @LT.lt Nat _ l_v l_d := by assumption
    repeat' (first | (k_unfold; (try dsimp only)) | walk1 | (dsimp only; walk1))
    (with_reducible rename Fr _ _ _ _ => FE)
    refine ⟨.inl ⟨.bool true, .bool true, [], rfl, ?_, .bool _, ?_, fun _ => ⟨List.nodup_nil, fun _ h => nomatch h⟩⟩, .of_keep (Fr.keep FE), rfl, by assumption⟩
    · intro cls; rfl
    · wrow_post)
end Mine
end
end
set_option maxRecDepth 100000 in
set_option maxHeartbeats 8000000 in
theorem PySem.Challenge.cw_pd0138_01_holds : PySem.Challenge.rw_pd0138_01.Holds := by
  exact Mine.th
