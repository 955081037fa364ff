import PyProof.Rows.All
import Wide.All
import OpenK.AllK
import Wide.FinOn
import PySem.Challenge.RW_wj0007_01
open PySem PySem.W PyProof.Rows
set_option Elab.async false
set_option maxRecDepth 100000
set_option maxHeartbeats 8000000
set_option compiler.extract_closed false
namespace Mine
open PySem PySem.Spec PySem.Calls PyProof.Rows PySem.W
open_top hd for PySem.Challenge.rw_wj0007_01
section
open PySem PySem.Spec PySem.Calls PyProof.Rows PySem.W

def ExtB (wr : List Addr) (h h' : Heap) : Prop := ∀ b o, b ∉ wr → h.get? b = some o → h'.get? b = some o
theorem ExtB.refl (wr : List Addr) (h : Heap) : ExtB wr h h := fun _ _ _ e => e
theorem ExtB.trans {wr : List Addr} {h h' h'' : Heap} (x : ExtB wr h h') (y : ExtB wr h' h'') : ExtB wr h h'' := fun b o n e => y b o n (x b o n e)

/-- what a call of the def at address f, upon vs, hands back, from any frame; news: the objects that it looks at; wr: those that it turns -/
def Con (w : World) (dep cu : Nat) (f : Addr) (P₀ : Heap → Prop) (news : List (Addr × Obj)) (wr : List Addr) (vs : List Value) (R : Value → List (Addr × Obj) → Prop) : Prop :=
  ∀ (p : Program) (loose : List Str) (mean : ExcName → Option Value) (mg mb : Str → Option Value) (dp un : Nat) (gd : Option (List Code)) (cn : Str) (cs : Scope) (a : Addr) (ccd : Value) (cl : List (Str × Addr)) (outer : List Env) (A₀ : Around) (base h₀ : Heap) (L : Addr) (m : Str → Option Value) (s : Shared)
    (Q E : Value → Shared → Prop),
    Below A₀ base outer h₀ → Fr h₀ L s.heap m → (hd.heap_39 w.params).In h₀ → News h₀ L s.heap news → Top p loose mean mg mb h₀ → cs.kind = .function → dp + dep < recursionLimit → un + cu < cLine → P₀ h₀ →
    (∀ r tl h' tk', Fr h₀ L h' m → ExtB wr s.heap h' → (∀ p ∈ tl, h'.get? p.1 = some p.2 ∧ (p.1 ∈ wr ∨ s.heap.get? p.1 = none)) → R r tl → Q r { s with heap := h', toks := tk' }) →
    wpAny (model PySem.Challenge.rw_wj0007_01.row.prog w) (ktrTop dp un gd cn cs L a ccd cl outer) (call (.ref f) vs) Q E s

theorem Con.at {w : World} {dep cu : Nat} {f : Addr} {P₀ : Heap → Prop} {news : List (Addr × Obj)} {wr : List Addr} {vs : List Value} {R : Value → List (Addr × Obj) → Prop} (c : Con w dep cu f P₀ news wr vs R)
    {p : Program} {loose : List Str} {mean : ExcName → Option Value} {mg mb : Str → Option Value} {dp un : Nat} {gd : Option (List Code)} {cn cn' : Str} {cs cs' : Scope} {a a' : Addr} {ccd ccd' : Value} {cl cl' : List (Str × Addr)} {outer : List Env} {A₀ : Around} {base h₀ : Heap} {L L' : Addr} {m : Str → Option Value} {s : Shared}
    {Q E : Value → Shared → Prop} (B : Below A₀ base (envX cn cs L a ccd cl :: outer) h₀) (F : Fr h₀ L' s.heap m) (X : (hd.heap_39 w.params).In h₀) (N : News h₀ L' s.heap news) (T : Top p loose mean mg mb h₀) (hk : cs'.kind = .function) (hd : dp + 1 + dep < recursionLimit) (hu : un + 3 + cu < cLine) (hp : P₀ h₀)
    (ret : ∀ r tl h' tk', Fr h₀ L' h' m → ExtB wr s.heap h' → (∀ p ∈ tl, h'.get? p.1 = some p.2 ∧ (p.1 ∈ wr ∨ s.heap.get? p.1 = none)) → R r tl → Q r { s with heap := h', toks := tk' }) :
    wpAny (model PySem.Challenge.rw_wj0007_01.row.prog w) ((ktrTop dp un gd cn cs L a ccd cl outer).deeper (envX cn' cs' L' a' ccd' cl')) (call (.ref f) vs) Q E s :=
  c p loose mean mg mb (dp + 1) (un + 3) gd cn' cs' a' ccd' cl' (envX cn cs L a ccd cl :: outer) A₀ base h₀ L' m s Q E B F X N T hk hd hu hp ret

def Stop (P : Prop) : Prop := P
theorem Stop.mk {P : Prop} (h : P) : Stop P := h
theorem Stop.out {P : Prop} (h : Stop P) : P := h

theorem gsub_none {H g : Heap} {adr : List Addr} {b : Addr} (G : GSub H g adr) (n : b ∉ adr) (e : g.get? b = none) : H.get? b = none := by
  cases q : H.get? b with
  | none => rfl
  | some o => rw [G b o q n] at e; cases e

/-- the caller's heap stands as it stood, but for what is named -/
theorem ext_after {wr : List Addr} {H g H' h₀ : Heap} {L L' : Addr} {m' : Str → Option Value} {news news' : List (Addr × Obj)} (G : GSub H g (news.map (·.1))) (N : News h₀ L H news) (F' : Fr g L' H' m') (N' : News g L' H' news')
    (hs : ∀ p ∈ news, p.1 ∈ wr ∨ p ∈ news') : ExtB wr H H' := fun b o n e1 => by
  by_cases hb : b ∈ news.map (·.1)
  · obtain ⟨p, hp, rfl⟩ := List.mem_map.mp hb
    have h1 := (N p hp).1
    rw [e1] at h1
    cases h1
    exact (N' p ((hs p hp).resolve_left n)).1
  · exact F'.keep b o (G b o e1 hb)
end
section
open PySem PySem.Spec PySem.Calls PyProof.Rows PySem.W

section
variable {prog : Program} {w : World} {A : Around} {E : Value → Shared → Prop} {s : Shared} {env : Env} {h₀ : Heap} {x : Str} {body : List Stmt} {Q : Flow → Shared → Prop}
/-- a for over a range by what holds ahead of each turn -/
theorem iter_rangeJ {r : Addr} {a₀ b₀ : Int} {t₀ u₀ v₀ : Tok} {m₀ : Str → Option Value} {news : List (Addr × Obj)} (n : Nat) (J : Nat → (Str → Option Value) → List (Addr × Obj) → Prop)
    (hr : IsRange s.heap r a₀ b₀ 1 t₀ u₀ v₀) (hh : A.handled = none) (hsmall : Builtin.Range.small a₀ b₀ 1 = true) (hn : Builtin.Range.rangeSize a₀ b₀ 1 = (n : Int)) (F : Fr h₀ env.locals s.heap m₀) (N : News h₀ env.locals s.heap news)
    (start : J 0 m₀ news)
    (turn : ∀ i t m₁ news₁ I h tk, i < n → J i m₁ news₁ → (∀ p ∈ news₁, p.1 ≠ I) → Fr h₀ env.locals h (fun y => if y = x then some (.int (a₀ + (i : Int)) t) else m₁ y) →
      News h₀ env.locals h ((I, itR (a₀ + ((i + 1 : Nat) : Int)) ((n : Int) - ((i + 1 : Nat) : Int))) :: news₁) →
      wpAny (model prog w) A (execs body env) (UnrPost h₀ env.locals { s with heap := h, toks := tk } I (itR (a₀ + ((i + 1 : Nat) : Int)) ((n : Int) - ((i + 1 : Nat) : Int))) (J (i + 1)) Q) E { s with heap := h, toks := tk })
    (done : ∀ m₁ news₁ h tk, J n m₁ news₁ → Fr h₀ env.locals h m₁ → News h₀ env.locals h news₁ → Q .next { s with heap := h, toks := tk }) :
    wpAny (model prog w) A (pyIter (.ref r)) (fun it s₂ => LoopAtV prog w A h₀ env x body Q E it s₂) E s := by
  refine iter_rangeUnr hh hr hsmall hn F N fun I hI => ?_
  have key : ∀ k i m₁ news₁, i + k = n → J i m₁ news₁ → (∀ p ∈ news₁, p.1 ≠ I) → RangeRest prog w A E h₀ env x body Q s I a₀ n k i m₁ news₁ := by
    intro k
    induction k with
    | zero =>
      intro i m₁ news₁ hi hj _
      have : i = n := by omega
      subst this
      exact RangeRest.zero fun h tk F' N' => done m₁ news₁ h tk hj F' N'
    | succ k ih =>
      intro i m₁ news₁ hi hj ho
      refine RangeRest.succ fun t h tk F' N' => wpAny_mono (turn i t m₁ news₁ I h tk (by omega) hj ho F' N') (fun f s₂ p => ?_) fun _ _ e => e
      have fin : UnrEnd h₀ env.locals { s with heap := h, toks := tk } I (itR (a₀ + ((i + 1 : Nat) : Int)) ((n : Int) - ((i + 1 : Nat) : Int))) (J (i + 1)) s₂ →
          UnrEnd h₀ env.locals { s with heap := h, toks := tk } I (itR (a₀ + ((i + 1 : Nat) : Int)) ((n : Int) - ((i + 1 : Nat) : Int))) (RangeRest prog w A E h₀ env x body Q s I a₀ n k (i + 1)) s₂ := by
        rintro ⟨h', tk', m', news', e, F'', N'', off, j⟩
        exact ⟨h', tk', m', news', e, F'', N'', off, ih (i + 1) m' news' (by omega) j off⟩
      cases f with
      | ret v => exact p
      | brk => exact p
      | next => exact fin p
      | cont => exact fin p
  exact key n 0 m₀ news (by omega) start fun p hp => Nat.ne_of_lt (hI p hp)
end

theorem gsub_old {h₀ H g : Heap} {L : Addr} {m : Str → Option Value} {news : List (Addr × Obj)} (F : Fr h₀ L H m) (N : News h₀ L H news) (G : GSub H g (news.map (·.1))) {b : Addr} {o : Obj} (e : h₀.get? b = some o) : g.get? b = some o :=
  G b o (F.keep b o e) fun q => by
    obtain ⟨p, hp, rfl⟩ := List.mem_map.mp q
    rw [(N p hp).2.2] at e; cases e
theorem gsub_list {h₀ H g : Heap} {L l : Addr} {m : Str → Option Value} {news : List (Addr × Obj)} {vs : Array Value} (F : Fr h₀ L H m) (N : News h₀ L H news) (G : GSub H g (news.map (·.1))) (x : h₀.IsList l vs) : g.IsList l vs :=
  let ⟨o, ho, r⟩ := x; ⟨o, gsub_old F N G ho, r⟩
theorem frMap {h₀ h : Heap} {L : Addr} {m m' : Str → Option Value} (F : Fr h₀ L h m) (e : ∀ y, m y = m' y) : Fr h₀ L h m' := by
  have : m = m' := funext e
  subst this; exact F
theorem frAdd {h₀ h : Heap} {L : Addr} {m : Str → Option Value} {a : Str} {v : Option Value} (F : Fr h₀ L h m) (e : m a = v) : Fr h₀ L h (fun y => if y = a then v else m y) := frMap F fun y => by
  by_cases q : y = a
  · rw [if_pos q, q, e]
  · rw [if_neg q]
theorem new_after {wr : List Addr} {H g H' : Heap} {L' : Addr} {news tl : List (Addr × Obj)} (G : GSub H g (news.map (·.1))) (N' : News g L' H' tl) (off : ∀ p ∈ tl, p.1 ∉ news.map (·.1)) :
    ∀ p ∈ tl, H'.get? p.1 = some p.2 ∧ (p.1 ∈ wr ∨ H.get? p.1 = none) := fun p hp => ⟨(N' p hp).1, .inr (gsub_none G (off p hp) (N' p hp).2.2)⟩
theorem new_one {wr : List Addr} {H g H' : Heap} {L' : Addr} {news rest : List (Addr × Obj)} {q : Addr × Obj} (G : GSub H g (news.map (·.1))) (N' : News g L' H' (q :: rest)) (off : q.1 ∉ news.map (·.1)) :
    ∀ p ∈ [q], H'.get? p.1 = some p.2 ∧ (p.1 ∈ wr ∨ H.get? p.1 = none) := fun p hp => by
  rw [List.mem_singleton.mp hp]
  exact ⟨(N' q (.head _)).1, .inr (gsub_none G off (N' q (.head _)).2.2)⟩
theorem news_ext {h₀ h h' : Heap} {L : Addr} {news : List (Addr × Obj)} (N : News h₀ L h news) (x : ExtB [] h h') : News h₀ L h' news := fun p hp => ⟨x _ _ (fun q => nomatch q) (N p hp).1, (N p hp).2⟩
theorem small_to {b : Int} (h0 : 0 ≤ b) (h1 : b ≤ 1000000) : Builtin.Range.small 0 b 1 = true := small_one (by decide) (by decide) (by omega) (by omega)
theorem size_to {b : Int} (h0 : 0 ≤ b) : Builtin.Range.rangeSize 0 b 1 = (b.toNat : Int) := by rw [rangeSize_nat, Int.sub_zero]
end
local macro_rules | `(tactic| ktr_enter) => `(tactic| (refine' code_defG ?k1 ?k2 ?k3 ?k4 ?k5 ?kA ?kF ?kK ?k6 ?k7 ?k8 ?k9 ?kB ?_ ?c2 ?c3 ?c4 ?c5; (case kA => exact rfl); (case kF => exact rfl); (case kK => assumption); (case k1 => k_asm); (case k2 => k_asm); (case k3 => k_asm); (case k4 => k_asm); (case k5 => k_asm); (case k6 => k_is); (case k7 => k_is); (case k8 => ktr_room); (case k9 => exact BindsTo.of_eq rfl); (case c5 => decide); (case kB => exact locs rfl); (case c2 => exact rfl); (case c3 => exact rfl); (case c4 => exact rfl); k_whole; intro g' L' h' FG' F' N' B' X' T' G'; (try dsimp only); (try k_fold)))
section
open PySem PySem.Spec PySem.Calls PyProof.Rows PySem.W
theorem isterm (w : World) (x : Int) (t : Tok) : Con w 4 40 79 (fun _ => True) [] [] [.int x t] (fun r _ => r = .bool (decide (x < 256))) := by
  unfold Con
  w_top off
  k_fill
  intro p loose mean mg mb dp un gd cn cs a ccd cl outer A₀ base h₀ L m s Q E B F X N T hk hd hu _ hret
  refine wpAny_call ?_
  k_dflt ktr_enter
  k_steps
  rename GSub _ _ _ => G9
  exact hret _ [] _ _ (by assumption) (ext_after G9 N (by assumption) News.nil (fun _ h9 => nomatch h9)) (fun _ h9 => nomatch h9) rfl
theorem isnonterm (w : World) (x : Int) (t : Tok) : Con w 4 40 86 (fun _ => True) [] [] [.int x t] (fun r _ => r = .bool (decide (256 ≤ x))) := by
  unfold Con
  w_top off
  k_fill
  intro p loose mean mg mb dp un gd cn cs a ccd cl outer A₀ base h₀ L m s Q E B F X N T hk hd hu _ hret
  refine wpAny_call ?_
  k_dflt ktr_enter
  k_steps
  rename GSub _ _ _ => G9
  exact hret _ [] _ _ (by assumption) (ext_after G9 N (by assumption) News.nil (fun _ h9 => nomatch h9)) (fun _ h9 => nomatch h9) rfl
end
section
open PySem PySem.Spec PySem.Calls PyProof.Rows PySem.W
local macro_rules | `(tactic| walk_at "pyIter ref") => `(tactic| ((with_reducible show wpAny _ _ (pyIter (Value.ref _)) (fun it s₂ => LoopAtV _ _ _ _ _ _ _ _ _ it s₂) _ _); refine Stop.out ?_))
def DrJ (l x : Addr) (_i : Nat) (m : Str → Option Value) (news : List (Addr × Obj)) : Prop :=
  ∃ vs ds n, news = [(l, listOf (List.toArray vs) n)] ∧ IntsAre vs ds ∧ ds.length = 5 ∧ (∀ d ∈ ds, 0 ≤ d) ∧ m (Str.ofString "drawn") = some (.ref l) ∧ m (Str.ofString "script") = some (.ref x)
def DrR (v : Value) (tl : List (Addr × Obj)) : Prop :=
  ∃ l vs n d0 d1 d2 d3 d4, v = .ref l ∧ tl = [(l, listOf (List.toArray vs) n)] ∧ IntsAre vs [d0, d1, d2, d3, d4] ∧ 0 ≤ d0 ∧ 0 ≤ d1 ∧ 0 ≤ d2 ∧ 0 ≤ d3 ∧ 0 ≤ d4
theorem drawn (w : World) (x : Addr) (vs : List Value) (ns : List Int) (hi : IntsAre vs ns) (hlen : ns.length ≤ 63) : Con w 4 40 93 (fun h => h.IsList x vs.toArray) [] [] [.ref x] DrR := by
  unfold Con
  w_top off
  k_fill
  intro p loose mean mg mb dp un gd cn cs a ccd cl outer A₀ base h₀ L m s Q E B F X N T hk hd hu hl hret
  refine wpAny_call ?_
  k_dflt ktr_enter
  have hl' := gsub_list F N (by assumption) hl
  k_steps
  refine Stop.mk ?_
  (rename IsRange _ _ _ _ _ _ _ _ => rgX)
  (rename Fr _ _ _ _ => lF')
  (rename News _ _ _ _ => lN')
  refine iter_rangeJ (env := envOf _ _ _ _ _) _ (DrJ _ x) rgX rfl (small_to (by omega) (by omega)) (size_to (by omega)) lF' lN' ⟨_, _, _, rfl, .cons 4 _ (.cons 2 _ (.cons 1 _ (.cons 1 _ (.cons 1026 _ .nil)))), rfl, by decide, rfl, rfl⟩ ?_ ?_
  · clear lF' lN' rgX
    intro i t' m₁ news₁ I h tk hi' hJ hI F' N'
    obtain ⟨us, ds, n, rfl, hus, hds, hpos, e1, e2⟩ := hJ
    simp only [List.forall_mem_cons, List.not_mem_nil, false_implies, implies_true, and_true] at hI
    replace hI := neN hI
    replace F' := frAdd (a := Str.ofString "script") F' ((if_neg (by decide)).trans e2)
    replace F' := frAdd (a := Str.ofString "drawn") F' ((if_neg (by decide)).trans ((if_neg (by decide)).trans e1))
    k_steps
    rename IntsAre _ _ => hI2
    refine ⟨_, _, _, rfl, hI2, (List.length_set ..).trans hds, fun d hd => ?_, rfl, rfl⟩
    rcases List.mem_or_eq_of_mem_set hd with h9 | h9
    · exact hpos d h9
    · rw [h9]
      have a1 : 0 ≤ (ns.getD (0 + (i : Int)).toNat 0).fmod 1000000 := Int.fmod_nonneg_of_pos _ (by decide)
      have a2 : 0 ≤ ds.getD ((0 + (i : Int)).fmod 5).toNat 0 := by
        rw [List.getD_eq_getElem?_getD]
        cases q : ds[((0 + (i : Int)).fmod 5).toNat]? with
        | none => exact Int.le_refl _
        | some d => exact hpos d (List.mem_of_getElem? q)
      omega
  · clear lF' lN' rgX
    intro m₁ news₁ h tk hJ F' N'
    obtain ⟨us, ds, n, rfl, hus, hds, hpos, e1, e2⟩ := hJ
    replace F' := frAdd (a := Str.ofString "drawn") F' e1
    k_steps
    rename GSub _ _ _ => G9
    match ds, hds with
    | [d0, d1, d2, d3, d4], _ =>
      refine hret _ _ h tk (by assumption) (ext_after G9 N F' N' (fun _ h9 => nomatch h9)) (new_after (news := []) G9 N' (fun _ _ h9 => nomatch h9)) ⟨_, us, _, d0, d1, d2, d3, d4, rfl, rfl, hus, ?_⟩
      simpa using hpos
end
section
open PySem PySem.Spec PySem.Calls PyProof.Rows PySem.W

theorem slice_to {x : Str} {j : Nat} (h : j ≤ x.length) : Txt.slice x none (some (j : Int)) = ⟨(x.cps.toList.take j).toArray⟩ := by
  have q := slice_closes_toL (x := x) (j := (j : Int)) (by omega) (by omega)
  rw [beq_iff_eq] at q
  rw [q]; simp
theorem slice_mid {x : Str} {i j : Nat} (h : i ≤ j) (h2 : j ≤ x.length) : Txt.slice x (some (i : Int)) (some (j : Int)) = ⟨((x.cps.toList.drop i).take (j - i)).toArray⟩ := by
  have q := slice_closesL (x := x) (i := (i : Int)) (j := (j : Int)) (by omega) (by omega) (by omega)
  rw [beq_iff_eq] at q
  rw [q]
  have e : ((j : Int) - (i : Int)).toNat = j - i := by omega
  simp [e]
theorem item_cons {x : Str} {i : Nat} (h : i < x.length) : ∃ c, x.cps.toList.drop i = c :: x.cps.toList.drop (i + 1) ∧ Txt.item x (i : Int) = ⟨#[c]⟩ := by
  have hl : i < x.cps.toList.length := by simpa [Str.length] using h
  refine ⟨x.cps.toList[i], List.drop_eq_getElem_cons hl, ?_⟩
  rw [item_meets ⟨by omega, by omega⟩]
  have : i < x.cps.size := by simpa using hl
  simp [this]
/-- what parse257 makes of the signs behind the quote -/
def unq : List Nat → List Nat
  | [] => []
  | c :: r => if c = 34 then (match r with | [] => [] | d :: r' => if d = 34 then 34 :: unq r' else []) else c :: unq r
theorem unq_other {c : Nat} {r : List Nat} (h : c ≠ 34) : unq (c :: r) = c :: unq r := by
  cases r <;> simp [unq, h]
theorem quote_is : Str.ofString "\"" = ⟨#[34]⟩ := by decide +kernel
theorem one_eq {c d : Nat} : ((⟨#[c]⟩ : Str) == ⟨#[d]⟩) = decide (c = d) := by
  by_cases h : c = d
  · subst h; simp
  · simp [h]
end
section
open PySem PySem.Spec PySem.Calls PyProof.Rows PySem.W
local macro_rules | `(tactic| walk_at "exec While") => `(tactic| (refine Stop.out ?_))
local macro_rules | `(tactic| walk_at "exec While Compare cons nil") => `(tactic| (refine Stop.out ?_))
local macro_rules | `(tactic| walk_at "WhileStep2") => `(tactic| first | ((with_reducible show WhileStep2 _ _ _ _ _ _ Flow.brk _); dsimp only [WhileStep2]) | (refine Stop.out ?_))
def PqJ (x : Str) (n : Nat) (m : Str → Option Value) (news : List (Addr × Obj)) : Prop :=
  ∃ (i : Nat) (dn : Str) (ti td tn tx : Tok), news = [] ∧ 5 ≤ i ∧ i ≤ x.length ∧ n = x.length - i ∧ dn.length ≤ i ∧ dn.cps.toList ++ unq (x.cps.toList.drop i) = unq (x.cps.toList.drop 5) ∧
    m (Str.ofString "i") = some (.int (i : Int) ti) ∧ m (Str.ofString "n") = some (.int (x.length : Int) tn) ∧ m (Str.ofString "dirname") = some (.str dn td) ∧ m (Str.ofString "resp") = some (.str x tx)
theorem unq_brk {x : Str} {dn : Str} {i : Nat} (heq : dn.cps.toList ++ unq (x.cps.toList.drop i) = unq (x.cps.toList.drop 5)) (h0 : unq (x.cps.toList.drop i) = []) : dn = ⟨(unq (x.cps.toList.drop 5)).toArray⟩ := by
  rw [h0, List.append_nil] at heq
  rw [← heq]
theorem p257 (w : World) (x : Str) (t : Tok) (hx : x.length < 1000) (h5 : x.cps.toList.take 5 = [50, 53, 55, 32, 34]) : Con w 4 40 72 (fun _ => True) [] [] [.str x t] (fun r tl => ∃ t', r = .str ⟨(unq (x.cps.toList.drop 5)).toArray⟩ t') := by
  have h5l : 5 ≤ x.length := by
    have := congrArg List.length h5
    simp only [List.length_take, List.length_cons, List.length_nil] at this
    have e : x.length = x.cps.toList.length := by simp [Str.length]
    omega
  have f1 : Txt.slice x none (some 3) = Str.ofString "257" := by
    rw [show (3 : Int) = ((3 : Nat) : Int) from rfl, slice_to (by omega), show x.cps.toList.take 3 = (x.cps.toList.take 5).take 3 by rw [List.take_take]; rfl, h5]
    decide +kernel
  have f2 : Txt.slice x (some 3) (some 5) = Str.ofString " \"" := by
    rw [show (3 : Int) = ((3 : Nat) : Int) from rfl, show (5 : Int) = ((5 : Nat) : Int) from rfl, slice_mid (by omega) (by omega), show (x.cps.toList.drop 3).take (5 - 3) = (x.cps.toList.take 5).drop 3 by rw [List.drop_take], h5]
    decide +kernel
  clear h5
  unfold Con
  w_top off
  k_fill
  intro p loose mean mg mb dp un gd cn cs a ccd cl outer A₀ base h₀ L m s Q E B F X N T hk hd hu _ hret
  refine wpAny_call ?_
  k_dflt ktr_enter
  k_steps
  · exfalso; simp_all
  · exfalso; simp_all
  clear f1 f2
  refine Stop.mk ?_
  (rename Fr _ _ _ _ => lF')
  (rename News _ _ _ _ => lN')
  refine While_inv2 (PqJ x) lF' lN' ⟨5, Str.ofString "", _, _, _, _, rfl, by omega, h5l, rfl, by decide, rfl, rfl, rfl, rfl, rfl⟩ ?_
  clear lF' lN'
  intro n' m₁ news₁ h tk F' N' hJ
  obtain ⟨i, dn, ti, td, tn, tx, rfl, hi5, hin, hn, hdl, heq, e1, e2, e3, e4⟩ := hJ
  replace F' := frAdd (a := Str.ofString "resp") F' e4
  replace F' := frAdd (a := Str.ofString "n") F' ((if_neg (by decide)).trans e2)
  replace F' := frAdd (a := Str.ofString "dirname") F' ((if_neg (by decide)).trans ((if_neg (by decide)).trans e3))
  replace F' := frAdd (a := Str.ofString "i") F' ((if_neg (by decide)).trans ((if_neg (by decide)).trans ((if_neg (by decide)).trans e1)))
  have hS : i < 1000 := by omega
  k_steps
  · -- the quote is the last sign
    rename GSub _ _ _ => G9
    rename (Txt.item x _ == _) = true => q1
    obtain ⟨c, hc1, hc2⟩ := item_cons (x := x) (i := i) (by omega)
    rw [hc2, quote_is, one_eq, decide_eq_true_eq] at q1
    refine hret _ [] _ _ (by assumption) (ext_after G9 N (by assumption) News.nil (fun _ h9 => nomatch h9)) (fun _ h9 => nomatch h9) ⟨td, ?_⟩
    rw [unq_brk heq]
    rw [hc1, List.drop_eq_nil_of_le (by have e : x.length = x.cps.toList.length := by simp [Str.length]
                                        omega), q1]
    simp [unq]
  · -- a quote, another sign
    rename GSub _ _ _ => G9
    rename (Txt.item x _ == _) = true => q1
    rename (Txt.item x _ != _) = true => q2
    obtain ⟨c, hc1, hc2⟩ := item_cons (x := x) (i := i) (by omega)
    obtain ⟨d, hd1, hd2⟩ := item_cons (x := x) (i := i + 1) (by omega)
    rw [hc2, quote_is, one_eq, decide_eq_true_eq] at q1
    rw [show ((i : Int) + 1) = ((i + 1 : Nat) : Int) from rfl, hd2, quote_is, bne, one_eq, Bool.not_eq_true', decide_eq_false_iff_not] at q2
    refine hret _ [] _ _ (by assumption) (ext_after G9 N (by assumption) News.nil (fun _ h9 => nomatch h9)) (fun _ h9 => nomatch h9) ⟨td, ?_⟩
    rw [unq_brk heq]
    rw [hc1, hd1, q1]
    simp [unq, q2]
  · -- two quotes
    rename (Txt.item x _ == _) = true => q1
    rename (Txt.item x _ != _) = false => q2
    obtain ⟨c, hc1, hc2⟩ := item_cons (x := x) (i := i) (by omega)
    obtain ⟨d, hd1, hd2⟩ := item_cons (x := x) (i := i + 1) (by omega)
    rw [hc2, quote_is, one_eq, decide_eq_true_eq] at q1
    rw [show ((i : Int) + 1) = ((i + 1 : Nat) : Int) from rfl, hd2, quote_is, bne, one_eq, Bool.not_eq_false', decide_eq_true_eq] at q2
    refine Stop.mk ⟨_, _, _, _, x.length - (i + 2), rfl, by assumption, by assumption, by omega, i + 2, dn ++ Txt.item x (i : Int), _, _, _, _, rfl, by omega, by omega, rfl, by omega, ?_, rfl, rfl, rfl, rfl⟩
    rw [← heq, hc1, hd1, q2, hc2, q1]
    simp [unq, Str.cps_append]
  · -- another sign
    rename (Txt.item x _ == _) = false => q1
    obtain ⟨c, hc1, hc2⟩ := item_cons (x := x) (i := i) (by omega)
    rw [hc2, quote_is, one_eq, decide_eq_false_iff_not] at q1
    refine Stop.mk ⟨_, _, _, _, x.length - (i + 1), rfl, by assumption, by assumption, by omega, i + 1, dn ++ Txt.item x (i : Int), _, _, _, _, rfl, by omega, by omega, rfl, by omega, ?_, rfl, rfl, rfl, rfl⟩
    rw [← heq, hc1, hc2, unq_other q1]
    simp [Str.cps_append]
  · -- the end
    rename GSub _ _ _ => G9
    refine hret _ [] _ _ (by assumption) (ext_after G9 N F' News.nil (fun _ h9 => nomatch h9)) (fun _ h9 => nomatch h9) ⟨td, ?_⟩
    rw [unq_brk heq]
    rw [List.drop_eq_nil_of_le (by have e : x.length = x.cps.toList.length := by simp [Str.length]
                                   omega)]
    rfl
end
section
open PySem PySem.Spec PySem.Calls PyProof.Rows PySem.W

theorem length_eq (x : Str) : x.length = x.cps.toList.length := by simp [Str.length]
theorem getD_eq (x : Str) (v : Nat) : x.cps.getD v 0 = x.cps.toList.getD v 0 := by simp [List.getD_eq_getElem?_getD]
theorem find3_at {x : Str} {c lo : Nat} {pre post : List Nat} (h : x.cps.toList = pre ++ c :: post) (hlo : lo ≤ pre.length) (hn : c ∉ pre.drop lo) : Txt.find3 x ⟨#[c]⟩ (lo : Int) = (pre.length : Int) := by
  have hl : x.length = pre.length + (post.length + 1) := by rw [length_eq, h]; simp
  have hf : fromIndex x.length (lo : Int) = lo := by
    simp only [fromIndex]; omega
  have hat : x.cps.getD pre.length 0 = c := by rw [getD_eq, h]; simp
  rcases StrLaws.find3_spec x c (lo : Int) with ⟨_, q⟩ | ⟨k, e, h1, h2, h3, h4⟩
  · exact absurd hat (q pre.length (by omega) (by omega))
  · rw [hf] at h1
    rcases Nat.lt_trichotomy k pre.length with q | q | q
    · exfalso
      rw [getD_eq, h, List.getD_eq_getElem?_getD, List.getElem?_append_left q] at h3
      refine hn ?_
      have : (pre.drop lo)[k - lo]? = some c := by
        rw [List.getElem?_drop, show lo + (k - lo) = k by omega]
        rw [List.getElem?_eq_getElem q] at h3 ⊢
        simpa using h3
      exact List.mem_of_getElem? this
    · rw [e, q]
    · exact absurd hat (h4 pre.length (by omega) q)
theorem find_at {x : Str} {c : Nat} {pre post : List Nat} (h : x.cps.toList = pre ++ c :: post) (hn : c ∉ pre) : Txt.find x ⟨#[c]⟩ = (pre.length : Int) := by
  have := find3_at (lo := 0) h (Nat.zero_le _) (by simpa using hn)
  rw [← this]
  rfl
theorem apart {c : Nat} : ∀ {a a' b b' : List Nat}, c ∉ a → c ∉ a' → a ++ c :: b = a' ++ c :: b' → a = a' ∧ b = b'
  | [], [], _, _, _, _, e => ⟨rfl, (List.cons.inj e).2⟩
  | [], y :: _, _, _, _, h, e => absurd (List.cons.inj e).1 (fun q => h (q ▸ .head _))
  | x :: _, [], _, _, h, _, e => absurd (List.cons.inj e).1 (fun q => h (q ▸ .head _))
  | x :: a, y :: a', b, b', h, h', e => by
    have e1 := (List.cons.inj e).1
    have e2 := apart (fun q => h (.tail _ q)) (fun q => h' (.tail _ q)) (List.cons.inj e).2
    exact ⟨by rw [e1, e2.1], e2.2⟩
theorem str_of {x : Str} {l : List Nat} (h : x.cps.toList = l) : x = ⟨l.toArray⟩ := by
  rw [← h]
theorem split229 {D S : Str} (hD : 124 ∉ D.cps.toList) (hS : S.cps.toList = [124, 124, 124] ++ D.cps.toList ++ [124]) : Txt.split S ⟨#[124]⟩ = [⟨#[]⟩, ⟨#[]⟩, ⟨#[]⟩, D, ⟨#[]⟩] := by
  have h1 := StrLaws.join_split S ⟨#[124]⟩
  have h2 := StrLaws.split_free S 124
  have h3 := split_len S 124
  rw [hS, cnt_append, cnt_append, cnt_none 124 _ hD] at h3
  have h3' : (Txt.split S ⟨#[124]⟩).length = 5 := by
    have : cnt 124 [124, 124, 124] = 3 := by decide
    have : cnt 124 [124] = 1 := by decide
    omega
  generalize Txt.split S ⟨#[124]⟩ = ps at h1 h2 h3'
  match ps, h3' with
  | [p0, p1, p2, p3, p4], _ =>
    have h4 := congrArg (fun z : Str => z.cps.toList) h1
    simp only [Str.join, Str.cps_append, Array.toList_append] at h4
    rw [hS] at h4
    simp only [List.append_assoc, List.cons_append, List.nil_append] at h4
    have g0 := apart (a' := []) (b' := 124 :: 124 :: (D.cps.toList ++ [124])) (h2 p0 (by simp)) (by simp) h4
    have g1 := apart (a' := []) (b' := 124 :: (D.cps.toList ++ [124])) (h2 p1 (by simp)) (by simp) g0.2
    have g2 := apart (a' := []) (b' := (D.cps.toList ++ [124])) (h2 p2 (by simp)) (by simp) g1.2
    have g3 := apart (a' := D.cps.toList) (b' := []) (h2 p3 (by simp)) hD g2.2
    rw [str_of g0.1, str_of g1.1, str_of g2.1, str_of g3.1, str_of g3.2]
end
section
open PySem PySem.Spec PySem.Calls PyProof.Rows PySem.W
local macro_rules | `(tactic| walk_at "none such") => `(tactic| fail)
local macro_rules | `(tactic| walk_at "storeName") => `(tactic| ((with_reducible show wpAny _ _ (storeName _ _ (Value.int (Txt.find _ _) _)) _ _ _); (rename Txt.find _ _ = _ => q9); rw [q9]))
local macro_rules | `(tactic| walk_at "storeName") => `(tactic| ((with_reducible show wpAny _ _ (storeName _ _ (Value.int (Txt.find3 _ _ _) _)) _ _ _); (rename Txt.find3 _ _ _ = _ => q9); rw [q9]))
local macro_rules | `(tactic| walk_at "call type:int") => `(tactic| (refine Stop.out ?_))
def P229R (n : Int) (v : Value) (tl : List (Addr × Obj)) : Prop :=
  ∃ a th tn k, v = .ref a ∧ (a, ({ cls := .type "tuple", data := .seq #[.str (Str.ofString "hall") th, .int n tn] k } : Obj)) ∈ tl
theorem p229core (w : World) (n : Int) (hn0 : 0 ≤ n) (hn1 : n < 60000) (t th t21 : Tok) (pe : Addr) (n1 : Nat) (x : Str) (r : Nat)
    (hlen : x.length = r + 1) (hxl : x.length < 1000) (hr2 : 21 ≤ r)
    (f1 : (Txt.slice x none (some 3) != Str.ofString "229") = false) (f2 : Txt.find x (Str.ofString "(") = 16) (f3 : Txt.find3 x (Str.ofString ")") (16 + 1) = (r : Int)) (f4 : (Txt.item x (16 + 1) != Txt.item x ((r : Int) - 1)) = false)
    (g3 : Stop (Txt.split (Txt.slice x (some (16 + 1)) (some (r : Int))) (Txt.item x (16 + 1)) = [⟨#[]⟩, ⟨#[]⟩, ⟨#[]⟩, Str.ofString (toString n), ⟨#[]⟩])) :
    Con w 4 40 65 (fun _ => True) [(pe, { cls := .type "tuple", data := .seq #[.str (Str.ofString "hall") th, .int 21 t21] n1 })] [] [.str x t, .ref pe] (P229R n) := by
  unfold Con
  w_top off
  k_fill
  intro p loose mean mg mb dp un gd cn cs a ccd cl outer A₀ base h₀ L m s Q E B F X N T hk hd hu _ hret
  refine wpAny_call ?_
  k_dflt ktr_enter
  k_steps
  · exfalso
    rename List.map _ _ = Txt.split _ _ => hl9
    rename ¬ (_ : Int) = 5 => h59
    have := congrArg List.length (hl9.trans g3.out)
    simp only [List.length_map, List.length_cons, List.length_nil] at this
    omega
  refine Stop.mk ?_
  rename List.map _ _ = Txt.split _ _ => hl9
  rename _ = some _ => h59
  rw [hl9, g3.out] at h59
  have h60 := Option.some.inj h59
  rw [← h60]
  refine KIN.call_num hn0 (by omega) ?_
  k_steps
  rename GSub _ _ _ => G9
  rename_i D9 h9 F9 N9 l9 kF9 kN9 T9 X9
  refine hret _ _ _ _ kF9 (ext_after G9 N F9 N9 (fun p hp => .inr (.tail _ (.tail _ hp)))) (new_one (news := [(pe, _)]) G9 N9 (fun q => ?_)) ⟨_, _, _, _, rfl, .head _⟩
  exact absurd (List.mem_singleton.mp q) (Nat.ne_of_gt l9.2)
theorem p229 (w : World) (n : Int) (hn0 : 0 ≤ n) (hn1 : n < 60000) (t th t21 : Tok) (pe : Addr) (n1 : Nat) : Con w 4 40 65 (fun _ => True) [(pe, { cls := .type "tuple", data := .seq #[.str (Str.ofString "hall") th, .int 21 t21] n1 })] []
    [.str (Str.ofString "229 the rule is (|||" ++ Str.ofString (toString n) ++ Str.ofString "|)") t, .ref pe] (P229R n) := by
  have hD : ∀ k : Nat, (k ≠ 45 ∧ (k < 48 ∨ 57 < k)) → k ∉ (Str.ofString (toString n)).cps.toList := fun k hk => int_text_free' k hk n
  have hDl : (Str.ofString (toString n)).length ≤ 10 := KT.len_num hn0 (by omega)
  have hA : (Str.ofString "229 the rule is (|||").cps.toList = [50, 50, 57, 32, 116, 104, 101, 32, 114, 117, 108, 101, 32, 105, 115, 32, 40, 124, 124, 124] := by decide +kernel
  have hB : (Str.ofString "|)").cps.toList = [124, 41] := by decide +kernel
  have hx : (Str.ofString "229 the rule is (|||" ++ Str.ofString (toString n) ++ Str.ofString "|)").cps.toList = [50, 50, 57, 32, 116, 104, 101, 32, 114, 117, 108, 101, 32, 105, 115, 32, 40, 124, 124, 124] ++ (Str.ofString (toString n)).cps.toList ++ [124, 41] := by
    simp only [Str.cps_append, Array.toList_append, hA, hB]
  generalize Str.ofString "229 the rule is (|||" ++ Str.ofString (toString n) ++ Str.ofString "|)" = x at hx ⊢
  obtain ⟨D, hDe⟩ : ∃ D, D = Str.ofString (toString n) := ⟨_, rfl⟩
  rw [← hDe] at hx hD hDl
  have hlen : x.length = (D.length + 21) + 1 := by rw [length_eq, hx, length_eq D]; simp
  refine p229core w n hn0 hn1 t th t21 pe n1 x (D.length + 21) hlen (by omega) (by omega) ?_ ?_ ?_ ?_ ?_
  · rw [show (3 : Int) = ((3 : Nat) : Int) from rfl, slice_to (by omega), hx]
    show ((⟨#[50, 50, 57]⟩ : Str) != Str.ofString "229") = false
    decide +kernel
  · rw [show Str.ofString "(" = ⟨#[40]⟩ by decide +kernel]
    exact find_at (pre := [50, 50, 57, 32, 116, 104, 101, 32, 114, 117, 108, 101, 32, 105, 115, 32]) (post := [124, 124, 124] ++ D.cps.toList ++ [124, 41]) (by rw [hx]; simp) (by decide)
  · rw [show Str.ofString ")" = ⟨#[41]⟩ by decide +kernel]
    have e := find3_at (x := x) (c := 41) (lo := 17) (pre := [50, 50, 57, 32, 116, 104, 101, 32, 114, 117, 108, 101, 32, 105, 115, 32, 40, 124, 124, 124] ++ D.cps.toList ++ [124]) (post := []) (by rw [hx]; simp) (by simp) (by
      have := hD 41 (by decide)
      simp [this])
    have e2 : (([50, 50, 57, 32, 116, 104, 101, 32, 114, 117, 108, 101, 32, 105, 115, 32, 40, 124, 124, 124] ++ D.cps.toList ++ [124]).length : Int) = ((D.length + 21 : Nat) : Int) := by
      rw [length_eq D]; simp; omega
    rw [e2] at e
    exact e
  all_goals (
    have g1 : Txt.item x (16 + 1) = ⟨#[124]⟩ := by
      rw [item_meets ⟨by omega, by omega⟩, getD_eq, hx]
      rfl)
  · have g2 : Txt.item x (((D.length + 21 : Nat) : Int) - 1) = ⟨#[124]⟩ := by
      rw [item_meets ⟨by omega, by omega⟩, getD_eq, hx]
      have : (((D.length + 21 : Nat) : Int) - 1).toNat = 20 + D.cps.toList.length := by rw [length_eq D]; omega
      rw [this, List.append_assoc, List.getD_eq_getElem?_getD, List.getElem?_append_right (by simp), List.getElem?_append_right (by simp)]
      simp
    rw [g1, g2]; decide
  · refine Stop.mk ?_
    rw [g1, ← hDe]
    refine split229 (hD 124 (by decide)) ?_
    rw [show ((16 : Int) + 1) = ((17 : Nat) : Int) from rfl, slice_mid (by omega) (by omega), hx]
    have e2 : D.length + 21 - 17 = ([124, 124, 124] ++ D.cps.toList ++ [124]).length := by rw [length_eq D]; simp
    rw [e2]
    show List.take _ ([124, 124, 124] ++ D.cps.toList ++ [124, 41]) = _
    rw [show ([124, 124, 124] ++ D.cps.toList ++ [124, 41]) = ([124, 124, 124] ++ D.cps.toList ++ [124]) ++ [41] by simp, List.take_left]
end
section
open PySem PySem.Spec PySem.Calls PyProof.Rows PySem.W

/-- the bools W 0, W 1 .. as a list's values -/
def bools (W : Nat → Bool) (n : Nat) : List Value := (List.range n).map fun m => Value.bool (W m)
theorem bools_get {W : Nat → Bool} {n k : Nat} (h : k < n) : (bools W n)[k]? = some (.bool (W k)) := by
  simp [bools, h]
theorem bools_len {W : Nat → Bool} {n : Nat} : (bools W n).length = n := by simp [bools]
section
variable {prog : Program} {w : World} {A : Around} {E : Value → Shared → Prop} {s : Shared} {h₀ : Heap} {L D : Addr} {m : Str → Option Value} {news : List (Addr × Obj)} {n : Nat} {k : Int} {u : Tok}
theorem item_bools {W : Nat → Bool} {len : Nat} {value slice : PySem.Expr} {Q : Value → Shared → Prop} (N : News h₀ L s.heap news) (hm : (D, listOf (bools W len).toArray n) ∈ news) (h0 : 0 ≤ k) (h1 : k < len) (hfit : k < 2 ^ 63) (h : Q (.bool (W k.toNat)) s)
    (hs : subscripted slice false (.ref D) (.int k u) = operate [.ref D, .int k u] (getItem (.ref D) (.int k u)) := by with_unfolding_all rfl) :
    wpAny (model prog w) A (subscriptTail value slice (.ref D) (.int k u)) Q E s :=
  have hL := PySem.IsL.isList (n := n) (N _ hm).1
  tail_any hL.typeIs slot_list_getitem.lookup (wpAny_getItem_list hL h0 hfit (by simpa using bools_get (W := W) (by omega)) h) hs
end
end
section
open PySem PySem.Spec PySem.Calls PyProof.Rows PySem.W

/-- does the i-th place say yes -/
def ayb (ay : Int) (i : Nat) : Bool := decide (¬ Builtin.bitAnd (ay.fdiv (2 ^ i)) 1 = 0)
def yesAt (os : List Int) (ay : Int) : Nat → Int
  | 0 => 0
  | i + 1 => if ayb ay i then yesAt os ay i + 2 ^ (os.getD i 0).toNat else yesAt os ay i
def noAt (os : List Int) (ay : Int) : Nat → Int
  | 0 => 0
  | i + 1 => if ayb ay i then noAt os ay i else noAt os ay i + 2 ^ (os.getD i 0).toNat
def settledAt (W Ls : Nat → Bool) (os : List Int) (ay : Int) (i : Nat) : Bool := W (yesAt os ay (i + 1)).toNat || Ls (15 - noAt os ay (i + 1)).toNat
def textAt (W Ls : Nat → Bool) (os : List Int) (ay : Int) : Nat → List Nat
  | 0 => []
  | i + 1 => textAt W Ls os ay i ++ (48 + (os.getD i 0).toNat) :: (if settledAt W Ls os ay i then [34] else [34, 34])
def sumAt (os : List Int) : Nat → Int
  | 0 => 0
  | i + 1 => sumAt os i + 2 ^ (os.getD i 0).toNat
theorem yes_no (os : List Int) (ay : Int) : ∀ i, yesAt os ay i + noAt os ay i = sumAt os i
  | 0 => rfl
  | i + 1 => by
    have := yes_no os ay i
    simp only [yesAt, noAt, sumAt]
    split <;> omega
theorem pow_pos' (e : Nat) : (0 : Int) < 2 ^ e := by
  have : (0 : Int) < 2 := by decide
  exact Int.pow_pos this
theorem yes_nn (os : List Int) (ay : Int) : ∀ i, 0 ≤ yesAt os ay i
  | 0 => Int.le_refl _
  | i + 1 => by
    have := yes_nn os ay i
    have := pow_pos' (os.getD i 0).toNat
    simp only [yesAt]
    split <;> omega
theorem no_nn (os : List Int) (ay : Int) : ∀ i, 0 ≤ noAt os ay i
  | 0 => Int.le_refl _
  | i + 1 => by
    have := no_nn os ay i
    have := pow_pos' (os.getD i 0).toNat
    simp only [noAt]
    split <;> omega
theorem sum_le (os : List Int) (h : sumAt os 4 = 15) : ∀ i, i ≤ 4 → sumAt os i ≤ 15 := by
  have p0 := pow_pos' (os.getD 0 0).toNat
  have p1 := pow_pos' (os.getD 1 0).toNat
  have p2 := pow_pos' (os.getD 2 0).toNat
  have p3 := pow_pos' (os.getD 3 0).toNat
  simp only [sumAt] at h
  intro i hi
  match i, hi with
  | 0, _ => simp only [sumAt]; omega
  | 1, _ => simp only [sumAt]; omega
  | 2, _ => simp only [sumAt]; omega
  | 3, _ => simp only [sumAt]; omega
  | 4, _ => simp only [sumAt]; omega
/-- the signs of the first j + 1 names, marks between -/
def heardOf (os : List Int) : Nat → List Nat
  | 0 => [48 + (os.getD 0 0).toNat]
  | j + 1 => heardOf os j ++ [34, 48 + (os.getD (j + 1) 0).toNat]
theorem heard_is {W Ls : Nat → Bool} {os : List Int} {ay : Int} {tail : List Nat} {j : Nat} (hj : j < 4) (h1 : settledAt W Ls os ay j = true) (h0 : ∀ i, i < j → settledAt W Ls os ay i = false) :
    unq (textAt W Ls os ay 4 ++ 32 :: tail) = heardOf os j := by
  have e : ∀ x : Nat, ∀ r, unq ((48 + x) :: r) = (48 + x) :: unq r := fun x r => unq_other (by omega)
  have e34 : ∀ x : Nat, ¬ (48 + x = 34) := fun x => by omega
  have q2 : ∀ r, unq (34 :: 34 :: r) = 34 :: unq r := fun r => by simp [unq]
  have q1 : ∀ x r, unq (34 :: (48 + x) :: r) = [] := fun x r => by simp [unq, e34]
  have q0 : ∀ r, unq (34 :: 32 :: r) = [] := fun r => by simp [unq]
  match j, hj with
  | 0, _ =>
    simp only [textAt, h1, if_true, List.nil_append, List.append_assoc, List.cons_append, e, heardOf, q1]
  | 1, _ =>
    have := h0 0 (by omega)
    simp only [textAt, this, h1, if_true, Bool.false_eq_true, if_false, List.nil_append, List.append_assoc, List.cons_append, e, heardOf, q1, q2]
  | 2, _ =>
    have a := h0 0 (by omega)
    have b := h0 1 (by omega)
    simp only [textAt, a, b, h1, if_true, Bool.false_eq_true, if_false, List.nil_append, List.append_assoc, List.cons_append, e, heardOf, q1, q2]
  | 3, _ =>
    have a := h0 0 (by omega)
    have b := h0 1 (by omega)
    have c := h0 2 (by omega)
    simp only [textAt, a, b, c, h1, if_true, Bool.false_eq_true, if_false, List.nil_append, List.append_assoc, List.cons_append, e, heardOf, q1, q2, q0]
end
section
open PySem PySem.Spec PySem.Calls PyProof.Rows PySem.W

theorem cast_up (a : Int) (i : Nat) : a + (i : Int) + 1 = a + ((i + 1 : Nat) : Int) := by push_cast; omega
theorem cast_dn (n i : Nat) : (n : Int) - (i : Int) - 1 = (n : Int) - ((i + 1 : Nat) : Int) := by push_cast; omega
theorem cast_z1 (a : Int) : a + ((0 : Nat) : Int) = a := Int.add_zero a
theorem cast_z2 (n : Nat) : (n : Int) - ((0 : Nat) : Int) = n := Int.sub_zero _
section
variable {prog : Program} {w : World} {A : Around} {s : Shared} {h₀ : Heap} {L : Addr} {m : Str → Option Value} {env : Env} {elt : Expr} {x : Str} {scope : Scope} {cl : List (Str × Addr)} {S : List (Addr × Obj) → Prop} {P : Nat → Value → Prop} {Fin : List Value → List (Addr × Obj) → Prop} {news : List (Addr × Obj)}
/-- a block of one clause by what holds ahead of each turn -/
theorem compJ {n : Nat} (J : Nat → List Value → List (Addr × Obj) → Prop) (start : J 0 [] news)
    (turn : ∀ i ys news₁ v I oI C oC D m₂ h tk (E' : Value → Shared → Prop), i < n → J i ys news₁ → P i v → LCg.NsObj oC m₂ → m₂ x = some v → Fr h₀ L h m → News h₀ L h ((I, oI) :: (C, oC) :: (D, LCg.lst ys) :: news₁) → LCg.Off3 I C D news₁ → ((@Ne Nat I C) ∧ (@Ne Nat I D) ∧ (@Ne Nat C D)) →
      wpAny (model prog w) A (eval elt (compEnvC scope cl C env)) (LCg.CompEnd h₀ L m { s with heap := h, toks := tk } I oI C oC D (LCg.lst ys) S (fun y news' => J (i + 1) (ys ++ [y]) news')) E' { s with heap := h, toks := tk })
    (fin : ∀ ys news', J n ys news' → Fin ys news') : LCg.CompRest prog w A h₀ L m env elt x scope cl s S P Fin n 0 [] news := by
  have key : ∀ (k i : Nat) (ys : List Value) (news₁ : List (Addr × Obj)), i + k = n → J i ys news₁ → LCg.CompRest prog w A h₀ L m env elt x scope cl s S P Fin k i ys news₁ := by
    intro k
    induction k with
    | zero =>
      intro i ys news₁ hi hj
      have e : i = n := by omega
      subst e
      exact LCg.CompRest.zero (fin ys news₁ hj)
    | succ k ih =>
      intro i ys news₁ hi hj
      refine LCg.CompRest.succ ?_
      intro v I oI C oC D m₂ h tk E' hv hC hx F N off ne
      refine wpAny_mono (turn i ys news₁ v I oI C oC D m₂ h tk E' (by omega) hj hv hC hx F N off ne) (fun y s₂ hq => ?_) fun _ _ e => e
      obtain ⟨h', tk', nw, e, F', N', off', hS, hn⟩ := hq
      exact ⟨h', tk', nw, e, F', N', off', hS, ih (i + 1) _ nw (by omega) hn⟩
  exact key n 0 [] news (by omega) start
end
section
variable {prog : Program} {w : World} {A : Around} {s : Shared} {h₀ : Heap} {L : Addr} {m : Str → Option Value} {env : Env} {ct elt : Expr} {x : Str} {scope : Scope} {cl : List (Str × Addr)} {S : List (Addr × Obj) → Prop} {P : Nat → Value → Prop} {Fin : List Value → List (Addr × Obj) → Prop} {news : List (Addr × Obj)}
/-- the same, of a clause with one test -/
theorem compTJ {n : Nat} (J : Nat → List Value → List (Addr × Obj) → Prop) (start : J 0 [] news)
    (turn : ∀ i ys news₁ v I oI C oC D m₂ h tk (E' : Value → Shared → Prop), i < n → J i ys news₁ → P i v → LCg.NsObj oC m₂ → m₂ x = some v → Fr h₀ L h m → News h₀ L h ((I, oI) :: (C, oC) :: (D, LCg.lst ys) :: news₁) → LCg.Off3 I C D news₁ → ((@Ne Nat I C) ∧ (@Ne Nat I D) ∧ (@Ne Nat C D)) →
      wpAny (model prog w) A (isTrue ct (compEnvC scope cl C env) (eval ct (compEnvC scope cl C env))) (fun ok s' => if ok = true then
        wpAny (model prog w) A (eval elt (compEnvC scope cl C env)) (LCg.CompEnd h₀ L m { s with heap := h, toks := tk } I oI C oC D (LCg.lst ys) S (fun y news' => J (i + 1) (ys ++ [y]) news')) E' s'
        else LCg.CompEnd h₀ L m { s with heap := h, toks := tk } I oI C oC D (LCg.lst ys) S (fun _ news' => J (i + 1) ys news') Value.none s') E' { s with heap := h, toks := tk })
    (fin : ∀ ys news', J n ys news' → Fin ys news') : LCt.CompRestT prog w A h₀ L m env ct elt x scope cl s S P Fin n 0 [] news := by
  have key : ∀ (k i : Nat) (ys : List Value) (news₁ : List (Addr × Obj)), i + k = n → J i ys news₁ → LCt.CompRestT prog w A h₀ L m env ct elt x scope cl s S P Fin k i ys news₁ := by
    intro k
    induction k with
    | zero =>
      intro i ys news₁ hi hj
      have e : i = n := by omega
      subst e
      exact LCt.CompRestT.zero (fin ys news₁ hj)
    | succ k ih =>
      intro i ys news₁ hi hj
      refine LCt.CompRestT.succ ?_
      intro v I oI C oC D m₂ h tk E' hv hC hx F N off ne
      refine wpAny_mono (turn i ys news₁ v I oI C oC D m₂ h tk E' (by omega) hj hv hC hx F N off ne) (fun ok s₂ hq => ?_) fun _ _ e => e
      cases ok with
      | true =>
        simp only [if_true] at hq ⊢
        refine wpAny_mono hq (fun y s₃ hr => ?_) fun _ _ e => e
        obtain ⟨h', tk', nw, e, F', N', off', hS, hn⟩ := hr
        exact ⟨h', tk', nw, e, F', N', off', hS, ih (i + 1) _ nw (by omega) hn⟩
      | false =>
        simp only [Bool.false_eq_true, if_false] at hq ⊢
        obtain ⟨h', tk', nw, e, F', N', off', hS, hn⟩ := hq
        exact ⟨h', tk', nw, e, F', N', off', hS, ih (i + 1) _ nw (by omega) hn⟩
  exact key n 0 [] news (by omega) start
end
theorem strs_snoc {y : Str} {t : Tok} : ∀ {vs : List Value} {ys : List Str}, StrsAre vs ys → StrsAre (vs ++ [.str y t]) (ys ++ [y])
  | _, _, .nil => .cons y t .nil
  | _, _, .cons z u r => .cons z u (strs_snoc r)
theorem ints_snoc {y : Int} {t : Tok} : ∀ {vs : List Value} {ys : List Int}, IntsAre vs ys → IntsAre (vs ++ [.int y t]) (ys ++ [y])
  | _, _, .nil => .cons y t .nil
  | _, _, .cons z u r => .cons z u (ints_snoc r)
theorem ints_at {vs : List Value} {ns : List Int} (h : IntsAre vs ns) {i : Nat} {v : Value} (hv : vs[i]? = some v) : ∃ t, v = .int (ns.getD i 0) t ∧ i < ns.length := by
  induction h generalizing i with
  | nil => simp at hv
  | cons n t _ ih =>
    cases i with
    | zero => exact ⟨t, by simpa using hv.symm, by simp⟩
    | succ i =>
      obtain ⟨t', e, hl⟩ := ih (by simpa using hv)
      exact ⟨t', by simpa using e, by simpa using hl⟩
end
local macro_rules | `(tactic| walk_at "execs nil") => `(tactic| (refine wpAny_execs_nil ?_))
local macro_rules | `(tactic| walk_at "UnrEnd") => `(tactic| refine Stop.out ?_)
local macro_rules | `(tactic| walk_at "call ref") => `(tactic| refine Stop.out ?_)
local macro_rules | `(tactic| walk_at "CompEnd") => `(tactic| refine Stop.out ?_)
local macro_rules | `(tactic| walk_at "CompSrc") => `(tactic| refine Stop.out ?_)
section
open PySem PySem.Spec PySem.Calls PyProof.Rows PySem.W
local macro_rules | `(tactic| walk_at "pyIter ref") => `(tactic| ((with_reducible show wpAny _ _ (pyIter (Value.ref _)) (fun it s₂ => LoopAtV _ _ _ _ _ _ _ _ _ it s₂) _ _); refine Stop.out ?_))
local macro_rules | `(tactic| walk_at "subscriptTail Name Name ref int") => `(tactic| (k_here; (refine' item_bools ?k1 ?k2 ?k3 ?k4 ?k5 ?_; (case k1 => k_asm); (case k2 => k_mem); (case k3 => omega); (case k4 => omega); (case k5 => omega))))
local macro_rules | `(tactic| walk_at "subscriptTail Name BinOp ref int") => `(tactic| (k_here; (refine' item_bools ?k1 ?k2 ?k3 ?k4 ?k5 ?_; (case k1 => k_asm); (case k2 => k_mem); (case k3 => omega); (case k4 => omega); (case k5 => omega))))
local macro_rules | `(tactic| walk_at "storeName") => `(tactic| ((with_reducible show wpAny _ _ (storeName _ _ (Value.int (Txt.count _ _) _)) _ _ _); (rename Txt.count _ _ = _ => q9); rw [q9]))
theorem cnt_heard {os : List Int} : ∀ j, cnt 34 (heardOf os j) = j
  | 0 => by
    have : ¬ (48 + (os.getD 0 0).toNat = 34) := by omega
    simp only [heardOf, cnt_cons, cnt_nil, if_neg this]; rfl
  | j + 1 => by
    have : ¬ (48 + (os.getD (j + 1) 0).toNat = 34) := by omega
    simp only [heardOf, cnt_append, cnt_heard j, cnt_cons, cnt_nil, if_neg this]
    simp
theorem count_heard {os : List Int} (j : Nat) : Txt.count ⟨(heardOf os j).toArray⟩ (Str.ofString "\"") = (j : Int) := by
  obtain ⟨f, hG, hn⟩ := StrLaws.occ_tight (⟨(heardOf os j).toArray⟩ : Str) ⟨#[34]⟩ (Nat.le_refl 1)
  have := chain_count _ 34 _ 0 f hG hn
  rw [List.drop_zero] at this
  rw [quote_is]
  unfold Txt.count
  rw [← this]
  exact cnt_heard j
theorem heard_len {os : List Int} : ∀ j, (heardOf os j).length = 2 * j + 1
  | 0 => rfl
  | j + 1 => by
    simp only [heardOf, List.length_append, heard_len j, List.length_cons, List.length_nil]
    omega
theorem text_one {o : Int} (h0 : 0 ≤ o) (h3 : o ≤ 3) : Str.ofString (toString o) = ⟨#[48 + o.toNat]⟩ := by
  have : o = 0 ∨ o = 1 ∨ o = 2 ∨ o = 3 := by omega
  rcases this with h | h | h | h <;> subst h <;> decide +kernel
theorem text_len {W Ls : Nat → Bool} {os : List Int} {ay : Int} : ∀ i, (textAt W Ls os ay i).length ≤ 3 * i
  | 0 => Nat.le_refl _
  | i + 1 => by
    have := text_len (W := W) (Ls := Ls) (os := os) (ay := ay) i
    simp only [textAt, List.length_append, List.length_cons]
    split <;> simp <;> omega
theorem join_heard {os : List Int} (h4 : os.length = 4) (hob : ∀ j : Nat, 0 ≤ os.getD j 0 ∧ os.getD j 0 ≤ 3) {j : Nat} (hj : j < 4) : Txt.join (Str.ofString "\"") ((os.take (j + 1)).map fun k => Str.ofString (toString k)) = ⟨(heardOf os j).toArray⟩ := by
  match os, h4 with
  | [a, b, c, d], _ =>
    have ha := text_one (o := a) (hob 0).1 (hob 0).2
    have hb := text_one (o := b) (hob 1).1 (hob 1).2
    have hc := text_one (o := c) (hob 2).1 (hob 2).2
    have hd := text_one (o := d) (hob 3).1 (hob 3).2
    unfold Txt.join
    rw [StrLaws.glued_eq_join, quote_is]
    match j, hj with
    | 0, _ => simp only [List.take_succ_cons, List.take_zero, List.map_cons, List.map_nil, Str.join, ha]; apply Str.ext'; simp [heardOf]
    | 1, _ => simp only [List.take_succ_cons, List.take_zero, List.map_cons, List.map_nil, Str.join, ha, hb]; apply Str.ext'; simp [Str.cps_append, heardOf]
    | 2, _ => simp only [List.take_succ_cons, List.take_zero, List.map_cons, List.map_nil, Str.join, ha, hb, hc]; apply Str.ext'; simp [Str.cps_append, heardOf]
    | 3, _ => simp only [List.take_succ_cons, List.take_zero, List.map_cons, List.map_nil, Str.join, ha, hb, hc, hd]; apply Str.ext'; simp [Str.cps_append, heardOf]
theorem texts_weight {os : List Int} (hob : ∀ j : Nat, 0 ≤ os.getD j 0 ∧ os.getD j 0 ≤ 3) (n : Nat) (hn : os.length ≤ 4) : (((os.take n).map fun k => Str.ofString (toString k)).map (·.length)).sum + ((os.take n).map fun k => Str.ofString (toString k)).length ≤ 1048576 := by
  have key : ∀ l : List Int, (∀ k ∈ l, 0 ≤ k ∧ k ≤ 3) → ((l.map fun k => Str.ofString (toString k)).map (·.length)).sum = l.length := by
    intro l
    induction l with
    | nil => intro _; rfl
    | cons k r ih =>
      intro h
      have := ih fun x hx => h x (.tail _ hx)
      have h1 := h k (.head _)
      simp only [List.map_cons, List.sum_cons, this, List.length_cons, text_one h1.1 h1.2]
      show 1 + r.length = _
      omega
  rw [key _ fun k hk => ?_]
  · simp only [List.length_map, List.length_take]; omega
  · obtain ⟨i, hi, e⟩ := List.mem_iff_getElem.mp (List.mem_of_mem_take hk)
    have := hob i
    rw [List.getD_eq_getElem?_getD, List.getElem?_eq_getElem hi] at this
    rw [← e]; exact this
def SbJ (W Ls : Nat → Bool) (os : List Int) (ay : Int) (i : Nat) (m : Str → Option Value) : Prop :=
  ∃ (ty tn tt : Tok), m (Str.ofString "yes") = some (.int (yesAt os ay i) ty) ∧ m (Str.ofString "no") = some (.int (noAt os ay i) tn) ∧ m (Str.ofString "text") = some (.str ⟨(textAt W Ls os ay i).toArray⟩ tt)
theorem sbj_step {W Ls : Nat → Bool} {os : List Int} {ay : Int} {i : Nat} {m' : Str → Option Value} {y n : Int} {tx : Str} {ty tn tt : Tok} (e1 : m' (Str.ofString "yes") = some (.int y ty)) (e2 : m' (Str.ofString "no") = some (.int n tn)) (e3 : m' (Str.ofString "text") = some (.str tx tt))
    (hy : y = yesAt os ay (i + 1)) (hn : n = noAt os ay (i + 1)) (ht : tx = ⟨(textAt W Ls os ay (i + 1)).toArray⟩) : SbJ W Ls os ay (i + 1) m' := by
  subst hy hn ht
  exact ⟨_, _, _, e1, e2, e3⟩
theorem two_quotes : Str.ofString "\"\"" = ⟨#[34, 34]⟩ := by decide +kernel
theorem text_glue {l : List Nat} {o : Int} {z : Str} {r : List Nat} (h0 : 0 ≤ o) (h3 : o ≤ 3) (hz : z = ⟨r.toArray⟩) : (⟨l.toArray⟩ : Str) ++ (Str.ofString (toString o) ++ z) = ⟨(l ++ (48 + o.toNat) :: r).toArray⟩ := by
  rw [text_one h0 h3, hz]
  apply Str.ext'
  simp [Str.cps_append]
theorem aye_t {os : List Int} {ay : Int} {i : Nat} (h : Builtin.bitAnd (ay.fdiv (2 ^ (0 + (i : Int)).toNat)) 1 ≠ 0) : yesAt os ay i + 2 ^ (os.getD (0 + (i : Int)).toNat 0).toNat = yesAt os ay (i + 1) ∧ noAt os ay i = noAt os ay (i + 1) := by
  rw [show (0 + (i : Int)).toNat = i by omega] at h ⊢
  simp [yesAt, noAt, ayb, h]
theorem aye_f {os : List Int} {ay : Int} {i : Nat} (h : Builtin.bitAnd (ay.fdiv (2 ^ (0 + (i : Int)).toNat)) 1 = 0) : yesAt os ay i = yesAt os ay (i + 1) ∧ noAt os ay i + 2 ^ (os.getD (0 + (i : Int)).toNat 0).toNat = noAt os ay (i + 1) := by
  rw [show (0 + (i : Int)).toNat = i by omega] at h ⊢
  simp [yesAt, noAt, ayb, h]
theorem text_step {W Ls : Nat → Bool} {os : List Int} {ay : Int} {i : Nat} {b : Bool} {z : Str} (hb1 : 0 ≤ os.getD (0 + (i : Int)).toNat 0) (hb2 : os.getD (0 + (i : Int)).toNat 0 ≤ 3) (hs : settledAt W Ls os ay i = b) (hz : z = if b then Str.ofString "\"" else Str.ofString "\"\"") :
    (⟨(textAt W Ls os ay i).toArray⟩ : Str) ++ (Str.ofString (toString (os.getD (0 + (i : Int)).toNat 0)) ++ z) = ⟨(textAt W Ls os ay (i + 1)).toArray⟩ := by
  rw [text_glue (r := if b then [34] else [34, 34]) hb1 hb2 (by rw [hz]; cases b; exact two_quotes; exact quote_is)]
  rw [show (0 + (i : Int)).toNat = i by omega]
  simp only [textAt, hs]
def SbK (o wi lo : Addr) (ledger : List (Addr × Obj)) (ayes : Int) (t : Tok) (m' : Str → Option Value) (news : List (Addr × Obj)) : Prop :=
  news = ledger ∧ m' (Str.ofString "order") = some (.ref o) ∧ m' (Str.ofString "ayes") = some (.int ayes t) ∧ m' (Str.ofString "wins") = some (.ref wi) ∧ m' (Str.ofString "loses") = some (.ref lo)
theorem settled (w : World) (o wi lo : Addr) (vs : List Value) (os : List Int) (W Ls : Nat → Bool) (n1 n2 n3 : Nat) (ayes : Int) (t : Tok) (hos : IntsAre vs os) (ho4 : os.length = 4) (hob : ∀ j : Nat, 0 ≤ os.getD j 0 ∧ os.getD j 0 ≤ 3) (hsum : sumAt os 4 = 15) (hay : 0 ≤ ayes) (hay2 : ayes < 16)
   (j : Nat) (hj : j < 4) (hset : settledAt W Ls os ayes j = true) (hopen : ∀ i, i < j → settledAt W Ls os ayes i = false) :
   Con w 6 60 108 (fun _ => True) [(o, listOf vs.toArray n1), (wi, listOf (bools W 16).toArray n2), (lo, listOf (bools Ls 16).toArray n3)] [] [.ref o, .int ayes t, .ref wi, .ref lo] (fun r tl => ∃ t', r = .int (os.getD j 0) t') := by
  unfold Con
  w_top off
  k_fill
  intro p loose mean mg mb dp un gd cn cs a ccd cl outer A₀ base h₀ L m s Q E B F X N T hk hd hu _ hret
  refine wpAny_call ?_
  k_dflt ktr_enter
  k_steps
  refine Stop.mk ?_
  (rename IsRange _ _ _ _ _ _ _ _ => rgX)
  (rename Fr _ _ _ _ => lF')
  (rename News _ _ _ _ => lN')
  refine iter_rangeJ (env := envOf _ _ _ _ _) 4 (fun i m' news => SbJ W Ls os ayes i m' ∧ SbK o wi lo [(o, listOf vs.toArray n1), (wi, listOf (bools W 16).toArray n2), (lo, listOf (bools Ls 16).toArray n3)] ayes t m' news) rgX rfl rfl rfl lF' (news := [(o, listOf vs.toArray n1), (wi, listOf (bools W 16).toArray n2), (lo, listOf (bools Ls 16).toArray n3)]) (fun p hp => lN' p (.tail _ hp)) ⟨⟨_, _, _, rfl, rfl, rfl⟩, rfl, rfl, rfl, rfl, rfl⟩ ?_ ?_
  · clear lF' lN' rgX
    clear hset hopen hj hret
    intro i t' m₁ news₁ I h tk hi' hJ hI F' N'
    obtain ⟨⟨ty, tn, tt, e1, e2, e3⟩, rfl, e4, e5, e6, e7⟩ := hJ
    simp only [List.forall_mem_cons, List.not_mem_nil, false_implies, implies_true, and_true] at hI
    have hI1 := neN hI.1
    have hI2 := neN hI.2.1
    have hI3 := neN hI.2.2
    clear hI
    have hz : (0 + (i : Int)).toNat = i := by omega
    have hb1 : 0 ≤ os.getD (0 + (i : Int)).toNat 0 := (hob _).1
    have hb2 : os.getD (0 + (i : Int)).toNat 0 ≤ 3 := (hob _).2
    have hy0 := yes_nn os ayes i
    have hn0 := no_nn os ayes i
    have hp : (0 : Int) < 2 ^ (os.getD (0 + (i : Int)).toNat 0).toNat := pow_pos' _
    have hs1 : yesAt os ayes i + noAt os ayes i + 2 ^ (os.getD (0 + (i : Int)).toNat 0).toNat ≤ 15 := by
      rw [hz, yes_no]
      exact sum_le os hsum (i + 1) (by omega)
    have htl : (⟨(textAt W Ls os ayes i).toArray⟩ : Str).length ≤ 12 := by
      have := text_len (W := W) (Ls := Ls) (os := os) (ay := ayes) i
      simp only [Str.length, List.size_toArray]; omega
    have hone : (Str.ofString (toString (os.getD (0 + (i : Int)).toNat 0))).length = 1 := by rw [text_one hb1 hb2]; rfl
    clear hob hsum
    replace F' := frAdd (a := Str.ofString "order") F' ((if_neg (by decide)).trans e4)
    replace F' := frAdd (a := Str.ofString "ayes") F' ((if_neg (by decide)).trans ((if_neg (by decide)).trans e5))
    replace F' := frAdd (a := Str.ofString "wins") F' ((if_neg (by decide)).trans ((if_neg (by decide)).trans ((if_neg (by decide)).trans e6)))
    replace F' := frAdd (a := Str.ofString "loses") F' ((if_neg (by decide)).trans ((if_neg (by decide)).trans ((if_neg (by decide)).trans ((if_neg (by decide)).trans e7))))
    replace F' := frAdd (a := Str.ofString "yes") F' ((if_neg (by decide)).trans ((if_neg (by decide)).trans ((if_neg (by decide)).trans ((if_neg (by decide)).trans ((if_neg (by decide)).trans e1)))))
    replace F' := frAdd (a := Str.ofString "no") F' ((if_neg (by decide)).trans ((if_neg (by decide)).trans ((if_neg (by decide)).trans ((if_neg (by decide)).trans ((if_neg (by decide)).trans ((if_neg (by decide)).trans e2))))))
    replace F' := frAdd (a := Str.ofString "text") F' ((if_neg (by decide)).trans ((if_neg (by decide)).trans ((if_neg (by decide)).trans ((if_neg (by decide)).trans ((if_neg (by decide)).trans ((if_neg (by decide)).trans ((if_neg (by decide)).trans e3)))))))
    clear e1 e2 e3 e4 e5 e6 e7
    k_steps
    all_goals (
      refine Stop.mk (UnrEnd.intro2 (by assumption) (by assumption) [(o, listOf vs.toArray n1), (wi, listOf (bools W 16).toArray n2), (lo, listOf (bools Ls 16).toArray n3)] (.head _) (by k_subL) (by k_clsL) ⟨?_, rfl, rfl, rfl, rfl, rfl⟩))
    · rename _ ≠ (0 : Int) => hc
      rename W _ = true => h1
      obtain ⟨c1, c2⟩ := aye_t (os := os) hc
      rw [c1] at h1
      exact sbj_step rfl rfl rfl c1 c2 (text_step (b := true) hb1 hb2 (by simp [settledAt, h1]) rfl)
    · rename _ ≠ (0 : Int) => hc
      rename W _ = false => h1
      rename Ls _ = true => h2
      obtain ⟨c1, c2⟩ := aye_t (os := os) hc
      rw [c1] at h1
      rw [c2] at h2
      exact sbj_step rfl rfl rfl c1 c2 (text_step (b := true) hb1 hb2 (by simp [settledAt, h1, h2]) rfl)
    · rename _ ≠ (0 : Int) => hc
      rename W _ = false => h1
      rename Ls _ = false => h2
      obtain ⟨c1, c2⟩ := aye_t (os := os) hc
      rw [c1] at h1
      rw [c2] at h2
      exact sbj_step rfl rfl rfl c1 c2 (text_step (b := false) hb1 hb2 (by simp [settledAt, h1, h2]) rfl)
    · rename _ = (0 : Int) => hc
      rename W _ = true => h1
      obtain ⟨c1, c2⟩ := aye_f (os := os) hc
      rw [c1] at h1
      exact sbj_step rfl rfl rfl c1 c2 (text_step (b := true) hb1 hb2 (by simp [settledAt, h1]) rfl)
    · rename _ = (0 : Int) => hc
      rename W _ = false => h1
      rename Ls _ = true => h2
      obtain ⟨c1, c2⟩ := aye_f (os := os) hc
      rw [c1] at h1
      rw [c2] at h2
      exact sbj_step rfl rfl rfl c1 c2 (text_step (b := true) hb1 hb2 (by simp [settledAt, h1, h2]) rfl)
    · rename _ = (0 : Int) => hc
      rename W _ = false => h1
      rename Ls _ = false => h2
      obtain ⟨c1, c2⟩ := aye_f (os := os) hc
      rw [c1] at h1
      rw [c2] at h2
      exact sbj_step rfl rfl rfl c1 c2 (text_step (b := false) hb1 hb2 (by simp [settledAt, h1, h2]) rfl)
  · clear lF' lN' rgX
    intro m₁ news₁ h tk hJ F' N'
    obtain ⟨⟨ty, tn, tt, e1, e2, e3⟩, rfl, e4, e5, e6, e7⟩ := hJ
    replace F' := frAdd (a := Str.ofString "order") F' e4
    replace F' := frAdd (a := Str.ofString "text") F' ((if_neg (by decide)).trans e3)
    clear e1 e2 e3 e4 e5 e6 e7
    obtain ⟨tx, htx⟩ : ∃ tx, tx = textAt W Ls os ayes 4 := ⟨_, rfl⟩
    have htl : (⟨tx.toArray⟩ : Str).length ≤ 12 := by
      have := text_len (W := W) (Ls := Ls) (os := os) (ay := ayes) 4
      simp only [Str.length, List.size_toArray, htx]; omega
    rw [← htx] at F'
    k_steps
    refine Stop.mk ?_
    have hcps : (Str.ofString "257 \"" ++ (⟨tx.toArray⟩ : Str) ++ Str.ofString " is the call").cps.toList = [50, 53, 55, 32, 34] ++ tx ++ [32, 105, 115, 32, 116, 104, 101, 32, 99, 97, 108, 108] := by
      have hA : (Str.ofString "257 \"").cps.toList = [50, 53, 55, 32, 34] := by decide +kernel
      have hB : (Str.ofString " is the call").cps.toList = [32, 105, 115, 32, 116, 104, 101, 32, 99, 97, 108, 108] := by decide +kernel
      simp only [Str.cps_append, Array.toList_append, hA, hB]
    have hlen : (Str.ofString "257 \"" ++ (⟨tx.toArray⟩ : Str) ++ Str.ofString " is the call").length < 1000 := by
      rw [length_eq, hcps]
      simp only [Str.length, List.size_toArray] at htl
      simp only [List.length_append, List.length_cons, List.length_nil]
      omega
    have hun : unq ((Str.ofString "257 \"" ++ (⟨tx.toArray⟩ : Str) ++ Str.ofString " is the call").cps.toList.drop 5) = heardOf os j := by
      rw [hcps, htx]
      exact heard_is hj hset hopen
    rename Below _ _ _ _ => B9
    rename Frag.In _ _ => X9
    rename Top _ _ _ _ _ _ => T9
    refine Con.at (p257 w _ _ hlen (by rw [hcps]; rfl)) B9 F' X9 News.nil T9 rfl ?_ ?_ trivial ?_
    · omega
    · omega
    clear hcps hlen
    intro r tl hh tkk Fk Ex _ hr
    obtain ⟨t9, rfl⟩ := hr
    rw [hun]
    have Nk := news_ext N' Ex
    clear hun
    clear N' F' Ex
    have hcount := count_heard (os := os) j
    obtain ⟨hx, hhx⟩ : ∃ hx, hx = heardOf os j := ⟨_, rfl⟩
    rw [← hhx] at hcount ⊢
    have hxl : (⟨hx.toArray⟩ : Str).length ≤ 7 := by
      simp only [Str.length, List.size_toArray, hhx, heard_len]; omega
    k_steps
    rename_i D9 ws9 h9 F9 N9 I9 C9 L9 l9
    refine Stop.mk (LCg.CompSrc.ledger rfl F9 N9 (.head _) (by rw [List.size_toArray, I9.length, C9, sizeLine_eq]; omega) ?_)
    intro gg
    refine compJ (fun i ys nw => nw = [(D9, listOf ws9.toArray 0), (o, listOf vs.toArray n1), (wi, listOf (bools W 16).toArray n2), (lo, listOf (bools Ls 16).toArray n3)] ∧ StrsAre ys (((List.take ((j : Int) + 1).toNat os).take i).map fun k => Str.ofString (toString k))) ⟨rfl, .nil⟩ ?_ ?_
    · intro i ys nw v I oI C oC D m₂ h3 tk3 E' hi hJ hP hC hx3 F3 N3 off ne
      obtain ⟨rfl, hys⟩ := hJ
      obtain ⟨t3, hv, hlt⟩ := ints_at I9 (by simpa using hP)
      subst hv
      obtain ⟨e, he⟩ : ∃ e, e = (List.take ((j : Int) + 1).toNat os).getD i 0 := ⟨_, rfl⟩
      have he3 : 0 ≤ e ∧ e ≤ 3 := by
        rw [he, List.getD_eq_getElem?_getD, List.getElem?_take]
        split
        · rw [← List.getD_eq_getElem?_getD]; exact hob i
        · simp
      rw [← he] at hx3
      have he0 := he3.1
      have he4 := he3.2
      k_steps
      refine Stop.mk (LCg.CompEnd.intro F3 N3 _ (fun p hp => hp) off (.inr ⟨_, .head _, rfl, _, rfl⟩) ⟨rfl, ?_⟩)
      rw [List.take_add_one, show (List.take ((j : Int) + 1).toNat os)[i]? = some e by rw [he, List.getD_eq_getElem?_getD, List.getElem?_eq_getElem hlt]; rfl]
      simp only [Option.toList_some, List.map_append, List.map_cons, List.map_nil]
      exact strs_snoc hys
    · intro ys nw hJ
      obtain ⟨rfl, hys⟩ := hJ
      intro D h3 tk3 F3 N3 off3
      have e1 : ws9.toArray.size = (List.take ((j : Int) + 1).toNat os).length := by rw [List.size_toArray, I9.length]
      rw [e1, List.take_length, show ((j : Int) + 1).toNat = j + 1 by omega] at hys
      k_steps
      refine join_listW (News.isList N3 (.head _)) (by simpa using hys) (by decide) (texts_weight hob _ (by omega)) ?_
      intro t4 k4
      rw [join_heard ho4 hob hj, ← hhx]
      k_steps
      · rename (_ != _) = true => q8
        exfalso
        simp at q8
      rename GSub _ _ _ => G9
      rename_i t8 kF8 kN8 T8 X8
      exact hret _ [] _ _ kF8 (ext_after G9 N F3 N3 (fun p hp => .inr (.tail _ (.tail _ hp)))) (fun _ h8 => nomatch h8) ⟨t8, rfl⟩
end
section
open PySem PySem.Spec PySem.Calls PyProof.Rows PySem.W PyProof.V

section
variable {prog : Program} {w : World} {A₀ A : Around} {E : Value → Shared → Prop} {s : Shared} {base h₀ : Heap} {outer : List Env} {L : Addr} {m mg mb : Str → Option Value} {env : Env} {news : List (Addr × Obj)} {K : Frag} {p : Program} {loose : List Str} {mean : ExcName → Option Value}
/-- a def with captured names is entered; the caller's heap stays at hand -/
theorem enter_cells {R : Result → Shared → Prop} {name qual : Str} {params : Arguments} {body : List Stmt} {scope : Scope} {dV kV doc pm cdv ct oc : Value} {an od : Option Addr} {osl : Array (Option Value)} {f : Addr} {args : Args} {binds : List (Str × Value)}
    (B : Below A₀ base outer h₀) (F : Fr h₀ L s.heap m) (X₀ : K.In h₀) (N : News h₀ L s.heap news) (T : Top p loose mean mg mb h₀) (hA : A.frames = some (env :: outer)) (hf : env.frame = some L) (hke : env.scope.kind = .function)
    (ho : K.lookup f = some ⟨oc, od, .func (fnOf name qual params body scope dV kV doc pm an cdv ct), osl⟩) (hcd : codeIn K cdv qual = true) (hroom : A.depth < recursionLimit)
    (hbind : BindsTo s (fnOf name qual params body scope dV kV doc pm an cdv ct) args binds) (hkind : (binds.all fun y => scope.names.lookup y.1 == some .local || scope.names.lookup y.1 == some .cell) = true)
    (hnd : ((cellsFrom 0 scope.names []).map (·.1)).Nodup)
    (h : ∀ g L' h₁ tk cells, Fr h₀ L g m → Fr g L' h₁ (bindL (envOfC qual scope L' f cdv).kindOf binds fun _ => none) → News g L' h₁ (cells ++ news) →
      CellsAre (bindC (envOfC qual scope L' f cdv).kindOf binds fun _ => none) (cellsFrom (L' + 1) scope.names []) cells → Below A base (env :: outer) g → K.In g → Top p loose mean mg mb g → GSub s.heap g (news.map (·.1)) → (∀ p ∈ news, p.1 < L') →
      wpAny (model prog w) (A.deeper (envOfC qual scope L' f cdv)) (execs body (envOfC qual scope L' f cdv))
        (fun fl s' => LeaveK h₀ L m g R (match fl with | .ret v => v | _ => .none) s')
        (fun e s' => wpAny (model prog w) (A.deeper (envOfC qual scope L' f cdv)) (leaving (envOfC qual scope L' f cdv) e) (fun _ s'' => R (.error e) s'') (fun e' s'' => R (.error e') s'') s')
        { s with heap := h₁, toks := tk })
    (hco : scope.isCoroutine = false) (hgen : scope.isGenerator = false) (hk : scope.kind = .function) : codeAny (model prog w) A (.call (.ref f) args) R s := by
  obtain ⟨FG, BG, st, lv⟩ := groundX (R := R) B F N hA hf hke
  refine codeAny_call_function hroom ((X₀.keeps F.keep) _ _ ho) rfl hco hgen rfl (codeRec_of (X₀.keeps F.keep) hcd) (hbind _ _ _ _ ?_)
  refine wpAny_newFunctionEnv_cells hk (kindsX hkind _) fun env' he s' x => ?_
  subst he
  refine ⟨(T.nolimit.keeps F.keep).keeps x.toInCall.keep, codeAny_func ?_⟩
  obtain ⟨h₁, tk, rfl, _⟩ := x.done
  have up := x.toInCall.keep
  obtain ⟨cells, NC, Y⟩ := Cl.news (h₀ := s.heap) (Nat.le_refl _) fun n c hm => ⟨x.cell n c (lookup_of_mem_nodup (cellsFrom_names scope.names 0 (s.heap.objs.size + 1) [] [] rfl ▸ hnd) hm), x.above n c hm⟩
  have N₁ : News (hideAll s.heap (news.map (·.1))) s.heap.objs.size h₁ (cells ++ news) := by
    intro q hq
    rcases List.mem_append.mp hq with hq | hq
    · refine ⟨(NC q hq).1, (NC q hq).2.1, ?_⟩
      cases e : (hideAll s.heap (news.map (·.1))).get? q.1 with
      | none => rfl
      | some o =>
        have := of_hideAll _ e
        rw [(NC q hq).2.2] at this
        cases this
    · exact ⟨up _ _ (N q hq).1, Nat.ne_of_lt (Heap.lt_size (N q hq).1), hideAll_none _ (List.mem_map_of_mem hq)⟩
  exact wpAny_mono (h _ s.heap.objs.size h₁ tk cells FG ⟨x.toInCall.ns, fun b o e => up b o (of_hideAll _ e), Nat.le_of_eq (hideAll_size _ _)⟩ N₁ Y BG (X₀.keeps st) (T.keeps st) (fun b o e n => hideAll_get _ e n) (fun q hq => Heap.lt_size (N q hq).1)) (fun fl s' hl => lv _ _ hl) fun _ _ y => y
end

section
variable {prog : Program} {w : World} {A : Around} {E : Value → Shared → Prop} {s : Shared} {env : Env} {h₀ : Heap}
def RLoop (prog : Program) (w : World) (A : Around) (E : Value → Shared → Prop) (h₀ : Heap) (env : Env) (target : Expr) (body : List Stmt) (Q : Flow → Shared → Prop) (xv : Value) (s₁ : Shared) : Prop :=
  ∃ (r : Addr) (a b : Int) (t u v : Tok) (n : Nat) (m₀ : Str → Option Value) (news : List (Addr × Obj)) (J : Nat → (Str → Option Value) → List (Addr × Obj) → Prop),
    xv = .ref r ∧ IsRange s₁.heap r a b 1 t u v ∧ Builtin.Range.small a b 1 = true ∧ Builtin.Range.rangeSize a b 1 = (n : Int) ∧ A.handled = none ∧ Fr h₀ env.locals s₁.heap m₀ ∧ News h₀ env.locals s₁.heap news ∧ J 0 m₀ news ∧
    (∀ i t m₁ news₁ I h tk, i < n → J i m₁ news₁ → (∀ p ∈ news₁, p.1 ≠ I) → Fr h₀ env.locals h m₁ → News h₀ env.locals h ((I, itR (a + ((i + 1 : Nat) : Int)) ((n : Int) - ((i + 1 : Nat) : Int))) :: news₁) →
      wpAny (model prog w) A (assign target env (.int (a + (i : Int)) t)) (fun _ s₂ => wpAny (model prog w) A (execs body env) (UnrPost h₀ env.locals { s₁ with heap := h, toks := tk } I (itR (a + ((i + 1 : Nat) : Int)) ((n : Int) - ((i + 1 : Nat) : Int))) (J (i + 1)) Q) E s₂) E { s₁ with heap := h, toks := tk }) ∧
    (∀ m₁ news₁ h tk, J n m₁ news₁ → Fr h₀ env.locals h m₁ → News h₀ env.locals h news₁ → Q .next { s₁ with heap := h, toks := tk })
/-- a for over a range, whatever its target -/
theorem For_J {target iter : Expr} {body : List Stmt} {pos : Pos} {Q : Flow → Shared → Prop} {m₀ : Str → Option Value} (_F : Fr h₀ env.locals s.heap m₀) (h : wpAny (model prog w) A (eval iter env) (RLoop prog w A E h₀ env target body Q) E s)
    (hs : ∀ x, foldedSetIterable iter env x = pure x) (ht : ∀ it v, letOwnedTupleGo target it v = pure ()) (hE : PassesOwn (model prog w) A env E) :
    wpAny (model prog w) A (exec (.For target iter body [] pos) env) Q E s := by
  refine wpAny_For (wpAny_mono h (fun xv s₁ h₁ => ?_) fun _ _ e => e) hs
  obtain ⟨r, a, b, t, u, v, n, m₀, news, J, rfl, hr, hsmall, hn, hh, F, N, start, turn, done⟩ := h₁
  refine wpAny_pyIter_range hr hsmall ?_
  have hL : env.locals < s₁.heap.objs.size := F.ns.lt
  have hIL : s₁.heap.objs.size ≠ env.locals := Nat.ne_of_gt hL
  have hI0 := next_is_new F
  refine codeAny_forLoop
    (fun k s' => ∃ (h' : Heap) (tk : Nat) (m₁ : Str → Option Value) (news₁ : List (Addr × Obj)) (i : Nat), s' = { s₁ with heap := h', toks := tk } ∧ IsRangeIter h' s₁.heap.objs.size (a + (i : Int)) ((n : Int) - (i : Int)) 1 ∧ Fr h₀ env.locals h' m₁ ∧ News h₀ env.locals h' news₁ ∧ (∀ p ∈ news₁, p.1 ≠ s₁.heap.objs.size) ∧ J i m₁ news₁ ∧ i ≤ n ∧ k = n + 1 - i)
    ?_ (n + 1) ⟨_, s₁.toks, m₀, news, 0, rfl, by rw [hn]; simpa using Heap.get?_push_size _ rfl, F.push _, fun p hp => ⟨Heap.get?_push_of_some _ (N p hp).1, (N p hp).2⟩, fun p hp => Nat.ne_of_lt (Heap.lt_size (N p hp).1), start, Nat.zero_le _, rfl⟩ (ht _)
  rintro k s' ⟨h', tk, m₁, news₁, i, rfl, hit, F₁, N₁, off, hj, hi, rfl⟩
  by_cases hlt : i < n
  · refine wpAny_pyNext_range_item hit (by omega) fun h₂ hit₂ hs₂ => ?_
    have F₂ : Fr h₀ env.locals h₂ m₁ := F₁.change hs₂ hIL hI0
    have e1 := cast_up a i
    have e2 := cast_dn n i
    rw [e1, e2] at hit₂
    have N₂ : News h₀ env.locals h₂ ((s₁.heap.objs.size, itR (a + ((i + 1 : Nat) : Int)) ((n : Int) - ((i + 1 : Nat) : Int))) :: news₁) := fun p hp => by
      rcases List.mem_cons.mp hp with rfl | hp
      · exact ⟨hit₂, hIL, hI0⟩
      · exact ⟨hs₂.extBut _ _ (off p hp) (N₁ p hp).1, (N₁ p hp).2⟩
    refine wpAny_passesOwn hE (wpAny_mono (turn i tk m₁ news₁ _ h₂ (tk + 1) hlt hj off F₂ N₂) (fun _ s₃ h₃ => wpAny_passesOwn hE (wpAny_mono h₃ (fun f s₄ q => ?_) fun _ _ e => e)) fun _ _ e => e)
    have fin : UnrEnd h₀ env.locals { s₁ with heap := h₂, toks := tk + 1 } s₁.heap.objs.size (itR (a + ((i + 1 : Nat) : Int)) ((n : Int) - ((i + 1 : Nat) : Int))) (J (i + 1)) s₄ →
        ∃ k', k' < n + 1 - i ∧ ∃ (h' : Heap) (tk : Nat) (m₁ : Str → Option Value) (news₁ : List (Addr × Obj)) (i : Nat), s₄ = { s₁ with heap := h', toks := tk } ∧ IsRangeIter h' s₁.heap.objs.size (a + (i : Int)) ((n : Int) - (i : Int)) 1 ∧ Fr h₀ env.locals h' m₁ ∧ News h₀ env.locals h' news₁ ∧ (∀ p ∈ news₁, p.1 ≠ s₁.heap.objs.size) ∧ J i m₁ news₁ ∧ i ≤ n ∧ k' = n + 1 - i := by
      rintro ⟨h₅, tk₅, m₅, news₅, rfl, F₅, N₅, off₅, hj₅⟩
      exact ⟨n + 1 - (i + 1), by omega, h₅, tk₅, m₅, news₅, i + 1, rfl, (N₅ _ List.mem_cons_self).1, F₅, fun p hp => N₅ p (List.mem_cons_of_mem _ hp), off₅, hj₅, hlt, rfl⟩
    cases f with
    | ret v => exact q
    | brk => exact q
    | next => exact fin q
    | cont => exact fin q
  · have hin : i = n := by omega
    subst hin
    refine wpAny_pyNext_range_end hh hit (by omega) fun h₂ he₂ => wpAny_execs_nil ?_
    refine done m₁ news₁ h₂ tk hj ⟨F₁.ns.extBut he₂ (Ne.symm hIL), fun b o e => he₂ b o (fun q => by rw [q, hI0] at e; cases e) (F₁.keep b o e), F₁.above⟩ fun p hp => ⟨he₂ _ _ (off p hp) (N₁ p hp).1, (N₁ p hp).2⟩
end
end
section
open PySem PySem.Spec PySem.Calls PyProof.Rows PySem.W

/-- those of the first j voters that stand in the mask m -/
def grp (m : Int) (j : Nat) : List Int := ((List.range j).filter (ayb m)).map fun (k : Nat) => (k : Int)
theorem grp_t {m : Int} {j : Nat} (h : ayb m j = true) : grp m (j + 1) = grp m j ++ [(j : Int)] := by
  simp [grp, List.range_succ, List.filter_append, h]
theorem grp_f {m : Int} {j : Nat} (h : ayb m j = false) : grp m (j + 1) = grp m j := by
  simp [grp, List.range_succ, List.filter_append, h]
theorem grp_len (m : Int) (j : Nat) : (grp m j).length ≤ j := by
  have := List.length_filter_le (ayb m) (List.range j)
  simpa [grp] using this
theorem grp_mem {m : Int} {j : Nat} {k : Int} (h : k ∈ grp m j) : 0 ≤ k ∧ k < j := by
  obtain ⟨n, hn, rfl⟩ := List.mem_map.mp h
  have := List.mem_range.mp (List.mem_filter.mp hn).1
  omega
theorem grp_in {m : Int} {j k : Nat} (h : k < j) : (k : Int) ∈ grp m j ↔ ayb m k = true := by
  constructor
  · intro q
    obtain ⟨n, hn, e⟩ := List.mem_map.mp q
    have e' : n = k := Int.ofNat.inj e
    rw [← e']; exact (List.mem_filter.mp hn).2
  · intro q
    exact List.mem_map.mpr ⟨k, List.mem_filter.mpr ⟨List.mem_range.mpr h, q⟩, rfl⟩
def pick (ws ks : List Int) : List Int := ks.map fun k => ws.getD k.toNat 0
def tot (ws : List Int) (m : Int) : Int := (pick ws (grp m 4)).sum
def coef (n : Nat) : Int := [6, 2, 2, 6].getD n 0
def cntr (ws : List Int) (q hh m : Int) (k : Nat) : Int :=
  if (tot ws m < q ∨ ((grp m 4).length : Int) < hh) ∧ ayb m k = false ∧ q ≤ tot ws m + ws.getD k 0 ∧ hh ≤ ((grp m 4).length : Int) + 1 then coef (grp m 4).length else 0
def idxK (ws : List Int) (q hh : Int) (k : Nat) : Nat → Int
  | 0 => 0
  | i + 1 => idxK ws q hh k i + cntr ws q hh (i : Int) k
def rowAt (ws : List Int) (q hh : Int) (i j : Nat) : List Int := (List.range 4).map fun k => idxK ws q hh k i + if k < j then cntr ws q hh (i : Int) k else 0
theorem row_len (ws : List Int) (q hh : Int) (i j : Nat) : (rowAt ws q hh i j).length = 4 := by simp [rowAt]
theorem row_next (ws : List Int) (q hh : Int) (i : Nat) : rowAt ws q hh i 4 = rowAt ws q hh (i + 1) 0 := by
  simp [rowAt, idxK, List.range_succ]
theorem row_set {ws : List Int} {q hh : Int} {i j : Nat} (hj : j < 4) {c : Int} (hc : cntr ws q hh (i : Int) j = c) : (rowAt ws q hh i j).set j ((rowAt ws q hh i j).getD j 0 + c) = rowAt ws q hh i (j + 1) := by
  subst hc
  match j, hj with
  | 0, _ => simp [rowAt, List.range_succ]
  | 1, _ => simp [rowAt, List.range_succ]
  | 2, _ => simp [rowAt, List.range_succ]
  | 3, _ => simp [rowAt, List.range_succ]
theorem row_same {ws : List Int} {q hh : Int} {i j : Nat} (hj : j < 4) (hc : cntr ws q hh (i : Int) j = 0) : rowAt ws q hh i j = rowAt ws q hh i (j + 1) := by
  match j, hj with
  | 0, _ => simp [rowAt, List.range_succ, hc]
  | 1, _ => simp [rowAt, List.range_succ, hc]
  | 2, _ => simp [rowAt, List.range_succ, hc]
  | 3, _ => simp [rowAt, List.range_succ, hc]
theorem row_skip {ws : List Int} {q hh : Int} {i : Nat} (h : ¬ (tot ws (i : Int) < q ∨ ((grp (i : Int) 4).length : Int) < hh)) : rowAt ws q hh i 0 = rowAt ws q hh (i + 1) 0 := by
  have hc : ∀ k, cntr ws q hh (i : Int) k = 0 := fun k => if_neg fun z => h z.1
  simp [rowAt, idxK, hc]
end
section
open PySem PySem.Spec PySem.Calls PyProof.Rows PySem.W

/-- an iterator of the list l, which stands at i -/
def LIt (o : Obj) (l : Addr) (i : Nat) : Prop := o.cls = .type "list_iterator" ∧ o.data = .fields #[.ref l, .int i 0]
section
variable {prog : Program} {w : World} {A : Around} {E : Value → Shared → Prop} {s : Shared} {h₀ : Heap} {L l it : Addr} {m : Str → Option Value} {news : List (Addr × Obj)} {g : Obj → List (Addr × Obj)} {io : Obj} {vs : List Value} {x : Value} {i n : Nat}
theorem list_iter {Q : Value → Shared → Prop} (F : Fr h₀ L s.heap m) (N : News h₀ L s.heap news) (hp : (l, listOf vs.toArray n) ∈ news)
    (h : ∀ (I : Addr) h' oI, Fr h₀ L h' m → News h₀ L h' ((I, oI) :: news) → (∀ p ∈ news, p.1 < I) → LIt oI l 0 → Q (.ref I) { s with heap := h' }) :
    wpAny (model prog w) A (call (.builtin "iter") [.ref l]) Q E s := by
  refine call_function_entry (by decide +kernel) (by decide +kernel) kdk_entry_iter (kdk_args_iter _) ?_
  unfold Builtin.«iter»
  refine wpAny_bind (m := someArgs "iter" 1 2 _) (wpAny_of_eq (a := [Value.ref l]) (by first | rfl | kernel_rfl!) ?_)
  show wpAny _ _ (pyIter (.ref l) >>= _) _ _ _
  refine wpAny_bind (wpAny_pyIter_list (News.isList N hp) ?_)
  exact wpAny_pure ⟨_, rfl, h _ _ _ (F.push _) (News.push F N _ rfl) (fun q hq => Heap.lt_size (N q hq).1) ⟨rfl, rfl⟩⟩
theorem list_next {Q : Value → Shared → Prop} (F : Fr h₀ L s.heap m) (N : News h₀ L s.heap news) (U : UpdF it io news g) (hi : LIt io l i) (hp : (l, listOf vs.toArray n) ∈ news) (hx : vs[i]? = some x)
    (h : ∀ h' o', Fr h₀ L h' m → News h₀ L h' (g o') → LIt o' l (i + 1) → Q x { s with heap := h' }) :
    wpAny (model prog w) A (call (.builtin "next") [.ref it]) Q E s := by
  obtain ⟨pre, post, hl, hg, a, b⟩ := U.split
  have hmem : (it, io) ∈ news := by rw [hl]; exact List.mem_append_right _ (.head _)
  have hm := N (it, io) hmem
  have hit : s.heap.IsListIter it l i := ⟨io, hm.1, hi.1, hi.2⟩
  have hll := News.isList N hp
  refine call_function_entry (by decide +kernel) (by decide +kernel) kdk_entry_next (kdk_args_next _) ?_
  unfold Builtin.«next»
  refine wpAny_bind (m := someArgs "next" 1 2 _) (wpAny_of_eq (a := [Value.ref it]) (by first | rfl | kernel_rfl!) ?_)
  dsimp only
  refine wpAny_bind (wpAny_specialOf (name := Str.ofString "__next__") hit.typeIs slot_listiter_next.lookup ?_)
  refine wpAny_ite_split (fun hab => absurd hab (by decide)) (fun _ => ?_)
  obtain ⟨o, ho, hc, hd⟩ := id hit
  obtain ⟨ol, hol, _, nl, hdl⟩ := hll
  have hx' : vs.toArray[i]? = some x := by simpa using hx
  refine wpAny_bind (wpAny_callSpecial?_slot (name := Str.ofString "__next__") hit.typeIs slot_listiter_next
    (wpAny_call_entry slot_listiter_next hit.typeIs entry_listiter_next ?_ (args_listiter_next _)))
  show wpAny _ _ (field (.ref it) 0 >>= _) _ _ s
  refine wpAny_bind (wpAny_field ho hd (x := .ref l) rfl ?_)
  show wpAny _ _ (if (Value.ref l == Value.none) = true then _ else _) _ _ s
  rw [if_neg (show ¬ ((Value.ref l == Value.none) = true) from Bool.false_ne_true)]
  show wpAny _ _ (field (.ref it) 1 >>= _) _ _ s
  refine wpAny_bind (wpAny_field ho hd (x := .int i 0) rfl ?_)
  show wpAny _ _ (seqItems? (.ref l) >>= _) _ _ s
  refine wpAny_bind (wpAny_seqItems hol hdl ?_)
  simp only [Int.toNat_natCast, hx']
  refine wpAny_bind (wpAny_setField ho hd (by simp) (wpAny_pure ⟨x, rfl, wpAny_pure ⟨_, rfl, ?_⟩⟩))
  have ho' := Heap.get?_update_self (Obj.mapFields (·.setIfInBounds 1 (rawInt ((i : Int) + 1)))) ho (Obj.isFreed_of_fields (Obj.data_mapFields hd _))
  exact h _ _ (F.change (Heap.SameBut.update ..) hm.2.1 hm.2.2) (hg _ ▸ (show News h₀ L s.heap (pre ++ (it, io) :: post) from hl ▸ N).setIn a b (Heap.SameBut.update ..) ho') ⟨(Obj.cls_mapFields ..).trans hc, by rw [Obj.data_mapFields hd]; simp [rawInt]⟩
end
end
local macro_rules | `(tactic| ktr_unf) => `(tactic| (refine' enter_cells ?k1 ?k2 ?k3 ?k4 ?k5 ?kA ?kF ?kK ?k6 ?k7 ?k8 ?k9 ?kB ?kD ?_ ?c2 ?c3 ?c4; (case kA => exact rfl); (case kF => exact rfl); (case kK => assumption); (case k1 => k_asm); (case k2 => k_asm); (case k3 => k_asm); (case k4 => k_asm); (case k5 => k_asm); (case k6 => k_is); (case k7 => k_is); (case k8 => ktr_room); (case k9 => exact BindsTo.of_eq rfl); (case kB => exact rfl); (case kD => decide +kernel); (case c2 => exact rfl); (case c3 => exact rfl); (case c4 => exact rfl); k_whole; intro g' L' h' tk' cells' FG' F' N' Y' B' X' T' G' l1; (try k_lt l1); k_cells Y'; (try simp only [List.cons_append, List.nil_append] at N'); (try dsimp only); (try k_fold)))
local macro_rules | `(tactic| walk_at "CompSrcT") => `(tactic| refine Stop.out ?_)
local macro_rules | `(tactic| walk_at "RLoop") => `(tactic| refine Stop.out ?_)
local macro_rules | `(tactic| walk_at "exec For Name Call cons nil") => `(tactic| refine Stop.out ?_)
section
open PySem PySem.Spec PySem.Calls PyProof.Rows PySem.W
local macro_rules | `(tactic| walk_at "exec While") => `(tactic| (refine Stop.out ?_))
local macro_rules | `(tactic| walk_at "exec While BinOp cons nil") => `(tactic| (refine Stop.out ?_))
local macro_rules | `(tactic| walk_at "WhileStep2") => `(tactic| first | ((with_reducible show WhileStep2 _ _ _ _ _ _ Flow.brk _); dsimp only [WhileStep2]) | (refine Stop.out ?_))
local macro_rules | `(tactic| walk_at "call builtin:next") => `(tactic| refine Stop.out ?_)
/-- the octets of a group -/
def oct : List Int → List Int
  | [] => []
  | [x] => [x]
  | x :: y :: r => (64 + x) :: oct (y :: r)
def wv (a : Int) (g : List Int) : Int := g.foldl (fun a x => 64 * a + x) a
theorem oct_len : ∀ g : List Int, (oct g).length = g.length
  | [] => rfl
  | [_] => rfl
  | x :: y :: r => by simp [oct, oct_len (y :: r)]
theorem oct_cons (x : Int) (r : List Int) : oct (x :: r) = (if r = [] then x else 64 + x) :: oct r := by
  cases r <;> simp [oct]
theorem at_drop {vs : List Value} {ns : List Int} (h : IntsAre vs ns) {i : Nat} {x : Int} {r : List Int} (e : ns.drop i = x :: r) : (∃ t, vs[i]? = some (.int x t)) ∧ ns.drop (i + 1) = r := by
  induction h generalizing i with
  | nil => simp at e
  | cons n t _ ih =>
    cases i with
    | zero =>
      simp only [List.drop_zero, List.cons.injEq] at e
      obtain ⟨rfl, rfl⟩ := e
      exact ⟨⟨t, rfl⟩, rfl⟩
    | succ i => exact ih (by simpa using e)
theorem wv_ge : ∀ (g : List Int) {a : Int}, 0 ≤ a → (∀ x ∈ g, 1 ≤ x ∧ x < 16) → a ≤ wv a g
  | [], _, _, _ => Int.le_refl _
  | x :: r, a, ha, h => by
    have h1 := h x (.head _)
    have := wv_ge r (a := 64 * a + x) (by omega) (fun y hy => h y (.tail _ hy))
    show a ≤ wv (64 * a + x) r
    omega
theorem and_zero (v : Int) : ∀ (k : Nat) (y : Int), 0 ≤ y → y < 2 ^ k → Builtin.bitAnd (v * 2 ^ k) y = 0
  | 0, y, h0, h1 => by
    have : y = 0 := by simp at h1; omega
    subst this
    have := bitAnd_range (v * 2 ^ 0) (y := 0) (Int.le_refl _)
    omega
  | k + 1, y, h0, h1 => by
    have e : v * 2 ^ (k + 1) = (v * 2 ^ k) * 2 := by rw [Int.pow_succ, Int.mul_assoc]
    rw [kbt_halves, e, Int.mul_ediv_cancel _ (by decide), and_zero v k (y / 2) (by omega) (by rw [Int.pow_succ] at h1; omega)]
    rw [if_neg (fun z => by have := z.1; omega)]
    rfl
theorem or_add {v y : Int} (h0 : 0 ≤ y) (h1 : y < 64) : Builtin.bitOr (v * 2 ^ ((6 : Int).toNat)) y = 64 * v + y := by
  rw [bitOr_and, and_zero v _ y h0 h1]
  show v * 64 + y - 0 = _
  omega
def VJ (it l : Addr) (vs : List Value) (n : Nat) (ns rest : List Int) (tot : Int) (iend : Nat) (ti : Tok) (k : Nat) (m : Str → Option Value) (news : List (Addr × Obj)) : Prop :=
  ∃ io i b val g tb tv, news = [(it, io), (l, listOf vs.toArray n)] ∧ LIt io l i ∧ ns.drop i = oct g ++ rest ∧ i + g.length = iend ∧ k = g.length ∧ (∀ x ∈ g, 1 ≤ x ∧ x < 16) ∧ 0 ≤ val ∧ wv val g = tot ∧ 0 ≤ b ∧ (g = [] → b < 64) ∧ (g ≠ [] → 64 ≤ b ∧ b < 128) ∧
    m (Str.ofString "b") = some (.int b tb) ∧ m (Str.ofString "val") = some (.int val tv) ∧ m (Str.ofString "iterator") = some (.ref it)
theorem varint (w : World) (it l : Addr) (io : Obj) (i : Nat) (vs : List Value) (ns : List Int) (n : Nat) (g rest : List Int) (hvs : IntsAre vs ns) (hit : LIt io l i) (hd : ns.drop i = oct g ++ rest) (hg : g ≠ []) (hgx : ∀ x ∈ g, 1 ≤ x ∧ x < 16) (hgt : wv 0 g < 1000000000) :
    Con w 4 40 21 (fun _ => True) [(it, io), (l, listOf vs.toArray n)] [it] [.ref it] (fun r tl => ∃ t io', r = .int (wv 0 g) t ∧ tl = [(it, io')] ∧ LIt io' l (i + g.length)) := by
  unfold Con
  w_top off
  k_fill
  intro p loose mean mg mb dp un gd cn cs a ccd cl outer A₀ base h₀ L m s Q E B F X N T hk hd hu _ hret
  refine wpAny_call ?_
  k_dflt ktr_enter
  k_steps
  obtain ⟨x, r, rfl⟩ : ∃ x r, g = x :: r := by
    cases g with
    | nil => exact absurd rfl hg
    | cons x r => exact ⟨x, r, rfl⟩
  have hx := hgx x (.head _)
  rw [oct_cons, List.cons_append] at hd
  obtain ⟨⟨t1, h1⟩, h2⟩ := at_drop hvs hd
  clear hd
  rename Fr _ _ _ _ => lF'
  rename News _ _ _ _ => lN'
  have hoff : @Ne Nat l it := fun q => by
    have h7 := (lN' (l, _) (.tail _ (.head _))).1
    have h8 := (lN' (it, _) (.head _)).1
    rw [show l = it from q, h8] at h7
    have h9 := hit.1
    have h6 := congrArg Obj.cls (Option.some.inj h7)
    rw [show io.cls = _ from h9] at h6
    exact absurd (Value.type.inj h6) (by decide)
  refine Stop.mk (list_next lF' lN' (.head (fun p hp => by rw [List.mem_singleton.mp hp]; exact hoff)) hit (.tail _ (.head _)) h1 ?_)
  clear lF' lN'
  intro h9 o9 F9 N9 hit9
  obtain ⟨b, hb⟩ : ∃ b, b = (if r = [] then x else 64 + x) := ⟨_, rfl⟩
  rw [← hb]
  have hb0 : 0 ≤ b := by rw [hb]; split <;> omega
  k_steps
  refine Stop.mk ?_
  rename Fr _ _ _ _ => lF'
  rename News _ _ _ _ => lN'
  refine While_inv2 (VJ it l vs n ns rest (wv 0 (x :: r)) (i + (x :: r).length) 0) lF' lN' ⟨_, i + 1, b, _, r, _, _, rfl, hit9, h2, by simp only [List.length_cons]; omega, rfl, fun y hy => hgx y (.tail _ hy), ?_, ?_, hb0, ?_, ?_, rfl, rfl, rfl⟩ ?_
  · exact (bitAnd_range b (by decide)).1
  · rw [bitAnd_m6]
    have : b % 64 = x := by rw [hb]; split <;> omega
    rw [this]
    show wv x r = wv (64 * 0 + x) r
    rw [show 64 * 0 + x = x by omega]
  · intro e
    rw [hb, if_pos e]
    omega
  · intro e
    rw [hb, if_neg e]
    omega
  clear lF' lN'
  intro n' m₁ news₁ h tk F' N' hJ
  obtain ⟨io, i', b', val, g', tb, tv, rfl, hit', hd', hie, hk', hgx', hv0, htot, hb0', hb1, hb2, e1, e2, e3⟩ := hJ
  replace F' := frAdd (a := Str.ofString "b") F' e1
  replace F' := frAdd (a := Str.ofString "val") F' ((if_neg (by decide)).trans e2)
  replace F' := frAdd (a := Str.ofString "iterator") F' ((if_neg (by decide)).trans ((if_neg (by decide)).trans e3))
  clear e1 e2 e3
  have hvl : val < 1000000000 := Int.lt_of_le_of_lt (wv_ge g' hv0 hgx') (htot ▸ hgt)
  clear hgx hx h2 h1 hb hb0 hgt
  k_steps
  · rename Builtin.bitAnd b' 64 ≠ 0 => hne
    have hb64 : Builtin.bitAnd b' 64 = (b' / 64 % 2) * 64 := kbt_bit b' 6
    obtain ⟨x', r', rfl⟩ : ∃ x r, g' = x :: r := by
      cases g' with
      | nil =>
        have := hb1 rfl
        exfalso
        apply hne
        rw [hb64]
        omega
      | cons x r => exact ⟨x, r, rfl⟩
    have hx' := hgx' x' (.head _)
    rw [oct_cons, List.cons_append] at hd'
    obtain ⟨⟨t1', h1'⟩, h2'⟩ := at_drop hvs hd'
    rename Fr _ _ _ (fun y => if y = Str.ofString "val" then _ else _) => lF'
    rename News _ _ _ _ => lN'
    refine Stop.mk (list_next lF' lN' (.head (fun p hp => by rw [List.mem_singleton.mp hp]; exact hoff)) hit' (.tail _ (.head _)) h1' ?_)
    clear lF' lN'
    intro h8 o8 F8 N8 hit8
    obtain ⟨c, hc⟩ : ∃ c, c = (if r' = [] then x' else 64 + x') := ⟨_, rfl⟩
    rw [← hc]
    have hc0 : 0 ≤ c := by rw [hc]; split <;> omega
    k_steps
    have hcx : Builtin.bitAnd c 63 = x' := by
      rw [bitAnd_m6, hc]
      split <;> omega
    refine Stop.mk ⟨_, _, _, _, r'.length, rfl, by assumption, by assumption, by rw [hk']; exact Nat.lt_succ_self _, o8, i' + 1, c, _, r', _, _, rfl, hit8, h2', by rw [← hie]; simp only [List.length_cons]; omega, rfl, fun y hy => hgx' y (.tail _ hy), ?_, ?_, hc0, ?_, ?_, rfl, rfl, rfl⟩
    · rw [hcx, or_add (by omega) (by omega)]; omega
    · rw [hcx, or_add (by omega) (by omega), ← htot]
      rfl
    · intro e
      rw [hc, if_pos e]
      omega
    · intro e
      rw [hc, if_neg e]
      omega
  · rename Builtin.bitAnd b' 64 = 0 => hz
    have hb64 : Builtin.bitAnd b' 64 = (b' / 64 % 2) * 64 := kbt_bit b' 6
    cases g' with
    | cons x' r' =>
      have := hb2 (by simp)
      exfalso
      rw [hb64] at hz
      omega
    | nil =>
      rename GSub _ _ _ => G9
      have hv : val = wv 0 (x :: r) := htot
      rw [hv]
      have N9 := N'
      have hie' : i' = i + (x :: r).length := by simpa using hie
      rw [hie'] at hit'
      refine hret _ [(it, io)] _ _ (by assumption) (ext_after G9 N F' N' (fun p hp => ?_)) ?_ ⟨_, io, rfl, rfl, hit'⟩
      · rcases List.mem_cons.mp hp with rfl | hp
        · exact .inl (.head _)
        · exact .inr (.tail _ hp)
      · intro p hp
        rw [List.mem_singleton.mp hp]
        exact ⟨(N' _ (.head _)).1, .inl (.head _)⟩
end
section
open PySem PySem.Spec PySem.Calls PyProof.Rows PySem.W
local macro_rules | `(tactic| walk_at "subscriptTail") => `(tactic| ((with_reducible show wpAny _ _ (subscriptTail _ (Expr.Call _ _ _ _) _ _) _ _ _); refine Stop.out ?_))
local macro_rules | `(tactic| walk_at "isTrue BoolOp") => `(tactic| ((with_reducible show wpAny _ _ (isTrue (Expr.BoolOp BoolOp.Or (_ :: _ :: _) _) _ _) _ _ _); refine Stop.out ?_))
local macro_rules | `(tactic| walk_at "call builtin:sum") => `(tactic| refine Stop.out ?_)
def IxJ (l cm cw wt : Addr) (ow : Obj) (vs : List Value) (n1 : Nat) (q hh : Int) (tq th : Tok) (R : List Int) (m : Str → Option Value) (news : List (Addr × Obj)) : Prop :=
  ∃ us k om c, news = [(l, listOf (List.toArray us) k), (cm, om), (cw, ow), (wt, listOf vs.toArray n1)] ∧ IntsAre us R ∧ om.data = .cell c ∧ m (Str.ofString "index") = some (.ref l) ∧ m (Str.ofString "quota") = some (.int q tq) ∧ m (Str.ofString "heads") = some (.int hh th)
theorem off_four {l cm cw wt I : Addr} {o1 o2 o3 o4 : Obj} (h1 : @Ne Nat l I) (h2 : @Ne Nat cm I) (h3 : @Ne Nat cw I) (h4 : @Ne Nat wt I) : ∀ p ∈ [(l, o1), (cm, o2), (cw, o3), (wt, o4)], p.1 ≠ I := by
  intro p hp
  simp only [List.mem_cons, List.not_mem_nil, or_false] at hp
  rcases hp with rfl | rfl | rfl | rfl
  · exact h1
  · exact h2
  · exact h3
  · exact h4
theorem off_seven {l cm cw wt I a b c : Addr} {o1 o2 o3 o4 o5 o6 o7 : Obj} (h5 : @Ne Nat a I) (h6 : @Ne Nat b I) (h7 : @Ne Nat c I) (h1 : @Ne Nat l I) (h2 : @Ne Nat cm I) (h3 : @Ne Nat cw I) (h4 : @Ne Nat wt I) : ∀ p ∈ [(a, o5), (b, o6), (c, o7), (l, o1), (cm, o2), (cw, o3), (wt, o4)], p.1 ≠ I := by
  intro p hp
  simp only [List.mem_cons, List.not_mem_nil, or_false] at hp
  rcases hp with rfl | rfl | rfl | rfl | rfl | rfl | rfl
  · exact h5
  · exact h6
  · exact h7
  · exact h1
  · exact h2
  · exact h3
  · exact h4
theorem any_grp (M : Int) {j : Nat} (hj : j < 4) : ((grp M 4).any fun x => x == (j : Int)) = false ↔ ayb M j = false := by
  have h := grp_in (m := M) (j := 4) (k := j) hj
  cases hb : ayb M j with
  | true =>
    rw [hb] at h
    have := h.mpr rfl
    simp only [Bool.true_eq_false, iff_false, Bool.not_eq_false]
    exact List.any_eq_true.mpr ⟨_, this, by simp⟩
  | false =>
    rw [hb] at h
    simp only [iff_true]
    rw [Bool.eq_false_iff]
    intro hc
    obtain ⟨x, hx, e⟩ := List.any_eq_true.mp hc
    have e' : x = (j : Int) := by simpa using e
    rw [e'] at hx
    exact absurd (h.mp hx) (by simp)
theorem grp_lt {M : Int} {j : Nat} (hj : j < 4) (h : ayb M j = false) : (grp M 4).length < 4 := by
  have : ((List.range 4).filter (ayb M)).length < (List.range 4).length := by
    rw [List.length_filter_lt_length_iff_exists]
    exact ⟨j, List.mem_range.mpr hj, by simp [h]⟩
  simpa [grp] using this
def JxJ (l cm cw wt aG aT I : Addr) (ow om oG oT oI : Obj) (vs : List Value) (n1 : Nat) (q hh T0 : Int) (tq th tT : Tok) (R : List Int) (m : Str → Option Value) (news : List (Addr × Obj)) : Prop :=
  ∃ us k, news = [(aT, oT), (aG, oG), (I, oI), (l, listOf (List.toArray us) k), (cm, om), (cw, ow), (wt, listOf vs.toArray n1)] ∧ IntsAre us R ∧ m (Str.ofString "index") = some (.ref l) ∧ m (Str.ofString "quota") = some (.int q tq) ∧ m (Str.ofString "heads") = some (.int hh th) ∧ m (Str.ofString "total") = some (.int T0 tT) ∧ m (Str.ofString "group") = some (.ref aG)
def OrEnd (s : Shared) (h : Heap) (C : Prop) (b : Bool) (s₂ : Shared) : Prop := (∃ tk, s₂ = { s with heap := h, toks := tk }) ∧ (b = true ↔ C)
theorem idx (w : World) (wt : Addr) (vs : List Value) (ws : List Int) (hws : IntsAre vs ws) (hw4 : ws.length = 4) (n1 : Nat) (q hh : Int) (tq th : Tok) : Con w 6 60 113 (fun _ => True) [(wt, listOf vs.toArray n1)] [] [.ref wt, .int q tq, .int hh th] (fun r tl => ∃ l us k, r = .ref l ∧ tl = [(l, listOf us.toArray k)] ∧ IntsAre us (rowAt ws q hh 16 0)) := by
  unfold Con
  w_top off
  k_fill
  intro p loose mean mg mb dp un gd cn cs a ccd cl outer A₀ base h₀ L m s Q E B F X N T hk hd hu _ hret
  refine wpAny_call ?_
  k_dflt ktr_unf
  k_steps
  refine Stop.mk ?_
  rename Fr _ _ _ _ => lF'
  refine For_J (env := envOfC _ _ _ _ _) lF' ?_ (by intro _; rfl) (by intro _ _; rfl) (by passes_own)
  k_steps
  rename_i g9 L9 h9 tk9 FG9 B9 X9 T9 G9 l1 om ow d1 d2 l9 h10 l2 h11 N9 tk10 h12 tk12 t1 u1 v1 rg F12 N12 ex
  replace d1 : om.data = .cell none := d1
  replace d2 : ow.data = .cell (some (.ref wt)) := d2
  refine Stop.mk ⟨_, 0, 16, _, _, _, 16, _, _, fun i m₁ news₁ => IxJ l9 (L9 + 1 + 1) (L9 + 1) wt ow vs n1 q hh tq th (rowAt ws q hh i 0) m₁ news₁, rfl, rg, rfl, rfl, rfl, F12, N12,
    ⟨_, _, _, _, rfl, .cons 0 _ (.cons 0 _ (.cons 0 _ (.cons 0 _ .nil))), d1, rfl, rfl, rfl⟩, ?_, ?_⟩
  · clear rg F12 N12 ex N9 tk10 hret
    intro i t' m₁ news₁ I h tk hi' hJ hI F' N'
    obtain ⟨us, k, oc, c, rfl, hus, hc, e1, e2, e3⟩ := hJ
    generalize hM : (0 + (i : Int)) = M
    have hM0 : 0 ≤ M := by omega
    have hM1 : M < 16 := by omega
    simp only [List.forall_mem_cons, List.not_mem_nil, false_implies, implies_true, and_true] at hI
    have hI1 := neN hI.1
    have hI2 := neN hI.2.1
    have hI3 := neN hI.2.2.1
    have hI4 := neN hI.2.2.2
    clear hI
    replace F' := frAdd (a := Str.ofString "index") F' e1
    replace F' := frAdd (a := Str.ofString "quota") F' ((if_neg (by decide)).trans e2)
    replace F' := frAdd (a := Str.ofString "heads") F' ((if_neg (by decide)).trans ((if_neg (by decide)).trans e3))
    clear e1 e2 e3
    k_steps
    rename_i h3 oc3 F3 N3 d3 h4 tk4 t4 u4 v4 rg4 F4 N4 ex4
    refine Stop.mk (LCt.CompSrcT.range rfl F4 N4 rg4 rfl rfl (by decide) ?_)
    intro gg
    clear F3 N3 F' N' ex4 rg4
    refine compTJ (fun j ys nw => nw = _ ∧ IntsAre ys (grp M j)) ⟨rfl, .nil⟩ ?_ ?_
    · intro j ys nw v I5 oI C5 oC D5 m₂ h5 tk5 E' hj hJ hP hC hx F5 N5 off ne
      obtain ⟨rfl, hys⟩ := hJ
      obtain ⟨t5, rfl⟩ := hP
      clear F4 N4
      k_steps
      all_goals refine Stop.mk (LCg.CompEnd.intro F5 N5 _ (fun p hp => hp) off trivial ⟨rfl, ?_⟩)
      all_goals rw [show (0 + (j : Int)).toNat = j by omega] at *
      · rename ¬ _ = (0 : Int) => hb
        rw [grp_t (by simpa [ayb] using hb)]
        rw [show (0 + (j : Int)) = j by omega]
        exact ints_snoc hys
      · rename _ = (0 : Int) => hb
        rw [grp_f (by simpa [ayb] using hb)]
        exact hys
    · intro ys nw hJ
      obtain ⟨rfl, hys⟩ := hJ
      clear F4 N4
      intro D5 h5 tk5 F5 N5 off5
      replace hys : IntsAre ys (grp M 4) := hys
      obtain ⟨gr, hgr⟩ : ∃ gr, gr = grp M 4 := ⟨_, rfl⟩
      have hgl : gr.length ≤ 4 := hgr ▸ grp_len M 4
      have hgm : ∀ k ∈ gr, 0 ≤ k ∧ k < 4 := fun k hk => grp_mem (hgr ▸ hk)
      rw [← hgr] at hys
      have hyl : ys.length = gr.length := hys.length
      k_steps
      refine Stop.mk (LCg.CompSrc.ledger rfl F5 N5 (.head _) (by rw [List.size_toArray, hyl, sizeLine_eq]; omega) ?_)
      intro g6
      refine compJ (fun i2 zs nw => nw = _ ∧ IntsAre zs (pick ws (gr.take i2))) ⟨rfl, .nil⟩ ?_ ?_
      · intro j zs nw v I6 oI C6 oC D6 m₂ h6 tk6 E' hj hJ hP hC hx F6 N6 off ne
        obtain ⟨rfl, hzs⟩ := hJ
        obtain ⟨t6, rfl, hlt⟩ := ints_at hys (by simpa using hP)
        clear F5 N5
        obtain ⟨e, he⟩ : ∃ e, e = gr.getD j 0 := ⟨_, rfl⟩
        have hee : gr[j]? = some e := by rw [he, List.getD_eq_getElem?_getD, List.getElem?_eq_getElem hlt]; rfl
        obtain ⟨he0, he4⟩ := hgm e (List.mem_of_getElem? hee)
        rw [← he] at hx
        k_steps
        refine Stop.mk (LCg.CompEnd.intro F6 N6 _ (fun p hp => hp) off (.inr ⟨_, .head _, rfl, _, rfl⟩) ⟨rfl, ?_⟩)
        rw [List.take_add_one, hee]
        simp only [Option.toList_some, pick, List.map_append, List.map_cons, List.map_nil]
        exact ints_snoc hzs
      · intro zs nw hJ
        obtain ⟨rfl, hzs⟩ := hJ
        clear F5 N5
        intro D6 h6 tk6 F6 N6 off6
        replace hzs : IntsAre zs (pick ws gr) := by
          have e1 : ys.toArray.size = gr.length := by rw [List.size_toArray, hyl]
          rwa [e1, List.take_length] at hzs
        k_steps
        refine Stop.mk ?_
        refine LSm.sum_ints F6 N6 rfl (News.isList N6 (.head _)) hzs ?_
        clear F6 N6
        intro h7 tk7 t7 F7 N7
        obtain ⟨T0, hT0⟩ : ∃ T0, T0 = (pick ws gr).sum := ⟨_, rfl⟩
        rw [← hT0]
        have hT1 : T0 = tot ws M := by rw [hT0, hgr]; rfl
        k_steps
        rename_i h8 F8 N8
        refine Stop.mk (wpAny_mono (Q := OrEnd s h8 (T0 < q ∨ (gr.length : Int) < hh)) (isTrue_or ?_) (fun b s₂ hb => ?_) (fun _ _ e => e))
        · k_steps
          · exact ⟨⟨_, rfl⟩, fun _ => .inl (by assumption), fun _ => rfl⟩
          · exact ⟨⟨_, rfl⟩, fun _ => .inr (by assumption), fun _ => rfl⟩
          · exact ⟨⟨_, rfl⟩, fun e => (nomatch e), fun z => z.elim (fun x => absurd x (by assumption)) (fun x => absurd x (by assumption))⟩
        obtain ⟨⟨tk8, rfl⟩, hor⟩ := hb
        cases b with
        | false =>
          have hor' : ¬ (T0 < q ∨ (gr.length : Int) < hh) := fun z => Bool.noConfusion (hor.mpr z)
          clear hor
          rw [if_neg Bool.false_ne_true]
          k_steps
          refine Stop.mk (UnrEnd.intro (by assumption) (by assumption) [(l9, listOf us.toArray k), (L9 + 1 + 1, oc3), (L9 + 1, ow), (wt, listOf vs.toArray n1)] (fun p hp => .tail _ (.tail _ hp)) (off_four hI1 hI2 hI3 hI4) ⟨us, k, oc3, _, rfl, ?_, d3, rfl, rfl, rfl⟩)
          rw [row_skip (q := q) (hh := hh)] at hus
          · exact hus
          · rw [show (i : Int) = M by omega, ← hT1, ← hgr]
            omega
        | true =>
          replace hor := hor.mp rfl
          rw [if_pos rfl]
          k_steps
          refine Stop.mk ?_
          clear hT0
          rename Fr _ _ _ _ => lF'
          refine For_J (env := envOfC _ _ _ _ _) lF' ?_ (by intro _; rfl) (by intro _ _; rfl) (by passes_own)
          k_steps
          rename_i h13 tk13 t13 u13 v13 rg13 F13 N13 ex13
          refine Stop.mk ⟨_, 0, 4, _, _, _, 4, _, _, fun j m₁ news₁ => JxJ l9 (L9 + 1 + 1) (L9 + 1) wt D5 D6 I ow oc3 (LCg.lst ys) (LCg.lst zs) (itR _ _) vs n1 q hh T0 tq th t7 (rowAt ws q hh i j) m₁ news₁, rfl, rg13, rfl, rfl, rfl, F13, N13, ⟨us, k, rfl, hus, rfl, rfl, rfl, rfl, rfl⟩, ?_, ?_⟩
          · clear rg13 F13 N13 ex13 hus
            intro j t' m₁ news₁ I2 h tk hj' hJ hI F' N'
            obtain ⟨us, k, rfl, hus, e1, e2, e3, e4, e5⟩ := hJ
            simp only [List.forall_mem_cons, List.not_mem_nil, false_implies, implies_true, and_true] at hI
            have hK1 := neN hI.1
            have hK2 := neN hI.2.1
            have hK3 := neN hI.2.2.1
            have hK4 := neN hI.2.2.2.1
            have hK5 := neN hI.2.2.2.2.1
            have hK6 := neN hI.2.2.2.2.2.1
            have hK7 := neN hI.2.2.2.2.2.2
            clear hI
            replace F' := frAdd (a := Str.ofString "index") F' e1
            replace F' := frAdd (a := Str.ofString "quota") F' ((if_neg (by decide)).trans e2)
            replace F' := frAdd (a := Str.ofString "heads") F' ((if_neg (by decide)).trans ((if_neg (by decide)).trans e3))
            replace F' := frAdd (a := Str.ofString "total") F' ((if_neg (by decide)).trans ((if_neg (by decide)).trans ((if_neg (by decide)).trans e4)))
            replace F' := frAdd (a := Str.ofString "group") F' ((if_neg (by decide)).trans ((if_neg (by decide)).trans ((if_neg (by decide)).trans ((if_neg (by decide)).trans e5))))
            clear e1 e2 e3 e4 e5
            obtain ⟨ro, hro⟩ : ∃ ro, ro = rowAt ws q hh i j := ⟨_, rfl⟩
            have hrl : ro.length = 4 := by rw [hro, row_len]
            rw [← hro] at hus
            have hMi : (i : Int) = M := by omega
            have hcn : ∀ x : Int, ((gr.any fun x => x == 0 + (j : Int)) = false → q ≤ T0 + ws.getD (0 + (j : Int)).toNat 0 → hh ≤ (gr.length : Int) + 1 → x = coef gr.length) → (¬ ((gr.any fun x => x == 0 + (j : Int)) = false ∧ q ≤ T0 + ws.getD (0 + (j : Int)).toNat 0 ∧ hh ≤ (gr.length : Int) + 1) → x = 0) → cntr ws q hh (i : Int) j = x := by
              intro x h1 h2
              rw [show (0 + (j : Int)).toNat = j by omega, show (0 + (j : Int)) = j by omega] at *
              subst hgr hT1
              have hb := any_grp M hj'
              unfold cntr
              rw [hMi]
              split
              · rename_i hz
                exact (h1 (hb.mpr hz.2.1) hz.2.2.1 hz.2.2.2).symm
              · rename_i hz
                refine (h2 ?_).symm
                intro hy
                exact hz ⟨hor, hb.mp hy.1, hy.2.1, hy.2.2⟩
            clear hMi
            k_steps
            · refine Stop.mk (UnrEnd.intro (by assumption) (by assumption) [(D6, LCg.lst zs), (D5, LCg.lst ys), (I, itR _ _), (l9, listOf us.toArray k), (L9 + 1 + 1, oc3), (L9 + 1, ow), (wt, listOf vs.toArray n1)] (fun p hp => hp) (off_seven hK1 hK2 hK3 hK4 hK5 hK6 hK7) ⟨us, k, rfl, ?_, rfl, rfl, rfl, rfl, rfl⟩)
              rw [← row_same hj' (hcn 0 ?_ (fun _ => rfl)), ← hro]
              · exact hus
              · intro z1 z2 z3
                exfalso
                rename (gr.any _) = true => zz
                rw [zz] at z1
                cases z1
            · rename (gr.any _) = false => hz1
              rename q ≤ T0 + _ => hz2
              rename hh ≤ (gr.length : Int) + 1 => hz3
              have hg3 : gr.length < 4 := by
                rw [show (0 + (j : Int)) = j by omega, hgr] at hz1
                rw [hgr]
                exact grp_lt hj' ((any_grp M hj').mp hz1)
              rename News _ _ _ (_ :: _ :: _ :: _ :: _ :: _ :: _ :: _ :: _ :: _) => lN9
              refine Stop.mk ?_
              refine ksa_sub (ns := [6, 2, 2, 6]) lN9 (.head _) (.cons 6 _ (.cons 2 _ (.cons 2 _ (.cons 6 _ .nil)))) (by omega) (by simp only [List.length_cons, List.length_nil]; omega) (by omega) ?_
              intro t9
              rw [show ((gr.length : Int)).toNat = gr.length by omega]
              obtain ⟨cc, hcc⟩ : ∃ cc, cc = coef gr.length := ⟨_, rfl⟩
              rw [show [6, 2, 2, 6].getD gr.length 0 = cc from hcc.symm]
              have hD5 : @Ne Nat D5 l9 := Ne.symm off5.2.1
              have hD6 : @Ne Nat D6 l9 := Ne.symm off6.2.2.1
              have hD7 : @Ne Nat I l9 := Ne.symm hI1
              have hD8 : @Ne Nat I2 l9 := Ne.symm hK4
              k_steps
              rename IntsAre _ (ro.set _ _) => hus9
              refine Stop.mk (UnrEnd.intro (by assumption) (by assumption) [(D6, LCg.lst zs), (D5, LCg.lst ys), (I, itR _ _), (l9, listOf _ k), (L9 + 1 + 1, oc3), (L9 + 1, ow), (wt, listOf vs.toArray n1)] (fun p hp => .tail _ hp) (off_seven hK1 hK2 hK3 hK4 hK5 hK6 hK7) ⟨_, k, rfl, ?_, rfl, rfl, rfl, rfl, rfl⟩)
              have hz0 : (0 + (j : Int)).toNat = j := by omega
              have hset := row_set hj' (hcn cc (fun _ _ _ => hcc) (fun z => (z ⟨hz1, hz2, hz3⟩).elim))
              rw [← hro] at hset
              rw [← hset]
              simpa only [hz0] using hus9
            · refine Stop.mk (UnrEnd.intro (by assumption) (by assumption) [(D6, LCg.lst zs), (D5, LCg.lst ys), (I, itR _ _), (l9, listOf us.toArray k), (L9 + 1 + 1, oc3), (L9 + 1, ow), (wt, listOf vs.toArray n1)] (fun p hp => hp) (off_seven hK1 hK2 hK3 hK4 hK5 hK6 hK7) ⟨us, k, rfl, ?_, rfl, rfl, rfl, rfl, rfl⟩)
              rw [← row_same hj' (hcn 0 ?_ (fun _ => rfl)), ← hro]
              · exact hus
              · intro z1 z2 z3
                exfalso
                omega
            · refine Stop.mk (UnrEnd.intro (by assumption) (by assumption) [(D6, LCg.lst zs), (D5, LCg.lst ys), (I, itR _ _), (l9, listOf us.toArray k), (L9 + 1 + 1, oc3), (L9 + 1, ow), (wt, listOf vs.toArray n1)] (fun p hp => hp) (off_seven hK1 hK2 hK3 hK4 hK5 hK6 hK7) ⟨us, k, rfl, ?_, rfl, rfl, rfl, rfl, rfl⟩)
              rw [← row_same hj' (hcn 0 ?_ (fun _ => rfl)), ← hro]
              · exact hus
              · intro z1 z2 z3
                exfalso
                omega
          · clear rg13 F13 N13 ex13 hus
            intro m₁ news₁ h tk hJ F' N'
            obtain ⟨us, k, rfl, hus, e1, e2, e3, e4, e5⟩ := hJ
            replace F' := frAdd (a := Str.ofString "index") F' e1
            replace F' := frAdd (a := Str.ofString "quota") F' ((if_neg (by decide)).trans e2)
            replace F' := frAdd (a := Str.ofString "heads") F' ((if_neg (by decide)).trans ((if_neg (by decide)).trans e3))
            clear e1 e2 e3 e4 e5
            k_steps
            refine Stop.mk (UnrEnd.intro (by assumption) (by assumption) [(l9, listOf us.toArray k), (L9 + 1 + 1, oc3), (L9 + 1, ow), (wt, listOf vs.toArray n1)] (fun p hp => .tail _ (.tail _ hp)) (off_four hI1 hI2 hI3 hI4) ⟨us, k, oc3, _, rfl, ?_, d3, rfl, rfl, rfl⟩)
            rw [← row_next]
            exact hus
  · clear rg F12 N12 ex N9 tk10
    intro m₁ news₁ h tk hJ F' N'
    obtain ⟨us, k, oc, c, rfl, hus, hc, e1, e2, e3⟩ := hJ
    replace F' := frAdd (a := Str.ofString "index") F' e1
    clear e1 e2 e3
    k_steps
    rename_i kF kN T8 X8
    exact hret _ _ _ _ kF (ext_after G9 N F' N' (fun p hp => .inr (.tail _ (.tail _ (.tail _ hp))))) (new_one G9 N' (fun hq => Nat.ne_of_gt l2.2.2 (List.mem_singleton.mp hq))) ⟨_, _, _, rfl, rfl, hus⟩
end
section
open PySem PySem.Spec PySem.Calls PyProof.Rows PySem.W
theorem seq_list_iadd : seqSlot? (.type "list") (dunderI "add") = pure (some (.builtin "list.__iadd__")) := PySem.seqSlot_of PySem.F.slot_list_iadd.lookup (by decide +kernel)
theorem fills_list_iadd : fillsInplaceSlot (.type "list") "add" (Operator.Add == .Add) = pure false := by
  unfold fillsInplaceSlot
  show (typeLookup (.type "list") (dunderI "add") >>= fun fi => pure (fi.isSome && !isSeqSlot fi)) = pure false
  rw [PySem.F.slot_list_iadd.lookup]
  show (pure (true && !isSeqSlotId "list.__iadd__") : Sem Bool) = pure false
  rw [show isSeqSlotId "list.__iadd__" = true by decide +kernel]
  rfl
section
variable {prog : Program} {w : World} {A : Around} {E : Value → Shared → Prop} {s : Shared} {h₀ : Heap} {L D b : Addr} {m : Str → Option Value} {news : List (Addr × Obj)} {g : Obj → List (Addr × Obj)} {us zs : List Value} {k k2 : Nat}
theorem iadd_list {Q : Value → Shared → Prop} (F : Fr h₀ L s.heap m) (N : News h₀ L s.heap news) (U : UpdF D (listOf us.toArray k) news g) (hb : (b, listOf zs.toArray k2) ∈ news) (hz : us.length + zs.length ≤ 1000)
    (h : ∀ h' k', Fr h₀ L h' m → News h₀ L h' (g (listOf (us ++ zs).toArray k')) → Q (.ref D) { s with heap := h' }) : wpAny (model prog w) A (inplaceOp .Add (.ref D) (.ref b)) Q E s := by
  obtain ⟨pre, post, hl, hg, a, c⟩ := U.split
  have z := N (D, listOf us.toArray k) (by rw [hl]; exact List.mem_append_right _ (.head _))
  have zb := (N _ hb).1
  have ha : s.TypeIs (.ref D) "list" := ⟨_, z.1, rfl⟩
  have hb' : s.TypeIs (.ref b) "list" := ⟨_, zb, rfl⟩
  unfold inplaceOp
  refine wpAny_holding ?_
  refine wpAny_bind (wpAny_typeOf ha (wpAny_bind (wpAny_of_eq fills_list_iadd ?_)))
  show wpAny _ A (if false = true then _ else _) Q E s
  rw [if_neg Bool.false_ne_true]
  refine wpAny_bind (wpAny_binaryOp1_none (nm := "add") ha hb' noFill_list_add ?_)
  refine wpAny_bind (wpAny_of_eq seq_list_iadd ?_)
  refine wpAny_bind (wpAny_rule ?_)
  have hs1 : us.toArray.size + zs.toArray.size ≤ 1000 := by simpa using hz
  have hbig : 1000000 < sizeLine := by rw [sizeLine_eq]; decide
  refine call_meets PySem.F.slot_list_iadd ha PySem.F.entry_list_iadd (PySem.F.args_list_iadd_2 _ _) (PySem.AutoSeq1.list___iadd___list_list_0 D us.toArray k b zs.toArray k2 ?_ (by omega) (by omega)) ⟨z.1, zb, ?_⟩
  · have : Builtin.List.listTooLong (us.toArray.size + zs.toArray.size) = false := by
      simp only [Builtin.List.listTooLong, decide_eq_false_iff_not]
      omega
    rw [this, Bool.and_false]
    exact Bool.false_ne_true
  · have q := PySem.IsL.update z.1 (fun x => x ++ zs.toArray)
    rw [show us.toArray ++ zs.toArray = (us ++ zs).toArray by simp] at q
    have N2 : News h₀ L s.heap (pre ++ (D, listOf us.toArray k) :: post) := hl ▸ N
    exact h _ _ (F.change (Heap.SameBut.update ..) z.2.1 z.2.2) (hg _ ▸ news_set N2 a c (Heap.SameBut.update ..) q)
end
end
section
open PySem PySem.Spec PySem.Calls PyProof.Rows PySem.W
section
variable {prog : Program} {w : World} {A : Around} {E : Value → Shared → Prop} {s : Shared} {env : Env} {elt : Expr} {gens : List Comprehension} {scope : Scope} {pos : Pos} {d : Nat} {it acc : Value} {target iter iter' t' : Expr} {ifs ifs' : List Expr}
def TurnW (prog : Program) (w : World) (A : Around) (it : Value) (target : Expr) (ifs : List Expr) (env : Env) (Body : (Shared → Prop) → (Value → Shared → Prop) → Shared → Prop) (Rn Ra : Shared → Prop) (E : Value → Shared → Prop) (s : Shared) : Prop :=
  wpAny (model prog w) A (pyNext it) (fun r s₁ => match r with
    | none => Rn s₁
    | some v => wpAny (model prog w) A (assign target env v) (fun _ s₂ =>
        wpAny (model prog w) A (forIn ifs true fun c r => if r = true then do let ok ← isTrue c env (eval c env); pure (ForInStep.yield ok) else pure (ForInStep.yield r)) (fun ok s₃ => if ok = true then Body Ra E s₃ else Ra s₃) E s₂) E s₁) E s
def BodyL (prog : Program) (w : World) (A : Around) (elt : Expr) (acc : Value) (env : Env) (Q : Shared → Prop) (E : Value → Shared → Prop) (s : Shared) : Prop :=
  wpAny (model prog w) A (eval elt env) (fun x s₂ => wpAny (model prog w) A (call (.builtin "list.append") [acc, x]) (fun _ s₃ => Q s₃) E s₂) E s
def BodyM (prog : Program) (w : World) (A : Around) (e : Expr) (d : Nat) (iter' : Expr) (acc : Value) (env : Env) (Q : Shared → Prop) (E : Value → Shared → Prop) (s : Shared) : Prop :=
  wpAny (model prog w) A (eval iter' env) (fun x s₂ => wpAny (model prog w) A (pyIter x) (fun it' s₃ => codeAny (model prog w) A (.compStart e (d + 1) it' acc env) (fun r s' => match r with | .ok _ => Q s' | .error e => cameBackBy (model prog w) A env E e s') s₃) E s₂) E s
theorem turn_last (hg : gens[d]? = some ⟨target, iter, ifs, 0⟩) (hg1 : gens[d + 1]? = none) (ht : ∀ v, letOwnedTupleGo target it v = pure ()) {Rn Ra : Shared → Prop} (h : TurnW prog w A it target ifs env (BodyL prog w A elt acc env) Rn Ra E s) :
    wpAny (model prog w) A (compTurn (.ListComp elt gens scope pos) d it acc env) (fun fin s' => match fin with | .done f => f = .next ∧ Rn s' | .again c' => c' = .compLoop (.ListComp elt gens scope pos) d it acc env ∧ Ra s') E s := by
  unfold compTurn
  dsimp only
  rw [hg]
  dsimp only
  rw [hg1]
  refine wpAny_bind (wpAny_standAt ?_)
  rw [if_neg (by decide)]
  refine wpAny_bind (wpAny_mono h (fun r s₁ h₁ => ?_) fun _ _ e => e)
  cases r with
  | none => exact wpAny_pure ⟨rfl, h₁⟩
  | some v =>
    refine wpAny_bind (wpAny_of_eq (ht v) ?_)
    refine wpAny_bind (wpAny_mono h₁ (fun _ s₂ h₂ => wpAny_bind (wpAny_mono h₂ (fun ok s₃ h₃ => ?_) fun _ _ h' => h')) fun _ _ h' => h')
    cases ok with
    | false => exact wpAny_pure ⟨rfl, h₃⟩
    | true =>
      exact wpAny_bind (wpAny_bind (wpAny_mono h₃ (fun x s₄ h₄ => wpAny_bind (wpAny_mono h₄ (fun _ s₅ h₅ => wpAny_pure (wpAny_pure ⟨rfl, h₅⟩)) fun _ _ h' => h')) fun _ _ h' => h'))
theorem turn_mid (hg : gens[d]? = some ⟨target, iter, ifs, 0⟩) (hg1 : gens[d + 1]? = some ⟨t', iter', ifs', 0⟩) (hs : ∀ x, foldedSetIterable iter' env x = pure x) (ht : ∀ v, letOwnedTupleGo target it v = pure ()) {Rn Ra : Shared → Prop} (h : TurnW prog w A it target ifs env (BodyM prog w A (.ListComp elt gens scope pos) d iter' acc env) Rn Ra E s) :
    wpAny (model prog w) A (compTurn (.ListComp elt gens scope pos) d it acc env) (fun fin s' => match fin with | .done f => f = .next ∧ Rn s' | .again c' => c' = .compLoop (.ListComp elt gens scope pos) d it acc env ∧ Ra s') E s := by
  unfold compTurn
  dsimp only
  rw [hg]
  dsimp only
  rw [hg1]
  refine wpAny_bind (wpAny_standAt ?_)
  rw [if_neg (by decide)]
  refine wpAny_bind (wpAny_mono h (fun r s₁ h₁ => ?_) fun _ _ e => e)
  cases r with
  | none => exact wpAny_pure ⟨rfl, h₁⟩
  | some v =>
    refine wpAny_bind (wpAny_of_eq (ht v) ?_)
    refine wpAny_bind (wpAny_mono h₁ (fun _ s₂ h₂ => wpAny_bind (wpAny_mono h₂ (fun ok s₃ h₃ => ?_) fun _ _ h' => h')) fun _ _ h' => h')
    cases ok with
    | false => exact wpAny_pure ⟨rfl, h₃⟩
    | true =>
      refine wpAny_bind (wpAny_mono h₃ (fun x s₄ h₄ => wpAny_bind (wpAny_standAt ?_)) fun _ _ h' => h')
      rw [if_neg (show ¬ (((0 : Int) != 0) = true) by decide)]
      refine wpAny_bind (wpAny_of_eq (hs x) ?_)
      refine wpAny_bind (wpAny_holding ?_)
      rw [if_neg (show ¬ (((0 : Int) != 0) = true) by decide)]
      refine wpAny_mono h₄ (fun it' s₅ h₅ => ?_) fun _ _ h' => h'
      refine wpAny_bind (wpAny_runOwn (codeAny_mono h₅ fun r s' hr => ?_))
      cases r with
      | ok f => exact wpAny_pure ⟨rfl, hr⟩
      | error e => exact hr
end
section
variable {prog : Program} {w : World} {A : Around} {s s₁ : Shared} {env : Env} {e : Expr} {elt : Expr} {gens : List Comprehension} {scope : Scope} {pos : Pos} {d : Nat} {acc : Value} {ifs : List Expr} {h₀ : Heap} {L C D I : Addr} {m : Str → Option Value} {cl : List (Str × Addr)} {x : Str} {px : Pos} {a : Int} {n : Nat} {R : Result → Shared → Prop}
/-- how a clause over a range stands ahead of its turn i -/
def NSt (h₀ : Heap) (L : Addr) (m : Str → Option Value) (s₁ : Shared) (C D I : Addr) (a : Int) (n : Nat) (J : Nat → (Str → Option Value) → List Value → List (Addr × Obj) → Prop) (i : Nat) (s' : Shared) : Prop :=
  ∃ h tk mC oC ys news, s' = { s₁ with heap := h, toks := tk } ∧ Fr h₀ L h m ∧ LCg.NsObj oC mC ∧ News h₀ L h ((I, itR (a + (i : Int)) ((n : Int) - (i : Int))) :: (C, oC) :: (D, LCg.lst ys) :: news) ∧ LCg.Off3 I C D news ∧ J i mC ys news
theorem NSt.intro {J : Nat → (Str → Option Value) → List Value → List (Addr × Obj) → Prop} {i : Nat} {h : Heap} {tk : Nat} {mC : Str → Option Value} {oC : Obj} {ys : List Value} {all : List (Addr × Obj)} (F : Fr h₀ L h m) (N : News h₀ L h all) (news : List (Addr × Obj)) (hC : LCg.NsObj oC mC)
    (sub : ∀ p ∈ (I, itR (a + (i : Int)) ((n : Int) - (i : Int))) :: (C, oC) :: (D, LCg.lst ys) :: news, p ∈ all) (off : LCg.Off3 I C D news) (r : J i mC ys news) : NSt h₀ L m s₁ C D I a n J i { s₁ with heap := h, toks := tk } :=
  ⟨h, tk, mC, oC, ys, news, rfl, F, hC, fun p hp => N p (sub p hp), off, r⟩
theorem level {Body : (Shared → Prop) → (Value → Shared → Prop) → Shared → Prop} (hx : scope.names.lookup x = some .local) (hkind : scope.kind = .function) (hh : A.handled = none) (hIC : @Ne Nat I C) (hID : @Ne Nat I D) (hCD : @Ne Nat C D)
    (hT : ∀ (Rn Ra : Shared → Prop) (E : Value → Shared → Prop) (s : Shared), TurnW prog w A (.ref I) (.Name x px) ifs (compEnvC scope cl C env) Body Rn Ra E s →
      wpAny (model prog w) A (compTurn (.ListComp elt gens scope pos) d (.ref I) acc (compEnvC scope cl C env)) (fun fin s' => match fin with | .done f => f = .next ∧ Rn s' | .again c' => c' = .compLoop (.ListComp elt gens scope pos) d (.ref I) acc (compEnvC scope cl C env) ∧ Ra s') E s)
    (J : Nat → (Str → Option Value) → List Value → List (Addr × Obj) → Prop)
    (turn : ∀ i mC oC ys news h tk t (E' : Value → Shared → Prop), i < n → J i mC ys news → LCg.NsObj oC (fun y => if y = x then some (.int (a + (i : Int)) t) else mC y) → Fr h₀ L h m → News h₀ L h ((I, itR (a + ((i + 1 : Nat) : Int)) ((n : Int) - ((i + 1 : Nat) : Int))) :: (C, oC) :: (D, LCg.lst ys) :: news) → LCg.Off3 I C D news →
      wpAny (model prog w) A (forIn ifs true fun c r => if r = true then do let ok ← isTrue c (compEnvC scope cl C env) (eval c (compEnvC scope cl C env)); pure (ForInStep.yield ok) else pure (ForInStep.yield r)) (fun ok s₃ => if ok = true then Body (NSt h₀ L m s₁ C D I a n J (i + 1)) E' s₃ else NSt h₀ L m s₁ C D I a n J (i + 1) s₃) E' { s₁ with heap := h, toks := tk })
    (done : ∀ mC oC ys news h tk, J n mC ys news → LCg.NsObj oC mC → Fr h₀ L h m → News h₀ L h ((C, oC) :: (D, LCg.lst ys) :: news) → LCg.Off3 I C D news → R (.ok .next) { s₁ with heap := h, toks := tk })
    (h : NSt h₀ L m s₁ C D I a n J 0 s) : codeAny (model prog w) A (.compLoop (.ListComp elt gens scope pos) d (.ref I) acc (compEnvC scope cl C env)) R s := by
  refine codeAny_loop rfl (fun k s' => ∃ i, i ≤ n ∧ k = n + 1 - i ∧ NSt h₀ L m s₁ C D I a n J i s') ?_ (n + 1) ⟨0, Nat.zero_le _, rfl, h⟩
  rintro k s' ⟨i, hi, rfl, h', tk, mC, oC, ys, news, rfl, F, hC, N, off, hJ⟩
  show wpAny _ A ((compTurn (.ListComp elt gens scope pos) d (.ref I) acc (compEnvC scope cl C env)).onRaise (fun x => do noteFrame x (compEnvC scope cl C env); theTreesLotGoes x)) _ _ _
  refine wpAny_noted ?_
  have zI := N _ (.head _)
  have zC := N _ (.tail _ (.head _))
  have zD := N _ (.tail _ (.tail _ (.head _)))
  have off3 := off.mem
  by_cases hlt : i < n
  · refine wpAny_mono (hT (fun s' => R (.ok .next) s') (fun s' => NSt h₀ L m s₁ C D I a n J (i + 1) s') _ _ ?_) (fun fin s' hf => ?_) fun _ _ e => e
    · skip
      refine wpAny_pyNext_range_item zI.1 (by omega) fun h₂ hit₂ hs₂ => ?_
      have e1 := cast_up a i
      have e2 := cast_dn n i
      rw [e1, e2] at hit₂
      have F₂ : Fr h₀ L h₂ m := F.change hs₂ zI.2.1 zI.2.2
      refine wpAny_assign_Name (wpAny_storeName_local (lookup_relabel_local hx) (hC.ns (hs₂.extBut _ _ (Ne.symm hIC) zC.1)) (fun h₃ hn₃ hs₃ => ?_) (by simp [compEnvC, relabel, hkind]))
      obtain ⟨oC', heC, hoC⟩ := LCg.ns_obj hn₃
      have F₃ : Fr h₀ L h₃ m := F₂.change hs₃ zC.2.1 zC.2.2
      have N₃ : News h₀ L h₃ ((I, itR (a + ((i + 1 : Nat) : Int)) ((n : Int) - ((i + 1 : Nat) : Int))) :: (C, oC') :: (D, LCg.lst ys) :: news) := fun p hp => by
        rcases List.mem_cons.mp hp with rfl | hp
        · exact ⟨hs₃.extBut _ _ hIC hit₂, zI.2⟩
        · rcases List.mem_cons.mp hp with rfl | hp
          · exact ⟨heC, zC.2⟩
          · rcases List.mem_cons.mp hp with rfl | hp
            · exact ⟨hs₃.extBut _ _ (Ne.symm hCD) (hs₂.extBut _ _ (Ne.symm hID) zD.1), zD.2⟩
            · have z := N p (.tail _ (.tail _ (.tail _ hp)))
              exact ⟨hs₃.extBut _ _ (off3 p hp).2.1 (hs₂.extBut _ _ (off3 p hp).1 z.1), z.2⟩
      refine wpAny_mono (turn i mC oC' ys news h₃ _ _ _ hlt hJ hoC F₃ N₃ off) (fun ok s₄ h₄ => ?_) fun _ _ e => e
      cases ok with
      | false => exact h₄
      | true => exact h₄
    · cases fin with
      | done f => exact hf.1 ▸ hf.2
      | again c' => exact ⟨hf.1, n + 1 - (i + 1), by omega, i + 1, hlt, rfl, hf.2⟩
  · have hin : i = n := by omega
    subst hin
    refine wpAny_mono (hT (fun s' => R (.ok .next) s') (fun _ => False) _ _ ?_) (fun fin s' hf => ?_) fun _ _ e => e
    · skip
      refine wpAny_pyNext_range_end hh zI.1 (by omega) fun h₂ he₂ => ?_
      refine done mC oC ys news h₂ tk hJ hC ⟨F.ns.extBut he₂ (Ne.symm zI.2.1), fun b o e => he₂ b o (fun q => by rw [q, zI.2.2] at e; cases e) (F.keep b o e), F.above⟩ (fun p hp => ?_) off
      rcases List.mem_cons.mp hp with rfl | hp
      · exact ⟨he₂ _ _ (Ne.symm hIC) zC.1, zC.2⟩
      · rcases List.mem_cons.mp hp with rfl | hp
        · exact ⟨he₂ _ _ (Ne.symm hID) zD.1, zD.2⟩
        · have z := N p (.tail _ (.tail _ (.tail _ hp)))
          exact ⟨he₂ _ _ (off3 p hp).1 z.1, z.2⟩
    · cases fin with
      | done f => exact hf.1 ▸ hf.2
      | again c' => exact hf.2.elim
end
end
section
open PySem PySem.Spec PySem.Calls PyProof.Rows PySem.W
section
variable {prog : Program} {w : World} {A : Around} {E : Value → Shared → Prop} {s s₁ : Shared} {env : Env} {elt : Expr} {gens rest : List Comprehension} {scope : Scope} {pos : Pos} {d : Nat} {iter : Expr} {ifs : List Expr} {h₀ : Heap} {L C D I : Addr} {m : Str → Option Value} {cl : List (Str × Addr)} {x : Str} {px : Pos} {a : Int} {n : Nat}
/-- what the last clause's turn ends in -/
def NEnd (h₀ : Heap) (L : Addr) (m : Str → Option Value) (s₁ : Shared) (C D I : Addr) (a : Int) (n : Nat) (J : Nat → (Str → Option Value) → List Value → List (Addr × Obj) → Prop) (i : Nat) (ys : List Value) (y : Value) (s' : Shared) : Prop :=
  ∃ h tk mC oC news, s' = { s₁ with heap := h, toks := tk } ∧ Fr h₀ L h m ∧ LCg.NsObj oC mC ∧ News h₀ L h ((I, itR (a + (i : Int)) ((n : Int) - (i : Int))) :: (C, oC) :: (D, LCg.lst ys) :: news) ∧ LCg.Off3 I C D news ∧ ys.length ≤ 1000 ∧ J i mC (ys ++ [y]) news
theorem NEnd.intro {J : Nat → (Str → Option Value) → List Value → List (Addr × Obj) → Prop} {i : Nat} {h : Heap} {tk : Nat} {mC : Str → Option Value} {oC : Obj} {ys : List Value} {y : Value} {all : List (Addr × Obj)} (F : Fr h₀ L h m) (N : News h₀ L h all) (news : List (Addr × Obj)) (hC : LCg.NsObj oC mC)
    (sub : ∀ p ∈ (I, itR (a + (i : Int)) ((n : Int) - (i : Int))) :: (C, oC) :: (D, LCg.lst ys) :: news, p ∈ all) (off : LCg.Off3 I C D news) (hl : ys.length ≤ 1000) (r : J i mC (ys ++ [y]) news) : NEnd h₀ L m s₁ C D I a n J i ys y { s₁ with heap := h, toks := tk } :=
  ⟨h, tk, mC, oC, news, rfl, F, hC, fun p hp => N p (sub p hp), off, hl, r⟩
theorem body_last {J : Nat → (Str → Option Value) → List Value → List (Addr × Obj) → Prop} {i : Nat} {ys : List Value} {cenv : Env} (hID : @Ne Nat I D) (hCD : @Ne Nat C D) (h : wpAny (model prog w) A (eval elt cenv) (NEnd h₀ L m s₁ C D I a n J i ys) E s) :
    BodyL prog w A elt (.ref D) cenv (NSt h₀ L m s₁ C D I a n J i) E s := by
  refine wpAny_mono h (fun y s₂ hy => ?_) fun _ _ e => e
  obtain ⟨h', tk, mC, oC, news, rfl, F, hC, N, off, hl, hJ⟩ := hy
  have zI := N _ (.head _)
  have zC := N _ (.tail _ (.head _))
  have zD := N _ (.tail _ (.tail _ (.head _)))
  have off3 := off.mem
  refine append_at (hsz := by rw [List.size_toArray, sizeLine_eq]; omega) zD.1 fun h₅ hs₅ hD₅ => ?_
  refine ⟨h₅, tk, mC, oC, ys ++ [y], news, rfl, F.change hs₅ zD.2.1 zD.2.2, hC, fun p hp => ?_, off, hJ⟩
  rcases List.mem_cons.mp hp with rfl | hp
  · exact ⟨hs₅.extBut _ _ hID zI.1, zI.2⟩
  · rcases List.mem_cons.mp hp with rfl | hp
    · exact ⟨hs₅.extBut _ _ hCD zC.1, zC.2⟩
    · rcases List.mem_cons.mp hp with rfl | hp
      · exact ⟨hD₅.trans (congrArg some (LCg.lst_snoc ys y)), zD.2⟩
      · have z := N p (.tail _ (.tail _ (.tail _ hp)))
        exact ⟨hs₅.extBut _ _ (off3 p hp).2.2 z.1, z.2⟩
theorem compStart_at {iter : Expr} {target : Expr} {it acc : Value} {R : Result → Shared → Prop} (hg : gens[d]? = some ⟨target, iter, ifs, 0⟩)
    (h0 : codeAny (model prog w) A (.compLoop (.ListComp elt gens scope pos) d it acc env) R s)
    (h : wpAny (model prog w) A (pyIter it) (fun it' s' => codeAny (model prog w) A (.compLoop (.ListComp elt gens scope pos) d it' acc env) R s') (notedBy (model prog w) A env fun x s' => R (.error x) s') s) :
    codeAny (model prog w) A (.compStart (.ListComp elt gens scope pos) d it acc env) R s := by
  refine codeAny_of_tree ?_
  show wpAny _ _ ((compStart (.ListComp elt gens scope pos) d it acc env).onRaise (fun x => do noteFrame x env; standAt theWindowsPlace)) _ _ s
  refine wpAny_notedAt ?_
  unfold compStart
  have hc : (clausesOf (.ListComp elt gens scope pos))[d]? = some ⟨target, iter, ifs, 0⟩ := hg
  rw [hc]
  rw [if_neg (show ¬ (((some (⟨target, iter, ifs, 0⟩ : Comprehension)).elim false fun x => x.is_async != 0) = true) by simp)]
  refine wpAny_bind (wpAny_askSetting (wpAny_ite ?_))
  split
  · exact wpAny_pure ⟨rfl, h0⟩
  · refine wpAny_bind (wpAny_rule ?_)
    dsimp only
    refine wpAny_bind (wpAny_standAt (wpAny_bind (wpAny_mono h (fun it' s' h' => wpAny_pure ⟨rfl, h'⟩) fun _ _ x => x)))
/-- what the source of a further clause hands back: a range, and how the clause goes over it -/
def NSrc (prog : Program) (w : World) (A : Around) (h₀ : Heap) (L : Addr) (m : Str → Option Value) (s₁ : Shared) (C D : Addr) (elt : Expr) (gens : List Comprehension) (scope : Scope) (pos : Pos) (d : Nat) (cl : List (Str × Addr)) (env : Env) (Q : Shared → Prop) (xv : Value) (s₂ : Shared) : Prop :=
  ∃ (r : Addr) (b b' : Int) (t u v : Tok) (n : Nat) (h : Heap) (tk : Nat) (mC : Str → Option Value) (oC : Obj) (ys : List Value) (news : List (Addr × Obj)) (J : Nat → (Str → Option Value) → List Value → List (Addr × Obj) → Prop),
    xv = .ref r ∧ s₂ = { s₁ with heap := h, toks := tk } ∧ IsRange h r b b' 1 t u v ∧ Builtin.Range.small b b' 1 = true ∧ Builtin.Range.rangeSize b b' 1 = (n : Int) ∧ Fr h₀ L h m ∧ LCg.NsObj oC mC ∧ News h₀ L h ((C, oC) :: (D, LCg.lst ys) :: news) ∧ (∀ p ∈ news, p.1 ≠ C ∧ p.1 ≠ D) ∧ J 0 mC ys news ∧
    (∀ I (R : Result → Shared → Prop) s₃, @Ne Nat I C → @Ne Nat I D → NSt h₀ L m s₁ C D I b n J 0 s₃ → (∀ mC oC ys news h tk, J n mC ys news → LCg.NsObj oC mC → Fr h₀ L h m → News h₀ L h ((C, oC) :: (D, LCg.lst ys) :: news) → LCg.Off3 I C D news → R (.ok .next) { s₁ with heap := h, toks := tk }) →
      codeAny (model prog w) A (.compLoop (.ListComp elt gens scope pos) d (.ref I) (.ref D) (compEnvC scope cl C env)) R s₃) ∧
    (∀ mC oC ys news h tk, J n mC ys news → LCg.NsObj oC mC → Fr h₀ L h m → News h₀ L h ((C, oC) :: (D, LCg.lst ys) :: news) → (∀ p ∈ news, p.1 ≠ C ∧ p.1 ≠ D) → Q { s₁ with heap := h, toks := tk })
theorem body_mid {iter' t' : Expr} {ifs' : List Expr} {Jo : Nat → (Str → Option Value) → List Value → List (Addr × Obj) → Prop} {io : Nat} (hg : gens[d + 1]? = some ⟨t', iter', ifs', 0⟩) (h : wpAny (model prog w) A (eval iter' (compEnvC scope cl C env)) (NSrc prog w A h₀ L m s₁ C D elt gens scope pos (d + 1) cl env (NSt h₀ L m s₁ C D I a n Jo io)) E s) :
    BodyM prog w A (.ListComp elt gens scope pos) d iter' (.ref D) (compEnvC scope cl C env) (NSt h₀ L m s₁ C D I a n Jo io) E s := by
  refine wpAny_mono h (fun xv s₂ hy => ?_) fun _ _ e => e
  obtain ⟨r, b, b', t, u, v, n, h', tk, mC, oC, ys, news, J, rfl, rfl, hr, hsm, hn, F, hC, N, off, hJ, go, fin⟩ := hy
  refine wpAny_pyIter_range hr hsm ?_
  have zC := N _ (.head _)
  have zD := N _ (.tail _ (.head _))
  have lC : C < h'.objs.size := Heap.lt_size zC.1
  have lD : D < h'.objs.size := Heap.lt_size zD.1
  have hIL : h'.objs.size ≠ L := Nat.ne_of_gt F.ns.lt
  have up : ∀ b o, h'.get? b = some o → (h'.push (itR b' (n : Int))).get? b = some o := fun b o e => Heap.get?_push_of_some _ e
  have st : NSt h₀ L m s₁ C D h'.objs.size b n J 0 { s₁ with heap := h'.push (itR b (n : Int)), toks := tk } := by
    refine ⟨_, _, mC, oC, ys, news, rfl, F.push _, hC, fun p hp => ?_, LCg.Off3.of fun p hp => ⟨Nat.ne_of_lt (Heap.lt_size (N p (.tail _ (.tail _ hp))).1), off p hp⟩, hJ⟩
    rcases List.mem_cons.mp hp with rfl | hp
    · refine ⟨?_, hIL, next_is_new F⟩
      rw [cast_z1, cast_z2]
      exact Heap.get?_push_size _ rfl
    · exact ⟨Heap.get?_push_of_some _ (N p hp).1, (N p hp).2⟩
  have run := fun R hR => go h'.objs.size R _ (Nat.ne_of_gt lC) (Nat.ne_of_gt lD) st hR
  have hit : IsRangeIter (h'.push (itR b (n : Int))) h'.objs.size b n 1 := Heap.get?_push_size _ rfl
  rw [hn]
  refine compStart_at hg (run _ (fun mC oC ys news h tk j c f nn o => fin mC oC ys news h tk j c f nn fun p hp => (o.mem p hp).2)) (wpAny_pyIter_rangeiter hit (run _ (fun mC oC ys news h tk j c f nn o => fin mC oC ys news h tk j c f nn fun p hp => (o.mem p hp).2)))
def NSrc0 (prog : Program) (w : World) (A : Around) (h₀ : Heap) (L : Addr) (m : Str → Option Value) (elt : Expr) (gens : List Comprehension) (scope : Scope) (pos : Pos) (cl : List (Str × Addr)) (env : Env) (Q : Value → Shared → Prop) (xv : Value) (s₁ : Shared) : Prop :=
  ∃ (r : Addr) (a b : Int) (t u v : Tok) (n : Nat) (news : List (Addr × Obj)) (J : Nat → (Str → Option Value) → List Value → List (Addr × Obj) → Prop), xv = .ref r ∧ Fr h₀ L s₁.heap m ∧ News h₀ L s₁.heap news ∧ IsRange s₁.heap r a b 1 t u v ∧ Builtin.Range.small a b 1 = true ∧ Builtin.Range.rangeSize a b 1 = (n : Int) ∧ (∀ mC, J 0 mC [] news) ∧
      (∀ I C D (R : Result → Shared → Prop) s₃, @Ne Nat I C → @Ne Nat I D → @Ne Nat C D → NSt h₀ L m s₁ C D I a n J 0 s₃ → (∀ mC oC ys news h tk, J n mC ys news → LCg.NsObj oC mC → Fr h₀ L h m → News h₀ L h ((C, oC) :: (D, LCg.lst ys) :: news) → LCg.Off3 I C D news → R (.ok .next) { s₁ with heap := h, toks := tk }) →
        codeAny (model prog w) A (.compLoop (.ListComp elt gens scope pos) 0 (.ref I) (.ref D) (compEnvC scope cl C env)) R s₃) ∧
      (∀ D mC ys news h tk, J n mC ys news → Fr h₀ L h m → News h₀ L h ((D, LCg.lst ys) :: news) → LCg.Off1 D news → Q (.ref D) { s₁ with heap := h, toks := tk })
/-- a block of some clauses, each over a range -/
theorem nest_list {Q : Value → Shared → Prop} (_F₀ : Fr h₀ L s.heap m) (hclos : closureFor scope env = pure cl) (hcell : ∀ y ∈ scope.names, y.2 ≠ .cell) (hkind : scope.kind = .function) (hnames : ∀ y ∈ scope.names, y.2 = .local → scope.names.lookup y.1 = some .local)
    (h : wpAny (model prog w) A (eval iter env) (NSrc0 prog w A h₀ L m elt (⟨.Name x px, iter, ifs, 0⟩ :: rest) scope pos cl env Q) E s)
    (hs : ∀ x, foldedSetIterable iter env x = pure x := by intro _; rfl) :
    wpAny (model prog w) A (eval (.ListComp elt (⟨.Name x px, iter, ifs, 0⟩ :: rest) scope pos) env) Q E s := by
  rw [eval_ListComp]
  refine wpAny_comprehension_free (use := none) rfl hs hclos hkind hnames (wpAny_mono h (fun xv s₁ h₁ => ?_) fun _ _ e => e)
  obtain ⟨r, a, b, t, u, v, n, news, J, rfl, F, N, hr, hsm, hn, start, go, fin⟩ := h₁
  refine wpAny_pyIter_range hr hsm ?_
  rw [hn]
  refine wpAny_newObj_type (wpAny_newFunctionEnv hcell (by intro y hy; simp at hy) (fun h₁ hns₁ hsb₁ => ?_) hkind)
  dsimp only at hns₁ hsb₁ ⊢
  obtain ⟨I, hI⟩ : ∃ I, I = s₁.heap.objs.size := ⟨_, rfl⟩
  generalize hH1 : s₁.heap.push { cls := .type "range_iterator", data := .fields #[rawInt a, rawInt (n : Int), rawInt 1] } = H1 at hns₁ hsb₁ ⊢
  generalize hH2 : H1.push { cls := .type "list", dict := none, data := .seq ([] : List Value).toArray } = H2 at hns₁ hsb₁ ⊢
  have l1 : H1.objs.size = I + 1 := by rw [← hH1, Heap.size_push, hI]
  have l2 : H2.objs.size = I + 2 := by rw [← hH2, Heap.size_push, l1]
  obtain ⟨oC, heC, hoC⟩ := LCg.ns_obj hns₁
  have up1 : ∀ b o, s₁.heap.get? b = some o → H1.get? b = some o := fun b o e => by rw [← hH1]; exact Heap.get?_push_of_some _ e
  have up2 : ∀ b o, H1.get? b = some o → H2.get? b = some o := fun b o e => by rw [← hH2]; exact Heap.get?_push_of_some _ e
  have up3 : ∀ (b : Addr) o, (@LT.lt Nat _ b H2.objs.size) → H2.get? b = some o → h₁.get? b = some o := fun b o lb e => hsb₁.extBut b o (Nat.ne_of_lt lb) (Heap.get?_push_of_some _ e)
  have old : ∀ b o, s₁.heap.get? b = some o → h₁.get? b = some o := fun b o e => by
    have lb : @LT.lt Nat _ b I := hI ▸ Heap.lt_size e
    exact up3 b o (by rw [l2]; exact Nat.lt_succ_of_lt (Nat.lt_succ_of_lt lb)) (up2 _ _ (up1 _ _ e))
  have eI : h₁.get? I = some (itR a (n : Int)) := up3 I _ (by rw [l2]; exact Nat.lt_succ_of_lt (Nat.lt_succ_self _)) (up2 _ _ (by rw [← hH1, hI]; exact Heap.get?_push_size _ rfl))
  have eD : h₁.get? H1.objs.size = some (LCg.lst []) := up3 _ _ (by rw [l2, l1]; exact Nat.lt_succ_self _) (by rw [← hH2]; exact Heap.get?_push_size _ rfl)
  have fresh₀ : ∀ b, I ≤ b → h₀.get? b = none := fun b hb => by
    cases e : h₀.get? b with
    | none => rfl
    | some o' => exact absurd (Heap.lt_size (F.keep b o' e)) (Nat.not_lt.mpr (hI ▸ hb))
  have lL : @LT.lt Nat _ L I := hI ▸ F.ns.lt
  have g2 : ∀ b : Nat, b < I → b < H2.objs.size := fun b hb => l2 ▸ Nat.lt_add_right 2 hb
  have g1 : ∀ b : Nat, b < I → b < H1.objs.size := fun b hb => l1 ▸ Nat.lt_add_right 1 hb
  have k2 : I ≤ H2.objs.size := l2 ▸ Nat.le_add_right I 2
  have k1 : I ≤ H1.objs.size := l1 ▸ Nat.le_add_right I 1
  have lN : ∀ p ∈ news, @LT.lt Nat _ p.1 I := fun p hp => hI ▸ Heap.lt_size (N p hp).1
  have st : NSt h₀ L m s₁ H2.objs.size H1.objs.size I a n J 0 { s₁ with heap := h₁, toks := s₁.toks + ([] : List (Str × Value)).length } := by
    refine ⟨_, _, _, oC, [], news, rfl, F.keeps old, hoC, fun p hp => ?_, LCg.Off3.of fun p hp => ?_, start _⟩
    · rcases List.mem_cons.mp hp with rfl | hp
      · refine ⟨?_, Nat.ne_of_gt lL, fresh₀ _ (Nat.le_refl _)⟩
        rw [cast_z1, cast_z2]
        exact eI
      · rcases List.mem_cons.mp hp with rfl | hp
        · exact ⟨heC, Nat.ne_of_gt (g2 _ lL), fresh₀ _ k2⟩
        · rcases List.mem_cons.mp hp with rfl | hp
          · exact ⟨eD, Nat.ne_of_gt (g1 _ lL), fresh₀ _ k1⟩
          · exact ⟨old _ _ (N p hp).1, (N p hp).2⟩
    · have := lN p hp
      exact ⟨Nat.ne_of_lt this, Nat.ne_of_lt (g2 _ this), Nat.ne_of_lt (g1 _ this)⟩
  have hIC : @Ne Nat I H2.objs.size := l2 ▸ Nat.ne_of_lt (Nat.lt_add_of_pos_right (by decide))
  have hID : @Ne Nat I H1.objs.size := l1 ▸ Nat.ne_of_lt (Nat.lt_add_of_pos_right (by decide))
  have hCD : @Ne Nat H2.objs.size H1.objs.size := l1 ▸ l2 ▸ Nat.ne_of_gt (Nat.lt_succ_self (I + 1))
  have run := fun R hR => go I H2.objs.size H1.objs.size R _ hIC hID hCD st hR
  have hR : ∀ mC oC ys news h tk, J n mC ys news → LCg.NsObj oC mC → Fr h₀ L h m → News h₀ L h ((H2.objs.size, oC) :: (H1.objs.size, LCg.lst ys) :: news) → LCg.Off3 I H2.objs.size H1.objs.size news →
      compPost (model prog w) A E none Q (.ref H1.objs.size) H2.objs.size (.ok .next) { s₁ with heap := h, toks := tk } := by
    intro mC oC ys news h tk j c f nn o
    have zC := nn _ (.head _)
    refine ⟨mC, c.ns zC.1, fun h'' hs'' => fin _ mC ys news h'' tk j (f.change hs'' zC.2.1 zC.2.2) (fun p hp => ?_) o.one⟩
    refine ⟨hs''.extBut _ _ ?_ (nn p (.tail _ hp)).1, (nn p (.tail _ hp)).2⟩
    rcases List.mem_cons.mp hp with rfl | hp
    · exact Ne.symm hCD
    · exact (o.mem p hp).2.1
  have hit : IsRangeIter h₁ I a n 1 := eI
  rw [← hI]
  exact compStart_at rfl (run _ hR) (wpAny_pyIter_rangeiter hit (run _ hR))
end
end
section
open PySem PySem.Spec PySem.Calls PyProof.Rows PySem.W
local macro_rules | `(tactic| walk_at "call builtin:iter") => `(tactic| refine Stop.out ?_)
local macro_rules | `(tactic| walk_at "inplaceOp Add ref ref") => `(tactic| refine Stop.out ?_)
local macro_rules | `(tactic| walk_at "inplaceOp Add ref") => `(tactic| refine Stop.out ?_)
local macro_rules | `(tactic| walk_at "eval ListComp") => `(tactic| ((with_reducible show wpAny _ _ (eval (Expr.ListComp (Expr.Call _ _ _ _) _ _ _) _) _ _ _); k_dflt (refine LCg.ListComp_U (F₀ := by k_asm) (by with_unfolding_all rfl) (by decide) (by rfl) (by decide) (by rfl) ?_)))
theorem oct_slice : ∀ g : List Int, oct g = (List.take (g.length - 1) g).map (fun x => 64 + x) ++ List.drop (g.length - 1) g
  | [] => rfl
  | [x] => rfl
  | x :: y :: r => by
    have := oct_slice (y :: r)
    simp only [List.length_cons, Nat.add_sub_cancel] at this
    simp only [oct, this, List.length_cons, Nat.add_sub_cancel, List.take_succ_cons, List.map_cons, List.drop_succ_cons, List.cons_append]
def WgJ (l cm ct cw wt : Addr) (ow ot : Obj) (vs : List Value) (n1 : Nat) (R : List Int) (m : Str → Option Value) (news : List (Addr × Obj)) : Prop :=
  ∃ us k om c, news = [(l, listOf (List.toArray us) k), (ct, ot), (cm, om), (cw, ow), (wt, listOf vs.toArray n1)] ∧ IntsAre us R ∧ om.data = .cell c ∧ m (Str.ofString "octets") = some (.ref l)
def octs (ws : List Int) : Nat → List Int
  | 0 => []
  | i + 1 => octs ws i ++ oct (pick ws (grp ((i + 1 : Nat) : Int) 4))
theorem octs_len (ws : List Int) : ∀ i, (octs ws i).length ≤ 4 * i
  | 0 => Nat.le_refl _
  | i + 1 => by
    have h1 := octs_len ws i
    have h2 := oct_len (pick ws (grp ((i + 1 : Nat) : Int) 4))
    have h3 := grp_len ((i + 1 : Nat) : Int) 4
    have h4 : (pick ws (grp ((i + 1 : Nat) : Int) 4)).length ≤ 4 := by rw [pick, List.length_map]; exact h3
    simp only [octs, List.length_append, h2]
    omega
theorem ints_app {vs us : List Value} {ns ms : List Int} (h : IntsAre vs ns) (h2 : IntsAre us ms) : IntsAre (vs ++ us) (ns ++ ms) := by
  induction h with
  | nil => exact h2
  | cons n t _ ih => exact .cons n t ih
theorem off_four' {l cm cw wt I : Addr} {o1 o2 o3 o4 : Obj} (h1 : @Ne Nat l I) (h2 : @Ne Nat cm I) (h3 : @Ne Nat cw I) (h4 : @Ne Nat wt I) : ∀ p ∈ [(l, o1), (cm, o2), (cw, o3), (wt, o4)], p.1 ≠ I := by
  intro p hp
  simp only [List.mem_cons, List.not_mem_nil, or_false] at hp
  rcases hp with rfl | rfl | rfl | rfl
  · exact h1
  · exact h2
  · exact h3
  · exact h4
theorem off_five {l cm cw wt I a : Addr} {o1 o2 o3 o4 o5 : Obj} (h5 : @Ne Nat a I) (h1 : @Ne Nat l I) (h2 : @Ne Nat cm I) (h3 : @Ne Nat cw I) (h4 : @Ne Nat wt I) : ∀ p ∈ [(a, o5), (l, o1), (cm, o2), (cw, o3), (wt, o4)], p.1 ≠ I := by
  intro p hp
  simp only [List.mem_cons, List.not_mem_nil, or_false] at hp
  rcases hp with rfl | rfl | rfl | rfl | rfl
  · exact h5
  · exact h1
  · exact h2
  · exact h3
  · exact h4
def nums (ws : List Int) (i : Nat) : List Int := (List.range i).map fun i => wv 0 (pick ws (grp ((i + 1 : Nat) : Int) 4))
theorem octs_pre (ws : List Int) (i : Nat) : ∀ n, i ≤ n → ∃ r, octs ws n = octs ws i ++ r
  | 0, h => ⟨[], by rw [Nat.le_zero.mp h, List.append_nil]⟩
  | n + 1, h => by
    rcases Nat.lt_or_ge i (n + 1) with h1 | h1
    · obtain ⟨r, e⟩ := octs_pre ws i n (Nat.le_of_lt_succ h1)
      exact ⟨r ++ oct (pick ws (grp ((n + 1 : Nat) : Int) 4)), by rw [octs, e, List.append_assoc]⟩
    · exact ⟨[], by rw [show i = n + 1 by omega, List.append_nil]⟩
theorem octs_drop (ws : List Int) {i : Nat} (h : i < 15) : ∃ rest, (octs ws 15).drop (octs ws i).length = oct (pick ws (grp ((i + 1 : Nat) : Int) 4)) ++ rest := by
  obtain ⟨r, e⟩ := octs_pre ws (i + 1) 15 h
  refine ⟨r, ?_⟩
  rw [e, octs, List.append_assoc, List.drop_left]
theorem pick_ne (ws : List Int) {i : Nat} (h : i < 15) : pick ws (grp ((i + 1 : Nat) : Int) 4) ≠ [] := by
  rw [pick, Ne, List.map_eq_nil_iff]
  revert i
  decide +kernel
theorem pick_in {ws : List Int} (h4 : ws.length = 4) (hb : ∀ x ∈ ws, 1 ≤ x ∧ x < 16) (M : Int) : ∀ x ∈ pick ws (grp M 4), 1 ≤ x ∧ x < 16 := by
  intro x hx
  obtain ⟨k, hk, rfl⟩ := List.mem_map.mp hx
  have := grp_mem hk
  have hl : k.toNat < ws.length := by omega
  rw [List.getD_eq_getElem?_getD, List.getElem?_eq_getElem hl]
  exact hb _ (List.getElem_mem hl)
theorem wv_small {g : List Int} (hl : g.length ≤ 4) (hx : ∀ x ∈ g, 1 ≤ x ∧ x < 16) : wv 0 g < 1000000000 := by
  match g, hl, hx with
  | [], _, _ => decide
  | [a], _, hx => have h1 := hx a (by simp); simp only [wv, List.foldl_cons, List.foldl_nil]; omega
  | [a, b], _, hx => have h1 := hx a (by simp); have h2 := hx b (by simp); simp only [wv, List.foldl_cons, List.foldl_nil]; omega
  | [a, b, c], _, hx => have h1 := hx a (by simp); have h2 := hx b (by simp); have h3 := hx c (by simp); simp only [wv, List.foldl_cons, List.foldl_nil]; omega
  | [a, b, c, d], _, hx => have h1 := hx a (by simp); have h2 := hx b (by simp); have h3 := hx c (by simp); have h4 := hx d (by simp); simp only [wv, List.foldl_cons, List.foldl_nil]; omega
  | _ :: _ :: _ :: _ :: _ :: _, hl, _ => simp at hl
theorem news_upd {h₀ h h' : Heap} {L it : Addr} {io io' : Obj} {news : List (Addr × Obj)} {g : Obj → List (Addr × Obj)} (U : UpdF it io news g) (N : News h₀ L h news) (x : ExtB [it] h h') (e : h'.get? it = some io') : News h₀ L h' (g io') := by
  obtain ⟨pre, post, hl, hg, a, b⟩ := U.split
  rw [hg]
  intro p hp
  rcases List.mem_append.mp hp with hp | hp
  · have z := N p (hl ▸ List.mem_append_left _ hp)
    exact ⟨x _ _ (fun q => a p hp (List.mem_singleton.mp q)) z.1, z.2⟩
  · rcases List.mem_cons.mp hp with rfl | hp
    · exact ⟨e, (N (it, io) (hl ▸ List.mem_append_right _ (.head _))).2⟩
    · have z := N p (hl ▸ List.mem_append_right _ (.tail _ hp))
      exact ⟨x _ _ (fun q => b p hp (List.mem_singleton.mp q)) z.1, z.2⟩
theorem weighed (w : World) (wt : Addr) (vs : List Value) (ws : List Int) (hws : IntsAre vs ws) (hw4 : ws.length = 4) (hwb : ∀ x ∈ ws, 1 ≤ x ∧ x < 16) (n1 : Nat) :
    Con w 6 60 98 (fun _ => True) [(wt, listOf vs.toArray n1)] [] [.ref wt] (fun r tl => ∃ l us k, r = .ref l ∧ tl = [(l, listOf us.toArray k)] ∧ IntsAre us ([0] ++ nums ws 15)) := by
  unfold Con
  w_top off
  k_fill
  intro p loose mean mg mb dp un gd cn cs a ccd cl outer A₀ base h₀ L m s Q E B F X N T hk hd hu _ hret
  refine wpAny_call ?_
  k_dflt ktr_unf
  k_steps
  refine Stop.mk ?_
  rename Fr _ _ _ _ => lF'
  refine For_J (env := envOfC _ _ _ _ _) lF' ?_ (by intro _; rfl) (by intro _ _; rfl) (by passes_own)
  k_steps
  rename_i g9 L9 h9 tk9 FG9 B9 X9 T9 G9 l1 ot om ow d1 d2 d3 l9 h10 l2 h11 N9 tk10 h12 tk12 t1 u1 v1 rg F12 N12 ex
  replace d1 : ot.data = .cell none := d1
  replace d2 : om.data = .cell none := d2
  replace d3 : ow.data = .cell (some (.ref wt)) := d3
  refine Stop.mk ⟨_, 1, 16, _, _, _, 15, _, _, fun i m₁ news₁ => WgJ l9 (L9 + 1 + 1) (L9 + 1 + 1 + 1) (L9 + 1) wt ow ot vs n1 (octs ws i) m₁ news₁, rfl, rg, rfl, rfl, rfl, F12, N12,
    ⟨_, _, _, _, rfl, .nil, d2, rfl⟩, ?_, ?_⟩
  · clear rg F12 N12 ex N9 tk10 hret
    intro i t' m₁ news₁ I h tk hi' hJ hI F' N'
    obtain ⟨us, k, oc, c, rfl, hus, hc, e1⟩ := hJ
    generalize hM : (1 + (i : Int)) = M
    have hM0 : 0 ≤ M := by omega
    have hM1 : M < 16 := by omega
    simp only [List.forall_mem_cons, List.not_mem_nil, false_implies, implies_true, and_true] at hI
    have hI1 := neN hI.1
    have hI2 := neN hI.2.1
    have hI3 := neN hI.2.2.1
    have hI4 := neN hI.2.2.2.1
    have hI5 := neN hI.2.2.2.2
    clear hI
    replace F' := frAdd (a := Str.ofString "octets") F' e1
    clear e1
    k_steps
    rename_i h3 oc3 F3 N3 d4 h4 tk4 t4 u4 v4 rg4 F4 N4 ex4
    refine Stop.mk (LCt.CompSrcT.range rfl F4 N4 rg4 rfl rfl (by decide) ?_)
    intro gg
    clear F3 N3 F' N' ex4 rg4
    refine compTJ (fun j ys nw => nw = _ ∧ IntsAre ys (pick ws (grp M j))) ⟨rfl, .nil⟩ ?_ ?_
    · intro j ys nw v I5 oI C5 oC D5 m₂ h5 tk5 E' hj hJ hP hC hx F5 N5 off ne
      obtain ⟨rfl, hys⟩ := hJ
      obtain ⟨t5, rfl⟩ := hP
      have hj4 : j < 4 := hj
      clear F4 N4 hj
      k_steps
      all_goals refine Stop.mk (LCg.CompEnd.intro F5 N5 _ (fun p hp => hp) off trivial ⟨rfl, ?_⟩)
      all_goals rw [show (0 + (j : Int)).toNat = j by omega] at *
      · rename ¬ _ = (0 : Int) => hb
        rw [grp_t (by simpa [ayb] using hb), pick, List.map_append]
        exact ints_snoc hys
      · rename _ = (0 : Int) => hb
        rw [grp_f (by simpa [ayb] using hb)]
        exact hys
    · intro ys nw hJ
      obtain ⟨rfl, hys⟩ := hJ
      clear F4 N4
      intro D5 h5 tk5 F5 N5 off5
      replace hys : IntsAre ys (pick ws (grp M 4)) := hys
      obtain ⟨gr, hgr⟩ : ∃ gr, gr = pick ws (grp M 4) := ⟨_, rfl⟩
      have hgl : gr.length ≤ 4 := by rw [hgr, pick, List.length_map]; exact grp_len M 4
      rw [← hgr] at hys
      have hyl : ys.length = gr.length := hys.length
      k_steps
      rename_i D6 ws6 h6 F6 N6 I6 C6 L6 l6
      obtain ⟨g6, hg6⟩ : ∃ g6, g6 = List.take (gr.length - 1) gr := ⟨_, rfl⟩
      rw [← hg6] at I6 C6 L6
      clear C6
      have hg6l : ws6.length = g6.length := I6.length
      refine Stop.mk (LCg.CompSrc.ledger rfl F6 N6 (.head _) (by rw [List.size_toArray, hg6l, sizeLine_eq]; omega) ?_)
      intro g7
      refine compJ (fun i2 zs nw => nw = _ ∧ IntsAre zs ((g6.take i2).map fun x => 64 + x)) ⟨rfl, .nil⟩ ?_ ?_
      · intro j zs nw v I7 oI C7 oC D7 m₂ h7 tk7 E' hj hJ hP hC hx F7 N7 off ne
        obtain ⟨rfl, hzs⟩ := hJ
        obtain ⟨t6, rfl, hlt⟩ := ints_at I6 (by simpa using hP)
        clear F6 N6
        obtain ⟨e, he⟩ : ∃ e, e = g6.getD j 0 := ⟨_, rfl⟩
        have hee : g6[j]? = some e := by rw [he, List.getD_eq_getElem?_getD, List.getElem?_eq_getElem hlt]; rfl
        rw [← he] at hx
        k_steps
        refine Stop.mk (LCg.CompEnd.intro F7 N7 _ (fun p hp => hp) off (.inr ⟨_, .head _, rfl, _, rfl⟩) ⟨rfl, ?_⟩)
        rw [List.take_add_one, hee]
        simp only [Option.toList_some, List.map_append, List.map_cons, List.map_nil]
        exact ints_snoc hzs
      · intro zs nw hJ
        obtain ⟨rfl, hzs⟩ := hJ
        clear F6 N6
        intro D7 h7 tk7 F7 N7 off7
        have e1 : ws6.toArray.size = g6.length := by rw [List.size_toArray, hg6l]
        rw [e1, List.take_length] at hzs
        have hog : oct gr = g6.map (fun x => 64 + x) ++ List.drop (gr.length - 1) gr := by rw [hg6]; exact oct_slice gr
        have hg6a : g6.length ≤ 4 := by omega
        skip
        k_steps
        rename_i D8 ws8 h8 I8 C8 L8 l8 D9 ws9 h9' F9 N9 I9 l9'
        rw [← hog] at I9
        refine Stop.mk (iadd_list F9 N9 (.tail ?_ (.tail ?_ (.tail ?_ (.tail ?_ (.tail ?_ (.tail ?_ (.head ?_))))))) (.head _) ?_ ?_)
        · exact Nat.ne_of_gt l9'.2.2.2.2.2.1
        · exact Nat.ne_of_gt l8.2.2.2.2.1
        · exact Ne.symm off7.2.2.2.1
        · exact Nat.ne_of_gt l6.2.2.1
        · exact Ne.symm off5.2.1
        · exact Ne.symm hI1
        · exact off_four' (Nat.ne_of_lt l2.1) (Nat.ne_of_lt l2.2.1) (Nat.ne_of_lt l2.2.2.1) (Nat.ne_of_lt l2.2.2.2)
        · have q1 := hus.length
          have q2 := octs_len ws i
          have q3 := I9.length
          have q4 := oct_len gr
          omega
        · clear F9 N9
          intro h10 k10 F10 N10
          k_steps
          refine Stop.mk (UnrEnd.intro (by assumption) (by assumption) [(l9, listOf _ k10), (L9 + 1 + 1 + 1, ot), (L9 + 1 + 1, oc3), (L9 + 1, ow), (wt, listOf vs.toArray n1)] (fun p hp => .tail _ (.tail _ (.tail _ (.tail _ (.tail _ hp))))) (off_five hI1 hI2 hI3 hI4 hI5) ⟨_, k10, oc3, _, rfl, ?_, d4, rfl⟩)
          rw [octs, show (((i + 1 : Nat) : Int)) = M by omega, ← hgr]
          exact ints_app hus I9
  · clear rg F12 N12 ex N9 tk10
    intro m₁ news₁ h tk hJ F' N'
    obtain ⟨us, k, oc, c, rfl, hus, hc, e1⟩ := hJ
    replace F' := frAdd (a := Str.ofString "octets") F' e1
    clear e1
    have hul : us.length ≤ 60 := by
      have q1 := hus.length
      have q2 := octs_len ws 15
      omega
    k_steps
    refine Stop.mk (list_iter F' N' (.head _) ?_)
    intro I2 h4 o4 F4 N4 l4 hit4
    clear F' N'
    k_lt l4
    have hI4 := l4
    k_steps
    rename_i h5 ot5 d5 l5 h6 F6 N6 lz h7 tk7 t7 u7 v7 rg7 F7 N7 ex7
    refine Stop.mk (LCg.CompSrc.range rfl F7 N7 rg7 rfl rfl (by decide) ?_)
    intro gg
    clear rg7 ex7 F6 N6 F4 N4
    refine compJ (fun i ys nw => ∃ o, nw = [(l5, _), (I2, o), (l9, listOf us.toArray k), (L9 + 1 + 1 + 1, ot5), (L9 + 1 + 1, oc), (L9 + 1, ow), (wt, listOf vs.toArray n1)] ∧ LIt o l9 (octs ws i).length ∧ IntsAre ys (nums ws i)) ⟨o4, rfl, hit4, .nil⟩ ?_ ?_
    · intro i ys nw v I oI C oC D m₂ h8 tk8 E' hi hJ hP hC hx F8 N8 off ne
      obtain ⟨o, rfl, hit, hys⟩ := hJ
      obtain ⟨t8, rfl⟩ := hP
      clear F7 N7
      have hi15 : i < 15 := hi
      clear hi
      obtain ⟨rest, hrest⟩ := octs_drop ws hi15
      obtain ⟨gq, hgq⟩ : ∃ gq, gq = pick ws (grp ((i + 1 : Nat) : Int) 4) := ⟨_, rfl⟩
      have hne : gq ≠ [] := hgq ▸ pick_ne ws hi15
      have hgx : ∀ x ∈ gq, 1 ≤ x ∧ x < 16 := hgq ▸ pick_in hw4 hwb _
      have hgl : gq.length ≤ 4 := by rw [hgq, pick, List.length_map]; exact grp_len _ 4
      rw [← hgq] at hrest
      k_steps
      refine Stop.mk ?_
      refine Con.at (varint w I2 l9 o (octs ws i).length us (octs ws 15) k gq rest hus hit hrest hne hgx (wv_small hgl hgx)) B9 F8 X9 (fun p hp => N8 p ?_) T9 rfl ?_ ?_ trivial ?_
      · rcases List.mem_cons.mp hp with rfl | hp
        · exact .tail _ (.tail _ (.tail _ (.tail _ (.head _))))
        · rw [List.mem_singleton.mp hp]
          exact .tail _ (.tail _ (.tail _ (.tail _ (.tail _ (.head _)))))
      · omega
      · omega
      intro r tl hh tkk Fk Ex Tl hr
      obtain ⟨t9, io', rfl, rfl, hit'⟩ := hr
      have Nk := news_upd (it := I2) (io := o) (.tail (Ne.symm off.2.1.1) (.tail (Ne.symm off.2.1.2.1) (.tail (Ne.symm off.2.1.2.2) (.tail (Nat.ne_of_gt lz.1) (.head (off_five (Nat.ne_of_lt hI4.1) (Nat.ne_of_lt hI4.2.1) (Nat.ne_of_lt hI4.2.2.1) (Nat.ne_of_lt hI4.2.2.2.1) (Nat.ne_of_lt hI4.2.2.2.2))))))) N8 Ex (Tl (I2, io') (.head _)).1
      refine LCg.CompEnd.intro Fk Nk _ (fun p hp => hp) off trivial ⟨io', rfl, ?_, ?_⟩
      · rw [octs, List.length_append, ← hgq, oct_len]
        exact hit'
      · rw [nums, List.range_succ, List.map_append]
        simp only [List.map_cons, List.map_nil, ← hgq]
        exact ints_snoc hys
    · intro ys nw hJ
      obtain ⟨o, rfl, hit, hys⟩ := hJ
      clear F7 N7
      intro D h8 tk8 F8 N8 off
      k_steps
      rename_i D9 ws9 h9' F9 N9 I9 l9' kF kN T8 X8
      exact hret _ _ _ _ kF (ext_after G9 N F9 N9 (fun p hp => .inr (.tail _ (.tail _ (.tail _ (.tail _ (.tail _ (.tail _ (.tail _ (.tail _ hp)))))))))) (new_one G9 N9 (fun hq => Nat.ne_of_gt l9'.2.2.2.2.2.2.2 (List.mem_singleton.mp hq))) ⟨_, _, _, rfl, rfl, I9⟩
end
section
open PySem PySem.Spec PySem.Calls PyProof.Rows PySem.W
def tri (k : Nat) : List Int := [((k / 16 : Nat) : Int), ((k / 4 % 4 : Nat) : Int), ((k % 4 : Nat) : Int), 6 - ((k / 16 : Nat) : Int) - ((k / 4 % 4 : Nat) : Int) - ((k % 4 : Nat) : Int)]
def okT (k : Nat) : Bool := k / 16 != k / 4 % 4 && k / 4 % 4 != k % 4 && k % 4 != k / 16
def ords (k : Nat) : List (List Int) := ((List.range k).filter okT).map tri
/-- the rule of the game: the quota and the heads needed -/
def Wn (ws : List Int) (q hh : Int) (m : Nat) : Bool := decide (q ≤ tot ws (m : Int) ∧ hh ≤ ((grp (m : Int) 4).length : Int))
def piv (W Ls : Nat → Bool) (os : List Int) (ay : Int) : Nat :=
  if settledAt W Ls os ay 0 then 0 else if settledAt W Ls os ay 1 then 1 else if settledAt W Ls os ay 2 then 2 else 3
def sgm (m j : Nat) (ws : List Int) : Int := if ayb (m : Int) j then ws.getD j 0 else 0
theorem pick_one (ws : List Int) (p : Nat → Bool) (x : Nat) (l : List Nat) : (pick ws (((x :: l).filter p).map fun (k : Nat) => (k : Int))).sum = (if p x then ws.getD x 0 else 0) + (pick ws ((l.filter p).map fun (k : Nat) => (k : Int))).sum := by
  cases h : p x <;> simp [pick, List.filter, h]
theorem tot_eq (ws : List Int) (m : Nat) : tot ws (m : Int) = sgm m 0 ws + sgm m 1 ws + sgm m 2 ws + sgm m 3 ws := by
  have hr : List.range 4 = [0, 1, 2, 3] := by decide
  rw [tot, grp, hr, pick_one, pick_one, pick_one, pick_one]
  show sgm m 0 ws + (sgm m 1 ws + (sgm m 2 ws + (sgm m 3 ws + 0))) = _
  omega
def one1 (m j : Nat) : Int := if ayb (m : Int) j then 1 else 0
theorem len_one (p : Nat → Bool) (x : Nat) (l : List Nat) : (((x :: l).filter p).length : Int) = (if p x then 1 else 0) + ((l.filter p).length : Int) := by
  cases h : p x <;> simp [List.filter, h] <;> omega
theorem len_eq (m : Nat) : ((grp (m : Int) 4).length : Int) = one1 m 0 + one1 m 1 + one1 m 2 + one1 m 3 := by
  have hr : List.range 4 = [0, 1, 2, 3] := by decide
  rw [grp, List.length_map, hr, len_one, len_one, len_one, len_one]
  show one1 m 0 + (one1 m 1 + (one1 m 2 + (one1 m 3 + 0))) = _
  omega
theorem chk_bits : ((List.range 16).all fun m => (List.range 4).all fun k => ayb (m : Int) k || (List.range 4).all fun j => ayb ((m + 2 ^ k : Nat) : Int) j == (ayb (m : Int) j || j == k)) = true := by decide +kernel
theorem bit_add {m k j : Nat} (hm : m < 16) (hk : k < 4) (hj : j < 4) (h : ayb (m : Int) k = false) : ayb ((m + 2 ^ k : Nat) : Int) j = (ayb (m : Int) j || j == k) := by
  have h1 := List.all_eq_true.mp chk_bits m (List.mem_range.mpr hm)
  have h2 := List.all_eq_true.mp h1 k (List.mem_range.mpr hk)
  rw [h, Bool.false_or] at h2
  have h3 := List.all_eq_true.mp h2 j (List.mem_range.mpr hj)
  exact eq_of_beq h3
theorem tot_add {ws : List Int} {m k : Nat} (hm : m < 16) (hk : k < 4) (h : ayb (m : Int) k = false) : tot ws ((m + 2 ^ k : Nat) : Int) = tot ws (m : Int) + ws.getD k 0 := by
  rw [tot_eq, tot_eq]
  simp only [sgm, bit_add hm hk (show 0 < 4 by decide) h, bit_add hm hk (show 1 < 4 by decide) h, bit_add hm hk (show 2 < 4 by decide) h, bit_add hm hk (show 3 < 4 by decide) h]
  match k, hk with
  | 0, _ => simp [h]; omega
  | 1, _ => simp [h]; omega
  | 2, _ => simp [h]; omega
  | 3, _ => simp [h]
theorem len_add {m k : Nat} (hm : m < 16) (hk : k < 4) (h : ayb (m : Int) k = false) : ((grp ((m + 2 ^ k : Nat) : Int) 4).length : Int) = ((grp (m : Int) 4).length : Int) + 1 := by
  rw [len_eq, len_eq]
  simp only [one1, bit_add hm hk (show 0 < 4 by decide) h, bit_add hm hk (show 1 < 4 by decide) h, bit_add hm hk (show 2 < 4 by decide) h, bit_add hm hk (show 3 < 4 by decide) h]
  match k, hk with
  | 0, _ => simp [h]; omega
  | 1, _ => simp [h]; omega
  | 2, _ => simp [h]; omega
  | 3, _ => simp [h]
theorem w_at {ws : List Int} (h4 : ws.length = 4) (hb : ∀ x ∈ ws, 1 ≤ x ∧ x < 16) {k : Nat} (hk : k < 4) : 1 ≤ ws.getD k 0 := by
  have hl : k < ws.length := by omega
  rw [List.getD_eq_getElem?_getD, List.getElem?_eq_getElem hl]
  exact (hb _ (List.getElem_mem hl)).1
theorem wn_mono {ws : List Int} (h4 : ws.length = 4) (hb : ∀ x ∈ ws, 1 ≤ x ∧ x < 16) {q hh : Int} {m k : Nat} (hm : m < 16) (hk : k < 4) (h : ayb (m : Int) k = false) (hw : Wn ws q hh m = true) : Wn ws q hh (m + 2 ^ k) = true := by
  have hw' := of_decide_eq_true hw
  have := w_at h4 hb hk
  refine decide_eq_true ?_
  rw [tot_add hm hk h, len_add hm hk h]
  omega
-- the chain of an order and a roll call
def addAll : Nat → List Nat → List Nat
  | m, [] => [m]
  | m, x :: r => m :: addAll (m + 2 ^ x) r
def turned (os : List Int) (n : Nat) : List Nat :=
  ((List.range 4).filter fun j => n.testBit j).map (fun j => (os.getD j 0).toNat) ++ (((List.range 4).filter fun j => !n.testBit j).map fun j => (os.getD j 0).toNat).reverse
def chain (os : List Int) (n : Nat) (i : Nat) : Nat := (addAll 0 (turned os n)).getD i 0
def ayesTo (n j : Nat) : Nat := ((List.range j).filter fun i => n.testBit i).length
def upAt (n j : Nat) : Nat := ayesTo n (j + 1)
def dnAt (n j : Nat) : Nat := 4 - (j + 1 - ayesTo n (j + 1))
def rk (n j : Nat) : Nat := if n.testBit j then ayesTo n j else dnAt n j
theorem chk_chain : ((ords 64).all fun os => (List.range 16).all fun n => (chain os n 0 == 0 && chain os n 4 == 15) && ((List.range 4).all fun i => decide (chain os n i < 16) && (List.range 4).any fun k => !ayb (chain os n i : Int) k && chain os n (i + 1) == chain os n i + 2 ^ k)) = true := by decide +kernel
theorem chk_at : ((ords 64).all fun os => (List.range 16).all fun n => (List.range 4).all fun j => (yesAt os (n : Int) (j + 1)).toNat == chain os n (upAt n j) && (15 - noAt os (n : Int) (j + 1)).toNat == chain os n (dnAt n j) && decide (upAt n j ≤ 4) && decide (dnAt n j ≤ 4) && decide (rk n j < 4)) = true := by decide +kernel
theorem chk_pre : ((ords 64).all fun os => (List.range 16).all fun n => (List.range 4).all fun k => let r := rk n (os.idxOf (k : Int)); chain os n (r + 1) == chain os n r + 2 ^ k && decide (os.idxOf (k : Int) < 4) && !ayb (chain os n r : Int) k && decide (chain os n r < 16)) = true := by decide +kernel
theorem chk_idx : ((ords 64).all fun os => (List.range 4).all fun j => (List.range 4).all fun k => (os.getD j 0 == (k : Int)) == (j == os.idxOf (k : Int))) = true := by decide +kernel
/-- the first place that settles it, by the chain's turning point -/
def pivT (n t : Nat) : Nat :=
  let st := fun j => decide (t < upAt n j) || !decide (t < dnAt n j)
  if st 0 then 0 else if st 1 then 1 else if st 2 then 2 else 3
theorem chk_rk : ((List.range 16).all fun n => (List.range 4).all fun t => (List.range 4).all fun j => (pivT n t == j) == (rk n j == t) && decide (pivT n t < 4)) = true := by decide +kernel
def coefN (l : Nat) : Nat := [6, 2, 2, 6].getD l 0
theorem coefN_is (l : Nat) : (coefN l : Int) = coef l := by
  match l with
  | 0 => rfl
  | 1 => rfl
  | 2 => rfl
  | 3 => rfl
  | _ + 4 => rfl
def Mk (k : Nat) : Nat → List Nat
  | 0 => []
  | i + 1 => Mk k i ++ (if ayb (i : Int) k then [] else List.replicate (coefN (grp (i : Int) 4).length) i)
theorem chk_perm : ((List.range 16).all fun n => (List.range 4).all fun k => ((ords 64).map fun os => chain os n (rk n (os.idxOf (k : Int)))).isPerm (Mk k 16)) = true := by decide +kernel
def gp (ws : List Int) (q hh : Int) (k m : Nat) : Bool := !Wn ws q hh m && Wn ws q hh (m + 2 ^ k)
theorem gp_iff {ws : List Int} {q hh : Int} {m k : Nat} (hm : m < 16) (hk : k < 4) (h : ayb (m : Int) k = false) : gp ws q hh k m = true ↔ (tot ws (m : Int) < q ∨ ((grp (m : Int) 4).length : Int) < hh) ∧ ayb (m : Int) k = false ∧ q ≤ tot ws (m : Int) + ws.getD k 0 ∧ hh ≤ ((grp (m : Int) 4).length : Int) + 1 := by
  simp only [gp, Wn, Bool.and_eq_true, Bool.not_eq_true', decide_eq_true_eq, decide_eq_false_iff_not, tot_add hm hk h, len_add hm hk h, h, true_and]
  omega
theorem idx_is {ws : List Int} {q hh : Int} {k : Nat} (hk : k < 4) : ∀ i, i ≤ 16 → idxK ws q hh k i = ((Mk k i).countP (gp ws q hh k) : Int)
  | 0, _ => rfl
  | i + 1, hi => by
    have ih := idx_is (ws := ws) (q := q) (hh := hh) hk i (by omega)
    simp only [idxK, Mk, List.countP_append, ih]
    cases h : ayb (i : Int) k with
    | true =>
      have : cntr ws q hh (i : Int) k = 0 := if_neg fun z => by rw [h] at z; exact absurd z.2.1 (by decide)
      simp [this]
    | false =>
      have z := gp_iff (ws := ws) (q := q) (hh := hh) (m := i) (by omega) hk h
      simp only [Bool.false_eq_true, if_false, List.countP_replicate]
      unfold cntr
      by_cases hg : gp ws q hh k i = true
      · rw [if_pos (z.mp hg), if_pos hg, ← coefN_is]; omega
      · rw [if_neg (fun q => hg (z.mpr q)), if_neg hg]; omega
theorem turn_at {W : Nat → Bool} {c : Nat → Nat} (h0 : W (c 0) = false) (h4 : W (c 4) = true) (hm : ∀ i, i < 4 → W (c i) = true → W (c (i + 1)) = true) : ∃ t, t < 4 ∧ ∀ i, i ≤ 4 → W (c i) = decide (t < i) := by
  have m1 := hm 1 (by decide)
  have m2 := hm 2 (by decide)
  have m3 := hm 3 (by decide)
  cases e1 : W (c 1) with
  | true =>
    have e2 := m1 e1
    have e3 := m2 e2
    refine ⟨0, by decide, fun i hi => ?_⟩
    match i, hi with
    | 0, _ => rw [h0]; rfl
    | 1, _ => rw [e1]; rfl
    | 2, _ => rw [e2]; rfl
    | 3, _ => rw [e3]; rfl
    | 4, _ => rw [h4]; rfl
  | false =>
    cases e2 : W (c 2) with
    | true =>
      have e3 := m2 e2
      refine ⟨1, by decide, fun i hi => ?_⟩
      match i, hi with
      | 0, _ => rw [h0]; rfl
      | 1, _ => rw [e1]; rfl
      | 2, _ => rw [e2]; rfl
      | 3, _ => rw [e3]; rfl
      | 4, _ => rw [h4]; rfl
    | false =>
      cases e3 : W (c 3) with
      | true =>
        refine ⟨2, by decide, fun i hi => ?_⟩
        match i, hi with
        | 0, _ => rw [h0]; rfl
        | 1, _ => rw [e1]; rfl
        | 2, _ => rw [e2]; rfl
        | 3, _ => rw [e3]; rfl
        | 4, _ => rw [h4]; rfl
      | false =>
        refine ⟨3, by decide, fun i hi => ?_⟩
        match i, hi with
        | 0, _ => rw [h0]; rfl
        | 1, _ => rw [e1]; rfl
        | 2, _ => rw [e2]; rfl
        | 3, _ => rw [e3]; rfl
        | 4, _ => rw [h4]; rfl
theorem piv_is {ws : List Int} (h4 : ws.length = 4) (hb : ∀ x ∈ ws, 1 ≤ x ∧ x < 16) {q hh : Int} (hw0 : Wn ws q hh 0 = false) (hw15 : Wn ws q hh 15 = true) {os : List Int} (hos : os ∈ ords 64) {n k : Nat} (hn : n < 16) (hk : k < 4) :
    (os.getD (piv (Wn ws q hh) (fun m => !Wn ws q hh m) os (n : Int)) 0 == (k : Int)) = gp ws q hh k (chain os n (rk n (os.idxOf (k : Int)))) := by
  have a1 := List.all_eq_true.mp (List.all_eq_true.mp chk_chain os hos) n (List.mem_range.mpr hn)
  have a2 := List.all_eq_true.mp (List.all_eq_true.mp chk_at os hos) n (List.mem_range.mpr hn)
  have a3 := List.all_eq_true.mp (List.all_eq_true.mp (List.all_eq_true.mp chk_pre os hos) n (List.mem_range.mpr hn)) k (List.mem_range.mpr hk)
  have a4 := List.all_eq_true.mp chk_idx os hos
  have a5 := List.all_eq_true.mp chk_rk n (List.mem_range.mpr hn)
  simp only [Bool.and_eq_true, beq_iff_eq, decide_eq_true_eq, Bool.not_eq_true'] at a1 a2 a3
  obtain ⟨⟨c0, c4⟩, a1⟩ := a1
  obtain ⟨⟨⟨p1, p2⟩, p3⟩, p4⟩ := a3
  obtain ⟨t, ht, hT⟩ := turn_at (W := Wn ws q hh) (c := chain os n) (by rw [c0]; exact hw0) (by rw [c4]; exact hw15) (fun i hi hw => by
    have z := List.all_eq_true.mp a1 i (List.mem_range.mpr hi)
    simp only [Bool.and_eq_true, decide_eq_true_eq] at z
    obtain ⟨z1, z2⟩ := z
    obtain ⟨k', hk', z3⟩ := List.any_eq_true.mp z2
    simp only [Bool.and_eq_true, beq_iff_eq, Bool.not_eq_true'] at z3
    rw [z3.2]
    exact wn_mono h4 hb z1 (List.mem_range.mp hk') z3.1 hw)
  have st : ∀ j, j < 4 → settledAt (Wn ws q hh) (fun m => !Wn ws q hh m) os (n : Int) j = (decide (t < upAt n j) || !decide (t < dnAt n j)) := fun j hj => by
    have z := List.all_eq_true.mp a2 j (List.mem_range.mpr hj)
    simp only [Bool.and_eq_true, beq_iff_eq, decide_eq_true_eq] at z
    obtain ⟨⟨⟨⟨z1, z2⟩, z3⟩, z4⟩, z5⟩ := z
    unfold settledAt
    rw [z1, z2, hT _ z3]
    show (_ || !Wn ws q hh (chain os n (dnAt n j))) = _
    rw [hT _ z4]
  have hp : piv (Wn ws q hh) (fun m => !Wn ws q hh m) os (n : Int) = pivT n t := by
    unfold piv pivT
    rw [st 0 (by decide), st 1 (by decide), st 2 (by decide)]
  have b5 := List.all_eq_true.mp (List.all_eq_true.mp a5 t (List.mem_range.mpr ht)) _ (List.mem_range.mpr p2)
  simp only [Bool.and_eq_true, beq_iff_eq, decide_eq_true_eq] at b5
  have b4 := List.all_eq_true.mp (List.all_eq_true.mp a4 _ (List.mem_range.mpr b5.2)) k (List.mem_range.mpr hk)
  have b2 := List.all_eq_true.mp a2 _ (List.mem_range.mpr p2)
  simp only [Bool.and_eq_true, beq_iff_eq, decide_eq_true_eq] at b2
  have b6 := b2.2
  rw [hp, eq_of_beq b4, b5.1]
  unfold gp
  rw [← p1, hT _ (by omega), hT _ (by omega)]
  generalize rk n (os.idxOf (k : Int)) = r
  by_cases h : r = t
  · subst h; simp
  · have : (r == t) = false := by simp [h]
    rw [this]
    by_cases h2 : t < r
    · simp [h2]
    · have : ¬ t < r + 1 := by omega
      simp [this]
theorem w_bot {ws : List Int} {q hh : Int} (hq : 1 ≤ q) : Wn ws q hh 0 = false := by
  refine decide_eq_false ?_
  have : tot ws ((0 : Nat) : Int) = 0 := by
    rw [tot_eq]
    rfl
  omega
theorem w_top {ws : List Int} {q hh : Int} (h4 : ws.length = 4) (hq : q ≤ ws.sum) (hh3 : hh ≤ 4) : Wn ws q hh 15 = true := by
  refine decide_eq_true ?_
  have h1 : tot ws ((15 : Nat) : Int) = ws.sum := by
    match ws, h4 with
    | [a, b, c, d], _ =>
      rw [tot_eq]
      have e0 : ayb ((15 : Nat) : Int) 0 = true := by decide +kernel
      have e1 : ayb ((15 : Nat) : Int) 1 = true := by decide +kernel
      have e2 : ayb ((15 : Nat) : Int) 2 = true := by decide +kernel
      have e3 : ayb ((15 : Nat) : Int) 3 = true := by decide +kernel
      unfold sgm
      rw [if_pos e0, if_pos e1, if_pos e2, if_pos e3]
      show a + b + c + d = a + (b + (c + (d + 0)))
      omega
  have h2 : (grp ((15 : Nat) : Int) 4).length = 4 := by decide +kernel
  rw [h1, h2]
  omega
/-- THE LAW: each voter settles as many of the 24 orders as the index says -/
theorem plain {ws : List Int} (h4 : ws.length = 4) (hb : ∀ x ∈ ws, 1 ≤ x ∧ x < 16) {q hh : Int} (hq1 : 1 ≤ q) (hq2 : q ≤ ws.sum) (hh3 : hh ≤ 4) {n k : Nat} (hn : n < 16) (hk : k < 4) :
    ((((ords 64).map fun os => os.getD (piv (Wn ws q hh) (fun m => !Wn ws q hh m) os (n : Int)) 0).count (k : Int) : Nat) : Int) = idxK ws q hh k 16 := by
  rw [idx_is hk 16 (Nat.le_refl _), List.count, List.countP_map]
  have hp : ((ords 64).map fun os => chain os n (rk n (os.idxOf (k : Int)))).Perm (Mk k 16) := List.isPerm_iff.mp (List.all_eq_true.mp (List.all_eq_true.mp chk_perm n (List.mem_range.mpr hn)) k (List.mem_range.mpr hk))
  rw [← hp.countP_eq, List.countP_map]
  congr 1
  refine List.countP_congr fun os hos => ?_
  have := piv_is h4 hb (w_bot (ws := ws) (hh := hh) hq1) (w_top h4 hq2 hh3) hos hn hk
  simp only [Function.comp_apply, this]
end
local macro_rules | `(tactic| walk_at "NSt") => `(tactic| refine Stop.out ?_)
local macro_rules | `(tactic| walk_at "NEnd") => `(tactic| refine Stop.out ?_)
local macro_rules | `(tactic| walk_at "NSrc0") => `(tactic| refine Stop.out ?_)
local macro_rules | `(tactic| walk_at "NSrc") => `(tactic| refine Stop.out ?_)
section
open PySem PySem.Spec PySem.Calls PyProof.Rows PySem.W
local macro_rules | `(tactic| walk_at "eval ListComp") => `(tactic| refine Stop.out ?_)
theorem ords_t {k : Nat} (h : okT k = true) : ords (k + 1) = ords k ++ [tri k] := by simp [ords, List.range_succ, List.filter_append, h]
theorem ords_f {k : Nat} (h : okT k = false) : ords (k + 1) = ords k := by simp [ords, List.range_succ, List.filter_append, h]
theorem ords_len (k : Nat) : (ords k).length ≤ k := by
  have := List.length_filter_le okT (List.range k)
  simpa [ords] using this
abbrev LObj := Addr × List Value × Nat
def refs (os : List LObj) : List Value := os.map fun o => .ref o.1
def objs (os : List LObj) : List (Addr × Obj) := os.map fun o => (o.1, listOf o.2.1.toArray o.2.2)
inductive Holds : List LObj → List (List Int) → Prop
  | nil : Holds [] []
  | cons {o : LObj} {ns : List Int} {os : List LObj} {nss : List (List Int)} : IntsAre o.2.1 ns → Holds os nss → Holds (o :: os) (ns :: nss)
theorem Holds.length : ∀ {os : List LObj} {nss : List (List Int)}, Holds os nss → os.length = nss.length
  | _, _, .nil => rfl
  | _, _, .cons _ r => by simp [Holds.length r]
theorem Holds.snoc {o : LObj} {ns : List Int} (h : IntsAre o.2.1 ns) : ∀ {os : List LObj} {nss : List (List Int)}, Holds os nss → Holds (os ++ [o]) (nss ++ [ns])
  | _, _, .nil => .cons h .nil
  | _, _, .cons a r => .cons a (r.snoc h)
def OJ0 (i : Nat) (_mC : Str → Option Value) (ys : List Value) (news : List (Addr × Obj)) : Prop := ∃ os, ys = refs os ∧ news = objs os ∧ Holds os (ords (16 * i))
def OJ1 (I0 : Addr) (o0 : Obj) (i : Nat) (j : Nat) (mC : Str → Option Value) (ys : List Value) (news : List (Addr × Obj)) : Prop := ∃ os ta, ys = refs os ∧ news = (I0, o0) :: objs os ∧ mC (Str.ofString "a") = some (.int (0 + (i : Int)) ta) ∧ (∀ p ∈ objs os, @Ne Nat p.1 I0) ∧ Holds os (ords (16 * i + 4 * j))
def OJ2 (I0 I1 : Addr) (o0 o1 : Obj) (i j : Nat) (k : Nat) (mC : Str → Option Value) (ys : List Value) (news : List (Addr × Obj)) : Prop := ∃ os ta tb, ys = refs os ∧ news = (I1, o1) :: (I0, o0) :: objs os ∧ mC (Str.ofString "a") = some (.int (0 + (i : Int)) ta) ∧ mC (Str.ofString "b") = some (.int (0 + (j : Int)) tb) ∧ (∀ p ∈ objs os, @Ne Nat p.1 I0) ∧ (∀ p ∈ objs os, @Ne Nat p.1 I1) ∧ Holds os (ords (16 * i + 4 * j + k))
theorem rot3 {α : Type} {p a b c : α} {r : List α} (h : p ∈ b :: c :: a :: r) : p ∈ a :: b :: c :: r := by
  rcases List.mem_cons.mp h with rfl | h
  · exact .tail _ (.head _)
  rcases List.mem_cons.mp h with rfl | h
  · exact .tail _ (.tail _ (.head _))
  rcases List.mem_cons.mp h with rfl | h
  · exact .head _
  exact .tail _ (.tail _ (.tail _ h))
theorem rot3' {α : Type} {p a b c : α} {r : List α} (h : p ∈ a :: b :: c :: r) : p ∈ b :: c :: a :: r := by
  rcases List.mem_cons.mp h with rfl | h
  · exact .tail _ (.tail _ (.head _))
  rcases List.mem_cons.mp h with rfl | h
  · exact .head _
  rcases List.mem_cons.mp h with rfl | h
  · exact .tail _ (.head _)
  exact .tail _ (.tail _ (.tail _ h))
theorem ok_is {i j k : Nat} (hj : j < 4) (hk : k < 4) : okT (16 * i + 4 * j + k) = (i != j && j != k && k != i) := by
  simp only [okT, show (16 * i + 4 * j + k) / 16 = i by omega, show (16 * i + 4 * j + k) / 4 % 4 = j by omega, show (16 * i + 4 * j + k) % 4 = k by omega]
theorem tri_is {i j k : Nat} (hj : j < 4) (hk : k < 4) (ta tb tc td : Tok) : IntsAre [.int (0 + (i : Int)) ta, .int (0 + (j : Int)) tb, .int (0 + (k : Int)) tc, .int (6 - (0 + (i : Int)) - (0 + (j : Int)) - (0 + (k : Int))) td] (tri (16 * i + 4 * j + k)) := by
  simp only [tri, show (16 * i + 4 * j + k) / 16 = i by omega, show (16 * i + 4 * j + k) / 4 % 4 = j by omega, show (16 * i + 4 * j + k) % 4 = k by omega, Int.zero_add]
  exact .cons _ _ (.cons _ _ (.cons _ _ (.cons _ _ .nil)))
theorem objs_snoc (os : List LObj) (o : LObj) : objs (os ++ [o]) = objs os ++ [(o.1, listOf o.2.1.toArray o.2.2)] := by simp [objs]
theorem refs_snoc (os : List LObj) (o : LObj) : refs os ++ [.ref o.1] = refs (os ++ [o]) := by simp [refs]
theorem mem_objs_snoc {os : List LObj} {o : LObj} {p : Addr × Obj} (h : p ∈ objs (os ++ [o])) : p ∈ objs os ∨ p = (o.1, listOf o.2.1.toArray o.2.2) := by
  rw [objs_snoc] at h
  rcases List.mem_append.mp h with h | h
  · exact .inl h
  · exact .inr (List.mem_singleton.mp h)
theorem orders (w : World) : Con w 6 60 103 (fun _ => True) [] [] [] (fun r tl => ∃ l os k, r = .ref l ∧ tl = (l, listOf (refs os).toArray k) :: objs os ∧ Holds os (ords 64)) := by
  unfold Con
  w_top off
  k_fill
  intro p loose mean mg mb dp un gd cn cs a ccd cl outer A₀ base h₀ L m s Q E B F X N T hk hd hu _ hret
  refine wpAny_call ?_
  k_dflt ktr_enter
  k_steps
  rename_i g9 L9 h9 FG9 F9 N9 B9 X9 T9 G9
  refine Stop.mk (nest_list F9 (by with_unfolding_all rfl) (by decide) (by rfl) (by decide) ?_)
  k_steps
  rename_i h10 tk10 t0 u0 v0 rg0 F10 N10 ex0
  refine Stop.mk ⟨_, 0, 4, _, _, _, 4, _, OJ0, rfl, F10, N10, rg0, rfl, rfl, fun mC => ⟨[], rfl, rfl, .nil⟩, ?_, ?_⟩
  · intro I0 C D R0 s₃ nIC nID nCD st done
    refine level (by rfl) (by rfl) rfl nIC nID nCD (fun Rn Ra E s => turn_mid rfl rfl (by intro _; rfl) (by intro _; rfl)) _ ?_ done st
    clear st done hret F10 N10 rg0 ex0 qk ek
    intro i mC oC ys news h tk ta E' hi hJ hC F8 N8 off
    obtain ⟨os, rfl, rfl, hos⟩ := hJ
    generalize hm : (fun y => if y = Str.ofString "a" then some (Value.int (0 + (i : Int)) ta) else mC y) = m2 at hC
    have ha : m2 (Str.ofString "a") = some (.int (0 + (i : Int)) ta) := by rw [← hm]; exact if_pos rfl
    clear hm
    refine wpAny_tests_nil ?_
    rw [if_pos rfl]
    refine body_mid rfl ?_
    k_steps
    rename_i h11 tk11 t1 u1 v1 rg1 F11 N11 ex1
    refine Stop.mk ⟨_, 0, 4, _, _, _, 4, h11, tk11, m2, oC, refs os, (I0, itR _ _) :: objs os, OJ1 I0 _ i, rfl, rfl, rg1, rfl, rfl, F11, hC, (fun p hp => N11 p (rot3 hp)), ?_, ⟨os, ta, rfl, rfl, ha, fun p hp => (off.mem p hp).1, hos⟩, ?_, ?_⟩
    · intro p hp
      rcases List.mem_cons.mp hp with rfl | hp
      · exact ⟨nIC, nID⟩
      · exact (off.mem p hp).2
    · clear F11 N11 rg1 ex1 hos ha hC off
      rename Fr _ _ h _ => q1
      rename News _ _ h _ => q2
      clear q1 q2
      intro I1 R1 s₄ n1C n1D st1 done1
      refine level (by rfl) (by rfl) rfl n1C n1D nCD (fun Rn Ra E s => turn_mid rfl rfl (by intro _; rfl) (by intro _; rfl)) _ ?_ done1 st1
      clear st1 done1
      clear ta oC m2 os
      intro j mC oC ys news h tk tb E' hj hJ hC F8 N8 off
      obtain ⟨os, ta, rfl, rfl, ha, offo, hos⟩ := hJ
      generalize hm : (fun y => if y = Str.ofString "b" then some (Value.int (0 + (j : Int)) tb) else mC y) = m2 at hC
      replace ha : m2 (Str.ofString "a") = some (.int (0 + (i : Int)) ta) := by rw [← hm]; exact (if_neg (by decide)).trans ha
      have hb : m2 (Str.ofString "b") = some (.int (0 + (j : Int)) tb) := by rw [← hm]; exact if_pos rfl
      clear hm
      refine wpAny_tests_nil ?_
      rw [if_pos rfl]
      refine body_mid rfl ?_
      k_steps
      rename_i h12 tk12 t2 u2 v2 rg2 F12 N12 ex2
      refine Stop.mk ⟨_, 0, 4, _, _, _, 4, h12, tk12, m2, oC, refs os, (I1, itR _ _) :: (I0, itR _ _) :: objs os, OJ2 I0 I1 _ _ i j, rfl, rfl, rg2, rfl, rfl, F12, hC, (fun p hp => N12 p (rot3 hp)), ?_, ⟨os, ta, tb, rfl, rfl, ha, hb, offo, fun p hp => (off.mem p (.tail _ hp)).1, hos⟩, ?_, ?_⟩
      · intro p hp
        rcases List.mem_cons.mp hp with rfl | hp
        · exact ⟨n1C, n1D⟩
        · exact (off.mem p hp).2
      · clear F12 N12 rg2 ex2 hos ha hb hC offo
        rename Fr _ _ h _ => q1
        rename News _ _ h _ => q2
        clear q1 q2
        have n10 : @Ne Nat I0 I1 := off.1.1
        clear off
        intro I2 R2 s₅ n2C n2D st2 done2
        refine level (by rfl) (by rfl) rfl n2C n2D nCD (fun Rn Ra E s => turn_last rfl rfl (by intro _; rfl)) _ ?_ done2 st2
        clear st2 done2
        clear ta tb oC m2 os
        intro k mC oC ys news h tk tc E' hk' hJ hC F8 N8 off
        obtain ⟨os, ta, tb, rfl, rfl, ha, hb, offo, off1, hos⟩ := hJ
        generalize hm : (fun y => if y = Str.ofString "c" then some (Value.int (0 + (k : Int)) tc) else mC y) = m2 at hC
        replace ha : m2 (Str.ofString "a") = some (.int (0 + (i : Int)) ta) := by rw [← hm]; exact (if_neg (by decide)).trans ha
        replace hb : m2 (Str.ofString "b") = some (.int (0 + (j : Int)) tb) := by rw [← hm]; exact (if_neg (by decide)).trans hb
        have hc : m2 (Str.ofString "c") = some (.int (0 + (k : Int)) tc) := by rw [← hm]; exact if_pos rfl
        clear hm
        refine wpAny_tests_one ?_
        refine wpAny_mono (Q := fun ok s₃ => if ok = true then wpAny _ _ (eval _ (compEnvC _ _ _ _)) (NEnd g9 L9 _ _ C D I2 0 4 (OJ2 I0 I1 _ _ i j) (k + 1) (refs os)) E' s₃ else NSt g9 L9 _ _ C D I2 0 4 (OJ2 I0 I1 _ _ i j) (k + 1) s₃) ?_ (fun ok s₃ hq => by cases ok; exact hq; exact body_last n2D nCD hq) (fun _ _ e => e)
        k_steps
        · rename_i c1 c2 c3 l7 h7 F7 N7 o7
          have ⟨ws, hws, N7'⟩ := (⟨_, tri_is hj hk' _ _ _ _, N7⟩ : ∃ ws : List Value, IntsAre ws (tri (16 * i + 4 * j + k)) ∧ News g9 L9 h7 ((l7, listOf ws.toArray 0) :: _))
          refine Stop.mk (NEnd.intro F7 N7' ((I1, itR _ _) :: (I0, itR _ _) :: objs (os ++ [(l7, ws, 0)])) hC ?_ (LCg.Off3.of fun p hp => ?_) ?_ ⟨os ++ [(l7, ws, 0)], ta, tb, refs_snoc os (l7, ws, 0), rfl, ha, hb, ?_, ?_, ?_⟩)
          · intro p hp
            rcases List.mem_cons.mp hp with rfl | hp
            · exact .tail _ (.head _)
            rcases List.mem_cons.mp hp with rfl | hp
            · exact .tail _ (.tail _ (.head _))
            rcases List.mem_cons.mp hp with rfl | hp
            · exact .tail _ (.tail _ (.tail _ (.head _)))
            rcases List.mem_cons.mp hp with rfl | hp
            · exact .tail _ (.tail _ (.tail _ (.tail _ (.head _))))
            rcases List.mem_cons.mp hp with rfl | hp
            · exact .tail _ (.tail _ (.tail _ (.tail _ (.tail _ (.head _)))))
            rcases mem_objs_snoc hp with hp | rfl
            · exact .tail _ (.tail _ (.tail _ (.tail _ (.tail _ (.tail _ hp)))))
            · exact .head _
          · rcases List.mem_cons.mp hp with rfl | hp
            · exact off.mem _ (.head _)
            rcases List.mem_cons.mp hp with rfl | hp
            · exact off.mem _ (.tail _ (.head _))
            rcases mem_objs_snoc hp with hp | rfl
            · exact off.mem _ (.tail _ (.tail _ hp))
            · exact ⟨Nat.ne_of_gt o7.1, Nat.ne_of_gt o7.2.1, Nat.ne_of_gt o7.2.2.1⟩
          · have q1 := hos.length
            have q2 := ords_len (16 * i + 4 * j + k)
            simp only [refs, List.length_map]
            omega
          · intro p hp
            rcases mem_objs_snoc hp with hp | rfl
            · exact offo p hp
            · exact Nat.ne_of_gt o7.2.2.2.2.1
          · intro p hp
            rcases mem_objs_snoc hp with hp | rfl
            · exact off1 p hp
            · exact Nat.ne_of_gt o7.2.2.2.1
          · rw [show 16 * i + 4 * j + (k + 1) = 16 * i + 4 * j + k + 1 by omega, ords_t]
            · exact hos.snoc hws
            · rw [ok_is hj hk']
              simp only [Bool.and_eq_true, bne_iff_ne]
              omega
        all_goals (
          refine Stop.mk (NSt.intro F8 N8 ((I1, itR _ _) :: (I0, itR _ _) :: objs os) hC (fun p hp => hp) off ⟨os, ta, tb, rfl, rfl, ha, hb, offo, off1, ?_⟩)
          rw [show 16 * i + 4 * j + (k + 1) = 16 * i + 4 * j + k + 1 by omega, ords_f]
          · exact hos
          · rw [ok_is hj hk']
            rw [Bool.eq_false_iff]
            simp only [ne_eq, Bool.and_eq_true, bne_iff_ne]
            omega)
      · intro mC oC ys news h tk hJ hC F N off'
        obtain ⟨os, ta, tb, rfl, rfl, ha, hb, offo, off1, hos⟩ := hJ
        refine NSt.intro F N ((I0, itR _ _) :: objs os) hC (fun p hp => rot3' hp) (LCg.Off3.of fun p hp => ⟨?_, off' p (.tail _ hp)⟩) ⟨os, ta, rfl, rfl, ha, offo, by rw [show 16 * i + 4 * (j + 1) = 16 * i + 4 * j + 4 by omega]; exact hos⟩
        rcases List.mem_cons.mp hp with rfl | hp
        · exact off.1.1
        · exact off1 p hp
    · intro mC oC ys news h tk hJ hC F N off'
      obtain ⟨os, ta, rfl, rfl, ha, offo, hos⟩ := hJ
      refine NSt.intro F N (objs os) hC (fun p hp => rot3' hp) (LCg.Off3.of fun p hp => ⟨offo p hp, off' p (.tail _ hp)⟩) ⟨os, rfl, rfl, by rw [show 16 * (i + 1) = 16 * i + 4 * 4 by omega]; exact hos⟩
  · clear rg0 ex0 N10 F10
    intro D mC ys news h tk hJ F8 N8 off
    obtain ⟨os, rfl, rfl, hos⟩ := hJ
    k_steps
    rename_i kF kN kT kX
    exact hret _ _ _ _ kF (ext_after G9 N F8 N8 (fun _ h9 => nomatch h9)) (new_after (news := []) G9 N8 (fun _ _ h9 => nomatch h9)) ⟨_, os, _, rfl, rfl, hos⟩
end
section
open PySem PySem.Spec PySem.Calls PyProof.Rows PySem.W
/-- what is read of the group m -/
def rd (ws : List Int) (m : Nat) : Int := wv 0 (pick ws (grp (m : Int) 4))
theorem nm_is (ws : List Int) : [0] ++ nums ws 15 = (List.range 16).map (rd ws) := by
  have h0 : rd ws 0 = 0 := by
    have : grp ((0 : Nat) : Int) 4 = [] := by decide +kernel
    unfold rd
    rw [this]; rfl
  rw [show List.range 16 = 0 :: (List.range 15).map (· + 1) by decide, List.map_cons, h0, List.map_map]
  rfl
def el (nm ws : List Int) (k m : Nat) : Int := 64 * nm.getD m 0 + ws.getD k 0
def els (nm ws : List Int) (k j : Nat) : List Int := (List.range k).flatMap (fun i => (List.range (2 ^ i)).map (el nm ws i)) ++ (List.range j).map (el nm ws k)
theorem els_in (nm ws : List Int) (k j : Nat) : els nm ws k (j + 1) = els nm ws k j ++ [el nm ws k j] := by
  simp [els, List.range_succ]
theorem els_out (nm ws : List Int) (k : Nat) : els nm ws k (2 ^ k) = els nm ws (k + 1) 0 := by
  simp [els, List.range_succ]
theorem els_len (nm ws : List Int) (k j : Nat) : (els nm ws k j).length = 2 ^ k - 1 + j := by
  have h : ∀ k, ((List.range k).flatMap (fun i => (List.range (2 ^ i)).map (el nm ws i))).length + 1 = 2 ^ k := by
    intro k
    induction k with
    | zero => rfl
    | succ k ih =>
      rw [List.range_succ, List.flatMap_append, List.length_append]
      simp only [List.flatMap_cons, List.flatMap_nil, List.append_nil, List.length_map, List.length_range]
      have : 2 ^ (k + 1) = 2 ^ k + 2 ^ k := by rw [Nat.pow_succ]; omega
      omega
  have := h k
  simp only [els, List.length_append, List.length_map, List.length_range]
  omega
theorem chk_next : ((List.range 4).all fun k => (List.range (2 ^ k)).all fun m => grp ((2 ^ k + m : Nat) : Int) 4 == grp (m : Int) 4 ++ [(k : Int)]) = true := by decide +kernel
theorem rd_next (ws : List Int) {k m : Nat} (hk : k < 4) (hm : m < 2 ^ k) : rd ws (2 ^ k + m) = 64 * rd ws m + ws.getD k 0 := by
  have := eq_of_beq (List.all_eq_true.mp (List.all_eq_true.mp chk_next k (List.mem_range.mpr hk)) m (List.mem_range.mpr hm))
  unfold rd
  rw [this, pick, List.map_append, wv, List.foldl_append]
  rfl
theorem nm_get (ws : List Int) {m : Nat} (hm : m < 16) : ((List.range 16).map (rd ws)).getD m 0 = rd ws m := by
  rw [List.getD_eq_getElem?_getD, List.getElem?_map, List.getElem?_range hm]; rfl
theorem el_is (ws : List Int) {k m : Nat} (hk : k < 4) (hm : m < 2 ^ k) : el ((List.range 16).map (rd ws)) ws k m = rd ws (2 ^ k + m) := by
  have : (2 : Nat) ^ k ≤ 2 ^ 3 := Nat.pow_le_pow_right (by decide) (by omega)
  rw [el, nm_get ws (by omega), rd_next ws hk hm]
/-- the numbers grow by one voter at a time -/
theorem nm_rec (ws : List Int) : List.drop 1 ((List.range 16).map (rd ws)) = els ((List.range 16).map (rd ws)) ws 4 0 := by
  have h : ∀ k, k < 4 → (List.range (2 ^ k)).map (el ((List.range 16).map (rd ws)) ws k) = (List.range (2 ^ k)).map (fun m => rd ws (2 ^ k + m)) := fun k hk =>
    List.map_congr_left fun m hm => el_is ws hk (List.mem_range.mp hm)
  have hr : List.range 4 = [0, 1, 2, 3] := by decide
  rw [els, hr]
  simp only [List.flatMap_cons, List.flatMap_nil, h 0 (by decide), h 1 (by decide), h 2 (by decide), h 3 (by decide)]
  generalize rd ws = W
  rfl
theorem sum_mod {g : List Int} (hl : g.length ≤ 4) (hx : ∀ x ∈ g, 1 ≤ x ∧ x < 16) : (wv 0 g).fmod 63 = g.sum := by
  rw [Int.fmod_eq_emod_of_nonneg _ (by decide)]
  match g, hl, hx with
  | [], _, _ => rfl
  | [a], _, hx => have h1 := hx a (by simp); simp only [wv, List.foldl_cons, List.foldl_nil, List.sum_cons, List.sum_nil]; omega
  | [a, b], _, hx => have h1 := hx a (by simp); have h2 := hx b (by simp); simp only [wv, List.foldl_cons, List.foldl_nil, List.sum_cons, List.sum_nil]; omega
  | [a, b, c], _, hx => have h1 := hx a (by simp); have h2 := hx b (by simp); have h3 := hx c (by simp); simp only [wv, List.foldl_cons, List.foldl_nil, List.sum_cons, List.sum_nil]; omega
  | [a, b, c, d], _, hx => have h1 := hx a (by simp); have h2 := hx b (by simp); have h3 := hx c (by simp); have h4 := hx d (by simp); simp only [wv, List.foldl_cons, List.foldl_nil, List.sum_cons, List.sum_nil]; omega
  | _ :: _ :: _ :: _ :: _ :: _, hl, _ => simp at hl
theorem pick_len (ws : List Int) (m : Int) : (pick ws (grp m 4)).length ≤ 4 := by rw [pick, List.length_map]; exact grp_len m 4
theorem rd_mod {ws : List Int} (h4 : ws.length = 4) (hb : ∀ x ∈ ws, 1 ≤ x ∧ x < 16) (m : Nat) : (rd ws m).fmod 63 = tot ws (m : Int) := sum_mod (pick_len ws _) (pick_in h4 hb _)
theorem rd_lo {ws : List Int} (h4 : ws.length = 4) (hb : ∀ x ∈ ws, 1 ≤ x ∧ x < 16) (m : Nat) : 0 ≤ rd ws m ∧ rd ws m < 1000000000 := by
  refine ⟨wv_ge (pick ws (grp (m : Int) 4)) (by omega) (pick_in h4 hb _), wv_small (pick_len ws _) (pick_in h4 hb _)⟩
theorem nm_lo {ws : List Int} (h4 : ws.length = 4) (hb : ∀ x ∈ ws, 1 ≤ x ∧ x < 16) : ∀ x ∈ (List.range 16).map (rd ws), 0 ≤ x ∧ x < 1000000000 := by
  intro x hx
  obtain ⟨m, _, rfl⟩ := List.mem_map.mp hx
  exact rd_lo h4 hb m
theorem tot_lo {ws : List Int} (h4 : ws.length = 4) (hb : ∀ x ∈ ws, 1 ≤ x ∧ x < 16) (m : Nat) : 0 ≤ tot ws (m : Int) ∧ tot ws (m : Int) < 63 := by
  rw [← rd_mod h4 hb, Int.fmod_eq_emod_of_nonneg _ (by decide)]
  omega
/-- the ones among the first j bits of m -/
def ones (m : Int) (j : Nat) : List Int := (List.range j).map fun k => Builtin.bitAnd (m.fdiv (2 ^ k)) 1
theorem chk_ones : ((List.range 16).all fun m => (ones (m : Int) 4).sum == ((grp (m : Int) 4).length : Int)) = true := by decide +kernel
theorem ones_sum {m : Nat} (hm : m < 16) : (ones (m : Int) 4).sum = ((grp (m : Int) 4).length : Int) := eq_of_beq (List.all_eq_true.mp chk_ones m (List.mem_range.mpr hm))
theorem ones_snoc (m : Int) (j : Nat) : ones m (j + 1) = ones m j ++ [Builtin.bitAnd (m.fdiv (2 ^ j)) 1] := by simp [ones, List.range_succ]
/-- the sums and the counts, as lists -/
def tots (ws : List Int) (i : Nat) : List Int := (List.range i).map fun (m : Nat) => tot ws (m : Int)
def cnts (i : Nat) : List Int := (List.range i).map fun (m : Nat) => ((grp (m : Int) 4).length : Int)
theorem cnts_snoc (i : Nat) : cnts (i + 1) = cnts i ++ [((grp (i : Int) 4).length : Int)] := by simp [cnts, List.range_succ]
theorem tots_get (ws : List Int) {i m : Nat} (hm : m < i) : (tots ws i).getD m 0 = tot ws (m : Int) := by
  rw [List.getD_eq_getElem?_getD, tots, List.getElem?_map, List.getElem?_range hm]; rfl
theorem cnts_get {i m : Nat} (hm : m < i) : (cnts i).getD m 0 = ((grp (m : Int) 4).length : Int) := by
  rw [List.getD_eq_getElem?_getD, cnts, List.getElem?_map, List.getElem?_range hm]; rfl
theorem mods_is {ws : List Int} (h4 : ws.length = 4) (hb : ∀ x ∈ ws, 1 ≤ x ∧ x < 16) : ((List.range 16).map (rd ws)).map (fun x => x.fmod 63) = tots ws 16 := by
  rw [List.map_map, tots]
  exact List.map_congr_left fun m _ => rd_mod h4 hb m
theorem wins_is {ws : List Int} {q hh : Int} (m : Nat) : (decide (256 ≤ 256 + tot ws (m : Int) - q) && decide (hh ≤ ((grp (m : Int) 4).length : Int))) = Wn ws q hh m := by
  rw [Wn, ← Bool.decide_and]
  exact decide_eq_decide.mpr (by omega)
def Ln (ws : List Int) (q hh : Int) (m : Nat) : Bool := !Wn ws q hh m
theorem loses_is {ws : List Int} {q hh : Int} (m : Nat) : (decide (256 + tot ws (m : Int) - q < 256) || decide (((grp (m : Int) 4).length : Int) < hh)) = Ln ws q hh m := by
  rw [Ln, Wn, ← Bool.decide_or, ← decide_not]
  exact decide_eq_decide.mpr (by omega)
end
section
open PySem PySem.Spec PySem.Calls PyProof.Rows PySem.W
section
variable {prog : Program} {w : World} {A : Around} {E : Value → Shared → Prop} {s s₁ : Shared} {env : Env} {elt : Expr} {gens : List Comprehension} {scope : Scope} {pos : Pos} {iter : Expr} {h₀ : Heap} {L C D I M : Addr} {m : Str → Option Value} {x : Str} {px : Pos} {a : Int} {n : Nat} {R : Result → Shared → Prop}
/-- how the ledger stands where the clause's own name is a cell M -/
def JC (M : Addr) (J : Nat → List Value → List (Addr × Obj) → Prop) (i : Nat) (_mC : Str → Option Value) (ys : List Value) (news : List (Addr × Obj)) : Prop :=
  ∃ oM v nw, news = (M, oM) :: nw ∧ oM.data = .cell v ∧ (∀ p ∈ nw, @Ne Nat p.1 M) ∧ J i ys nw
theorem levelC {Body : (Shared → Prop) → (Value → Shared → Prop) → Shared → Prop} (hx : (compEnvC scope [(x, M)] C env).kindOf x = some .cell) (hkind : scope.kind = .function) (hh : A.handled = none) (hIC : @Ne Nat I C) (hID : @Ne Nat I D) (hCD : @Ne Nat C D)
    (hT : ∀ (Rn Ra : Shared → Prop) (E : Value → Shared → Prop) (s : Shared), TurnW prog w A (.ref I) (.Name x px) [] (compEnvC scope [(x, M)] C env) Body Rn Ra E s →
      wpAny (model prog w) A (compTurn (.ListComp elt gens scope pos) 0 (.ref I) (.ref D) (compEnvC scope [(x, M)] C env)) (fun fin s' => match fin with | .done f => f = .next ∧ Rn s' | .again c' => c' = .compLoop (.ListComp elt gens scope pos) 0 (.ref I) (.ref D) (compEnvC scope [(x, M)] C env) ∧ Ra s') E s)
    (J : Nat → List Value → List (Addr × Obj) → Prop)
    (turn : ∀ i mC oC oM ys nw h tk t (E' : Value → Shared → Prop), i < n → J i ys nw → LCg.NsObj oC mC → oM.data = .cell (some (.int (a + (i : Int)) t)) → Fr h₀ L h m → News h₀ L h ((I, itR (a + ((i + 1 : Nat) : Int)) ((n : Int) - ((i + 1 : Nat) : Int))) :: (C, oC) :: (D, LCg.lst ys) :: (M, oM) :: nw) → LCg.Off3 I C D ((M, oM) :: nw) → (∀ p ∈ nw, @Ne Nat p.1 M) →
      Body (NSt h₀ L m s₁ C D I a n (JC M J) (i + 1)) E' { s₁ with heap := h, toks := tk })
    (done : ∀ mC oC ys news h tk, JC M J n mC ys news → LCg.NsObj oC mC → Fr h₀ L h m → News h₀ L h ((C, oC) :: (D, LCg.lst ys) :: news) → LCg.Off3 I C D news → R (.ok .next) { s₁ with heap := h, toks := tk })
    (h : NSt h₀ L m s₁ C D I a n (JC M J) 0 s) : codeAny (model prog w) A (.compLoop (.ListComp elt gens scope pos) 0 (.ref I) (.ref D) (compEnvC scope [(x, M)] C env)) R s := by
  refine codeAny_loop rfl (fun k s' => ∃ i, i ≤ n ∧ k = n + 1 - i ∧ NSt h₀ L m s₁ C D I a n (JC M J) i s') ?_ (n + 1) ⟨0, Nat.zero_le _, rfl, h⟩
  rintro k s' ⟨i, hi, rfl, h', tk, mC, oC, ys, news, rfl, F, hC, N, off, oM, v, nw, rfl, hM, offM, hJ⟩
  show wpAny _ A ((compTurn (.ListComp elt gens scope pos) 0 (.ref I) (.ref D) (compEnvC scope [(x, M)] C env)).onRaise (fun y => do noteFrame y (compEnvC scope [(x, M)] C env); theTreesLotGoes y)) _ _ _
  refine wpAny_noted ?_
  have zI := N _ (.head _)
  have zC := N _ (.tail _ (.head _))
  have zD := N _ (.tail _ (.tail _ (.head _)))
  have zM := N _ (.tail _ (.tail _ (.tail _ (.head _))))
  have off3 := off.mem
  have nMI : @Ne Nat M I := off.1.1
  have nMC : @Ne Nat M C := off.1.2.1
  have nMD : @Ne Nat M D := off.1.2.2
  by_cases hlt : i < n
  · refine wpAny_mono (hT (fun s' => R (.ok .next) s') (fun s' => NSt h₀ L m s₁ C D I a n (JC M J) (i + 1) s') _ _ ?_) (fun fin s' hf => ?_) fun _ _ e => e
    · skip
      refine wpAny_pyNext_range_item zI.1 (by omega) fun h₂ hit₂ hs₂ => ?_
      have e1 := cast_up a i
      have e2 := cast_dn n i
      rw [e1, e2] at hit₂
      have F₂ : Fr h₀ L h₂ m := F.change hs₂ zI.2.1 zI.2.2
      refine wpAny_assign_Name (wpAny_storeName_cell (by simp [compEnvC, relabel, hkind]) hx (by simp [compEnvC]) ⟨oM, hs₂.extBut _ _ nMI zM.1, hM⟩ (fun h₃ hv₃ hs₃ => ?_))
      obtain ⟨oM', heM, hM'⟩ := hv₃
      have F₃ : Fr h₀ L h₃ m := F₂.change hs₃ zM.2.1 zM.2.2
      have N₃ : News h₀ L h₃ ((I, itR (a + ((i + 1 : Nat) : Int)) ((n : Int) - ((i + 1 : Nat) : Int))) :: (C, oC) :: (D, LCg.lst ys) :: (M, oM') :: nw) := fun p hp => by
        rcases List.mem_cons.mp hp with rfl | hp
        · exact ⟨hs₃.extBut _ _ (Ne.symm nMI) hit₂, zI.2⟩
        · rcases List.mem_cons.mp hp with rfl | hp
          · exact ⟨hs₃.extBut _ _ (Ne.symm nMC) (hs₂.extBut _ _ (Ne.symm hIC) zC.1), zC.2⟩
          · rcases List.mem_cons.mp hp with rfl | hp
            · exact ⟨hs₃.extBut _ _ (Ne.symm nMD) (hs₂.extBut _ _ (Ne.symm hID) zD.1), zD.2⟩
            · rcases List.mem_cons.mp hp with rfl | hp
              · exact ⟨heM, zM.2⟩
              · have z := N p (.tail _ (.tail _ (.tail _ (.tail _ hp))))
                exact ⟨hs₃.extBut _ _ (offM p hp) (hs₂.extBut _ _ (off3 p (.tail _ hp)).1 z.1), z.2⟩
      refine wpAny_tests_nil ?_
      rw [if_pos rfl]
      exact turn i mC oC oM' ys nw h₃ _ _ _ hlt hJ hC hM' F₃ N₃ ⟨off.1, off.2⟩ offM
    · cases fin with
      | done f => exact hf.1 ▸ hf.2
      | again c' => exact ⟨hf.1, n + 1 - (i + 1), by omega, i + 1, hlt, rfl, hf.2⟩
  · have hin : i = n := by omega
    subst hin
    refine wpAny_mono (hT (fun s' => R (.ok .next) s') (fun _ => False) _ _ ?_) (fun fin s' hf => ?_) fun _ _ e => e
    · skip
      refine wpAny_pyNext_range_end hh zI.1 (by omega) fun h₂ he₂ => ?_
      refine done mC oC ys ((M, oM) :: nw) h₂ tk ⟨oM, v, nw, rfl, hM, offM, hJ⟩ hC ⟨F.ns.extBut he₂ (Ne.symm zI.2.1), fun b o e => he₂ b o (fun q => by rw [q, zI.2.2] at e; cases e) (F.keep b o e), F.above⟩ (fun p hp => ?_) off
      rcases List.mem_cons.mp hp with rfl | hp
      · exact ⟨he₂ _ _ (Ne.symm hIC) zC.1, zC.2⟩
      · rcases List.mem_cons.mp hp with rfl | hp
        · exact ⟨he₂ _ _ (Ne.symm hID) zD.1, zD.2⟩
        · have z := N p (.tail _ (.tail _ (.tail _ hp)))
          exact ⟨he₂ _ _ (off3 p hp).1 z.1, z.2⟩
    · cases fin with
      | done f => exact hf.1 ▸ hf.2
      | again c' => exact hf.2.elim
/-- the block's own frame, with one cell -/
theorem new_env_cell {globals : Addr} {qual : Str} {Q : Env → Shared → Prop} {n₀ n₂ n₃ : Str} (hn : scope.names = [(n₀, .local), (x, .cell), (n₂, .globalImplicit), (n₃, .globalImplicit)])
    (h : Q (newEnv scope s.heap.objs.size globals [(x, s.heap.objs.size + 1)] qual none .none (some env) builtinsNs) { s with heap := (s.heap.push { cls := .type "dict", data := .dict #[] }).push { cls := .type "cell", data := .cell none } }) :
    wpAny (model prog w) A (newFunctionEnv scope globals [] [] qual none .none (some env)) Q E s := by
  simp only [newFunctionEnv, Option.isSome_some, if_true]
  refine wpAny_bind (wpAny_alloc ?_)
  refine wpAny_bind (wpAny_layCells _ (fun name kind cells => by cases hkc : kind == NameKind.cell <;> simp [hkc]) _ _ _ _ ?_)
  rw [hn]
  refine wpAny_bind ?_
  rw [List.forIn_nil]
  refine wpAny_pure (wpAny_pure ?_)
  have e : cellsFrom (s.heap.push { cls := .type "dict", data := .dict #[] }).objs.size [(n₀, .local), (x, .cell), (n₂, .globalImplicit), (n₃, .globalImplicit)] [] = [(x, s.heap.objs.size + 1)] := by
    rw [Heap.size_push]; rfl
  dsimp only at h ⊢
  rw [e]
  exact h
def NSrcM (prog : Program) (w : World) (A : Around) (h₀ : Heap) (L : Addr) (m : Str → Option Value) (elt : Expr) (gens : List Comprehension) (scope : Scope) (pos : Pos) (x : Str) (env : Env) (Q : Value → Shared → Prop) (xv : Value) (s₁ : Shared) : Prop :=
  ∃ (r : Addr) (a b : Int) (t u v : Tok) (n : Nat) (news : List (Addr × Obj)) (J : Nat → List Value → List (Addr × Obj) → Prop), xv = .ref r ∧ Fr h₀ L s₁.heap m ∧ News h₀ L s₁.heap news ∧ IsRange s₁.heap r a b 1 t u v ∧ Builtin.Range.small a b 1 = true ∧ Builtin.Range.rangeSize a b 1 = (n : Int) ∧ J 0 [] news ∧
      (∀ I C D M (R : Result → Shared → Prop) s₃, @Ne Nat I C → @Ne Nat I D → @Ne Nat C D → NSt h₀ L m s₁ C D I a n (JC M J) 0 s₃ → (∀ mC oC ys news h tk, JC M J n mC ys news → LCg.NsObj oC mC → Fr h₀ L h m → News h₀ L h ((C, oC) :: (D, LCg.lst ys) :: news) → LCg.Off3 I C D news → R (.ok .next) { s₁ with heap := h, toks := tk }) →
        codeAny (model prog w) A (.compLoop (.ListComp elt gens scope pos) 0 (.ref I) (.ref D) (compEnvC scope [(x, M)] C env)) R s₃) ∧
      (∀ D ys nw h tk, J n ys nw → Fr h₀ L h m → News h₀ L h ((D, LCg.lst ys) :: nw) → LCg.Off1 D nw → Q (.ref D) { s₁ with heap := h, toks := tk })
/-- a block of one clause over a range, whose name a block within captures -/
theorem cell_list {Q : Value → Shared → Prop} {n₀ n₂ n₃ : Str} (_F₀ : Fr h₀ L s.heap m) (hclos : closureFor scope env = pure []) (hn : scope.names = [(n₀, .local), (x, .cell), (n₂, .globalImplicit), (n₃, .globalImplicit)]) (hkind : scope.kind = .function)
    (h : wpAny (model prog w) A (eval iter env) (NSrcM prog w A h₀ L m elt [⟨.Name x px, iter, [], 0⟩] scope pos x env Q) E s)
    (hs : ∀ x, foldedSetIterable iter env x = pure x := by intro _; rfl) :
    wpAny (model prog w) A (eval (.ListComp elt [⟨.Name x px, iter, [], 0⟩] scope pos) env) Q E s := by
  rw [eval_ListComp]
  refine wpAny_comprehension_free (use := none) rfl hs hclos hkind (by rw [hn]; intro y hy; simp only [List.mem_cons, List.not_mem_nil, or_false] at hy; rcases hy with rfl | rfl | rfl | rfl <;> simp) (wpAny_mono h (fun xv s₁ h₁ => ?_) fun _ _ e => e)
  obtain ⟨r, a, b, t, u, v, n, news, J, rfl, F, N, hr, hsm, hnn, start, go, fin⟩ := h₁
  refine wpAny_pyIter_range hr hsm ?_
  rw [hnn]
  refine wpAny_newObj_type (new_env_cell hn ?_)
  dsimp only
  obtain ⟨I, hI⟩ : ∃ I, I = s₁.heap.objs.size := ⟨_, rfl⟩
  generalize hH1 : s₁.heap.push { cls := .type "range_iterator", data := .fields #[rawInt a, rawInt (n : Int), rawInt 1] } = H1
  generalize hH2 : H1.push { cls := .type "list", dict := none, data := .seq ([] : List Value).toArray } = H2
  generalize hH3 : H2.push { cls := .type "dict", data := .dict #[] } = H3
  generalize hH4 : H3.push { cls := .type "cell", data := .cell none } = H4
  have l1 : H1.objs.size = I + 1 := by rw [← hH1, Heap.size_push, hI]
  have l2 : H2.objs.size = I + 2 := by rw [← hH2, Heap.size_push, l1]
  have l3 : H3.objs.size = I + 3 := by rw [← hH3, Heap.size_push, l2]
  obtain ⟨oC, heC3, hoC⟩ := LCg.ns_obj (hH3 ▸ Heap.Ns.new H2 (.type "dict"))
  have up1 : ∀ b o, s₁.heap.get? b = some o → H1.get? b = some o := fun b o e => by rw [← hH1]; exact Heap.get?_push_of_some _ e
  have up2 : ∀ b o, H1.get? b = some o → H2.get? b = some o := fun b o e => by rw [← hH2]; exact Heap.get?_push_of_some _ e
  have up3 : ∀ b o, H2.get? b = some o → H3.get? b = some o := fun b o e => by rw [← hH3]; exact Heap.get?_push_of_some _ e
  have up4 : ∀ b o, H3.get? b = some o → H4.get? b = some o := fun b o e => by rw [← hH4]; exact Heap.get?_push_of_some _ e
  have old : ∀ b o, s₁.heap.get? b = some o → H4.get? b = some o := fun b o e => up4 _ _ (up3 _ _ (up2 _ _ (up1 _ _ e)))
  have eI : H4.get? I = some (itR a (n : Int)) := up4 _ _ (up3 _ _ (up2 _ _ (by rw [← hH1, hI]; exact Heap.get?_push_size _ rfl)))
  have eD : H4.get? H1.objs.size = some (LCg.lst []) := up4 _ _ (up3 _ _ (by rw [← hH2]; exact Heap.get?_push_size _ rfl))
  have eC : H4.get? H2.objs.size = some oC := up4 _ _ heC3
  have eM : H4.get? H3.objs.size = some { cls := .type "cell", data := .cell none } := by rw [← hH4]; exact Heap.get?_push_size _ rfl
  have fresh₀ : ∀ b, I ≤ b → h₀.get? b = none := fun b hb => by
    cases e : h₀.get? b with
    | none => rfl
    | some o' => exact absurd (Heap.lt_size (F.keep b o' e)) (Nat.not_lt.mpr (hI ▸ hb))
  have lL : @LT.lt Nat _ L I := hI ▸ F.ns.lt
  have g3 : ∀ b : Nat, b < I → b < H3.objs.size := fun b hb => l3 ▸ Nat.lt_add_right 3 hb
  have g2 : ∀ b : Nat, b < I → b < H2.objs.size := fun b hb => l2 ▸ Nat.lt_add_right 2 hb
  have g1 : ∀ b : Nat, b < I → b < H1.objs.size := fun b hb => l1 ▸ Nat.lt_add_right 1 hb
  have k3 : I ≤ H3.objs.size := l3 ▸ Nat.le_add_right I 3
  have k2 : I ≤ H2.objs.size := l2 ▸ Nat.le_add_right I 2
  have k1 : I ≤ H1.objs.size := l1 ▸ Nat.le_add_right I 1
  have lN : ∀ p ∈ news, @LT.lt Nat _ p.1 I := fun p hp => hI ▸ Heap.lt_size (N p hp).1
  have hIC : @Ne Nat I H2.objs.size := l2 ▸ Nat.ne_of_lt (Nat.lt_add_of_pos_right (by decide))
  have hID : @Ne Nat I H1.objs.size := l1 ▸ Nat.ne_of_lt (Nat.lt_add_of_pos_right (by decide))
  have hCD : @Ne Nat H2.objs.size H1.objs.size := l1 ▸ l2 ▸ Nat.ne_of_gt (Nat.lt_succ_self (I + 1))
  have hMI : @Ne Nat H3.objs.size I := l3 ▸ Nat.ne_of_gt (Nat.lt_add_of_pos_right (by decide))
  have hMC : @Ne Nat H3.objs.size H2.objs.size := l2 ▸ l3 ▸ Nat.ne_of_gt (Nat.lt_succ_self (I + 2))
  have hMD : @Ne Nat H3.objs.size H1.objs.size := l1 ▸ l3 ▸ Nat.ne_of_gt (Nat.lt_add_of_pos_right (n := I + 1) (k := 2) (by decide))
  have st : NSt h₀ L m s₁ H2.objs.size H1.objs.size I a n (JC H3.objs.size J) 0 { s₁ with heap := H4, toks := s₁.toks } := by
    refine ⟨_, _, _, oC, [], (H3.objs.size, { cls := .type "cell", data := .cell none }) :: news, rfl, F.keeps old, hoC, fun p hp => ?_, LCg.Off3.of fun p hp => ?_, _, _, _, rfl, rfl, fun p hp => Nat.ne_of_lt (g3 _ (lN p hp)), start⟩
    · rcases List.mem_cons.mp hp with rfl | hp
      · refine ⟨?_, Nat.ne_of_gt lL, fresh₀ _ (Nat.le_refl _)⟩
        rw [cast_z1, cast_z2]
        exact eI
      · rcases List.mem_cons.mp hp with rfl | hp
        · exact ⟨eC, Nat.ne_of_gt (g2 _ lL), fresh₀ _ k2⟩
        · rcases List.mem_cons.mp hp with rfl | hp
          · exact ⟨eD, Nat.ne_of_gt (g1 _ lL), fresh₀ _ k1⟩
          · rcases List.mem_cons.mp hp with rfl | hp
            · exact ⟨eM, Nat.ne_of_gt (g3 _ lL), fresh₀ _ k3⟩
            · exact ⟨old _ _ (N p hp).1, (N p hp).2⟩
    · rcases List.mem_cons.mp hp with rfl | hp
      · exact ⟨hMI, hMC, hMD⟩
      · have := lN p hp
        exact ⟨Nat.ne_of_lt this, Nat.ne_of_lt (g2 _ this), Nat.ne_of_lt (g1 _ this)⟩
  have run := fun R hR => go I H2.objs.size H1.objs.size H3.objs.size R _ hIC hID hCD st hR
  have hR : ∀ mC oC ys news h tk, JC H3.objs.size J n mC ys news → LCg.NsObj oC mC → Fr h₀ L h m → News h₀ L h ((H2.objs.size, oC) :: (H1.objs.size, LCg.lst ys) :: news) → LCg.Off3 I H2.objs.size H1.objs.size news →
      compPost (model prog w) A E none Q (.ref H1.objs.size) H2.objs.size (.ok .next) { s₁ with heap := h, toks := tk } := by
    intro mC oC ys news h tk j c f nn o
    obtain ⟨oM, v, nw, rfl, hM, offM, j⟩ := j
    have zC := nn _ (.head _)
    refine ⟨mC, c.ns zC.1, fun h'' hs'' => fin _ ys nw h'' tk j (f.change hs'' zC.2.1 zC.2.2) (fun p hp => ?_) (LCg.Off3.one (I := I) (C := H2.objs.size) o.2)⟩
    rcases List.mem_cons.mp hp with rfl | hp
    · have z := nn _ (.tail _ (.head _))
      exact ⟨hs''.extBut _ _ (Ne.symm hCD) z.1, z.2⟩
    · have z := nn p (.tail _ (.tail _ (.tail _ hp)))
      exact ⟨hs''.extBut _ _ (o.mem p (.tail _ hp)).2.1 z.1, z.2⟩
  have hit : IsRangeIter H4 I a n 1 := eI
  rw [← hI]
  have e4 : H2.objs.size + 1 = H3.objs.size := by rw [l2, l3]
  rw [e4]
  exact compStart_at rfl (run _ hR) (wpAny_pyIter_rangeiter hit (run _ hR))
end
end
section
open PySem PySem.Spec PySem.Calls PyProof.Rows PySem.W
theorem ten {cm : Str → Option Value} {n₁ n₂ n₃ n₄ n₅ n₆ n₇ n₈ n₉ n₀ : Str} {c₁ c₂ c₃ c₄ c₅ c₆ c₇ c₈ c₉ c₀ : Addr} {cells : List (Addr × Obj)} (x : CellsAre cm [(n₁, c₁), (n₂, c₂), (n₃, c₃), (n₄, c₄), (n₅, c₅), (n₆, c₆), (n₇, c₇), (n₈, c₈), (n₉, c₉), (n₀, c₀)] cells) :
    ∃ o₁ o₂ o₃ o₄ o₅ o₆ o₇ o₈ o₉ o₀, cells = [(c₁, o₁), (c₂, o₂), (c₃, o₃), (c₄, o₄), (c₅, o₅), (c₆, o₆), (c₇, o₇), (c₈, o₈), (c₉, o₉), (c₀, o₀)] ∧ o₁.data = .cell (cm n₁) ∧ o₂.data = .cell (cm n₂) ∧ o₃.data = .cell (cm n₃) ∧ o₄.data = .cell (cm n₄) ∧ o₅.data = .cell (cm n₅) ∧ o₆.data = .cell (cm n₆) ∧ o₇.data = .cell (cm n₇) ∧ o₈.data = .cell (cm n₈) ∧ o₉.data = .cell (cm n₉) ∧ o₀.data = .cell (cm n₀) := by
  cases x with | cons d1 x => cases x with | cons d2 x =>
    obtain ⟨o₃, o₄, o₅, o₆, o₇, o₈, o₉, o₀, rfl, h₃, h₄, h₅, h₆, h₇, h₈, h₉, h₀⟩ := kc_eight x
    exact ⟨_, _, o₃, o₄, o₅, o₆, o₇, o₈, o₉, o₀, rfl, d1, d2, h₃, h₄, h₅, h₆, h₇, h₈, h₉, h₀⟩
/-- a contract, called from the law's own frame -/
theorem Con.law {w : World} {dep cu : Nat} {f : Addr} {P₀ : Heap → Prop} {news : List (Addr × Obj)} {wr : List Addr} {vs : List Value} {R : Value → List (Addr × Obj) → Prop} (c : Con w dep cu f P₀ news wr vs R)
    {p : Program} {loose : List Str} {mean : ExcName → Option Value} {mg mb : Str → Option Value} {cn' : Str} {cs' : Scope} {a' : Addr} {ccd' : Value} {base h₀ : Heap} {L' : Addr} {m : Str → Option Value} {s : Shared}
    {Q E : Value → Shared → Prop} (B : Below callerA base [] h₀) (F : Fr h₀ L' s.heap m) (X : (hd.heap_39 w.params).In h₀) (N : News h₀ L' s.heap news) (T : Top p loose mean mg mb h₀) (hk : cs'.kind = .function) (hd : callerA.depth + 1 + dep < recursionLimit) (hu : callerA.units + 3 + cu < cLine) (hp : P₀ h₀)
    (ret : ∀ r tl h' tk', Fr h₀ L' h' m → ExtB wr s.heap h' → (∀ p ∈ tl, h'.get? p.1 = some p.2 ∧ (p.1 ∈ wr ∨ s.heap.get? p.1 = none)) → R r tl → Q r { s with heap := h', toks := tk' }) :
    wpAny (model PySem.Challenge.rw_wj0007_01.row.prog w) (callerA.deeper (envOfC cn' cs' L' a' ccd')) (call (.ref f) vs) Q E s :=
  c p loose mean mg mb (callerA.depth + 1) (callerA.units + 3) _ cn' cs' a' ccd' (cellsFrom (L' + 1) cs'.names []) [] callerA base h₀ L' m s Q E B F X N T hk hd hu hp ret
/-- what a contract hands back, onto the ledger -/
theorem news_new {h₀ h h' : Heap} {L : Addr} {m : Str → Option Value} {news tl : List (Addr × Obj)} (F : Fr h₀ L h m) (N : News h₀ L h news) (x : ExtB [] h h') (e : ∀ p ∈ tl, h'.get? p.1 = some p.2 ∧ (p.1 ∈ ([] : List Addr) ∨ h.get? p.1 = none)) : News h₀ L h' (tl ++ news) := by
  intro p hp
  rcases List.mem_append.mp hp with hp | hp
  · obtain ⟨e1, e2⟩ := e p hp
    replace e2 : h.get? p.1 = none := e2.resolve_left fun q => nomatch q
    refine ⟨e1, ?_, ?_⟩
    · intro q
      have hl := F.ns
      obtain ⟨o, _, _, ho, _⟩ := hl
      rw [q, ho] at e2; cases e2
    · cases q : h₀.get? p.1 with
      | none => rfl
      | some o => rw [F.keep _ _ q] at e2; cases e2
  · exact ⟨x _ _ (fun q => nomatch q) (N p hp).1, (N p hp).2⟩
theorem new_off {h₀ h : Heap} {L l : Addr} {news : List (Addr × Obj)} (N : News h₀ L h news) (e : h.get? l = none) : ∀ p ∈ news, @Ne Nat p.1 l := fun p hp q => by
  have := (N p hp).1
  rw [show p.1 = l from q, e] at this; cases this
def LJ0 (nw0 : List (Addr × Obj)) (nm ws : List Int) (i : Nat) (_mC : Str → Option Value) (ys : List Value) (news : List (Addr × Obj)) : Prop := news = nw0 ∧ IntsAre ys (els nm ws i 0)
def LJ1 (nw0 : List (Addr × Obj)) (I0 : Addr) (o0 : Obj) (nm ws : List Int) (i : Nat) (j : Nat) (mC : Str → Option Value) (ys : List Value) (news : List (Addr × Obj)) : Prop := ∃ ta, news = (I0, o0) :: nw0 ∧ mC (Str.ofString "k") = some (.int (0 + (i : Int)) ta) ∧ IntsAre ys (els nm ws i j)
theorem pw_lo {i : Nat} (h : i < 4) : ((2 : Int) ^ (0 + (i : Int)).toNat) = ((2 ^ i : Nat) : Int) ∧ 2 ^ i ≤ 8 := by
  match i, h with
  | 0, _ => decide
  | 1, _ => decide
  | 2, _ => decide
  | 3, _ => decide
theorem bools_snoc {W : Nat → Bool} {i : Nat} {b : Bool} (h : b = W i) : bools W i ++ [.bool b] = bools W (i + 1) := by
  subst h
  simp [bools, List.range_succ]
theorem chk_ord : ((ords 64).all fun os => os.length == 4 && sumAt os 4 == 15 && (List.range 4).all fun j => decide (0 ≤ os.getD j 0) && decide (os.getD j 0 ≤ 3)) = true := by decide +kernel
theorem ord_len : (ords 64).length = 24 := by decide +kernel
theorem ord_is {os : List Int} (h : os ∈ ords 64) : os.length = 4 ∧ sumAt os 4 = 15 ∧ ∀ j : Nat, 0 ≤ os.getD j 0 ∧ os.getD j 0 ≤ 3 := by
  have z := List.all_eq_true.mp chk_ord os h
  simp only [Bool.and_eq_true, beq_iff_eq] at z
  refine ⟨z.1.1, z.1.2, fun j => ?_⟩
  rcases Nat.lt_or_ge j 4 with hj | hj
  · have := List.all_eq_true.mp z.2 j (List.mem_range.mpr hj)
    simpa using this
  · rw [List.getD_eq_getElem?_getD, List.getElem?_eq_none (by omega)]
    decide
theorem piv_spec {ws : List Int} {q hh : Int} {os : List Int} (h : os ∈ ords 64) (ay : Int) : piv (Wn ws q hh) (Ln ws q hh) os ay < 4 ∧ settledAt (Wn ws q hh) (Ln ws q hh) os ay (piv (Wn ws q hh) (Ln ws q hh) os ay) = true ∧ ∀ i, i < piv (Wn ws q hh) (Ln ws q hh) os ay → settledAt (Wn ws q hh) (Ln ws q hh) os ay i = false := by
  have h3 : settledAt (Wn ws q hh) (Ln ws q hh) os ay 3 = true := by
    have e : yesAt os ay 4 = 15 - noAt os ay 4 := by
      have := yes_no os ay 4
      rw [(ord_is h).2.1] at this
      omega
    unfold settledAt Ln
    rw [e]
    cases Wn ws q hh (15 - noAt os ay (3 + 1)).toNat <;> rfl
  unfold piv
  cases h0 : settledAt (Wn ws q hh) (Ln ws q hh) os ay 0 with
  | true =>
    rw [if_pos rfl]
    exact ⟨by decide, h0, fun i hi => by simp at hi⟩
  | false =>
    cases h1 : settledAt (Wn ws q hh) (Ln ws q hh) os ay 1 with
    | true =>
      rw [if_neg (by decide), if_pos rfl]
      refine ⟨by decide, h1, fun i hi => ?_⟩
      simp at hi
      rw [hi]; exact h0
    | false =>
      cases h2 : settledAt (Wn ws q hh) (Ln ws q hh) os ay 2 with
      | true =>
        rw [if_neg (by decide), if_neg (by decide), if_pos rfl]
        refine ⟨by decide, h2, fun i hi => ?_⟩
        have : i = 0 ∨ i = 1 := by omega
        rcases this with rfl | rfl
        · exact h0
        · exact h1
      | false =>
        rw [if_neg (by decide), if_neg (by decide), if_neg (by decide)]
        refine ⟨by decide, h3, fun i hi => ?_⟩
        have : i = 0 ∨ i = 1 ∨ i = 2 := by omega
        rcases this with rfl | rfl | rfl
        · exact h0
        · exact h1
        · exact h2
theorem refs_at {os : List LObj} {i : Nat} {v : Value} (h : (refs os)[i]? = some v) : ∃ o, os[i]? = some o ∧ v = .ref o.1 := by
  rw [refs, List.getElem?_map] at h
  cases e : os[i]? with
  | none => rw [e] at h; cases h
  | some o => rw [e] at h; exact ⟨o, rfl, (Option.some.inj h).symm⟩
theorem Holds.at {os : List LObj} {nss : List (List Int)} (h : Holds os nss) : ∀ {i : Nat} {o : LObj}, os[i]? = some o → ∃ ns, nss[i]? = some ns ∧ IntsAre o.2.1 ns := by
  induction h with
  | nil => intro i o e; simp at e
  | cons a _ ih =>
    intro i o e
    cases i with
    | zero => simp only [List.getElem?_cons_zero, Option.some.injEq] at e; subst e; exact ⟨_, by simp, a⟩
    | succ i =>
      simp only [List.getElem?_cons_succ] at e
      obtain ⟨ns, e1, e2⟩ := ih e
      exact ⟨ns, by simpa using e1, e2⟩
theorem objs_in {os : List LObj} {i : Nat} {o : LObj} (h : os[i]? = some o) : (o.1, listOf o.2.1.toArray o.2.2) ∈ objs os := List.mem_map.mpr ⟨o, List.mem_of_getElem? h, rfl⟩
theorem news_rot {h₀ h : Heap} {L : Addr} {a : Addr × Obj} {xs ys : List (Addr × Obj)} (N : News h₀ L h (a :: xs ++ ys)) : News h₀ L h (a :: ys ++ xs) := fun p hp => N p (by
  simp only [List.cons_append, List.mem_cons, List.mem_append] at hp ⊢
  rcases hp with h | h | h
  · exact .inl h
  · exact .inr (.inr h)
  · exact .inr (.inl h))
section
variable {prog : Program} {w : World} {A : Around} {E : Value → Shared → Prop} {s : Shared} {h₀ : Heap} {L D : Addr} {news : List (Addr × Obj)} {x y : Value} {n : Nat} {u : Tok}
theorem item_told {value slice : PySem.Expr} {Q : Value → Shared → Prop} (N : News h₀ L s.heap news) (hm : ((D, { cls := .type "tuple", data := .seq #[x, y] n }) : Addr × Obj) ∈ news) (h : Q y s)
    (hs : subscripted slice false (.ref D) (.int 1 u) = operate [.ref D, .int 1 u] (getItem (.ref D) (.int 1 u)) := by with_unfolding_all rfl) :
    wpAny (model prog w) A (subscriptTail value slice (.ref D) (.int 1 u)) Q E s :=
  item_tupleT (l := [x, y]) ⟨_, (N _ hm).1, rfl, _, rfl⟩ (by decide) (by decide) (j := 1) rfl rfl h hs
end
theorem news_trim {h₀ h : Heap} {L : Addr} {a b1 b2 b3 b4 b5 b6 b7 c c1 c2 c3 c4 c5 c6 c7 c8 c9 c10 : Addr × Obj} {r : List (Addr × Obj)} (N : News h₀ L h (a :: b1 :: b2 :: b3 :: b4 :: b5 :: b6 :: b7 :: c :: c1 :: c2 :: c3 :: c4 :: c5 :: c6 :: c7 :: c8 :: c9 :: c10 :: r)) :
    News h₀ L h [a, c, c1, c2, c3, c4, c5, c6, c7, c8, c9, c10] := fun p hp => N p (by
  rcases List.mem_cons.mp hp with rfl | hp
  · exact .head _
  · exact .tail _ (.tail _ (.tail _ (.tail _ (.tail _ (.tail _ (.tail _ (.tail _ (List.mem_append_left r hp)))))))))
theorem row_plain {ws : List Int} (h4 : ws.length = 4) (hb : ∀ x ∈ ws, 1 ≤ x ∧ x < 16) {q hh ay : Int} (hq1 : 1 ≤ q) (hq2 : q ≤ ws.sum) (hh3 : hh ≤ 3) (ha0 : 0 ≤ ay) (ha1 : ay < 16) {sd : List Int}
    (hsd : sd = (ords 64).map fun o => o.getD (piv (Wn ws q hh) (Ln ws q hh) o ay) 0) : ((List.range 4).map fun (k : Nat) => ((sd.count (k : Int) : Nat) : Int)) = rowAt ws q hh 16 0 := by
  obtain ⟨n, hn⟩ : ∃ n : Nat, ay = (n : Int) := ⟨ay.toNat, by omega⟩
  have h : ∀ k : Nat, k < 4 → ((sd.count (k : Int) : Nat) : Int) = idxK ws q hh k 16 := fun k hk => by
    rw [hsd, hn]
    exact plain h4 hb hq1 hq2 (by omega) (n := n) (by omega) hk
  unfold rowAt
  refine List.map_congr_left fun k hk => ?_
  rw [h k (List.mem_range.mp hk), if_neg (by omega), Int.add_zero]
theorem ne_s {a b : Nat} (h : a ≠ b) : a + 1 ≠ b + 1 := fun e => h (Nat.succ.inj e)
theorem lt_a (a : Nat) : a < a + 1 := Nat.lt_succ_self a
theorem lt_b {a b : Nat} (h : a < b) : a < b + 1 := Nat.lt_succ_of_lt h
theorem sum_lo {ws : List Int} (h4 : ws.length = 4) (hb : ∀ x ∈ ws, 1 ≤ x ∧ x < 16) : 4 ≤ ws.sum ∧ ws.sum < 63 := by
  match ws, h4 with
  | [a, b, c, d], _ =>
    have := hb a (by simp)
    have := hb b (by simp)
    have := hb c (by simp)
    have := hb d (by simp)
    show 4 ≤ a + (b + (c + (d + 0))) ∧ a + (b + (c + (d + 0))) < 63
    omega
end
section
open PySem PySem.Spec PySem.Calls PyProof.Rows PySem.W
local macro_rules | `(tactic| cells_open $x:ident) => `(tactic| (obtain ⟨o1', o2', o3', o4', o5', o6', o7', o8', o9', o0', he, d1', d2', d3', d4', d5', d6', d7', d8', d9', d0'⟩ := ten $x; subst he))
local macro_rules | `(tactic| walk_at "eval ListComp") => `(tactic| ((with_reducible show wpAny _ _ (eval (Expr.ListComp _ [_, _] _ _) _) _ _ _); refine Stop.out ?_))
local macro_rules | `(tactic| walk_at "eval ListComp") => `(tactic| ((with_reducible show wpAny _ _ (eval (Expr.ListComp (Expr.Call _ _ _ _) _ _ _) _) _ _ _); k_dflt (refine LCg.ListComp_U (F₀ := by k_asm) (by with_unfolding_all rfl) (by decide) (by rfl) (by decide) (by rfl) ?_)))
local macro_rules | `(tactic| walk_at "callWith ref") => `(tactic| ((with_reducible show wpAny _ _ (callWith _ (Value.ref _) [] (backTo _ (starEach [] _)) []) _ _ _); refine Stop.out ?_))
local macro_rules | `(tactic| walk_at "subscriptTail Name Constant ref int") => `(tactic| (k_here; (with_reducible show wpAny _ _ (subscriptTail _ _ (Value.ref _) (Value.int 1 _)) _ _ _); (refine' item_told ?k1 ?k2 ?_; (case k1 => k_asm); (case k2 => k_mem))))
local macro_rules | `(tactic| walk_at "NSrcM") => `(tactic| refine Stop.out ?_)
local macro_rules | `(tactic| k_ne) => `(tactic| (refine neN ?_; (try dsimp only); first | with_reducible assumption | (refine Ne.symm ?_; with_reducible assumption) | ((repeat with_reducible refine ne_s ?_); (first | refine Nat.ne_of_gt ?_ | refine Nat.ne_of_lt ?_); (repeat' (first | with_reducible exact lt_a _ | with_reducible refine lt_b ?_)); done) | omega))
theorem lw : PySem.Challenge.rw_wj0007_01.Holds := hd (by
  k_go0
  (all_goals try k_fold)
  k_steps
  rename_i w s₀ s₁ mg mb G Y fa o pm doc ho hg KX X V GL T B TE TW w9 w8 M w7 w6 hcd ns hs hlay0 hL1 hr1 hl2 w4 w3 xl vs ww hL ra w1 r0 hI hr hc1 hc2 K0 hD h₁ tk₁ F o1 o2 o3 o4 o5 o6 o7 o8 o9 o0 d1 d2 d3 d4 d5 d6 d7 d8 d9 d0 N0 X0
  replace d1 : o1.data = .cell none := d1
  replace d2 : o2.data = .cell none := d2
  replace d3 : o3.data = .cell none := d3
  replace d4 : o4.data = .cell none := d4
  replace d5 : o5.data = .cell none := d5
  replace d6 : o6.data = .cell none := d6
  replace d7 : o7.data = .cell none := d7
  replace d8 : o8.data = .cell none := d8
  replace d9 : o9.data = .cell none := d9
  replace d0 : o0.data = .cell none := d0
  refine Stop.mk ?_
  have hlen : ns.length ≤ 63 := by omega
  refine Con.law (drawn w xl vs ns hI hlen) K0 F KX News.nil T rfl (by decide) (by decide) hL ?_
  intro r tl h2 tk2 F2 Ex e2 hr
  obtain ⟨l, us, n2, z0, z1, z2, z3, z4, rfl, rfl, hus, p0, p1, p2, p3, p4⟩ := hr
  have N2 := news_new F N0 Ex e2
  have q2 := new_off N0 ((e2 _ (.head _)).2.resolve_left fun q => nomatch q)
  simp only [List.forall_mem_cons, List.not_mem_nil, false_implies, implies_true, and_true] at q2
  clear e2 Ex F N0
  simp only [List.cons_append, List.nil_append] at N2
  k_steps
  rename_i hx3 D3 ws3 h3 F3 N3 I3 C3 L3 l3
  replace I3 : IntsAre ws3 [z0, z1, z2, z3] := I3
  have hw3 : ws3.length = 4 := I3.length
  clear C3 L3
  refine Stop.mk (LCg.CompSrc.ledger rfl F3 N3 (.head _) (by rw [List.size_toArray, hw3, sizeLine_eq]; omega) ?_)
  intro gg
  refine compJ (fun i ys nw => nw = _ ∧ IntsAre ys (([z0, z1, z2, z3].take i).map fun x => 1 + x.fmod 15)) ⟨rfl, .nil⟩ ?_ ?_
  · intro i ys nw v I oI C oC D m₂ h5 tk5 E' hi hJ hP hC hx5 F5 N5 off ne
    obtain ⟨rfl, hys⟩ := hJ
    obtain ⟨t5, rfl, hlt⟩ := ints_at I3 (by simpa using hP)
    clear F3 N3
    obtain ⟨e, he⟩ : ∃ e, e = [z0, z1, z2, z3].getD i 0 := ⟨_, rfl⟩
    have hee : [z0, z1, z2, z3][i]? = some e := by rw [he, List.getD_eq_getElem?_getD, List.getElem?_eq_getElem hlt]; rfl
    rw [← he] at hx5
    k_steps
    refine Stop.mk (LCg.CompEnd.intro F5 N5 _ (fun p hp => hp) off (.inr ⟨_, .head _, rfl, _, rfl⟩) ⟨rfl, ?_⟩)
    rw [List.take_add_one, hee]
    simp only [Option.toList_some, List.map_append, List.map_cons, List.map_nil]
    exact ints_snoc hys
  · intro ys nw hJ
    obtain ⟨rfl, hys⟩ := hJ
    intro D5 h5 tk5 F5 N5 off5
    replace hys : IntsAre ys [1 + z0.fmod 15, 1 + z1.fmod 15, 1 + z2.fmod 15, 1 + z3.fmod 15] := by
      have e1 : ws3.toArray.size = 4 := by rw [List.size_toArray, hw3]
      rw [e1] at hys
      exact hys
    obtain ⟨ws, hws⟩ : ∃ ws, ws = [1 + z0.fmod 15, 1 + z1.fmod 15, 1 + z2.fmod 15, 1 + z3.fmod 15] := ⟨_, rfl⟩
    have hw4 : ws.length = 4 := by rw [hws]; rfl
    have hwb : ∀ x ∈ ws, 1 ≤ x ∧ x < 16 := by
      intro x hx
      rw [hws] at hx
      have a : ∀ z : Int, 0 ≤ z → 1 ≤ 1 + z.fmod 15 ∧ 1 + z.fmod 15 < 16 := fun z hz => by
        rw [Int.fmod_eq_emod_of_nonneg _ (by decide)]
        omega
      simp only [List.mem_cons, List.not_mem_nil, or_false] at hx
      rcases hx with rfl | rfl | rfl | rfl
      · exact a _ p0
      · exact a _ p1
      · exact a _ p2
      · exact a _ p3
    rw [← hws] at hys
    clear hws p0 p1 p2 p3
    obtain ⟨-, q5⟩ := off5
    simp only [LCg.Off1, and_true] at q5
    replace N5 : News s₁.heap s₁.heap.objs.size h5 ((D5, LCg.lst ys) :: (l, _) :: _) := fun p hp => N5 p (by
      rcases List.mem_cons.mp hp with rfl | hp
      · exact .head _
      · exact .tail _ (.tail _ hp))
    clear N3 F3 l3 I3 hw3 N2
    obtain ⟨q21, q22, q23, q24, q25, q26, q27, q28, q29, q20⟩ := q2
    obtain ⟨q50, q51, q52, q53, q54, q55, q56, q57, q58, q59, q5a⟩ := q5
    k_steps
    rename_i h4 o10 d10 t4a t4b k4 a4 t4c k4' a4' D6 h6 F6 N6 l6
    clear N5 a4 a4'
    obtain ⟨P, hP⟩ : ∃ P, P = ([z0, z1, z2, z3, z4].getD (Int.toNat 4) 0).fmod 60000 := ⟨_, rfl⟩
    have hP0 : 0 ≤ P := by rw [hP]; exact Int.fmod_nonneg_of_pos _ (by decide)
    have hP1 : P < 60000 := by rw [hP]; exact Int.fmod_lt_of_pos _ (by decide)
    rw [← hP]
    refine Stop.mk ?_
    refine Con.law (p229 w P hP0 hP1 _ _ _ D6 _) K0 F6 KX (fun p hp => N6 p (by rw [List.mem_singleton.mp hp]; exact .head _)) T rfl (by decide) (by decide) trivial ?_
    intro r tl h7 tk7 F7 Ex e7 hr
    obtain ⟨D7, th, tn, k7, rfl, hm7⟩ := hr
    have N7 := news_new F6 N6 Ex e7
    have q7 := new_off N6 ((e7 _ hm7).2.resolve_left fun q => nomatch q)
    replace N7 : News s₁.heap s₁.heap.objs.size h7 ((D7, _) :: (D5, LCg.lst ys) :: _) := fun p hp => N7 p (by
      rcases List.mem_cons.mp hp with rfl | hp
      · exact List.mem_append_left _ hm7
      · exact List.mem_append_right _ (.tail _ hp))
    clear e7 Ex F6 N6 hm7
    obtain ⟨-, q7⟩ := List.forall_mem_cons.mp q7
    simp only [List.forall_mem_cons, List.not_mem_nil, false_implies, implies_true, and_true] at q7
    obtain ⟨q70, q71, q72, q73, q74, q75, q76, q77, q78, q79, q7a, q7b⟩ := q7
    clear l6
    obtain ⟨hs4, hs63⟩ := sum_lo hw4 hwb
    obtain ⟨S, hS⟩ : ∃ S, S = ws.sum := ⟨_, rfl⟩
    rw [← hS] at hs4 hs63
    k_steps
    rename_i h8 o11 d11 tk8 t8 D8 h9 l8 e8 h9b tk9 t9 h10 o12 d12 h11 o13 F11 N11 d13
    clear l8 e8
    obtain ⟨q, hq⟩ : ∃ q, q = 1 + P.fmod ws.sum := ⟨_, rfl⟩
    obtain ⟨hh, hhh⟩ : ∃ hh, hh = 1 + (P.fdiv 64).fmod 3 := ⟨_, rfl⟩
    rw [← hq] at d12
    rw [← hhh] at d13
    have hq1 : 1 ≤ q := by rw [hq, Int.fmod_eq_emod_of_nonneg _ (by omega)]; have := Int.emod_nonneg P (show ws.sum ≠ 0 by omega); omega
    have hq2 : q ≤ ws.sum := by rw [hq, Int.fmod_eq_emod_of_nonneg _ (by omega)]; have := Int.emod_lt_of_pos P (show 0 < ws.sum by omega); omega
    have hh1 : 1 ≤ hh := by rw [hhh, Int.fmod_eq_emod_of_nonneg _ (by decide)]; omega
    have hh3 : hh ≤ 3 := by rw [hhh, Int.fmod_eq_emod_of_nonneg _ (by decide)]; omega
    replace N11 : News s₁.heap s₁.heap.objs.size h11 ((D7, _) :: (D5, LCg.lst ys) :: _) := fun p hp => N11 p (by
      rcases List.mem_cons.mp hp with rfl | hp
      · exact .tail _ (.head _)
      rcases List.mem_cons.mp hp with rfl | hp
      · exact .tail _ (.tail _ (.head _))
      · exact .tail _ (.tail _ (.tail _ (.tail _ hp))))
    clear q20 q21 q22 q23 q24 q25 q26 q27 q28 q29 q50 q71 hP q7
    refine Stop.mk ?_
    refine Con.law (weighed w D5 ys ws hys hw4 hwb _) K0 F11 KX (fun p hp => N11 p (by rw [List.mem_singleton.mp hp]; exact .tail _ (.head _))) T rfl (by decide) (by decide) trivial ?_
    intro r tl h12 tk12 F12 Ex e12 hr
    obtain ⟨D9, un, n9, rfl, rfl, hun⟩ := hr
    have N12 := news_new F11 N11 Ex e12
    have q9 := new_off N11 ((e12 _ (.head _)).2.resolve_left fun q => nomatch q)
    clear e12 Ex F11 N11
    simp only [List.cons_append, List.nil_append] at N12
    simp only [List.forall_mem_cons, List.not_mem_nil, false_implies, implies_true, and_true] at q9
    obtain ⟨q90, q91, q92, q93, q94, q95, q96, q97, q98, q99, q9a, q9b⟩ := q9
    obtain ⟨nm, hnm⟩ : ∃ nm, nm = (List.range 16).map (rd ws) := ⟨_, rfl⟩
    have hnl : nm.length = 16 := by rw [hnm, List.length_map, List.length_range]
    have hnb : ∀ x ∈ nm, 0 ≤ x ∧ x < 1000000000 := by rw [hnm]; exact nm_lo hw4 hwb
    rw [nm_is, ← hnm] at hun
    k_steps
    rename_i h13 o14 d14 D10 ws10 h14 F14 N14 I14 C14 L14 l14
    clear C14 L14
    refine Stop.mk (nest_list F14 (by with_unfolding_all rfl) (by decide) (by rfl) (by decide) ?_)
    k_steps
    rename_i h15 tk15 t0 u0 v0 rg0 F15 N15 ex0
    refine Stop.mk ⟨_, 0, 4, _, _, _, 4, _, LJ0 _ nm ws, rfl, F15, N15, rg0, rfl, rfl, fun mC => ⟨rfl, .nil⟩, ?_, ?_⟩
    · intro I0 C D R0 s₃ nIC nID nCD st done
      refine level (by rfl) (by rfl) rfl nIC nID nCD (fun Rn Ra E s => turn_mid rfl rfl (by intro _; rfl) (by intro _; rfl)) _ ?_ done st
      clear st done F15 N15 rg0 ex0
      intro i mC oC zs news h tk ta E' hi hJ hC F8 N8 off
      obtain ⟨rfl, hzs⟩ := hJ
      generalize hm : (fun y => if y = Str.ofString "k" then some (Value.int (0 + (i : Int)) ta) else mC y) = m2 at hC
      have ha : m2 (Str.ofString "k") = some (.int (0 + (i : Int)) ta) := by rw [← hm]; exact if_pos rfl
      clear hm
      refine wpAny_tests_nil ?_
      rw [if_pos rfl]
      refine body_mid rfl ?_
      obtain ⟨hpw, hpw8⟩ := pw_lo hi
      obtain ⟨pn, hpn⟩ : ∃ pn, pn = 2 ^ i := ⟨_, rfl⟩
      rw [← hpn] at hpw hpw8
      k_steps
      rename_i h16 tk16 t1 u1 v1 rg1 F16 N16 ex1
      rw [hpw] at rg1
      refine Stop.mk ⟨_, 0, (pn : Int), _, _, _, pn, h16, tk16, m2, oC, zs, (I0, itR _ _) :: _, LJ1 _ I0 _ nm ws i, rfl, rfl, rg1, small_to (by omega) (by omega), (size_to (by omega)).trans (by omega), F16, hC, (fun p hp => N16 p (rot3 hp)), ?_, ⟨ta, rfl, ha, hzs⟩, ?_, ?_⟩
      · intro p hp
        rcases List.mem_cons.mp hp with rfl | hp
        · exact ⟨nIC, nID⟩
        · exact (off.mem p hp).2
      · clear F16 N16 rg1 ex1 hzs ha hC
        rename Fr _ _ h _ => q1
        rename News _ _ h _ => q2
        clear q1 q2
        intro I1 R1 s₄ n1C n1D st1 done1
        refine level (by rfl) (by rfl) rfl n1C n1D nCD (fun Rn Ra E s => turn_last rfl rfl (by intro _; rfl)) _ ?_ done1 st1
        clear st1 done1
        clear ta oC m2 zs
        intro j mC oC zs news h tk tb E' hj hJ hC F8 N8 off
        obtain ⟨ta, rfl, ha, hzs⟩ := hJ
        generalize hm : (fun y => if y = Str.ofString "m" then some (Value.int (0 + (j : Int)) tb) else mC y) = m2 at hC
        replace ha : m2 (Str.ofString "k") = some (.int (0 + (i : Int)) ta) := by rw [← hm]; exact (if_neg (by decide)).trans ha
        have hb : m2 (Str.ofString "m") = some (.int (0 + (j : Int)) tb) := by rw [← hm]; exact if_pos rfl
        clear hm
        refine wpAny_tests_nil ?_
        rw [if_pos rfl]
        refine body_last (ys := zs) n1D nCD ?_
        k_steps
        refine Stop.mk (NEnd.intro F8 N8 _ hC (fun p hp => hp) off ?_ ⟨ta, rfl, ha, ?_⟩)
        · have q1 := hzs.length
          rw [els_len, ← hpn] at q1
          omega
        · rw [els_in]
          have e1 : el nm ws i j = 64 * nm.getD (0 + (j : Int)).toNat 0 + ws.getD (0 + (i : Int)).toNat 0 := by
            rw [el, show (0 + (j : Int)).toNat = j by omega, show (0 + (i : Int)).toNat = i by omega]
          rw [e1]
          exact ints_snoc hzs
      · intro mC oC zs news h tk hJ hC F N off'
        obtain ⟨ta, rfl, ha, hzs⟩ := hJ
        refine NSt.intro F N _ hC (fun p hp => rot3' hp) (LCg.Off3.of fun p hp => ⟨(off.mem p hp).1, off' p (.tail _ hp)⟩) ⟨rfl, ?_⟩
        rw [hpn, els_out] at hzs
        exact hzs
    · intro D mC zs news h tk hJ F8 N8 off
      obtain ⟨rfl, hzs⟩ := hJ
      replace hzs : IntsAre zs (List.drop 1 nm) := by
        rw [hnm, nm_rec, ← hnm]
        exact hzs
      obtain ⟨ex, hex⟩ : ∃ ex, ex = List.drop 1 nm := ⟨_, rfl⟩
      have hexl : ex.length = 15 := by rw [hex, List.length_drop, hnl]
      rw [← hex] at hzs I14
      k_steps
      clear F15 N15 rg0 ex0 I14 hzs hex hexl
      replace N8 : News s₁.heap s₁.heap.objs.size h ((D9, W.listOf un.toArray n9) :: (D7, _) :: (D5, LCg.lst ys) :: _) := fun p hp => N8 p (.tail _ (.tail _ hp))
      have hunl : un.length = 16 := by rw [hun.length, hnl]
      refine Stop.mk (LCg.CompSrc.ledger rfl F8 N8 (.head _) (by rw [List.size_toArray, hunl, sizeLine_eq]; omega) ?_)
      intro g17
      refine compJ (fun i us nw => nw = _ ∧ IntsAre us ((nm.take i).map fun x => x.fmod 63)) ⟨rfl, .nil⟩ ?_ ?_
      · intro i us nw v I oI C oC D m₂ h5 tk5 E' hi hJ hP hC hx5 F5 N5 off ne
        obtain ⟨rfl, hus⟩ := hJ
        obtain ⟨t5, rfl, hlt⟩ := ints_at hun (by simpa using hP)
        clear F8 N8
        obtain ⟨e, he⟩ : ∃ e, e = nm.getD i 0 := ⟨_, rfl⟩
        have hee : nm[i]? = some e := by rw [he, List.getD_eq_getElem?_getD, List.getElem?_eq_getElem hlt]; rfl
        rw [← he] at hx5
        k_steps
        refine Stop.mk (LCg.CompEnd.intro F5 N5 _ (fun p hp => hp) off (.inr ⟨_, .head _, rfl, _, rfl⟩) ⟨rfl, ?_⟩)
        rw [List.take_add_one, hee]
        simp only [Option.toList_some, List.map_append, List.map_cons, List.map_nil]
        exact ints_snoc hus
      · intro us nw hJ
        obtain ⟨rfl, hus⟩ := hJ
        intro D11 h18 tk18 F18 N18 q11
        clear F8 N8
        replace hus : IntsAre us (tots ws 16) := by
          have e1 : un.toArray.size = nm.length := by rw [List.size_toArray, hunl, hnl]
          rw [e1, List.take_length, hnm, mods_is hw4 hwb] at hus
          exact hus
        obtain ⟨sm, hsm⟩ : ∃ sm, sm = tots ws 16 := ⟨_, rfl⟩
        rw [← hsm] at hus
        have hsml : sm.length = 16 := by rw [hsm, tots, List.length_map, List.length_range]
        simp only [LCg.Off1, and_true] at q11
        obtain ⟨q110, q111, q112, q113, q114, q115, q116, q117, q118, q119, q11a, q11b, q11c⟩ := q11
        k_steps
        rename_i h19 o15 F19 N19 d15
        refine cell_list F19 (by with_unfolding_all rfl) (by rfl) (by rfl) ?_
        k_steps
        rename_i h20 tk20 t0 u0 v0 rg0 F20 N20 ex0
        refine Stop.mk ⟨_, 0, 16, _, _, _, 16, _, fun i ys nw => nw = _ ∧ IntsAre ys (cnts i), rfl, F20, N20, rg0, rfl, rfl, ⟨rfl, .nil⟩, ?_, ?_⟩
        · intro I0 C D M R0 s₃ nIC nID nCD st done
          refine levelC (by rfl) (by rfl) rfl nIC nID nCD (fun Rn Ra E s => turn_last rfl rfl (by intro _; rfl)) _ ?_ done st
          clear st done F20 N20 rg0 ex0
          intro i mC oC oM zs nw h tk tm E' hi hJ hC hM F8 N8 off offM
          obtain ⟨rfl, hzs⟩ := hJ
          refine body_last (ys := zs) nID nCD ?_
          generalize hMv : (0 + (i : Int)) = Mv at hM
          have hM0 : 0 ≤ Mv := by omega
          have hM1 : Mv < 16 := by omega
          k_steps
          rename_i h22 tk22 t2 u2 v2 rg2 F22 N22 ex2
          refine Stop.mk (LCg.CompSrc.range rfl F22 N22 rg2 rfl rfl (by decide) ?_)
          intro g22
          refine compJ (fun j us nw => nw = _ ∧ IntsAre us (ones Mv j)) ⟨rfl, .nil⟩ ?_ ?_
          · intro j us nw v I5 oI C5 oC5 D5' m₂ h5 tk5 E' hj hJ hP hC hx5 F5 N5 off5 ne
            obtain ⟨rfl, hus⟩ := hJ
            obtain ⟨t5, rfl⟩ := hP
            have hj4 : j < 4 := hj
            clear F22 N22 hj rg2 ex2
            rename Fr _ _ h _ => x1
            rename News _ _ h _ => x2
            clear x1 x2
            k_steps
            refine Stop.mk (LCg.CompEnd.intro F5 N5 _ (fun p hp => hp) off5 trivial ⟨rfl, ?_⟩)
            rw [ones_snoc, show (0 + (j : Int)).toNat = j by omega]
            exact ints_snoc hus
          · intro us nw hJ
            obtain ⟨rfl, hus⟩ := hJ
            intro D13 h23 tk23 F23 N23 q13
            clear F22 N22 rg2 ex2
            rename Fr _ _ h _ => x1
            rename News _ _ h _ => x2
            clear x1 x2
            obtain ⟨on, hon⟩ : ∃ on, on = ones Mv 4 := ⟨_, rfl⟩
            replace hus : IntsAre us on := hon ▸ hus
            have honl : on.length = 4 := by rw [hon, ones, List.length_map, List.length_range]
            k_steps
            rename_i h24 tk24 t24 F24 N24
            refine Stop.mk (NEnd.intro F24 N24 ((M, oM) :: _) hC (fun p hp => .tail _ hp) off ?_ ⟨oM, _, _, rfl, hM, offM, rfl, ?_⟩)
            · have q1 := hzs.length
              rw [cnts, List.length_map, List.length_range] at q1
              omega
            · rw [cnts_snoc, ← ones_sum hi, show (i : Int) = Mv by omega, ← hon]
              exact ints_snoc hzs
        · intro D12 zs nw h tk hJ F21 N21 q12
          obtain ⟨rfl, hzs⟩ := hJ
          clear F20 N20 rg0 ex0
          obtain ⟨ct, hct⟩ : ∃ ct, ct = cnts 16 := ⟨_, rfl⟩
          replace hzs : IntsAre zs ct := hct ▸ hzs
          have hctl : ct.length = 16 := by rw [hct, cnts, List.length_map, List.length_range]
          simp only [LCg.Off1, and_true] at q12
          obtain ⟨q12x, q120, q121, q122, q123, q124, q125, q126, q127, q128, q129, q12a, q12b, q12c⟩ := q12
          k_steps
          rename_i h25 o16 F25 N25 d16 h26 tk26 t3 u3 v3 rg3 F26 N26 ex3
          clear ex3 F25 N25
          refine Stop.mk (LCg.CompSrc.range rfl F26 N26 rg3 rfl rfl (by decide) ?_)
          intro g26
          refine compJ (fun i bs nw => nw = _ ∧ bs = bools (Wn ws q hh) i) ⟨rfl, rfl⟩ ?_ ?_
          · intro i bs nw v I oI C oC D' m₂ h5 tk5 E' hi hJ hP hC hx5 F5 N5 off ne
            obtain ⟨rfl, hbs⟩ := hJ
            obtain ⟨t5, rfl⟩ := hP
            have hi16 : i < 16 := hi
            have hse : sm.getD (0 + (i : Int)).toNat 0 = tot ws (i : Int) := by rw [hsm, show (0 + (i : Int)).toNat = i by omega, tots_get ws hi16]
            have hce : ct.getD (0 + (i : Int)).toNat 0 = ((grp (i : Int) 4).length : Int) := by rw [hct, show (0 + (i : Int)).toNat = i by omega, cnts_get hi16]
            clear F26 N26 rg3 hi
            k_steps
            refine Stop.mk ?_
            refine Con.law (isnonterm w _ _) K0 F5 KX News.nil T rfl (by decide) (by decide) trivial ?_
            intro r tl h6 tk6 F6 Ex e6 hr
            subst hr
            have N6 := news_ext N5 Ex
            clear Ex e6 N5 F5
            k_steps
            · refine Stop.mk (LCg.CompEnd.intro F6 N6 _ (fun p hp => hp) off trivial ⟨rfl, ?_⟩)
              rename 256 ≤ _ => h1
              rw [hse] at h1
              rw [hbs, hce]
              exact bools_snoc (by rw [← wins_is, decide_eq_true h1, Bool.true_and])
            · refine Stop.mk (LCg.CompEnd.intro F6 N6 _ (fun p hp => hp) off trivial ⟨rfl, ?_⟩)
              rename ¬ 256 ≤ _ => h1
              rw [hse] at h1
              rw [hbs, hse]
              exact bools_snoc (by rw [← wins_is, decide_eq_false h1, Bool.false_and])
          · intro bs nw hJ
            obtain ⟨rfl, hbs⟩ := hJ
            replace hbs : Stop (bs = bools (Wn ws q hh) 16) := hbs
            have hbsl : bs.length = 16 := by rw [hbs.out, bools_len]
            intro D14 h27 tk27 F27 N27 q14
            clear F26 N26 rg3
            simp only [LCg.Off1, and_true] at q14
            obtain ⟨q14x, q14y, q140, q141, q142, q143, q144, q145, q146, q147, q148, q149, q14a, q14b, q14c⟩ := q14
            k_steps
            rename_i h28 o17 F28 N28 d17 h29 tk29 t4 u4 v4 rg4 F29 N29 ex4
            clear ex4 F28 N28
            refine Stop.mk (LCg.CompSrc.range rfl F29 N29 rg4 rfl rfl (by decide) ?_)
            intro g29
            refine compJ (fun i ls nw => nw = _ ∧ ls = bools (Ln ws q hh) i) ⟨rfl, rfl⟩ ?_ ?_
            · intro i ls nw v I oI C oC D' m₂ h5 tk5 E' hi hJ hP hC hx5 F5 N5 off ne
              obtain ⟨rfl, hls⟩ := hJ
              obtain ⟨t5, rfl⟩ := hP
              have hi16 : i < 16 := hi
              have hse : sm.getD (0 + (i : Int)).toNat 0 = tot ws (i : Int) := by rw [hsm, show (0 + (i : Int)).toNat = i by omega, tots_get ws hi16]
              have hce : ct.getD (0 + (i : Int)).toNat 0 = ((grp (i : Int) 4).length : Int) := by rw [hct, show (0 + (i : Int)).toNat = i by omega, cnts_get hi16]
              clear F29 N29 rg4 hi
              k_steps
              refine Stop.mk ?_
              refine Con.law (isterm w _ _) K0 F5 KX News.nil T rfl (by decide) (by decide) trivial ?_
              intro r tl h6 tk6 F6 Ex e6 hr
              subst hr
              have N6 := news_ext N5 Ex
              clear Ex e6 N5 F5
              k_steps
              · refine Stop.mk (LCg.CompEnd.intro F6 N6 _ (fun p hp => hp) off trivial ⟨rfl, ?_⟩)
                rename _ < (256 : Int) => h1
                rw [hse] at h1
                rw [hls, hse]
                exact bools_snoc (by rw [← loses_is, decide_eq_true h1, Bool.true_or])
              · refine Stop.mk (LCg.CompEnd.intro F6 N6 _ (fun p hp => hp) off trivial ⟨rfl, ?_⟩)
                rename ¬ _ < (256 : Int) => h1
                rw [hse] at h1
                rw [hls, hce]
                exact bools_snoc (by rw [← loses_is, decide_eq_false h1, Bool.false_or])
            · intro ls nw hJ
              obtain ⟨rfl, hls⟩ := hJ
              replace hls : Stop (ls = bools (Ln ws q hh) 16) := hls
              have hlsl : ls.length = 16 := by rw [hls.out, bools_len]
              intro D15 h30 tk30 F30 N30 q15
              clear F29 N29 rg4
              simp only [LCg.Off1, and_true] at q15
              obtain ⟨q15x, q15y, q15z, q150, q151, q152, q153, q154, q155, q156, q157, q158, q159, q15a, q15b, q15c⟩ := q15
              k_steps
              rename_i h31 o18 F31 N31 d18
              refine Stop.mk (callWith_K0 (K := hd.heap_39 w.params) (KX.keeps F31.keep) ?_ ?_)
              · k_is
              refine Con.law (orders w) K0 F31 KX News.nil T rfl (by decide) (by decide) trivial ?_
              intro r tl h32 tk32 F32 Ex e32 hr
              obtain ⟨lo, os, ko, rfl, rfl, hos⟩ := hr
              have N32 := news_new F31 N31 Ex e32
              have q32 : ∀ p ∈ (lo, listOf (refs os).toArray ko) :: objs os, @Ne Nat p.1 D14 ∧ @Ne Nat p.1 D15 := fun p hp => by
                have e := (e32 p hp).2.resolve_left fun q => nomatch q
                exact ⟨Ne.symm (new_off N31 e _ (.tail _ (.head _))), Ne.symm (new_off N31 e _ (.head _))⟩
              clear e32 Ex F31 N31
              replace N32 := news_rot N32
              simp only [List.cons_append, List.nil_append] at N32
              obtain ⟨OR, hOR⟩ : ∃ OR, OR = ords 64 := ⟨_, rfl⟩
              rw [← hOR] at hos
              have hORl : os.length = 24 := by rw [hos.length, hOR, ord_len]
              obtain ⟨ay, hay⟩ : ∃ ay, ay = (P.fdiv 192).fmod 16 := ⟨_, rfl⟩
              have hay0 : 0 ≤ ay := by rw [hay]; exact Int.fmod_nonneg_of_pos _ (by decide)
              have hay1 : ay < 16 := by rw [hay]; exact Int.fmod_lt_of_pos _ (by decide)
              obtain ⟨f, hf⟩ : ∃ f : List Int → Int, f = fun o => o.getD (piv (Wn ws q hh) (Ln ws q hh) o ay) 0 := ⟨_, rfl⟩
              refine LCg.CompSrc.ledger rfl F32 N32 (.head _) (by rw [List.size_toArray, refs, List.length_map, hORl, sizeLine_eq]; omega) ?_
              intro g32
              refine compJ (fun i es nw => nw = _ ∧ IntsAre es ((OR.take i).map f)) ⟨rfl, .nil⟩ ?_ ?_
              · intro i es nw v I oI C oC D' m₂ h5 tk5 E' hi hJ hP hC hx5 F5 N5 off ne
                obtain ⟨rfl, hes⟩ := hJ
                obtain ⟨o, ho9, rfl⟩ := refs_at (by simpa using hP)
                obtain ⟨od, hod, hoi⟩ := hos.at ho9
                obtain ⟨hol, hosum, hob⟩ := ord_is (os := od) (hOR ▸ List.mem_of_getElem? hod)
                obtain ⟨hp4, hps, hpo⟩ := piv_spec (ws := ws) (q := q) (hh := hh) (os := od) (hOR ▸ List.mem_of_getElem? hod) ay
                have hom := objs_in ho9
                clear F32 N32 hP hi
                obtain ⟨oa, ov, on⟩ := o
                dsimp only at hx5 hoi hom
                k_steps
                refine Stop.mk ?_
                rw [← hay]
                have N5' : News s₁.heap s₁.heap.objs.size h5 [(oa, listOf ov.toArray on), (D14, listOf (bools (Wn ws q hh) 16).toArray bs.length), (D15, listOf (bools (Ln ws q hh) 16).toArray ls.length)] := fun p hp => by
                  rcases List.mem_cons.mp hp with rfl | hp
                  · exact N5 _ (by (repeat refine List.Mem.tail _ ?_); exact hom)
                  rcases List.mem_cons.mp hp with rfl | hp
                  · rw [← hbs.out]
                    exact N5 _ (by k_mem)
                  · rw [List.mem_singleton.mp hp, ← hls.out]
                    exact N5 _ (by k_mem)
                refine Con.law (settled w oa D14 D15 ov od (Wn ws q hh) (Ln ws q hh) on _ _ ay _ hoi hol hob hosum hay0 hay1 _ hp4 hps hpo) K0 F5 KX N5' T rfl (by decide) (by decide) trivial ?_
                intro r tl h6 tk6 F6 Ex e6 hr
                obtain ⟨t6, rfl⟩ := hr
                have N6 := news_ext N5 Ex
                clear Ex e6 N5' N5 F5
                refine LCg.CompEnd.intro F6 N6 _ (fun p hp => hp) off (.inr ⟨_, .head _, rfl, _, rfl⟩) ⟨rfl, ?_⟩
                have hfo : f od = od.getD (piv (Wn ws q hh) (Ln ws q hh) od ay) 0 := by rw [hf]
                rw [List.take_add_one, hod]
                simp only [Option.toList_some, List.map_append, List.map_cons, List.map_nil, hfo]
                exact ints_snoc hes
              · intro es nw hJ
                obtain ⟨rfl, hes⟩ := hJ
                intro D16 h33 tk33 F33 N33 q16
                clear F32 N32
                replace hes : IntsAre es (OR.map f) := by
                  have e1 : (refs os).toArray.size = OR.length := by rw [List.size_toArray, refs, List.length_map, hos.length]
                  rw [e1, List.take_length] at hes
                  exact hes
                obtain ⟨sd, hsd⟩ : ∃ sd, sd = OR.map f := ⟨_, rfl⟩
                rw [← hsd] at hes
                have hsdl : sd.length = 24 := by rw [hsd, List.length_map, ← hos.length, hORl]
                replace N33 := news_trim N33
                simp only [LCg.Off1] at q16
                obtain ⟨-, -, -, -, -, -, -, q160, q161, q162, q163, q164, q165, q166, q167, q168, q169, q16a, -⟩ := q16
                k_steps
                rename_i h34 o19 F34 N34 d19 h35 tk35 t5 u5 v5 rg5 F35 N35 ex5
                clear ex5 F34 N34
                refine Stop.mk (LCg.CompSrc.range rfl F35 N35 rg5 rfl rfl (by decide) ?_)
                intro g35
                refine compJ (fun i cs nw => nw = _ ∧ IntsAre cs ((List.range i).map fun (k : Nat) => ((sd.count (k : Int) : Nat) : Int))) ⟨rfl, .nil⟩ ?_ ?_
                · intro i cs nw v I oI C oC D' m₂ h5 tk5 E' hi hJ hP hC hx5 F5 N5 off ne
                  obtain ⟨rfl, hcs⟩ := hJ
                  obtain ⟨t6, rfl⟩ := hP
                  have hi4 : i < 4 := hi
                  clear F35 N35 rg5 hi
                  k_steps
                  refine Stop.mk (LCg.CompEnd.intro F5 N5 _ (fun p hp => hp) off trivial ⟨rfl, ?_⟩)
                  rw [List.range_succ, List.map_append, show (0 + (i : Int)) = (i : Int) by omega]
                  exact ints_snoc hcs
                · intro cs nw hJ
                  obtain ⟨rfl, hcs⟩ := hJ
                  intro D17 h36 tk36 F36 N36 q17
                  clear F35 N35 rg5
                  replace hcs : IntsAre cs ((List.range 4).map fun (k : Nat) => ((sd.count (k : Int) : Nat) : Int)) := hcs
                  rw [row_plain hw4 hwb hq1 hq2 hh3 hay0 hay1 (by rw [hsd, hOR, hf])] at hcs
                  obtain ⟨ro, hro⟩ : ∃ ro, ro = rowAt ws q hh 16 0 := ⟨_, rfl⟩
                  have hrol : ro.length = 4 := by rw [hro, row_len]
                  rw [← hro] at hcs
                  k_steps
                  refine Stop.mk ?_
                  refine Con.law (idx w D5 ys ws hys hw4 _ q hh _ _) K0 F36 KX (fun p hp => N36 p (by rw [List.mem_singleton.mp hp]; exact .tail _ (.tail _ (.head _)))) T rfl (by decide) (by decide) trivial ?_
                  intro r tl h37 tk37 F37 Ex e37 hr
                  obtain ⟨li, ui, ki, rfl, rfl, hui⟩ := hr
                  have N37 := news_new F36 N36 Ex e37
                  simp only [List.cons_append, List.nil_append] at N37
                  rw [← hro] at hui
                  clear hro Ex e37 F36 N36 hsd hf hOR hsm hct hnm hos
                  k_steps)
end
end Mine
theorem PySem.Challenge.cw_wj0007_01_holds : PySem.Challenge.rw_wj0007_01.Holds := by
  exact Mine.lw
