import PyProof.Rows.All
import PyProof.FactsBase
import PyProof.TableTree
import PyProof.FactsTree
import PyProof.TupleIter
import PyProof.MeetsSeq
import PyProof.ListOps
import PyProof.StrLawsIn
import PyProof.ZipIter
import PyProof.Rows.StrItems
import PyProof.Rows.ListMul
import PyProof.StrLawsTight
import KE.KDictIter
import Wide.All
import OpenK.AllK
import Wide.FinOn
import PySem.Challenge.RW_pe0168_01
open PySem PySem.W PyProof.Rows PySem.Calls
set_option Elab.async false
set_option maxRecDepth 100000
namespace Mine
section
open PySem PySem.W PyProof.Rows
set_option Elab.async false
set_option maxRecDepth 100000
set_option maxHeartbeats 8000000
local macro_rules | `(tactic| o_head ($_f:ident $k $a $e)) => `(tactic| o_head (kmHook $k $a $e [162, 169]))
local macro_rules | `(tactic| o_law) => `(tactic| refine holds_law (by kernel_rfl) fun said => ?_)
open_top hd for PySem.Challenge.rw_pe0168_01
end
section
theorem nnA {a i j k n : Nat} (h : a + k < n) (e : i + j ≤ k) : a + i + j < n := by omega
theorem nnB {a i k n : Nat} (h : a + k < n) (e : i ≤ k) : a + i < n := by omega
theorem nnC {a k n : Nat} (h : a + k < n) : a < n := by omega
theorem nnD {a k n : Nat} (h : a ≤ k) (e : k ≤ n) : a ≤ n := by omega
theorem nnE {a k n : Nat} (h : a = k) (e : k ≤ n) : a ≤ n := by omega
theorem nnF {i n : Nat} (h : i < n) : n + 1 - (i + 1) < n + 1 - i := by omega
theorem nnG {a b : Nat} (h : a ≤ b) (e : ¬ a < b) : a = b := by omega
theorem nnH {a b n : Nat} (h : b ≤ n) : min a b ≤ n := by omega
theorem nnI {a b n : Nat} (h : b ≤ n) : max 0 (min (b : Int) (n : Int)) = b := by omega
theorem nnJ (a : Nat) : (0 + (a : Int) * 1).toNat = a := by omega
theorem nnK (a : Nat) : 0 + (a : Int) * 1 = a := by omega
theorem nnL (a : Nat) : (-1 + ((a + 1 : Nat) : Int)).toNat = a := by omega
theorem nnM {a b c i j : Nat} (h : a = c + i) (e : b = a + j) : c ≤ b := by omega
theorem nnN {a c i : Nat} (h : a = c + i) : c ≤ a := by omega
theorem nnO {a b c i j : Nat} (h : a = c + (i + 1)) (e : b = a + j) : c < b := by omega
theorem nnP {a b : Nat} (h : a < b + 1) (e : ¬ a < b) : a = b := by omega
theorem nnQ {a b : Nat} (h : a + 1 < b + 1) : a < b := by omega
theorem nnR {a b : Nat} (h : 0 < a) : a = a - 1 + 1 := by omega
theorem nnS {a b n : Nat} (h : b = n) (e : a < n) : b + 1 - (a + 1) < b + 1 - a := by omega
theorem nnT {a b k : Nat} (h : b = a) (e : a ≤ k) : b ≤ k := by omega
theorem nnU {a b i k l : Nat} (h : b = a + i) (e : a ≤ k) (f : k + i ≤ l) : b ≤ l := by omega
theorem nnV (a b c : Nat) : a + b + c = a + (c + b) := by omega
theorem nnW {a b i : Nat} (h : a + i = b + i) : a = b := by omega
theorem nnX {a b : Nat} (h : a < b) : b - a = b - a - 1 + 1 := by omega
theorem nnY {a b i : Nat} (h : a + i ≤ b) : a ≤ b := by omega
theorem nnZ {a b : Nat} (h : b < a) : a - 1 < a := by omega
end
section
open PySem PySem.W PyProof.Rows
set_option Elab.async false
set_option maxRecDepth 100000

noncomputable abbrev aT (dp un : Nat) (gd : Option (List Code)) (fr : Option (List Env)) : Around := { handled := none, depth := dp, frames := fr, guards := gd, units := un }

noncomputable abbrev NoE : Value → Shared → Prop := fun _ _ => False

structure Cx (K : Frag) (p : Program) (loose : List Str) (mg mb : Str → Option Value) (h : Heap) : Prop where
  X : K.In h
  T : TopRead p loose mg mb h

theorem fr_keeps {h₀ h h' : Heap} {L : Addr} {m : Str → Option Value} (F : Fr h₀ L h m) (hk : ∀ b o, h.get? b = some o → h'.get? b = some o) : Fr h₀ L h' m :=
  ⟨F.ns.keeps hk, fun b o e => hk b o (F.keep b o e), F.above⟩
theorem news_keeps {h₀ h h' : Heap} {L : Addr} {news : List (Addr × Obj)} (N : News h₀ L h news) (hk : ∀ b o, h.get? b = some o → h'.get? b = some o) : News h₀ L h' news :=
  fun p hp => ⟨hk _ _ (N p hp).1, (N p hp).2⟩

noncomputable def lmap : List (Str × Option Value) → Str → Option Value
  | [], _ => none
  | (k, v) :: r, y => if y = k then v else lmap r y
theorem lmap_lookup : ∀ (l : List (Str × Value)), (fun y => l.lookup y) = lmap (l.map fun e => (e.1, some e.2))
  | [] => rfl
  | (k, v) :: r => by
    funext y
    have ih := congrFun (lmap_lookup r) y
    rw [List.lookup_cons, List.map_cons, lmap]
    by_cases h : y = k
    · subst h; simp
    · rw [if_neg h, ← ih]
      have : (y == k) = false := by simpa using h
      rw [this]
noncomputable def pick (keys : List Str) (l : List (Str × Option Value)) : List (Str × Option Value) := keys.map fun k => (k, lmap l k)
theorem lmap_pick (keys : List Str) (l : List (Str × Option Value)) (h : ((l.map (·.1)).all fun k => keys.contains k) = true) : lmap l = lmap (pick keys l) := by
  funext y
  have key : ∀ ks : List Str, lmap (pick ks l) y = if y ∈ ks then lmap l y else none := by
    intro ks
    induction ks with
    | nil => rfl
    | cons k ks ih =>
      show (if y = k then lmap l k else lmap (pick ks l) y) = _
      rw [ih]
      by_cases e : y = k
      · subst e; simp
      · simp [e]
  rw [key]
  by_cases hy : y ∈ keys
  · rw [if_pos hy]
  · rw [if_neg hy]
    have no : ∀ (l' : List (Str × Option Value)), ((l'.map (·.1)).all fun k => keys.contains k) = true → lmap l' y = none := by
      intro l'
      induction l' with
      | nil => intro _; rfl
      | cons e r ih =>
        intro q
        rw [List.map_cons, List.all_cons, Bool.and_eq_true] at q
        show (if y = e.1 then e.2 else lmap r y) = none
        rw [if_neg, ih q.2]
        intro z; rw [z] at hy; exact hy (by simpa using q.1)
    exact no l h
theorem lmap_none (keys : List Str) (x y : Str) (hy : y ≠ x) (hn : y ∉ keys) : ∀ (l : List (Str × Option Value)), ((l.map (·.1)).all fun k => keys.contains k || k == x) = true → lmap l y = none
  | [], _ => rfl
  | (k, v) :: r, q => by
    rw [List.map_cons, List.all_cons, Bool.and_eq_true] at q
    show (if y = k then v else lmap r y) = none
    rw [if_neg, lmap_none keys x y hy hn r q.2]
    intro z
    rcases Bool.or_eq_true_iff.mp q.1 with h | h
    · exact hn (by rw [z]; simpa using h)
    · exact hy (by rw [z]; simpa using h)
theorem lmap_agree {l l' : List (Str × Option Value)} {x : Str} (keys : List Str) (h1 : ((l.map (·.1)).all fun k => keys.contains k || k == x) = true) (h2 : ((l'.map (·.1)).all fun k => keys.contains k || k == x) = true)
    (hv : ∀ k ∈ keys, lmap l k = lmap l' k) : ∀ y, y ≠ x → lmap l y = lmap l' y := by
  intro y hy
  by_cases hn : y ∈ keys
  · exact hv y hn
  · rw [lmap_none keys x y hy hn l h1, lmap_none keys x y hy hn l' h2]
theorem some_int {a b : Int} {t : Tok} (e : a = b) : some (Value.int a t) = some (Value.int b t) := by rw [e]
theorem fr_pick {h₀ h : Heap} {L : Addr} {l : List (Str × Option Value)} (keys : List Str) (F : Fr h₀ L h (lmap l)) (hk : ((l.map (·.1)).all fun k => keys.contains k) = true) : Fr h₀ L h (lmap (pick keys l)) := lmap_pick keys l hk ▸ F

section
variable {prog : Program} {w : World} {A : Around} {s : Shared} {K : Frag} {p : Program} {loose : List Str} {mg mb : Str → Option Value}

theorem enter0 {Q : Value → Shared → Prop} {E : Value → Shared → Prop} {name qual : Str} {params : Arguments} {body : List Stmt} {scope : Scope} {dV kV doc pm cdv ct oc : Value} {an od : Option Addr} {osl : Array (Option Value)} {f : Addr} {vs : List Value} {binds : List (Str × Value)}
    (C : Cx K p loose mg mb s.heap)
    (ho : K.lookup f = some ⟨oc, od, .func (fnOf name qual params body scope dV kV doc pm an cdv ct), osl⟩) (hcd : codeIn K cdv qual = true) (hroom : A.depth < recursionLimit)
    (hbind : BindsTo s (fnOf name qual params body scope dV kV doc pm an cdv ct) ⟨vs, []⟩ binds) (hloc : ∀ y ∈ binds, scope.names.lookup y.1 = some .local)
    (h : ∀ L' h₁ tk, Fr s.heap L' h₁ (lmap (binds.reverse.map fun e => (e.1, some e.2))) → News s.heap L' h₁ [] → K.In s.heap → TopRead p loose mg mb s.heap →
      wpAny (model prog w) (A.deeper (envOf qual scope L' f cdv)) (execs body (envOf qual scope L' f cdv))
        (fun fl s' => Q (match fl with | .ret v => v | _ => .none) s') NoE { s with heap := h₁, toks := tk })
    (hco : scope.isCoroutine = false) (hgen : scope.isGenerator = false) (hk : scope.kind = .function)
    (hcell : ∀ x ∈ scope.names, x.2 ≠ .cell) : wpAny (model prog w) A (call (.ref f) vs) Q E s := by
  refine wpAny_call ?_
  refine codeAny_call_def (fd := fnOf name qual params body scope dV kV doc pm an cdv ct) (body := body) (binds := binds) hroom (C.X _ _ ho) rfl C.T.nolimit (codeRec_of C.X hcd) rfl hbind hcell hloc (fun h₁ hns hk₁ => ?_) hco hgen hk
  exact wpAny_mono (h s.heap.objs.size h₁ _ ⟨by rw [← lmap_lookup]; exact hns, hk₁, Nat.le_refl _⟩ News.nil C.X C.T) (fun _ _ x => x) fun _ _ x => x.elim
end

section
variable {prog : Program} {w : World} {A : Around} {s : Shared} {env : Env} {h₀ : Heap}

theorem stL {M : Model} {A : Around} {E : Value → Shared → Prop} {s : Shared} {name : Str} {scope : Scope} {L a : Addr} {cd : Value} {h₀ : Heap} {l : List (Str × Option Value)} {news : List (Addr × Obj)} {x : Str} {v : Value} {Q : Unit → Shared → Prop} (F : Fr h₀ L s.heap (lmap l)) (N : News h₀ L s.heap news)
    (h : ∀ h', Fr h₀ L h' (lmap ((x, some v) :: l)) → News h₀ L h' news → Q () { s with heap := h', toks := s.toks + 1 })
    (hk : scope.kind = .function) (hl : (envOf name scope L a cd).kindOf x = some .local) :
    wpAny M A (storeName (envOf name scope L a cd) x v) Q E s := stN F N h hk hl

noncomputable def TurnP {σ : Type} (h₀ : Heap) (L : Addr) (x : Str) (wr : List Addr) (own : List (Addr × Obj)) (mk : σ → List (Str × Option Value)) (nw : σ → List (Addr × Obj)) (side : σ → Prop) (s : Shared) (Q : Flow → Shared → Prop) (f : Flow) (s₃ : Shared) : Prop :=
  match f with
  | .brk => Q .next s₃
  | .ret v => Q (.ret v) s₃
  | _ => ∃ h' tk' m' a', s₃ = { s with heap := h', toks := tk' } ∧ Fr h₀ L h' m' ∧ News h₀ L h' (nw a' ++ own) ∧ (∀ q ∈ nw a', q.1 ∉ wr) ∧ (∀ y, y ≠ x → m' y = lmap (mk a') y) ∧ side a'

theorem turn_abs {α : Type} {M : Model} {A : Around} {E : Value → Shared → Prop} {s : Shared} {m : Sem α} {T : α → Shared → Prop} (h : ∀ R : α → Shared → Prop, (∀ f s', T f s' → R f s') → wpAny M A m R E s) : wpAny M A m T E s := h T fun _ _ x => x
theorem loop_abs {M : Model} {A : Around} {c : Code} {s : Shared} {Q : Flow → Shared → Prop} {X : Value → Shared → Prop} (h : ∀ R : Except Value Flow → Shared → Prop, (∀ f s', Q f s' → R (.ok f) s') → codeAny M A c R s) :
    codeAny M A c (fun r s' => match r with | .ok f => Q f s' | .error e => X e s') s := h _ fun _ _ x => x
theorem loopG {σ : Type} {Q : Flow → Shared → Prop} {x : Str} {px : Pos} {body orelse : List Stmt} {I : Addr} {fp wr : List Addr} {n : Nat} {P : Nat → Value → Prop} {St : Nat → Heap → Prop} {m₀ : Str → Option Value}
    (mk : Nat → σ → List (Str × Option Value)) (nw : Nat → σ → List (Addr × Obj)) (side : Nat → σ → Prop) (a₀ : σ)
    (W : Walks prog w A I fp wr n P St) (hx : env.kindOf x = some .local)
    (hp : (env.scope.kind == .class || (env.scope.kind == .module && env.locals != env.globals)) = false)
    (hLf : env.locals ∉ fp) (hwr : ∀ b ∈ wr, h₀.get? b = none) (hnw : ∀ q ∈ nw 0 a₀, q.1 ∉ wr) (hst : St 0 s.heap)
    (F : Fr h₀ env.locals s.heap m₀) (hm : ∀ y, y ≠ x → m₀ y = lmap (mk 0 a₀) y) (N : News h₀ env.locals s.heap (nw 0 a₀)) (h0 : side 0 a₀)
    (turn : ∀ i v a h tk own, i < n → P i v → side i a → (∀ q ∈ own, q.1 ∈ fp) → Fr h₀ env.locals h (lmap ((x, some v) :: mk i a)) → News h₀ env.locals h (nw i a ++ own) →
      wpAny (model prog w) A (execs body env) (TurnP h₀ env.locals x wr own (mk (i + 1)) (nw (i + 1)) (side (i + 1)) s Q) NoE { s with heap := h, toks := tk })
    (done : ∀ a u h tk, side n a → Fr h₀ env.locals h (lmap ((x, u) :: mk n a)) → News h₀ env.locals h (nw n a) →
      wpAny (model prog w) A (execs orelse env) Q NoE { s with heap := h, toks := tk }) :
    codeAny (model prog w) A (.forLoop (.Name x px) (.ref I) body orelse env) (fun r s' => match r with | .ok f => Q f s' | .error e => cameBackBy (model prog w) A env NoE e s') s := by
  have hLw : env.locals ∉ wr := fun h => hLf (W.sub _ h)
  have old : ∀ b o, h₀.get? b = some o → b ∉ wr := fun b o e hb => by rw [hwr b hb] at e; cases e
  obtain ⟨P, hI, hE⟩ : ∃ P : Nat → Shared → Prop, (∀ h' tk m' a i, St i h' → Fr h₀ env.locals h' m' → News h₀ env.locals h' (nw i a) → (∀ q ∈ nw i a, q.1 ∉ wr) → (∀ y, y ≠ x → m' y = lmap (mk i a) y) → side i a → i ≤ n → P (n + 1 - i) { s with heap := h', toks := tk }) ∧
      ∀ k s' (G : Prop), P k s' → (∀ h' tk m' a i, St i h' → Fr h₀ env.locals h' m' → News h₀ env.locals h' (nw i a) → (∀ q ∈ nw i a, q.1 ∉ wr) → (∀ y, y ≠ x → m' y = lmap (mk i a) y) → side i a → i ≤ n → s' = { s with heap := h', toks := tk } → k = n + 1 - i → G) → G :=
    ⟨fun k s' => ∀ G : Prop, _ → G, fun h' tk m' a i x1 x2 x3 x4 x5 x6 x7 G f => f h' tk m' a i x1 x2 x3 x4 x5 x6 x7 rfl rfl, fun _ _ G x f => x G f⟩
  refine loop_abs fun R hR => ?_
  refine codeAny_forLoop_any P ?_ (n + 1) (hI s.heap s.toks m₀ a₀ 0 hst F N hnw hm h0 (Nat.zero_le _))
  intro k s' hk
  refine hE k s' _ hk ?_
  clear hE hk
  rintro h' tk m' a i hst' F' N' hnw' hm' hs' hi rfl rfl
  have next : ∀ h₁ : Heap, (∀ b o, b ∉ wr → h'.get? b = some o → h₁.get? b = some o) → Fr h₀ env.locals h₁ m' ∧ News h₀ env.locals h₁ (nw i a) := fun h₁ hk₁ =>
    ⟨⟨F'.ns.at' fun o e => hk₁ _ o hLw e, fun b o e => hk₁ b o (old b o e) (F'.keep b o e), F'.above⟩, fun q hq => ⟨hk₁ _ _ (hnw' q hq) (N' q hq).1, (N' q hq).2⟩⟩
  by_cases hlt : i < n
  · refine W.item i _ _ _ hlt hst' fun v h₁ tk₁ hP hst₁ hk₁ => ?_
    obtain ⟨F₁, N₁⟩ := next h₁ hk₁
    have Nown : News h₀ env.locals h₁ (ownOf h₀ fp h₁) := news_ownOf hLf
    refine wpAny_of_eq (a := ()) rfl ?_
    refine wpAny_assign_Name (wpAny_storeName_local hx F₁.ns (fun h₂ hn₂ hs₂ => ?_) hp)
    have F₂ := F₁.set hn₂ hs₂
    have N₂ : News h₀ env.locals h₂ (nw i a ++ ownOf h₀ fp h₁) := (N₁.append Nown).set hs₂
    have e : (fun y => if y = x then some v else m' y) = lmap ((x, some v) :: mk i a) := by
      funext y
      show _ = if y = x then some v else lmap (mk i a) y
      by_cases hy : y = x
      · simp [hy]
      · simp only [if_neg hy]; exact hm' y hy
    rw [e] at F₂
    have fin : ∀ s₃, (∃ h' tk' m' a', s₃ = { s with heap := h', toks := tk' } ∧ Fr h₀ env.locals h' m' ∧ News h₀ env.locals h' (nw (i + 1) a' ++ ownOf h₀ fp h₁) ∧ (∀ q ∈ nw (i + 1) a', q.1 ∉ wr) ∧ (∀ y, y ≠ x → m' y = lmap (mk (i + 1) a') y) ∧ side (i + 1) a') → ∃ m, m < n + 1 - i ∧ P m s₃ := by
      rintro _ ⟨h₃', tk₃, m₂, a', rfl, F₃, N₃, ha₃, hm₃, hs₃⟩
      refine ⟨n + 1 - (i + 1), by (with_reducible exact nnF (by assumption)), hI _ _ _ _ _ ?_ F₃ (fun q hq => N₃ q (List.mem_append_left _ hq)) ha₃ hm₃ hs₃ hlt⟩
      refine W.frame _ _ _ hst₁ fun b hb o e => ?_
      cases hn : h₀.get? b with
      | some o₀ =>
        have : o₀ = o := by have := F₁.keep b o₀ hn; rw [e] at this; exact (Option.some.inj this).symm
        exact this ▸ F₃.keep b o₀ hn
      | none => exact (N₃ _ (List.mem_append_right _ (mem_ownOf hb hn e))).1
    refine wpAny_mono (turn i v a h₂ _ (ownOf h₀ fp h₁) hlt hP hs' ownOf_sub F₂ N₂) (fun f s₃ h₃ => ?_) fun _ _ x => x.elim
    cases f with
    | brk => exact hR _ _ h₃
    | ret v => exact hR _ _ h₃
    | next => exact fin _ h₃
    | cont => exact fin _ h₃
  · have hin : i = n := by (with_reducible exact nnG (by assumption) (by assumption))
    subst hin
    refine W.done _ _ _ hst' fun h₁ tk₁ hk₁ => ?_
    obtain ⟨F₁, N₁⟩ := next h₁ hk₁
    have e : lmap ((x, m' x) :: mk i a) = m' := by
      funext y
      show (if y = x then m' x else lmap (mk i a) y) = _
      by_cases hy : y = x
      · simp [hy]
      · simp only [if_neg hy]; exact (hm' y hy).symm
    exact wpAny_mono (done a (m' x) h₁ tk₁ hs' (by rw [e]; exact F₁) N₁) (fun _ _ x => hR _ _ x) fun _ _ x => x.elim
end

section
variable {prog : Program} {w : World} {A : Around} {s : Shared} {env : Env} {h₀ : Heap}

theorem news_push {h₀ h : Heap} {L : Addr} {news : List (Addr × Obj)} (N : News h₀ L h news) (o : Obj) : News h₀ L (h.push o) news :=
  fun q hq => ⟨Heap.get?_push_of_some _ (N q hq).1, (N q hq).2⟩

theorem fr_new {h₀ h : Heap} {L : Addr} {m : Str → Option Value} (F : Fr h₀ L h m) : h₀.get? h.objs.size = none := by
  cases q : h₀.get? h.objs.size with
  | none => rfl
  | some o => exact absurd (Heap.lt_size (F.keep _ _ q)) (Nat.lt_irrefl _)

theorem loopN {σ : Type} {Q : Flow → Shared → Prop} {x : Str} {px : Pos} {body orelse : List Stmt} {o : Obj} {fp : List Addr} {n : Nat} {P : Nat → Value → Prop} {St : Nat → Heap → Prop} {m₀ : Str → Option Value}
    (mk : Nat → σ → List (Str × Option Value)) (nw : Nat → σ → List (Addr × Obj)) (side : Nat → σ → Prop) (a₀ : σ)
    (W : Walks prog w A s.heap.objs.size fp [s.heap.objs.size] n P St) (hst : St 0 (s.heap.push o)) (hx : env.kindOf x = some .local)
    (hp : (env.scope.kind == .class || (env.scope.kind == .module && env.locals != env.globals)) = false)
    (hLf : ∀ b ∈ fp, b ≠ s.heap.objs.size → b ≠ env.locals)
    (F : Fr h₀ env.locals s.heap m₀) (hm : ∀ y, y ≠ x → m₀ y = lmap (mk 0 a₀) y) (N : News h₀ env.locals s.heap (nw 0 a₀)) (h0 : side 0 a₀)
    (turn : ∀ i v a h tk own, i < n → P i v → side i a → (∀ q ∈ own, q.1 ∈ fp) → Fr h₀ env.locals h (lmap ((x, some v) :: mk i a)) → News h₀ env.locals h (nw i a ++ own) →
      wpAny (model prog w) A (execs body env) (TurnP h₀ env.locals x [s.heap.objs.size] own (mk (i + 1)) (nw (i + 1)) (side (i + 1)) s Q) NoE { s with heap := h, toks := tk })
    (done : ∀ a u h tk, side n a → Fr h₀ env.locals h (lmap ((x, u) :: mk n a)) → News h₀ env.locals h (nw n a) →
      wpAny (model prog w) A (execs orelse env) Q NoE { s with heap := h, toks := tk }) :
    codeAny (model prog w) A (.forLoop (.Name x px) (.ref s.heap.objs.size) body orelse env) (fun r s' => match r with | .ok f => Q f s' | .error e => cameBackBy (model prog w) A env NoE e s') { s with heap := s.heap.push o } := by
  have hL : env.locals < s.heap.objs.size := F.ns.lt
  refine loopG (s := { s with heap := s.heap.push o }) mk nw side a₀ W hx hp ?_ ?_ ?_ hst (F.push o) hm (news_push N o) h0 turn done
  · intro hm
    by_cases e : env.locals = s.heap.objs.size
    · exact absurd (e ▸ hL) (Nat.lt_irrefl _)
    · exact hLf _ hm e rfl
  · intro b hb
    rw [List.mem_singleton.mp hb]
    exact fr_new F
  · intro q hq hI
    exact absurd (Heap.lt_size (N q hq).1) ((List.mem_singleton.mp hI) ▸ Nat.lt_irrefl _)

theorem iter_range {σ : Type} {Q : Flow → Shared → Prop} {x : Str} {px : Pos} {body orelse : List Stmt} {r : Addr} {a₁ b₁ c₁ : Int} {t₁ u₁ v₁ : Tok} {n : Nat} {m₀ : Str → Option Value}
    (mk : Nat → σ → List (Str × Option Value)) (nw : Nat → σ → List (Addr × Obj)) (side : Nat → σ → Prop) (a₀ : σ)
    (hh : A.handled = none) (hr : IsRange s.heap r a₁ b₁ c₁ t₁ u₁ v₁) (hsmall : Builtin.Range.small a₁ b₁ c₁ = true) (hn : Builtin.Range.rangeSize a₁ b₁ c₁ = (n : Int))
    (F : Fr h₀ env.locals s.heap m₀) (hm : ∀ y, y ≠ x → m₀ y = lmap (mk 0 a₀) y) (N : News h₀ env.locals s.heap (nw 0 a₀)) (h0 : side 0 a₀)
    (turn : ∀ i t a h tk own, i < n → side i a → (∀ q ∈ own, q.1 = s.heap.objs.size) → Fr h₀ env.locals h (lmap ((x, some (.int (a₁ + (i : Int) * c₁) t)) :: mk i a)) → News h₀ env.locals h (nw i a ++ own) →
      wpAny (model prog w) A (execs body env) (TurnP h₀ env.locals x [s.heap.objs.size] own (mk (i + 1)) (nw (i + 1)) (side (i + 1)) s Q) NoE { s with heap := h, toks := tk })
    (done : ∀ a u h tk, side n a → Fr h₀ env.locals h (lmap ((x, u) :: mk n a)) → News h₀ env.locals h (nw n a) →
      wpAny (model prog w) A (execs orelse env) Q NoE { s with heap := h, toks := tk })
    (hx : env.kindOf x = some .local := by rfl)
    (hp : (env.scope.kind == .class || (env.scope.kind == .module && env.locals != env.globals)) = false := by rfl) :
    wpAny (model prog w) A (pyIter (.ref r)) (fun it s₂ => codeAny (model prog w) A (.forLoop (.Name x px) it body orelse env) (fun r s' => match r with | .ok f => Q f s' | .error e => cameBackBy (model prog w) A env NoE e s') s₂) NoE s := by
  refine wpAny_pyIter_range hr hsmall ?_
  refine loopN mk nw side a₀ (Walks.range hh _ a₁ c₁ n) (by show IsRangeIter _ _ _ _ _; rw [hn]; simpa using Heap.get?_push_size _ rfl) hx hp ?_ F hm N h0 ?_ done
  · intro b hb hne; exact absurd (List.mem_singleton.mp hb) hne
  · rintro i v a h tk own hi ⟨t, rfl⟩ hs ho F₁ N₁
    exact turn i t a h tk own hi hs (fun q hq => List.mem_singleton.mp (ho q hq)) F₁ N₁

theorem iter_str {σ : Type} {Q : Flow → Shared → Prop} {x : Str} {px : Pos} {body orelse : List Stmt} {z : Str} {tz : Tok} {m₀ : Str → Option Value}
    (mk : Nat → σ → List (Str × Option Value)) (nw : Nat → σ → List (Addr × Obj)) (side : Nat → σ → Prop) (a₀ : σ)
    (hh : A.handled = none)
    (F : Fr h₀ env.locals s.heap m₀) (hm : ∀ y, y ≠ x → m₀ y = lmap (mk 0 a₀) y) (N : News h₀ env.locals s.heap (nw 0 a₀)) (h0 : side 0 a₀)
    (turn : ∀ i c t a h tk own, z.cps[i]? = some c → side i a → (∀ q ∈ own, q.1 = s.heap.objs.size) → Fr h₀ env.locals h (lmap ((x, some (.str ⟨#[c]⟩ t)) :: mk i a)) → News h₀ env.locals h (nw i a ++ own) →
      wpAny (model prog w) A (execs body env) (TurnP h₀ env.locals x [s.heap.objs.size] own (mk (i + 1)) (nw (i + 1)) (side (i + 1)) s Q) NoE { s with heap := h, toks := tk })
    (done : ∀ a u h tk, side z.cps.size a → Fr h₀ env.locals h (lmap ((x, u) :: mk z.cps.size a)) → News h₀ env.locals h (nw z.cps.size a) →
      wpAny (model prog w) A (execs orelse env) Q NoE { s with heap := h, toks := tk })
    (hx : env.kindOf x = some .local := by rfl)
    (hp : (env.scope.kind == .class || (env.scope.kind == .module && env.locals != env.globals)) = false := by rfl) :
    wpAny (model prog w) A (pyIter (.str z tz)) (fun it s₂ => codeAny (model prog w) A (.forLoop (.Name x px) it body orelse env) (fun r s' => match r with | .ok f => Q f s' | .error e => cameBackBy (model prog w) A env NoE e s') s₂) NoE s := by
  refine wpAny_pyIter_str fun o St W hst => ?_
  refine loopN mk nw side a₀ (W A hh) hst hx hp ?_ F hm N h0 ?_ done
  · intro b hb hne; exact absurd (List.mem_singleton.mp hb) hne
  · rintro i v a h tk own hi ⟨c, u, hc, rfl⟩ hs ho F₁ N₁
    exact turn i c u a h tk own hc hs (fun q hq => List.mem_singleton.mp (ho q hq)) F₁ N₁
end

theorem range_up (n : Nat) : Builtin.Range.rangeSize 0 (n : Int) 1 = ((n : Nat) : Int) := by
  simp only [Builtin.Range.rangeSize]; split <;> (try split) <;> lia
theorem fits_long {x : Int} (h1 : -(2 ^ 62) ≤ x) (h2 : x ≤ 2 ^ 62) : Builtin.Range.rangeFitsLong x = true := by
  unfold Builtin.Range.rangeFitsLong
  simp only [Bool.and_eq_true, decide_eq_true_eq]
  lia
theorem small_up {n : Nat} (h : n ≤ 1000000) : Builtin.Range.small 0 (n : Int) 1 = true := by
  unfold Builtin.Range.small
  rw [range_up]
  simp only [Bool.and_eq_true, Bool.or_eq_true, beq_iff_eq]
  refine ⟨⟨⟨⟨fits_long (by decide) (by decide), fits_long (by lia) (by lia)⟩, fits_long (by decide) (by decide)⟩, fits_long (by lia) (by lia)⟩, .inr ?_⟩
  rw [if_pos (by decide)]
  exact fits_long (by lia) (by lia)
theorem turn_next {σ : Type} {h₀ : Heap} {L : Addr} {x : Str} {wr : List Addr} {own news : List (Addr × Obj)} {mk : σ → List (Str × Option Value)} {nw : σ → List (Addr × Obj)} {side : σ → Prop} {s : Shared} {Q : Flow → Shared → Prop} {h' : Heap} {tk' : Nat} {m' : Str → Option Value}
    (a' : σ) (F : Fr h₀ L h' m') (N : News h₀ L h' news) (hs : ∀ q ∈ nw a' ++ own, q ∈ news) (hw : ∀ q ∈ nw a', q.1 ∉ wr) (hm : ∀ y, y ≠ x → m' y = lmap (mk a') y) (hside : side a') :
    TurnP h₀ L x wr own mk nw side s Q .next { s with heap := h', toks := tk' } := ⟨h', tk', m', a', rfl, F, fun q hq => N q (hs q hq), hw, hm, hside⟩
end
section
open PySem PySem.W PyProof.Rows
set_option Elab.async false
set_option maxRecDepth 100000

section
variable {prog : Program} {w : World} {A : Around} {E : Value → Shared → Prop} {s : Shared} {Q : Value → Shared → Prop}

theorem check_any {M : Model} {i owner n : String} {self : Value} {rest : List Value} {kw : List (Str × Value)} {Q : Unit → Shared → Prop}
    (hk : builtinKind i = some .slot ∨ builtinKind i = some .method) (hs : splitId i = some (owner, n)) (hi : Looks M s.heap (isInstance self (.type owner)) true) (ha : argsOk i ⟨self :: rest, kw⟩) (q : Q () s) :
    wpAny M A (checkBuiltinCall i ⟨self :: rest, kw⟩) Q E s := by
  rcases hk with hk | hk
  · exact check_slot hk hs hi ha q
  · simp only [checkBuiltinCall, hk, hs]
    refine wpAny_bind (hi.here ?_)
    simp only [Bool.not_true, Bool.false_eq_true, if_false]
    cases hsig : Manifest.signature? i with
    | none => exact wpAny_pure q
    | some sig =>
      simp only [argsOk, hsig] at ha
      have h2 : Bind.checkArgs i sig ⟨self :: rest, kw⟩ = pure () := ha
      show wpAny M A (Bind.checkArgs i sig ⟨self :: rest, kw⟩) Q E s
      rw [h2]; exact wpAny_pure q

theorem call_sub {id owner n : String} {b : Builtin} {self : Value} {rest : List Value}
    (hk : builtinKind id = some .slot ∨ builtinKind id = some .method) (hs : splitId id = some (owner, n)) (hp : plainId id = true) (hb : entryFor table id = some b)
    (ha : argsOk id ⟨self :: rest, []⟩) (hi : Looks (model prog w) s.heap (isInstance self (.type owner)) true)
    (hc : wpAny (model prog w) A.in1 (b ⟨self :: rest, []⟩) (fun fin s' => ∃ v, fin = .done (.ret v) ∧ Q v s') E s) :
    wpAny (model prog w) A (call (.builtin id) (self :: rest)) Q E s := by
  refine wpAny_call (codeAny_call_builtin hp hb (check_any hk hs hi ha (wpAny_mono hc (fun fin s' h' => ?_) fun _ _ h' => h')))
  obtain ⟨v, rfl, hv⟩ := h'; exact hv

theorem k_append : builtinKind "list.append" = some .slot ∨ builtinKind "list.append" = some .method := by first | exact .inl (by decide +kernel) | exact .inr (by decide +kernel)
theorem k_len : builtinKind "list.__len__" = some .slot ∨ builtinKind "list.__len__" = some .method := by first | exact .inl (by decide +kernel) | exact .inr (by decide +kernel)
theorem k_pop : builtinKind "list.pop" = some .slot ∨ builtinKind "list.pop" = some .method := by first | exact .inl (by decide +kernel) | exact .inr (by decide +kernel)
theorem k_init : builtinKind "list.__init__" = some .slot ∨ builtinKind "list.__init__" = some .method := by first | exact .inl (by decide +kernel) | exact .inr (by decide +kernel)
theorem k_getitem : builtinKind "list.__getitem__" = some .slot ∨ builtinKind "list.__getitem__" = some .method := by first | exact .inl (by decide +kernel) | exact .inr (by decide +kernel)
theorem k_setitem : builtinKind "list.__setitem__" = some .slot ∨ builtinKind "list.__setitem__" = some .method := by first | exact .inl (by decide +kernel) | exact .inr (by decide +kernel)
theorem k_iter : builtinKind "list.__iter__" = some .slot ∨ builtinKind "list.__iter__" = some .method := by first | exact .inl (by decide +kernel) | exact .inr (by decide +kernel)
theorem e_append : entryFor table "list.append" = some Builtin.«list.append» := entryFor_of_tree (by kernel_rfl)
theorem e_len : entryFor table "list.__len__" = some Builtin.«list.__len__» := entryFor_of_tree (by kernel_rfl)
theorem e_pop : entryFor table "list.pop" = some Builtin.«list.pop» := entryFor_of_tree (by kernel_rfl)
theorem e_init : entryFor table "list.__init__" = some Builtin.«list.__init__» := entryFor_of_tree (by kernel_rfl)
theorem e_getitem : entryFor table "list.__getitem__" = some Builtin.«list.__getitem__» := entryFor_of_tree (by kernel_rfl)
theorem e_setitem : entryFor table "list.__setitem__" = some Builtin.«list.__setitem__» := entryFor_of_tree (by kernel_rfl)
theorem e_iter : entryFor table "list.__iter__" = some Builtin.«list.__iter__» := entryFor_of_tree (by kernel_rfl)

variable {x : Addr} {c : Value} {od : Option Addr} {items : Array Value} {ep : Nat} {sl : Array (Option Value)}

theorem sub_append {v : Value} (hx : s.heap.get? x = some ⟨c, od, .seq items ep, sl⟩) (hi : Looks (model prog w) s.heap (isInstance (.ref x) (.type "list")) true) (hz : items.size ≤ sizeLine)
    (h : ∀ h', h'.get? x = some ⟨c, od, .seq (items.push v) (ep + 1), sl⟩ → Heap.SameBut x s.heap h' → Q .none { s with heap := h' }) :
    wpAny (model prog w) A (call (.builtin "list.append") [.ref x, v]) Q E s := by
  refine call_sub k_append (owner := "list") (n := "append") (by decide +kernel) (by decide +kernel) e_append (by unfold argsOk; kernel_rfl) hi ?_
  show wpAny _ _ (do updateSeq x (·.push v); ret .none) _ _ s
  refine wpAny_bind (wpAny_updateSeq (f := (·.push v)) hx rfl (wpAny_pure ⟨_, rfl, h _ ?_ (Heap.SameBut.update ..)⟩) hz (by simp; (with_reducible exact nnD (by assumption) (by decide))))
  have e : Obj.mapSeq (·.push v) ⟨c, od, .seq items ep, sl⟩ = ⟨c, od, .seq (items.push v) (ep + 1), sl⟩ := by
    simp [Obj.mapSeq]
  rw [← e]
  exact Heap.get?_update_self _ hx (by rw [e]; rfl)

end
end
section
open PySem PySem.W PyProof.Rows
set_option Elab.async false
set_option maxRecDepth 100000

noncomputable def KB (fp : List Addr) (h h' : Heap) : Prop := ∀ b o, b ∉ fp → h.get? b = some o → h'.get? b = some o
theorem KB.refl (fp : List Addr) (h : Heap) : KB fp h h := fun _ _ _ e => e
theorem KB.mono {fp fp' : List Addr} {h h' : Heap} (a : KB fp h h') (s : ∀ b ∈ fp, b ∈ fp') : KB fp' h h' := fun c o n e => a c o (fun q => n (s c q)) e
structure Sx (K : Frag) (p : Program) (loose : List Str) (mg mb : Str → Option Value) (fp : List Addr) (h : Heap) : Prop where
  X : K.In (hideAll h fp)
  T : TopRead p loose mg mb (hideAll h fp)

theorem Sx.of {K : Frag} {p : Program} {loose : List Str} {mg mb : Str → Option Value} {fp : List Addr} {h₀ h : Heap} (X : K.In h₀) (T : TopRead p loose mg mb h₀) (k : ∀ b o, h₀.get? b = some o → h.get? b = some o) (n : ∀ b ∈ fp, h₀.get? b = none) : Sx K p loose mg mb fp h :=
  have q : ∀ b o, h₀.get? b = some o → (hideAll h fp).get? b = some o := fun b o e => hideAll_get _ (k b o e) fun hb => by rw [n b hb] at e; cases e
  ⟨X.keeps q, T.keeps q⟩
theorem Sx.cx {K : Frag} {p : Program} {loose : List Str} {mg mb : Str → Option Value} {fp : List Addr} {h : Heap} (c : Sx K p loose mg mb fp h) : Cx K p loose mg mb h :=
  ⟨c.X.keeps fun _ _ e => of_hideAll _ e, c.T.keeps fun _ _ e => of_hideAll _ e⟩

noncomputable def Sm (s s' : Shared) : Prop := s'.os = s.os ∧ s'.drawn = s.drawn ∧ (AllBare s.gens → AllBare s'.gens)
theorem Sm.trans {s s' s'' : Shared} (a : Sm s s') (b : Sm s' s'') : Sm s s'' := ⟨b.1.trans a.1, b.2.1.trans a.2.1, fun x => b.2.2 (a.2.2 x)⟩

section
variable {prog : Program} {w : World} {A : Around} {s : Shared} {K : Frag} {p : Program} {loose : List Str} {mg mb : Str → Option Value}

theorem enterH {Q : Value → Shared → Prop} {E : Value → Shared → Prop} {name qual : Str} {params : Arguments} {body : List Stmt} {scope : Scope} {cl : List (Str × Addr)} {dV kV doc pm cdv ct oc : Value} {an od : Option Addr} {osl : Array (Option Value)} {f : Addr} {vs : List Value} {binds : List (Str × Value)}
    {fp : List Addr} (news : List (Addr × Obj))
    (C : Sx K p loose mg mb fp s.heap)
    (ho : K.lookup f = some ⟨oc, od, .func (fnX name qual params body scope cl dV kV doc pm an cdv ct), osl⟩) (hcd : codeIn K cdv qual = true) (hroom : A.depth < recursionLimit)
    (hbind : BindsTo s (fnX name qual params body scope cl dV kV doc pm an cdv ct) ⟨vs, []⟩ binds) (hloc : ∀ y ∈ binds, scope.names.lookup y.1 = some .local)
    (hn : ∀ q ∈ news, q.1 ∈ fp ∧ s.heap.get? q.1 = some q.2)
    (h : ∀ L' h₁ tk, Fr (hideAll s.heap fp) L' h₁ (lmap (binds.reverse.map fun e => (e.1, some e.2))) → News (hideAll s.heap fp) L' h₁ news → K.In (hideAll s.heap fp) → TopRead p loose mg mb (hideAll s.heap fp) →
      wpAny (model prog w) (A.deeper (envX qual scope L' f cdv cl)) (execs body (envX qual scope L' f cdv cl))
        (fun fl s' => Q (match fl with | .ret v => v | _ => .none) s') NoE { s with heap := h₁, toks := tk })
    (hco : scope.isCoroutine = false) (hgen : scope.isGenerator = false) (hk : scope.kind = .function)
    (hcell : ∀ x ∈ scope.names, x.2 ≠ .cell) : wpAny (model prog w) A (call (.ref f) vs) Q E s := by
  refine wpAny_call ?_
  have C' := C.cx
  refine codeAny_call_def (fd := fnX name qual params body scope cl dV kV doc pm an cdv ct) (body := body) (binds := binds) hroom (C'.X _ _ ho) rfl C'.T.nolimit (codeRec_of C'.X hcd) rfl hbind hcell hloc (fun h₁ hns hk₁ => ?_) hco hgen hk
  refine wpAny_mono (h s.heap.objs.size h₁ _ ⟨by rw [← lmap_lookup]; exact hns, fun b o e => hk₁ b o (of_hideAll _ e), Nat.le_of_eq (hideAll_size _ _)⟩ (fun q hq => ?_) C.X C.T) (fun _ _ x => x) fun _ _ x => x.elim
  obtain ⟨a, e⟩ := hn q hq
  exact ⟨hk₁ _ _ e, Nat.ne_of_lt (Heap.lt_size e), hideAll_none _ a⟩
end

theorem kb_of {h h₁ : Heap} {fp : List Addr} {L : Addr} {m : Str → Option Value} (F : Fr (hideAll h fp) L h₁ m) : KB fp h h₁ := fun b o hb e => F.keep b o (hideAll_get _ e hb)
theorem kb_same {fp : List Addr} {a : Addr} {h h₁ h₂ : Heap} (k : KB fp h h₁) (sb : Heap.SameBut a h₁ h₂) (ha : a ∈ fp) : KB fp h h₂ := fun b o hb e => sb.extBut b o (fun q => hb (q ▸ ha)) (k b o hb e)
theorem hid_get {h : Heap} {fp : List Addr} {b : Addr} {o : Obj} (e : h.get? b = some o) (hb : b ∉ fp) : (hideAll h fp).get? b = some o := hideAll_get _ e hb
theorem ne_of_obj {h : Heap} {a b : Addr} {oa ob : Obj} (ha : h.get? a = some oa) (hb : h.get? b = some ob) (hn : oa ≠ ob) : a ≠ b := fun q => by rw [q, hb] at ha; exact hn (Option.some.inj ha).symm
theorem ne_of_cls {h : Heap} {a b : Addr} {oa ob : Obj} (ha : h.get? a = some oa) (hb : h.get? b = some ob) (hn : oa.cls ≠ ob.cls) : a ≠ b := ne_of_obj ha hb fun q => hn (q ▸ rfl)
theorem fr_but {h₀ h h' : Heap} {L : Addr} {m : Str → Option Value} {fp : List Addr} (F : Fr h₀ L h m) (k : KB fp h h') (nf : ∀ b ∈ fp, b ≠ L ∧ h₀.get? b = none) : Fr h₀ L h' m :=
  ⟨F.ns.at' fun o e => k _ o (fun q => (nf _ q).1 rfl) e, fun b o e => k b o (fun q => by rw [(nf b q).2] at e; cases e) (F.keep b o e), F.above⟩
theorem news_but {h₀ h h' : Heap} {L : Addr} {news : List (Addr × Obj)} {fp : List Addr} (N : News h₀ L h news) (k : KB fp h h') (news' : List (Addr × Obj))
    (hs : ∀ q ∈ news', (q ∈ news ∧ q.1 ∉ fp) ∨ (h'.get? q.1 = some q.2 ∧ q.1 ≠ L ∧ h₀.get? q.1 = none)) : News h₀ L h' news' := fun q hq => by
  rcases hs q hq with ⟨a, b⟩ | c
  · exact ⟨k _ _ b (N q a).1, (N q a).2⟩
  · exact c
theorem nf_of {h₀ h : Heap} {L : Addr} {news : List (Addr × Obj)} {fp : List Addr} (N : News h₀ L h news) (hs : ∀ b ∈ fp, b ∈ news.map (·.1)) : ∀ b ∈ fp, b ≠ L ∧ h₀.get? b = none := fun b hb => by
  obtain ⟨q, hq, e⟩ := List.mem_map.mp (hs b hb)
  exact e ▸ (N q hq).2
theorem fresh_of {h₀ h : Heap} {L q : Addr} {m : Str → Option Value} (F : Fr h₀ L h m) (hq : h.get? q = none) : q ≠ L ∧ h₀.get? q = none := by
  refine ⟨fun e => ?_, ?_⟩
  · obtain ⟨o, es, n, ho, r⟩ := F.ns
    rw [e, ho] at hq
    cases hq
  · cases z : h₀.get? q with
    | none => rfl
    | some o => rw [F.keep _ _ z] at hq; cases hq
theorem new_of {h : Heap} {fp : List Addr} {q : Addr} (e : (hideAll h fp).get? q = none) (hq : q ∉ fp) : h.get? q = none := by
  cases z : h.get? q with
  | none => rfl
  | some o => rw [hideAll_get _ z hq] at e; cases e
end
section
open PySem PySem.W PyProof.Rows PySem.Calls Builtin Builtin.ObjectAttr
set_option Elab.async false
set_option maxRecDepth 100000

section
variable {prog : Program} {w : World} {A : Around} {E : Value → Shared → Prop} {s : Shared} {K : Frag} {x C : Addr} {ox : Obj} {od : Option Obj} {name : Str}

structure SubL (K : Frag) (C : Addr) : Prop where
  ga : findIn K (.ref C) "__getattribute__" = some (some (.builtin "list.__getattribute__"))
  gt : findIn K (.ref C) "__getattr__" = some none
  mro : mroIn K C (.type "list") = some true
theorem sub_inst {M : Model} {h : Heap} (X : K.In h) (I : InstAt h x ox C od) (S : SubL K C) : Looks M h (isInstance (.ref x) (.type "list")) true := I.type.andThen (looks_mroIn X S.mro)

theorem canon_lga : Manifest.canonical "list.__getattribute__" = "object.__getattribute__" := by simpa using PySem.canon_list_getattribute
theorem k_ga : builtinKind "list.__getattribute__" = some .slot ∨ builtinKind "list.__getattribute__" = some .method := by first | exact .inl (by decide +kernel) | exact .inr (by decide +kernel)

theorem sub_get {v : Value} {expr : Bool} {Q : Value → Shared → Prop} (X : K.In s.heap) (I : InstAt s.heap x ox C od) (S : SubL K C)
    (hf : findObj K C od name = some (.value v)) (hh : handedIn v = true) (h : Q v { s with toks := s.toks + 1 }) : wpAny (model prog w) A (getAttr (.ref x) name expr) Q E s := by
  obtain ⟨hh', g, d, t, os⟩ := s
  have L0 := I.type (M := model prog w)
  have L1 := looks_findIn (M := model prog w) X S.ga
  have L2 := looks_findIn (M := model prog w) X S.gt
  have L3 := looks_find (M := model prog w) X I hf
  unfold getAttr getAttrBy
  refine wpAny_bind (wpAny_mkText (wpAny_holding (wpAny_bind (L0.at (wpAny_bind (L1.at ?_))))))
  show wpAny _ _ (getAttrByItsOwn _ _ _ _ _ _) _ _ _
  unfold getAttrByItsOwn hookBefore
  refine wpAny_bind (L2.at ?_)
  refine wpAny_bind (wpAny_attempt (wpAny_holding ?_))
  unfold callGetattribute
  rw [show (expr && onTheHeap (Value.builtin "list.__getattribute__")) = false from Bool.and_false _, if_neg (by decide)]
  unfold boundAndCalled
  rw [PySem.F.slot_list_getattribute.bind]
  refine wpAny_bind (wpAny_pure ?_)
  show wpAny _ _ (call (.builtin "list.__getattribute__") [.ref x, .str name t]) _ _ _
  refine call_sub k_ga (owner := "list") (n := "__getattribute__") (by decide +kernel) (by decide +kernel) PySem.am_entry_list_getattribute (PySem.F.args_list_getattribute_2 _ _) (sub_inst X I S) ?_
  unfold Builtin.«object.__getattribute__»
  refine wpAny_bind (wpAny_pure (wpAny_bind (wpAny_pure (wpAny_bind (L0.at (wpAny_bind (L3.at ?_)))))))
  refine wpAny_pure ⟨v, rfl, ?_⟩
  show wpAny _ _ (handedOut v) _ _ _
  rw [handedOut_of hh]; exact wpAny_pure h

theorem sub_method {f : Value} {pl : Sem Bool} {Q : Value × List Value → Shared → Prop} (X : K.In s.heap) (I : InstAt s.heap x ox C od) (S : SubL K C)
    (hf : findIn K (.ref C) name = some (some f)) (ht : (typeIn K f == some (.type "function") || typeIn K f == some (.type "method_descriptor")) = true) (hs : shadowIn od name = some false) (h : Q (f, [.ref x]) s) :
    wpAny (model prog w) A (getMethod (.ref x) name pl) Q E s := by
  unfold getMethod specialOf
  refine wpAny_bind (wpAny_bind (I.type.here ((looks_findIn X S.ga).here ?_)))
  dsimp only
  rw [canon_lga, if_neg (by decide)]
  refine wpAny_bind (wpAny_bind (I.type.here ((looks_findIn X S.gt).here ?_)))
  have fin : ∀ t, typeIn K f = some t → (t != .type "function" && t != .type "method_descriptor" && t != .type "wrapper_descriptor") = false → wpAny (model prog w) A (do
      let some f ← (typeOf (.ref x) >>= fun t => typeLookup t name) | (do return (← getAttr (.ref x) name, []))
      let tf ← typeOf f
      if tf != .type "function" && tf != .type "method_descriptor" && tf != .type "wrapper_descriptor" then return ← (do return (← getAttr (.ref x) name, []))
      if let some d := (← loadPart x (some headPart)).dict then
        if (← nsGet d name).isSome then return ← (do return (← getAttr (.ref x) name, []))
      rule "call.method-form"
      return (f, [Value.ref x])) Q E s := by
    intro t ht1 ht2
    refine wpAny_bind (wpAny_bind (I.type.here ((looks_findIn X hf).here (wpAny_bind ((looks_typeIn X ht1).here ?_)))))
    rw [ht2, if_neg (by decide)]
    refine wpAny_bind (wpAny_loadPart I.at_ ?_)
    have hd := I.dict
    cases e : ox.dict with
    | none => exact wpAny_bind (wpAny_rule (wpAny_pure h))
    | some dx =>
      cases od with
      | none => rw [e] at hd; exact hd.elim
      | some o =>
        rw [e] at hd
        obtain ⟨r, a, b⟩ := Option.map_eq_some_iff.mp hs
        refine wpAny_bind (wpAny_bind (wpAny_loadPart hd ?_))
        rw [nsLook_of a]
        refine wpAny_pure ?_
        rw [b]
        exact wpAny_bind (wpAny_rule (wpAny_pure h))
  rcases Bool.or_eq_true_iff.mp ht with q | q
  · exact fin _ (beq_iff_eq.mp q) (by decide +kernel)
  · exact fin _ (beq_iff_eq.mp q) (by decide +kernel)

theorem list_passes (self : Value) : refuseLoop self "__setattr__" [.type "list", .type "object"] = pure () := by kernel_rfl

noncomputable def subOver (K : Frag) (C : Addr) : Bool := (clsIn K C).any fun cd => cd.hasDict && cd.mro == [.ref C, .type "list", .type "object"]

theorem sub_set {od : Obj} {od' : Tok → Obj} {dx : Addr} {v : Value} {es : Tok → List DictEntry} {n : Tok → Nat} {Q : Unit → Shared → Prop} (X : K.In s.heap) (I : InstAt s.heap x ox C (some od)) (hd : ox.dict = some dx) (hp : subOver K C = true)
    (hs : findIn K (.ref C) "__setattr__" = some (some (.builtin "object.__setattr__"))) (ht : takerIn K C name = some none) (hl : (lookIn name od).isSome = true)
    (e : ∀ tk, Obj.putName name (PyData.keyHash w.params name) (.str name tk) v od = od' tk) (e' : ∀ tk, (od' tk).data = .dict (es tk).toArray (n tk)) (hz : ∀ tk, (es tk).length ≤ 1000)
    (h : ∀ h', h'.get? dx = some (od' (s.toks + 1)) → Heap.SameBut dx s.heap h' → Q () { s with heap := h', toks := s.toks + 2 }) :
    wpAny (model prog w) A (setAttr (.ref x) name v) Q E s := by
  have SF := PySem.F.store_object
  obtain ⟨cd, hc, ho⟩ := any_some hp
  rw [Bool.and_eq_true, beq_iff_eq] at ho
  obtain ⟨hdict, hmro⟩ := ho
  have sub : Looks (model prog w) s.heap (isInstance (.ref x) (.type "object")) true := I.type.andThen (looks_mroIn X (by unfold mroIn; rw [hc, Option.bind_some, if_neg (by rw [hmro]; exact Bool.false_ne_true), hmro]; simp))
  refine set_plain X I hs ?_
  obtain ⟨hh, g, dr, t, os⟩ := s
  dsimp only at X I h sub ⊢
  refine codeAny_call_builtin SF.slot.plain SF.entry (@check_slot (model prog w) _ _ ⟨hh, g, dr, t + 1, os⟩ "object.__setattr__" "object" "__setattr__" (.ref x) [.str name t, v] [] _ SF.kind SF.split sub (SF.args (.ref x) (.str name t) v) ?_)
  obtain ⟨attr, ha, hr⟩ := Option.bind_eq_some_iff.mp ht
  have hm : Looks (model prog w) hh (mroOf (.ref C)) cd.mro := (looks_clsIn X hc).andThen .now
  have L3 : Looks (model prog w) hh (storeTaker? attr) none := by
    cases attr with
    | none => exact .now
    | some a =>
      obtain ⟨b, hb, q⟩ := Option.map_eq_some_iff.mp hr
      refine (looks_takesIn X hb).andThen ?_
      cases b
      · exact .now
      · cases q
  rw [osa_eq, refuse_eq]
  refine wpAny_bind (wpAny_bind (I.type.at (wpAny_bind (hm.at ?_))))
  rw [hmro, refuseLoop_ref, list_passes]
  refine wpAny_pure (wpAny_bind (I.type.at (wpAny_bind ((looks_findIn X ha).at (wpAny_bind (L3.at ?_))))))
  have D : hh.get? dx = some od := by have := I.dict; rw [hd] at this; exact this
  have hx := I.at_
  have D' := Heap.get?_update_self (h := hh) (Obj.putName name (PyData.keyHash w.params name) (.str name (t + 1)) v) D (by rw [e]; have := e' (t + 1); cases q : od' (t + 1); rw [q] at this; simp only at this; subst this; rfl)
  rw [e] at D'
  obtain ⟨oc, odi, oda, osl⟩ := ox
  have hcl := I.cls
  dsimp only at hcl hd
  subst hcl hd
  refine wpAny_bind (wpAny_pure (wpAny_bind (wpAny_bind (wpAny_loadPart hx (wpAny_bind ((looks_clsIn X hc).at ?_))))))
  rw [hdict]
  refine wpAny_pure (a := some dx) (wpAny_bind (wpAny_pure (wpAny_bind ?_)))
  unfold nsSet
  refine wpAny_bind (wpAny_bind (wpAny_askSetting (wpAny_pure (wpAny_bind (wpAny_mkText (wpAny_bind (wpAny_loadPart D ?_)))))))
  unfold lookIn at hl
  split at hl
  · rename_i es₀ n₀ q
    rw [q]
    dsimp only
    have c : (!es₀.any (·.key.isStr name) && es₀.any (·.refKey)) = false := by
      rw [← Array.any_toList, ← Array.any_toList]
      split at hl
      · rename_i en he
        rw [List.any_eq_true.mpr ⟨en, List.mem_of_find?_eq_some he, List.find?_some he⟩]; rfl
      · split at hl
        · cases hl
        · rename_i z; rw [Bool.not_eq_true] at z; rw [z, Bool.and_false]
    rw [aRefKeyMayBeTheName_at, c]
    refine wpAny_updatePart D ?_
    refine wpAny_bind (wpAny_lookBehind D' (by rw [e']; exact pastItsLine_dict (by rw [List.size_toArray, sizeLine_eq]; have := hz (t + 1); (with_reducible exact nnD (by assumption) (by decide)))) ?_)
    exact wpAny_pure (h _ D' (Heap.SameBut.update ..))
  · cases hl
end
end
section
open PySem PySem.W PyProof.Rows PySem.Calls Builtin
set_option Elab.async false
set_option maxRecDepth 100000

section
variable {prog : Program} {w : World} {A : Around} {E : Value → Shared → Prop} {s : Shared} {K : Frag} {x C : Addr} {ox : Obj} {od : Option Obj} {name : Str} {items : Array Value} {ep : Nat}

theorem special_bi {M : Model} {id : String} {args : List Value} {Q : Option Value → Shared → Prop} (X : K.In s.heap) (I : InstAt s.heap x ox C od)
    (hs : findIn K (.ref C) name = some (some (.builtin id))) (hb : ∀ self, bindSpecial (.builtin id) self = pure (.builtin id, [self])) (h : wpAny M A (call (.builtin id) (.ref x :: args)) (fun v => Q (some v)) E s) :
    wpAny M A (callSpecial? (.ref x) name args) Q E s := by
  unfold callSpecial? specialOf
  refine wpAny_bind (wpAny_bind (I.type.here ((looks_findIn X hs).here (wpAny_holding ?_))))
  rw [hb]
  exact wpAny_bind (wpAny_pure (wpAny_bind (wpAny_mono h (fun _ _ z => wpAny_pure z) fun _ _ z => z)))

theorem sub_seqKey {M : Model} {k : Value} {Q : Value → Shared → Prop} (X : K.In s.heap) (I : InstAt s.heap x ox C od) (hq : noSeq K C = true) (h : Q k s) : wpAny M A (sequenceKey (.ref x) k name) Q E s := by
  unfold sequenceKey
  refine wpAny_bind (I.type.here ?_)
  refine wpAny_bind ((anyM_none X hq).here ?_)
  rw [if_pos (show (!false) = true from rfl)]
  exact wpAny_pure h

theorem sub_item {k : Int} {t : Tok} {v : Value} {Q : Value → Shared → Prop} (X : K.In s.heap) (I : InstAt s.heap x ox C od) (S : SubL K C) (hd : ox.data = .seq items ep) (hq : noSeq K C = true)
    (hs : findIn K (.ref C) "__getitem__" = some (some (.builtin "list.__getitem__"))) (h0 : 0 ≤ k) (hfit : k < 2 ^ 63) (hx : items[k.toNat]? = some v) (h : Q v s) : wpAny (model prog w) A (getItem (.ref x) (.int k t)) Q E s := by
  have ho := I.at_
  unfold getItem
  refine wpAny_holding (wpAny_bind (sub_seqKey X I hq ?_))
  refine wpAny_bind (special_bi X I hs slot_list_getitem.bind ?_)
  refine call_sub k_getitem (owner := "list") (n := "__getitem__") (by decide +kernel) (by decide +kernel) e_getitem (args_list_getitem _ _) (sub_inst X I S) ?_
  show wpAny _ _ (Builtin.List.listSubscript? (.int k t) >>= _) _ _ s
  refine wpAny_bind (wpAny_listSubscript_int (fitsIndex_of h0 hfit) ?_)
  clear hfit
  obtain ⟨j, rfl⟩ := Int.eq_ofNat_of_zero_le h0
  have hx' : items[j]? = some v := hx
  show wpAny _ _ ((seqItemAt x j >>= fun r => pure (r.map (j, ·))) >>= _) _ _ s
  refine wpAny_bind (wpAny_bind (wpAny_seqItemAt ho hd (wpAny_pure ?_)))
  rw [hx']
  first
    | exact wpAny_bind (wpAny_pure (wpAny_pure ⟨v, rfl, wpAny_pure h⟩))
    | exact wpAny_pure ⟨v, rfl, wpAny_pure h⟩

theorem parts_run {M : Model} {sl : Addr} {vl vu : Value} {lo hi : Option Int} {Q : Value × Value × Value → Shared → Prop} (hs : s.heap.IsSliceOf sl vl vu .none) (pl : IsPart vl lo) (pu : IsPart vu hi)
    (h : Q (rawPart lo, rawPart hi, rawPart none) s) : wpAny M A (Builtin.List.listSliceParts (.ref sl)) Q E s := by
  obtain ⟨os, hos, hcs, hds⟩ := hs
  rw [listSliceParts_eq]
  refine wpAny_bind (wpAny_field hos hds (x := .none) rfl (wpAny_bind (wpAny_listPart .none ?_)))
  rw [if_neg (show ¬ ((rawPart none == rawInt 0) = true) from Bool.false_ne_true)]
  refine wpAny_bind (wpAny_field hos hds (x := vl) rfl (wpAny_bind (wpAny_listPart pl ?_)))
  exact wpAny_bind (wpAny_field hos hds (x := vu) rfl (wpAny_bind (wpAny_listPart pu (wpAny_pure h))))

theorem sub_slice {sl : Addr} {vl vu : Value} {lo hi : Option Int} {Q : Value → Shared → Prop} (X : K.In s.heap) (I : InstAt s.heap x ox C od) (S : SubL K C) (hd : ox.data = .seq items ep) (hq : noSeq K C = true)
    (hgi : findIn K (.ref C) "__getitem__" = some (some (.builtin "list.__getitem__"))) (hs : s.heap.IsSliceOf sl vl vu .none) (pl : IsPart vl lo) (pu : IsPart vu hi) (hz : items.size ≤ sizeLine)
    (h : Q (.ref s.heap.objs.size) { s with heap := s.heap.push { cls := .type "list", data := .seq (slicePick items lo hi none) } }) : wpAny (model prog w) A (getItem (.ref x) (.ref sl)) Q E s := by
  have ho := I.at_
  obtain ⟨os, hos, hcs, hds⟩ := id hs
  have hTs : s.TypeIs (.ref sl) "slice" := ⟨os, hos, hcs⟩
  unfold getItem
  refine wpAny_holding (wpAny_bind (sub_seqKey X I hq ?_))
  refine wpAny_bind (special_bi X I hgi slot_list_getitem.bind ?_)
  refine call_sub k_getitem (owner := "list") (n := "__getitem__") (by decide +kernel) (by decide +kernel) e_getitem (args_list_getitem _ _) (sub_inst X I S) ?_
  show wpAny _ _ (Builtin.List.listSubscript? (.ref sl) >>= _) _ _ s
  refine wpAny_bind ?_
  unfold Builtin.List.listSubscript?
  refine wpAny_bind (wpAny_specialOf hTs slice_no_index ?_)
  simp only [Option.isNone_none, if_true]
  refine wpAny_pure ?_
  show wpAny _ _ (typeOf (.ref sl) >>= _) _ _ s
  refine wpAny_bind (wpAny_typeOf hTs ?_)
  rw [if_neg (by decide)]
  refine wpAny_bind (parts_run hs pl pu ?_)
  refine wpAny_bind (m := Builtin.List.listItems (.ref x)) (wpAny_listItems ho hd ?_)
  refine wpAny_bind (wpAny_of_eq (sliceIndices_raw lo hi none items.size (by simp)) ?_)
  exact wpAny_bind (wpAny_newObj_type (wpAny_pure ⟨_, rfl, wpAny_pure h⟩) (Nat.le_trans (slicePick_size_le items lo hi none) hz))

theorem sub_setSlice {sl y : Addr} {vl vu : Value} {lo hi : Option Int} {oy : Obj} {new : Array Value} {ey : Nat} {Q : Unit → Shared → Prop} (X : K.In s.heap) (I : InstAt s.heap x ox C od) (S : SubL K C) (hd : ox.data = .seq items ep) (hq : noSeq K C = true)
    (hgi : findIn K (.ref C) "__setitem__" = some (some (.builtin "list.__setitem__"))) (hs : s.heap.IsSliceOf sl vl vu .none) (pl : IsPart vl lo) (pu : IsPart vu hi)
    (hy : s.heap.get? y = some oy) (hyc : oy.cls = .type "list") (hyd : oy.data = .seq new ey) (hxy : x ≠ y)
    (res : Array Value) (hres : items.extract 0 (sliceBounds lo hi none items.size).1.toNat ++ new ++ items.extract (max (sliceBounds lo hi none items.size).1 (sliceBounds lo hi none items.size).2.1).toNat items.size = res)
    (hz : items.size + new.size ≤ sizeLine) (hz2 : res.size ≤ sizeLine)
    (h : ∀ h' ep', h'.get? x = some { ox with data := .seq res ep' } → Heap.SameBut x s.heap h' → Q () { s with heap := h' }) : wpAny (model prog w) A (setItem (.ref x) (.ref sl) (.ref y)) Q E s := by
  have ho := I.at_
  obtain ⟨os, hos, hcs, hds⟩ := id hs
  have hTs : s.TypeIs (.ref sl) "slice" := ⟨os, hos, hcs⟩
  have hTy : s.TypeIs (.ref y) "list" := ⟨oy, hy, hyc⟩
  unfold setItem
  refine wpAny_holding (wpAny_bind (sub_seqKey X I hq ?_))
  refine wpAny_bind (special_bi X I hgi slot_list_setitem.bind ?_)
  refine call_sub k_setitem (owner := "list") (n := "__setitem__") (by decide +kernel) (by decide +kernel) e_setitem (args_list_setitem _ _ _) (sub_inst X I S) ?_
  show wpAny _ _ (Builtin.List.listSubscript? (.ref sl) >>= _) _ _ s
  refine wpAny_bind ?_
  unfold Builtin.List.listSubscript?
  refine wpAny_bind (wpAny_specialOf hTs slice_no_index ?_)
  simp only [Option.isNone_none, if_true]
  refine wpAny_pure ?_
  show wpAny _ _ (typeOf (.ref sl) >>= _) _ _ s
  refine wpAny_bind (wpAny_typeOf hTs ?_)
  rw [if_neg (by decide)]
  refine wpAny_bind (parts_run hs pl pu ?_)
  dsimp only
  rw [show Builtin.List.listSameRef (.ref x) (.ref y) = false from beq_eq_false_iff_ne.mpr hxy]
  simp only [Bool.false_eq_true, if_false]
  refine wpAny_bind (m := Builtin.List.listAllItems _ _) ?_
  unfold Builtin.List.listAllItems
  refine wpAny_bind (wpAny_typeOf hTy ?_)
  rw [if_pos (by decide)]
  refine wpAny_listItems hy hyd ?_
  refine wpAny_bind (m := Builtin.List.listItems (.ref x)) (wpAny_listItems ho hd ?_)
  refine wpAny_bind (wpAny_of_eq (sliceIndices_raw lo hi none items.size (by simp)) ?_)
  try dsimp only
  have e1 : (sliceBounds lo hi none items.size).2.2 = 1 := rfl
  rw [if_pos (by rw [e1]; rfl)]
  refine wpAny_bind (wpAny_rule ?_)
  rw [if_neg (by unfold Builtin.List.listTooLong; simpa using hz)]
  subst hres
  refine wpAny_bind (wpAny_updateSeq (a := x) ho hd ?_ (by (with_reducible exact nnY (by assumption))) (Nat.le_succ_of_le hz2))
  refine wpAny_bind (wpAny_letGo (wpAny_pure ⟨_, rfl, wpAny_pure ?_⟩))
  obtain ⟨oc, odd, odt, osl⟩ := ox
  simp only at hd
  subst hd
  have q := Heap.get?_update_self (h := s.heap) (Obj.mapSeq fun xs => xs.extract 0 (sliceBounds lo hi none items.size).1.toNat ++ new ++ xs.extract (max (sliceBounds lo hi none items.size).1 (sliceBounds lo hi none items.size).2.1).toNat xs.size) ho rfl
  exact h _ _ q (Heap.SameBut.update ..)

theorem sub_subscript {value slice : Expr} {i : Value} {id : String} {ops : List Value} {Q : Value → Shared → Prop} (X : K.In s.heap) (I : InstAt s.heap x ox C od)
    (hs : findIn K (.ref C) "__getitem__" = some (some (.builtin id))) (h : wpAny (model prog w) A (getItem (.ref x) i) Q E s)
    (hsl : subscripted slice false (.ref x) i = operate ops (getItem (.ref x) i)) :
    wpAny (model prog w) A (subscriptTail value slice (.ref x) i) Q E s := by
  unfold subscriptTail
  refine wpAny_bind ?_
  rw [getitemInPython_of_ne (by intro q; cases q)]
  unfold specialOf
  refine wpAny_bind (wpAny_bind (I.type.here ((looks_findIn X hs).here ?_)))
  dsimp only
  refine wpAny_pure ?_
  rw [hsl]
  exact wpAny_bind (wpAny_operating (wpAny_mono h (fun r s₃ h₃ => wpAny_bind (wpAny_letTemporaryGo (wpAny_pure h₃))) fun _ _ x => x))
end
end
section
open PySem PySem.W PyProof.Rows PySem.Calls Builtin
set_option Elab.async false
set_option maxRecDepth 100000

noncomputable def IsSeq (h : Heap) (a : Addr) (items : Array Value) : Prop := ∃ o, h.get? a = some o ∧ ∃ n, o.data = .seq items n
theorem IsSeq.keep {h h' : Heap} {a : Addr} {items : Array Value} (x : IsSeq h a items) (k : ∀ o, h.get? a = some o → h'.get? a = some o) : IsSeq h' a items := let ⟨o, e, r⟩ := x; ⟨o, k o e, r⟩
theorem iter_keep {h h' : Heap} {a l : Addr} {i : Nat} (x : h.IsListIter a l i) (k : ∀ o, h.get? a = some o → h'.get? a = some o) : h'.IsListIter a l i := let ⟨o, e, r⟩ := x; ⟨o, k o e, r⟩
theorem tup_keep {h h' : Heap} {a : Addr} {v : Array Value} (x : h.IsTuple a v) (k : ∀ o, h.get? a = some o → h'.get? a = some o) : h'.IsTuple a v := let ⟨o, e, r⟩ := x; ⟨o, k o e, r⟩

noncomputable def tsOf (items : Array Value) (i : Nat) : Addr := match items[i]? with | some (.ref a) => a | _ => 0
noncomputable def PartsAt (h : Heap) (items : Array Value) (ps : List (Str × Str)) : Prop :=
  items.size = ps.length ∧ ∀ i p, ps[i]? = some p → items[i]? = some (.ref (tsOf items i)) ∧ ∃ t u, h.IsTuple (tsOf items i) #[.str p.1 t, .str p.2 u]
theorem PartsAt.keep {h h' : Heap} {items : Array Value} {ps : List (Str × Str)} (x : PartsAt h items ps) (k : ∀ b v, h.IsTuple b v → h'.IsTuple b v) : PartsAt h' items ps :=
  ⟨x.1, fun i p e => let ⟨a, t, u, r⟩ := x.2 i p e; ⟨a, t, u, k _ _ r⟩⟩

section
variable {prog : Program} {w : World} {A : Around} {E : Value → Shared → Prop} {s : Shared} {K : Frag} {x C : Addr} {ox : Obj} {od : Option Obj} {name : Str} {items : Array Value} {ep : Nat}

theorem next_item {it l : Addr} {i : Nat} {v : Value} {Q : Option Value → Shared → Prop} (hit : s.heap.IsListIter it l i) (hl : IsSeq s.heap l items) (hx : items[i]? = some v)
    (hQ : ∀ h', h'.IsListIter it l (i + 1) → Heap.SameBut it s.heap h' → Q (some v) { s with heap := h' }) : wpAny (model prog w) A (pyNext (.ref it)) Q E s := by
  obtain ⟨o, ho, hc, hd⟩ := id hit
  obtain ⟨ol, hol, nl, hdl⟩ := hl
  unfold pyNext
  refine wpAny_bind (wpAny_attempt (wpAny_callSpecial?_slot (name := Str.ofString "__next__") hit.typeIs slot_listiter_next (wpAny_call_entry slot_listiter_next hit.typeIs entry_listiter_next ?_ (args_listiter_next _))))
  show wpAny _ _ (field (.ref it) 0 >>= _) _ _ s
  refine wpAny_bind (wpAny_field ho hd (x := .ref l) rfl ?_)
  show wpAny _ _ (if (Value.ref l == Value.none) = true then _ else _) _ _ s
  rw [if_neg (show ¬ ((Value.ref l == Value.none) = true) from Bool.false_ne_true)]
  show wpAny _ _ (field (.ref it) 1 >>= _) _ _ s
  refine wpAny_bind (wpAny_field ho hd (x := .int i 0) rfl ?_)
  show wpAny _ _ (seqItems? (.ref l) >>= _) _ _ s
  refine wpAny_bind (wpAny_seqItems hol hdl ?_)
  simp only [Int.toNat_natCast, hx]
  refine wpAny_bind (wpAny_setField ho hd (by simp) (wpAny_pure ⟨v, rfl, wpAny_pure (hQ _ ?_ (Heap.SameBut.update ..))⟩))
  exact ⟨_, Heap.get?_update_self _ ho (Obj.isFreed_of_fields (Obj.data_mapFields hd _)), (Obj.cls_mapFields ..).trans hc, by rw [Obj.data_mapFields hd]; simp [rawInt]⟩

theorem next_end {it l : Addr} {i : Nat} {Q : Option Value → Shared → Prop} (hh : A.handled = none) (hit : s.heap.IsListIter it l i) (hl : IsSeq s.heap l items) (hx : items[i]? = none)
    (hQ : ∀ h', Heap.ExtBut it s.heap h' → Q none { s with heap := h' }) : wpAny (model prog w) A (pyNext (.ref it)) Q E s := by
  obtain ⟨o, ho, hc, hd⟩ := id hit
  obtain ⟨ol, hol, nl, hdl⟩ := hl
  unfold pyNext
  refine wpAny_bind (wpAny_attempt (wpAny_callSpecial?_slot (name := Str.ofString "__next__") hit.typeIs slot_listiter_next (wpAny_call_entry slot_listiter_next hit.typeIs entry_listiter_next ?_ (args_listiter_next _))))
  show wpAny _ _ (field (.ref it) 0 >>= _) _ _ s
  refine wpAny_bind (wpAny_field ho hd (x := .ref l) rfl ?_)
  show wpAny _ _ (if (Value.ref l == Value.none) = true then _ else _) _ _ s
  rw [if_neg (show ¬ ((Value.ref l == Value.none) = true) from Bool.false_ne_true)]
  show wpAny _ _ (field (.ref it) 1 >>= _) _ _ s
  refine wpAny_bind (wpAny_field ho hd (x := .int i 0) rfl ?_)
  show wpAny _ _ (seqItems? (.ref l) >>= _) _ _ s
  refine wpAny_bind (wpAny_seqItems hol hdl ?_)
  simp only [Int.toNat_natCast, hx]
  refine wpAny_bind (wpAny_rule (wpAny_bind (wpAny_setField ho hd (by simp) ?_)))
  show wpAny _ _ (newExc (.type "StopIteration") [] >>= _) _ _ _
  refine wpAny_bind ?_
  simp only [newExc, newTuple]
  refine wpAny_bind (wpAny_newObj_type ?_ (by size_fits))
  refine wpAny_bind (m := firstArgMember _ _) (wpAny_of_eq (a := Value.none) (by first | rfl | (simp only [firstArgMember]; rfl)) ?_)
  refine wpAny_newObj_type ?_ (by size_fits)
  simp only [raiseNew]
  refine wpAny_bind (wpAny_handled ?_)
  rw [show A.in1.handled = none from hh]
  refine wpAny_bind (wpAny_pure (wpAny_throw ?_))
  refine wpAny_bind (wpAny_isInstance (T := "StopIteration") (b := true) ⟨_, Heap.get?_push_size _ rfl, rfl⟩ isSubtype_stop ?_)
  exact wpAny_pure (hQ _ (((Heap.SameBut.update ..).extBut.push _).push _))

theorem walks_parts (hh : A.handled = none) (I ax : Addr) (hne : ax ≠ I) (items : Array Value) (ps : List (Str × Str)) (hz : items.size = ps.length)
    (hTI : ∀ j, j < items.size → tsOf items j ≠ I) :
    WalksU prog w A I (I :: ax :: (List.range items.size).map (tsOf items)) [I] items.size (fun j v => ∃ p t u, ps[j]? = some p ∧ v = #[.str p.1 t, .str p.2 u])
      (fun j h => h.IsListIter I ax j ∧ IsSeq h ax items ∧ PartsAt h items ps)
      (fun j T h => (j < items.size ∧ T = tsOf items j) ∧ h.IsListIter I ax (j + 1) ∧ IsSeq h ax items ∧ PartsAt h items ps) where
  sub := fun b hb => by simp at hb; simp [hb]
  frame := fun _ h h' st hk => ⟨iter_keep st.1 fun o e => hk I (by simp) o e, st.2.1.keep fun o e => hk ax (by simp) o e,
    ⟨st.2.2.1, fun i p e => by
      obtain ⟨a, t, u, r⟩ := st.2.2.2 i p e
      refine ⟨a, t, u, tup_keep r fun o e' => hk _ ?_ o e'⟩
      have hi : i < items.size := by rw [hz]; exact (List.getElem?_eq_some_iff.mp e).1
      exact List.mem_cons_of_mem _ (List.mem_cons_of_mem _ (List.mem_map.mpr ⟨i, List.mem_range.mpr hi, rfl⟩))⟩⟩
  item := fun i s Q E hi st hQ => by
    obtain ⟨p, hp⟩ : ∃ p, ps[i]? = some p := ⟨ps[i], List.getElem?_eq_getElem (by lia)⟩
    obtain ⟨a, t, u, r⟩ := st.2.2.2 i p hp
    refine next_item st.1 st.2.1 a fun h' hit' hs' => ?_
    have pa : PartsAt h' items ps := ⟨hz, fun j q e => by
      obtain ⟨a', t', u', r'⟩ := st.2.2.2 j q e
      have hj : j < items.size := by rw [hz]; exact (List.getElem?_eq_some_iff.mp e).1
      exact ⟨a', t', u', tup_keep r' fun o e' => hs'.extBut _ o (hTI j hj) e'⟩⟩
    exact hQ (tsOf items i) _ h' s.toks ⟨p, t, u, hp, rfl⟩ (tup_keep r fun o e' => hs'.extBut _ o (hTI i hi) e') ⟨⟨hi, rfl⟩, hit', st.2.1.keep (fun o e' => hs'.extBut _ o hne e'), pa⟩ fun b o hb e => hs'.extBut b o (fun h => hb (by simp [h])) e
  go := fun _ _ _ _ _ s Q _ hm hQ => wpAny_letOwnedTupleGo_listiter hm.2.1 (hQ s.heap hm.2 fun _ _ _ e => e)
  apart := fun j T _ hm hmem => by
    rcases List.mem_cons.mp hmem with e | e
    · exact hTI j hm.1.1 (hm.1.2 ▸ e)
    · cases e
  done := fun s Q E st hQ => next_end hh st.1 st.2.1 (by simp) fun h' he' => hQ h' s.toks fun b o hb e => he' b o (fun h => hb (by simp [h])) e
  self := fun _ _ _ _ st hQ => wpAny_pyIter_listiter st.1 hQ

theorem sub_iter {Q : Value → Shared → Prop} (X : K.In s.heap) (I : InstAt s.heap x ox C od) (S : SubL K C) (hs : findIn K (.ref C) "__iter__" = some (some (.builtin "list.__iter__")))
    (hQ : Q (.ref s.heap.objs.size) { s with heap := s.heap.push { cls := .type "list_iterator", data := .fields #[.ref x, .int 0 0] } }) : wpAny (model prog w) A (pyIter (.ref x)) Q E s := by
  unfold pyIter specialOf
  refine wpAny_bind (wpAny_bind (I.type.here ((looks_findIn X hs).here ?_)))
  dsimp only
  refine wpAny_bind (m := callSpecialIfBoundUnlessNone? _ _ _) ?_
  unfold callSpecialIfBoundUnlessNone? bindSpecialIfBound? specialOf
  refine wpAny_holding (wpAny_bind (wpAny_bind (wpAny_bind (I.type.here ((looks_findIn X hs).here ?_)))))
  simp only [slot_list_iter.bind]
  refine wpAny_bind (wpAny_askSetting (wpAny_ite ?_))
  have core : ∀ (Q' : Value → Shared → Prop), Q' (.ref s.heap.objs.size) { s with heap := s.heap.push { cls := .type "list_iterator", data := .fields #[.ref x, .int 0 0] } } → wpAny (model prog w) A (call (.builtin "list.__iter__") [.ref x]) Q' E s := by
    intro Q' q
    refine call_sub k_iter (owner := "list") (n := "__iter__") (by decide +kernel) (by decide +kernel) e_iter (args_list_iter _) (sub_inst X I S) ?_
    show wpAny _ _ (do ret (← newFields "list_iterator" [.ref x, rawInt 0])) _ _ s
    exact wpAny_bind (wpAny_newObj_type (wpAny_pure ⟨_, rfl, q⟩))
  have fin : wpAny (model prog w) A (call (.builtin "list.__iter__") [.ref x] >>= fun v => pure (some v)) (fun r s' => wpAny (model prog w) A (match r with
      | some it => (do
        match ← (do let t ← typeOf it; typeLookup t "__next__") with
        | none => do rule "iter.non-iterator"; raiseError "TypeError" s!"iter() returned non-iterator of type '{← typeNameOf it}'"
        | some _ => pure it)
      | none => (do
        match ← bindSpecialIfBound? (.ref x) "__getitem__" with
        | none => do rule "iter.not-iterable"; raiseError "TypeError" s!"'{← typeNameOf (.ref x)}' object is not iterable"
        | some _ => do rule "iter.getitem-fallback"; newFields "iterator" [.ref x, ← mkInt 0])) Q E s') E s := by
    refine wpAny_bind (core _ (wpAny_pure ?_))
    dsimp only
    exact wpAny_bind (wpAny_specialOf (T := "list_iterator") ⟨_, Heap.get?_push_size _ rfl, rfl⟩ slot_listiter_next.lookup (wpAny_pure hQ))
  split
  · exact wpAny_bind (wpAny_pure (wpAny_pure fin))
  · exact wpAny_tryCatch (wpAny_bind (wpAny_pure (wpAny_pure fin)))
end
end
section
open PySem PySem.W PyProof.Rows PySem.Calls Builtin
set_option Elab.async false
set_option maxRecDepth 100000

noncomputable abbrev bndO (ty id : String) (x : Addr) : Obj := { cls := .type ty, data := .fields #[.builtin id, .ref x] }

section
variable {prog : Program} {w : World} {A : Around} {E : Value → Shared → Prop} {h : Heap} {g : Array GenState} {d : Drawn} {t : Nat} {os : OsState} {x C : Addr}
structure Bnd (prog : Program) (w : World) (id ty : String) : Prop where
  typ : ∃ T gid, pureOf (fastBuiltinType id) = some (.type T) ∧ typeLookup (.type T) "__get__" = pure (some (.builtin gid)) ∧
    ∀ (A : Around) (E : Value → Shared → Prop) (h : Heap) (g : Array GenState) (d : Drawn) (t : Nat) (os : OsState) (x C : Addr) (Q : Value → Shared → Prop), Looks (model prog w) h (isInstance (.ref x) (.type "list")) true →
      Q (.ref h.objs.size) ⟨h.push (bndO ty id x), g, d, t, os⟩ → wpAny (model prog w) A (call (.builtin gid) [.builtin id, .ref x, .ref C]) Q E ⟨h, g, d, t, os⟩

theorem wd_kind : builtinKind "wrapper_descriptor.__get__" = some .slot ∨ builtinKind "wrapper_descriptor.__get__" = some .method := by first | exact .inl (by decide +kernel) | exact .inr (by decide +kernel)
theorem wd_entry : entryFor table "wrapper_descriptor.__get__" = some Builtin.«wrapper_descriptor.__get__» := entryFor_of_tree (by kernel_rfl)
theorem wd_lookup : typeLookup (.type "wrapper_descriptor") "__get__" = pure (some (.builtin "wrapper_descriptor.__get__")) := by rw [typeLookup_type, builtinLookup_eq_fast]; kernel_rfl
theorem wd_args (a b c : Value) : argsOk "wrapper_descriptor.__get__" ⟨[a, b, c], []⟩ := by unfold argsOk; kernel_rfl
theorem md_kind : builtinKind "method_descriptor.__get__" = some .slot ∨ builtinKind "method_descriptor.__get__" = some .method := by first | exact .inl (by decide +kernel) | exact .inr (by decide +kernel)
theorem md_entry : entryFor table "method_descriptor.__get__" = some Builtin.«method_descriptor.__get__» := entryFor_of_tree (by kernel_rfl)
theorem md_lookup : typeLookup (.type "method_descriptor") "__get__" = pure (some (.builtin "method_descriptor.__get__")) := by rw [typeLookup_type, builtinLookup_eq_fast]; kernel_rfl
theorem md_args (a b c : Value) : argsOk "method_descriptor.__get__" ⟨[a, b, c], []⟩ := by unfold argsOk; kernel_rfl

theorem bnd_len : Bnd prog w "list.__len__" "method-wrapper" := by
  refine ⟨"wrapper_descriptor", _, by decide +kernel, wd_lookup, fun A E h g d t os x C Q hi hq => ?_⟩
  refine call_sub wd_kind (owner := "wrapper_descriptor") (n := "__get__") (by decide +kernel) (by decide +kernel) wd_entry (wd_args _ _ _) (Looks.of_pure (by kernel_rfl)) ?_
  unfold Builtin.«wrapper_descriptor.__get__»
  refine wpAny_bind (wpAny_pure (wpAny_bind (wpAny_bind (wpAny_pure (wpAny_bind ?_)))))
  have e : ∀ (f : Sem Bool), f = isInstance (.ref x) (.type "list") → Looks (model prog w) h f true := fun f q => q ▸ hi
  refine (e _ (by kernel_rfl)).at ?_
  exact wpAny_pure (wpAny_bind (wpAny_newObj_type (wpAny_pure ⟨_, rfl, hq⟩)))
theorem bnd_init : Bnd prog w "list.__init__" "method-wrapper" := by
  refine ⟨"wrapper_descriptor", _, by decide +kernel, wd_lookup, fun A E h g d t os x C Q hi hq => ?_⟩
  refine call_sub wd_kind (owner := "wrapper_descriptor") (n := "__get__") (by decide +kernel) (by decide +kernel) wd_entry (wd_args _ _ _) (Looks.of_pure (by kernel_rfl)) ?_
  unfold Builtin.«wrapper_descriptor.__get__»
  refine wpAny_bind (wpAny_pure (wpAny_bind (wpAny_bind (wpAny_pure (wpAny_bind ?_)))))
  have e : ∀ (f : Sem Bool), f = isInstance (.ref x) (.type "list") → Looks (model prog w) h f true := fun f q => q ▸ hi
  refine (e _ (by kernel_rfl)).at ?_
  exact wpAny_pure (wpAny_bind (wpAny_newObj_type (wpAny_pure ⟨_, rfl, hq⟩)))
theorem bnd_pop : Bnd prog w "list.pop" "builtin_function_or_method" := by
  refine ⟨"method_descriptor", _, by decide +kernel, md_lookup, fun A E h g d t os x C Q hi hq => ?_⟩
  refine call_sub md_kind (owner := "method_descriptor") (n := "__get__") (by decide +kernel) (by decide +kernel) md_entry (md_args _ _ _) (Looks.of_pure (by kernel_rfl)) ?_
  unfold Builtin.«method_descriptor.__get__»
  refine wpAny_bind (wpAny_pure ?_)
  simp only [show ∀ a, (Value.ref a == Value.none) = false from fun _ => rfl, Bool.false_eq_true, if_false]
  rw [if_neg (by decide +kernel)]
  refine wpAny_bind (wpAny_bind (wpAny_pure (wpAny_bind ?_)))
  have e : ∀ (f : Sem Bool), f = isInstance (.ref x) (.type "list") → Looks (model prog w) h f true := fun f q => q ▸ hi
  refine (e _ (by kernel_rfl)).at ?_
  exact wpAny_pure (wpAny_bind (wpAny_newObj_type (wpAny_pure ⟨_, rfl, hq⟩)))
end
end
section
open PySem PySem.W PyProof.Rows PySem.Calls Builtin
set_option Elab.async false
set_option maxRecDepth 100000

section
variable {prog : Program} {w : World} {A : Around} {E : Value → Shared → Prop} {h : Heap} {g : Array GenState} {d : Drawn} {t : Nat} {os : OsState} {x C D so : Addr} {K : Frag} {id ty : String} {name : Str} {l₀ l : List Value}

theorem super_ga {tk : Tok} {Q : Fin → Shared → Prop} (hso : h.get? so = some (ks_superObj D x C)) (hno : Looks (model prog w) h (opaqueClassAbove (.ref C)) none)
    (hC : Looks (model prog w) h (mroOf (.ref C)) l₀) (hl : (l₀.dropWhile (· != .ref D)).drop 1 = l) (X : K.In h)
    (hf : alongIn K name l = some (some (.builtin id))) (B : Bnd prog w id ty) (hi : Looks (model prog w) h (isInstance (.ref x) (.type "list")) true) (hxC : x ≠ C) (hn : (name == ("__class__" : Str)) = false)
    (hq : Q (.done (.ret (.ref h.objs.size))) ⟨h.push (bndO ty id x), g, d, t, os⟩) :
    wpAny (model prog w) A (Builtin.«super.__getattribute__» ⟨[.ref so, .str name tk], []⟩) Q E ⟨h, g, d, t, os⟩ := by
  obtain ⟨T, gid, b1, b2, b3⟩ := B
  have hty : typeOf (.builtin id) = pure (.type T) := by show builtinType id = _; rw [builtinType_eq_fast]; exact of_pureOf b1
  have hne : (Value.ref x == Value.ref C) = false := by simp [hxC]
  have hdt : (ks_superObj D x C).data = .fields #[.ref D, .ref x, .ref C] := rfl
  have f0 : (#[.ref D, .ref x, .ref C] : Array Value)[0]? = some (.ref D) := rfl
  have f1 : (#[.ref D, .ref x, .ref C] : Array Value)[1]? = some (.ref x) := rfl
  have f2 : (#[.ref D, .ref x, .ref C] : Array Value)[2]? = some (.ref C) := rfl
  unfold Builtin.«super.__getattribute__»
  repeat (first
    | (with_reducible refine wpAny_field hso hdt f0 ?_) | (with_reducible refine wpAny_field hso hdt f1 ?_) | (with_reducible refine wpAny_field hso hdt f2 ?_)
    | (with_reducible refine ks_wpAny_notOpaque hno ?_)
    | (with_reducible refine Looks.at hC ?_; rw [hl])
    | (refine ks_forIn_along X (fun _ _ => rfl) rfl ?_ hf)
    | (with_reducible refine wpAny_of_eq hty ?_)
    | (with_reducible refine wpAny_of_eq b2 ?_)
    | (with_reducible refine b3 _ _ _ _ _ _ _ _ _ _ hi ?_)
    | (simp only [hn, hne, Bool.or_false, Bool.false_eq_true, if_false])
    | wp_step
    | dsimp only)
  all_goals exact hq

theorem super_meth {pl : Sem Bool} {Q : Value × List Value → Shared → Prop} (hso : h.get? so = some (ks_superObj D x C)) (hno : Looks (model prog w) h (opaqueClassAbove (.ref C)) none)
    (hC : Looks (model prog w) h (mroOf (.ref C)) l₀) (hl : (l₀.dropWhile (· != .ref D)).drop 1 = l) (X : K.In h)
    (hf : alongIn K name l = some (some (.builtin id))) (B : Bnd prog w id ty) (hi : Looks (model prog w) h (isInstance (.ref x) (.type "list")) true) (hxC : x ≠ C) (hn : (name == ("__class__" : Str)) = false)
    (hq : Q (.ref h.objs.size, []) ⟨h.push (bndO ty id x), g, d, t + 1, os⟩) :
    wpAny (model prog w) A (getMethod (.ref so) name pl) Q E ⟨h, g, d, t, os⟩ := by
  have hlk := PySem.F.ks_slot_super_ga.lookup
  have hcan := PySem.F.ks_canon_super_ga
  have hT : ∀ t', (⟨h, g, d, t', os⟩ : Shared).TypeIs (.ref so) "super" := fun _ => ⟨_, hso, rfl⟩
  unfold getMethod
  refine wpAny_bind (wpAny_specialOf (hT _) hlk ?_)
  show wpAny _ _ (if (Manifest.canonical "super.__getattribute__" != "object.__getattribute__") = true then _ else _) _ _ _
  rw [if_pos hcan]
  unfold getAttr getAttrBy
  refine wpAny_bind (wpAny_bind (wpAny_mkText (wpAny_holding (wpAny_bind (wpAny_typeOf (hT _) (wpAny_bind (wpAny_of_eq hlk ?_)))))))
  show wpAny _ _ (getAttrByItsOwn (.ref so) (.str name t) (.type "super") (.builtin "super.__getattribute__") true false) _ _ _
  unfold getAttrByItsOwn hookBefore callGetattribute boundAndCalled
  refine wpAny_bind (wpAny_of_eq (show (if onTheHeap (.type "super") then typeLookup (.type "super") "__getattr__" else pure none) = pure none from rfl) ?_)
  refine wpAny_bind (wpAny_attempt (wpAny_holding ?_))
  show wpAny _ _ (bindSpecial (.builtin "super.__getattribute__") (.ref so) >>= _) _ _ _
  refine wpAny_bind (wpAny_of_eq (PySem.F.ks_slot_super_ga.bind _) ?_)
  refine wpAny_mono (Q := fun v s' => v = .ref h.objs.size ∧ s' = ⟨h.push (bndO ty id x), g, d, t + 1, os⟩) (E := fun _ _ => False)
    (wpAny_call_entry PySem.F.ks_slot_super_ga (hT _) PySem.F.ks_entry_super_ga (super_ga hso hno hC hl X hf B hi hxC hn ⟨_, rfl, rfl, rfl⟩) (PySem.F.ks_gaArgs_super _ _)) (fun v s' hv => ?_) fun _ _ z => z.elim
  obtain ⟨rfl, rfl⟩ := hv
  exact wpAny_pure (wpAny_pure hq)

theorem bnd_call {b : Addr} {bi : Builtin} {rest : List Value} {Q : Value → Shared → Prop} (hb : h.get? b = some (bndO ty id x)) (hty : ty = "method-wrapper" ∨ ty = "builtin_function_or_method")
    (hp : plainId id = true) (he : entryFor table id = some bi) (hck : Looks (model prog w) h (checkBoundCall id ⟨.ref x :: rest, []⟩) ())
    (hc : wpAny (model prog w) A.in1 (bi ⟨.ref x :: rest, []⟩) (fun fin s' => ∃ v, fin = .done (.ret v) ∧ Q v s') E ⟨h, g, d, t, os⟩) :
    wpAny (model prog w) A (call (.ref b) rest) Q E ⟨h, g, d, t, os⟩ := by
  refine wpAny_call (codeAny_of_tree ?_)
  show wpAny _ _ (callAny (.ref b) _) _ _ _
  unfold callAny
  refine wpAny_bind (wpAny_load hb ?_)
  have hc1 : (Value.type ty == .type "method" || Value.type ty == .type "builtin_function_or_method" || Value.type ty == .type "method-wrapper") = true := by
    rcases hty with rfl | rfl <;> decide +kernel
  have hc2 : (Value.type ty != .type "method") = true := by
    rcases hty with rfl | rfl <;> decide +kernel
  show wpAny _ _ (if (Value.type ty == .type "method" || Value.type ty == .type "builtin_function_or_method" || Value.type ty == .type "method-wrapper") = true then _ else _) _ _ _
  rw [if_pos hc1]
  show wpAny _ _ (if (Value.type ty != .type "method") = true then _ else _) _ _ _
  rw [if_pos hc2]
  refine wpAny_bind (hck.at ?_)
  refine wpAny_pure ⟨plainId_quiet hp _, codeAny_builtin he ?_⟩
  rw [Around.under_plainId hp _]
  refine wpAny_mono hc (fun fin s' h' => ?_) fun _ _ z => z
  obtain ⟨v, rfl, hv⟩ := h'
  exact hv

theorem keeper_bnd {b : Addr} (hb : h.get? b = some (bndO ty id x)) (hty : ty = "method-wrapper" ∨ ty = "builtin_function_or_method") : Looks (model prog w) h (keeperOf (.ref b)) .machine := by
  intro A Q E s k q
  unfold keeperOf
  refine wpAny_bind (wpAny_load (k _ _ hb) ?_)
  have hc1 : (Value.type ty != .type "method") = true := by
    rcases hty with rfl | rfl <;> decide +kernel
  have hc2 : (Value.type ty == .type "builtin_function_or_method" || Value.type ty == .type "method-wrapper") = true := by
    rcases hty with rfl | rfl <;> decide +kernel
  show wpAny _ _ (if (Value.type ty != .type "method") = true then _ else _) _ _ _
  rw [if_pos hc1]
  show wpAny _ _ (pure (if (Value.type ty == .type "builtin_function_or_method" || Value.type ty == .type "method-wrapper") = true then _ else _)) _ _ _
  rw [if_pos hc2]
  exact wpAny_pure q

theorem callWith_bnd0 {b : Addr} {env : Env} {pos : Pos} {Q : Value → Shared → Prop} (hb : h.get? b = some (bndO ty id x)) (hty : ty = "method-wrapper" ∨ ty = "builtin_function_or_method")
    (hc : wpAny (model prog w) A (call (.ref b) []) Q E ⟨h, g, d, t, os⟩) : wpAny (model prog w) A (callWith pos (.ref b) [] (backTo pos (starEach [] env)) []) Q E ⟨h, g, d, t, os⟩ := by
  unfold callWith
  refine wpAny_bind (wpAny_holding (wpAny_pure (wpAny_bind (wpAny_standAt ?_))))
  refine wpAny_bind ((keeper_bnd hb hty).at ?_)
  refine wpAny_bind (wpAny_mono (show wpAny (model prog w) A (call (.ref b) []) _ _ _ from hc) (fun r s₂ hr => wpAny_bind (wpAny_holding (wpAny_point (wpAny_pure hr)))) fun _ _ x => x)

theorem wpAny_isType_inst {s : Shared} {ox : Obj} {Q : Bool → Shared → Prop} (hx : s.heap.get? x = some ox) (hn : notCls ox = true) (q : Q false s) : wpAny (model prog w) A (isType (.ref x)) Q E s := by
  obtain ⟨hh, g, d, t, os⟩ := s
  exact ks_wpAny_isType_inst hx (fun c e => by unfold notCls at hn; rw [e] at hn; cases hn) q

theorem chk_len : Looks (model prog w) h (checkBoundCall "list.__len__" ⟨[.ref x], []⟩) () := Looks.of_pure (by kernel_rfl)
theorem chk_init : Looks (model prog w) h (checkBoundCall "list.__init__" ⟨[.ref x], []⟩) () := Looks.of_pure (by kernel_rfl)
theorem pop_args (full : String) (hfull : (full != "*") = true) (sig : Manifest.Signature) (hs : Manifest.signature? "list.pop" = some sig) (a : Value) : Bind.checkArgs "list.pop" { sig with full := full } ⟨[a], []⟩ = pure () := by
  have e : Manifest.signature? "list.pop" = some ⟨.positional, "list.pop", "pop", .self, [⟨"index", .posOnly, false⟩]⟩ := by kernel_rfl
  rw [e] at hs
  cases hs
  have p1 : Bind.printed full true ⟨.positional, full, "pop", .self, [⟨"index", .posOnly, false⟩]⟩ (some a) = pure full := by
    unfold Bind.printed
    rw [if_pos hfull]
  show (Bind.printed full true ⟨.positional, full, "pop", .self, [⟨"index", .posOnly, false⟩]⟩ (some a) >>= _) = _
  rw [p1]
  kernel_rfl
theorem chk_pop {ox : Obj} {od : Option Obj} {cd : ClassData} (X : K.In h) (I : InstAt h x ox C od) (hm : mroIn K C (.type "module") = some false) (hc : clsIn K C = some cd) (ht : typeIn K (.ref C) = some (.type "type")) (hq : (toString cd.qualname.toString ++ toString "." ++ toString (Bind.lastOf "list.pop") != "*") = true) :
    Looks (model prog w) h (checkBoundCall "list.pop" ⟨[.ref x], []⟩) () := by
  have L1 : Looks (model prog w) h (isInstance (.ref x) (.type "module")) false := I.type.andThen (looks_mroIn X hm)
  intro A Q E s k q
  unfold checkBoundCall
  cases hs : Manifest.signature? "list.pop" with
  | none => exact wpAny_pure q
  | some sig =>
    dsimp only
    rw [show builtinKind "list.pop" = some .method from by decide +kernel]
    dsimp only
    rw [if_neg (by decide)]
    refine wpAny_bind (L1 A _ E s k ?_)
    rw [if_neg (by decide +kernel)]
    refine wpAny_bind (wpAny_isType_inst (k _ _ I.at_) I.no ?_)
    simp only [Bool.false_eq_true, if_false]
    refine wpAny_bind (I.type A _ E s k ?_)
    dsimp only
    refine wpAny_bind ((looks_clsIn X hc) A _ E s k (wpAny_bind ((looks_typeIn X ht) A _ E s k ?_)))
    rw [if_pos (by decide)]
    rw [pop_args _ hq _ hs]
    exact wpAny_pure q
end
end
section
open PySem PySem.W PyProof.Rows PySem.Calls Builtin
set_option Elab.async false
set_option maxRecDepth 100000

section
variable {prog : Program} {w : World} {A : Around} {E : Value → Shared → Prop} {s : Shared} {h₀ : Heap} {L : Addr} {m mg mb : Str → Option Value} {K : Frag} {p : Program} {loose : List Str} {x C D f cc cda : Addr} {ox : Obj} {odx : Option Obj}

theorem super_node {body : List Stmt} {q : Str} {scope : Scope} {p0 p1 : Pos} {attr : Str} {whole : Sem Value} {fd : FuncData} {ar : Arg} {vs : Array Value} {file : Str} {tf : Tok} {oc ccl cl : Value} {od cdd cld : Option Addr} {osl ccs csl : Array (Option Value)} {cdD : ClassData} {Q : Value → Shared → Prop}
    (F : Fr h₀ L s.heap m) (X₀ : K.In h₀) (T : TopRead p loose mg mb h₀)
    (hf : K.lookup f = some ⟨oc, od, .func fd, osl⟩) (hp : (fd.params.posonlyargs ++ fd.params.args).head? = some ar) (hv : m ar.arg = some (.ref x)) (I : InstAt s.heap x ox C odx)
    (hcode : K.lookup cda = some ⟨ccl, cdd, .fields vs, ccs⟩) (hvs : vs[2]? = some (.str file tf)) (hfile : ((prog.main.file : Str) == file) = true)
    (hcell : K.lookup cc = some ⟨cl, cld, .cell (some (.ref D)), csl⟩) (hD : clsIn K D = some cdD) (hsub : mroIn K C (.ref D) = some true) (hsuper : nsIn K mainGlobals "super" = some none)
    (hat : (attr == ("__class__" : Str)) = false) (hks : scope.names.lookup ("super" : Str) = some .globalImplicit) (hkc : scope.names.lookup ("__class__" : Str) = some .free) (hka : scope.names.lookup ar.arg = some .local) (hk : scope.kind = .function)
    (htop : (prog.main.scope.names.lookup ("super" : Str)).isSome = false) (hboot : bootBuiltins "super" = some (.type "super"))
    (h : ∀ h', h'.get? s.heap.objs.size = some (ks_superObj D x C) → (∀ b o, s.heap.get? b = some o → h'.get? b = some o) → Q (.ref s.heap.objs.size) { s with heap := h' }) :
    PySem.wpAt (model prog w) A (.func body (ksEnv q scope L f (.ref cda) cc)) (attributeBase (.Call (.Name "super" p0) [] [] p1) attr (ksEnv q scope L f (.ref cda) cc) whole) Q E s := by
  have X : K.In s.heap := X₀.keeps F.keep
  obtain ⟨hh, g, d, t, os⟩ := s
  obtain ⟨oD, hD1, hD2⟩ : ∃ oD, hh.get? D = some oD ∧ oD.data = .cls cdD := by
    unfold clsIn at hD
    split at hD
    · rename_i c d cd' sl ho
      cases hD
      exact ⟨_, X _ _ ho, rfl⟩
    · cases hD
  refine ks_wpAt_super_base (env := ksEnv q scope L f (.ref cda) cc) hks hkc hat rfl (X _ _ hf) rfl hp rfl (X _ _ hcode) rfl hvs hfile htop ?_
  refine ks_loadName_global hk hks (loadGlobal_builtin (env := ksEnv q scope L f (.ref cda) cc) (T.g.keeps F.keep) (mg_none_of X₀ T.g hsuper) (T.b.keeps F.keep) ((T.builtins _ (by decide +kernel)).trans hboot) ⟨rfl, ?_⟩)
  refine wpAny_loadName_free hk hkc rfl ⟨_, X _ _ hcell, rfl⟩ ?_
  refine wpAny_loadName_local hk hka F.ns hv ?_
  refine ks_wpAny_isType_cls hD1 hD2 ⟨rfl, ?_⟩
  refine ks_wpAny_call_super hD1 hD2 I.at_ I.cls (fun c e => ?_) (looks_mroIn X hsub) (fun h' e k => h h' e k)
  have := I.no
  unfold notCls at this
  rw [e] at this
  exact Bool.noConfusion this

theorem enterS {Q : Value → Shared → Prop} {name qual : Str} {params : Arguments} {body : List Stmt} {scope : Scope} {cl : List (Str × Addr)} {dV kV doc pm cdv ct oc : Value} {an od : Option Addr} {osl : Array (Option Value)} {f : Addr} {vs : List Value} {binds : List (Str × Value)}
    {fp : List Addr} (news : List (Addr × Obj))
    (C : Sx K p loose mg mb fp s.heap)
    (ho : K.lookup f = some ⟨oc, od, .func (fnX name qual params body scope cl dV kV doc pm an cdv ct), osl⟩) (hcd : codeIn K cdv qual = true) (hroom : A.depth < recursionLimit)
    (hbind : BindsTo s (fnX name qual params body scope cl dV kV doc pm an cdv ct) ⟨vs, []⟩ binds) (hloc : ∀ y ∈ binds, scope.names.lookup y.1 = some .local)
    (hn : ∀ q ∈ news, q.1 ∈ fp ∧ s.heap.get? q.1 = some q.2)
    (h : ∀ L' h₁ tk, Fr (hideAll s.heap fp) L' h₁ (lmap (binds.reverse.map fun e => (e.1, some e.2))) → News (hideAll s.heap fp) L' h₁ news → K.In (hideAll s.heap fp) → TopRead p loose mg mb (hideAll s.heap fp) →
      PySem.wpAt (model prog w) (A.deeper (envX qual scope L' f cdv cl)) (.func body (envX qual scope L' f cdv cl)) (execs body (envX qual scope L' f cdv cl))
        (fun fl s' => Q (match fl with | .ret v => v | _ => .none) s') NoE { s with heap := h₁, toks := tk })
    (hco : scope.isCoroutine = false) (hgen : scope.isGenerator = false) (hk : scope.kind = .function)
    (hcell : ∀ x ∈ scope.names, x.2 ≠ .cell) : wpAny (model prog w) A (call (.ref f) vs) Q E s := by
  refine wpAny_call ?_
  have C' := C.cx
  refine ks_codeAny_call_defAt (fd := fnX name qual params body scope cl dV kV doc pm an cdv ct) (body := body) (binds := binds) hroom (C'.X _ _ ho) rfl C'.T.nolimit (codeRec_of C'.X hcd) rfl hbind hcell hloc (fun h₁ hns hk₁ => ?_) hco hgen hk
  refine ks_wpAt_mono (h s.heap.objs.size h₁ _ ⟨by rw [← lmap_lookup]; exact hns, fun b o e => hk₁ b o (of_hideAll _ e), Nat.le_of_eq (hideAll_size _ _)⟩ (fun q hq => ?_) C.X C.T) (fun _ _ x => x) fun _ _ x => x.elim
  obtain ⟨a, e⟩ := hn q hq
  exact ⟨hk₁ _ _ e, Nat.ne_of_lt (Heap.lt_size e), hideAll_none _ a⟩
end
end
section
open PySem PySem.W PyProof.Rows PySem.Calls Builtin
set_option Elab.async false
set_option maxRecDepth 100000

section
variable {prog : Program} {w : World} {A : Around} {E : Value → Shared → Prop} {s : Shared} {K : Frag} {x C D so : Addr} {c : Value} {od : Option Addr} {items : Array Value} {ep : Nat} {sl : Array (Option Value)} {Q : Value → Shared → Prop} {id ty : String} {name : Str}

theorem raw_len (hx : s.heap.get? x = some ⟨c, od, .seq items ep, sl⟩) (h : Q (.int items.size s.toks) { s with toks := s.toks + 1 }) :
    wpAny (model prog w) A (Builtin.«list.__len__» ⟨[.ref x], []⟩) (fun fin s' => ∃ v, fin = .done (.ret v) ∧ Q v s') E s := by
  show wpAny _ _ (do retInt (← seqSize x)) _ _ s
  unfold seqSize retInt
  refine wpAny_bind (wpAny_bind (wpAny_loadPart hx ?_))
  exact wpAny_pure (wpAny_bind (wpAny_mkInt (wpAny_pure ⟨_, rfl, h⟩)))

theorem raw_pop {v : Value} (hx : s.heap.get? x = some ⟨c, od, .seq (items.push v) ep, sl⟩) (hz : items.size < sizeLine)
    (h : ∀ h', h'.get? x = some ⟨c, od, .seq items (ep + 1), sl⟩ → Heap.SameBut x s.heap h' → Q v { s with heap := h' }) :
    wpAny (model prog w) A (Builtin.«list.pop» ⟨[.ref x], []⟩) (fun fin s' => ∃ v, fin = .done (.ret v) ∧ Q v s') E s := by
  show wpAny _ _ (do
    let xs ← Builtin.List.listItems (.ref x)
    if xs.isEmpty = true then rule "list.pop.empty"; raiseError "IndexError" "pop from empty list"
    match (seqIndex? (-1) xs.size).bind fun k => xs[k]?.map (k, ·) with
    | some (k, x') => Builtin.List.listUpdate (.ref x) (·.eraseIdxIfInBounds k); ret x'
    | none => rule "list.pop.out-of-range"; raiseError "IndexError" "pop index out of range") _ _ s
  refine wpAny_bind (wpAny_listItems hx rfl ?_)
  have e0 : (items.push v).isEmpty = false := by simp
  have e1 : ((seqIndex? (-1) (items.push v).size).bind fun k => (items.push v)[k]?.map (k, ·)) = some (items.size, v) := by
    have : seqIndex? (-1) (items.push v).size = some items.size := by
      unfold seqIndex?
      simp only [Array.size_push, show ((-1 : Int) < 0) from by decide, if_true]
      rw [if_pos (by simp only [Bool.and_eq_true, decide_eq_true_eq]; omega)]
      congr 1
      (with_reducible exact nnL _)
    rw [this]
    simp
  have q : (items.push v).eraseIdxIfInBounds items.size = items := by
    apply Array.ext'
    simp [Array.eraseIdxIfInBounds, List.eraseIdx_append_of_length_le]
  rw [e0, e1]
  refine wpAny_bind (wpAny_updateSeq (f := (·.eraseIdxIfInBounds items.size)) hx rfl (wpAny_pure ⟨_, rfl, h _ ?_ (Heap.SameBut.update ..)⟩) (by rw [Array.size_push]; omega) (by rw [q]; omega))
  have e : Obj.mapSeq (·.eraseIdxIfInBounds items.size) ⟨c, od, .seq (items.push v) ep, sl⟩ = ⟨c, od, .seq items (ep + 1), sl⟩ := by simp [Obj.mapSeq, q]
  rw [← e]
  exact Heap.get?_update_self _ hx (by rw [e]; rfl)

theorem raw_init (hx : s.heap.get? x = some ⟨c, od, .seq #[] ep, sl⟩)
    (h : ∀ h' ep', h'.get? x = some ⟨c, od, .seq #[] ep', sl⟩ → Heap.SameBut x s.heap h' → Q .none { s with heap := h' }) :
    wpAny (model prog w) A (Builtin.«list.__init__» ⟨[.ref x], []⟩) (fun fin s' => ∃ v, fin = .done (.ret v) ∧ Q v s') E s := by
  show wpAny _ _ (do
    let old ← Builtin.List.listItems (.ref x)
    Builtin.List.listUpdate (.ref x) fun _ => #[]
    letGo old.toList.reverse
    ret .none) _ _ s
  refine wpAny_bind (wpAny_listItems hx rfl ?_)
  refine wpAny_bind (wpAny_updateSeq (f := fun _ => #[]) hx rfl ?_ (by simp) (by simp))
  refine wpAny_bind (wpAny_letGo (wpAny_pure ⟨_, rfl, ?_⟩))
  have q := Heap.get?_update_self (h := s.heap) (Obj.mapSeq fun _ => #[]) hx rfl
  exact h _ _ q (Heap.SameBut.update ..)

theorem super_meth' {h : Heap} {g : Array GenState} {d : Drawn} {t : Nat} {os : OsState} {pl : Sem Bool} {ox : Obj} {odx : Option Obj} {Q : Value × List Value → Shared → Prop} (hso : h.get? so = some (ks_superObj D x C)) (X : K.In h) (I : InstAt h x ox C odx) (S : SubL K C)
    (ho : nsIn K cStatics "thirdparty.any" = some none) (hm : ks_superIn K C D name = some (some (.builtin id))) (B : Bnd prog w id ty) (hn : (name == ("__class__" : Str)) = false)
    (hq : Q (.ref h.objs.size, []) ⟨h.push (bndO ty id x), g, d, t + 1, os⟩) :
    wpAny (model prog w) A (getMethod (.ref so) name pl) Q E ⟨h, g, d, t, os⟩ := by
  cases hc : clsIn K C with
  | none => unfold ks_superIn at hm; rw [hc] at hm; cases hm
  | some cd =>
    unfold ks_superIn at hm
    rw [hc] at hm
    refine super_meth hso (looks_opaque X ho) (l₀ := cd.mro) ?_ rfl X hm B (sub_inst X I S) (ks_ne X I hc) hn hq
    exact fun A Q E s k q => wpAny_bind ((looks_clsIn X hc) A _ E s k (wpAny_pure q))

theorem sub_meth_fn {f : Addr} {ox : Obj} {odx : Option Obj} {pl : Sem Bool} {Q : Value × List Value → Shared → Prop} (X : K.In s.heap) (I : InstAt s.heap x ox C odx) (S : SubL K C)
    (hf : findIn K (.ref C) name = some (some (.ref f))) (ht : typeIn K (.ref f) = some (.type "function")) (hs : shadowIn odx name = some false) (h : Q (.ref f, [.ref x]) s) :
    wpAny (model prog w) A (getMethod (.ref x) name pl) Q E s := sub_method X I S hf (by rw [ht]; rfl) hs h
end
end
section
open PySem PySem.W PyProof.Rows PySem.Calls Builtin
set_option Elab.async false
set_option maxRecDepth 100000

section
variable {M : Model} {A : Around} {E : Value → Shared → Prop} {s : Shared}

theorem gen_code {env : Env} {c P : Addr} {tps : Array Value} {pos : Pos} {q : Str} {scope : Scope} {Q : Value → Shared → Prop}
    (hc : env.code = .ref c) (hH : CodeHd s.heap c P) (hP : s.heap.get? P = some (tabObj tps)) (ht : TriplesOk tps.toList)
    (hQ : ∀ code h' tk tps', Heap.ExtBut P s.heap h' → s.heap.objs.size ≤ h'.objs.size → h'.get? P = some (tabObj tps') → TriplesOk tps'.toList → Q code { s with heap := h', toks := tk }) :
    wpAny M A (genexprCode env pos q scope) Q E s := by
  cases hnf : codeAmong pos tps.toList with
  | none =>
    refine wpAny_genexprCodeX hc (hH.code hP ht) (hH.tab hP) hnf fun c' h' tk hx hge hlt hok _ htab _ => ?_
    obtain ⟨o, vs, file, tf, flags, tg, inF, text, tt, op, ho, hd, h11, h2, h7, h9, h10, hop, hpd, htr, hne⟩ := hok
    exact hQ _ h' tk _ hx (Nat.le_trans hge (Nat.le_of_lt hlt)) htab.2 htr
  | some cv =>
    obtain ⟨o, vs, file, tf, flags, tg, inF, text, tt, e1, e2, e3, e4, f3, f4, f5, f6, f7, f11⟩ := hH
    unfold genexprCode codeAt
    rw [hc, if_neg (show ¬ ((Value.ref c == Value.none) = true) from Bool.false_ne_true)]
    refine wpAny_bind (wpAny_fieldsOf e1 e3 ?_)
    rw [f3]
    refine wpAny_bind (wpAny_fieldsOf hP rfl ?_)
    rw [hnf]
    exact wpAny_pure (hQ cv s.heap s.toks tps (Heap.ExtBut.refl _ _) (Nat.le_refl _) hP ht)
end

noncomputable def GenW (prog : Program) (w : World) (A : Around) (n₀ : Nat) (a : Addr) (n : Nat) (F : Nat → Value → Prop) (s : Shared) : Prop :=
  ∃ fp wr g St, WalksS prog w A.in4 a fp wr (GenOnlyQ g) n F St ∧ St 0 s ∧ (∀ i s', St i s' → s'.TypeIs (.ref a) "generator") ∧ a ∈ fp ∧ (∀ b ∈ fp, b < s.heap.objs.size) ∧ ∀ b ∈ wr, n₀ ≤ b

theorem passing_all (n : Nat) : passing (fun _ => true) n 0 = List.range n := by unfold passing; simp

section
variable {prog : Program} {w : World} {A : Around} {E : Value → Shared → Prop} {s : Shared} {K : Frag} {x C : Addr} {ox : Obj} {od : Option Obj} {items : Array Value} {ep : Nat}

theorem walksS_congr {I : Addr} {fp wr : List Addr} {G : Array GenState → Array GenState → Prop} {n : Nat} {P P' : Nat → Value → Prop} {St : Nat → Shared → Prop} (W : WalksS prog w A I fp wr G n P St) (h : ∀ i v, P i v → P' i v) : WalksS prog w A I fp wr G n P' St where
  sub := W.sub
  grefl := W.grefl
  gtrans := W.gtrans
  frame := W.frame
  item := fun i s Q E hi st hQ => W.item i s Q E hi st fun v s' hp => hQ v s' (h i v hp)
  done := W.done
  self := W.self

theorem gen_parts {env : Env} {elt iter : Expr} {xa xb : Str} {pa pb pt : Pos} {kt : Nat} {scope : Scope} {pos : Pos} {c P : Addr} {tps : Array Value} {mg : Str → Option Value} {bm : Addr} {ob : Obj} {ps : List (Str × Str)} {Q : Value → Shared → Prop}
    (hh : A.handled = none) (hco : scope.isCoroutine = false) (hclos : closureFor scope env = pure []) (hcell : ∀ y ∈ scope.names, y.2 ≠ .cell) (h0 : scope.names.lookup (".0" : Str) = some NameKind.local)
    (hxa : scope.names.lookup xa = some .local) (hxb : scope.names.lookup xb = some .local) (hab : xa ≠ xb) (hkind : scope.kind = .function) (hroom : A.depth < recursionLimit)
    (X : K.In s.heap) (I : InstAt s.heap x ox C od) (S : SubL K C) (hit : findIn K (.ref C) "__iter__" = some (some (.builtin "list.__iter__"))) (hd : ox.data = .seq items ep) (hp : PartsAt s.heap items ps)
    (hc : env.code = .ref c) (hH : CodeHd s.heap c P) (hP : s.heap.get? P = some (tabObj tps)) (ht : TriplesOk tps.toList) (hM : BMod s.heap env.globals mg bm ob) (hlim : s.heap.NoLimit)
    (F : Nat → Value → Prop)
    (helt : ∀ (code : Value) (Cc : Addr) (A' : Around) E' i (pr : Str × Str) t u (s₂ : Shared) m₂, A'.handled = none → A'.depth ≤ A.depth + 1 → A'.units ≤ A.units + 8 → ps[i]? = some pr → s₂.heap.Ns Cc m₂ → m₂ xa = some (.str pr.1 t) → m₂ xb = some (.str pr.2 u) →
      (∀ b o, b ≠ P → s.heap.get? b = some o → s₂.heap.get? b = some o) → s.heap.objs.size ≤ Cc → wpAny (model prog w) A' (eval elt (genEnv scope [] Cc code builtinsNs env)) (fun y s₃ => F i y ∧ Keeps s₂ s₃) E' s₂)
    (hQ : ∀ a s₅ tps', Sm s s₅ → KB [P] s.heap s₅.heap → s₅.heap.get? P = some (tabObj tps') → TriplesOk tps'.toList → s.heap.objs.size ≤ s₅.heap.objs.size → GenW prog w A s.heap.objs.size a ps.length F s₅ → Q (.ref a) s₅)
    (heval : wpAny (model prog w) A (eval iter env) (fun v s₁ => v = .ref x ∧ s₁ = s) E s)
    (hs : ∀ x, genFold iter env x = pure x) :
    wpAny (model prog w) A (eval (.GeneratorExp elt [⟨.Tuple [.Name xa pa, .Name xb pb] kt pt, iter, [], 0⟩] scope pos) env) Q E s := by
  have hxlt : x < s.heap.objs.size := Heap.lt_size I.at_
  have hPlt : P < s.heap.objs.size := Heap.lt_size hP
  have hps : ∀ j, j < items.size → ∃ pr, ps[j]? = some pr := fun j hj => ⟨_, List.getElem?_eq_getElem (by rw [← hp.1]; exact hj)⟩
  have hTlt : ∀ j, j < items.size → tsOf items j < s.heap.objs.size := fun j hj => by
    obtain ⟨pr, hpr⟩ := hps j hj
    obtain ⟨_, t, u, o, ho, _⟩ := hp.2 j pr hpr
    exact Heap.lt_size ho
  have hTne : ∀ j, j < items.size → tsOf items j ≠ P := fun j hj e => by
    obtain ⟨pr, hpr⟩ := hps j hj
    obtain ⟨_, t, u, o, ho, hoc, _⟩ := hp.2 j pr hpr
    rw [e, hP] at ho; cases ho; cases hoc
  have hxP : x ≠ P := fun e => by
    have := I.at_; rw [e, hP] at this; cases this; cases hd; 
  refine wpAny_GeneratorExp_walksQTD hh hco hclos hcell h0 hxa hxb hab hkind hroom (wpAny_mono heval (fun xv s₁ h₁' => ?_) fun _ _ e => e) hs
  obtain ⟨rfl, rfl⟩ := h₁'
  refine sub_iter X I S hit ?_
  have k1 : ∀ b o, s₁.heap.get? b = some o → (s₁.heap.push { cls := .type "list_iterator", data := .fields #[.ref x, .int 0 0] }).get? b = some o := fun b o e => Heap.get?_push_of_some _ e
  refine ⟨hlim.push _, gen_code hc (hH.keeps k1) (k1 _ _ hP) ht fun code h₃ tk₃ tps' hx₃ hsz hP₃ ht₃ => ?_⟩
  have hsz' : s₁.heap.objs.size + 1 ≤ h₃.objs.size := by have := hsz; rw [Heap.size_push] at this; exact this
  have k3 : ∀ b o, b ≠ P → s₁.heap.get? b = some o → h₃.get? b = some o := fun b o hb e => hx₃ b o hb (k1 b o e)
  have hcP : cStatics ≠ P := fun e => by
    obtain ⟨_, hns, _⟩ := hlim
    obtain ⟨o, es, ep, ho, hd, _⟩ := hns
    rw [e, hP] at ho; cases ho; cases hd
  have hl₃ : h₃.NoLimit := (hlim.push _).extBut hx₃ hcP
  have M₃ : BMod h₃ env.globals mg bm ob := (hM.keeps k1).extBut ((hH.keeps k1).tab (k1 _ _ hP)) hx₃
  refine wpAny_builtinsFor M₃.ns M₃.name M₃.ne M₃.obj M₃.cls M₃.dict M₃.data ?_
  have hII : (s₁.heap.push { cls := .type "list_iterator", data := .fields #[.ref x, .int 0 0] }).get? s₁.heap.objs.size = some { cls := .type "list_iterator", data := .fields #[.ref x, .int 0 0] } := Heap.get?_push_size _ rfl
  have W := fun (A' : Around) (hA : A'.handled = none) => walks_parts (prog := prog) (w := w) hA s₁.heap.objs.size x (Nat.ne_of_lt hxlt) items ps hp.1 (fun j hj => Nat.ne_of_lt (hTlt j hj))
  have hclt : cStatics < s₁.heap.objs.size := let ⟨_, hn, _⟩ := hlim; hn.lt
  refine ⟨s₁.heap.objs.size, _, _, items.size, _, _, _, (fun _ => true), F, rfl, W, (fun i vals hv => by obtain ⟨p, t, u, _, e⟩ := hv; exact ⟨_, _, e⟩), ?_, ?_, hl₃, ?_, ?_, ?_⟩
  · refine ⟨⟨_, hx₃ _ _ (Ne.symm (Nat.ne_of_lt hPlt)) hII, rfl, rfl⟩, ⟨ox, k3 _ _ hxP I.at_, ep, hd⟩, ⟨hp.1, fun i p e => ?_⟩⟩
    obtain ⟨a, t, u, r⟩ := hp.2 i p e
    have hi : i < items.size := by rw [hp.1]; exact (List.getElem?_eq_some_iff.mp e).1
    exact ⟨a, t, u, tup_keep r fun o e' => k3 _ _ (hTne i hi) e'⟩
  · intro b hb
    rcases List.mem_cons.mp hb with rfl | hb
    · show _ < h₃.objs.size; lia
    · have hle : s₁.heap.objs.size ≤ h₃.objs.size := by (with_reducible exact nnY (by assumption))
      rcases List.mem_cons.mp hb with rfl | hb
      · exact Nat.lt_of_lt_of_le hxlt hle
      · obtain ⟨j, hj, rfl⟩ := List.mem_map.mp hb
        exact Nat.lt_of_lt_of_le (hTlt j (List.mem_range.mp hj)) hle
  · intro hm
    rw [List.mem_singleton] at hm
    exact absurd (hm ▸ hclt) (Nat.lt_irrefl _)
  · intro href hhref
    refine ⟨fun A' E' i va vb s₂ m₂ hA hD hU hPt hn hma hmb hkp => wpAny_pure ⟨rfl, s₂.heap, s₂.toks, rfl, fun _ _ e => e⟩, fun A' E' i va vb s₂ m₂ hA hD hU hPt _ hn hma hmb hkp => ?_⟩
    obtain ⟨p, t, u, hp', e⟩ := hPt
    obtain ⟨e1, e2⟩ : va = .str p.1 t ∧ vb = .str p.2 u := by simpa using congrArg Array.toList e
    subst e1 e2
    refine helt code _ A' E' i p t u s₂ m₂ hA hD hU hp' hn hma hmb (fun b o hb e' => ?_) (by show _ ≤ h₃.objs.size; (with_reducible exact nnY (by assumption)))
    have hb1 := k3 b o hb e'
    refine hkp b (List.mem_range.mpr (Heap.lt_size hb1)) (fun hm => ?_) o (hhref b o hb1)
    rw [List.mem_singleton] at hm
    exact absurd (hm ▸ Heap.lt_size e') (Nat.lt_irrefl _)
  · intro a h₅ tk gs hgb hag hsz₅ hk₅ Wg hat
    rw [passing_all, List.length_range, hp.1] at Wg
    have Wg' := walksS_congr (P' := F) Wg fun j y hy => by
      obtain ⟨i, e, hy⟩ := hy
      by_cases hj : j < ps.length
      · rw [List.getElem?_range hj] at e
        cases e; exact hy
      · rw [List.getElem?_eq_none (by rw [List.length_range]; lia)] at e; cases e
    rw [hp.1] at hat
    have hag' : h₃.objs.size < a := hag
    refine hQ a _ tps' ⟨rfl, rfl, fun x => x.push hgb⟩ (fun b o hb e => hk₅ b o (k3 b o (by simpa using hb) e)) (hk₅ _ _ hP₃) ht₃ ?_ ⟨_, _, _, _, Wg', hat, (fun i s' st => st.1.typeIs), List.mem_cons_self, ?_, ?_⟩
    · show _ ≤ h₅.objs.size
      lia
    · intro b hb
      have key : ∀ n : Nat, n ≤ a → n < h₅.objs.size := fun n hn => by lia
      rcases List.mem_cons.mp hb with rfl | hb
      · exact key _ (Nat.le_refl _)
      · rcases List.mem_cons.mp hb with rfl | hb
        · exact key _ (Nat.le_of_lt hag')
        · exact key _ (Nat.le_of_lt (Nat.lt_trans (List.mem_range.mp hb) hag'))
    · intro b hb
      rcases List.mem_cons.mp hb with rfl | hb
      · show _ ≤ h₃.objs.size; (with_reducible exact nnY (by assumption))
      · rw [List.mem_singleton] at hb; exact hb ▸ Nat.le_refl _
end
end
section
open PySem PySem.W PyProof.Rows PySem.Calls Builtin
set_option Elab.async false
set_option maxRecDepth 100000

section
variable {prog : Program} {w : World} {A : Around} {E : Value → Shared → Prop} {s : Shared}

noncomputable def shP (P : Nat → Value → Prop) : Nat → Value → Prop
  | 0, _ => False
  | i + 1, v => P i v
noncomputable def shS (St : Nat → Shared → Prop) : Nat → Shared → Prop
  | 0, _ => False
  | i + 1, s => St i s
noncomputable def shV (st : Int) (val : Nat → Int) : Nat → Int
  | 0 => st
  | i + 1 => val i
theorem preSum_sh (st : Int) (val : Nat → Int) : ∀ n, preSum (shV st val) (n + 1) = st + preSum val n
  | 0 => by simp [preSum, shV]
  | n + 1 => by
    show preSum (shV st val) (n + 1) + shV st val (n + 1) = _
    rw [preSum_sh st val n]
    show st + preSum val n + val n = st + (preSum val n + val n)
    lia

theorem shiftW {I : Addr} {fp wr : List Addr} {G : Array GenState → Array GenState → Prop} {n : Nat} {P : Nat → Value → Prop} {St : Nat → Shared → Prop} (W : WalksS prog w A I fp wr G n P St) : WalksS prog w A I fp wr G (n + 1) (shP P) (shS St) where
  sub := W.sub
  grefl := W.grefl
  gtrans := W.gtrans
  frame := fun i s h' tk st htk hk => by
    cases i with
    | zero => exact st.elim
    | succ i => exact W.frame i s h' tk st htk hk
  item := fun i s Q E hi st hQ => by
    cases i with
    | zero => exact st.elim
    | succ i => exact W.item i s Q E (by (with_reducible exact nnQ (by assumption))) st hQ
  done := W.done
  self := fun i s Q E st hQ => by
    cases i with
    | zero => exact st.elim
    | succ i => exact W.self i s Q E st hQ

theorem args_sum2 (a b : Value) : argsOk "sum" ⟨[a, b], []⟩ := by unfold argsOk; kernel_rfl

theorem call_sum2 {x : Value} {st : Int} {t : Tok} {Q : Value → Shared → Prop} (hst0 : InLong st)
    (h : wpAny (model prog w) A.in1 (pyIter x) (fun it s₂ => ∃ I fp wr G n P St val, it = .ref I ∧ WalksS prog w A.in1 I fp wr G n P St ∧ St 0 s₂ ∧ (∀ b ∈ fp, b < s₂.heap.objs.size) ∧
      (∀ i v, P i v → ∃ t, v = .int (val i) t) ∧ (∀ j, j < n → InLong (val j) ∧ InLong (st + preSum val (j + 1))) ∧
      ∀ s' t', Moved wr G s₂ s' → Q (.int (st + preSum val n) t') s') E s) :
    wpAny (model prog w) A (call (.builtin "sum") [x, .int st t]) Q E s := by
  refine call_function_tree PySem.F.kind_sum PySem.F.plain_sum PySem.F.entry_sum (args_sum2 _ _) ?_
  unfold Builtin.«sum»
  simp only [List.length_cons, List.length_nil]
  rw [if_neg (by decide)]
  refine wpAny_bind (wpAny_of_eq (show Builtin.Builtins.bindParams "sum" ["start"] 0 ⟨[.int st t], []⟩ = pure [some (.int st t)] from rfl) ?_)
  refine wpAny_bind (wpAny_mono h (fun it s₂ h₂ => ?_) fun _ _ e => e)
  obtain ⟨I, fp, wr, G, n, P, St, val, rfl, W, hst, hfp, hval, hfit, hQ⟩ := h₂
  have hc : (decide (-(2 ^ 63) ≤ st) && decide (st < 2 ^ 63)) = true := by simp only [Bool.and_eq_true, decide_eq_true_eq]; exact hst0
  dsimp only
  split
  rotate_left
  · rename_i hneg; exact absurd hc hneg
  refine wpAny_bind (wpAny_rule ?_)
  refine wpAny_bind (wpAny_mkInt ?_)
  refine wpAny_bind (wpAny_pure ?_)
  simp only [List.forIn_cons, List.forIn_nil]
  refine wpAny_bind (wpAny_bind (wpAny_bind (wpAny_isInstance (T := "int") (b := false) (typeIs_int _ _ _) PySem.sub_int_str ?_)))
  simp only [Bool.false_eq_true, if_false]
  refine wpAny_pure (wpAny_bind (wpAny_bind (wpAny_isInstance (T := "int") (b := false) (typeIs_int _ _ _) PySem.sub_int_bytes ?_)))
  simp only [Bool.false_eq_true, if_false]
  refine wpAny_pure (wpAny_bind (wpAny_bind (wpAny_isInstance (T := "int") (b := false) (typeIs_int _ _ _) PySem.sub_int_bytearray ?_)))
  simp only [Bool.false_eq_true, if_false]
  refine wpAny_pure (wpAny_pure ?_)
  refine wpAny_bind (wpAny_newObj_type ?_)
  have hSf : s₂.heap.objs.size ∉ fp := fun hm => Nat.lt_irrefl _ (hfp _ hm)
  have e1 : preSum (shV st val) 1 = st := by simp [preSum, shV]
  refine wpAny_pure ⟨plainId_quiet PySem.F.plain_sum_loop _, codeAny_sum_loopS (shiftW W) (shV st val) ?_ ?_ s₂.heap.objs.size hSf n 1 _ s₂.toks 0 (by lia) (by lia)
    (W.frame 0 s₂ _ _ hst (by first | exact Nat.le_refl _ | exact Nat.le_succ _ | lia) fun b _ o e => Heap.get?_push_of_some _ e) (by rw [e1]; exact Heap.get?_push_size _ rfl) fun s' t' hm => ?_⟩
  · intro i v hv
    cases i with
    | zero => exact hv.elim
    | succ i => exact hval i v hv
  · intro j hj
    cases j with
    | zero => rw [e1]; exact ⟨hst0, hst0⟩
    | succ j =>
      rw [preSum_sh]
      exact hfit j (by (with_reducible exact nnQ (by assumption)))
  · rw [preSum_sh]
    exact hQ s' t' (hm.drop_new (by first | exact Nat.le_refl _ | exact Nat.le_succ _ | lia))

variable {n₀ : Nat} {a : Addr} {n : Nat} {F : Nat → Value → Prop} {Q : Value → Shared → Prop}

theorem sum_gen (X : GenW prog w A n₀ a n F s) (val : Nat → Int) (hval : ∀ j v, F j v → ∃ t, v = .int (val j) t) (st : Int) (t : Tok) (h0 : InLong st) (hfit : ∀ j, j < n → InLong (val j) ∧ InLong (st + preSum val (j + 1)))
    (hQ : ∀ s' t', Sm s s' → (∀ b o, b < n₀ → s.heap.get? b = some o → s'.heap.get? b = some o) → Q (.int (st + preSum val n) t') s') : wpAny (model prog w) A (call (.builtin "sum") [.ref a, .int st t]) Q E s := by
  obtain ⟨fp, wr, g, St, W, hst, _, _, hfp, hwr⟩ := X
  have W := W.in4_1
  refine call_sum2 h0 (W.self 0 _ _ _ hst ⟨a, _, _, _, _, _, _, val, rfl, W, hst, hfp, hval, hfit, fun s' t' hm => hQ s' t' ⟨hm.os, hm.drawn, fun G => G.movedS hm⟩ fun b o hb e => hm.heap b o (fun hmem => Nat.lt_irrefl _ (Nat.lt_of_lt_of_le hb (hwr b hmem))) e⟩)

theorem join_gen {sep : Str} {t : Tok} (X : GenW prog w A n₀ a n F s) (tx : Nat → Str) (htx : ∀ j v, F j v → ∃ u, v = .str (tx j) u)
    (hok : JoinOk sep ((List.range n).map tx) = true)
    (hQ : ∀ s' t', Sm s s' → (∀ b o, b < n₀ → s.heap.get? b = some o → s'.heap.get? b = some o) → Q (.str (Txt.join sep ((List.range n).map tx)) t') s')
    (hsz : n ≤ sizeLine) : wpAny (model prog w) A (call (.builtin "str.join") [.str sep t, .ref a]) Q E s := by
  obtain ⟨fp, wr, g, St, W, hst, hT, ha, hfp, hwr⟩ := X
  have W := W.in4_2
  refine SC.joinGen W hT hst hfp ha (fun j v hv => let ⟨u, e⟩ := htx j v hv; ⟨_, u, e⟩) (fun s' lt hm hacc => ?_) hsz
  have hl : lt.map (·.1) = (List.range n).map tx := by
    apply List.ext_getElem?
    intro j
    have hsz : lt.length = n := by simpa [strValues] using hacc.1
    by_cases hj : j < n
    · have hj' : j < lt.length := hsz ▸ hj
      obtain ⟨u, hv⟩ := htx j _ (hacc.2 j (.str lt[j].1 lt[j].2) (by simp [strValues, List.getElem?_eq_getElem hj']))
      injection hv with h1 _
      simp [List.getElem?_eq_getElem hj', hj, h1]
    · rw [List.getElem?_eq_none (by simpa [hsz] using Nat.le_of_not_lt hj), List.getElem?_eq_none (by simpa using Nat.le_of_not_lt hj)]
  rw [hl]
  refine ⟨hok, fun t' k => hQ { s' with toks := k } t' ⟨hm.os, hm.drawn, fun G => AllBare.moved G hm.gens⟩ fun b o hb e => hm.heap b o (fun hmem => Nat.lt_irrefl _ (Nat.lt_of_lt_of_le hb (hwr b hmem))) e⟩
end
end
section
open PySem PySem.W PyProof.Rows PySem.Calls Builtin
set_option Elab.async false
set_option maxRecDepth 100000

structure Tx (K : Frag) (p : Program) (loose : List Str) (mg mb : Str → Option Value) (bm : Addr) (ob : Obj) (fp : List Addr) (h : Heap) : Prop where
  S : Sx K p loose mg mb fp h
  M : BMod (hideAll h fp) mainGlobals mg bm ob
section
variable {K : Frag} {p : Program} {loose : List Str} {mg mb : Str → Option Value} {bm : Addr} {ob : Obj} {fp fp' : List Addr} {h h' : Heap}
theorem Tx.of {h₀ : Heap} (X : K.In h₀) (T : TopRead p loose mg mb h₀) (M : BMod h₀ mainGlobals mg bm ob) (k : ∀ b o, h₀.get? b = some o → h.get? b = some o) (n : ∀ b ∈ fp, h₀.get? b = none) : Tx K p loose mg mb bm ob fp h :=
  ⟨.of X T k n, M.keeps fun b o e => hideAll_get _ (k b o e) fun hb => by rw [n b hb] at e; cases e⟩
theorem Tx.cx (c : Tx K p loose mg mb bm ob fp h) : Cx K p loose mg mb h := c.S.cx
end
theorem parts_kb {h h' : Heap} {fp : List Addr} {items : Array Value} {ps : List (Str × Str)} (x : PartsAt h items ps) (k : KB fp h h') (hf : ∀ b ∈ fp, ∀ o, h.get? b = some o → o.cls ≠ .type "tuple") : PartsAt h' items ps :=
  x.keep fun b v r => let ⟨o, e, c, d⟩ := r; ⟨o, k b o (fun q => hf b q o e c) e, c, d⟩

noncomputable def sumLen : List (Str × Str) → Nat
  | [] => 0
  | p :: r => p.1.length + p.2.length + sumLen r
noncomputable def lenAt (ps : List (Str × Str)) (i : Nat) : Int := match ps[i]? with | some p => ((p.1.length + p.2.length : Nat) : Int) | none => 0
theorem sumLen_append : ∀ a b, sumLen (a ++ b) = sumLen a + sumLen b
  | [], b => by simp [sumLen]
  | p :: a, b => by simp only [List.cons_append, sumLen, sumLen_append a b]; lia
theorem preSum_len (ps : List (Str × Str)) : ∀ n, n ≤ ps.length → preSum (lenAt ps) n = (sumLen (ps.take n) : Nat)
  | 0, _ => rfl
  | n + 1, h => by
    show preSum (lenAt ps) n + lenAt ps n = _
    rw [preSum_len ps n (by (with_reducible exact nnY (by assumption))), List.take_succ]
    unfold lenAt
    rw [List.getElem?_eq_getElem (by lia)]
    simp only [Option.toList_some, sumLen_append, sumLen]
    lia
theorem sumLen_take_le (ps : List (Str × Str)) (n : Nat) : sumLen (ps.take n) ≤ sumLen ps := by
  have := sumLen_append (ps.take n) (ps.drop n)
  rw [List.take_append_drop] at this
  (with_reducible exact nnN (by assumption))
theorem lenAt_le (ps : List (Str × Str)) (n : Nat) : 0 ≤ lenAt ps n ∧ lenAt ps n ≤ (sumLen ps : Nat) := by
  unfold lenAt
  cases h : ps[n]? with
  | none => simp
  | some p =>
    obtain ⟨hn, e⟩ := List.getElem?_eq_some_iff.mp h
    have h1 := sumLen_append (ps.take n) (ps.drop n)
    rw [List.take_append_drop] at h1
    have h2 : ps.drop n = ps[n] :: ps.drop (n + 1) := List.drop_eq_getElem_cons hn
    rw [h2, e] at h1
    simp only [sumLen] at h1
    refine ⟨by simp only; lia, ?_⟩
    simp only
    lia
end
section
open PySem PySem.W PyProof.Rows PySem.Calls
set_option Elab.async false
set_option maxRecDepth 100000
section
variable {prog : Program} {w : World} {A : Around} {E : Value → Shared → Prop} {s : Shared} {env : Env} {mg mb m : Str → Option Value} {xa xb : Str}

theorem elt_name {z : Value} {pos : Pos} {Q : Value → Shared → Prop} (hk : env.scope.kind = .function) (hx : env.kindOf xa = some .local) (hns : s.heap.Ns env.locals m) (hv : m xa = some z) (h : Q z s) (hd : (xa == ("__debug__" : Str)) = false) :
    wpAny (model prog w) A (eval (.Name xa pos) env) Q E s := wpAny_Name (wpAny_loadName_local hk hx hns hv h) hd

theorem elt_len {z : Str} {t : Tok} {p1 p2 p3 : Pos} {Q : Value → Shared → Prop} (hk : env.scope.kind = .function) (hl : env.kindOf "len" = some .globalImplicit) (hx : env.kindOf xa = some .local) (hd : (xa == ("__debug__" : Str)) = false)
    (G : s.heap.Ns env.globals mg) (hg : mg "len" = none) (B : s.heap.Ns env.builtins mb) (hb : mb "len" = some (.builtin "len")) (hns : s.heap.Ns env.locals m) (hv : m xa = some (.str z t)) (hz : ¬ (z.length : Int) ≥ 2 ^ 63)
    (h : ∀ t' tk, Q (.int z.length t') { s with toks := tk })
    (he : starEach [.Name xa p2] env = (false, eval (.Name xa p2) env) :: starEach [] env) :
    wpAny (model prog w) A (eval (.Call (.Name "len" p1) [.Name xa p2] [] p3) env) Q E s := by
  refine Call_ (Name_function_global hk hl (loadGlobal_builtin G hg B hb ?_)) ?_
  · refine callWith_builtin1 ?_ he ?_
    · rw [he]
      refine Calls.spliced_cons (elt_name hk hx hns hv ?_ hd)
      exact Calls.spliced_nil (len_str hz (h _ _))
    · rfl
  · rfl

theorem elt_join2 {z1 z2 e0 : Str} {t1 t2 t0 : Tok} {k : Nat} {p1 p2 p3 p4 p5 p6 : Pos} {nm : Str} {Q : Value → Shared → Prop} (hk : env.scope.kind = .function) (hl : env.kindOf nm = some .globalImplicit) (hn : (nm == ("__debug__" : Str)) = false)
    (hxa : env.kindOf xa = some .local) (hda : (xa == ("__debug__" : Str)) = false) (hxb : env.kindOf xb = some .local) (hdb : (xb == ("__debug__" : Str)) = false)
    (G : s.heap.Ns env.globals mg) (hg : mg nm = some (.str e0 t0)) (hns : s.heap.Ns env.locals m) (hv1 : m xa = some (.str z1 t1)) (hv2 : m xb = some (.str z2 t2)) (he0 : e0.length = 0) (hz : z1.length + z2.length ≤ 1000000)
    (h : ∀ t' h' tk, (∀ b o, s.heap.get? b = some o → h'.get? b = some o) → Q (.str (Txt.join e0 [z1, z2]) t') { s with heap := h', toks := tk })
    (he : starEach [.Tuple [.Name xa p2, .Name xb p3] k p4] env = (false, eval (.Tuple [.Name xa p2, .Name xb p3] k p4) env) :: starEach [] env)
    (he2 : starEach [.Name xa p2, .Name xb p3] env = (false, eval (.Name xa p2) env) :: starEach [.Name xb p3] env) (he3 : starEach [.Name xb p3] env = (false, eval (.Name xb p3) env) :: starEach [] env)
    (hm : ∃ pl, eval (.Call (.Attribute (.Name nm p1) "join" p5) [.Tuple [.Name xa p2, .Name xb p3] k p4] [] p6) env = (do
      let ov ← eval (.Name nm p1) env
      standAt p5.atName
      let (f, first) ← holding [ov] (getMethod ov "join" pl)
      callWith p6 f first (backTo p6 (starEach [.Tuple [.Name xa p2, .Name xb p3] k p4] env)) [])) :
    wpAny (model prog w) A (eval (.Call (.Attribute (.Name nm p1) "join" p5) [.Tuple [.Name xa p2, .Name xb p3] k p4] [] p6) env) Q E s := by
  obtain ⟨pl, hm⟩ := hm
  refine MethodCall_ (pl := pl) (Name_function_global hk hl (loadGlobal_global G hg ?_) hn) hm
  refine GM.join ?_
  refine Calls.callWith_builtin (by rw [he]; rfl) ?_
  rw [he]
  refine evalArgs_plain ?_
  refine Calls.spliced_cons (Tuple_ (k := k) ?_)
  rw [he2]
  refine Calls.spliced_cons (elt_name hk hxa hns hv1 ?_ hda)
  rw [he3]
  refine Calls.spliced_cons (elt_name hk hxb hns hv2 ?_ hdb)
  refine Calls.spliced_nil ?_
  refine wpAny_newTuple ?_ (by show 2 ≤ sizeLine; decide)
  refine Calls.spliced_nil ?_
  show wpAny _ _ (call (.builtin "str.join") [.str e0 t0, .ref s.heap.objs.size]) _ _ _
  refine join_tuple (ys := [z1, z2]) ⟨_, Heap.get?_push_size _ rfl, rfl, _, rfl⟩ (.cons _ _ (.cons _ _ .nil)) (by simp [he0]; (with_reducible exact nnD (by assumption) (by decide))) ?_
  intro t' k'
  exact h t' _ k' fun b o e => Heap.get?_push_of_some _ e
end

theorem GenW.toks {prog : Program} {w : World} {A : Around} {n₀ : Nat} {a : Addr} {n : Nat} {F : Nat → Value → Prop} {s : Shared} (X : GenW prog w A n₀ a n F s) {tk : Nat} (h : s.toks ≤ tk) : GenW prog w A n₀ a n F { s with toks := tk } := by
  obtain ⟨fp, wr, g, St, W, hst, h1, h2, h3, h4⟩ := X
  exact ⟨fp, wr, g, St, W, W.frame 0 s s.heap tk hst h fun _ _ _ e => e, h1, h2, h3, h4⟩
end
section
open PySem PySem.W PyProof.Rows PySem.Calls
set_option Elab.async false
set_option maxRecDepth 100000
noncomputable abbrev sg (z : Str) : List Nat := z.cps.toList
noncomputable def tx (l : List Nat) : Str := ⟨l.toArray⟩
theorem sg_tx (l : List Nat) : sg (tx l) = l := by simp [tx]
theorem tx_sg (z : Str) : tx (sg z) = z := by cases z; simp [tx]
theorem tx_inj {a b : Str} (h : sg a = sg b) : a = b := by rw [← tx_sg a, h, tx_sg]
theorem sg_len (z : Str) : (sg z).length = z.length := by rw [Array.length_toList]; rfl
theorem sg_append (a b : Str) : sg (a ++ b) = sg a ++ sg b := by
  show ((a.append b).cps).toList = _
  simp [Str.append]
theorem txt_join (e : Str) (ys : List Str) : Txt.join e ys = Str.join e ys := eq_of_beq (join_plain_closes e ys)
theorem sg_join0 (e : Str) (he : e.length = 0) : ∀ ys : List Str, sg (Str.join e ys) = ys.flatMap sg
  | [] => rfl
  | [y] => by simp [Str.join]
  | y :: z :: r => by
    have h0 : sg e = [] := List.length_eq_zero_iff.mp (by rw [sg_len]; exact he)
    show sg (y ++ e ++ Str.join e (z :: r)) = _
    rw [sg_append, sg_append, h0, sg_join0 e he (z :: r)]
    simp
theorem sg_join (e : Str) (he : e.length = 0) (ys : List Str) : sg (Txt.join e ys) = ys.flatMap sg := by rw [txt_join]; exact sg_join0 e he ys

noncomputable def partsTx (ps : List (Str × Str)) : List Nat := ps.flatMap fun p => sg p.1 ++ sg p.2
theorem partsTx_len : ∀ ps : List (Str × Str), (partsTx ps).length = sumLen ps
  | [] => rfl
  | p :: r => by
    show ((sg p.1 ++ sg p.2) ++ partsTx r).length = _
    rw [List.length_append, List.length_append, sg_len, sg_len, partsTx_len r]
    rfl
noncomputable def joinAt (e : Str) (ps : List (Str × Str)) (i : Nat) : Str := match ps[i]? with | some p => Txt.join e [p.1, p.2] | none => e
theorem join_parts (e : Str) (he : e.length = 0) (ps : List (Str × Str)) : Txt.join e ((List.range ps.length).map (joinAt e ps)) = tx (partsTx ps) := by
  apply tx_inj
  rw [sg_join e he, sg_tx]
  have : (List.range ps.length).map (joinAt e ps) = ps.map fun p => Txt.join e [p.1, p.2] := by
    apply List.ext_getElem?
    intro j
    by_cases hj : j < ps.length
    · simp [hj, joinAt]
    · rw [List.getElem?_eq_none (by simpa using Nat.le_of_not_lt hj), List.getElem?_eq_none (by simpa using Nat.le_of_not_lt hj)]
  rw [this]
  unfold partsTx
  rw [List.flatMap_map]
  congr 1
  funext p
  rw [sg_join e he]
  simp
theorem join_parts_ok (e : Str) (he : e.length = 0) (ps : List (Str × Str)) (h : sumLen ps ≤ 1000000) : JoinOk e ((List.range ps.length).map (joinAt e ps)) = true := by
  refine joinOk_of ?_
  have : (List.range ps.length).map (joinAt e ps) = ps.map fun p => Txt.join e [p.1, p.2] := by
    apply List.ext_getElem?
    intro j
    by_cases hj : j < ps.length
    · simp [hj, joinAt]
    · rw [List.getElem?_eq_none (by simpa using Nat.le_of_not_lt hj), List.getElem?_eq_none (by simpa using Nat.le_of_not_lt hj)]
  rw [this, he, Nat.mul_zero, Nat.add_zero, List.map_map]
  have q : ∀ l : List (Str × Str), (l.map ((fun x => x.length) ∘ fun p : Str × Str => Txt.join e [p.1, p.2])).sum = sumLen l := by
    intro l
    induction l with
    | nil => rfl
    | cons p r ih =>
      rw [List.map_cons, List.sum_cons, ih]
      show (Txt.join e [p.1, p.2]).length + _ = _
      rw [← sg_len, sg_join e he]
      simp only [List.flatMap_cons, List.flatMap_nil, List.append_nil, List.length_append, sg_len, sumLen]
  rw [q]
  (with_reducible exact nnD (by assumption) (by decide))
end
section
open PySem PySem.W PyProof.Rows PySem.Calls Builtin
set_option Elab.async false
set_option maxRecDepth 100000
set_option maxHeartbeats 2000000

noncomputable def makesL (K : Frag) (C : Addr) : Bool := match K.lookup C with
  | some ⟨_, _, .cls cd, sl⟩ => !cd.abstract && !cd.hasDel && (sl.toList[4]?).join == some (.builtin "list.__new__") && !cd.mro.isEmpty && cd.mro.contains (.ref C) && cd.mro.contains (.type "list") &&
      specialIn K (.ref C) "__call__" == some (some (.builtin "type.__call__")) && instIn K (.ref C) (.type "type") == some true
  | _ => false
structure MakesL (M : Model) (h : Heap) (C : Addr) : Prop where
  obj : ∃ oc od cd sl, h.get? C = some ⟨oc, od, .cls cd, sl⟩ ∧ cd.hasDel = false ∧ cd.mro.isEmpty = false
  made : Looks M h (Bind.madeBy (.ref C)) (some "list.__new__")
  base : Looks M h (Bind.staticBase (.ref C)) (.ref C)
  self : Looks M h (isSubtype (.ref C) (.ref C)) true
  top : Looks M h (isSubtype (.ref C) (.type "list")) true
  call : Looks M h (specialOf (.ref C) "__call__") (some (.builtin "type.__call__"))
  typ : Looks M h (isInstance (.ref C) (.type "type")) true
theorem makesL_of {K : Frag} {M : Model} {h : Heap} (X : K.In h) {C : Addr} (e : makesL K C = true) : MakesL M h C := by
  unfold makesL at e
  split at e
  · rename_i oc od cd sl ho
    simp only [Bool.and_eq_true, Bool.not_eq_true', beq_iff_eq] at e
    obtain ⟨⟨⟨⟨⟨⟨⟨e1, e2⟩, e3⟩, e4⟩, e5⟩, e6⟩, e7⟩, e8⟩ := e
    have hc : clsIn K C = some cd := by unfold clsIn; rw [ho]
    have hm : Looks M h (mroOf (.ref C)) cd.mro := (looks_clsIn X hc).andThen .now
    obtain ⟨c, l, hl⟩ : ∃ c l, cd.mro = c :: l := by cases q : cd.mro with | nil => rw [q] at e4; cases e4 | cons c l => exact ⟨c, l, rfl⟩
    have made : Looks M h (Bind.madeBy (.ref C)) (some "list.__new__") := by
      intro A Q E s k q
      unfold Bind.madeBy
      refine wpAny_bind (hm A _ E s k ?_)
      rw [hl, List.forIn_cons]
      refine wpAny_bind (wpAny_bind (wpAny_bind (wpAny_bind (wpAny_loadPart (k _ _ (X _ _ ho)) (wpAny_pure ?_)))))
      dsimp only
      rw [← Array.getElem?_toList, e3]
      exact wpAny_pure (wpAny_pure (wpAny_pure q))
    refine ⟨⟨oc, od, cd, sl, X _ _ ho, e2, e4⟩, made, ?_, looks_mroIn X ?_, looks_mroIn X ?_, looks_specialIn X e7, looks_instIn X e8⟩
    · intro A Q E s k q
      unfold Bind.staticBase
      refine wpAny_bind (hm A _ E s k ?_)
      rw [hl, List.forIn_cons]
      exact wpAny_bind (wpAny_bind (wpAny_bind (made A _ E s k (wpAny_pure (wpAny_pure (wpAny_pure q))))))
    · unfold mroIn; rw [hc, Option.bind_some, if_neg (by rw [e4]; decide), e5]
    · unfold mroIn; rw [hc, Option.bind_some, if_neg (by rw [e4]; decide), e6]
  · cases e

noncomputable abbrev seqInst (C dx : Addr) : Obj := { cls := .ref C, dict := some dx, data := .seq #[] }
theorem ln_kind : builtinKind "list.__new__" = some .builtinFn := by decide +kernel
theorem ln_split : splitId "list.__new__" = some ("list", "__new__") := by decide +kernel
theorem ln_entry : entryFor table "list.__new__" = some Builtin.«list.__new__» := entryFor_of_tree (by kernel_rfl)

section
variable {prog : Program} {w : World} {A : Around} {K : Frag} {C : Addr} {R : Result → Shared → Prop} {h : Heap} {g : Array GenState} {d : Drawn} {t : Nat} {os : OsState}
theorem new_L {rest : List Value} (Y : MakesL (model prog w) h C)
    (hq : R (.ok (.ret (.ref (h.objs.size + 1)))) ⟨(h.push emptyDict).push (seqInst C h.objs.size), g, d, t, os⟩) :
    codeAny (model prog w) A (.call (.builtin "list.__new__") ⟨.ref C :: rest, []⟩) R ⟨h, g, d, t, os⟩ := by
  obtain ⟨⟨oc, od, cd, sl, hC, e2, e4⟩, made, base, self, top, call, typ⟩ := Y
  refine codeAny_call_builtin_code (Code.quiet_builtin _ (by decide +kernel)) ?_
  have row : Manifest.signature? "list.__new__" = some ⟨.any, "list", "list", .cls, [⟨"args", .varPos, false⟩, ⟨"kwargs", .varKw, false⟩]⟩ := by kernel_rfl
  have args : Bind.checkArgs "list.__new__" ⟨.any, "list", "list", .cls, [⟨"args", .varPos, false⟩, ⟨"kwargs", .varKw, false⟩]⟩ ⟨.ref C :: rest, []⟩ = pure () := by kernel_rfl
  simp only [checkBuiltinCall, ln_kind, ln_split, row]
  rw [args]
  repeat (first | simp only [bne_self_eq_false, beq_self_eq_true, Bool.false_eq_true, if_false, if_true, Bool.not_true] | lk)
  refine codeAny_builtinAt ln_entry ?_
  unfold Builtin.«list.__new__»
  refine PySem.wpAt_bind (PySem.wpAt_stack fun p below => ?_)
  refine PySem.wpAt_of_wpAny ?_
  have ow : ("list.__new__".splitOn ".__new__").headD "" = "list" := by simp +decide [String.splitOn, String.splitOnAux]
  simp only [ow]
  refine wpAny_bind (ks_wpAny_isType_cls hC rfl ?_)
  simp only [Bool.not_true, Bool.false_eq_true, if_false]
  refine wpAny_bind (top.at ?_)
  simp only [Bool.not_true, Bool.false_eq_true, if_false]
  refine wpAny_bind (wpAny_pure ?_)
  rw [if_neg (show ¬ ((!typeHasDict (.ref C)) = true) from by simp [typeHasDict])]
  refine wpAny_bind (wpAny_newObj_type ?_ (by size_fits))
  dsimp only
  refine wpAny_bind ?_
  unfold newObj
  dsimp only
  rw [if_neg (by decide)]
  show wpAny _ _ (newObjAsIs _ _ _) _ _ _
  unfold newObjAsIs classHasDel
  refine wpAny_bind (wpAny_alloc (wpAny_bind (wpAny_bind (wpAny_load (Heap.get?_push_of_some _ (Heap.get?_push_of_some _ hC)) (wpAny_pure ?_)))))
  rw [e2]
  refine wpAny_pure (wpAny_pure ?_)
  show R _ _
  rw [Heap.size_push]
  exact hq

theorem make_L {rest : List Value} {fI : Addr} (X : K.In h) (hm : makesL K C = true) (hi : findIn K (.ref C) "__init__" = some (some (.ref fI))) (hf : typeIn K (.ref fI) = some (.type "function"))
    (hq : codeAny (model prog w) (A.under (.builtin "type.__call__" ⟨.ref C :: rest, []⟩)) (.call (.ref fI) ⟨.ref (h.objs.size + 1) :: rest, []⟩) (InitBack (h.objs.size + 1) R) ⟨(h.push emptyDict).push (seqInst C h.objs.size), g, d, t, os⟩) :
    codeAny (model prog w) A (.call (.ref C) ⟨rest, []⟩) R ⟨h, g, d, t, os⟩ := by
  have Y' := makesL_of (M := model prog w) X hm
  obtain ⟨⟨oc, od, cd, sl, hC, e2, e4⟩, made, base, self, top, call, typ⟩ := makesL_of (M := model prog w) X hm
  refine codeAny_of_tree ?_
  show wpAny _ _ (callAny (.ref C) _) _ _ _
  refine nd_load hC ?_
  show wpAny _ _ (callAny.viaDunder (.ref C) _) _ _ _
  unfold callAny.viaDunder
  refine wpAny_bind (call.at ?_)
  dsimp only
  rw [tc_bind]
  refine wpAny_bind (wpAny_pure (wpAny_bind (wpAny_pure ?_)))
  refine wpAny_pure (a := Fin.again (.call (.builtin "type.__call__") ⟨.ref C :: rest, []⟩)) (And.intro rfl ?_)
  refine codeAny_call_builtin_at (Code.quiet_builtin _ (by decide +kernel)) entry_typeCall (check_slot tc_kind tc_split typ (tc_args _ _ _) ?_)
  unfold Builtin.«type.__call__»
  have hmr : Looks (model prog w) h (mroOf (.ref C)) cd.mro := ((Looks.ld (part := none) hC).andThen .now).andThen .now
  repeat (first | simp only [e4, Bool.false_eq_true, if_false] | with_reducible refine wpAny_call ?_ | lk)
  refine new_L Y' ?_
  have k : ∀ b o, h.get? b = some o → ((h.push emptyDict).push (seqInst C h.objs.size)).get? b = some o := fun b o e => Heap.get?_push_of_some _ (Heap.get?_push_of_some _ e)
  have hx : ((h.push emptyDict).push (seqInst C h.objs.size)).get? (h.objs.size + 1) = some (seqInst C h.objs.size) := by heap_get
  have t1 : Looks (model prog w) ((h.push emptyDict).push (seqInst C h.objs.size)) (typeOf (.ref (h.objs.size + 1))) (.ref C) := (Looks.ld hx).andThen .now
  have s1 := self.keeps k
  have i1 := (looks_findIn (M := model prog w) X hi).keeps k
  have b1 := (bind_fn (M := model prog w) X (.ref (h.objs.size + 1)) hf).keeps k
  unfold isInstance callSpecial? specialOf
  repeat (first | with_reducible refine wpAny_call ?_ | lk)
  refine codeAny_mono hq fun r s' z => ?_
  rcases r with e | (v | _ | _ | _) <;> first | exact z | exact z.elim | skip
  obtain ⟨rfl, z⟩ := z
  exact wpAny_pure (wpAny_pure z)
end
end
section
open PySem PySem.W PyProof.Rows PySem.Calls Builtin
set_option Elab.async false
set_option maxRecDepth 100000
section
variable {prog : Program} {w : World} {A : Around} {s : Shared} {mg mb : Str → Option Value} {K : Frag} {p : Program} {loose : List Str}
theorem enterSC {R : Result → Shared → Prop} {name qual : Str} {params : Arguments} {body : List Stmt} {scope : Scope} {cl : List (Str × Addr)} {dV kV doc pm cdv ct oc : Value} {an od : Option Addr} {osl : Array (Option Value)} {f : Addr} {vs : List Value} {binds : List (Str × Value)}
    {fp : List Addr} (news : List (Addr × Obj))
    (C : Sx K p loose mg mb fp s.heap)
    (ho : K.lookup f = some ⟨oc, od, .func (fnX name qual params body scope cl dV kV doc pm an cdv ct), osl⟩) (hcd : codeIn K cdv qual = true) (hroom : A.depth < recursionLimit)
    (hbind : BindsTo s (fnX name qual params body scope cl dV kV doc pm an cdv ct) ⟨vs, []⟩ binds) (hloc : ∀ y ∈ binds, scope.names.lookup y.1 = some .local)
    (hn : ∀ q ∈ news, q.1 ∈ fp ∧ s.heap.get? q.1 = some q.2)
    (h : ∀ L' h₁ tk, Fr (hideAll s.heap fp) L' h₁ (lmap (binds.reverse.map fun e => (e.1, some e.2))) → News (hideAll s.heap fp) L' h₁ news → K.In (hideAll s.heap fp) → TopRead p loose mg mb (hideAll s.heap fp) →
      PySem.wpAt (model prog w) (A.deeper (envX qual scope L' f cdv cl)) (.func body (envX qual scope L' f cdv cl)) (execs body (envX qual scope L' f cdv cl))
        (fun fl s' => R (.ok (.ret (match fl with | .ret v => v | _ => .none))) s') NoE { s with heap := h₁, toks := tk })
    (hco : scope.isCoroutine = false) (hgen : scope.isGenerator = false) (hk : scope.kind = .function)
    (hcell : ∀ x ∈ scope.names, x.2 ≠ .cell) : codeAny (model prog w) A (.call (.ref f) ⟨vs, []⟩) R s := by
  have C' := C.cx
  refine ks_codeAny_call_defAt (fd := fnX name qual params body scope cl dV kV doc pm an cdv ct) (body := body) (binds := binds) hroom (C'.X _ _ ho) rfl C'.T.nolimit (codeRec_of C'.X hcd) rfl hbind hcell hloc (fun h₁ hns hk₁ => ?_) hco hgen hk
  refine ks_wpAt_mono (h s.heap.objs.size h₁ _ ⟨by rw [← lmap_lookup]; exact hns, fun b o e => hk₁ b o (of_hideAll _ e), Nat.le_of_eq (hideAll_size _ _)⟩ (fun q hq => ?_) C.X C.T) (fun _ _ x => x) fun _ _ x => x.elim
  obtain ⟨a, e⟩ := hn q hq
  exact ⟨hk₁ _ _ e, Nat.ne_of_lt (Heap.lt_size e), hideAll_none _ a⟩
end
theorem above_none {h : Heap} {b : Addr} (hb : h.objs.size ≤ b) : h.get? b = none := by
  cases z : h.get? b with
  | none => rfl
  | some o => exact absurd (Heap.lt_size z) (Nat.not_lt.mpr hb)
theorem parts_tabs {h h' : Heap} {fp : List Addr} {items : Array Value} {ps : List (Str × Str)} (x : PartsAt h items ps) (k : KB fp h h') (hf : ∀ b ∈ fp, ∃ t, h.get? b = some (tabObj t)) : PartsAt h' items ps :=
  parts_kb x k fun b hb o e => by
    obtain ⟨t, q⟩ := hf b hb
    rw [q] at e
    cases e
    simp
end
section
open PySem PySem.W PyProof.Rows PySem.Calls
set_option Elab.async false
set_option maxRecDepth 100000
section
variable {prog : Program} {w : World} {A : Around} {E : Value → Shared → Prop} {s : Shared} {Q : Value → Shared → Prop}
theorem rcne_of {a b : Value} {k : Bool} (h : SeqAt.RcNeAt A s a b k) (hq : Q (.bool k) s) : wpAny (model prog w) A (compareOp .NotEq a b) Q E s := h prog w E Q hq
theorem tup_ne {l b : Addr} {x1 x2 y1 y2 : Str} {t1 t2 u1 u2 : Tok} (hl : s.heap.IsTuple l #[.str x1 t1, .str x2 t2]) (hb : s.heap.IsTuple b #[.str y1 u1, .str y2 u2]) (hu : A.units < cLine)
    (h : Q (.bool (!(x1 == y1 && x2 == y2))) s) : wpAny (model prog w) A (compareOp .NotEq (.ref l) (.ref b)) Q E s := by
  refine rcne_of (k := !((List.range 2).all (fun j => if j = 0 then x1 == y1 else x2 == y2) && true)) (SeqAt.RcNeAt.tuples (e := fun j => if j = 0 then x1 == y1 else x2 == y2) hl hb hu ?_) ?_
  · intro j h1 h2
    match j, h1 with
    | 0, _ => exact SeqAt.EqAt.str_str _ _ _ _
    | 1, _ => exact SeqAt.EqAt.str_str _ _ _ _
  · simpa [List.range, List.range.loop] using h
end
end
section
open PySem PySem.W PyProof.Rows PySem.Calls Builtin Builtin.ObjectAttr
set_option Elab.async false
set_option maxRecDepth 100000
section
variable {prog : Program} {w : World} {A : Around} {E : Value → Shared → Prop} {s : Shared} {K : Frag} {x C f : Addr} {ox : Obj} {od : Option Obj} {name : Str}

theorem sub_bound {expr : Bool} {Q : Value → Shared → Prop} (X : K.In s.heap) (I : InstAt s.heap x ox C od) (S : SubL K C)
    (hf : findObj K C od name = some (.bind (.builtin "function.__get__") (.ref f))) (ht : typeIn K (.ref f) = some (.type "function"))
    (h : Q (.ref s.heap.objs.size) { s with heap := s.heap.push (methodObj (.ref f) (.ref x)), toks := s.toks + 1 }) : wpAny (model prog w) A (getAttr (.ref x) name expr) Q E s := by
  obtain ⟨hh', g, d, t, os⟩ := s
  have L0 := I.type (M := model prog w)
  have L1 := looks_findIn (M := model prog w) X S.ga
  have L2 := looks_findIn (M := model prog w) X S.gt
  have L3 := looks_find (M := model prog w) X I hf
  unfold getAttr getAttrBy
  refine wpAny_bind (wpAny_mkText (wpAny_holding (wpAny_bind (L0.at (wpAny_bind (L1.at ?_))))))
  show wpAny _ _ (getAttrByItsOwn _ _ _ _ _ _) _ _ _
  unfold getAttrByItsOwn hookBefore
  refine wpAny_bind (L2.at ?_)
  refine wpAny_bind (wpAny_attempt (wpAny_holding ?_))
  unfold callGetattribute
  rw [show (expr && onTheHeap (Value.builtin "list.__getattribute__")) = false from Bool.and_false _, if_neg (by decide)]
  unfold boundAndCalled
  rw [PySem.F.slot_list_getattribute.bind]
  refine wpAny_bind (wpAny_pure ?_)
  show wpAny _ _ (call (.builtin "list.__getattribute__") [.ref x, .str name t]) _ _ _
  refine call_sub k_ga (owner := "list") (n := "__getattribute__") (by decide +kernel) (by decide +kernel) PySem.am_entry_list_getattribute (PySem.F.args_list_getattribute_2 _ _) (sub_inst X I S) ?_
  unfold Builtin.«object.__getattribute__»
  refine wpAny_bind (wpAny_pure (wpAny_bind (wpAny_pure (wpAny_bind (L0.at (wpAny_bind (L3.at ?_)))))))
  show wpAny _ _ (holding [Value.ref f] (call (.builtin "function.__get__") [.ref f, .ref x, .ref C]) >>= ret) _ _ _
  refine wpAny_bind (wpAny_holding (wpAny_call (fn_get X ht (wpAny_pure ⟨_, rfl, ?_⟩))))
  exact handed_on rfl h

theorem starMeth {M : Model} {o : Expr} {args : List Expr} {apos pos : Pos} {env : Env} {Q : Value → Shared → Prop}
    (h : wpAny M A (eval o env) (fun ov s₁ => wpAny M A (getAttr ov name true) (fun f s₂ => wpAny M A (callWith pos f [] (backTo pos (starEach args env)) []) Q E s₂) E s₁) E s)
    (ho : attributeBase o name env (eval o env) = eval o env := by rfl) (hform : methodCallForm (args.length + ([] : List Keyword).length) (backTo pos (starEach args env)) (backToKw pos (keywordEach [] env)) = false := by rfl) :
    wpAny M A (eval (.Call (.Attribute o name apos) args [] pos) env) Q E s := by
  show wpAny _ _ (attributeBase o name env (eval o env) >>= fun ov => standAt apos.atName >>= fun _ => methodCall o name apos pos env ov (args.length + ([] : List Keyword).length) (backTo pos (starEach args env)) (backToKw pos (keywordEach [] env))) _ _ _
  rw [ho]
  refine wpAny_bind (wpAny_mono h (fun ov s₁ h₁ => wpAny_bind (wpAny_standAt ?_)) fun _ _ x => x)
  unfold methodCall
  rw [hform]
  refine wpAny_bind (wpAny_holding ?_)
  unfold calleeOf
  refine wpAny_bind (wpAny_mono h₁ (fun f s₂ h₂ => wpAny_pure ?_) fun _ _ x => x)
  refine wpAny_bind (wpAny_of_eq (a := pos) (by unfold methodCallPos; simp) ?_)
  exact h₂

theorem star2 {q g : Addr} {self a b : Value} {T : Addr} {pos p : Pos} {e : Expr} {env : Env} {Q : Value → Shared → Prop} (hq : s.heap.get? q = some (methodObj (.ref g) self)) (X : K.In s.heap) (hf : fnIn K g = true)
    (hT : s.heap.IsTuple T #[a, b])
    (he : wpAny (model prog w) A (eval e env) (fun v s' => v = .ref T ∧ s' = s) E s)
    (h : ∀ h', (∀ c o, s.heap.get? c = some o → h'.get? c = some o) → codeAny (model prog w) A (.call (.ref g) ⟨[self, a, b], []⟩) (fun r s' => match r with | .ok (.ret v) => Q v s' | .ok _ => False | .error e => E e s') { s with heap := h' })
    (hs : starEach [.Starred e p] env = [(true, eval e env)] := by rfl) :
    wpAny (model prog w) A (callWith pos (.ref q) [] (backTo pos (starEach [.Starred e p] env)) []) Q E s := by
  rw [hs]
  refine ks_call (P := MethP K q g self) rfl (keeps_M hf) (ks_lone ?_)
  refine wpAny_mono he ?_ (fun _ _ x => x)
  rintro v s' ⟨rfl, rfl⟩
  obtain ⟨o, ho, hc, nn, hdd⟩ := hT
  have hT' : s'.TypeIs (.ref T) "tuple" := ⟨_, ho, hc⟩
  unfold StarOf notIterableAtAll
  refine wpAny_bind (wpAny_specialOf hT' PySem.F.slot_tuple_iter.lookup (wpAny_pure ⟨rfl, ?_⟩))
  refine wpAny_collect_seq T (.inr rfl) ho hc hdd (fun h' hk => ⟨⟨hk _ _ hq, X.keeps hk⟩, ?_⟩) (by show 2 ≤ sizeLine; decide)
  show wpAny _ _ (call (.ref q) [a, b]) _ _ _
  refine wpAny_call (ks_codeAny_call_bound (hk _ _ hq) ?_)
  exact h h' hk
end
section
variable {prog : Program} {w : World} {A : Around} {s : Shared} {K : Frag} {p : Program} {loose : List Str} {mg mb : Str → Option Value}
theorem enterHC {R : Result → Shared → Prop} {name qual : Str} {params : Arguments} {body : List Stmt} {scope : Scope} {cl : List (Str × Addr)} {dV kV doc pm cdv ct oc : Value} {an od : Option Addr} {osl : Array (Option Value)} {f : Addr} {vs : List Value} {binds : List (Str × Value)}
    {fp : List Addr} (news : List (Addr × Obj))
    (C : Sx K p loose mg mb fp s.heap)
    (ho : K.lookup f = some ⟨oc, od, .func (fnX name qual params body scope cl dV kV doc pm an cdv ct), osl⟩) (hcd : codeIn K cdv qual = true) (hroom : A.depth < recursionLimit)
    (hbind : BindsTo s (fnX name qual params body scope cl dV kV doc pm an cdv ct) ⟨vs, []⟩ binds) (hloc : ∀ y ∈ binds, scope.names.lookup y.1 = some .local)
    (hn : ∀ q ∈ news, q.1 ∈ fp ∧ s.heap.get? q.1 = some q.2)
    (h : ∀ L' h₁ tk, Fr (hideAll s.heap fp) L' h₁ (lmap (binds.reverse.map fun e => (e.1, some e.2))) → News (hideAll s.heap fp) L' h₁ news → K.In (hideAll s.heap fp) → TopRead p loose mg mb (hideAll s.heap fp) →
      wpAny (model prog w) (A.deeper (envX qual scope L' f cdv cl)) (execs body (envX qual scope L' f cdv cl))
        (fun fl s' => R (.ok (.ret (match fl with | .ret v => v | _ => .none))) s') NoE { s with heap := h₁, toks := tk })
    (hco : scope.isCoroutine = false) (hgen : scope.isGenerator = false) (hk : scope.kind = .function)
    (hcell : ∀ x ∈ scope.names, x.2 ≠ .cell) : codeAny (model prog w) A (.call (.ref f) ⟨vs, []⟩) R s := by
  have C' := C.cx
  refine codeAny_call_def (fd := fnX name qual params body scope cl dV kV doc pm an cdv ct) (body := body) (binds := binds) hroom (C'.X _ _ ho) rfl C'.T.nolimit (codeRec_of C'.X hcd) rfl hbind hcell hloc (fun h₁ hns hk₁ => ?_) hco hgen hk
  refine wpAny_mono (h s.heap.objs.size h₁ _ ⟨by rw [← lmap_lookup]; exact hns, fun b o e => hk₁ b o (of_hideAll _ e), Nat.le_of_eq (hideAll_size _ _)⟩ (fun q hq => ?_) C.X C.T) (fun _ _ x => x) fun _ _ x => x.elim
  obtain ⟨a, e⟩ := hn q hq
  exact ⟨hk₁ _ _ e, Nat.ne_of_lt (Heap.lt_size e), hideAll_none _ a⟩
end
end
section
open PySem PySem.W PyProof.Rows PySem.Calls
set_option Elab.async false
set_option maxRecDepth 100000
noncomputable abbrev tup2 (a b : Value) : Obj := ⟨.type "tuple", none, .seq #[a, b] 0, #[]⟩

noncomputable def PartsIn (g : Heap) (more : List (Addr × Obj)) (items : Array Value) (ps : List (Str × Str)) : Prop :=
  items.size = ps.length ∧ ∀ (i : Nat) (p : Str × Str), ps[i]? = some p → ∃ (a : Addr) (t u : Tok), items[i]? = some (.ref a) ∧ (g.IsTuple a #[.str p.1 t, .str p.2 u] ∨ (a, tup2 (.str p.1 t) (.str p.2 u)) ∈ more)
theorem PartsIn.mono {g : Heap} {more more' : List (Addr × Obj)} {items : Array Value} {ps : List (Str × Str)} (x : PartsIn g more items ps) (h : ∀ z ∈ more, z ∈ more') : PartsIn g more' items ps :=
  ⟨x.1, fun i p e => let ⟨a, t, u, e', r⟩ := x.2 i p e; ⟨a, t, u, e', r.imp id (h _)⟩⟩
theorem PartsIn.of {g : Heap} {items : Array Value} {ps : List (Str × Str)} (x : PartsAt g items ps) : PartsIn g [] items ps :=
  ⟨x.1, fun i p e => let ⟨a, t, u, r⟩ := x.2 i p e; ⟨_, t, u, a, .inl r⟩⟩
theorem tsOf_of {items : Array Value} {i : Nat} {a : Addr} (e : items[i]? = some (.ref a)) : tsOf items i = a := by unfold tsOf; rw [e]
theorem PartsIn.at {g h : Heap} {more : List (Addr × Obj)} {items : Array Value} {ps : List (Str × Str)} (x : PartsIn g more items ps) (k : ∀ b o, g.get? b = some o → h.get? b = some o) (n : ∀ z ∈ more, h.get? z.1 = some z.2) : PartsAt h items ps :=
  ⟨x.1, fun i p e => by
    obtain ⟨a, t, u, e', r⟩ := x.2 i p e
    rw [tsOf_of e']
    refine ⟨e', t, u, ?_⟩
    rcases r with ⟨o, eo, r⟩ | r
    · exact ⟨o, k _ _ eo, r⟩
    · exact ⟨_, n _ r, rfl, _, rfl⟩⟩
theorem PartsIn.push {g : Heap} {more : List (Addr × Obj)} {items : Array Value} {ps : List (Str × Str)} (x : PartsIn g more items ps) {q : Addr} {y z : Str} {t u : Tok} :
    PartsIn g ((q, tup2 (.str y t) (.str z u)) :: more) (items.push (.ref q)) (ps ++ [(y, z)]) := by
  refine ⟨by rw [Array.size_push, x.1, List.length_append]; rfl, fun i p e => ?_⟩
  by_cases hi : i < ps.length
  · rw [List.getElem?_append_left hi] at e
    obtain ⟨a, t', u', e', r⟩ := x.2 i p e
    refine ⟨a, t', u', ?_, r.imp id (List.mem_cons_of_mem _)⟩
    rw [Array.getElem?_push_lt (by rw [x.1]; exact hi), ← e', Array.getElem?_eq_getElem]
  · rw [List.getElem?_append_right (Nat.le_of_not_lt hi)] at e
    have h0 : i - ps.length = 0 := by
      by_cases h1 : i - ps.length = 0
      · exact h1
      · rw [List.getElem?_eq_none (by simp; omega)] at e; cases e
    rw [h0] at e
    cases e
    have hi' : i = items.size := by rw [x.1]; omega
    subst hi'
    exact ⟨q, t, u, by simp, .inr (.head _)⟩
theorem PartsIn.take {g : Heap} {more : List (Addr × Obj)} {items : Array Value} {ps : List (Str × Str)} (x : PartsIn g more items ps) (k : Nat) : PartsIn g more (items.toList.take k).toArray (ps.take k) := by
  refine ⟨by simp [x.1], fun i p e => ?_⟩
  have hi : i < k := by
    by_cases h : i < k
    · exact h
    · rw [List.getElem?_eq_none (by simp; omega)] at e; cases e
  rw [List.getElem?_take_of_lt hi] at e
  obtain ⟨a, t, u, e', r⟩ := x.2 i p e
  exact ⟨a, t, u, by simp [List.getElem?_take_of_lt hi, e'], r⟩
theorem PartsIn.drop {g : Heap} {more : List (Addr × Obj)} {items : Array Value} {ps : List (Str × Str)} (x : PartsIn g more items ps) (k : Nat) : PartsIn g more (items.toList.drop k).toArray (ps.drop k) := by
  refine ⟨by simp [x.1], fun i p e => ?_⟩
  rw [List.getElem?_drop] at e
  obtain ⟨a, t, u, e', r⟩ := x.2 _ p e
  exact ⟨a, t, u, by simp [e'], r⟩
theorem PartsIn.last {g : Heap} {more : List (Addr × Obj)} {items : Array Value} {ps : List (Str × Str)} {p : Str × Str} (x : PartsIn g more items (ps ++ [p])) :
    ∃ its q t u, items = its.push (.ref q) ∧ PartsIn g more its ps ∧ (g.IsTuple q #[.str p.1 t, .str p.2 u] ∨ (q, tup2 (.str p.1 t) (.str p.2 u)) ∈ more) := by
  have hz := x.1
  rw [List.length_append] at hz
  obtain ⟨q, t, u, e, r⟩ := x.2 ps.length p (by simp)
  have hz' : items.size = ps.length + 1 := hz
  have key : items = (items.toList.take ps.length).toArray.push (.ref q) := by
    apply Array.ext'
    rw [Array.toList_push]
    show items.toList = items.toList.take ps.length ++ [_]
    conv => lhs; rw [← List.take_append_drop ps.length items.toList]
    congr 1
    have hl : ps.length < items.toList.length := by simp [hz']
    rw [List.drop_eq_getElem_cons hl, List.drop_eq_nil_of_le (by simp [hz'])]
    have : items.toList[ps.length] = Value.ref q := by
      have := e
      rw [Array.getElem?_eq_getElem (by omega)] at this
      simpa using this
    rw [this]
  refine ⟨_, q, t, u, key, ?_, r⟩
  have := x.take ps.length
  rwa [List.take_left] at this
theorem PartsIn.get {g h : Heap} {more : List (Addr × Obj)} {items : Array Value} {ps : List (Str × Str)} (x : PartsIn g more items ps) (k : ∀ b o, g.get? b = some o → h.get? b = some o) (n : ∀ z ∈ more, h.get? z.1 = some z.2) {i : Nat} {p : Str × Str} (e : ps[i]? = some p) :
    ∃ a t u, items[i]? = some (.ref a) ∧ h.IsTuple a #[.str p.1 t, .str p.2 u] := by
  obtain ⟨a, t, u, e', r⟩ := x.2 i p e
  refine ⟨a, t, u, e', ?_⟩
  rcases r with ⟨o, eo, r⟩ | r
  · exact ⟨o, k _ _ eo, r⟩
  · exact ⟨_, n _ r, rfl, _, rfl⟩
theorem news_sub {h₀ h : Heap} {L : Addr} {news news' : List (Addr × Obj)} (N : News h₀ L h news) (hs : ∀ z ∈ news', z ∈ news) : News h₀ L h news' := fun z hz => N z (hs z hz)

theorem strs_snoc {z : Str} {t : Tok} : ∀ {vs : List Value} {ys : List Str}, StrsAre vs ys → StrsAre (vs ++ [.str z t]) (ys ++ [z])
  | _, _, .nil => .cons _ _ .nil
  | _, _, .cons a b r => .cons a b (strs_snoc r)
section
variable {prog : Program} {w : World} {A : Around} {E : Value → Shared → Prop} {s : Shared} {Q : Value → Shared → Prop}
theorem list_append_at {x : Addr} {items : Array Value} {ep : Nat} {v : Value} (hx : s.heap.get? x = some ⟨.type "list", none, .seq items ep, #[]⟩) (hz : items.size ≤ sizeLine)
    (h : ∀ h', h'.get? x = some ⟨.type "list", none, .seq (items.push v) (ep + 1), #[]⟩ → Heap.SameBut x s.heap h' → Q .none { s with heap := h' }) :
    wpAny (model prog w) A (call (.builtin "list.append") [.ref x, v]) Q E s := by
  have hT : s.TypeIs (.ref x) "list" := ⟨_, hx, rfl⟩
  refine wpAny_call_entry slot_list_append hT entry_list_append ?_ (args_list_append _ _)
  show wpAny _ _ (updateSeq x (·.push v) >>= fun _ => ret .none) _ _ s
  refine wpAny_bind (wpAny_updateSeq (f := (·.push v)) hx rfl (wpAny_pure ⟨_, rfl, h _ ?_ (Heap.SameBut.update ..)⟩) hz (by simp; (with_reducible exact nnD (by assumption) (by decide))))
  have e : Obj.mapSeq (·.push v) ⟨.type "list", none, .seq items ep, #[]⟩ = ⟨.type "list", none, .seq (items.push v) (ep + 1), #[]⟩ := by
    simp [Obj.mapSeq]
  rw [← e]
  exact Heap.get?_update_self _ hx (by rw [e]; rfl)
end

theorem tup_in {g h : Heap} {q : Addr} {x y : Value} {more : List (Addr × Obj)} (r : g.IsTuple q #[x, y] ∨ (q, tup2 x y) ∈ more) (k : ∀ b o, g.get? b = some o → h.get? b = some o) (n : ∀ z ∈ more, h.get? z.1 = some z.2) : h.IsTuple q #[x, y] := by
  rcases r with ⟨o, eo, r⟩ | r
  · exact ⟨o, k _ _ eo, r⟩
  · exact ⟨_, n _ r, rfl, _, rfl⟩
end
section
open PySem PySem.W PyProof.Rows PySem.Calls PySem.Spec
set_option Elab.async false
set_option maxRecDepth 100000
set_option linter.unusedVariables false
noncomputable def Kp (h h' : Heap) : Prop := ∀ b o, h.get? b = some o → h'.get? b = some o
theorem Kp.refl (h : Heap) : Kp h h := fun _ _ e => e
theorem Kp.trans {a b c : Heap} (x : Kp a b) (y : Kp b c) : Kp a c := fun d o e => y d o (x d o e)
noncomputable def KT (h h' : Heap) : Prop := ∀ b o, h.get? b = some o → o.cls = .type "tuple" → (∃ v n, o.data = .seq v n) → h'.get? b = some o
theorem Kp.kt {a b : Heap} (x : Kp a b) : KT a b := fun d o e _ _ => x d o e
theorem KT.trans {a b c : Heap} (x : KT a b) (y : KT b c) : KT a c := fun d o e q r => y d o (x d o e q r) q r
theorem KT.but {a : Addr} {h h' : Heap} {oa : Obj} (k : ∀ b o, b ≠ a → h.get? b = some o → h'.get? b = some o) (e : h.get? a = some oa) (hn : oa.cls ≠ .type "tuple") : KT h h' := fun b o eb q _ => k b o (fun z => by rw [z, e] at eb; cases eb; exact hn q) eb
theorem KT.ns {a : Addr} {h h' : Heap} {m : Str → Option Value} (k : ∀ b o, b ≠ a → h.get? b = some o → h'.get? b = some o) (e : h.Ns a m) : KT h h' := fun b o eb _ r => k b o (fun z => by
  obtain ⟨o', es, n, ho, hd, _⟩ := e
  rw [z, ho] at eb
  cases eb
  obtain ⟨v, n', hv⟩ := r
  rw [hd] at hv; cases hv) eb
theorem KT.tup {h h' : Heap} (k : KT h h') {a : Addr} {v : Array Value} (x : h.IsTuple a v) : h'.IsTuple a v := let ⟨o, e, c, n, r⟩ := x; ⟨o, k _ _ e c ⟨_, _, r⟩, c, n, r⟩
theorem KT.parts {h h' : Heap} (k : KT h h') {items : Array Value} {ps : List (Str × Str)} (x : PartsAt h items ps) : PartsAt h' items ps := x.keep fun b v r => k.tup r
theorem Kp.parts {h h' : Heap} (k : Kp h h') {items : Array Value} {ps : List (Str × Str)} (x : PartsAt h items ps) : PartsAt h' items ps := k.kt.parts x
noncomputable abbrev liO (vs : Array Value) (ep : Nat) : Obj := ⟨.type "list", none, .seq vs ep, #[]⟩

section
variable {prog : Program} {w : World} {A : Around} {E : Value → Shared → Prop} {s : Shared} {env : Env}

theorem kp_but {g h h' : Heap} {a : Addr} (k : Kp g h) (ha : g.get? a = none) (sb : ∀ b o, b ≠ a → h.get? b = some o → h'.get? b = some o) : Kp g h' := fun b o e => sb b o (fun z => by rw [z, ha] at e; cases e) (k b o e)

theorem loop_pairs {g : Heap} {I C D ax : Addr} {items : Array Value} {ep : Nat} {ps : List (Str × Str)} {elt iter : Expr} {x x₂ : Str} {px px₂ tp pos : Pos} {tk : Nat} {scope : Scope} {cl : List (Str × Addr)} {R : Result → Shared → Prop} (F : Nat → Value → Heap → Prop)
    (hF : ∀ i v h h', F i v h → KT h h' → F i v h') (hh : A.handled = none)
    (hI : g.get? I = none) (hC : g.get? C = none) (hD : g.get? D = none) (hIC : I ≠ C) (hID : I ≠ D) (hCD : C ≠ D)
    (hax : g.get? ax = some (liO items ep)) (hp : PartsAt g items ps) (hlen : ps.length ≤ 1000)
    (hkind : scope.kind = .function) (hx : scope.names.lookup x = some .local) (hx₂ : scope.names.lookup x₂ = some .local) (hxx : x ≠ x₂)
    (helt : ∀ h₂ tk₂ m₂ i p t u (E' : Value → Shared → Prop), ps[i]? = some p → Kp g h₂ → h₂.Ns C m₂ → m₂ x = some (.str p.1 t) → m₂ x₂ = some (.str p.2 u) →
        wpAny (model prog w) A (eval elt (compEnvC scope cl C env)) (fun y s₃ => ∃ h₃ tk₃, s₃ = { s with heap := h₃, toks := tk₃ } ∧ Kp h₂ h₃ ∧ F i y h₃) E' { s with heap := h₂, toks := tk₂ })
    {m₀ : Str → Option Value} (i0 : s.heap.IsListIter I ax 0) (n0 : s.heap.Ns C m₀) (d0 : s.heap.get? D = some (liO #[] 0)) (k0 : Kp g s.heap)
    (fin : ∀ h' tk m' ys ep', Kp g h' → h'.Ns C m' → h'.get? D = some (liO ys ep') → ys.size = ps.length → (∀ i v, ys[i]? = some v → F i v h') → R (.ok .next) { s with heap := h', toks := tk }) :
    codeAny (model prog w) A (.compLoop (.ListComp elt [⟨.Tuple [.Name x px, .Name x₂ px₂] tk tp, iter, [], 0⟩] scope pos) 0 (.ref I) (.ref D) (compEnvC scope cl C env)) R s := by
  have hz := hp.1
  have nI : ∀ b o, g.get? b = some o → b ≠ I := fun b o e z => by rw [z, hI] at e; cases e
  obtain ⟨P, hPi, hE⟩ : ∃ P : Nat → Shared → Prop, (∀ h' tk' i ys ep' m', i ≤ ps.length → h'.IsListIter I ax i → Kp g h' → h'.Ns C m' → h'.get? D = some (liO ys ep') → ys.size = i → (∀ j v, ys[j]? = some v → F j v h') → P (ps.length + 1 - i) { s with heap := h', toks := tk' }) ∧
      ∀ k s' (G : Prop), P k s' → (∀ h' tk' i ys ep' m', i ≤ ps.length → h'.IsListIter I ax i → Kp g h' → h'.Ns C m' → h'.get? D = some (liO ys ep') → ys.size = i → (∀ j v, ys[j]? = some v → F j v h') → s' = { s with heap := h', toks := tk' } → k = ps.length + 1 - i → G) → G :=
    ⟨fun k s' => ∀ G : Prop, _ → G, fun h' tk' i ys ep' m' x1 x2 x3 x4 x5 x6 x7 G f => f h' tk' i ys ep' m' x1 x2 x3 x4 x5 x6 x7 rfl rfl, fun _ _ _ x f => x _ f⟩
  refine kcp_loop P ?_ (ps.length + 1) (hPi s.heap s.toks 0 #[] 0 m₀ (Nat.zero_le _) i0 k0 n0 d0 rfl fun j v e => by simp at e)
  intro k s' hk0
  refine hE k s' _ hk0 ?_
  clear hE hk0
  rintro h' tk' i ys ep' m' hi hit kp hn hDo hys hFs rfl rfl
  have hseq : IsSeq h' ax items := ⟨_, kp _ _ hax, _, rfl⟩
  have hpa := kp.parts hp
  by_cases hlt : i < ps.length
  · obtain ⟨p, hpi⟩ : ∃ p, ps[i]? = some p := ⟨_, List.getElem?_eq_getElem hlt⟩
    obtain ⟨e1, t, u, htup⟩ := hpa.2 i p hpi
    refine next_item hit hseq e1 fun h1 hit1 sb1 => ?_
    obtain ⟨oI, eI, cI, dI⟩ := id hit
    have kt1 : KT h' h1 := KT.but sb1.extBut eI (by rw [cI]; simp)
    have kp1 : Kp g h1 := kp_but kp hI sb1.extBut
    dsimp only
    refine wpAny_letOwnedTupleGo_listiter hit1 ?_
    refine kcp_assign hh (kt1.tup htup) (by exact lookup_relabel_local hx) (by exact lookup_relabel_local hx₂) (by simp [compEnvC, relabel, hkind]) (hn.at' fun o e => sb1.extBut _ o (Ne.symm hIC) e) fun h2 tk2 hn2 k2 => ?_
    have kt2 : KT h1 h2 := KT.ns k2 (hn.at' fun o e => sb1.extBut _ o (Ne.symm hIC) e)
    have kp2 : Kp g h2 := kp_but kp1 hC k2
    have hit2 : h2.IsListIter I ax (i + 1) := iter_keep hit1 fun o e => k2 _ o hIC e
    have hD2 : h2.get? D = some (liO ys ep') := k2 _ _ (Ne.symm hCD) (sb1.extBut _ _ (Ne.symm hID) hDo)
    refine wpAny_mono (helt h2 tk2 _ i p t u _ hpi kp2 hn2 (by simp [hxx]) (by simp)) (fun y s₃ h₃ => ?_) fun _ _ e => e
    obtain ⟨h3, tk3, rfl, kp3, hy⟩ := h₃
    refine append_at (hsz := by rw [hys, sizeLine_eq]; lia) (kp3 _ _ hD2) fun h4 sb4 hD4 => ?_
    have kt4 : KT h3 h4 := KT.but sb4.extBut (kp3 _ _ hD2) (by simp)
    refine ⟨ps.length + 1 - (i + 1), nnF hlt, hPi h4 tk3 (i + 1) (ys.push y) _ _ hlt (iter_keep hit2 fun o e => sb4.extBut _ o hID (kp3 _ _ e)) (kp_but (kp2.trans kp3) hD sb4.extBut) (hn2.at' fun o e => sb4.extBut _ o hCD (kp3 _ _ e)) hD4 (by rw [Array.size_push, hys]) ?_⟩
    intro j v ej
    by_cases hj : j < i
    · rw [Array.getElem?_push_lt (by lia)] at ej
      exact hF j v _ _ (hFs j v (by rw [← ej]; exact Array.getElem?_eq_getElem (by lia))) (((kt1.trans kt2).trans kp3.kt).trans kt4)
    · have hj2 : j = i := by
        by_cases z : j = i
        · exact z
        · rw [Array.getElem?_eq_none (by rw [Array.size_push]; lia)] at ej; cases ej
      subst hj2
      have : (ys.push y)[j]? = some y := by rw [← hys]; simp
      rw [this] at ej
      cases ej
      exact hF _ _ _ _ hy kt4
  · have hin : i = ps.length := by (with_reducible exact nnG (by assumption) (by assumption))
    refine next_end hh hit hseq (Array.getElem?_eq_none (by lia)) fun h1 hk1 => ?_
    obtain ⟨oI, eI, cI, dI⟩ := id hit
    exact fin h1 _ m' ys ep' (kp_but kp hI hk1) (hn.at' fun o e => hk1 _ o (Ne.symm hIC) e) (hk1 _ _ (Ne.symm hID) hDo) (by lia) fun j v ej => hF j v _ _ (hFs j v ej) (KT.but hk1 eI (by rw [cI]; simp))

theorem comp_pairs {elt iter : Expr} {x x₂ : Str} {px px₂ tp pos : Pos} {tk : Nat} {scope : Scope} {cl : List (Str × Addr)} {Q : Value → Shared → Prop} {ps : List (Str × Str)} (F : Nat → Value → Heap → Prop)
    (hF : ∀ i v h h', F i v h → KT h h' → F i v h')
    (hclos : closureFor scope env = pure cl) (hcell : ∀ y ∈ scope.names, y.2 ≠ .cell) (hkind : scope.kind = .function)
    (hnames : ∀ y ∈ scope.names, y.2 = .local → scope.names.lookup y.1 = some .local) (hx : scope.names.lookup x = some .local) (hx₂ : scope.names.lookup x₂ = some .local) (hxx : x ≠ x₂) (hh : A.handled = none)
    (h : wpAny (model prog w) A (eval iter env) (fun xv s₁ => ∃ ax items ep, xv = .ref ax ∧ s₁.heap.get? ax = some (liO items ep) ∧ PartsAt s₁.heap items ps ∧ ps.length ≤ 1000 ∧
      (∀ C h₂ tk₂ m₂ i p t u (E' : Value → Shared → Prop), ps[i]? = some p → Kp s₁.heap h₂ → s₁.heap.objs.size ≤ C → h₂.Ns C m₂ → m₂ x = some (.str p.1 t) → m₂ x₂ = some (.str p.2 u) →
        wpAny (model prog w) A (eval elt (compEnvC scope cl C env)) (fun y s₃ => ∃ h₃ tk₃, s₃ = { s₁ with heap := h₃, toks := tk₃ } ∧ Kp h₂ h₃ ∧ F i y h₃) E' { s₁ with heap := h₂, toks := tk₂ }) ∧
      (∀ D h' tk ys ep', Kp s₁.heap h' → s₁.heap.get? D = none → h'.get? D = some (liO ys ep') → ys.size = ps.length → (∀ i v, ys[i]? = some v → F i v h') → Q (.ref D) { s₁ with heap := h', toks := tk })) E s)
    (hs : ∀ x, foldedSetIterable iter env x = pure x := by intro _; rfl) :
    wpAny (model prog w) A (eval (.ListComp elt [⟨.Tuple [.Name x px, .Name x₂ px₂] tk tp, iter, [], 0⟩] scope pos) env) Q E s := by
  rw [eval_ListComp]
  refine wpAny_comprehension_free (use := none) rfl hs hclos hkind hnames (wpAny_mono h (fun xv s₁ h₁ => ?_) fun _ _ e => e)
  obtain ⟨ax, items, ep, rfl, hax, hp, hlen, helt, hQ⟩ := h₁
  refine wpAny_pyIter_list ⟨_, hax, rfl, _, rfl⟩ ?_
  obtain ⟨g, gs, dr, tk1, os⟩ := s₁
  dsimp only at *
  have k1 : Kp g (g.push { cls := .type "list_iterator", data := .fields #[.ref ax, .int 0 0] }) := fun b o e => Heap.get?_push_of_some _ e
  have i1 : (g.push { cls := .type "list_iterator", data := .fields #[.ref ax, .int 0 0] }).IsListIter g.objs.size ax 0 := ⟨_, Heap.get?_push_size _ rfl, rfl, rfl⟩
  have z1 : (g.push { cls := .type "list_iterator", data := .fields #[.ref ax, .int 0 0] }).objs.size = g.objs.size + 1 := Heap.size_push ..
  generalize g.push { cls := .type "list_iterator", data := .fields #[.ref ax, .int 0 0] } = g1 at *
  refine wpAny_newObj_type (wpAny_newFunctionEnv hcell (by intro y hy; simp at hy) (fun h₁ hns₁ hsb₁ => ?_) hkind)
  dsimp only at hns₁ hsb₁ ⊢
  have k2 : Kp g1 (g1.push { cls := .type "list", data := .seq (([] : List Value).toArray) }) := fun b o e => Heap.get?_push_of_some _ e
  have d2 : (g1.push { cls := .type "list", data := .seq (([] : List Value).toArray) }).get? g1.objs.size = some (liO #[] 0) := Heap.get?_push_size _ rfl
  have z2 : (g1.push { cls := .type "list", data := .seq (([] : List Value).toArray) }).objs.size = g1.objs.size + 1 := Heap.size_push ..
  generalize g1.push { cls := .type "list", data := .seq (([] : List Value).toArray) } = g2 at *
  have below : ∀ b o, g2.get? b = some o → b ≠ g2.objs.size := fun b o e => Nat.ne_of_lt (Heap.lt_size e)
  have k3 : Kp g2 h₁ := fun b o e => hsb₁.extBut b o (below b o e) (Heap.get?_push_of_some _ e)
  have kk : Kp g h₁ := (k1.trans k2).trans k3
  have none1 : ∀ a, g.objs.size ≤ a → g.get? a = none := fun a ha => above_none ha
  have l1 : g.objs.size < g2.objs.size := by (with_reducible exact nnO (by assumption) (by assumption))
  have l2 : g.objs.size < g1.objs.size := by lia
  have l3 : g1.objs.size < g2.objs.size := by lia
  have loop := loop_pairs (s := ⟨h₁, gs, dr, tk1 + ([] : List (Str × Value)).length, os⟩) (env := env) (cl := cl) (prog := prog) (w := w) (A := A) (g := g) (I := g.objs.size) (C := g2.objs.size) (D := g1.objs.size) (elt := elt) (iter := iter) (px := px) (px₂ := px₂) (tp := tp) (pos := pos) (tk := tk) (R := compPost (model prog w) A E none Q (.ref g1.objs.size) g2.objs.size) F hF hh (none1 _ (Nat.le_refl _)) (none1 _ (by (with_reducible exact nnM (by assumption) (by assumption)))) (none1 _ (by (with_reducible exact nnN (by assumption)))) (Nat.ne_of_lt l1) (Nat.ne_of_lt l2) (Nat.ne_of_gt l3) hax hp hlen hkind hx hx₂ hxx
    (fun h₂ tk₂ m₂ i p t u E' hp' kp' hn' a b => helt _ h₂ tk₂ m₂ i p t u E' hp' kp' (by (with_reducible exact nnM (by assumption) (by assumption))) hn' a b)
    (iter_keep i1 fun o e => k3 _ _ (k2 _ _ e)) hns₁ (k3 _ _ d2) kk
    (fun h' tk m' ys ep' kp' hn' hD' hsz hFs => ⟨m', hn', fun h'' sb => hQ _ h'' tk ys ep' (kp_but kp' (none1 _ (by (with_reducible exact nnM (by assumption) (by assumption)))) sb.extBut) (none1 _ (by (with_reducible exact nnN (by assumption)))) (sb.extBut _ _ (Nat.ne_of_lt l3) hD') hsz fun i v e => hF i v _ _ (hFs i v e) (KT.ns sb.extBut hn')⟩)
  exact codeAny_compStart_list loop (wpAny_pyIter_listiter (iter_keep i1 fun o e => k3 _ _ (k2 _ _ e)) loop)
end
end
section
open PySem PySem.W PyProof.Rows PySem.Calls PySem.Spec
set_option Elab.async false
set_option maxRecDepth 100000
set_option linter.unusedVariables false
set_option maxHeartbeats 2000000
noncomputable def lexLt (a b : Int × Int) : Bool := if a.1 = b.1 then decide (a.2 < b.2) else decide (a.1 < b.1)
theorem tuple_lt2 (l b : Addr) (x1 x2 y1 y2 : Int) (t1 t2 u1 u2 : Tok) (n n2 : Nat) (dd dd2 : Option Addr) (sl sl2 : Array (Option Value)) :
    Meets (Builtin.«tuple.__lt__» ⟨[.ref l, .ref b], []⟩)
      (fun A R s => s.heap.get? l = some { cls := .type "tuple", dict := dd, data := .seq #[.int x1 t1, .int x2 t2] n, slots := sl } ∧ s.heap.get? b = some { cls := .type "tuple", dict := dd2, data := .seq #[.int y1 u1, .int y2 u2] n2, slots := sl2 } ∧
        R (.ok (.ret (.bool (lexLt (x1, x2) (y1, y2))))) s) :=
  .of_wp fun prog w A R s h => by
    obtain ⟨hp, g, d, tk, os⟩ := s; obtain ⟨hl, hb, h⟩ := h
    have f2 := AutoSeq1.sub_tuple_tuple
    wp_walk using wpAny_loadPart' hl, wpAny_loadPart' hb
    refine SeqAt.EqAt.int_int x1 t1 y1 u1 prog w _ _ ?_
    by_cases e1 : x1 = y1
    · rw [show (x1 == y1) = true by simpa using e1]
      wp_walk
      refine SeqAt.EqAt.int_int x2 t2 y2 u2 prog w _ _ ?_
      have hx : lexLt (x1, x2) (y1, y2) = decide (x2 < y2) := by unfold lexLt; rw [if_pos e1]
      rw [hx] at h
      by_cases e2 : x2 = y2
      · rw [show (x2 == y2) = true by simpa using e2]
        rw [show decide (x2 < y2) = false by simp; lia] at h
        wp_walk
        exact ⟨_, rfl, h⟩
      · rw [show (x2 == y2) = false by simpa using e2]
        refine wpAny_bind (wpAny_rule (wpAny_bind ?_))
        refine (show wpAny _ _ (compareOp .Lt (.int x2 t2) (.int y2 u2)) _ _ _ from PyProof.Rows.lt_int ?_)
        wp_walk
        exact ⟨_, rfl, h⟩
    · rw [show (x1 == y1) = false by simpa using e1]
      have hx : lexLt (x1, x2) (y1, y2) = decide (x1 < y1) := by unfold lexLt; rw [if_neg e1]
      rw [hx] at h
      refine wpAny_bind (wpAny_rule (wpAny_bind ?_))
      refine (show wpAny _ _ (compareOp .Lt (.int x1 t1) (.int y1 u1)) _ _ _ from PyProof.Rows.lt_int ?_)
      wp_walk
      exact ⟨_, rfl, h⟩
section
variable {prog : Program} {w : World} {A : Around} {E : Value → Shared → Prop} {s : Shared}
theorem rich_tup_lt {l b : Addr} {x y : Int × Int} {t1 t2 u1 u2 : Tok} {Q : Value → Shared → Prop} (hl : s.heap.IsTuple l #[.int x.1 t1, .int x.2 t2]) (hb : s.heap.IsTuple b #[.int y.1 u1, .int y.2 u2]) (hu : A.units < cLine)
    (h : Q (.bool (lexLt x y)) s) : wpAny (model prog w) A (richCompare .Lt (.ref l) (.ref b)) Q E s := by
  obtain ⟨⟨cls, dd, data, sl⟩, ho, hc, n, hd⟩ := id hl
  obtain ⟨⟨cls2, dd2, data2, sl2⟩, ho2, hc2, n2, hd2⟩ := id hb
  simp only at hc hd hc2 hd2
  subst hc hd hc2 hd2
  exact richCompare_meets_room (op := .Lt) ⟨_, ho, rfl⟩ ⟨_, ho2, rfl⟩ F.slot_tuple_lt F.entry_tuple_lt (F.args_tuple_lt_2 _ _) (tuple_lt2 l b x.1 x.2 y.1 y.2 t1 t2 u1 u2 n n2 dd dd2 sl sl2)
    ⟨ho, ho2, show Value.bool (lexLt x y) ≠ Value.notImplemented ∧ Q (.bool (lexLt x y)) s from ⟨(fun x => nomatch x), h⟩⟩ hu
end
end
section
open PySem PySem.W PyProof.Rows PySem.Calls PySem.Spec
set_option Elab.async false
set_option maxRecDepth 100000
set_option linter.unusedVariables false
noncomputable def PairsAt (h : Heap) (items : Array Value) (rk : List (Int × Int)) : Prop :=
  items.size = rk.length ∧ ∀ (i : Nat) (p : Int × Int), rk[i]? = some p → ∃ a t u, items[i]? = some (.ref a) ∧ h.IsTuple a #[.int p.1 t, .int p.2 u]
theorem PairsAt.kt {h h' : Heap} {items : Array Value} {rk : List (Int × Int)} (x : PairsAt h items rk) (k : KT h h') : PairsAt h' items rk :=
  ⟨x.1, fun i p e => let ⟨a, t, u, e', r⟩ := x.2 i p e; ⟨a, t, u, e', k.tup r⟩⟩
noncomputable def leastP (rk : List (Int × Int)) : Nat → Int × Int
  | 0 => rk.getD 0 (0, 0)
  | k + 1 => if lexLt (rk.getD (k + 1) (0, 0)) (leastP rk k) then rk.getD (k + 1) (0, 0) else leastP rk k
noncomputable def IsP (h : Heap) (v : Value) (p : Int × Int) : Prop := ∃ a t u, v = .ref a ∧ h.IsTuple a #[.int p.1 t, .int p.2 u]
theorem IsP.kp {h h' : Heap} {v : Value} {p : Int × Int} (x : IsP h v p) (k : Kp h h') : IsP h' v p := let ⟨a, t, u, e, r⟩ := x; ⟨a, t, u, e, k.kt.tup r⟩
section
variable {prog : Program} {w : World} {A : Around} {R : Result → Shared → Prop} {g : Heap} {I S l : Addr} {items : Array Value} {ep : Nat} {rk : List (Int × Int)}

theorem min_turns (hh : A.handled = none) (hu : A.units + 1 < cLine) (hl : g.get? l = some (liO items ep)) (hp : PairsAt g items rk) (hI : g.get? I = none) (hS : g.get? S = none) (hIS : I ≠ S) :
    ∀ (k j : Nat) (s : Shared) (vb : Value) (c : Nat), rk.length - (j + 1) = k → j + 1 ≤ rk.length → s.heap.IsListIter I l (j + 1) → Kp g s.heap → IsP g vb (leastP rk j) →
    s.heap.get? S = some { cls := .type "list", dict := none, data := .seq #[vb, vb] c, slots := #[] } →
    (∀ v h' tk, IsP g v (leastP rk (rk.length - 1)) → Kp g h' → R (.ok (.ret v)) { s with heap := h', toks := tk }) →
    codeAny (model prog w) A (.builtin "min.loop" ⟨[.ref I, .none, .ref S], []⟩) R s := by
  have hname : (toString "min" ++ toString ".loop" : String) = "min.loop" := by decide
  intro k
  induction k with
  | zero =>
    intro j s vb c hk hj hit kp hb hSo hR
    have hseq : IsSeq s.heap l items := ⟨_, kp _ _ hl, _, rfl⟩
    refine codeAny_builtin F.entry_min_loop ?_
    rw [Around.under_plainId F.plain_min_loop _]
    show wpAny _ A.in1 (seqItems? (.ref S) >>= _) _ _ s
    refine wpAny_bind (wpAny_seqItems hSo rfl ?_)
    show wpAny _ A.in1 (tryCatch (pyNext (.ref I)) _ >>= _) _ _ s
    refine wpAny_bind (wpAny_tryCatch (next_end hh hit hseq (Array.getElem?_eq_none (by rw [hp.1]; omega)) fun h' hk' => ?_))
    have hS' := hk' S _ (Ne.symm hIS) hSo
    show wpAny _ A.in1 (updateSeq S (fun _ => #[]) >>= _) _ _ _
    refine wpAny_bind ?_
    refine wpAny_updateSeq hS' rfl (wpAny_bind (wpAny_letGo (wpAny_pure ?_)))
    refine hR vb _ _ (by rw [show rk.length - 1 = j by omega]; exact hb) fun b o e => ?_
    have e1 : b ≠ S := fun q => by rw [q, hS] at e; cases e
    have e2 : b ≠ I := fun q => by rw [q, hI] at e; cases e
    exact (Heap.get?_update_other _ _ (Ne.symm e1)).trans (hk' b o e2 (kp b o e))
  | succ k ih =>
    intro j s vb c hk hj hit kp hb hSo hR
    have hseq : IsSeq s.heap l items := ⟨_, kp _ _ hl, _, rfl⟩
    obtain ⟨p, hpj⟩ : ∃ p, rk[j + 1]? = some p := ⟨_, List.getElem?_eq_getElem (by omega)⟩
    have hgd : rk.getD (j + 1) (0, 0) = p := by simp [List.getD, hpj]
    obtain ⟨a, t, u, ea, ht⟩ := hp.2 _ _ hpj
    refine codeAny_builtin F.entry_min_loop ?_
    rw [Around.under_plainId F.plain_min_loop _]
    show wpAny _ A.in1 (seqItems? (.ref S) >>= _) _ _ s
    refine wpAny_bind (wpAny_seqItems hSo rfl ?_)
    show wpAny _ A.in1 (tryCatch (pyNext (.ref I)) _ >>= _) _ _ s
    refine wpAny_bind (wpAny_tryCatch (next_item hit hseq ea fun h' hit' sb' => ?_))
    have kp' : Kp g h' := kp_but kp hI sb'.extBut
    have hS' := sb'.extBut S _ (Ne.symm hIS) hSo
    obtain ⟨ab, tb, ub, rfl, htb⟩ := hb
    show wpAny _ A.in1 (tryCatch (holding [.ref a, .ref a] (richCompare .Lt (.ref a) (.ref ab) >>= _)) _ >>= _) _ _ _
    refine wpAny_bind (wpAny_tryCatch (wpAny_holding (wpAny_bind (rich_tup_lt (kp'.kt.tup ht) (kp'.kt.tup htb) hu ?_))))
    refine wpAny_bind (wpAny_holding (wpAny_truthy_bool ?_))
    refine wpAny_bind (wpAny_letGo (wpAny_pure ?_))
    have kS : ∀ (h2 : Heap), (∀ b o, b ≠ S → h'.get? b = some o → h2.get? b = some o) → Kp g h2 := fun h2 k2 => kp_but kp' hS k2
    cases hb : lexLt p (leastP rk j) with
    | true =>
      simp only [if_true]
      refine wpAny_bind ?_
      refine wpAny_updateSeq hS' rfl (wpAny_bind (wpAny_letGo ?_))
      rw [hname]
      have sb2 : Heap.SameBut S h' (h'.update S (Obj.mapSeq fun _ => #[.ref a, .ref a])) := Heap.SameBut.update ..
      refine wpAny_pure ⟨plainId_quiet F.plain_min_loop _, ih (j + 1) _ (.ref a) _ (by omega) (by omega) (iter_keep hit' fun o e => sb2.extBut _ o hIS e) (kS _ sb2.extBut) ⟨a, t, u, rfl, ?_⟩ (Heap.get?_update_self _ hS' rfl) fun v h2 tk2 hv k2 => hR v h2 tk2 hv k2⟩
      rw [leastP, hgd, hb, if_pos rfl]; exact ht
    | false =>
      simp only [Bool.false_eq_true, if_false]
      refine wpAny_bind (wpAny_letGo ?_)
      rw [hname]
      refine wpAny_pure ⟨plainId_quiet F.plain_min_loop _, ih (j + 1) _ (.ref ab) c (by omega) (by omega) hit' kp' ⟨ab, tb, ub, rfl, ?_⟩ hS' fun v h2 tk2 hv k2 => hR v h2 tk2 hv k2⟩
      rw [leastP, hgd, hb, if_neg (by simp)]; exact htb
end
section
variable {prog : Program} {w : World} {A : Around} {E : Value → Shared → Prop} {s : Shared} {l : Addr} {items : Array Value} {ep : Nat} {rk : List (Int × Int)}
theorem min_pairs {Q : Value → Shared → Prop} (hh : A.handled = none) (hu : A.units + 3 < cLine) (hl : s.heap.get? l = some (liO items ep)) (hp : PairsAt s.heap items rk) (hne : rk ≠ [])
    (hQ : ∀ v h' tk, IsP h' v (leastP rk (rk.length - 1)) → Kp s.heap h' → Q v { s with heap := h', toks := tk }) : wpAny (model prog w) A (call (.builtin "min") [.ref l]) Q E s := by
  have hname : (toString "min" ++ toString ".loop" : String) = "min.loop" := by decide
  have hlen : 0 < rk.length := List.length_pos_iff.mpr hne
  refine call_function_tree F.kind_min F.plain_min F.entry_min (F.args_min1 _) ?_
  show wpAny _ A.in1 (Builtin.Builtins.bindParams "min" ["key", "default"] 0 ⟨[], []⟩ >>= _) _ _ s
  refine wpAny_bind (wpAny_of_eq (show Builtin.Builtins.bindParams "min" ["key", "default"] 0 ⟨[], []⟩ = pure [none, none] from rfl) ?_)
  refine wpAny_bind (wpAny_pure ?_)
  refine wpAny_bind (wpAny_pyIter_list ⟨_, hl, rfl, _, rfl⟩ ?_)
  obtain ⟨g, gs, dr, tk1, os⟩ := s
  dsimp only at *
  have k1 : Kp g (g.push { cls := .type "list_iterator", data := .fields #[.ref l, .int 0 0] }) := fun b o e => Heap.get?_push_of_some _ e
  have i1 : (g.push { cls := .type "list_iterator", data := .fields #[.ref l, .int 0 0] }).IsListIter g.objs.size l 0 := ⟨_, Heap.get?_push_size _ rfl, rfl, rfl⟩
  have z1 : (g.push { cls := .type "list_iterator", data := .fields #[.ref l, .int 0 0] }).objs.size = g.objs.size + 1 := Heap.size_push ..
  generalize g.push { cls := .type "list_iterator", data := .fields #[.ref l, .int 0 0] } = g1 at *
  refine wpAny_bind (wpAny_newObj_type ?_)
  rw [hname]
  have k2 : Kp g1 (g1.push { cls := .type "list", data := .seq #[] }) := fun b o e => Heap.get?_push_of_some _ e
  have d2 : (g1.push { cls := .type "list", data := .seq #[] }).get? g1.objs.size = some (liO #[] 0) := Heap.get?_push_size _ rfl
  generalize hg2 : g1.push { cls := .type "list", data := .seq #[] } = g2 at *
  have hI : g.get? g.objs.size = none := above_none (Nat.le_refl _)
  have hS : g.get? g1.objs.size = none := above_none (by (with_reducible exact nnN (by assumption)))
  have lt : g.objs.size < g1.objs.size := by omega
  have hIS : g.objs.size ≠ g1.objs.size := Nat.ne_of_lt lt
  have kp2 := k1.trans k2
  refine wpAny_pure ⟨plainId_quiet F.plain_min_loop _, ?_⟩
  obtain ⟨p, hp0⟩ : ∃ p, rk[0]? = some p := ⟨_, List.getElem?_eq_getElem hlen⟩
  obtain ⟨a, t, u, ea, ht⟩ := hp.2 _ _ hp0
  refine codeAny_builtin F.entry_min_loop ?_
  rw [Around.under_plainId F.plain_min_loop _]
  show wpAny _ _ (seqItems? (.ref g1.objs.size) >>= _) _ _ _
  refine wpAny_bind (wpAny_seqItems (s := ⟨g2, gs, dr, _, os⟩) d2 rfl ?_)
  show wpAny _ _ (tryCatch (pyNext (.ref g.objs.size)) _ >>= _) _ _ _
  refine wpAny_bind (wpAny_tryCatch (next_item (s := ⟨g2, gs, dr, _, os⟩) (iter_keep i1 fun o e => k2 _ _ e) ⟨_, kp2 _ _ hl, _, rfl⟩ ea fun h' hit' sb' => ?_))
  have hS' := sb'.extBut _ _ (Ne.symm hIS) d2
  show wpAny _ _ (updateSeq g1.objs.size (fun _ => #[.ref a, .ref a]) >>= _) _ _ _
  refine wpAny_bind ?_
  refine wpAny_updateSeq hS' rfl ?_
  rw [hname]
  have sb2 : Heap.SameBut g1.objs.size h' (h'.update g1.objs.size (Obj.mapSeq fun _ => #[.ref a, .ref a])) := Heap.SameBut.update ..
  refine wpAny_pure ⟨plainId_quiet F.plain_min_loop _, min_turns hh (by (with_reducible exact nnB (by assumption) (by decide))) hl hp hI hS hIS _ 0 _ (.ref a) _ rfl hlen (iter_keep hit' fun o e => sb2.extBut _ o hIS e) (kp_but (kp_but kp2 hI sb'.extBut) hS sb2.extBut) ⟨a, t, u, rfl, ?_⟩ (Heap.get?_update_self _ hS' rfl) fun v h2 tk2 hv k3 => ?_⟩
  · show g.IsTuple a _
    rw [leastP, show rk.getD 0 (0, 0) = p by simp [List.getD, hp0]]; exact ht
  · exact hQ v h2 tk2 (hv.kp k3) k3
end
end
section
open PySem PySem.W PyProof.Rows PySem.Calls PySem.Spec
set_option Elab.async false
set_option maxRecDepth 100000
set_option linter.unusedVariables false
/-! a comprehension with two fors -/
noncomputable abbrev lc2 (elt t0 i0 t1 i1 : Expr) (c : Expr) (scope : Scope) (pos : Pos) : Expr := .ListComp elt [⟨t0, i0, [], 0⟩, ⟨t1, i1, [c], 0⟩] scope pos
theorem turn2_out (elt t0 i0 t1 i1 c : Expr) (scope : Scope) (pos : Pos) (it acc : Value) (env : Env) :
    compTurn (lc2 elt t0 i0 t1 i1 c scope pos) 0 it acc env = (do
      standAt i0.pos
      match ← pyNext it with
      | none => pure (.done .next)
      | some v =>
        letOwnedTupleGo t0 it v
        assign t0 env v
        let x ← eval i1 env
        standAt i1.pos
        let x ← foldedSetIterable i1 env x
        let _ ← runOwn (.compStart (lc2 elt t0 i0 t1 i1 c scope pos) 1 (← holding [x] (pyIter x)) acc env) env
        again (.compLoop (lc2 elt t0 i0 t1 i1 c scope pos) 0 it acc env)) := by rfl
theorem turn2_in (elt t0 i0 t1 i1 c : Expr) (scope : Scope) (pos : Pos) (it acc : Value) (env : Env) :
    compTurn (lc2 elt t0 i0 t1 i1 c scope pos) 1 it acc env = (do
      standAt i1.pos
      match ← pyNext it with
      | none => pure (.done .next)
      | some v =>
        letOwnedTupleGo t1 it v
        assign t1 env v
        let mut ok := true
        for c in [c] do
          if ok then ok ← isTrue c env (eval c env)
        if ok then
          (do let _ ← call (.builtin "list.append") [acc, ← eval elt env])
        again (.compLoop (lc2 elt t0 i0 t1 i1 c scope pos) 1 it acc env)) := by rfl

section
variable {prog : Program} {w : World} {A : Around} {E : Value → Shared → Prop} {s : Shared} {env : Env} {R : Result → Shared → Prop}
theorem loop2_in {elt t0 i0 t1 i1 c : Expr} {scope : Scope} {pos : Pos} {it acc : Value} (I : Nat → Shared → Prop)
    (turn : ∀ n s, I n s → wpAny (model prog w) A (pyNext it) (fun r s₁ => match r with
      | none => R (.ok .next) s₁
      | some v => wpAny (model prog w) A (assign t1 env v) (fun _ s₂ =>
          wpAny (model prog w) A (isTrue c env (eval c env)) (fun ok s₃ =>
            if ok = true then wpAny (model prog w) A (eval elt env) (fun x s₄ =>
              wpAny (model prog w) A (call (.builtin "list.append") [acc, x]) (fun _ s₅ => ∃ m, m < n ∧ I m s₅) (notedBy (model prog w) A env fun e s' => R (.error e) s') s₄) (notedBy (model prog w) A env fun e s' => R (.error e) s') s₃
            else ∃ m, m < n ∧ I m s₃) (notedBy (model prog w) A env fun e s' => R (.error e) s') s₂) (notedBy (model prog w) A env fun e s' => R (.error e) s') s₁) (notedBy (model prog w) A env fun e s' => R (.error e) s') s)
    (n : Nat) (h : I n s) (ht : ∀ v, letOwnedTupleGo t1 it v = pure () := by intro _; rfl) :
    codeAny (model prog w) A (.compLoop (lc2 elt t0 i0 t1 i1 c scope pos) 1 it acc env) R s := by
  refine codeAny_loop rfl I (fun n s hI => ?_) n h
  show wpAny _ A ((compTurn (lc2 elt t0 i0 t1 i1 c scope pos) 1 it acc env).onRaise (fun x => do noteFrame x env; theTreesLotGoes x)) _ _ s
  refine wpAny_noted ?_
  rw [turn2_in]
  refine wpAny_bind (wpAny_standAt (wpAny_bind (wpAny_mono (turn n s hI) (fun r s₁ h₁ => ?_) fun _ _ h' => h')))
  cases r with
  | none => exact wpAny_pure h₁
  | some v =>
    refine wpAny_bind (wpAny_of_eq (ht v) ?_)
    refine wpAny_bind (wpAny_mono h₁ (fun _ s₂ h₂ => wpAny_bind (wpAny_tests_one (wpAny_mono h₂ (fun ok s₃ h₃ => ?_) fun _ _ h' => h'))) fun _ _ h' => h')
    cases ok with
    | false => exact wpAny_pure ⟨rfl, h₃⟩
    | true => exact wpAny_bind (wpAny_bind (wpAny_mono h₃ (fun x s₄ h₄ => wpAny_bind (wpAny_mono h₄ (fun _ s₅ h₅ => wpAny_pure (wpAny_pure ⟨rfl, h₅⟩)) fun _ _ h' => h')) fun _ _ h' => h'))
theorem start2_in {elt t0 i0 t1 i1 c : Expr} {scope : Scope} {pos : Pos} {it acc : Value}
    (h0 : codeAny (model prog w) A (.compLoop (lc2 elt t0 i0 t1 i1 c scope pos) 1 it acc env) R s)
    (h : wpAny (model prog w) A (pyIter it) (fun it' s' => codeAny (model prog w) A (.compLoop (lc2 elt t0 i0 t1 i1 c scope pos) 1 it' acc env) R s') (notedBy (model prog w) A env fun x s' => R (.error x) s') s) :
    codeAny (model prog w) A (.compStart (lc2 elt t0 i0 t1 i1 c scope pos) 1 it acc env) R s := by
  refine codeAny_of_tree ?_
  show wpAny _ _ ((compStart (lc2 elt t0 i0 t1 i1 c scope pos) 1 it acc env).onRaise (fun x => do noteFrame x env; standAt theWindowsPlace)) _ _ s
  refine wpAny_notedAt ?_
  unfold compStart
  show wpAny _ _ (ask >>= _) _ _ s
  refine wpAny_bind (wpAny_askSetting (wpAny_ite ?_))
  split
  · first
      | exact wpAny_bind (wpAny_pure (wpAny_pure (And.intro rfl h0)))
      | exact wpAny_pure (And.intro rfl h0)
  · refine wpAny_bind (wpAny_rule ?_)
    show wpAny _ _ (standAt i1.pos >>= _) _ _ s
    exact wpAny_bind (wpAny_standAt (wpAny_bind (wpAny_mono h (fun it' s' h' => wpAny_pure (And.intro rfl h')) fun _ _ x => x)))
theorem loop2_out {elt t0 i0 t1 i1 c : Expr} {scope : Scope} {pos : Pos} {it acc : Value} (I : Nat → Shared → Prop)
    (turn : ∀ n s, I n s → wpAny (model prog w) A (pyNext it) (fun r s₁ => match r with
      | none => R (.ok .next) s₁
      | some v => wpAny (model prog w) A (assign t0 env v) (fun _ s₂ =>
          wpAny (model prog w) A (eval i1 env) (fun x s₃ =>
            wpAny (model prog w) A (pyIter x) (fun it' s₄ =>
              codeAny (model prog w) (A.mark none) (.compStart (lc2 elt t0 i0 t1 i1 c scope pos) 1 it' acc env) (fun r s₅ => match r with | .ok _ => ∃ m, m < n ∧ I m s₅ | .error e => cameBackBy (model prog w) A env (notedBy (model prog w) A env fun e s' => R (.error e) s') e s₅) s₄) (notedBy (model prog w) A env fun e s' => R (.error e) s') s₃)
            (notedBy (model prog w) A env fun e s' => R (.error e) s') s₂) (notedBy (model prog w) A env fun e s' => R (.error e) s') s₁) (notedBy (model prog w) A env fun e s' => R (.error e) s') s)
    (n : Nat) (h : I n s) (ht : ∀ v, letOwnedTupleGo t0 it v = pure () := by intro _; rfl) (hf : ∀ x, foldedSetIterable i1 env x = pure x := by intro _; rfl) :
    codeAny (model prog w) A (.compLoop (lc2 elt t0 i0 t1 i1 c scope pos) 0 it acc env) R s := by
  refine codeAny_loop rfl I (fun n s hI => ?_) n h
  show wpAny _ A ((compTurn (lc2 elt t0 i0 t1 i1 c scope pos) 0 it acc env).onRaise (fun x => do noteFrame x env; theTreesLotGoes x)) _ _ s
  refine wpAny_noted ?_
  rw [turn2_out]
  refine wpAny_bind (wpAny_standAt (wpAny_bind (wpAny_mono (turn n s hI) (fun r s₁ h₁ => ?_) fun _ _ h' => h')))
  cases r with
  | none => exact wpAny_pure h₁
  | some v =>
    refine wpAny_bind (wpAny_of_eq (ht v) ?_)
    refine wpAny_bind (wpAny_mono h₁ (fun _ s₂ h₂ => ?_) fun _ _ h' => h')
    refine wpAny_bind (wpAny_mono h₂ (fun x s₃ h₃ => ?_) fun _ _ h' => h')
    refine wpAny_bind (wpAny_standAt ?_)
    refine wpAny_bind (wpAny_of_eq (hf x) ?_)
    refine wpAny_bind (wpAny_holding (wpAny_mono h₃ (fun it' s₄ h₄ => ?_) fun _ _ h' => h'))
    refine wpAny_bind (wpAny_runOwn (codeAny_mono h₄ fun r s₅ h₅ => ?_))
    cases r with
    | ok f => exact wpAny_pure ⟨rfl, h₅⟩
    | error e => exact h₅
end
theorem PairsAt.push {h : Heap} {ys : Array Value} {rk : List (Int × Int)} {y : Value} {p : Int × Int} (x : PairsAt h ys rk) (hy : IsP h y p) : PairsAt h (ys.push y) (rk ++ [p]) := by
  refine ⟨by rw [Array.size_push, x.1, List.length_append]; rfl, fun i q e => ?_⟩
  by_cases hi : i < rk.length
  · rw [List.getElem?_append_left hi] at e
    obtain ⟨a, t, u, e', r⟩ := x.2 i q e
    refine ⟨a, t, u, ?_, r⟩
    rw [Array.getElem?_push_lt (by rw [x.1]; exact hi), ← e', Array.getElem?_eq_getElem]
  · rw [List.getElem?_append_right (Nat.le_of_not_lt hi)] at e
    have h0 : i - rk.length = 0 := by
      by_cases h1 : i - rk.length = 0
      · exact h1
      · rw [List.getElem?_eq_none (by simp; lia)] at e; cases e
    rw [h0] at e
    cases e
    obtain ⟨a, t, u, rfl, r⟩ := hy
    have hi' : i = ys.size := by rw [x.1]; lia
    subst hi'
    exact ⟨a, t, u, by simp, r⟩
section
variable {prog : Program} {w : World} {A : Around} {E : Value → Shared → Prop} {s : Shared} {env : Env} {R : Result → Shared → Prop}
theorem marks_loop {g : Heap} {I C D T : Addr} {m1 m2 : Str} {t1 t2 : Tok} {kx mx : Str} {pm : Pos} {kv : Int} {tkv : Tok} {tst : Str → Bool} {f : Str → Int × Int} {rk : List (Int × Int)} {elt t0 i0 i1 c : Expr} {scope : Scope} {cl : List (Str × Addr)} {pos : Pos} {ys : Array Value} {ep : Nat} {m₀ : Str → Option Value}
    (hh : A.handled = none) (hI : g.get? I = none) (hC : g.get? C = none) (hD : g.get? D = none) (hIC : I ≠ C) (hID : I ≠ D) (hCD : C ≠ D)
    (hkm : kx ≠ mx) (hmx : scope.names.lookup mx = some .local) (hkind : scope.kind = .function)
    (htest : ∀ h₂ tk₂ m₂ z u (E' : Value → Shared → Prop), z ∈ [m1, m2] → Kp g h₂ → h₂.Ns C m₂ → m₂ kx = some (.int kv tkv) → m₂ mx = some (.str z u) →
      wpAny (model prog w) A (isTrue c (compEnvC scope cl C env) (eval c (compEnvC scope cl C env))) (fun b s₃ => ∃ h₃ tk₃, s₃ = { s with heap := h₃, toks := tk₃ } ∧ Kp h₂ h₃ ∧ b = tst z) E' { s with heap := h₂, toks := tk₂ })
    (helt : ∀ h₂ tk₂ m₂ z u (E' : Value → Shared → Prop), z ∈ [m1, m2] → tst z = true → Kp g h₂ → h₂.Ns C m₂ → m₂ kx = some (.int kv tkv) → m₂ mx = some (.str z u) →
      wpAny (model prog w) A (eval elt (compEnvC scope cl C env)) (fun y s₃ => ∃ h₃ tk₃, s₃ = { s with heap := h₃, toks := tk₃ } ∧ Kp h₂ h₃ ∧ IsP h₃ y (f z)) E' { s with heap := h₂, toks := tk₂ })
    (hi0 : s.heap.IsTupleIter I T 0) (ht : s.heap.IsTuple T #[.str m1 t1, .str m2 t2]) (n0 : s.heap.Ns C m₀) (k0 : m₀ kx = some (.int kv tkv)) (d0 : s.heap.get? D = some (liO ys ep)) (p0 : PairsAt s.heap ys rk) (kp0 : Kp g s.heap) (hlen : rk.length ≤ 1000)
    (fin : ∀ h' tk m' ys' ep', KB [I, C, D] s.heap h' → h'.Ns C m' → h'.get? D = some (liO ys' ep') → PairsAt h' ys' (rk ++ ([m1, m2].filter tst).map f) → R (.ok .next) { s with heap := h', toks := tk }) :
    codeAny (model prog w) A (.compLoop (lc2 elt t0 i0 (.Name mx pm) i1 c scope pos) 1 (.ref I) (.ref D) (compEnvC scope cl C env)) R s := by
  have hTI : T ≠ I := by
    obtain ⟨o, e, c1, _⟩ := id hi0
    obtain ⟨o', e', c2, _⟩ := id ht
    exact ne_of_cls e' e (by rw [c1, c2]; simp)
  have W := Walks.tuple (prog := prog) (w := w) hh I T hTI #[.str m1 t1, .str m2 t2]
  obtain ⟨P, hPi, hE⟩ : ∃ P : Nat → Shared → Prop, (∀ h' tk' i ys' ep' m', i ≤ 2 → h'.IsTupleIter I T i → KB [I, C, D] s.heap h' → h'.Ns C m' → m' kx = some (.int kv tkv) → h'.get? D = some (liO ys' ep') → PairsAt h' ys' (rk ++ (([m1, m2].take i).filter tst).map f) → P (2 + 1 - i) { s with heap := h', toks := tk' }) ∧
      ∀ k s' (G : Prop), P k s' → (∀ h' tk' i ys' ep' m', i ≤ 2 → h'.IsTupleIter I T i → KB [I, C, D] s.heap h' → h'.Ns C m' → m' kx = some (.int kv tkv) → h'.get? D = some (liO ys' ep') → PairsAt h' ys' (rk ++ (([m1, m2].take i).filter tst).map f) → s' = { s with heap := h', toks := tk' } → k = 2 + 1 - i → G) → G :=
    ⟨fun k s' => ∀ G : Prop, _ → G, fun h' tk' i ys' ep' m' x1 x2 x3 x4 x5 x6 x7 G f => f h' tk' i ys' ep' m' x1 x2 x3 x4 x5 x6 x7 rfl rfl, fun _ _ _ x f => x _ f⟩
  refine loop2_in P ?_ (2 + 1) (hPi s.heap s.toks 0 ys ep m₀ (Nat.zero_le _) hi0 (KB.refl _ _) n0 k0 d0 (by simpa using p0))
  intro k s' hk0
  refine hE k s' _ hk0 ?_
  clear hE hk0
  rintro h' tk' i ys' ep' m' hi hit kb hn hk hDo hps rfl rfl
  have kpg : ∀ {h2 : Heap}, KB [I, C, D] s.heap h2 → Kp g h2 := fun kb2 b o e => kb2 b o (by
    intro hb
    simp only [List.mem_cons, List.not_mem_nil, or_false] at hb
    rcases hb with rfl | rfl | rfl
    · rw [hI] at e; cases e
    · rw [hC] at e; cases e
    · rw [hD] at e; cases e) (kp0 b o e)
  have htT : h'.IsTuple T #[.str m1 t1, .str m2 t2] := by
    obtain ⟨o, e, c1, n1, d1⟩ := id ht
    refine ⟨o, kb _ _ ?_ e, c1, n1, d1⟩
    intro hb
    simp only [List.mem_cons, List.not_mem_nil, or_false] at hb
    rcases hb with hb | hb | hb
    · exact hTI hb
    · obtain ⟨oc, es, n2, ec, dc, _⟩ := n0
      rw [hb, ec] at e; cases e; rw [dc] at d1; cases d1
    · rw [hb, d0] at e; cases e; exact absurd c1 (by simp)
  obtain ⟨oI, eI, cI, dI⟩ := id hit
  by_cases hlt : i < 2
  · obtain ⟨z, uz, hz, hzi, hmem⟩ : ∃ z uz, (#[Value.str m1 t1, Value.str m2 t2] : Array Value)[i]? = some (.str z uz) ∧ [m1, m2][i]? = some z ∧ z ∈ [m1, m2] := by
      have : i = 0 ∨ i = 1 := by lia
      rcases this with rfl | rfl
      · exact ⟨m1, t1, rfl, rfl, by simp⟩
      · exact ⟨m2, t2, rfl, rfl, by simp⟩
    have hcut : rk ++ (([m1, m2].take (i + 1)).filter tst).map f = (rk ++ (([m1, m2].take i).filter tst).map f) ++ (if tst z then [f z] else []) := by
      rw [List.take_add_one, hzi, Option.toList_some, List.filter_append, List.map_append, List.append_assoc]
      congr 2
      cases hb : tst z <;> simp [hb]
    refine W.item i _ _ _ hlt ⟨hit, htT⟩ fun v h1 tk1 hv st1 hk1 => ?_
    rw [hz] at hv
    cases hv
    have sb1 : ∀ b o, b ≠ I → h'.get? b = some o → h1.get? b = some o := fun b o hb e => hk1 b o (by simpa using hb) e
    have kt1 : KT h' h1 := KT.but sb1 eI (by rw [cI]; simp)
    have hn1 : h1.Ns C m' := hn.at' fun o e => sb1 _ o (Ne.symm hIC) e
    dsimp only
    refine wpAny_assign_Name (wpAny_storeName_local (lookup_relabel_local hmx) hn1 (fun h2 hn2 sb2 => ?_) (by simp [compEnvC, relabel, hkind]))
    have kt2 : KT h1 h2 := KT.ns sb2.extBut hn1
    have kb2 : KB [I, C, D] s.heap h2 := fun b o hb e => sb2.extBut b o (fun q => hb (by rw [q]; simp [compEnvC])) (sb1 b o (fun q => hb (by simp [q])) (kb b o hb e))
    have hit2 : h2.IsTupleIter I T (i + 1) := by
      obtain ⟨o1, e1, r1⟩ := st1.1
      exact ⟨o1, sb2.extBut _ _ hIC e1, r1⟩
    have hD2 : h2.get? D = some (liO ys' ep') := sb2.extBut _ _ (Ne.symm hCD) (sb1 _ _ (Ne.symm hID) hDo)
    have hps2 := hps.kt (kt1.trans kt2)
    have hkx : (if kx = mx then some (Value.str z uz) else m' kx) = some (.int kv tkv) := by rw [if_neg hkm]; exact hk
    refine wpAny_mono (htest h2 _ _ z uz _ hmem (kpg kb2) hn2 hkx (by simp)) (fun b s₃ h₃ => ?_) fun _ _ e => e
    obtain ⟨h3, tk3, rfl, kp3, rfl⟩ := h₃
    have kb3 : KB [I, C, D] s.heap h3 := fun b o hb e => kp3 b o (kb2 b o hb e)
    have hn3 := hn2.at' fun o e => kp3 _ o e
    have hit3 : h3.IsTupleIter I T (i + 1) := by
      obtain ⟨o1, e1, r1⟩ := hit2
      exact ⟨o1, kp3 _ _ e1, r1⟩
    cases hb : tst z with
    | false =>
      simp only [Bool.false_eq_true, if_false]
      refine ⟨2 + 1 - (i + 1), by (with_reducible exact nnF (by assumption)), hPi h3 tk3 (i + 1) ys' ep' _ hlt hit3 kb3 hn3 hkx (kp3 _ _ hD2) ?_⟩
      rw [hcut, hb]
      simpa using hps2.kt kp3.kt
    | true =>
      simp only [if_true]
      refine wpAny_mono (helt h3 tk3 _ z uz _ hmem hb (kpg kb3) hn3 hkx (by simp)) (fun y s₄ h₄ => ?_) fun _ _ e => e
      obtain ⟨h4, tk4, rfl, kp4, hy⟩ := h₄
      have hD4 := kp4 _ _ (kp3 _ _ hD2)
      refine append_at (hsz := by rw [hps.1, sizeLine_eq, List.length_append, List.length_map]; have := List.length_filter_le tst ([m1, m2].take i); have : ([m1, m2].take i).length ≤ 2 := by rw [List.length_take]; simp; lia
                                  lia) hD4 fun h5 sb5 hD5 => ?_
      have kt5 : KT h4 h5 := KT.but sb5.extBut hD4 (by simp)
      refine ⟨2 + 1 - (i + 1), by (with_reducible exact nnF (by assumption)), hPi h5 tk4 (i + 1) (ys'.push y) _ _ hlt ?_ (fun b o hb e => sb5.extBut b o (fun q => hb (by simp [q])) (kp4 b o (kb3 b o hb e))) (hn3.at' fun o e => sb5.extBut _ o hCD (kp4 _ _ e)) hkx hD5 ?_⟩
      · obtain ⟨o1, e1, r1⟩ := hit3
        exact ⟨o1, sb5.extBut _ _ hID (kp4 _ _ e1), r1⟩
      · rw [hcut, hb]
        exact ((hps2.kt (kp3.kt.trans kp4.kt)).push hy).kt kt5
  · have hin : i = 2 := nnG hi hlt
    subst hin
    refine W.done _ _ _ ⟨hit, htT⟩ fun h1 tk1 hk1 => ?_
    have sb1 : ∀ b o, b ≠ I → h'.get? b = some o → h1.get? b = some o := fun b o hb e => hk1 b o (by simpa using hb) e
    exact fin h1 tk1 m' ys' ep' (fun b o hb e => sb1 b o (fun q => hb (by simp [q])) (kb b o hb e)) (hn.at' fun o e => sb1 _ o (Ne.symm hIC) e) (sb1 _ _ (Ne.symm hID) hDo) (hps.kt (KT.but sb1 eI (by rw [cI]; simp)))
end
noncomputable def groups (tst : Str → Bool) (f : Nat → Str → Int × Int) (m1 m2 : Nat → Str) (i : Nat) : List (Int × Int) := (List.range i).flatMap fun j => ([m1 j, m2 j].filter tst).map (f j)
theorem groups_succ (tst : Str → Bool) (f : Nat → Str → Int × Int) (m1 m2 : Nat → Str) (i : Nat) : groups tst f m1 m2 (i + 1) = groups tst f m1 m2 i ++ ([m1 i, m2 i].filter tst).map (f i) := by
  unfold groups
  rw [List.range_succ, List.flatMap_append]
  simp
theorem groups_len (tst : Str → Bool) (f : Nat → Str → Int × Int) (m1 m2 : Nat → Str) : ∀ i, (groups tst f m1 m2 i).length ≤ 2 * i
  | 0 => Nat.zero_le _
  | i + 1 => by
    rw [groups_succ, List.length_append, List.length_map]
    have := groups_len tst f m1 m2 i
    have h2 := List.length_filter_le tst [m1 i, m2 i]
    have : [m1 i, m2 i].length = 2 := rfl
    lia
section
variable {prog : Program} {w : World} {A : Around} {E : Value → Shared → Prop} {s : Shared} {env : Env} {R : Result → Shared → Prop}
noncomputable abbrev Ranks (prog : Program) (w : World) (A : Around) (env : Env) (scope : Scope) (cl : List (Str × Addr)) (g : Heap) (C : Addr) (s : Shared) (kx mx : Str) (elt i1 c : Expr) (a : Int) (n : Nat) (m1 m2 : Nat → Str) (tst : Str → Bool) (f : Nat → Str → Int × Int) : Prop :=
  (∀ i h₂ tk₂ m₂ kv tkv (E' : Value → Shared → Prop), i < n → kv = a + (i : Int) * 1 → Kp g h₂ → h₂.Ns C m₂ → m₂ kx = some (.int kv tkv) →
    wpAny (model prog w) A (eval i1 (compEnvC scope cl C env)) (fun v s₃ => ∃ T h₃ tk₃ u1 u2, v = .ref T ∧ s₃ = { s with heap := h₃, toks := tk₃ } ∧ Kp h₂ h₃ ∧ h₃.IsTuple T #[.str (m1 i) u1, .str (m2 i) u2]) E' { s with heap := h₂, toks := tk₂ }) ∧
  (∀ i h₂ tk₂ m₂ kv tkv z u (E' : Value → Shared → Prop), i < n → kv = a + (i : Int) * 1 → z ∈ [m1 i, m2 i] → Kp g h₂ → h₂.Ns C m₂ → m₂ kx = some (.int kv tkv) → m₂ mx = some (.str z u) →
    wpAny (model prog w) A (isTrue c (compEnvC scope cl C env) (eval c (compEnvC scope cl C env))) (fun b s₃ => ∃ h₃ tk₃, s₃ = { s with heap := h₃, toks := tk₃ } ∧ Kp h₂ h₃ ∧ b = tst z) E' { s with heap := h₂, toks := tk₂ }) ∧
  (∀ i h₂ tk₂ m₂ kv tkv z u (E' : Value → Shared → Prop), i < n → kv = a + (i : Int) * 1 → z ∈ [m1 i, m2 i] → tst z = true → Kp g h₂ → h₂.Ns C m₂ → m₂ kx = some (.int kv tkv) → m₂ mx = some (.str z u) →
    wpAny (model prog w) A (eval elt (compEnvC scope cl C env)) (fun y s₃ => ∃ h₃ tk₃, s₃ = { s with heap := h₃, toks := tk₃ } ∧ Kp h₂ h₃ ∧ IsP h₃ y (f i z)) E' { s with heap := h₂, toks := tk₂ })

theorem ranks_loop {g : Heap} {I0 C D : Addr} {m1 m2 : Nat → Str} {kx mx : Str} {pk pm : Pos} {a : Int} {n : Nat} {tst : Str → Bool} {f : Nat → Str → Int × Int} {elt i0 i1 c : Expr} {scope : Scope} {cl : List (Str × Addr)} {pos : Pos} {m₀ : Str → Option Value}
    (hh : A.handled = none) (hI : g.get? I0 = none) (hC : g.get? C = none) (hD : g.get? D = none) (hIC : I0 ≠ C) (hID : I0 ≠ D) (hCD : C ≠ D)
    (hkm : kx ≠ mx) (hkx : scope.names.lookup kx = some .local) (hmx : scope.names.lookup mx = some .local) (hkind : scope.kind = .function) (hn : n ≤ 400)
    (H : Ranks prog w A env scope cl g C s kx mx elt i1 c a n m1 m2 tst f)
    (hi0 : IsRangeIter s.heap I0 a (n : Int) 1) (n0 : s.heap.Ns C m₀) (d0 : s.heap.get? D = some (liO #[] 0)) (kp0 : Kp g s.heap)
    (fin : ∀ h' tk m' ys' ep', Kp g h' → h'.Ns C m' → h'.get? D = some (liO ys' ep') → PairsAt h' ys' (groups tst f m1 m2 n) → R (.ok .next) { s with heap := h', toks := tk })
    (hf : ∀ x, foldedSetIterable i1 (compEnvC scope cl C env) x = pure x := by intro _; rfl) :
    codeAny (model prog w) A (.compLoop (lc2 elt (.Name kx pk) i0 (.Name mx pm) i1 c scope pos) 0 (.ref I0) (.ref D) (compEnvC scope cl C env)) R s := by
  have W := Walks.range (prog := prog) (w := w) hh I0 a 1 n
  obtain ⟨P, hPi, hE⟩ : ∃ P : Nat → Shared → Prop, (∀ h' tk' i ys' ep' m', i ≤ n → IsRangeIter h' I0 (a + (i : Nat) * 1) ((n : Int) - (i : Nat)) 1 → Kp g h' → h'.Ns C m' → h'.get? D = some (liO ys' ep') → PairsAt h' ys' (groups tst f m1 m2 i) → P (n + 1 - i) { s with heap := h', toks := tk' }) ∧
      ∀ k s' (G : Prop), P k s' → (∀ h' tk' i ys' ep' m', i ≤ n → IsRangeIter h' I0 (a + (i : Nat) * 1) ((n : Int) - (i : Nat)) 1 → Kp g h' → h'.Ns C m' → h'.get? D = some (liO ys' ep') → PairsAt h' ys' (groups tst f m1 m2 i) → s' = { s with heap := h', toks := tk' } → k = n + 1 - i → G) → G :=
    ⟨fun k s' => ∀ G : Prop, _ → G, fun h' tk' i ys' ep' m' x1 x2 x3 x4 x5 x6 G f => f h' tk' i ys' ep' m' x1 x2 x3 x4 x5 x6 rfl rfl, fun _ _ _ x f => x _ f⟩
  refine loop2_out P ?_ (n + 1) (hPi s.heap s.toks 0 #[] 0 m₀ (Nat.zero_le _) (by simpa using hi0) kp0 n0 d0 ⟨rfl, fun i p e => by simp [groups] at e⟩) (hf := hf)
  intro k s' hk0
  refine hE k s' _ hk0 ?_
  clear hE hk0
  rintro h' tk' i ys' ep' m' hi hit kp hnC hDo hps rfl rfl
  have nI : ∀ b o, h'.get? b = some o → True := fun _ _ _ => trivial
  by_cases hlt : i < n
  · refine W.item i _ _ _ hlt hit fun v h1 tk1 hv st1 hk1 => ?_
    obtain ⟨tkv, rfl⟩ := hv
    have sb1 : ∀ b o, b ≠ I0 → h'.get? b = some o → h1.get? b = some o := fun b o hb e => hk1 b o (by simpa using hb) e
    have ktI : ∀ {h2 : Heap}, (∀ b o, b ≠ I0 → h'.get? b = some o → h2.get? b = some o) → KT h' h2 := fun k2 => KT.but k2 hit (by simp)
    have kt1 := ktI sb1
    have hn1 : h1.Ns C m' := hnC.at' fun o e => sb1 _ o (Ne.symm hIC) e
    dsimp only
    refine wpAny_assign_Name (wpAny_storeName_local (lookup_relabel_local hkx) hn1 (fun h2 hn2 sb2 => ?_) (by simp [compEnvC, relabel, hkind]))
    have kt2 : KT h1 h2 := KT.ns sb2.extBut hn1
    have kp2 : Kp g h2 := kp_but (kp_but kp hI sb1) hC sb2.extBut
    have hit2 : IsRangeIter h2 I0 (a + ((i + 1 : Nat) : Int) * 1) ((n : Int) - ((i + 1 : Nat) : Int)) 1 := sb2.extBut _ _ hIC st1
    have hD2 : h2.get? D = some (liO ys' ep') := sb2.extBut _ _ (Ne.symm hCD) (sb1 _ _ (Ne.symm hID) hDo)
    have hps2 := hps.kt (kt1.trans kt2)
    refine wpAny_mono (H.1 i h2 _ _ _ tkv _ hlt rfl kp2 hn2 (by simp)) (fun x s₃ h₃ => ?_) fun _ _ e => e
    obtain ⟨T, h3, tk3, u1, u2, rfl, rfl, kp3, hT⟩ := h₃
    refine wpAny_pyIter_tuple hT ?_
    have kq : Kp h3 (h3.push { cls := .type "tuple_iterator", data := .fields #[.ref T, .int 0 0] }) := fun b o e => Heap.get?_push_of_some _ e
    have hitT : (h3.push { cls := .type "tuple_iterator", data := .fields #[.ref T, .int 0 0] }).IsTupleIter h3.objs.size T 0 := ⟨_, Heap.get?_push_size _ rfl, rfl, rfl⟩
    have hIn : ∀ b o, h3.get? b = some o → b ≠ h3.objs.size := fun b o e => Nat.ne_of_lt (Heap.lt_size e)
    have hgI : g.get? h3.objs.size = none := by
      cases z : g.get? h3.objs.size with
      | none => rfl
      | some o => exact absurd rfl (hIn _ _ (kp3 _ _ (kp2 _ _ z)))
    dsimp only
    generalize h3.push { cls := .type "tuple_iterator", data := .fields #[.ref T, .int 0 0] } = h4 at *
    generalize h3.objs.size = I at *
    have hnI : I ≠ C := by
      obtain ⟨oc, es, n2, ec, dc, _⟩ := id hn2
      have ec' : h2.get? C = some oc := ec
      exact Ne.symm (hIn C oc (kp3 C oc ec'))
    have hnD : I ≠ D := Ne.symm (hIn D _ (kp3 _ _ hD2))
    have hnI0 : I0 ≠ I := hIn I0 _ (kp3 _ _ hit2)
    have kp4 : Kp h2 h4 := kp3.trans kq
    have hgl := groups_len tst f m1 m2 i
    have hbn : ∀ b o, g.get? b = some o → b ∉ [I, C, D] := fun b o e hb => by
      simp only [List.mem_cons, List.not_mem_nil, or_false] at hb
      rcases hb with rfl | rfl | rfl
      · rw [hgI] at e; cases e
      · rw [hC] at e; cases e
      · rw [hD] at e; cases e
    have loop := marks_loop (s := ⟨h4, s.gens, s.drawn, tk3, s.os⟩) (env := env) (prog := prog) (w := w) (A := A) (R := fun r s₅ => match r with | .ok _ => ∃ m, m < n + 1 - i ∧ P m s₅ | .error e => cameBackBy (model prog w) A (compEnvC scope cl C env) (notedBy (model prog w) A (compEnvC scope cl C env) fun e s' => R (.error e) s') e s₅)
      (t0 := .Name kx pk) (i0 := i0) (i1 := i1) (c := c) (elt := elt) (pm := pm) (pos := pos) (kx := kx) (mx := mx) (f := f i) (tst := tst) hh hgI hC hD hnI hnD hCD hkm hmx hkind
      (fun h₂ tk₂ m₂ z u E' hz k2 n2 e1 e2 => H.2.1 i h₂ tk₂ m₂ _ tkv z u E' hlt rfl hz k2 n2 e1 e2)
      (fun h₂ tk₂ m₂ z u E' hz ht k2 n2 e1 e2 => H.2.2 i h₂ tk₂ m₂ _ tkv z u E' hlt rfl hz ht k2 n2 e1 e2)
      hitT (kq.kt.tup hT) (hn2.at' fun o e => kp4 _ o e) (by simp) (kp4 _ _ hD2) (hps2.kt kp4.kt) (kp2.trans kp4) (by lia)
      (fun h5 tk5 m5 ys5 ep5 kb5 n5 d5 p5 => ⟨n + 1 - (i + 1), by (with_reducible exact nnF (by assumption)), hPi h5 tk5 (i + 1) ys5 ep5 m5 hlt (kb5 _ _ (by simp [hnI0, hIC, hID]) (kp4 _ _ hit2)) (fun b o e => kb5 b o (hbn b o e) (kp4 _ _ (kp2 _ _ e))) n5 d5 (by rw [groups_succ]; exact p5)⟩)
    exact start2_in loop (wpAny_pyIter_tupleiter hitT loop)
  · have hin : i = n := nnG hi hlt
    subst hin
    refine W.done _ _ _ hit fun h1 tk1 hk1 => ?_
    have sb1 : ∀ b o, b ≠ I0 → h'.get? b = some o → h1.get? b = some o := fun b o hb e => hk1 b o (by simpa using hb) e
    exact fin h1 tk1 m' ys' ep' (kp_but kp hI sb1) (hnC.at' fun o e => sb1 _ o (Ne.symm hIC) e) (sb1 _ _ (Ne.symm hID) hDo) (hps.kt (KT.but sb1 hit (by simp)))
end
end
section
open PySem PySem.W PyProof.Rows PySem.Calls PySem.Spec
set_option Elab.async false
set_option maxRecDepth 100000
set_option linter.unusedVariables false
section
variable {prog : Program} {w : World} {A : Around} {E : Value → Shared → Prop} {s : Shared} {env : Env}
theorem Assign_ranks {elt i0 i1 c : Expr} {kx mx y : Str} {pk pm py : Pos} {scope : Scope} {cl : List (Str × Addr)} {pos spos : Pos} {Q : Flow → Shared → Prop} {m1 m2 : Nat → Str} {tst : Str → Bool} {f : Nat → Str → Int × Int}
    (hsw : swapsWith (lc2 elt (.Name kx pk) i0 (.Name mx pm) i1 c scope pos) (some (.Name y py)) spos.line env = pure true)
    (hclos : closureFor scope env = pure cl) (hcell : ∀ z ∈ scope.names, z.2 ≠ .cell) (hkind : scope.kind = .function)
    (hnames : ∀ z ∈ scope.names, z.2 = .local → scope.names.lookup z.1 = some .local) (hkx : scope.names.lookup kx = some .local) (hmx : scope.names.lookup mx = some .local) (hkm : kx ≠ mx)
    (hy : env.kindOf y = some .local) (hp : (env.scope.kind == .class || (env.scope.kind == .module && env.locals != env.globals)) = false) (hh : A.handled = none)
    (h : wpAny (model prog w) A (eval i0 env) (fun xv s₁ => ∃ (r : Addr) (a b : Int) (t u v : Tok) (n : Nat) (m : Str → Option Value), xv = .ref r ∧ IsRange s₁.heap r a b 1 t u v ∧ Builtin.Range.small a b 1 = true ∧ Builtin.Range.rangeSize a b 1 = (n : Int) ∧ n ≤ 400 ∧ s₁.heap.Ns env.locals m ∧
      (∀ C, s₁.heap.objs.size ≤ C → Ranks prog w A env scope cl s₁.heap C s₁ kx mx elt i1 c a n m1 m2 tst f) ∧
      (∀ D h' tk ys ep, (∀ b o, b ≠ env.locals → s₁.heap.get? b = some o → h'.get? b = some o) → h'.Ns env.locals (fun z => if z = y then some (.ref D) else m z) → s₁.heap.get? D = none → h'.get? D = some (liO ys ep) → PairsAt h' ys (groups tst f m1 m2 n) →
        Q .next { s₁ with heap := h', toks := tk })) E s)
    (hs : ∀ x, foldedSetIterable i0 env x = pure x := by intro _; rfl) (hf : ∀ C x, foldedSetIterable i1 (compEnvC scope cl C env) x = pure x := by intro _ _; rfl) :
    wpAny (model prog w) A (exec (.Assign [.Name y py] (lc2 elt (.Name kx pk) i0 (.Name mx pm) i1 c scope pos) spos) env) Q E s := by
  rw [exec_Assign_Name_used _ _ _ _ hsw]
  refine wpAny_bind (wpAny_standAt (wpAny_bind ?_))
  show wpAny _ A (do let _ ← comprehension (lc2 elt (.Name kx pk) i0 (.Name mx pm) i1 c scope pos) scope env _ (newList []) false (eval i0 env) (some (assign (.Name y py) env))) _ _ s
  refine wpAny_bind (wpAny_mono (wpAny_comprehension_free (use := some (assign (.Name y py) env)) (Q := fun _ s' => Q .next s') rfl hs hclos hkind hnames
    (wpAny_mono h (fun xv s₁ h₁ => ?_) fun _ _ e => e)) (fun _ s' hq => wpAny_pure (wpAny_pure hq)) fun _ _ e => e)
  obtain ⟨r, a, b, t, u, v, n, m, rfl, hr, hsm, hn, hn4, hns, H, hQ⟩ := h₁
  refine wpAny_pyIter_range hr hsm ?_
  rw [hn]
  obtain ⟨g, gs, dr, tk1, os⟩ := s₁
  dsimp only at *
  have k1 : Kp g (g.push ({ cls := .type "range_iterator", data := .fields #[rawInt a, rawInt (n : Int), rawInt 1] })) := fun b o e => Heap.get?_push_of_some _ e
  have i1' : IsRangeIter (g.push ({ cls := .type "range_iterator", data := .fields #[rawInt a, rawInt (n : Int), rawInt 1] })) g.objs.size a (n : Int) 1 := Heap.get?_push_size _ rfl
  have z1 : (g.push ({ cls := .type "range_iterator", data := .fields #[rawInt a, rawInt (n : Int), rawInt 1] })).objs.size = g.objs.size + 1 := Heap.size_push ..
  generalize g.push ({ cls := .type "range_iterator", data := .fields #[rawInt a, rawInt (n : Int), rawInt 1] }) = g1 at *
  refine wpAny_newObj_type (wpAny_newFunctionEnv hcell (by intro y hy; simp at hy) (fun h₁ hns₁ hsb₁ => ?_) hkind)
  dsimp only at hns₁ hsb₁ ⊢
  have k2 : Kp g1 (g1.push { cls := .type "list", data := .seq (([] : List Value).toArray) }) := fun b o e => Heap.get?_push_of_some _ e
  have d2 : (g1.push { cls := .type "list", data := .seq (([] : List Value).toArray) }).get? g1.objs.size = some (liO #[] 0) := Heap.get?_push_size _ rfl
  have z2 : (g1.push { cls := .type "list", data := .seq (([] : List Value).toArray) }).objs.size = g1.objs.size + 1 := Heap.size_push ..
  generalize g1.push { cls := .type "list", data := .seq (([] : List Value).toArray) } = g2 at *
  have below : ∀ b o, g2.get? b = some o → b ≠ g2.objs.size := fun b o e => Nat.ne_of_lt (Heap.lt_size e)
  have k3 : Kp g2 h₁ := fun b o e => hsb₁.extBut b o (below b o e) (Heap.get?_push_of_some _ e)
  have kk : Kp g h₁ := (k1.trans k2).trans k3
  have none1 : ∀ a, g.objs.size ≤ a → g.get? a = none := fun a ha => above_none ha
  have l1 : g.objs.size < g2.objs.size := by (with_reducible exact nnO (by assumption) (by assumption))
  have l2 : g.objs.size < g1.objs.size := by lia
  have l3 : g1.objs.size < g2.objs.size := by lia
  have hLlt : env.locals < g.objs.size := hns.lt
  have loop := ranks_loop (s := ⟨h₁, gs, dr, tk1 + ([] : List (Str × Value)).length, os⟩) (env := env) (cl := cl) (prog := prog) (w := w) (A := A) (g := g) (I0 := g.objs.size) (C := g2.objs.size) (D := g1.objs.size) (elt := elt) (i0 := i0) (i1 := i1) (c := c) (pk := pk) (pm := pm) (pos := pos)
    (R := compPost (model prog w) A E (some (assign (.Name y py) env)) (fun _ s' => Q .next s') (.ref g1.objs.size) g2.objs.size) hh (none1 _ (Nat.le_refl _)) (none1 _ (by (with_reducible exact nnM (by assumption) (by assumption)))) (none1 _ (by (with_reducible exact nnN (by assumption)))) (Nat.ne_of_lt l1) (Nat.ne_of_lt l2) (Nat.ne_of_gt l3) hkm hkx hmx hkind hn4
    ⟨(H g2.objs.size (by (with_reducible exact nnM (by assumption) (by assumption)))).1, (H g2.objs.size (by (with_reducible exact nnM (by assumption) (by assumption)))).2.1, (H g2.objs.size (by (with_reducible exact nnM (by assumption) (by assumption)))).2.2⟩
    (k3 _ _ (k2 _ _ i1')) hns₁ (k3 _ _ d2) kk
    (fun h' tk m' ys' ep' kp' hn' hD' hps => by
      show wpAny _ A (assign (.Name y py) env (.ref g1.objs.size)) _ _ _
      have hL2 : env.locals ≠ g2.objs.size := Nat.ne_of_lt (Nat.lt_trans hLlt l1)
      have hLD : env.locals ≠ g1.objs.size := Nat.ne_of_lt (Nat.lt_trans hLlt l2)
      have hLns : h'.Ns env.locals m := hns.at' fun o e => kp' _ o e
      refine wpAny_assign_Name (wpAny_storeName_local hy hLns (fun h2 hn2 sb2 => ?_) hp)
      refine ⟨m', hn'.sameBut sb2 (Ne.symm hL2), fun h3 sb3 => ?_⟩
      refine hQ g1.objs.size h3 _ ys' ep' (fun b o hb e => sb3.extBut b o (fun q => by rw [q, none1 _ (by (with_reducible exact nnM (by assumption) (by assumption)))] at e; cases e) (sb2.extBut b o hb (kp' b o e))) (hn2.sameBut sb3 hL2) (none1 _ (by (with_reducible exact nnN (by assumption)))) (sb3.extBut _ _ (Nat.ne_of_lt l3) (sb2.extBut _ _ (Ne.symm hLD) hD')) (hps.kt ((KT.ns sb2.extBut hLns).trans (KT.ns sb3.extBut (hn'.sameBut sb2 (Ne.symm hL2))))))
    (hf := hf _)
  exact codeAny_compStart_list loop (wpAny_pyIter_rangeiter (k3 _ _ (k2 _ _ i1')) loop)

end
end
section
open PySem PySem.W PyProof.Rows PySem.Calls
set_option Elab.async false
set_option maxRecDepth 100000
noncomputable def PairsIn (g : Heap) (T : List (Addr × Obj)) (items : Array Value) (rk : List (Int × Int)) : Prop :=
  items.size = rk.length ∧ ∀ (i : Nat) (p : Int × Int), rk[i]? = some p → ∃ a t u o, items[i]? = some (.ref a) ∧ (o.cls = .type "tuple" ∧ ∃ n, o.data = .seq #[.int p.1 t, .int p.2 u] n) ∧ (g.get? a = some o ∨ (a, o) ∈ T)
theorem PairsIn.at {g h : Heap} {T : List (Addr × Obj)} {items : Array Value} {rk : List (Int × Int)} (x : PairsIn g T items rk) (k : ∀ b o, g.get? b = some o → h.get? b = some o) (n : ∀ z ∈ T, h.get? z.1 = some z.2) : PairsAt h items rk :=
  ⟨x.1, fun i p e => by
    obtain ⟨a, t, u, o, e1, ⟨c, d⟩, r⟩ := x.2 i p e
    refine ⟨a, t, u, e1, o, ?_, c, d⟩
    rcases r with r | r
    · exact k _ _ r
    · exact n _ r⟩
theorem pairs_ledger {g h : Heap} {items : Array Value} {rk : List (Int × Int)} (k : ∀ b o, g.get? b = some o → h.get? b = some o) (x : PairsAt h items rk) :
    ∃ T : List (Addr × Obj), (∀ q ∈ T, h.get? q.1 = some q.2 ∧ g.get? q.1 = none ∧ q.2.cls = .type "tuple" ∧ ∃ v n, q.2.data = .seq v n) ∧ PairsIn g T items rk := by
  have key : ∀ n, ∃ T : List (Addr × Obj), (∀ q ∈ T, h.get? q.1 = some q.2 ∧ g.get? q.1 = none ∧ q.2.cls = .type "tuple" ∧ ∃ v n, q.2.data = .seq v n) ∧
      ∀ (i : Nat) (p : Int × Int), i < n → rk[i]? = some p → ∃ a t u o, items[i]? = some (.ref a) ∧ (o.cls = .type "tuple" ∧ ∃ n, o.data = .seq #[.int p.1 t, .int p.2 u] n) ∧ (g.get? a = some o ∨ (a, o) ∈ T) := by
    intro n
    induction n with
    | zero => exact ⟨[], (fun q hq => by cases hq), fun i p hi => absurd hi (Nat.not_lt_zero _)⟩
    | succ n ih =>
      obtain ⟨T, hT, hP⟩ := ih
      cases hr : rk[n]? with
      | none =>
        refine ⟨T, hT, fun i p hi e => ?_⟩
        by_cases q : i < n
        · exact hP i p q e
        · rw [show i = n by (with_reducible exact nnP (by assumption) (by assumption)), hr] at e; cases e
      | some p0 =>
        obtain ⟨a, t, u, e1, o, eo, c, m, d⟩ := x.2 n p0 hr
        cases hg : g.get? a with
        | some o' =>
          refine ⟨T, hT, fun i p hi e => ?_⟩
          by_cases q : i < n
          · exact hP i p q e
          · have hin : i = n := by (with_reducible exact nnP (by assumption) (by assumption))
            subst hin
            rw [hr] at e
            cases e
            have := k _ _ hg
            rw [eo] at this
            cases this
            exact ⟨a, t, u, o, e1, ⟨c, m, d⟩, .inl hg⟩
        | none =>
          refine ⟨(a, o) :: T, fun q hq => ?_, fun i p hi e => ?_⟩
          · rcases List.mem_cons.mp hq with rfl | hq
            · exact ⟨eo, hg, c, _, m, d⟩
            · exact hT q hq
          · by_cases q : i < n
            · obtain ⟨a', t', u', o', f1, f2, f3⟩ := hP i p q e
              exact ⟨a', t', u', o', f1, f2, f3.imp id (List.mem_cons_of_mem _)⟩
            · have hin : i = n := by (with_reducible exact nnP (by assumption) (by assumption))
              subst hin
              rw [hr] at e
              cases e
              exact ⟨a, t, u, o, e1, ⟨c, m, d⟩, .inr (.head _)⟩
  obtain ⟨T, hT, hP⟩ := key rk.length
  exact ⟨T, hT, x.1, fun i p e => hP i p (List.getElem?_eq_some_iff.mp e).1 e⟩
end
section
open PySem PySem.W PyProof.Rows PySem.Calls
set_option Elab.async false
set_option maxRecDepth 100000
section
variable {prog : Program} {w : World} {A : Around} {s : Shared} {K : Frag} {p : Program} {loose : List Str} {mg mb : Str → Option Value}
theorem enterCells {Q : Value → Shared → Prop} {E : Value → Shared → Prop} {name qual : Str} {params : Arguments} {body : List Stmt} {scope : Scope} {dV kV doc pm cdv ct oc : Value} {an od : Option Addr} {osl : Array (Option Value)} {f : Addr} {vs : List Value} {binds : List (Str × Value)}
    (C : Cx K p loose mg mb s.heap)
    (ho : K.lookup f = some ⟨oc, od, .func (fnX name qual params body scope [] dV kV doc pm an cdv ct), osl⟩) (hcd : codeIn K cdv qual = true) (hroom : A.depth < recursionLimit)
    (hbind : BindsTo s (fnX name qual params body scope [] dV kV doc pm an cdv ct) ⟨vs, []⟩ binds)
    (hkind : ∀ n, ∀ x ∈ binds, scope.names.lookup x.1 = some .local ∨ (scope.names.lookup x.1 = some .cell ∧ ((cellsFrom n scope.names []).lookup x.1).isSome = true))
    (hnd : ((cellsFrom 0 scope.names []).map (·.1)).Nodup)
    (h : ∀ L' h₁ tk cells, Fr s.heap L' h₁ (bindL (envOfC qual scope L' f cdv).kindOf binds fun _ => none) → News s.heap L' h₁ cells →
      CellsAre (bindC (envOfC qual scope L' f cdv).kindOf binds fun _ => none) (cellsFrom (L' + 1) scope.names []) cells → K.In s.heap → TopRead p loose mg mb s.heap →
      wpAny (model prog w) (A.deeper (envOfC qual scope L' f cdv)) (execs body (envOfC qual scope L' f cdv))
        (fun fl s' => Q (match fl with | .ret v => v | _ => .none) s') NoE { s with heap := h₁, toks := tk })
    (hco : scope.isCoroutine = false) (hgen : scope.isGenerator = false) (hk : scope.kind = .function) : wpAny (model prog w) A (call (.ref f) vs) Q E s := by
  refine wpAny_call ?_
  refine codeAny_call_function (fd := fnX name qual params body scope [] dV kV doc pm an cdv ct) hroom (C.X _ _ ho) rfl hco hgen rfl (codeRec_of C.X hcd) (hbind _ _ _ _ ?_)
  refine wpAny_newFunctionEnv_cells hk (hkind _) fun env' he s' x => ?_
  subst he
  refine ⟨C.T.nolimit.keeps x.toInCall.keep, codeAny_func ?_⟩
  obtain ⟨h₁, tk, rfl, _⟩ := x.done
  have hk₁ := x.toInCall.keep
  obtain ⟨cells, NC, Y⟩ := Cl.news (h₀ := s.heap) (Nat.le_refl _) fun n c hm => ⟨x.cell n c (lookup_of_mem_nodup (cellsFrom_names scope.names 0 (s.heap.objs.size + 1) [] [] rfl ▸ hnd) hm), x.above n c hm⟩
  refine wpAny_mono (h s.heap.objs.size h₁ tk cells ⟨x.toInCall.ns, hk₁, Nat.le_refl _⟩ NC Y C.X C.T) (fun fl s' hl => hl) fun _ _ y => y.elim
end
theorem stLX {M : Model} {A : Around} {E : Value → Shared → Prop} {s : Shared} {env : Env} {L : Addr} {h₀ : Heap} {l : List (Str × Option Value)} {news : List (Addr × Obj)} {x : Str} {v : Value} {Q : Unit → Shared → Prop} (F : Fr h₀ L s.heap (lmap l)) (N : News h₀ L s.heap news)
    (h : ∀ h', Fr h₀ L h' (lmap ((x, some v) :: l)) → News h₀ L h' news → Q () { s with heap := h', toks := s.toks + 1 })
    (hL : env.locals = L) (hl : env.kindOf x = some .local) (hp : (env.scope.kind == .class || (env.scope.kind == .module && env.locals != env.globals)) = false) :
    wpAny M A (storeName env x v) Q E s := by
  subst hL
  exact wpAny_storeName_local hl F.ns (fun h' hn hs => h h' (F.set hn hs) (N.set hs)) hp
end
section
set_option Elab.async false
set_option maxRecDepth 100000
open PySem PySem.W PyProof.Rows
noncomputable def Hold (P : Prop) : Prop := P
theorem Hold.mk {P : Prop} (h : P) : Hold P := h
theorem Hold.get {P : Prop} (h : Hold P) : P := h
theorem sumLen_mem {p : Str × Str} : ∀ {ps : List (Str × Str)}, p ∈ ps → p.1.length + p.2.length ≤ sumLen ps
  | q :: r, h => by
    rcases List.mem_cons.mp h with rfl | h
    · simp only [sumLen]; omega
    · have := sumLen_mem h
      simp only [sumLen]; omega
noncomputable def hitAt (ps : List (Str × Str)) (c i : Nat) : Bool :=
  (Txt.isspace ⟨#[c]⟩ && (match ps[i]? with | some p => Txt.item p.1 0 == ⟨#[c]⟩ | none => false)) || (match ps[i - 1]? with | some p => Txt.item p.2 (-1) == ⟨#[c]⟩ | none => false)
noncomputable def findI (ps : List (Str × Str)) (c : Nat) : Nat → Option Nat
  | 0 => none
  | j + 1 => if hitAt ps c (j + 1) then some (j + 1) else findI ps c j
noncomputable def seek (ps : List (Str × Str)) : List Nat → Option Nat
  | [] => none
  | c :: r => match findI ps c (ps.length - 1) with | some i => some i | none => seek ps r
theorem findI_le {ps : List (Str × Str)} {c i : Nat} : ∀ {j : Nat}, findI ps c j = some i → 0 < i ∧ i ≤ j
  | 0, h => by cases h
  | j + 1, h => by
    unfold findI at h
    split at h
    · cases h; omega
    · have := findI_le h; omega
theorem seek_le {ps : List (Str × Str)} {i : Nat} : ∀ {l : List Nat}, seek ps l = some i → 0 < i ∧ i < ps.length
  | [], h => by cases h
  | c :: r, h => by
    unfold seek at h
    split at h
    · rename_i k hk
      cases h
      have := findI_le hk
      omega
    · exact seek_le h
theorem seek_append (ps : List (Str × Str)) : ∀ a b : List Nat, seek ps (a ++ b) = match seek ps a with | some i => some i | none => seek ps b
  | [], b => rfl
  | c :: a, b => by
    simp only [List.cons_append, seek]
    split
    · rfl
    · exact seek_append ps a b
theorem seek_next {ps : List (Str × Str)} {z : List Nat} {i c : Nat} (hc : z[i]? = some c) (h : seek ps (z.take i) = none) (h2 : findI ps c (ps.length - 1) = none) : seek ps (z.take (i + 1)) = none := by
  rw [List.take_add_one, hc, seek_append, h]
  simp [seek, h2]
theorem seek_here {ps : List (Str × Str)} {z : List Nat} {i c k : Nat} (hc : z[i]? = some c) (h : seek ps (z.take i) = none) (h2 : findI ps c (ps.length - 1) = some k) : seek ps z = some k := by
  have e : z = z.take i ++ c :: z.drop (i + 1) := by
    obtain ⟨hi, e⟩ := List.getElem?_eq_some_iff.mp hc
    rw [← e, ← List.drop_eq_getElem_cons hi, List.take_append_drop]
  rw [e, seek_append, h]
  simp [seek, h2]
noncomputable abbrev FS := List (Str × Str) × Nat × List Str
noncomputable def chunkS (z : List Nat) (W : Nat) (s : FS) (p : Str × Str) : FS :=
  if W < s.2.1 + sumLen (s.1 ++ [p]) then
    match seek (s.1 ++ [p]) z with
    | some i => ((s.1 ++ [p]).drop i, 0, s.2.2 ++ [tx (partsTx ((s.1 ++ [p]).take i))])
    | none => if 0 < s.2.1 then ([p], 0, s.2.2 ++ [tx (partsTx s.1)]) else (s.1 ++ [p], s.2.1, s.2.2)
  else (s.1 ++ [p], s.2.1, s.2.2)
theorem chunkS_short {z W s p} (h : ¬ W < s.2.1 + sumLen (s.1 ++ [p])) : chunkS z W s p = (s.1 ++ [p], s.2.1, s.2.2) := if_neg h
theorem chunkS_found {z W s p i} (h : W < s.2.1 + sumLen (s.1 ++ [p])) (hi : seek (s.1 ++ [p]) z = some i) : chunkS z W s p = ((s.1 ++ [p]).drop i, 0, s.2.2 ++ [tx (partsTx ((s.1 ++ [p]).take i))]) := by
  unfold chunkS; rw [if_pos h, hi]
theorem chunkS_room {z W s p} (h : W < s.2.1 + sumLen (s.1 ++ [p])) (hi : seek (s.1 ++ [p]) z = none) (hn : 0 < s.2.1) : chunkS z W s p = ([p], 0, s.2.2 ++ [tx (partsTx s.1)]) := by
  unfold chunkS; rw [if_pos h, hi]; exact if_pos hn
theorem chunkS_on {z W s p} (h : W < s.2.1 + sumLen (s.1 ++ [p])) (hi : seek (s.1 ++ [p]) z = none) (hn : ¬ 0 < s.2.1) : chunkS z W s p = (s.1 ++ [p], s.2.1, s.2.2) := by
  unfold chunkS; rw [if_pos h, hi]; exact if_neg hn
open PySem PySem.W PyProof.Rows
structure SInv (room : Nat) (qs : List (Str × Str)) (st : FS) : Prop where
  mem : ∀ p ∈ st.1, p ∈ qs
  len : st.1.length ≤ qs.length
  lls : st.2.2.length ≤ qs.length
  rm : st.2.1 ≤ room
  tot : (st.2.2.map (·.length)).sum + sumLen st.1 ≤ sumLen qs
  ne : qs ≠ [] → st.1 ≠ []
theorem tx_len (l : List Nat) : (tx l).length = l.length := by rw [← sg_len, sg_tx]
theorem sumLen_split (ps : List (Str × Str)) (i : Nat) : sumLen (ps.take i) + sumLen (ps.drop i) = sumLen ps := by
  rw [← sumLen_append, List.take_append_drop]
theorem SInv.start (room : Nat) : SInv room [] ([], room, []) := ⟨fun _ h => h, Nat.le_refl _, Nat.le_refl _, Nat.le_refl _, Nat.le_refl _, fun h => absurd rfl h⟩
theorem SInv.step {room : Nat} {qs : List (Str × Str)} {st : FS} (J : SInv room qs st) (z : List Nat) (W : Nat) (p : Str × Str) : SInv room (qs ++ [p]) (chunkS z W st p) := by
  obtain ⟨a, b, c, d, e, f⟩ := J
  have m1 : ∀ q ∈ st.1 ++ [p], q ∈ qs ++ [p] := fun q hq => by
    rcases List.mem_append.mp hq with h | h
    · exact List.mem_append_left _ (a q h)
    · exact List.mem_append_right _ h
  have on : SInv room (qs ++ [p]) (st.1 ++ [p], st.2.1, st.2.2) := ⟨m1, by simp; omega, by simp; omega, d, by show (st.2.2.map (·.length)).sum + sumLen (st.1 ++ [p]) ≤ sumLen (qs ++ [p]); rw [sumLen_append, sumLen_append]; omega, fun _ => by simp⟩
  by_cases h : W < st.2.1 + sumLen (st.1 ++ [p])
  · cases hs : seek (st.1 ++ [p]) z with
    | some i =>
      rw [chunkS_found h hs]
      have hi := seek_le hs
      refine ⟨fun q hq => m1 q (List.mem_of_mem_drop hq), ?_, ?_, Nat.zero_le _, ?_, fun _ => ?_⟩
      · simp only [List.length_drop, List.length_append, List.length_singleton]; omega
      · simp only [List.length_append, List.length_singleton]; omega
      · have e1 := sumLen_split (st.1 ++ [p]) i
        simp only [List.map_append, List.map_cons, List.map_nil, List.sum_append, List.sum_cons, List.sum_nil, tx_len, partsTx_len]
        have e2 := sumLen_append st.1 [p]
        have e3 := sumLen_append qs [p]
        omega
      · intro q
        have := congrArg List.length q
        rw [List.length_drop, List.length_nil] at this
        omega
    | none =>
      by_cases hn : 0 < st.2.1
      · rw [chunkS_room h hs hn]
        refine ⟨fun q hq => List.mem_append_right _ hq, by simp, by simp; omega, Nat.zero_le _, ?_, fun _ => by simp⟩
        simp only [List.map_append, List.map_cons, List.map_nil, List.sum_append, List.sum_cons, List.sum_nil, tx_len, partsTx_len]
        have e3 := sumLen_append qs [p]
        omega
      · rw [chunkS_on h hs hn]; exact on
  · rw [chunkS_short h]; exact on
noncomputable def chunksS (z : List Nat) (W room : Nat) (ps : List (Str × Str)) : FS := ps.foldl (chunkS z W) ([], room, [])
theorem chunksS_snoc (z : List Nat) (W room : Nat) (ps : List (Str × Str)) (p : Str × Str) : chunksS z W room (ps ++ [p]) = chunkS z W (chunksS z W room ps) p := by
  unfold chunksS; rw [List.foldl_append]; rfl
theorem chunksS_take (z : List Nat) (W room : Nat) {ps : List (Str × Str)} {i : Nat} {p : Str × Str} (h : ps[i]? = some p) : chunksS z W room (ps.take (i + 1)) = chunkS z W (chunksS z W room (ps.take i)) p := by
  rw [List.take_add_one, h]; exact chunksS_snoc ..
theorem chunks_inv (z : List Nat) (W room : Nat) (ps : List (Str × Str)) : ∀ i, i ≤ ps.length → SInv room (ps.take i) (chunksS z W room (ps.take i))
  | 0, _ => SInv.start room
  | i + 1, h => by
    have hp : ps[i]? = some ps[i] := List.getElem?_eq_getElem h
    rw [chunksS_take z W room hp, List.take_add_one, hp]
    exact (chunks_inv z W room ps i (by omega)).step z W ps[i]
noncomputable def rowsS (z : List Nat) (W room : Nat) (ps : List (Str × Str)) : List Str := (chunksS z W room ps).2.2 ++ [tx (partsTx (chunksS z W room ps).1)]
theorem not_space {z : Str} {c : Nat} (h : c ∈ sg z) (hc : Unicode.isSpace c = false) : Txt.isspace z = false := by
  unfold Txt.isspace
  have : z.cps.all Unicode.isSpace = false := by
    rw [Array.all_eq_false']
    exact ⟨c, Array.mem_toList_iff.mp h, by simp [hc]⟩
  rw [this, Bool.and_false]
noncomputable def Wordy (ps : List (Str × Str)) : Prop := ∀ p ∈ ps, 0 < p.1.length ∧ ∃ c ∈ sg p.2, Unicode.isSpace c = false
theorem Wordy.pos {ps : List (Str × Str)} (h : Wordy ps) {p : Str × Str} (hp : p ∈ ps) : 0 < p.1.length ∧ 0 < p.2.length := by
  obtain ⟨a, c, hc, -⟩ := h p hp
  refine ⟨a, ?_⟩
  rw [← sg_len]
  exact List.length_pos_of_mem hc
theorem Wordy.no {ps : List (Str × Str)} (h : Wordy ps) (hne : ps ≠ []) : 0 < sumLen ps ∧ Txt.isspace (tx (partsTx ps)) = false := by
  cases ps with
  | nil => exact absurd rfl hne
  | cons p r =>
    have h1 := h.pos (List.mem_cons_self (a := p) (l := r))
    obtain ⟨-, c, hc, hn⟩ := h p List.mem_cons_self
    refine ⟨by simp only [sumLen]; omega, not_space (c := c) ?_ hn⟩
    rw [sg_tx]
    exact List.mem_append_left _ (List.mem_append_right _ hc)
theorem join_len0 (e : Str) : ∀ ys : List Str, (Str.join e ys).length ≤ (ys.map (·.length)).sum + ys.length * e.length
  | [] => Nat.zero_le _
  | [y] => by simp [Str.join]
  | y :: z :: r => by
    have ih := join_len0 e (z :: r)
    show (y ++ e ++ Str.join e (z :: r)).length ≤ _
    rw [← sg_len, sg_append, sg_append, List.length_append, List.length_append, sg_len, sg_len, sg_len]
    simp only [List.map_cons, List.sum_cons, List.length_cons] at ih ⊢
    have : (r.length + 1 + 1) * e.length = (r.length + 1) * e.length + e.length := by rw [Nat.add_mul, Nat.one_mul]
    omega
theorem join_len_le (e : Str) (ys : List Str) : (Txt.join e ys).length ≤ (ys.map (·.length)).sum + ys.length * e.length := by rw [txt_join]; exact join_len0 e ys
end
section
set_option Elab.async false
set_option maxRecDepth 100000
open PySem PySem.W PyProof.Rows
noncomputable def mark1 (ps : List (Str × Str)) (b j : Nat) : Str := match ps[b + 1 + j]? with | some p => Txt.item p.1 0 | none => Str.empty
noncomputable def mark2 (ps : List (Str × Str)) (b j : Nat) : Str := match ps[b + j]? with | some p => Txt.item p.2 (-1) | none => Str.empty
noncomputable def rankF (z : Str) (b j : Nat) (mk : Str) : Int × Int := (Txt.find z mk, -((b + 1 + j : Nat) : Int))
noncomputable def rankOf (ps : List (Str × Str)) (z : Str) (b last : Nat) : List (Int × Int) := groups (Txt.contains z) (rankF z b) (mark1 ps b) (mark2 ps b) (last - b)
noncomputable abbrev LS := Nat × Nat × List Nat
noncomputable def bestOf (ps : List (Str × Str)) (z : Str) (b last : Nat) : Nat := if rankOf ps z b last = [] then last else (-(leastP (rankOf ps z b last) ((rankOf ps z b last).length - 1)).2).toNat
noncomputable def foldStep (ps : List (Str × Str)) (z : Str) (W : Nat) (st : LS) (last : Nat) : LS :=
  if W < st.2.1 + sumLen ((ps.drop st.1).take (last + 1 - st.1)) ∧ (rankOf ps z st.1 last ≠ [] ∨ 0 < st.2.1) then (bestOf ps z st.1 last, 0, st.2.2 ++ [bestOf ps z st.1 last]) else st
noncomputable def foldsS (ps : List (Str × Str)) (z : Str) (W room : Nat) : Nat → LS
  | 0 => (0, room, [])
  | i + 1 => foldStep ps z W (foldsS ps z W room i) i
theorem leastP_mem (rk : List (Int × Int)) : ∀ k, k < rk.length → leastP rk k ∈ rk
  | 0, h => by rw [leastP, List.getD_eq_getElem?_getD, List.getElem?_eq_getElem h]; exact List.getElem_mem h
  | k + 1, h => by
    rw [leastP]
    split
    · rw [List.getD_eq_getElem?_getD, List.getElem?_eq_getElem h]; exact List.getElem_mem h
    · exact leastP_mem rk k (by (with_reducible exact nnC (by assumption)))
theorem rank_mem {ps : List (Str × Str)} {z : Str} {b last : Nat} {p : Int × Int} (h : p ∈ rankOf ps z b last) : ∃ j, j < last - b ∧ p.2 = -((b + 1 + j : Nat) : Int) := by
  unfold rankOf groups at h
  obtain ⟨j, hj, h⟩ := List.mem_flatMap.mp h
  obtain ⟨m, -, rfl⟩ := List.mem_map.mp h
  exact ⟨j, List.mem_range.mp hj, rfl⟩
theorem best_le {ps : List (Str × Str)} {z : Str} {b last : Nat} : bestOf ps z b last ≤ last ∨ last < b := by
  unfold bestOf
  split
  · left; lia
  · rename_i h
    obtain ⟨j, hj, e⟩ := rank_mem (leastP_mem (rankOf ps z b last) ((rankOf ps z b last).length - 1) (by have := List.length_pos_iff.mpr h; (with_reducible exact nnZ (by assumption))))
    rw [e]; left; lia
theorem folds_inv (ps : List (Str × Str)) (z : Str) (W room : Nat) : ∀ i, (foldsS ps z W room i).1 ≤ i ∧ (foldsS ps z W room i).2.1 ≤ room ∧ (foldsS ps z W room i).2.2.length ≤ i
  | 0 => ⟨Nat.le_refl _, Nat.le_refl _, Nat.le_refl _⟩
  | i + 1 => by
    obtain ⟨h1, h2, h3⟩ := folds_inv ps z W room i
    rw [foldsS]
    generalize foldsS ps z W room i = st at *
    unfold foldStep
    split
    · refine ⟨?_, Nat.zero_le _, by simp; lia⟩
      rcases best_le (ps := ps) (z := z) (b := st.1) (last := i) with h | h
      · show bestOf ps z st.1 i ≤ i + 1; lia
      · lia
    · exact ⟨by lia, h2, by lia⟩
end
section
set_option Elab.async false
noncomputable def foldN (fo : List Nat) : Nat := (fo.map (2 ^ ·)).sum
theorem foldN_snoc (fo : List Nat) (k : Nat) : foldN (fo ++ [k]) = foldN fo + 2 ^ k := by simp [foldN]
end
section
open PySem PySem.W PyProof.Rows PySem.Calls
set_option Elab.async false
set_option maxRecDepth 100000
section
variable {prog : Program} {w : World} {A : Around} {E : Value → Shared → Prop} {s : Shared} {env : Env} {mg mb m : Str → Option Value} {xa xb : Str}
theorem elt_lenadd {y z : Str} {t u : Tok} {p1 p2 p3 p4 p5 : Pos} {Q : Value → Shared → Prop} (hk : env.scope.kind = .function) (hl : env.kindOf "len" = some .globalImplicit) (hx : env.kindOf xa = some .local) (hy : env.kindOf xb = some .local)
    (hd : (xa == ("__debug__" : Str)) = false) (hd2 : (xb == ("__debug__" : Str)) = false)
    (G : s.heap.Ns env.globals mg) (hg : mg "len" = none) (B : s.heap.Ns env.builtins mb) (hb : mb "len" = some (.builtin "len")) (hns : s.heap.Ns env.locals m) (hv : m xa = some (.str y t)) (hv2 : m xb = some (.str z u)) (hz : y.length + z.length ≤ 10000000)
    (h : ∀ t' tk, Q (.int ((y.length + z.length : Nat) : Int) t') { s with toks := tk })
    (he : starEach [.BinOp (.Name xa p2) .Add (.Name xb p4) p5] env = (false, eval (.BinOp (.Name xa p2) .Add (.Name xb p4) p5) env) :: starEach [] env) :
    wpAny (model prog w) A (eval (.Call (.Name "len" p1) [.BinOp (.Name xa p2) .Add (.Name xb p4) p5] [] p3) env) Q E s := by
  refine Call_ (Name_function_global hk hl (loadGlobal_builtin G hg B hb ?_)) ?_
  · refine callWith_builtin1 ?_ he ?_
    · rw [he]
      refine Calls.spliced_cons (wpAny_BinOp (elt_name hk hx hns hv (elt_name hk hy hns hv2 ?_ hd2) hd))
      refine PyProof.Rows.add_str (fun t' k => ?_) (by rw [sizeLine_eq]; (with_reducible exact nnD (by assumption) (by decide)))
      refine Calls.spliced_nil (len_str ?_ ?_)
      · rw [Str.length_append]; omega
      · rw [Str.length_append]; exact h _ _
    · rfl
  · rfl
end
theorem ints_of : ∀ (l : List Value) (f : Nat → Int), (∀ (i : Nat) (v : Value), l[i]? = some v → ∃ t, v = .int (f i) t) → IntsAre l ((List.range l.length).map f)
  | [], _, _ => .nil
  | v :: r, f, h => by
    obtain ⟨t, rfl⟩ := h 0 v rfl
    rw [List.length_cons, List.range_succ_eq_map, List.map_cons, List.map_map]
    exact .cons _ _ (ints_of r (f ∘ Nat.succ) fun i v e => h (i + 1) v e)
theorem sum_lenAt (qs : List (Str × Str)) : ((List.range qs.length).map (lenAt qs)).sum = ((sumLen qs : Nat) : Int) := by
  have e : (List.range qs.length).map (lenAt qs) = qs.map fun p => ((p.1.length + p.2.length : Nat) : Int) := by
    apply List.ext_getElem?
    intro j
    by_cases hj : j < qs.length
    · simp [hj, lenAt]
    · rw [List.getElem?_eq_none (by simpa using Nat.le_of_not_lt hj), List.getElem?_eq_none (by simpa using Nat.le_of_not_lt hj)]
  rw [e]
  induction qs with
  | nil => rfl
  | cons p r ih => 
    rw [List.map_cons, List.sum_cons, ih]
    · simp only [sumLen]; omega
    · apply List.ext_getElem?
      intro j
      by_cases hj : j < r.length
      · simp [hj, lenAt]
      · rw [List.getElem?_eq_none (by simpa using Nat.le_of_not_lt hj), List.getElem?_eq_none (by simpa using Nat.le_of_not_lt hj)]
end
section
open PySem PySem.W PyProof.Rows PySem.Calls
set_option Elab.async false
set_option maxRecDepth 100000
set_option linter.unusedVariables false
section
variable {prog : Program} {w : World} {A : Around} {E : Value → Shared → Prop} {s : Shared} {env : Env} {m : Str → Option Value} {wc pc wl : Addr} {z : Str} {kz : Tok} {items : Array Value} {ep : Nat} {ps : List (Str × Str)}
theorem iter_marks {Q : Value → Shared → Prop} {k : Nat} {p1 p2 p3 p4 p5 p6 p7 p8 p9 p10 p11 p12 p13 p14 p15 p16 p17 p18 : Pos} {tk c1 c2 c3 c4 c5 : Nat} {kv : Int} {tkv : Tok} {pa pb : Str × Str}
    (hk : env.scope.kind = .function) (hkk : env.kindOf "k" = some .local) (hwk : env.kindOf "words" = some .cell) (hcw : env.cells.lookup ("words" : Str) = some wc) (hw : s.heap.IsCell wc (some (.ref wl)))
    (hn : s.heap.Ns env.locals m) (hm : m "k" = some (.int kv tkv)) (hkv : kv = (k + 1 : Nat)) (hl : s.heap.get? wl = some (liO items ep)) (hp : PartsAt s.heap items ps) (ha : ps[k + 1]? = some pa) (hb : ps[k]? = some pb) (hlen : ps.length ≤ 1000)
    (la : 0 < pa.1.length) (lb : 0 < pb.2.length)
    (h : ∀ T h' tk u1 u2, Kp s.heap h' → h'.IsTuple T #[.str (Txt.item pa.1 0) u1, .str (Txt.item pb.2 (-1)) u2] → Q (.ref T) { s with heap := h', toks := tk }) :
    wpAny (model prog w) A (eval (.Tuple [.Subscript (.Subscript (.Subscript (.Name "words" p1) (.Name "k" p2) p3) (.Constant (.int 0) c1 p4) p5) (.Constant (.int 0) c2 p6) p7,
      .Subscript (.Subscript (.Subscript (.Name "words" p8) (.BinOp (.Name "k" p9) .Sub (.Constant (.int 1) c3 p10) p11) p12) (.Constant (.int 1) c4 p13) p14) (.UnaryOp .USub (.Constant (.int 1) c5 p15) p16) p17] tk p18) env) Q E s := by
  have hka := (List.getElem?_eq_some_iff.mp ha).1
  have hkb := (List.getElem?_eq_some_iff.mp hb).1
  obtain ⟨xa, ta, ua, ea, hta⟩ := hp.2 _ _ ha
  obtain ⟨xb, tb, ub, eb, htb⟩ := hp.2 _ _ hb
  walk1
  walk1
  walk1
  walk1
  walk1
  refine wpAny_Name (wpAny_loadName_cell hk hwk hcw hw ?_) (by decide)
  refine elt_name hk hkk hn hm ?_ (by decide)
  refine PyProof.Rows.item_list (items := items) (x := .ref (tsOf items (k + 1))) ⟨_, hl, rfl, _, rfl⟩ (by lia) (by lia) (by rw [hkv, Int.toNat_natCast]; exact xa) ?_ (by with_unfolding_all rfl) (by intro _; with_unfolding_all rfl)
  walk1
  refine item_tupleT (l := [.str pa.1 ta, .str pa.2 ua]) (j := 0) (x := .str pa.1 ta) ⟨_, hta.1, hta.2.1, hta.2.2⟩ (by decide) (by decide) (by rfl) (by rfl) ?_
  walk1
  refine PyProof.Rows.item_str (by decide) (by lia) (by lia) (fun _ => ?_) (by with_unfolding_all rfl) (by intro _; with_unfolding_all rfl)
  walk1
  walk1
  walk1
  walk1
  refine wpAny_Name (wpAny_loadName_cell hk hwk hcw hw ?_) (by decide)
  walk1
  refine elt_name hk hkk hn hm ?_ (by decide)
  walk1
  walk1
  have hkv2 : kv - 1 = (k : Int) := by lia
  rw [hkv2]
  refine PyProof.Rows.item_list (items := items) (x := .ref (tsOf items k)) ⟨_, hl, rfl, _, rfl⟩ (by lia) (by lia) (by rw [Int.toNat_natCast]; exact xb) ?_ (by with_unfolding_all rfl) (by intro _; with_unfolding_all rfl)
  walk1
  refine item_tupleT (l := [.str pb.1 tb, .str pb.2 ub]) (j := 1) (x := .str pb.2 ub) ⟨_, htb.1, htb.2.1, htb.2.2⟩ (by decide) (by decide) (by rfl) (by rfl) ?_
  walk1
  walk1
  walk1
  refine PyProof.Rows.item_str (by decide) (by lia) (by lia) (fun _ => ?_) (by with_unfolding_all rfl) (by intro _; with_unfolding_all rfl)
  walk1
  refine wpAny_newTuple ?_ (by show 2 ≤ sizeLine; decide)
  exact h _ _ _ _ _ (fun b o e => Heap.get?_push_of_some _ e) ⟨_, Heap.get?_push_size _ rfl, rfl, _, rfl⟩
theorem test_mark {Q : Bool → Shared → Prop} {p1 p2 p3 : Pos} {y : Str} {u : Tok}
    (hk : env.scope.kind = .function) (hkm : env.kindOf "mark" = some .local) (hwp : env.kindOf "preferred" = some .cell) (hcp : env.cells.lookup ("preferred" : Str) = some pc) (hp : s.heap.IsCell pc (some (.str z kz)))
    (hn : s.heap.Ns env.locals m) (hm : m "mark" = some (.str y u))
    (h : ∀ tk, Q (Txt.contains z y) { s with toks := tk }) :
    wpAny (model prog w) A (isTrue (.Compare (.Name "mark" p1) [.In] [.Name "preferred" p2] p3) env (eval (.Compare (.Name "mark" p1) [.In] [.Name "preferred" p2] p3) env)) Q E s := by
  walk1
  refine elt_name hk hkm hn hm ?_ (by decide)
  refine wpAny_Name (wpAny_loadName_cell hk hwp hcp hp ?_) (by decide)
  refine PyProof.Rows.in_str ?_
  walk1
  exact h s.toks
theorem elt_rank {Q : Value → Shared → Prop} {p1 p2 p3 p4 p5 p6 p7 : Pos} {tk : Nat} {y : Str} {u : Tok} {kv : Int} {tkv : Tok} (hA : A.handled = none)
    (hk : env.scope.kind = .function) (hkk : env.kindOf "k" = some .local) (hkm : env.kindOf "mark" = some .local) (hwp : env.kindOf "preferred" = some .cell) (hcp : env.cells.lookup ("preferred" : Str) = some pc) (hp : s.heap.IsCell pc (some (.str z kz)))
    (hn : s.heap.Ns env.locals m) (hm : m "mark" = some (.str y u)) (hm2 : m "k" = some (.int kv tkv)) (hc : Txt.contains z y = true)
    (h : ∀ T h' tk t1 t2, Kp s.heap h' → h'.IsTuple T #[.int (Txt.find z y) t1, .int (-kv) t2] → Q (.ref T) { s with heap := h', toks := tk })
    (he : starEach [.Name "mark" p3] env = (false, eval (.Name "mark" p3) env) :: starEach [] env)
    (he1 : ∃ pl, eval (.Call (.Attribute (.Name "preferred" p1) "index" p2) [.Name "mark" p3] [] p4) env = (do
      let ov ← eval (.Name "preferred" p1) env
      standAt p2.atName
      let (f, first) ← holding [ov] (getMethod ov "index" pl)
      callWith p4 f first (backTo p4 (starEach [.Name "mark" p3] env)) [])) :
    wpAny (model prog w) A (eval (.Tuple [.Call (.Attribute (.Name "preferred" p1) "index" p2) [.Name "mark" p3] [] p4, .UnaryOp .USub (.Name "k" p5) p6] tk p7) env) Q E s := by
  walk1
  walk1
  obtain ⟨pl, he1⟩ := he1
  refine MethodCall_ (pl := pl) ?_ he1
  refine wpAny_Name (wpAny_loadName_cell hk hwp hcp hp ?_) (by decide)
  refine GM.index ?_
  refine Calls.callWith_builtin (by rw [he]; rfl) ?_
  rw [he]
  refine evalArgs_plain ?_
  refine Calls.spliced_cons (elt_name hk hkm hn hm ?_ (by decide))
  refine Calls.spliced_nil ?_
  show wpAny _ _ (call (.builtin "str.index") [.str z kz, .str y u]) _ _ _
  have hco : (Builtin.Str.occurrences z y 0 z.length 1).isEmpty = false := by
    unfold Txt.contains at hc
    cases q : (Builtin.Str.occurrences z y 0 z.length 1).isEmpty with
    | true => rw [q] at hc; cases hc
    | false => rfl
  refine index_or hA (fun _ q => by rw [hco] at q; cases q) (fun _ _ => ?_)
  walk1
  walk1
  refine elt_name hk hkk hn hm2 ?_ (by decide)
  walk1
  walk1
  refine wpAny_newTuple ?_ (by show 2 ≤ sizeLine; decide)
  exact h _ _ _ _ _ (fun b o e => Heap.get?_push_of_some _ e) ⟨_, Heap.get?_push_size _ rfl, rfl, _, rfl⟩
end
end
section
open PySem PySem.W PyProof.Rows
set_option Elab.async false
set_option maxRecDepth 100000
theorem range_down (n : Nat) : Builtin.Range.rangeSize (n : Int) 0 (-1) = ((n : Nat) : Int) := by
  simp only [Builtin.Range.rangeSize]; split <;> (try split) <;> (try simp) <;> lia
theorem range_between (a b : Nat) : Builtin.Range.rangeSize (a : Int) (b : Int) 1 = ((b - a : Nat) : Int) := by
  simp only [Builtin.Range.rangeSize]; split <;> (try split) <;> lia
theorem small_gen {a b c : Int} (ha : -(2 ^ 60) ≤ a) (ha' : a ≤ 2 ^ 60) (hb : -(2 ^ 60) ≤ b) (hb' : b ≤ 2 ^ 60) (hc : c = 1 ∨ c = -1) {n : Nat} (hn : Builtin.Range.rangeSize a b c = (n : Int)) (hn' : n ≤ 2 ^ 60) : Builtin.Range.small a b c = true := by
  unfold Builtin.Range.small
  rw [hn]
  simp only [Bool.and_eq_true, Bool.or_eq_true, beq_iff_eq]
  refine ⟨⟨⟨⟨fits_long (by lia) (by lia), fits_long (by lia) (by lia)⟩, fits_long (by lia) (by lia)⟩, fits_long (by lia) (by lia)⟩, .inr ?_⟩
  rcases hc with rfl | rfl
  · rw [if_pos (by decide)]
    exact fits_long (by lia) (by lia)
  · rw [if_neg (by decide)]
    exact fits_long (by lia) (by lia)
end
local macro_rules | `(tactic| walk_at "storeName") => `(tactic| (k_here; k_dflt (refine' stLX ?F ?N ?_ ?a ?b ?c; (case F => k_asm); (case N => k_asm); (case a => rfl); (case b => rfl); (case c => rfl); k_whole; intro h' F' N'; (try k_sweep))))
section
open PySem PySem.W PyProof.Rows PySem.Calls
set_option Elab.async false
set_option maxRecDepth 100000
set_option maxHeartbeats 1000000

theorem fillFi : PySem.Challenge.rw_pe0168_01 = PySem.Challenge.rw_pe0168_01 → Mine.hd.heap_1 = Mine.hd.heap_1 := by
  k_fill
  intro _; rfl


theorem foldN_int {fo : List Nat} {k : Nat} {b : Int} (h : b = (k : Nat)) : ((foldN fo : Nat) : Int) + 2 ^ b.toNat = ((foldN (fo ++ [k]) : Nat) : Int) := by
  rw [h, foldN_snoc, Int.toNat_natCast]; push_cast; rfl
theorem best_int {ps : List (Str × Str)} {z : Str} {b i : Nat} (h : rankOf ps z b i ≠ []) : -(leastP (rankOf ps z b i) ((rankOf ps z b i).length - 1)).2 = ((bestOf ps z b i : Nat) : Int) := by
  unfold bestOf
  rw [if_neg h]
  obtain ⟨j, hj, e⟩ := rank_mem (leastP_mem (rankOf ps z b i) ((rankOf ps z b i).length - 1) (by have := List.length_pos_iff.mpr h; (with_reducible exact nnZ (by assumption))))
  rw [e]; lia
theorem news_apart' {g h : Heap} {L : Addr} {news : List (Addr × Obj)} (N : News g L h news) : ∀ q ∈ news, q.1 ∉ [h.objs.size] := fun q hq e => by
  have := Heap.lt_size (N q hq).1
  rw [List.mem_singleton.mp e] at this
  exact Nat.lt_irrefl _ this
theorem law_folds_ok {w : World} {p : Program} {loose mg mb} {dp un gd fr} {s : Shared} {Q E} {wl : Addr} {items : Array Value} {ep : Nat} {ps : List (Str × Str)} {room W : Nat} {kr kw kz : Tok} {z : Str}
   (C : Cx (Mine.hd.heap_1 w.params) p loose mg mb s.heap) (hd : dp + 2 < recursionLimit) (hu : un + 20 < cLine) (hwl : s.heap.get? wl = some (liO items ep)) (hp : PartsAt s.heap items ps) (hlen : ps.length ≤ 50) (hb : room + sumLen ps ≤ 100000)
   (hpos : ∀ p ∈ ps, 0 < p.1.length ∧ 0 < p.2.length) (hz : z.length ≤ 100)
   (hQ : ∀ t h' tk, Kp s.heap h' → Q (.int (foldN (foldsS ps z W room ps.length).2.2 : Nat) t) { s with heap := h', toks := tk }) :
   wpAny (model PySem.Challenge.pw_pe0168_01 w) (aT dp un gd fr) (call (.ref 251) [.ref wl, .int (room : Nat) kr, .int (W : Nat) kw, .str z kz]) Q E s := by
  w_on
  k_dflt (refine enterCells (binds := [(Str.ofString "words", .ref wl), (Str.ofString "room", .int (room : Nat) kr), (Str.ofString "width", .int (W : Nat) kw), (Str.ofString "preferred", .str z kz)]) C (by k_is) (by k_is) (by show dp < recursionLimit; (with_reducible exact nnC (by assumption))) (BindsTo.of_eq rfl) ?hk (by decide) ?_ rfl rfl rfl)
  case hk => intro n; exact List.forall_mem_cons.mpr ⟨.inr ⟨rfl, rfl⟩, List.forall_mem_cons.mpr ⟨.inl rfl, List.forall_mem_cons.mpr ⟨.inl rfl, List.forall_mem_cons.mpr ⟨.inr ⟨rfl, rfl⟩, List.forall_mem_nil _⟩⟩⟩⟩
  intro L' h₁ tk cells F N Y X T
  change Fr s.heap _ _ (lmap [(Str.ofString "width", some (.int (W : Nat) kw)), (Str.ofString "room", some (.int (room : Nat) kr))]) at F
  obtain ⟨oc1, oc2, rfl, hc1, hc2⟩ := CellsAre.two Y
  clear Y
  replace hc1 : oc1.data = .cell (some (.str z kz)) := hc1
  replace hc2 : oc2.data = .cell (some (.ref wl)) := hc2
  (repeat' ((fail_if_success (with_reducible show wpAny _ _ (subscriptTail _ _ _ _) _ _ _)); (fail_if_success (with_reducible show wpAny _ _ (exec (Stmt.For _ _ _ _ _) _) _ _ _)); (fail_if_success (with_reducible show wpAny _ _ (exec (Stmt.Assign _ (Expr.ListComp _ _ _ _) _) _) _ _ _)); (fail_if_success (with_reducible show wpAny _ _ (eval (Expr.ListComp _ _ _ _) _) _ _ _)); (fail_if_success (with_reducible show wpAny _ _ (pyIter _) _ _ _)); (fail_if_success (with_reducible show wpAny _ _ (compareOp _ (Value.ref _) _) _ _ _)); (fail_if_success (with_reducible show wpAny _ _ (call _ _ _) _ _ _)); (first | walk1 | (dsimp only; walk1)); (try dsimp only)))
  rename Fr _ _ _ _ => F1
  rename News _ _ _ _ => N1
  refine wpAny_For ?_ (by intro _; rfl)
  (repeat' ((fail_if_success (with_reducible show wpAny _ _ (subscriptTail _ _ _ _) _ _ _)); (fail_if_success (with_reducible show wpAny _ _ (exec (Stmt.For _ _ _ _ _) _) _ _ _)); (fail_if_success (with_reducible show wpAny _ _ (exec (Stmt.Assign _ (Expr.ListComp _ _ _ _) _) _) _ _ _)); (fail_if_success (with_reducible show wpAny _ _ (eval (Expr.ListComp _ _ _ _) _) _ _ _)); (fail_if_success (with_reducible show wpAny _ _ (pyIter _) _ _ _)); (fail_if_success (with_reducible show wpAny _ _ (compareOp _ (Value.ref _) _) _ _ _)); (fail_if_success (with_reducible show wpAny _ _ (call _ _ _) _ _ _)); (first | walk1 | (dsimp only; walk1)); (try dsimp only)))
  refine len_list (items := items) ⟨_, F1.keep _ _ hwl, rfl, _, rfl⟩ (by rw [hp.1]; lia) ?_
  rw [hp.1]
  (repeat' ((fail_if_success (with_reducible show wpAny _ _ (subscriptTail _ _ _ _) _ _ _)); (fail_if_success (with_reducible show wpAny _ _ (exec (Stmt.For _ _ _ _ _) _) _ _ _)); (fail_if_success (with_reducible show wpAny _ _ (exec (Stmt.Assign _ (Expr.ListComp _ _ _ _) _) _) _ _ _)); (fail_if_success (with_reducible show wpAny _ _ (eval (Expr.ListComp _ _ _ _) _) _ _ _)); (fail_if_success (with_reducible show wpAny _ _ (pyIter _) _ _ _)); (fail_if_success (with_reducible show wpAny _ _ (compareOp _ (Value.ref _) _) _ _ _)); (fail_if_success (with_reducible show wpAny _ _ (call _ _ _) _ _ _)); (first | walk1 | (dsimp only; walk1)); (try dsimp only)))
  walk1
  (try dsimp only)
  rename IsRange _ _ _ _ _ _ _ _ => hr3
  rename Fr _ _ _ _ => F3
  rename News _ _ _ _ => N3
  have hF := fun i => folds_inv ps z W room i
  have hap := news_apart' N3
  refine' iter_range (n := ps.length) (σ := Tok × Tok × Tok × Option Value) (fun i a => [(Str.ofString "folds", some (.int (foldN (foldsS ps z W room i).2.2 : Nat) a.1)), (Str.ofString "begin", some (.int ((foldsS ps z W room i).1 : Nat) a.2.1)), (Str.ofString "ranks", a.2.2.2), (Str.ofString "width", some (.int (W : Nat) kw)), (Str.ofString "room", some (.int ((foldsS ps z W room i).2.1 : Nat) a.2.2.1))])
    (fun _ _ => [(L' + 1 + 1, oc1), (L' + 1, oc2)]) (fun _ _ => True) (?s1, ?s2, kr, none) (by rfl) hr3 (small_up (by (with_reducible exact nnD (by assumption) (by decide)))) (range_up _) F3 (lmap_agree [Str.ofString "folds", Str.ofString "begin", Str.ofString "ranks", Str.ofString "width", Str.ofString "room"] ?h1 ?h2 ?hv) N3 trivial ?_ ?_
  case h1 => rfl
  case h2 => rfl
  case hv =>
    refine List.forall_mem_cons.mpr ⟨?_, List.forall_mem_cons.mpr ⟨?_, List.forall_mem_cons.mpr ⟨rfl, List.forall_mem_cons.mpr ⟨rfl, List.forall_mem_cons.mpr ⟨rfl, List.forall_mem_nil _⟩⟩⟩⟩⟩
    · show some (Value.int _ _) = some (Value.int _ _)
      exact some_int (by rfl)
    · show some (Value.int _ _) = some (Value.int _ _)
      exact some_int (by rfl)
  · intro i ti a h tk own hi hs ho F4 N4
    refine turn_abs fun R hR => ?_
    obtain ⟨tf, tb, tr, rv⟩ := a
    dsimp only at hs F4 N4
    obtain ⟨I1, I2, I3⟩ := hF i
    have hstep : foldsS ps z W room (i + 1) = foldStep ps z W (foldsS ps z W room i) i := rfl
    rw [show (0 + (i : Int) * 1) = ((i : Nat) : Int) by (with_reducible exact nnK _)] at F4
    clear F3 N3
    generalize hst : foldsS ps z W room i = st at *
    obtain ⟨b, n, fo⟩ := st
    dsimp only at I1 I2 I3 hs F4
    (repeat' ((fail_if_success (with_reducible show wpAny _ _ (subscriptTail _ _ _ _) _ _ _)); (fail_if_success (with_reducible show wpAny _ _ (exec (Stmt.For _ _ _ _ _) _) _ _ _)); (fail_if_success (with_reducible show wpAny _ _ (exec (Stmt.Assign _ (Expr.ListComp _ _ _ _) _) _) _ _ _)); (fail_if_success (with_reducible show wpAny _ _ (eval (Expr.ListComp _ _ _ _) _) _ _ _)); (fail_if_success (with_reducible show wpAny _ _ (pyIter _) _ _ _)); (fail_if_success (with_reducible show wpAny _ _ (compareOp _ (Value.ref _) _) _ _ _)); (fail_if_success (with_reducible show wpAny _ _ (call _ _ _) _ _ _)); (first | walk1 | (dsimp only; walk1)); (try dsimp only)))
    generalize hqs : (ps.drop b).take (i + 1 - b) = qs
    have hql : qs.length ≤ 50 := by rw [← hqs, List.length_take, List.length_drop]; lia
    have hqb : sumLen qs ≤ sumLen ps := by
      rw [← hqs]
      have h1 := sumLen_take_le (ps.drop b) (i + 1 - b)
      have h2 := sumLen_split ps b
      lia
    refine comp_pairs (ps := qs) (fun j v _ => ∃ t, v = .int (lenAt qs j) t) (fun _ _ _ _ x _ => x) (by rfl) (by decide) (by rfl) (by decide) (by rfl) (by rfl) (by decide) (by rfl) ?_
    (repeat' ((fail_if_success (with_reducible show wpAny _ _ (subscriptTail _ _ _ _) _ _ _)); (fail_if_success (with_reducible show wpAny _ _ (exec (Stmt.For _ _ _ _ _) _) _ _ _)); (fail_if_success (with_reducible show wpAny _ _ (exec (Stmt.Assign _ (Expr.ListComp _ _ _ _) _) _) _ _ _)); (fail_if_success (with_reducible show wpAny _ _ (eval (Expr.ListComp _ _ _ _) _) _ _ _)); (fail_if_success (with_reducible show wpAny _ _ (pyIter _) _ _ _)); (fail_if_success (with_reducible show wpAny _ _ (compareOp _ (Value.ref _) _) _ _ _)); (fail_if_success (with_reducible show wpAny _ _ (call _ _ _) _ _ _)); (first | walk1 | (dsimp only; walk1)); (try dsimp only)))
    refine slice_list (s := ⟨h, s.gens, s.drawn, _, s.os⟩) (items := items) (lo := some (b : Int)) (hi := some ((i : Int) + 1)) F4 N4 ⟨_, F4.keep _ _ hwl, rfl, _, rfl⟩ (.int _ _) (.int _ _) ?_ (by with_unfolding_all rfl) (by intro _; with_unfolding_all rfl) (by rw [hp.1, sizeLine_eq]; (with_reducible exact nnD (by assumption) (by decide)))
    intro h5 F5 N5
    have hpk : slicePick items (some (b : Int)) (some ((i : Int) + 1)) none = ((items.toList.drop b).take (i + 1 - b)).toArray := by
      rw [kmk_pick_nat (a := b) (b := i + 1) items (by
        have := hp.1
        simp only [sliceBounds, Option.getD_none, show (1 : Int) > 0 by decide, if_true, if_neg (show ¬ ((b : Int) < 0) by lia), if_neg (show ¬ ((i : Int) + 1 < 0) by lia)]
        congr 1 <;> (try congr 1) <;> lia)]
    rw [hpk] at N5
    have hp5 : PartsAt h5 ((items.toList.drop b).take (i + 1 - b)).toArray qs := by
      have := (((PartsIn.of hp).drop b).take (i + 1 - b)).at F5.keep (fun z hz => by cases hz)
      rw [hqs] at this
      exact this
    refine ⟨_, _, _, rfl, (N5 _ (.head _)).1, hp5, by (with_reducible exact nnD (by assumption) (by decide)), ?_, ?_⟩
    · intro C h2 tk2 m2 j pr t1 t2 E' hpj kp2 hC2 hn2 hm1 hm2
      have F6 : Fr s.heap C h2 m2 := ⟨hn2, fun b o e => kp2 _ _ (F5.keep b o e), Nat.le_trans F5.above (Nat.le_trans (Nat.le_of_lt F5.ns.lt) hC2)⟩
      have hpl := sumLen_mem (List.mem_of_getElem? hpj)
      have hli : lenAt qs j = ((pr.1.length + pr.2.length : Nat) : Int) := by unfold lenAt; rw [hpj]
      have g1 : mg "len" = none := mg_none_of X T.g (by k_is)
      have b1 : mb "len" = some (.builtin "len") := (T.builtins _ (by decide)).trans (by first | boot_by_name | rfl | kernel_rfl)
      refine elt_lenadd rfl rfl rfl rfl (by decide) (by decide) (T.g.keeps F6.keep) g1 (T.b.keeps F6.keep) b1 hn2 hm1 hm2 (by lia) ?_ rfl
      intro t' tk'
      exact ⟨h2, tk', rfl, Kp.refl _, t', by rw [hli]⟩
    · intro D h6 tk6 ys e6 kp6 hD6 hys hsz hF6
      have F6 := fr_keeps F5 kp6
      have N6 := news_keeps N5 kp6
      clear F4 N4 F5 N5
      have N7 : News s.heap L' h6 ([(L' + 1 + 1, oc1), (L' + 1, oc2)] ++ own) := fun q hq => N6 q (List.mem_cons_of_mem _ hq)
      clear N6
      have hints := ints_of ys.toList (lenAt qs) (fun j v e => hF6 j v (by rw [Array.getElem?_toList] at e; exact e))
      rw [Array.length_toList, hsz] at hints
      (repeat' ((fail_if_success (with_reducible show wpAny _ _ (subscriptTail _ _ _ _) _ _ _)); (fail_if_success (with_reducible show wpAny _ _ (exec (Stmt.For _ _ _ _ _) _) _ _ _)); (fail_if_success (with_reducible show wpAny _ _ (exec (Stmt.Assign _ (Expr.ListComp _ _ _ _) _) _) _ _ _)); (fail_if_success (with_reducible show wpAny _ _ (eval (Expr.ListComp _ _ _ _) _) _ _ _)); (fail_if_success (with_reducible show wpAny _ _ (pyIter _) _ _ _)); (fail_if_success (with_reducible show wpAny _ _ (compareOp _ (Value.ref _) _) _ _ _)); (fail_if_success (with_reducible show wpAny _ _ (call _ _ _) _ _ _)); (first | walk1 | (dsimp only; walk1)); (try dsimp only)))
      refine LSm.sum_ints F6 N7 rfl (vs := ys.toList) ⟨_, hys, rfl, _, rfl⟩ hints ?_
      intro h7 tk7 t7 F7 N7
      rw [sum_lenAt]
      clear F6
      have hsum := sumLen_take_le ps ps.length
      (repeat' ((fail_if_success (with_reducible show wpAny _ _ (subscriptTail _ _ _ _) _ _ _)); (fail_if_success (with_reducible show wpAny _ _ (exec (Stmt.For _ _ _ _ _) _) _ _ _)); (fail_if_success (with_reducible show wpAny _ _ (exec (Stmt.Assign _ (Expr.ListComp _ _ _ _) _) _) _ _ _)); (fail_if_success (with_reducible show wpAny _ _ (eval (Expr.ListComp _ _ _ _) _) _ _ _)); (fail_if_success (with_reducible show wpAny _ _ (pyIter _) _ _ _)); (fail_if_success (with_reducible show wpAny _ _ (compareOp _ (Value.ref _) _) _ _ _)); (fail_if_success (with_reducible show wpAny _ _ (call _ _ _) _ _ _)); (first | walk1 | (dsimp only; walk1)); (try dsimp only)))
      · rename _ < _ => hW2
        have hN7 : ∀ q ∈ [(L' + 1 + 1, oc1), (L' + 1, oc2)], q ∈ [(L' + 1 + 1, oc1), (L' + 1, oc2)] ++ own := fun q hq => List.mem_append_left _ hq
        refine Assign_ranks (m1 := mark1 ps b) (m2 := mark2 ps b) (tst := Txt.contains z) (f := rankF z b) (by with_unfolding_all rfl) (by rfl) (by decide) (by rfl) (by decide) (by rfl) (by rfl) (by decide) (by rfl) (by rfl) (by rfl) ?_
        (repeat' ((fail_if_success (with_reducible show wpAny _ _ (subscriptTail _ _ _ _) _ _ _)); (fail_if_success (with_reducible show wpAny _ _ (exec (Stmt.For _ _ _ _ _) _) _ _ _)); (fail_if_success (with_reducible show wpAny _ _ (exec (Stmt.Assign _ (Expr.ListComp _ _ _ _) _) _) _ _ _)); (fail_if_success (with_reducible show wpAny _ _ (eval (Expr.ListComp _ _ _ _) _) _ _ _)); (fail_if_success (with_reducible show wpAny _ _ (pyIter _) _ _ _)); (fail_if_success (with_reducible show wpAny _ _ (compareOp _ (Value.ref _) _) _ _ _)); (fail_if_success (with_reducible show wpAny _ _ (call _ _ _) _ _ _)); (first | walk1 | (dsimp only; walk1)); (try dsimp only)))
        walk1
        (try dsimp only)
        rename IsRange _ _ _ _ _ _ _ _ => hr8
        rename Fr _ _ _ _ => F8
        rename News _ _ _ _ => N8
        have hrs : Builtin.Range.rangeSize ((b : Int) + 1) ((i : Int) + 1) 1 = ((i - b : Nat) : Int) := by
          have := range_between (b + 1) (i + 1)
          rw [show ((b + 1 : Nat) : Int) = (b : Int) + 1 by lia, show ((i + 1 : Nat) : Int) = (i : Int) + 1 by lia] at this
          rw [this]; lia
        refine ⟨_, _, _, _, _, _, i - b, _, rfl, hr8, small_gen (by lia) (by lia) (by lia) (by lia) (.inl rfl) hrs (by lia), hrs, by lia, F8.ns, ?_, ?_⟩
        · intro C hC
          have o1 := N8 (L' + 1, oc2) (.tail _ (.head _))
          have o2 := N8 (L' + 1 + 1, oc1) (.head _)
          refine ⟨?_, ?_, ?_⟩
          · intro j h₂ tk₂ m₂ kv tkv E' hj hkv kp2 hn2 hm2
            have l1 : b + 1 + j < ps.length := by lia
            have l0 : b + j < ps.length := by lia
            have e1 : ps[b + 1 + j]? = some ps[b + 1 + j] := List.getElem?_eq_getElem l1
            have e0 : ps[b + j]? = some ps[b + j] := List.getElem?_eq_getElem l0
            refine iter_marks (k := b + j) (wc := L' + 1) (wl := wl) (items := items) (ep := ep) (ps := ps) rfl rfl rfl rfl ⟨_, kp2 _ _ o1.1, hc2⟩ hn2 hm2 (by lia) (kp2 _ _ (F8.keep _ _ hwl)) ((show Kp s.heap h₂ from fun b o e => kp2 _ _ (F8.keep b o e)).parts hp) (by rw [show b + j + 1 = b + 1 + j by lia]; exact e1) e0 (by (with_reducible exact nnD (by assumption) (by decide))) (hpos _ (List.getElem_mem l1)).1 (hpos _ (List.getElem_mem l0)).2 ?_
            intro T h3 tk3 u1 u2 kp3 hT
            exact ⟨T, h3, tk3, u1, u2, rfl, rfl, kp3, by unfold mark1 mark2; rw [e1, e0]; exact hT⟩
          · intro j h₂ tk₂ m₂ kv tkv y u E' hj hkv hy kp2 hn2 hm2 hm3
            refine test_mark (pc := L' + 1 + 1) rfl rfl rfl rfl ⟨_, kp2 _ _ o2.1, hc1⟩ hn2 hm3 ?_
            intro tk3
            exact ⟨h₂, tk3, rfl, Kp.refl _, rfl⟩
          · intro j h₂ tk₂ m₂ kv tkv y u E' hj hkv hy hty kp2 hn2 hm2 hm3
            refine elt_rank (pc := L' + 1 + 1) rfl rfl rfl rfl rfl rfl ⟨_, kp2 _ _ o2.1, hc1⟩ hn2 hm3 hm2 hty ?_ rfl ⟨_, rfl⟩
            intro T h3 tk3 t1 t2 kp3 hT
            exact ⟨h3, tk3, rfl, kp3, T, t1, t2, rfl, by unfold rankF; rw [show -((b + 1 + j : Nat) : Int) = -kv by lia]; exact hT⟩
        · intro D h9 tk9 ys9 ep9 kp9 ns9 hD9 hys9 hps9
          have hrkE : groups (Txt.contains z) (rankF z b) (mark1 ps b) (mark2 ps b) (i - b) = rankOf ps z b i := rfl
          rw [hrkE] at hps9
          have F9 : Fr s.heap L' h9 (lmap ((Str.ofString "ranks", some (.ref D)) :: [(Str.ofString "last", some (.int (i : Int) ti)), (Str.ofString "folds", some (.int (foldN fo : Nat) tf)), (Str.ofString "begin", some (.int (b : Int) tb)), (Str.ofString "ranks", rv), (Str.ofString "width", some (.int (W : Nat) kw)), (Str.ofString "room", some (.int (n : Int) tr))])) :=
            ⟨ns9, fun c o e => kp9 c o (fun q => by
              have := Heap.lt_size e
              rw [q] at this
              exact absurd (Nat.lt_of_lt_of_le this F8.above) (Nat.lt_irrefl _)) (F8.keep c o e), F8.above⟩
          have fD := fresh_of F8 hD9
          have F8k : ∀ c o, s.heap.get? c = some o → h9.get? c = some o := F9.keep
          obtain ⟨TT, hTT, hPP⟩ := pairs_ledger F8k hps9
          have hTL : ∀ q ∈ TT, q.1 ≠ L' := fun q hq e => by
            obtain ⟨e1, e2, e3, v, k, e4⟩ := hTT q hq
            obtain ⟨o', es, k', eo, ed, -⟩ := F9.ns
            rw [e, eo] at e1
            cases e1
            rw [ed] at e4
            cases e4
          have N9 : News s.heap L' h9 ((D, liO ys9 ep9) :: ([(L' + 1 + 1, oc1), (L' + 1, oc2)] ++ (own ++ TT))) := fun q hq => by
            rcases List.mem_cons.mp hq with rfl | hq
            · exact ⟨hys9, fD⟩
            · rw [← List.append_assoc] at hq
              rcases List.mem_append.mp hq with hq | hq
              · exact ⟨kp9 _ _ (N8 q hq).2.1 (N8 q hq).1, (N8 q hq).2⟩
              · exact ⟨(hTT q hq).1, hTL q hq, (hTT q hq).2.1⟩
          have hDsz := hps9.1
          clear F8 N8 hr8 ns9 kp9
          have hsub : ∀ {pre : List (Addr × Obj)} (q : Addr × Obj), q ∈ [(L' + 1 + 1, oc1), (L' + 1, oc2)] ++ own → q ∈ pre ++ ([(L' + 1 + 1, oc1), (L' + 1, oc2)] ++ (own ++ TT)) := fun q hq => by
            rw [← List.append_assoc [(L' + 1 + 1, oc1), (L' + 1, oc2)] own TT]
            exact List.mem_append_right _ (List.mem_append_left _ hq)
          have hu3 : un + 3 < cLine := by (with_reducible exact nnB (by assumption) (by decide))
          (repeat' ((fail_if_success (with_reducible show wpAny _ _ (subscriptTail _ _ _ _) _ _ _)); (fail_if_success (with_reducible show wpAny _ _ (exec (Stmt.For _ _ _ _ _) _) _ _ _)); (fail_if_success (with_reducible show wpAny _ _ (exec (Stmt.Assign _ (Expr.ListComp _ _ _ _) _) _) _ _ _)); (fail_if_success (with_reducible show wpAny _ _ (eval (Expr.ListComp _ _ _ _) _) _ _ _)); (fail_if_success (with_reducible show wpAny _ _ (pyIter _) _ _ _)); (fail_if_success (with_reducible show wpAny _ _ (compareOp _ (Value.ref _) _) _ _ _)); (fail_if_success (with_reducible show wpAny _ _ (call _ _ _) _ _ _)); (first | walk1 | (dsimp only; walk1)); (try dsimp only)))
          by_cases hrk : rankOf ps z b i = []
          · have hbi : ((i : Nat) : Int) = ((bestOf ps z b i : Nat) : Int) := by unfold bestOf; rw [if_pos hrk]
            rw [hrk] at hDsz
            rename Fr _ _ _ _ => Fa
            rename News _ _ _ _ => Na
            refine rcne_of (SeqAt.RcNeAt.lists (e := fun _ => true) ⟨_, (Na (D, _) (.tail _ (.head _))).1, rfl, _, rfl⟩ ⟨_, (Na _ (.head _)).1, rfl, _, rfl⟩ (by rw [hDsz]; rfl) hu3 (fun j h1 h2 => absurd h1 (by rw [hDsz]; exact Nat.not_lt_zero _))) ?_
            rw [hDsz]
            dsimp only [List.length_nil, List.range_zero, List.all_nil, Bool.not_true]
            (repeat' ((fail_if_success (with_reducible show wpAny _ _ (subscriptTail _ _ _ _) _ _ _)); (fail_if_success (with_reducible show wpAny _ _ (exec (Stmt.For _ _ _ _ _) _) _ _ _)); (fail_if_success (with_reducible show wpAny _ _ (exec (Stmt.Assign _ (Expr.ListComp _ _ _ _) _) _) _ _ _)); (fail_if_success (with_reducible show wpAny _ _ (eval (Expr.ListComp _ _ _ _) _) _ _ _)); (fail_if_success (with_reducible show wpAny _ _ (pyIter _) _ _ _)); (fail_if_success (with_reducible show wpAny _ _ (compareOp _ (Value.ref _) _) _ _ _)); (fail_if_success (with_reducible show wpAny _ _ (call _ _ _) _ _ _)); (first | walk1 | (dsimp only; walk1)); (try dsimp only)))
            · rename Fr _ _ _ _ => Fb
              rename News _ _ _ _ => Nb
              refine rcne_of (SeqAt.RcNeAt.lists (e := fun _ => true) ⟨_, (Nb (D, _) (.tail _ (.tail _ (.head _)))).1, rfl, _, rfl⟩ ⟨_, (Nb _ (.head _)).1, rfl, _, rfl⟩ (by rw [hDsz]; rfl) hu3 (fun j h1 h2 => absurd h1 (by rw [hDsz]; exact Nat.not_lt_zero _))) ?_
              rw [hDsz]
              dsimp only [List.length_nil, List.range_zero, List.all_nil, Bool.not_true]
              (repeat' ((fail_if_success (with_reducible show wpAny _ _ (subscriptTail _ _ _ _) _ _ _)); (fail_if_success (with_reducible show wpAny _ _ (exec (Stmt.For _ _ _ _ _) _) _ _ _)); (fail_if_success (with_reducible show wpAny _ _ (exec (Stmt.Assign _ (Expr.ListComp _ _ _ _) _) _) _ _ _)); (fail_if_success (with_reducible show wpAny _ _ (eval (Expr.ListComp _ _ _ _) _) _ _ _)); (fail_if_success (with_reducible show wpAny _ _ (pyIter _) _ _ _)); (fail_if_success (with_reducible show wpAny _ _ (compareOp _ (Value.ref _) _) _ _ _)); (fail_if_success (with_reducible show wpAny _ _ (call _ _ _) _ _ _)); (first | walk1 | (dsimp only; walk1)); (try dsimp only)))
              have e1 : foldStep ps z W (b, n, fo) i = (bestOf ps z b i, 0, fo ++ [bestOf ps z b i]) := by
                unfold foldStep
                exact if_pos ⟨by dsimp only; rw [hqs]; lia, .inr (by dsimp only; lia)⟩
              rw [e1] at hstep
              rename Fr _ _ _ _ => Fg
              rename News _ _ _ _ => Ng
              refine hR _ _ ?_
              refine' turn_next (?t10, ?t11, ?t12, some (.ref D)) Fg Ng (fun q hq => hsub (pre := [_, _, _]) q hq) (fun q hq => ?_) (lmap_agree [Str.ofString "folds", Str.ofString "begin", Str.ofString "ranks", Str.ofString "width", Str.ofString "room"] ?p11 ?p12 ?p1v) trivial
              case p11 => rfl
              case p12 => rfl
              case p1v =>
                rw [hstep]
                refine List.forall_mem_cons.mpr ⟨?_, List.forall_mem_cons.mpr ⟨?_, List.forall_mem_cons.mpr ⟨rfl, List.forall_mem_cons.mpr ⟨rfl, List.forall_mem_cons.mpr ⟨?_, List.forall_mem_nil _⟩⟩⟩⟩⟩
                · show some (Value.int _ _) = some (Value.int _ _)
                  exact some_int (foldN_int hbi)
                · show some (Value.int _ _) = some (Value.int _ _)
                  exact some_int hbi
                · show some (Value.int _ _) = some (Value.int _ _)
                  exact some_int (by rfl)
              · simp only [List.mem_cons, List.not_mem_nil, or_false] at hq
                rcases hq with rfl | rfl
                · exact hap (L' + 1 + 1, _) (.head _)
                · exact hap (L' + 1, _) (.tail _ (.head _))
            · rename Fr _ _ _ _ => Fb
              rename News _ _ _ _ => Nb
              have e1 : foldStep ps z W (b, n, fo) i = (b, n, fo) := by
                unfold foldStep
                rw [if_neg]
                intro q
                rcases q.2 with q | q
                · exact q hrk
                · dsimp only at q; lia
              rw [e1] at hstep
              refine hR _ _ ?_
              refine turn_next (tf, tb, tr, some (.ref D)) Fb Nb (fun q hq => ?_) (fun q hq => ?_) (lmap_agree [Str.ofString "folds", Str.ofString "begin", Str.ofString "ranks", Str.ofString "width", Str.ofString "room"] ?r1 ?r2 ?rv) trivial
              case r1 => rfl
              case r2 => rfl
              case rv =>
                rw [hstep]
                exact List.forall_mem_cons.mpr ⟨rfl, List.forall_mem_cons.mpr ⟨rfl, List.forall_mem_cons.mpr ⟨rfl, List.forall_mem_cons.mpr ⟨rfl, List.forall_mem_cons.mpr ⟨rfl, List.forall_mem_nil _⟩⟩⟩⟩⟩
              · refine List.mem_cons_of_mem _ (List.mem_cons_of_mem _ ?_)
                rcases List.mem_append.mp hq with hq | hq
                · exact List.mem_append_left _ hq
                · exact List.mem_append_right _ (List.mem_append_left _ hq)
              · simp only [List.mem_cons, List.not_mem_nil, or_false] at hq
                rcases hq with rfl | rfl
                · exact hap (L' + 1 + 1, _) (.head _)
                · exact hap (L' + 1, _) (.tail _ (.head _))
          · have hpos2 := List.length_pos_iff.mpr hrk
            rename Fr _ _ _ _ => Fa
            rename News _ _ _ _ => Na
            refine rcne_of (SeqAt.RcNeAt.lists_lengths ⟨_, (Na (D, _) (.tail _ (.head _))).1, rfl, _, rfl⟩ ⟨_, (Na _ (.head _)).1, rfl, _, rfl⟩ (by rw [hDsz]; simp; lia) hu3) ?_
            (repeat' ((fail_if_success (with_reducible show wpAny _ _ (subscriptTail _ _ _ _) _ _ _)); (fail_if_success (with_reducible show wpAny _ _ (exec (Stmt.For _ _ _ _ _) _) _ _ _)); (fail_if_success (with_reducible show wpAny _ _ (exec (Stmt.Assign _ (Expr.ListComp _ _ _ _) _) _) _ _ _)); (fail_if_success (with_reducible show wpAny _ _ (eval (Expr.ListComp _ _ _ _) _) _ _ _)); (fail_if_success (with_reducible show wpAny _ _ (pyIter _) _ _ _)); (fail_if_success (with_reducible show wpAny _ _ (compareOp _ (Value.ref _) _) _ _ _)); (fail_if_success (with_reducible show wpAny _ _ (call _ _ _) _ _ _)); (first | walk1 | (dsimp only; walk1)); (try dsimp only)))
            rename Fr _ _ _ _ => Fb
            rename News _ _ _ _ => Nb
            refine rcne_of (SeqAt.RcNeAt.lists_lengths ⟨_, (Nb (D, _) (.tail _ (.tail _ (.head _)))).1, rfl, _, rfl⟩ ⟨_, (Nb _ (.head _)).1, rfl, _, rfl⟩ (by rw [hDsz]; simp; lia) hu3) ?_
            (repeat' ((fail_if_success (with_reducible show wpAny _ _ (subscriptTail _ _ _ _) _ _ _)); (fail_if_success (with_reducible show wpAny _ _ (exec (Stmt.For _ _ _ _ _) _) _ _ _)); (fail_if_success (with_reducible show wpAny _ _ (exec (Stmt.Assign _ (Expr.ListComp _ _ _ _) _) _) _ _ _)); (fail_if_success (with_reducible show wpAny _ _ (eval (Expr.ListComp _ _ _ _) _) _ _ _)); (fail_if_success (with_reducible show wpAny _ _ (pyIter _) _ _ _)); (fail_if_success (with_reducible show wpAny _ _ (compareOp _ (Value.ref _) _) _ _ _)); (fail_if_success (with_reducible show wpAny _ _ (call _ _ _) _ _ _)); (first | walk1 | (dsimp only; walk1)); (try dsimp only)))
            rename Fr _ _ _ _ => Fc
            rename News _ _ _ _ => Nc
            have hDc := Nc (D, liO ys9 ep9) (.tail _ (.tail _ (.head _)))
            refine min_pairs (rk := rankOf ps z b i) rfl (by show un + 3 + 3 < cLine; lia) hDc.1 (hPP.at Fc.keep fun q hq => (Nc q (List.mem_cons_of_mem _ (List.mem_cons_of_mem _ (List.mem_cons_of_mem _ (List.mem_append_right _ (List.mem_append_right _ hq)))))).1) hrk ?_
            intro v hd1 tkd hv1 kpd
            have Fd := fr_keeps Fc kpd
            have Nd := news_keeps Nc kpd
            obtain ⟨va, vt, vu, rfl, hvt⟩ := hv1
            have hbi := best_int hrk
            have hbl : 0 ≤ -(leastP (rankOf ps z b i) ((rankOf ps z b i).length - 1)).2 ∧ -(leastP (rankOf ps z b i) ((rankOf ps z b i).length - 1)).2 ≤ 50 := by
              rw [hbi]
              rcases best_le (ps := ps) (z := z) (b := b) (last := i) with q | q <;> lia
            generalize (leastP (rankOf ps z b i) ((rankOf ps z b i).length - 1)) = lp at *
            (repeat' ((fail_if_success (with_reducible show wpAny _ _ (subscriptTail _ _ _ _) _ _ _)); (fail_if_success (with_reducible show wpAny _ _ (exec (Stmt.For _ _ _ _ _) _) _ _ _)); (fail_if_success (with_reducible show wpAny _ _ (exec (Stmt.Assign _ (Expr.ListComp _ _ _ _) _) _) _ _ _)); (fail_if_success (with_reducible show wpAny _ _ (eval (Expr.ListComp _ _ _ _) _) _ _ _)); (fail_if_success (with_reducible show wpAny _ _ (pyIter _) _ _ _)); (fail_if_success (with_reducible show wpAny _ _ (compareOp _ (Value.ref _) _) _ _ _)); (fail_if_success (with_reducible show wpAny _ _ (call _ _ _) _ _ _)); (first | walk1 | (dsimp only; walk1)); (try dsimp only)))
            refine item_tupleT (l := [.int lp.1 vt, .int lp.2 vu]) (j := 1) (x := .int lp.2 vu) hvt (by decide) (by decide) (by rfl) (by rfl) ?_
            (repeat' ((fail_if_success (with_reducible show wpAny _ _ (subscriptTail _ _ _ _) _ _ _)); (fail_if_success (with_reducible show wpAny _ _ (exec (Stmt.For _ _ _ _ _) _) _ _ _)); (fail_if_success (with_reducible show wpAny _ _ (exec (Stmt.Assign _ (Expr.ListComp _ _ _ _) _) _) _ _ _)); (fail_if_success (with_reducible show wpAny _ _ (eval (Expr.ListComp _ _ _ _) _) _ _ _)); (fail_if_success (with_reducible show wpAny _ _ (pyIter _) _ _ _)); (fail_if_success (with_reducible show wpAny _ _ (compareOp _ (Value.ref _) _) _ _ _)); (fail_if_success (with_reducible show wpAny _ _ (call _ _ _) _ _ _)); (first | walk1 | (dsimp only; walk1)); (try dsimp only)))
            have e1 : foldStep ps z W (b, n, fo) i = (bestOf ps z b i, 0, fo ++ [bestOf ps z b i]) := by
              unfold foldStep
              exact if_pos ⟨by dsimp only; rw [hqs]; lia, .inl hrk⟩
            rw [e1] at hstep
            rename Fr _ _ _ _ => Fg
            rename News _ _ _ _ => Ng

            refine hR _ _ ?_
            refine' turn_next (?t20, ?t21, ?t22, some (Value.ref D)) Fg Ng ?p2h (fun q hq => ?_) (lmap_agree [Str.ofString "folds", Str.ofString "begin", Str.ofString "ranks", Str.ofString "width", Str.ofString "room"] ?p21 ?p22 ?p2v) ?p2s
            case p2s => exact trivial
            case p2h => exact fun q hq => hsub (pre := [_, _, _]) q hq
            case p21 => rfl
            case p22 => rfl
            case p2v =>
              rw [hstep]
              refine List.forall_mem_cons.mpr ⟨?_, List.forall_mem_cons.mpr ⟨?_, List.forall_mem_cons.mpr ⟨rfl, List.forall_mem_cons.mpr ⟨rfl, List.forall_mem_cons.mpr ⟨?_, List.forall_mem_nil _⟩⟩⟩⟩⟩
              · show some (Value.int _ _) = some (Value.int _ _)
                exact some_int (foldN_int hbi)
              · show some (Value.int _ _) = some (Value.int _ _)
                exact some_int hbi
              · show some (Value.int _ _) = some (Value.int _ _)
                exact some_int (by rfl)
            · simp only [List.mem_cons, List.not_mem_nil, or_false] at hq
              rcases hq with rfl | rfl
              · exact hap (L' + 1 + 1, _) (.head _)
              · exact hap (L' + 1, _) (.tail _ (.head _))
      · rename ¬ _ => hW2
        have e1 : foldStep ps z W (b, n, fo) i = (b, n, fo) := by
          unfold foldStep
          rw [if_neg]
          intro q
          have := q.1
          dsimp only at this
          rw [hqs] at this
          lia
        rw [e1] at hstep
        refine hR _ _ ?_
        refine turn_next (tf, tb, tr, rv) F7 N7 (fun q hq => by rw [] at hq; exact hq) (fun q hq => ?_) (lmap_agree [Str.ofString "folds", Str.ofString "begin", Str.ofString "ranks", Str.ofString "width", Str.ofString "room"] ?g1 ?g2 ?gv) trivial
        case g1 => rfl
        case g2 => rfl
        case gv =>
          rw [hstep]
          exact List.forall_mem_cons.mpr ⟨rfl, List.forall_mem_cons.mpr ⟨rfl, List.forall_mem_cons.mpr ⟨rfl, List.forall_mem_cons.mpr ⟨rfl, List.forall_mem_cons.mpr ⟨rfl, List.forall_mem_nil _⟩⟩⟩⟩⟩
        simp only [List.mem_cons, List.not_mem_nil, or_false] at hq
        rcases hq with rfl | rfl
        · exact hap (L' + 1 + 1, _) (.head _)
        · exact hap (L' + 1, _) (.tail _ (.head _))
  · intro a u h tk hs F4 N4
    clear F3 N3
    (repeat' ((fail_if_success (with_reducible show wpAny _ _ (subscriptTail _ _ _ _) _ _ _)); (fail_if_success (with_reducible show wpAny _ _ (exec (Stmt.For _ _ _ _ _) _) _ _ _)); (fail_if_success (with_reducible show wpAny _ _ (exec (Stmt.Assign _ (Expr.ListComp _ _ _ _) _) _) _ _ _)); (fail_if_success (with_reducible show wpAny _ _ (eval (Expr.ListComp _ _ _ _) _) _ _ _)); (fail_if_success (with_reducible show wpAny _ _ (pyIter _) _ _ _)); (fail_if_success (with_reducible show wpAny _ _ (compareOp _ (Value.ref _) _) _ _ _)); (fail_if_success (with_reducible show wpAny _ _ (call _ _ _) _ _ _)); (first | walk1 | (dsimp only; walk1)); (try dsimp only)))
    exact hQ _ _ _ F4.keep
end
section
open PySem PySem.W PyProof.Rows
theorem xor_mod2 (a b : Nat) : (a ^^^ b) % 2 = (a % 2 + b % 2) % 2 := by
  have h := Nat.testBit_xor a b 0
  simp only [Nat.testBit_zero] at h
  rcases Nat.mod_two_eq_zero_or_one a with ha | ha <;> rcases Nat.mod_two_eq_zero_or_one b with hb | hb <;> rcases Nat.mod_two_eq_zero_or_one (a ^^^ b) with hc | hc <;> rw [ha, hb, hc] at h <;> simp at h <;> lia
theorem and_mod2 (a b : Nat) : (a &&& b) % 2 = (a % 2) * (b % 2) := by
  have h := Nat.testBit_and a b 0
  simp only [Nat.testBit_zero] at h
  rcases Nat.mod_two_eq_zero_or_one a with ha | ha <;> rcases Nat.mod_two_eq_zero_or_one b with hb | hb <;> rcases Nat.mod_two_eq_zero_or_one (a &&& b) with hc | hc <;> rw [ha, hb, hc] at h <;> simp at h <;> rw [ha, hb, hc]
theorem nat_xor_and (a b : Nat) : (a ^^^ b) + 2 * (a &&& b) = a + b := by
  induction a using Nat.strongRecOn generalizing b with
  | ind a ih =>
    by_cases h : a = 0
    · subst h; simp
    · have h1 := ih (a / 2) (by lia) (b / 2)
      rw [← Nat.xor_div_two, ← Nat.and_div_two] at h1
      have e3 := xor_mod2 a b
      have e4 := and_mod2 a b
      generalize a ^^^ b = X at *
      generalize a &&& b = Y at *
      rcases Nat.mod_two_eq_zero_or_one a with ha | ha <;> rcases Nat.mod_two_eq_zero_or_one b with hb | hb <;> rw [ha, hb] at e3 e4 <;> lia

theorem bitAnd_nat (a b : Nat) : Builtin.bitAnd (a : Int) (b : Int) = ((a &&& b : Nat) : Int) := by
  unfold Builtin.bitAnd
  simp
theorem bitXor_nat (a b : Nat) : Builtin.bitXor (a : Int) (b : Int) = ((a ^^^ b : Nat) : Int) := by
  rw [bitXor_and, bitAnd_nat]
  have := nat_xor_and a b
  lia
theorem bitAnd_one (a : Nat) : Builtin.bitAnd (a : Int) 1 = ((a % 2 : Nat) : Int) := by
  have := bitAnd_nat a 1
  rw [Nat.and_one_is_mod] at this
  exact this
theorem fdiv_nat (a k : Nat) : (a : Int).fdiv (2 ^ k) = ((a / 2 ^ k : Nat) : Int) := by
  rw [Int.fdiv_eq_ediv_of_nonneg _ (by exact Int.pow_nonneg (by decide))]
  push_cast
  rfl
noncomputable def crcStep (x : Nat) : Nat := if x % 2 = 1 then (x / 2) ^^^ 3988292384 else x / 2
noncomputable def crcN : Nat → Nat → Nat
  | 0, x => x
  | n + 1, x => crcStep (crcN n x)
theorem crc_odd {y : Nat} (h : Builtin.bitAnd (y : Int) 1 ≠ 0) : Builtin.bitXor ((y : Int).fdiv (2 ^ (1 : Int).toNat)) 3988292384 = ((crcStep y : Nat) : Int) := by
  rw [bitAnd_one] at h
  have h : y % 2 = 1 := by lia
  rw [crcStep, if_pos h]
  have e := fdiv_nat y 1
  rw [show (1 : Int).toNat = 1 from rfl, e]
  exact bitXor_nat _ _
theorem crc_even {y : Nat} (h : Builtin.bitAnd (y : Int) 1 = 0) : (y : Int).fdiv (2 ^ (1 : Int).toNat) = ((crcStep y : Nat) : Int) := by
  rw [bitAnd_one] at h
  have h : ¬ y % 2 = 1 := by lia
  rw [crcStep, if_neg h]
  exact fdiv_nat y 1
noncomputable def crcR (l : List Nat) : Nat := l.foldl (fun r c => crcN 8 (r ^^^ c)) 4294967295
noncomputable def crcS (l : List Nat) : Nat := crcR l ^^^ 4294967295
theorem take_succ' {α : Type} {l : List α} {i : Nat} {c : α} (h : l[i]? = some c) : l.take (i + 1) = l.take i ++ [c] := by
  rw [List.take_add_one, h]; rfl
theorem crcR_take {z : Str} {i c : Nat} (h : z.cps[i]? = some c) : ((crcN 8 (crcR (z.cps.toList.take i) ^^^ c) : Nat) : Int) = ((crcR (z.cps.toList.take (i + 1)) : Nat) : Int) := by
  rw [take_succ' (by rw [Array.getElem?_toList]; exact h)]
  simp [crcR]
theorem crcS_end (z : Str) : Builtin.bitXor ((crcR (z.cps.toList.take z.cps.size) : Nat) : Int) 4294967295 = ((crcS z.cps.toList : Nat) : Int) := by
  have e : z.cps.toList.take z.cps.size = z.cps.toList := by rw [← Array.length_toList, List.take_length]
  rw [e]
  exact bitXor_nat _ _
noncomputable def polyN : Nat → Nat → Nat
  | 0, x => x / 2 ^ 32
  | n + 1, x => 2 * polyN n x + x / 2 ^ n % 2
theorem poly_start (x : Nat) : (x : Int).fdiv (2 ^ (32 : Int).toNat) = ((polyN 0 x : Nat) : Int) := fdiv_nat x 32
end
section
open PySem PySem.W PyProof.Rows
theorem xor_div_pow (a b k : Nat) : (a ^^^ b) / 2 ^ k = (a / 2 ^ k) ^^^ (b / 2 ^ k) := by
  rw [← Nat.shiftRight_eq_div_pow, ← Nat.shiftRight_eq_div_pow, ← Nat.shiftRight_eq_div_pow, Nat.shiftRight_xor_distrib]
theorem xor_mul_pow (a b k : Nat) : (a ^^^ b) * 2 ^ k = (a * 2 ^ k) ^^^ (b * 2 ^ k) := by
  rw [← Nat.shiftLeft_eq, ← Nat.shiftLeft_eq, ← Nat.shiftLeft_eq, Nat.shiftLeft_xor_distrib]
theorem crcStep_shift (x y : Nat) : crcStep (x ^^^ (y * 2)) = crcStep x ^^^ y := by
  have e1 : (x ^^^ (y * 2)) % 2 = x % 2 := by rw [xor_mod2]; lia
  have e2 : (x ^^^ (y * 2)) / 2 = (x / 2) ^^^ y := by
    have := xor_div_pow x (y * 2) 1
    simpa using this
  unfold crcStep
  rw [e1, e2]
  split
  · rw [Nat.xor_assoc, Nat.xor_comm y, ← Nat.xor_assoc]
  · rfl
theorem crcN_shift (n x y : Nat) : crcN n (x ^^^ (y * 2 ^ n)) = crcN n x ^^^ y := by
  induction n generalizing y with
  | zero => simp [crcN]
  | succ n ih =>
    have e : y * 2 ^ (n + 1) = (y * 2) * 2 ^ n := by rw [Nat.pow_succ, Nat.mul_assoc, Nat.mul_comm 2]
    rw [crcN, e, ih, crcStep_shift, ← crcN]
theorem crcN_add (m n x : Nat) : crcN (m + n) x = crcN m (crcN n x) := by
  induction m with
  | zero => rw [Nat.zero_add]; rfl
  | succ m ih => rw [Nat.succ_add]; show crcStep _ = crcStep _; rw [ih]
noncomputable def packW : List Nat → Nat
  | [] => 0
  | c :: r => c ^^^ (packW r * 2 ^ 8)
theorem packW_snoc (l : List Nat) (c : Nat) : packW (l ++ [c]) = packW l ^^^ (c * 2 ^ (8 * l.length)) := by
  induction l with
  | nil => simp [packW]
  | cons a r ih =>
    rw [List.cons_append, packW, ih, packW, xor_mul_pow, List.length_cons, Nat.xor_assoc, Nat.mul_assoc, ← Nat.pow_add]
    rw [show 8 * r.length + 8 = 8 * (r.length + 1) by lia]
theorem crc_pack (l : List Nat) (r : Nat) : crcN (8 * l.length) (r ^^^ packW l) = l.foldl (fun r c => crcN 8 (r ^^^ c)) r := by
  induction l generalizing r with
  | nil => simp [packW, crcN]
  | cons c l ih =>
    rw [List.length_cons, packW, show 8 * (l.length + 1) = 8 * l.length + 8 by lia, crcN_add, ← Nat.xor_assoc, crcN_shift, ih, List.foldl_cons]
noncomputable def restN : Nat → Nat → Nat
  | 0, x => x
  | n + 1, x => if restN n x / 2 ^ n % 2 = 1 then restN n x ^^^ (7976584769 * 2 ^ n) else restN n x
theorem restN_div (n x : Nat) : restN n x / 2 ^ n = crcN n x := by
  induction n with
  | zero => simp [restN, crcN]
  | succ n ih =>
    have e : ∀ y : Nat, y / 2 ^ (n + 1) = y / 2 ^ n / 2 := fun y => by rw [Nat.pow_succ, Nat.div_div_eq_div_mul]
    rw [restN, crcN, crcStep, ← ih, e]
    split
    · rw [xor_div_pow, Nat.mul_div_cancel _ (Nat.two_pow_pos n)]
      have := xor_div_pow (restN n x / 2 ^ n) 7976584769 1
      simpa using this
    · rfl
theorem rest_crc (l : List Nat) : restN (8 * l.length) (4294967295 ^^^ packW l) / 2 ^ (8 * l.length) ^^^ 4294967295 = crcS l := by
  rw [restN_div, crc_pack]; rfl

-- the walk's words
theorem poly_turn (x i : Nat) : 2 * ((polyN i x : Nat) : Int) + Builtin.bitAnd ((x : Int).fdiv (2 ^ (0 + (i : Int) * 1).toNat)) 1 = ((polyN (i + 1) x : Nat) : Int) := by
  rw [show (0 + (i : Int) * 1).toNat = i by (with_reducible exact nnJ _), fdiv_nat, bitAnd_one, polyN]
  push_cast
  rfl
theorem rest_turn1 {z : Str} {i c : Nat} (h : z.cps[i]? = some c) :
    Builtin.bitXor ((4294967295 ^^^ packW (z.cps.toList.take i) : Nat) : Int) ((c : Int) * 2 ^ (8 * (0 + (i : Int) * 1)).toNat) = ((4294967295 ^^^ packW (z.cps.toList.take (i + 1)) : Nat) : Int) := by
  have hi : i < z.cps.size := by
    by_cases q : i < z.cps.size
    · exact q
    · rw [Array.getElem?_eq_none (by lia)] at h; cases h
  have e1 : (8 * (0 + (i : Int) * 1)).toNat = 8 * i := by lia
  have e2 : (c : Int) * 2 ^ (8 * i) = ((c * 2 ^ (8 * i) : Nat) : Int) := by push_cast; rfl
  rw [e1, e2, bitXor_nat, take_succ' (by rw [Array.getElem?_toList]; exact h), packW_snoc, List.length_take, Array.length_toList, Nat.min_eq_left (Nat.le_of_lt hi), Nat.xor_assoc]
theorem rest_odd {y i : Nat} (h : Builtin.bitAnd ((restN i y : Int).fdiv (2 ^ (0 + (i : Int) * 1).toNat)) 1 ≠ 0) :
    Builtin.bitXor ((restN i y : Nat) : Int) (7976584769 * 2 ^ (0 + (i : Int) * 1).toNat) = ((restN (i + 1) y : Nat) : Int) := by
  rw [show (0 + (i : Int) * 1).toNat = i by lia] at *
  rw [fdiv_nat, bitAnd_one] at h
  have e2 : (7976584769 : Int) * 2 ^ i = ((7976584769 * 2 ^ i : Nat) : Int) := by rw [Int.natCast_mul, Int.natCast_pow]; rfl
  rw [e2, bitXor_nat, restN, if_pos (by lia)]
theorem rest_even {y i : Nat} (h : Builtin.bitAnd ((restN i y : Int).fdiv (2 ^ (0 + (i : Int) * 1).toNat)) 1 = 0) :
    ((restN i y : Nat) : Int) = ((restN (i + 1) y : Nat) : Int) := by
  rw [show (0 + (i : Int) * 1).toNat = i by (with_reducible exact nnJ _)] at *
  rw [fdiv_nat, bitAnd_one] at h
  rw [restN, if_neg (by lia)]
theorem rest_end (z : Str) : Builtin.bitXor (((restN (8 * z.length) (4294967295 ^^^ packW z.cps.toList) : Nat) : Int).fdiv (2 ^ (8 * (z.length : Int)).toNat)) 4294967295 = ((crcS z.cps.toList : Nat) : Int) := by
  rw [show (8 * (z.length : Int)).toNat = 8 * z.length by lia, fdiv_nat]
  have e : z.length = z.cps.toList.length := by rw [Array.length_toList]; rfl
  rw [e]
  have := rest_crc z.cps.toList
  have h2 := bitXor_nat (restN (8 * z.cps.toList.length) (4294967295 ^^^ packW z.cps.toList) / 2 ^ (8 * z.cps.toList.length)) 4294967295
  rw [this] at h2
  exact h2
theorem rest_start (z : Str) : (4294967295 : Int) = ((4294967295 ^^^ packW (z.cps.toList.take 0) : Nat) : Int) := by
  rw [List.take_zero, packW, Nat.xor_zero]; rfl
end
section
open PySem PySem.W PyProof.Rows
set_option Elab.async false
set_option maxRecDepth 100000
set_option maxHeartbeats 8000000

theorem fill : PySem.Challenge.rw_pe0168_01 = PySem.Challenge.rw_pe0168_01 → Mine.hd.heap_1 = Mine.hd.heap_1 := by
  k_fill
  intro _; rfl


theorem gen_crc_ok {w : World} {p : Program} {loose mg mb} {dp un gd fr} {s : Shared} {Q E} {z : Int} {x : Nat} {t : Tok}
   (C : Cx (Mine.hd.heap_1 w.params) p loose mg mb s.heap) (hd : dp + 2 < recursionLimit) (hz : z = (x : Nat))
   (hQ : ∀ t h' tk, (∀ b o, s.heap.get? b = some o → h'.get? b = some o) → Q (.int (crcN 8 x : Nat) t) { s with heap := h', toks := tk }) :
   wpAny (model PySem.Challenge.pw_pe0168_01 w) (aT dp un gd fr) (call (.ref 211) [.int z t]) Q E s := by
  subst hz
  w_on
  k_dflt (refine enter0 (binds := [(Str.ofString "crc", .int (x : Nat) t)]) C (by k_is) (by k_is) (by show dp < recursionLimit; (with_reducible exact nnC (by assumption))) (BindsTo.of_eq rfl) (locs rfl) ?_ rfl rfl rfl (by decide))
  intro L' h₁ tk F N X T
  change Fr _ _ _ (lmap [(Str.ofString "crc", some (.int (x : Nat) t))]) at F
  walk1
  refine wpAny_For ?_ (by intro _; rfl)
  (repeat ((fail_if_success (with_reducible show wpAny _ _ (pyIter _) _ _ _)); walk1; (try dsimp only)))
  rename Fr _ _ _ _ => F₂
  rename News _ _ _ _ => N₂
  refine iter_range (n := 8) (σ := Tok) (fun i a => [(Str.ofString "crc", some (.int (crcN i x : Nat) a))]) (fun _ _ => []) (fun _ _ => True) t (by rfl) (by assumption) (by decide) (by decide) F₂ (fun _ _ => rfl) N₂ trivial ?_ ?_
  · intro i t a h tk own hi hs ho F₁ N₁
    refine turn_abs fun R hR => ?_
    clear F₂ N₂
    (repeat' ((first | (with_reducible refine lshift_int_small (by lia) (by lia) (by first | assumption | decide) ?_) | walk1 | (dsimp only; walk1)); (try dsimp only)))
    · refine hR _ _ ?_
      refine' turn_next ?a1 ?F ?N (fun q hq => hq) (fun q hq => by cases hq) (lmap_agree [Str.ofString "crc"] ?h1 ?h2 ?hv) trivial
      case F => assumption
      case N => assumption
      case hv => refine List.forall_mem_cons.mpr ⟨?_, List.forall_mem_nil _⟩; show some (Value.int _ _) = some (Value.int _ _); exact some_int (crc_odd (by assumption))
      case h1 => rfl
      case h2 => rfl
    · refine hR _ _ ?_
      refine' turn_next ?a2 ?F ?N (fun q hq => hq) (fun q hq => by cases hq) (lmap_agree [Str.ofString "crc"] ?h1 ?h2 ?hv) trivial
      case F => assumption
      case N => assumption
      case hv => refine List.forall_mem_cons.mpr ⟨?_, List.forall_mem_nil _⟩; show some (Value.int _ _) = some (Value.int _ _); exact some_int (crc_even (by assumption))
      case h1 => rfl
      case h2 => rfl
  · intro a u h tk _ F₁ N₁
    clear F₂ N₂
    (repeat' ((first | (with_reducible refine lshift_int_small (by lia) (by lia) (by first | assumption | decide) ?_) | walk1 | (dsimp only; walk1)); (try dsimp only)))
    exact hQ _ _ _ F₁.keep

section

theorem law_crc_ok {w : World} {p : Program} {loose mg mb} {dp un gd fr} {s : Shared} {Q E} {z : Str} {t : Tok}
   (C : Cx (Mine.hd.heap_1 w.params) p loose mg mb s.heap) (hd : dp + 3 < recursionLimit)
   (hQ : ∀ t h' tk, (∀ b o, s.heap.get? b = some o → h'.get? b = some o) → Q (.int (crcS z.cps.toList : Nat) t) { s with heap := h', toks := tk }) :
   wpAny (model PySem.Challenge.pw_pe0168_01 w) (aT dp un gd fr) (call (.ref 218) [.str z t]) Q E s := by
  w_on
  k_dflt (refine enter0 (binds := [(Str.ofString "page", .str z t)]) C (by k_is) (by k_is) (by show dp < recursionLimit; (with_reducible exact nnC (by assumption))) (BindsTo.of_eq rfl) (locs rfl) ?_ rfl rfl rfl (by decide))
  intro L' h₁ tk F N X T
  change Fr _ _ _ (lmap [(Str.ofString "page", some (.str z t))]) at F
  (repeat ((fail_if_success (with_reducible show wpAny _ _ (exec (Stmt.For _ _ _ _ _) _) _ _ _)); walk1; (try dsimp only)))
  refine wpAny_For ?_ (by intro _; rfl)
  (repeat ((fail_if_success (with_reducible show wpAny _ _ (pyIter _) _ _ _)); walk1; (try dsimp only)))
  rename Fr _ _ _ _ => F₂
  rename News _ _ _ _ => N₂
  refine iter_str (σ := Tok) (fun i a => [(Str.ofString "register", some (.int (crcR (z.cps.toList.take i) : Nat) a)), (Str.ofString "page", some (.str z t))]) (fun _ _ => []) (fun _ _ => True) _ (by rfl) F₂ (fun _ _ => rfl) N₂ trivial ?_ ?_
  · intro i c t a h tk own hc hs ho F₁ N₁
    refine turn_abs fun R hR => ?_
    clear F₂ N₂
    repeat' ((fail_if_success (with_reducible show wpAny _ _ (call (Value.ref _) _ _) _ _ _)); (first | walk1 | (dsimp only; walk1)); (try dsimp only))
    refine gen_crc_ok ⟨X.keeps F₁.keep, T.keeps F₁.keep⟩ (by (try dsimp only); (with_reducible exact nnA (by assumption) (by decide))) (bitXor_nat _ _) ?_
    intro t9 h9 tk9 hk9
    replace F₁ := fr_keeps F₁ hk9
    replace N₁ := news_keeps N₁ hk9
    (repeat' ((first | (with_reducible refine lshift_int_small (by lia) (by lia) (by first | assumption | decide) ?_) | walk1 | (dsimp only; walk1)); (try dsimp only)))
    refine hR _ _ ?_
    refine' turn_next ?a1 ?F ?N (fun q hq => hq) (fun q hq => by cases hq) (lmap_agree [Str.ofString "register", Str.ofString "page"] ?h1 ?h2 ?hv) trivial
    case F => assumption
    case N => assumption
    case hv =>
      refine List.forall_mem_cons.mpr ⟨?_, List.forall_mem_cons.mpr ⟨?_, List.forall_mem_nil _⟩⟩
      · show some (Value.int _ _) = some (Value.int _ _); exact some_int (crcR_take hc)
      · rfl
    case h1 => rfl
    case h2 => rfl
  · intro a u h tk _ F₁ N₁
    clear F₂ N₂
    (repeat' ((first | (with_reducible refine lshift_int_small (by lia) (by lia) (by first | assumption | decide) ?_) | walk1 | (dsimp only; walk1)); (try dsimp only)))
    rw [crcS_end]
    exact hQ _ _ _ F₁.keep
end

theorem law_polynomial_ok {w : World} {p : Program} {loose mg mb} {dp un gd fr} {s : Shared} {Q E} {z : Int} {x : Nat} {t : Tok}
   (C : Cx (Mine.hd.heap_1 w.params) p loose mg mb s.heap) (hd : dp + 2 < recursionLimit) (hz : z = (x : Nat))
   (hQ : ∀ t h' tk, (∀ b o, s.heap.get? b = some o → h'.get? b = some o) → Q (.int (polyN 32 x : Nat) t) { s with heap := h', toks := tk }) :
   wpAny (model PySem.Challenge.pw_pe0168_01 w) (aT dp un gd fr) (call (.ref 232) [.int z t]) Q E s := by
  subst hz
  w_on
  k_dflt (refine enter0 (binds := [(Str.ofString "register", .int (x : Nat) t)]) C (by k_is) (by k_is) (by show dp < recursionLimit; (with_reducible exact nnC (by assumption))) (BindsTo.of_eq rfl) (locs rfl) ?_ rfl rfl rfl (by decide))
  intro L' h₁ tk F N X T
  change Fr _ _ _ (lmap [(Str.ofString "register", some (.int (x : Nat) t))]) at F
  (repeat ((fail_if_success (with_reducible show wpAny _ _ (exec (Stmt.For _ _ _ _ _) _) _ _ _)); walk1; (try dsimp only)))
  refine wpAny_For ?_ (by intro _; rfl)
  (repeat ((fail_if_success (with_reducible show wpAny _ _ (pyIter _) _ _ _)); walk1; (try dsimp only)))
  rename Fr _ _ _ _ => F₂
  rename News _ _ _ _ => N₂
  refine' iter_range (n := 32) (σ := Tok) (fun i a => [(Str.ofString "told", some (.int (polyN i x : Nat) a)), (Str.ofString "register", some (.int (x : Nat) t))]) (fun _ _ => []) (fun _ _ => True) ?a0 (by rfl) (by assumption) (by decide) (by decide) F₂ (lmap_agree [Str.ofString "told", Str.ofString "register"] ?h1 ?h2 ?hv) N₂ trivial ?_ ?_
  case hv =>
    refine List.forall_mem_cons.mpr ⟨?_, List.forall_mem_cons.mpr ⟨?_, List.forall_mem_nil _⟩⟩
    · show some (Value.int _ _) = some (Value.int _ _); exact some_int (poly_start x)
    · rfl
  case h1 => rfl
  case h2 => rfl
  · intro i t a h tk own hi hs ho F₁ N₁
    refine turn_abs fun R hR => ?_
    clear F₂ N₂
    (repeat' ((first | (with_reducible refine lshift_int_small (by lia) (by lia) (by first | assumption | decide) ?_) | walk1 | (dsimp only; walk1)); (try dsimp only)))
    refine hR _ _ ?_
    refine' turn_next ?a1 ?F ?N (fun q hq => hq) (fun q hq => by cases hq) (lmap_agree [Str.ofString "told", Str.ofString "register"] ?h1 ?h2 ?hv) trivial
    case F => assumption
    case N => assumption
    case hv =>
      refine List.forall_mem_cons.mpr ⟨?_, List.forall_mem_cons.mpr ⟨?_, List.forall_mem_nil _⟩⟩
      · show some (Value.int _ _) = some (Value.int _ _); exact some_int (poly_turn x i)
      · rfl
    case h1 => rfl
    case h2 => rfl
  · intro a u h tk _ F₁ N₁
    clear F₂ N₂
    (repeat' ((first | (with_reducible refine lshift_int_small (by lia) (by lia) (by first | assumption | decide) ?_) | walk1 | (dsimp only; walk1)); (try dsimp only)))
    exact hQ _ _ _ F₁.keep

theorem law_rest_ok {w : World} {p : Program} {loose mg mb} {dp un gd fr} {s : Shared} {Q E} {z : Str} {t : Tok}
   (C : Cx (Mine.hd.heap_1 w.params) p loose mg mb s.heap) (hd : dp + 3 < recursionLimit) (hl : z.length ≤ 1000) (hc : ∀ c ∈ z.cps.toList, c < 256)
   (hQ : ∀ t h' tk, (∀ b o, s.heap.get? b = some o → h'.get? b = some o) → Q (.int (crcS z.cps.toList : Nat) t) { s with heap := h', toks := tk }) :
   wpAny (model PySem.Challenge.pw_pe0168_01 w) (aT dp un gd fr) (call (.ref 225) [.str z t]) Q E s := by
  w_on
  k_dflt (refine enter0 (binds := [(Str.ofString "line", .str z t)]) C (by k_is) (by k_is) (by show dp < recursionLimit; (with_reducible exact nnC (by assumption))) (BindsTo.of_eq rfl) (locs rfl) ?_ rfl rfl rfl (by decide))
  intro L' h₁ tk F N X T
  change Fr _ _ _ (lmap [(Str.ofString "line", some (.str z t))]) at F
  (repeat ((fail_if_success (with_reducible show wpAny _ _ (exec (Stmt.For _ _ _ _ _) _) _ _ _)); walk1; (try dsimp only)))
  refine wpAny_For ?_ (by intro _; rfl)
  (repeat ((fail_if_success (with_reducible show wpAny _ _ (pyIter _) _ _ _)); walk1; (try dsimp only)))
  rename Fr _ _ _ _ => F₂
  rename News _ _ _ _ => N₂
  refine' iter_range (n := z.length) (σ := Tok × Tok) (fun i a => [(Str.ofString "whole", some (.int (4294967295 ^^^ packW (z.cps.toList.take i) : Nat) a.1)), (Str.ofString "size", some (.int (8 * (z.length : Int)) a.2)), (Str.ofString "line", some (.str z t))]) (fun _ _ => []) (fun _ _ => True) (?a01, ?a02) (by rfl) (by assumption) (small_up (by (with_reducible exact nnD (by assumption) (by decide)))) (range_up _) F₂ (lmap_agree [Str.ofString "whole", Str.ofString "size", Str.ofString "line"] ?h1 ?h2 ?hv) N₂ trivial ?_ ?_
  case hv =>
    refine List.forall_mem_cons.mpr ⟨?_, List.forall_mem_cons.mpr ⟨?_, List.forall_mem_cons.mpr ⟨?_, List.forall_mem_nil _⟩⟩⟩
    · show some (Value.int _ _) = some (Value.int _ _); exact some_int (rest_start z)
    · rfl
    · rfl
  case h1 => rfl
  case h2 => rfl
  · intro i t a h tk own hi hs ho F₁ N₁
    refine turn_abs fun R hR => ?_
    clear F₂ N₂
    obtain ⟨c, hzc⟩ : ∃ c, z.cps[i]? = some c := ⟨z.cps[i], Array.getElem?_eq_getElem hi⟩
    have hit : (Txt.item z (0 + (i : Int) * 1)).cps.getD 0 0 = c := by
      rw [item_meets (n := c) (by lia) (by rw [show (0 + (i : Int) * 1).toNat = i by (with_reducible exact nnJ _)]; exact hzc)]; rfl
    have hc1 : c < 256 := hc c (List.mem_of_getElem? (by rw [Array.getElem?_toList]; exact hzc))
    have hsh : (((Txt.item z (0 + (i : Int) * 1)).cps.getD 0 0 : Nat) : Int).natAbs < 2 ^ 64 := by rw [hit]; lia
    (repeat' ((first | (with_reducible refine lshift_int_small (by lia) (by lia) (by first | assumption | decide) ?_) | walk1 | (dsimp only; walk1)); (try dsimp only)))
    refine hR _ _ ?_
    refine' turn_next (?a1, ?a2) ?F ?N (fun q hq => hq) (fun q hq => by cases hq) (lmap_agree [Str.ofString "whole", Str.ofString "size", Str.ofString "line"] ?h1 ?h2 ?hv) trivial
    case F => assumption
    case N => assumption
    case hv =>
      refine List.forall_mem_cons.mpr ⟨?_, List.forall_mem_cons.mpr ⟨?_, List.forall_mem_cons.mpr ⟨?_, List.forall_mem_nil _⟩⟩⟩
      · show some (Value.int _ _) = some (Value.int _ _); rw [hit]; exact some_int (rest_turn1 hzc)
      · rfl
      · rfl
    case h1 => rfl
    case h2 => rfl
  · intro a u h tk _ F₁ N₁
    clear F₂ N₂
    (repeat ((fail_if_success (with_reducible show wpAny _ _ (exec (Stmt.For _ _ _ _ _) _) _ _ _)); walk1; (try dsimp only)))
    refine wpAny_For ?_ (by intro _; rfl)
    (repeat ((fail_if_success (with_reducible show wpAny _ _ (pyIter _) _ _ _)); walk1; (try dsimp only)))
    rename Fr _ _ _ _ => F₂
    rename News _ _ _ _ => N₂
    have e8 : (8 * (z.length : Int)) = ((8 * z.length : Nat) : Int) := by lia
    have et : z.cps.toList.take z.length = z.cps.toList := by rw [show z.length = z.cps.toList.length by rw [Array.length_toList]; rfl, List.take_length]
    rw [et] at F₂
    refine' iter_range (n := 8 * z.length) (σ := Tok × Option Value) (fun i b => [(Str.ofString "whole", some (.int (restN i (4294967295 ^^^ packW z.cps.toList) : Nat) b.1)), (Str.ofString "k", b.2), (Str.ofString "size", some (.int (8 * (z.length : Int)) a.2)), (Str.ofString "line", some (.str z t))]) (fun _ _ => []) (fun _ _ => True) (?e01, ?e02) (by rfl) (by assumption) ?sm ?sz F₂ (lmap_agree [Str.ofString "whole", Str.ofString "k", Str.ofString "size", Str.ofString "line"] ?h1 ?h2 ?hv) N₂ trivial ?_ ?_
    case sm => rw [e8]; exact small_up (by lia)
    case sz => rw [e8]; exact range_up _
    case hv =>
      refine List.forall_mem_cons.mpr ⟨?_, List.forall_mem_cons.mpr ⟨?_, List.forall_mem_cons.mpr ⟨?_, List.forall_mem_cons.mpr ⟨?_, List.forall_mem_nil _⟩⟩⟩⟩
      · rfl
      · rfl
      · rfl
      · rfl
    case h1 => rfl
    case h2 => rfl
    · intro i t b h tk own hi hs ho F₁ N₁
      refine turn_abs fun R hR => ?_
      clear F₂ N₂
      (repeat' ((first | (with_reducible refine lshift_int_small (by lia) (by lia) (by first | assumption | decide) ?_) | walk1 | (dsimp only; walk1)); (try dsimp only)))
      · refine hR _ _ ?_
        refine' turn_next (?b1, ?b2) ?F ?N (fun q hq => hq) (fun q hq => by cases hq) (lmap_agree [Str.ofString "whole", Str.ofString "k", Str.ofString "size", Str.ofString "line"] ?h1 ?h2 ?hv) trivial
        case F => assumption
        case N => assumption
        case hv =>
          refine List.forall_mem_cons.mpr ⟨?_, List.forall_mem_cons.mpr ⟨?_, List.forall_mem_cons.mpr ⟨?_, List.forall_mem_cons.mpr ⟨?_, List.forall_mem_nil _⟩⟩⟩⟩
          · show some (Value.int _ _) = some (Value.int _ _); exact some_int (rest_odd (by assumption))
          · rfl
          · rfl
          · rfl
        case h1 => rfl
        case h2 => rfl
      · refine hR _ _ ?_
        refine' turn_next (?c1, ?c2) ?F ?N (fun q hq => hq) (fun q hq => by cases hq) (lmap_agree [Str.ofString "whole", Str.ofString "k", Str.ofString "size", Str.ofString "line"] ?h1 ?h2 ?hv) trivial
        case F => assumption
        case N => assumption
        case hv =>
          refine List.forall_mem_cons.mpr ⟨?_, List.forall_mem_cons.mpr ⟨?_, List.forall_mem_cons.mpr ⟨?_, List.forall_mem_cons.mpr ⟨?_, List.forall_mem_nil _⟩⟩⟩⟩
          · show some (Value.int _ _) = some (Value.int _ _); exact some_int (rest_even (by assumption))
          · rfl
          · rfl
          · rfl
        case h1 => rfl
        case h2 => rfl
    · intro b u h tk _ F₁ N₁
      clear F₂ N₂
      (repeat' ((first | (with_reducible refine lshift_int_small (by lia) (by lia) (by first | assumption | decide) ?_) | walk1 | (dsimp only; walk1)); (try dsimp only)))
      rw [rest_end]
      exact hQ _ _ _ F₁.keep
end
section
open PySem PySem.W PyProof.Rows PySem.Calls
set_option Elab.async false
set_option maxRecDepth 100000
theorem ints_get : ∀ {vs : List Value} {xs : List Int}, IntsAre vs xs → ∀ {j : Nat} {v : Value}, vs[j]? = some v → ∃ x t, xs[j]? = some x ∧ v = .int x t
  | _, _, .nil, _, _, h => by simp at h
  | _, _, .cons x t r, 0, v, h => by cases h; exact ⟨x, t, rfl, rfl⟩
  | _, _, .cons _ _ r, j + 1, v, h => ints_get r h
section
variable {prog : Program} {w : World} {A : Around} {s : Shared} {env : Env} {h₀ : Heap}
end
section
variable {prog : Program} {w : World} {A : Around} {E : Value → Shared → Prop} {s : Shared}
theorem item_strsTT {value slice : Expr} {a : Addr} {l : List Value} {ys : List Str} {k : Int} {u : Tok} {Q : Value → Shared → Prop} (hl : IsTup s.heap a l.toArray) (hi : StrsAre l ys)
    (h0 : 0 ≤ k) (hk : k < ys.length) (hfit : k < 2 ^ 63) (h : ∀ t', Q (.str (ys.getD k.toNat Str.empty) t') s)
    (hs : subscripted slice false (.ref a) (.int k u) = operate [.ref a, .int k u] (getItem (.ref a) (.int k u)) := by with_unfolding_all rfl) :
    wpAny (model prog w) A (subscriptTail value slice (.ref a) (.int k u)) Q E s := by
  have hlt : k.toNat < ys.length := by lia
  have e : ys[k.toNat]? = some (ys.getD k.toNat Str.empty) := by simp [List.getD, hlt]
  obtain ⟨t, ht⟩ := hi.at e
  have hj : seqIndex? k l.length = some k.toNat := by
    rw [hi.len_eq]
    exact StrLaws.seqIndex_nonneg h0 hk
  exact item_tupleT hl (by lia) hfit hj ht (h t) hs
end
theorem mul_sign (c m : Nat) : Txt.mul ⟨#[c]⟩ (m : Int) = tx (List.replicate m c) := by
  unfold Txt.mul
  by_cases h : m = 0
  · subst h; rfl
  · rw [if_neg (by lia)]
    by_cases h1 : m = 1
    · subst h1; rfl
    · rw [if_neg (by
        intro q
        rw [Bool.or_eq_true, beq_iff_eq, beq_iff_eq] at q
        rcases q with q | q
        · lia
        · exact absurd (show 1 = 0 from q) (by decide))]
      show (⟨_⟩ : Str) = ⟨_⟩
      congr 1
      have key : ∀ (m : Nat) (a : Array Nat), (List.replicate m #[c]).foldl (· ++ ·) a = a ++ (List.replicate m c).toArray := by
        intro m
        induction m with
        | zero => intro a; simp
        | succ m ih => intro a; rw [List.replicate_succ, List.foldl_cons, ih, List.replicate_succ]; apply Array.ext'; simp
      rw [show ((m : Nat) : Int).toNat = m by lia]
      rw [key]
      simp
theorem mul_ok (c m : Nat) (hm : m ≤ 2) : MulOk ⟨#[c]⟩ (m : Int) := by
  have hl : (⟨#[c]⟩ : Str).length = 1 := rfl
  refine ⟨?_, fun h1 _ => ?_, fun h1 _ => ?_⟩
  · rw [Bool.or_eq_false_iff, decide_eq_false_iff_not, decide_eq_false_iff_not]; lia
  · rw [hl]
    have : m = 1 ∨ m = 2 := by lia
    rcases this with rfl | rfl <;> decide
  · rw [hl]
    unfold Builtin.Str.tooLong
    rw [sizeLine_eq, decide_eq_false_iff_not]; lia
end
section
open PySem PySem.W PyProof.Rows PySem.Calls PySem.Spec
set_option Elab.async false
set_option maxRecDepth 100000
set_option linter.unusedVariables false
noncomputable def TurnS {σ : Type} (h₀ : Heap) (L : Addr) (x1 x2 : Str) (I : Addr) (oI : Obj) (mk : σ → List (Str × Option Value)) (nw : σ → List (Addr × Obj)) (side : σ → Heap → Prop) (s : Shared) (Q : Flow → Shared → Prop) (f : Flow) (s₃ : Shared) : Prop :=
  match f with
  | .brk => Q .next s₃
  | .ret v => Q (.ret v) s₃
  | _ => ∃ m' a', Sm s s₃ ∧ Fr h₀ L s₃.heap m' ∧ News h₀ L s₃.heap ((I, oI) :: nw a') ∧ (∀ q ∈ nw a', q.1 ≠ I) ∧ (∀ y, y ≠ x1 → y ≠ x2 → m' y = lmap (mk a') y) ∧ side a' s₃.heap
section
variable {prog : Program} {w : World} {A : Around} {s : Shared} {env : Env} {h₀ : Heap}
theorem iter_one {σ : Type} {Q : Flow → Shared → Prop} {x : Str} {px : Pos} {body : List Stmt} {l : Addr} {items : Array Value} {ep : Nat} {m₀ : Str → Option Value}
    (mk : Nat → σ → List (Str × Option Value)) (nw : Nat → σ → List (Addr × Obj)) (side : Nat → σ → Heap → Prop) (a₀ : σ) (hst : ∀ i a h h', side i a h → (∀ q ∈ nw i a, h'.get? q.1 = some q.2) → KT h h' → side i a h')
    (hh : A.handled = none) (hl : h₀.get? l = some (liO items ep))
    (F : Fr h₀ env.locals s.heap m₀) (hm : ∀ y, y ≠ x → m₀ y = lmap (mk 0 a₀) y) (N : News h₀ env.locals s.heap (nw 0 a₀)) (h0 : side 0 a₀ s.heap)
    (turn : ∀ i v a (s₁ : Shared) I oI, items[i]? = some v → side i a s₁.heap → Sm s s₁ → (∀ q ∈ nw i a, q.1 ≠ I) → oI.cls = .type "list_iterator" → Fr h₀ env.locals s₁.heap (lmap ((x, some v) :: mk i a)) → News h₀ env.locals s₁.heap ((I, oI) :: nw i a) →
      wpAny (model prog w) A (execs body env) (TurnS h₀ env.locals x x I oI (mk (i + 1)) (nw (i + 1)) (side (i + 1)) s Q) NoE s₁)
    (done : ∀ a u1 (s₁ : Shared), side items.size a s₁.heap → Sm s s₁ → Fr h₀ env.locals s₁.heap (lmap ((x, u1) :: mk items.size a)) → News h₀ env.locals s₁.heap (nw items.size a) → Q .next s₁)
    (hx : env.kindOf x = some .local := by rfl)
    (hpp : (env.scope.kind == .class || (env.scope.kind == .module && env.locals != env.globals)) = false := by rfl) :
    wpAny (model prog w) A (pyIter (.ref l)) (fun it s₂ => codeAny (model prog w) A (.forLoop (.Name x px) it body [] env) (fun r s' => match r with | .ok f => Q f s' | .error e => cameBackBy (model prog w) A env NoE e s') s₂) NoE s := by
  refine wpAny_pyIter_list ⟨_, F.keep _ _ hl, rfl, _, rfl⟩ ?_
  have hI0 : h₀.get? s.heap.objs.size = none := fr_new F
  have hIL : s.heap.objs.size ≠ env.locals := Nat.ne_of_gt F.ns.lt
  have F1 := F.push { cls := .type "list_iterator", data := .fields #[.ref l, .int 0 0] }
  have N1 := news_push N { cls := .type "list_iterator", data := .fields #[.ref l, .int 0 0] }
  have hne1 : ∀ q ∈ nw 0 a₀, q.1 ≠ s.heap.objs.size := fun q hq => Nat.ne_of_lt (Heap.lt_size (N q hq).1)
  have s1 := hst 0 a₀ _ _ h0 (fun q hq => (N1 q hq).1) (Kp.kt fun b o e => Heap.get?_push_of_some _ e)
  have i1 : (s.heap.push { cls := .type "list_iterator", data := .fields #[.ref l, .int 0 0] }).IsListIter s.heap.objs.size l 0 := ⟨_, Heap.get?_push_size _ rfl, rfl, rfl⟩
  generalize s.heap.objs.size = I at *
  generalize s.heap.push { cls := .type "list_iterator", data := .fields #[.ref l, .int 0 0] } = g1 at *
  obtain ⟨P, hI, hE⟩ : ∃ P : Nat → Shared → Prop, (∀ (s' : Shared) m' a i, Sm s s' → s'.heap.IsListIter I l i → Fr h₀ env.locals s'.heap m' → News h₀ env.locals s'.heap (nw i a) → (∀ q ∈ nw i a, q.1 ≠ I) → (∀ y, y ≠ x → m' y = lmap (mk i a) y) → side i a s'.heap → i ≤ items.size → P (items.size + 1 - i) s') ∧ ∀ kk s' (G : Prop), P kk s' → (∀ m' a i, Sm s s' → s'.heap.IsListIter I l i → Fr h₀ env.locals s'.heap m' → News h₀ env.locals s'.heap (nw i a) → (∀ q ∈ nw i a, q.1 ≠ I) → (∀ y, y ≠ x → m' y = lmap (mk i a) y) → side i a s'.heap → i ≤ items.size → kk = items.size + 1 - i → G) → G :=
    ⟨fun kk s' => ∀ G : Prop, _ → G, fun s' m' a i y0 y1 y2 y3 y4 y5 y6 y7 G f => f m' a i y0 y1 y2 y3 y4 y5 y6 y7 rfl, fun _ _ _ x f => x _ f⟩
  refine loop_abs fun R hR => ?_
  refine codeAny_forLoop_any P ?_ (items.size + 1) (hI _ m₀ a₀ 0 ⟨rfl, rfl, fun x => x⟩ i1 F1 N1 hne1 hm s1 (Nat.zero_le _))
  intro kk s' hk'
  refine hE kk s' _ hk' ?_
  clear hE hk'
  rintro m' a i sm hit F' N' hne hm' hs' hi rfl
  have hseq : IsSeq s'.heap l items := ⟨_, F'.keep _ _ hl, _, rfl⟩
  have fr1 : ∀ h1 : Heap, (∀ b o, b ≠ I → s'.heap.get? b = some o → h1.get? b = some o) → Fr h₀ env.locals h1 m' ∧ News h₀ env.locals h1 (nw i a) := fun h1 k1 =>
    ⟨⟨F'.ns.at' fun o e => k1 _ o (Ne.symm hIL) e, fun b o e => k1 b o (fun z => by rw [z, hI0] at e; cases e) (F'.keep b o e), F'.above⟩, fun q hq => ⟨k1 _ _ (hne q hq) (N' q hq).1, (N' q hq).2⟩⟩
  by_cases hlt : i < items.size
  · obtain ⟨v, e1⟩ : ∃ v, items[i]? = some v := ⟨_, Array.getElem?_eq_getElem hlt⟩
    refine next_item hit hseq e1 fun h1 hit1 sb1 => ?_
    obtain ⟨oI, eI, cI, dI⟩ := id hit
    have kt1 : KT s'.heap h1 := KT.but sb1.extBut eI (by rw [cI]; simp)
    obtain ⟨F1', N1'⟩ := fr1 h1 sb1.extBut
    dsimp only
    refine wpAny_of_eq (a := ()) rfl ?_
    refine wpAny_assign_Name (wpAny_storeName_local hx F1'.ns (fun h2 hn2 sb2 => ?_) hpp)
    have k2 := sb2.extBut
    have F2 : Fr h₀ env.locals h2 (lmap ((x, some v) :: mk i a)) := by
      have F2' := F1'.set hn2 sb2
      have e : (fun y => if y = x then some v else m' y) = lmap ((x, some v) :: mk i a) := by
        funext y
        show _ = if y = x then some v else lmap (mk i a) y
        by_cases hy : y = x
        · simp [hy]
        · simp only [if_neg hy]; exact hm' y hy
      rw [e] at F2'; exact F2'
    have hit2 : h2.IsListIter I l (i + 1) := iter_keep hit1 fun o e => k2 _ o hIL e
    obtain ⟨o2, eo2, co2, do2⟩ := id hit2
    have N2 : News h₀ env.locals h2 ((I, o2) :: nw i a) := fun q hq => by
      rcases List.mem_cons.mp hq with rfl | hq
      · exact ⟨eo2, hIL, hI0⟩
      · exact ⟨k2 _ _ (N1' q hq).2.1 (N1' q hq).1, (N1' q hq).2⟩
    have hs2 := hst i a _ _ hs' (fun q hq => (N2 q (.tail _ hq)).1) (kt1.trans (KT.ns k2 F1'.ns))
    refine wpAny_mono (turn i v a _ I o2 e1 hs2 ⟨sm.1, sm.2.1, sm.2.2⟩ hne co2 F2 N2) (fun f s₃ h₃ => ?_) fun _ _ x => x.elim
    have fin : TurnS h₀ env.locals x x I o2 (mk (i + 1)) (nw (i + 1)) (side (i + 1)) s Q .next s₃ → ∃ kk, kk < items.size + 1 - i ∧ P kk s₃ := by
      rintro ⟨m2, a', sm3, F3, N3, hne3, hm3, hs3⟩
      exact ⟨items.size + 1 - (i + 1), by (with_reducible exact nnF (by assumption)), hI _ m2 a' (i + 1) sm3 ⟨o2, (N3 _ (.head _)).1, co2, do2⟩ F3 (fun q hq => N3 q (List.mem_cons_of_mem _ hq)) hne3 (fun y hy => hm3 y hy hy) hs3 hlt⟩
    cases f with
    | brk => exact hR _ _ h₃
    | ret v => exact hR _ _ h₃
    | next => exact fin h₃
    | cont => exact fin h₃
  · have hin : i = items.size := by (with_reducible exact nnG (by assumption) (by assumption))
    subst hin
    refine next_end hh hit hseq (Array.getElem?_eq_none (Nat.le_refl _)) fun h1 hk1 => ?_
    obtain ⟨F1', N1'⟩ := fr1 h1 hk1
    have e : lmap ((x, m' x) :: mk items.size a) = m' := by
      funext y
      show (if y = x then m' x else lmap (mk items.size a) y) = _
      by_cases hy : y = x
      · simp [hy]
      · simp only [if_neg hy]; exact (hm' y hy).symm
    refine wpAny_of_eq (a := Flow.next) rfl ?_
    obtain ⟨oI, eI, cI, dI⟩ := id hit
    have hs2 := hst _ a _ _ hs' (fun q hq => (N1' q hq).1) (KT.but hk1 eI (by rw [cI]; simp))
    exact hR _ _ (done a (m' x) _ hs2 ⟨sm.1, sm.2.1, sm.2.2⟩ (by rw [e]; exact F1') N1')
end
end
section
open PySem PySem.W PyProof.Rows PySem.Calls PySem.Spec
set_option Elab.async false
set_option maxRecDepth 100000
set_option linter.unusedVariables false
noncomputable def TurnC {σ : Type} (h₀ : Heap) (L c : Addr) (oc : Obj) (I : Addr) (oI : Obj) (mk : σ → List (Str × Option Value)) (nw : σ → List (Addr × Obj)) (side : σ → Prop) (s : Shared) (Q : Flow → Shared → Prop) (f : Flow) (s₃ : Shared) : Prop :=
  match f with
  | .brk => Q .next s₃
  | .ret v => Q (.ret v) s₃
  | _ => ∃ m' a', Sm s s₃ ∧ Fr h₀ L s₃.heap m' ∧ News h₀ L s₃.heap ((c, oc) :: (I, oI) :: nw a') ∧ (∀ q ∈ nw a', q.1 ≠ I) ∧ (∀ y, m' y = lmap (mk a') y) ∧ side a'
section
variable {prog : Program} {w : World} {A : Around} {s : Shared} {env : Env} {h₀ : Heap}
theorem iter_partsN {σ : Type} {Q : Flow → Shared → Prop} {x1 x2 : Str} {px1 px2 tp : Pos} {tkk : Nat} {body : List Stmt} {l : Addr} {items : Array Value} {ep : Nat} {ps : List (Str × Str)} {m₀ : Str → Option Value}
    (mk : Nat → σ → List (Str × Option Value)) (nw : Nat → σ → List (Addr × Obj)) (side : Nat → σ → Heap → Prop) (a₀ : σ) (hst : ∀ i a h h', side i a h → (∀ q ∈ nw i a, h'.get? q.1 = some q.2) → KT h h' → side i a h')
    (hh : A.handled = none) (hl : ∀ i a, (l, liO items ep) ∈ nw i a) (hp : PartsAt h₀ items ps)
    (F : Fr h₀ env.locals s.heap m₀) (hm : ∀ y, y ≠ x1 → y ≠ x2 → m₀ y = lmap (mk 0 a₀) y) (N : News h₀ env.locals s.heap (nw 0 a₀)) (h0 : side 0 a₀ s.heap)
    (turn : ∀ i p t u a (s₁ : Shared) I oI, ps[i]? = some p → side i a s₁.heap → Sm s s₁ → (∀ q ∈ nw i a, q.1 ≠ I) → oI.cls = .type "list_iterator" → Fr h₀ env.locals s₁.heap (lmap ((x2, some (.str p.2 u)) :: (x1, some (.str p.1 t)) :: mk i a)) → News h₀ env.locals s₁.heap ((I, oI) :: nw i a) →
      wpAny (model prog w) A (execs body env) (TurnS h₀ env.locals x1 x2 I oI (mk (i + 1)) (nw (i + 1)) (side (i + 1)) s Q) NoE s₁)
    (done : ∀ a u1 u2 (s₁ : Shared), side ps.length a s₁.heap → Sm s s₁ → Fr h₀ env.locals s₁.heap (lmap ((x2, u2) :: (x1, u1) :: mk ps.length a)) → News h₀ env.locals s₁.heap (nw ps.length a) → Q .next s₁)
    (hx1 : env.kindOf x1 = some .local := by rfl) (hx2 : env.kindOf x2 = some .local := by rfl) (hxx : x1 ≠ x2 := by decide)
    (hpp : (env.scope.kind == .class || (env.scope.kind == .module && env.locals != env.globals)) = false := by rfl) :
    wpAny (model prog w) A (pyIter (.ref l)) (fun it s₂ => codeAny (model prog w) A (.forLoop (.Tuple [.Name x1 px1, .Name x2 px2] tkk tp) it body [] env) (fun r s' => match r with | .ok f => Q f s' | .error e => cameBackBy (model prog w) A env NoE e s') s₂) NoE s := by
  have hz := hp.1
  refine wpAny_pyIter_list ⟨_, (N _ (hl 0 a₀)).1, rfl, _, rfl⟩ ?_
  have hI0 : h₀.get? s.heap.objs.size = none := fr_new F
  have hIL : s.heap.objs.size ≠ env.locals := Nat.ne_of_gt F.ns.lt
  have F1 := F.push { cls := .type "list_iterator", data := .fields #[.ref l, .int 0 0] }
  have N1 := news_push N { cls := .type "list_iterator", data := .fields #[.ref l, .int 0 0] }
  have hne1 : ∀ q ∈ nw 0 a₀, q.1 ≠ s.heap.objs.size := fun q hq => Nat.ne_of_lt (Heap.lt_size (N q hq).1)
  have s1 := hst 0 a₀ _ _ h0 (fun q hq => (N1 q hq).1) (Kp.kt fun b o e => Heap.get?_push_of_some _ e)
  have i1 : (s.heap.push { cls := .type "list_iterator", data := .fields #[.ref l, .int 0 0] }).IsListIter s.heap.objs.size l 0 := ⟨_, Heap.get?_push_size _ rfl, rfl, rfl⟩
  generalize s.heap.objs.size = I at *
  generalize s.heap.push { cls := .type "list_iterator", data := .fields #[.ref l, .int 0 0] } = g1 at *
  obtain ⟨P, hI, hE⟩ : ∃ P : Nat → Shared → Prop, (∀ (s' : Shared) m' a i, Sm s s' → s'.heap.IsListIter I l i → Fr h₀ env.locals s'.heap m' → News h₀ env.locals s'.heap (nw i a) → (∀ q ∈ nw i a, q.1 ≠ I) → (∀ y, y ≠ x1 → y ≠ x2 → m' y = lmap (mk i a) y) → side i a s'.heap → i ≤ ps.length → P (ps.length + 1 - i) s') ∧ ∀ kk s' (G : Prop), P kk s' → (∀ m' a i, Sm s s' → s'.heap.IsListIter I l i → Fr h₀ env.locals s'.heap m' → News h₀ env.locals s'.heap (nw i a) → (∀ q ∈ nw i a, q.1 ≠ I) → (∀ y, y ≠ x1 → y ≠ x2 → m' y = lmap (mk i a) y) → side i a s'.heap → i ≤ ps.length → kk = ps.length + 1 - i → G) → G :=
    ⟨fun kk s' => ∀ G : Prop, _ → G, fun s' m' a i y0 y1 y2 y3 y4 y5 y6 y7 G f => f m' a i y0 y1 y2 y3 y4 y5 y6 y7 rfl, fun _ _ _ x f => x _ f⟩
  refine loop_abs fun R hR => ?_
  refine codeAny_forLoop_any P ?_ (ps.length + 1) (hI _ m₀ a₀ 0 ⟨rfl, rfl, fun x => x⟩ i1 F1 N1 hne1 hm s1 (Nat.zero_le _))
  intro kk s' hk'
  refine hE kk s' _ hk' ?_
  clear hE hk'
  rintro m' a i sm hit F' N' hne hm' hs' hi rfl
  have hseq : IsSeq s'.heap l items := ⟨_, (N' _ (hl i a)).1, _, rfl⟩
  have hpa : PartsAt s'.heap items ps := hp.keep fun b v r => tup_keep r fun o e => F'.keep _ _ e
  have fr1 : ∀ h1 : Heap, (∀ b o, b ≠ I → s'.heap.get? b = some o → h1.get? b = some o) → Fr h₀ env.locals h1 m' ∧ News h₀ env.locals h1 (nw i a) := fun h1 k1 =>
    ⟨⟨F'.ns.at' fun o e => k1 _ o (Ne.symm hIL) e, fun b o e => k1 b o (fun z => by rw [z, hI0] at e; cases e) (F'.keep b o e), F'.above⟩, fun q hq => ⟨k1 _ _ (hne q hq) (N' q hq).1, (N' q hq).2⟩⟩
  by_cases hlt : i < ps.length
  · obtain ⟨p, hpi⟩ : ∃ p, ps[i]? = some p := ⟨_, List.getElem?_eq_getElem hlt⟩
    obtain ⟨e1, t, u, htup⟩ := hpa.2 i p hpi
    refine next_item hit hseq e1 fun h1 hit1 sb1 => ?_
    obtain ⟨oI, eI, cI, dI⟩ := id hit
    have kt1 : KT s'.heap h1 := KT.but sb1.extBut eI (by rw [cI]; simp)
    obtain ⟨F1', N1'⟩ := fr1 h1 sb1.extBut
    dsimp only
    refine wpAny_letOwnedTupleGo_listiter hit1 ?_
    refine kcp_assign hh (kt1.tup htup) hx1 hx2 hpp F1'.ns fun h2 tk2 hn2 k2 => ?_
    have F2 : Fr h₀ env.locals h2 (lmap ((x2, some (.str p.2 u)) :: (x1, some (.str p.1 t)) :: mk i a)) := ⟨by
        have e : lmap ((x2, some (.str p.2 u)) :: (x1, some (.str p.1 t)) :: mk i a) = fun z => if z = x2 then some (.str p.2 u) else if z = x1 then some (.str p.1 t) else m' z := by
          funext z
          show (if z = x2 then _ else if z = x1 then _ else lmap (mk i a) z) = _
          by_cases q2 : z = x2
          · simp [q2]
          · by_cases q1 : z = x1
            · subst q1; simp [hxx]
            · simp only [if_neg q2, if_neg q1]; exact (hm' z q1 q2).symm
        rw [e]; exact hn2, fun b o e => k2 b o (fun z => by
          have := Heap.lt_size e
          rw [z] at this
          exact absurd (Nat.lt_of_lt_of_le this F.above) (Nat.lt_irrefl _)) (F1'.keep b o e), F.above⟩
    have hit2 : h2.IsListIter I l (i + 1) := iter_keep hit1 fun o e => k2 _ o hIL e
    obtain ⟨o2, eo2, co2, do2⟩ := id hit2
    have N2 : News h₀ env.locals h2 ((I, o2) :: nw i a) := fun q hq => by
      rcases List.mem_cons.mp hq with rfl | hq
      · exact ⟨eo2, hIL, hI0⟩
      · exact ⟨k2 _ _ (N1' q hq).2.1 (N1' q hq).1, (N1' q hq).2⟩
    have hs2 := hst i a _ _ hs' (fun q hq => (N2 q (.tail _ hq)).1) (kt1.trans (KT.ns k2 F1'.ns))
    refine wpAny_mono (turn i p t u a _ I o2 hpi hs2 ⟨sm.1, sm.2.1, sm.2.2⟩ hne co2 F2 N2) (fun f s₃ h₃ => ?_) fun _ _ x => x.elim
    have fin : TurnS h₀ env.locals x1 x2 I o2 (mk (i + 1)) (nw (i + 1)) (side (i + 1)) s Q .next s₃ → ∃ kk, kk < ps.length + 1 - i ∧ P kk s₃ := by
      rintro ⟨m2, a', sm3, F3, N3, hne3, hm3, hs3⟩
      exact ⟨ps.length + 1 - (i + 1), by (with_reducible exact nnF (by assumption)), hI _ m2 a' (i + 1) sm3 ⟨o2, (N3 _ (.head _)).1, co2, do2⟩ F3 (fun q hq => N3 q (List.mem_cons_of_mem _ hq)) hne3 hm3 hs3 hlt⟩
    cases f with
    | brk => exact hR _ _ h₃
    | ret v => exact hR _ _ h₃
    | next => exact fin h₃
    | cont => exact fin h₃
  · have hin : i = ps.length := by (with_reducible exact nnG (by assumption) (by assumption))
    subst hin
    refine next_end hh hit hseq (Array.getElem?_eq_none (by (with_reducible exact nnT (by assumption) (by assumption)))) fun h1 hk1 => ?_
    obtain ⟨F1', N1'⟩ := fr1 h1 hk1
    have e : lmap ((x2, m' x2) :: (x1, m' x1) :: mk ps.length a) = m' := by
      funext z
      show (if z = x2 then m' x2 else if z = x1 then m' x1 else lmap (mk ps.length a) z) = _
      by_cases q2 : z = x2
      · simp [q2]
      · by_cases q1 : z = x1
        · subst q1; simp [hxx]
        · simp only [if_neg q2, if_neg q1]; exact (hm' z q1 q2).symm
    refine wpAny_of_eq (a := Flow.next) rfl ?_
    obtain ⟨oI, eI, cI, dI⟩ := id hit
    have hs2 := hst _ a _ _ hs' (fun q hq => (N1' q hq).1) (KT.but hk1 eI (by rw [cI]; simp))
    exact hR _ _ (done a (m' x1) (m' x2) _ hs2 ⟨sm.1, sm.2.1, sm.2.2⟩ (by rw [e]; exact F1') N1')
theorem iter_cell {σ : Type} {Q : Flow → Shared → Prop} {x : Str} {c : Addr} {ov : Option Value} {px : Pos} {body : List Stmt} {l : Addr} {items : Array Value} {ep : Nat} {m₀ : Str → Option Value}
    (mk : Nat → σ → List (Str × Option Value)) (nw : Nat → σ → List (Addr × Obj)) (side : Nat → σ → Prop) (a₀ : σ)
    (hh : A.handled = none) (hl : h₀.get? l = some (liO items ep))
    (F : Fr h₀ env.locals s.heap m₀) (hm : ∀ y, m₀ y = lmap (mk 0 a₀) y) (N : News h₀ env.locals s.heap (nw 0 a₀)) (h0 : side 0 a₀) (hc0 : s.heap.IsCell c ov) (hcL : c ≠ env.locals) (hcb : h₀.get? c = none) (hcn : ∀ i a, side i a → ∀ q ∈ nw i a, q.1 ≠ c)
    (turn : ∀ i v a (s₁ : Shared) I oI oc, items[i]? = some v → side i a → Sm s s₁ → (∀ q ∈ nw i a, q.1 ≠ I) → oI.cls = .type "list_iterator" → oc.data = .cell (some v) → Fr h₀ env.locals s₁.heap (lmap (mk i a)) → News h₀ env.locals s₁.heap ((c, oc) :: (I, oI) :: nw i a) →
      wpAny (model prog w) A (execs body env) (TurnC h₀ env.locals c oc I oI (mk (i + 1)) (nw (i + 1)) (side (i + 1)) s Q) NoE s₁)
    (done : ∀ a (s₁ : Shared), side items.size a → Sm s s₁ → Fr h₀ env.locals s₁.heap (lmap (mk items.size a)) → News h₀ env.locals s₁.heap (nw items.size a) → Q .next s₁)
    (hx : env.kindOf x = some .cell) (hxc : env.cells.lookup x = some c) (hks : env.scope.kind = .function)
    :
    wpAny (model prog w) A (pyIter (.ref l)) (fun it s₂ => codeAny (model prog w) A (.forLoop (.Name x px) it body [] env) (fun r s' => match r with | .ok f => Q f s' | .error e => cameBackBy (model prog w) A env NoE e s') s₂) NoE s := by
  refine wpAny_pyIter_list ⟨_, F.keep _ _ hl, rfl, _, rfl⟩ ?_
  have hI0 : h₀.get? s.heap.objs.size = none := fr_new F
  have hIL : s.heap.objs.size ≠ env.locals := Nat.ne_of_gt F.ns.lt
  have F1 := F.push { cls := .type "list_iterator", data := .fields #[.ref l, .int 0 0] }
  have N1 := news_push N { cls := .type "list_iterator", data := .fields #[.ref l, .int 0 0] }
  have hne1 : ∀ q ∈ nw 0 a₀, q.1 ≠ s.heap.objs.size := fun q hq => Nat.ne_of_lt (Heap.lt_size (N q hq).1)
  have hcI : c ≠ s.heap.objs.size := let ⟨_, e, _⟩ := hc0; Nat.ne_of_lt (Heap.lt_size e)
  have c1 : (s.heap.push { cls := .type "list_iterator", data := .fields #[.ref l, .int 0 0] }).IsCell c ov := hc0.keeps fun b o e => Heap.get?_push_of_some _ e
  have i1 : (s.heap.push { cls := .type "list_iterator", data := .fields #[.ref l, .int 0 0] }).IsListIter s.heap.objs.size l 0 := ⟨_, Heap.get?_push_size _ rfl, rfl, rfl⟩
  generalize s.heap.objs.size = I at *
  generalize s.heap.push { cls := .type "list_iterator", data := .fields #[.ref l, .int 0 0] } = g1 at *
  obtain ⟨P, hI, hE⟩ : ∃ P : Nat → Shared → Prop, (∀ (s' : Shared) m' a i, Sm s s' → s'.heap.IsListIter I l i → Fr h₀ env.locals s'.heap m' → News h₀ env.locals s'.heap (nw i a) → (∀ q ∈ nw i a, q.1 ≠ I) → (∀ y, m' y = lmap (mk i a) y) → side i a → (∃ ov, s'.heap.IsCell c ov) → i ≤ items.size → P (items.size + 1 - i) s') ∧ ∀ kk s' (G : Prop), P kk s' → (∀ m' a i, Sm s s' → s'.heap.IsListIter I l i → Fr h₀ env.locals s'.heap m' → News h₀ env.locals s'.heap (nw i a) → (∀ q ∈ nw i a, q.1 ≠ I) → (∀ y, m' y = lmap (mk i a) y) → side i a → (∃ ov, s'.heap.IsCell c ov) → i ≤ items.size → kk = items.size + 1 - i → G) → G :=
    ⟨fun kk s' => ∀ G : Prop, _ → G, fun s' m' a i y0 y1 y2 y3 y4 y5 y6 y7 y8 G f => f m' a i y0 y1 y2 y3 y4 y5 y6 y7 y8 rfl, fun _ _ _ x f => x _ f⟩
  refine loop_abs fun R hR => ?_
  refine codeAny_forLoop_any P ?_ (items.size + 1) (hI _ m₀ a₀ 0 ⟨rfl, rfl, fun x => x⟩ i1 F1 N1 hne1 hm h0 ⟨ov, c1⟩ (Nat.zero_le _))
  intro kk s' hk'
  refine hE kk s' _ hk' ?_
  clear hE hk'
  rintro m' a i sm hit F' N' hne hm' hs' ⟨ov', hcv⟩ hi rfl
  have hseq : IsSeq s'.heap l items := ⟨_, F'.keep _ _ hl, _, rfl⟩
  have fr1 : ∀ h1 : Heap, (∀ b o, b ≠ I → s'.heap.get? b = some o → h1.get? b = some o) → Fr h₀ env.locals h1 m' ∧ News h₀ env.locals h1 (nw i a) := fun h1 k1 =>
    ⟨⟨F'.ns.at' fun o e => k1 _ o (Ne.symm hIL) e, fun b o e => k1 b o (fun z => by rw [z, hI0] at e; cases e) (F'.keep b o e), F'.above⟩, fun q hq => ⟨k1 _ _ (hne q hq) (N' q hq).1, (N' q hq).2⟩⟩
  by_cases hlt : i < items.size
  · obtain ⟨v, e1⟩ : ∃ v, items[i]? = some v := ⟨_, Array.getElem?_eq_getElem hlt⟩
    refine next_item hit hseq e1 fun h1 hit1 sb1 => ?_
    obtain ⟨oI, eI, cI, dI⟩ := id hit
    have kt1 : KT s'.heap h1 := KT.but sb1.extBut eI (by rw [cI]; simp)
    obtain ⟨F1', N1'⟩ := fr1 h1 sb1.extBut
    dsimp only
    have hc1 : h1.IsCell c ov' := hcv.sameBut sb1 hcI
    refine wpAny_of_eq (a := ()) rfl ?_
    refine wpAny_assign_Name (wpAny_storeName_cell hks hx hxc hc1 (fun h2 hc2 sb2 => ?_))
    have k2 := sb2.extBut
    have F2 : Fr h₀ env.locals h2 (lmap (mk i a)) := ⟨by
      have e : m' = lmap (mk i a) := funext hm'
      rw [← e]
      exact F1'.ns.at' fun o e => k2 _ o (Ne.symm hcL) e, fun b o e => k2 b o (fun z => by rw [z, hcb] at e; cases e) (F1'.keep b o e), F.above⟩
    have hit2 : h2.IsListIter I l (i + 1) := iter_keep hit1 fun o e => k2 _ o (Ne.symm hcI) e
    obtain ⟨o2, eo2, co2, do2⟩ := id hit2
    obtain ⟨oc, eoc, doc⟩ := id hc2
    have N2 : News h₀ env.locals h2 ((c, oc) :: (I, o2) :: nw i a) := fun q hq => by
      rcases List.mem_cons.mp hq with rfl | hq
      · exact ⟨eoc, hcL, hcb⟩
      · rcases List.mem_cons.mp hq with rfl | hq
        · exact ⟨eo2, hIL, hI0⟩
        · exact ⟨k2 _ _ (hcn i a hs' q hq) (N1' q hq).1, (N1' q hq).2⟩
    refine wpAny_mono (turn i v a _ I o2 oc e1 hs' ⟨sm.1, sm.2.1, sm.2.2⟩ hne co2 doc F2 N2) (fun f s₃ h₃ => ?_) fun _ _ x => x.elim
    have fin : TurnC h₀ env.locals c oc I o2 (mk (i + 1)) (nw (i + 1)) (side (i + 1)) s Q .next s₃ → ∃ kk, kk < items.size + 1 - i ∧ P kk s₃ := by
      rintro ⟨m2, a', sm3, F3, N3, hne3, hm3, hs3⟩
      exact ⟨items.size + 1 - (i + 1), by (with_reducible exact nnF (by assumption)), hI _ m2 a' (i + 1) sm3 ⟨o2, (N3 _ (.tail _ (.head _))).1, co2, do2⟩ F3 (fun q hq => N3 q (.tail _ (.tail _ hq))) hne3 hm3 hs3 ⟨_, oc, (N3 _ (.head _)).1, doc⟩ hlt⟩
    cases f with
    | brk => exact hR _ _ h₃
    | ret v => exact hR _ _ h₃
    | next => exact fin h₃
    | cont => exact fin h₃
  · have hin : i = items.size := by (with_reducible exact nnG (by assumption) (by assumption))
    subst hin
    refine next_end hh hit hseq (Array.getElem?_eq_none (Nat.le_refl _)) fun h1 hk1 => ?_
    obtain ⟨F1', N1'⟩ := fr1 h1 hk1
    refine wpAny_of_eq (a := Flow.next) rfl ?_
    have e : m' = lmap (mk items.size a) := funext hm'
    exact hR _ _ (done a _ hs' ⟨sm.1, sm.2.1, sm.2.2⟩ (by rw [← e]; exact F1') N1')
end
end
section
set_option Elab.async false
set_option maxRecDepth 100000
/-! polynomials over two elements, read as natural numbers -/
noncomputable def Lin (f : Nat → Nat) : Prop := ∀ a b, f (a ^^^ b) = f a ^^^ f b
theorem Lin.zero {f : Nat → Nat} (h : Lin f) : f 0 = 0 := by
  have := h 0 0
  rw [Nat.xor_self, Nat.xor_self] at this
  exact this
theorem Lin.comp {f g : Nat → Nat} (hf : Lin f) (hg : Lin g) : Lin fun x => f (g x) := fun a b => by show f (g (a ^^^ b)) = f (g a) ^^^ f (g b); rw [hg, hf]
theorem Lin.xor {f g : Nat → Nat} (hf : Lin f) (hg : Lin g) : Lin fun x => f x ^^^ g x := fun a b => by
  show f (a ^^^ b) ^^^ g (a ^^^ b) = _
  rw [hf, hg]; simp only [Nat.xor_assoc]; congr 1; rw [← Nat.xor_assoc, Nat.xor_comm (f b), Nat.xor_assoc]
theorem Lin.id : Lin fun x => x := fun _ _ => rfl
theorem lt_of_xor {a b n : Nat} (ha : a < 2 ^ n) (hb : b < 2 ^ n) : a ^^^ b < 2 ^ n := Nat.xor_lt_two_pow ha hb
theorem split_top {x n : Nat} (h : x < 2 ^ (n + 1)) : x = x % 2 ^ n ∨ x = (x % 2 ^ n) ^^^ 2 ^ n := by
  by_cases q : x < 2 ^ n
  · left; exact (Nat.mod_eq_of_lt q).symm
  · right
    have h1 : x % 2 ^ n = x - 2 ^ n := by
      rw [Nat.mod_eq_sub_mod (Nat.le_of_not_lt q)]
      exact Nat.mod_eq_of_lt (by rw [Nat.pow_succ] at h; lia)
    have h2 : x % 2 ^ n < 2 ^ n := Nat.mod_lt _ (Nat.two_pow_pos n)
    apply Nat.eq_of_testBit_eq
    intro i
    rw [Nat.testBit_xor, Nat.testBit_two_pow, Nat.testBit_mod_two_pow]
    by_cases hi : i < n
    · simp [hi, Nat.ne_of_gt hi]
    · by_cases hi' : i = n
      · subst hi'
        simp only [Nat.lt_irrefl, decide_false, Bool.false_and, decide_true, Bool.xor_true, Bool.not_false]
        rw [Nat.testBit_eq_decide_div_mod_eq]
        have : x / 2 ^ i = 1 := by
          apply Nat.div_eq_of_lt_le <;> rw [Nat.pow_succ] at h <;> lia
        rw [this]; rfl
      · have : x.testBit i = false := Nat.testBit_lt_two_pow (Nat.lt_of_lt_of_le h (Nat.pow_le_pow_right (by decide) (by lia)))
        simp [this, hi]; lia
theorem lin_ext {f g : Nat → Nat} (hf : Lin f) (hg : Lin g) : ∀ n, (∀ i, i < n → f (2 ^ i) = g (2 ^ i)) → ∀ x, x < 2 ^ n → f x = g x
  | 0, _, x, hx => by
    have : x = 0 := by simpa using hx
    rw [this, hf.zero, hg.zero]
  | n + 1, h, x, hx => by
    have ih := lin_ext hf hg n (fun i hi => h i (by lia)) (x % 2 ^ n) (Nat.mod_lt _ (Nat.two_pow_pos n))
    rcases split_top hx with e | e
    · rw [e]; exact ih
    · rw [e, hf, hg, ih, h n (by lia)]

noncomputable def xorL : List Nat → Nat
  | [] => 0
  | a :: r => a ^^^ xorL r
theorem xorL_append : ∀ a b, xorL (a ++ b) = xorL a ^^^ xorL b
  | [], b => by simp [xorL]
  | x :: a, b => by simp only [List.cons_append, xorL, xorL_append a b, Nat.xor_assoc]
theorem lin_xorL {f : Nat → Nat} (hf : Lin f) : ∀ l, f (xorL l) = xorL (l.map f)
  | [] => hf.zero
  | a :: r => by rw [xorL, hf, lin_xorL hf r]; rfl
theorem lin_many {α : Type} (F : α → Nat → Nat) (hF : ∀ a, Lin (F a)) : ∀ l : List α, Lin fun x => xorL (l.map fun a => F a x)
  | [] => fun _ _ => by simp [xorL]
  | a :: r => Lin.xor (hF a) (lin_many F hF r)
theorem dbl_xor (a b c d : Nat) (hc : c < 2) (hd : d < 2) : 2 * (a ^^^ b) + (c ^^^ d) = (2 * a + c) ^^^ (2 * b + d) := by
  have h1 : ((2 * a + c) ^^^ (2 * b + d)) / 2 = a ^^^ b := by
    have := xor_div_pow (2 * a + c) (2 * b + d) 1
    rw [Nat.pow_one] at this
    rw [this]
    congr 1 <;> lia
  have h2 : ((2 * a + c) ^^^ (2 * b + d)) % 2 = c ^^^ d := by
    rw [xor_mod2]
    have : c = 0 ∨ c = 1 := by lia
    have : d = 0 ∨ d = 1 := by lia
    rcases ‹c = 0 ∨ c = 1› with rfl | rfl <;> rcases ‹d = 0 ∨ d = 1› with rfl | rfl <;> simp <;> lia
  lia
theorem dbl_lin : Lin fun x => 2 * x := fun a b => by
  have := dbl_xor a b 0 0 (by decide) (by decide)
  simpa using this
theorem bit_lin (k : Nat) : Lin fun x => x / 2 ^ k % 2 := fun a b => by
  show (a ^^^ b) / 2 ^ k % 2 = _
  rw [xor_div_pow, xor_mod2]
  have h1 := Nat.mod_two_eq_zero_or_one (a / 2 ^ k)
  have h2 := Nat.mod_two_eq_zero_or_one (b / 2 ^ k)
  show _ = a / 2 ^ k % 2 ^^^ b / 2 ^ k % 2
  rcases h1 with h1 | h1 <;> rcases h2 with h2 | h2 <;> rw [h1, h2] <;> rfl
theorem cond_lin (k c : Nat) : Lin fun x => if x / 2 ^ k % 2 = 1 then c else 0 := fun a b => by
  have h := bit_lin k a b
  simp only at h ⊢
  rw [h]
  have h1 := Nat.mod_two_eq_zero_or_one (a / 2 ^ k)
  have h2 := Nat.mod_two_eq_zero_or_one (b / 2 ^ k)
  rcases h1 with h1 | h1 <;> rcases h2 with h2 | h2 <;> simp [h1, h2]
theorem if_xor {p : Prop} [Decidable p] (a c : Nat) : (if p then a ^^^ c else a) = a ^^^ (if p then c else 0) := by split <;> simp

theorem crcStep_lin : Lin crcStep := fun a b => by
  have h : ∀ x, crcStep x = x / 2 ^ 1 ^^^ (if x / 2 ^ 0 % 2 = 1 then 3988292384 else 0) := fun x => by
    rw [crcStep, if_xor]; simp
  rw [h, h, h, xor_div_pow]
  have := cond_lin 0 3988292384 a b
  simp only at this
  rw [this]
  simp only [Nat.xor_assoc]
  congr 1
  rw [← Nat.xor_assoc, Nat.xor_comm (b / 2 ^ 1), Nat.xor_assoc]
theorem crcN_lin : ∀ n, Lin (crcN n)
  | 0 => Lin.id
  | n + 1 => fun a b => by show crcStep (crcN n (a ^^^ b)) = crcStep (crcN n a) ^^^ crcStep (crcN n b); rw [crcN_lin n, crcStep_lin]
theorem polyN_lin : ∀ n, Lin (polyN n)
  | 0 => fun a b => xor_div_pow a b 32
  | n + 1 => fun a b => by
    show 2 * polyN n (a ^^^ b) + (a ^^^ b) / 2 ^ n % 2 = (2 * polyN n a + a / 2 ^ n % 2) ^^^ (2 * polyN n b + b / 2 ^ n % 2)
    have h := bit_lin n a b
    simp only at h
    rw [polyN_lin n, h]
    exact dbl_xor _ _ _ _ (Nat.mod_lt _ (by decide)) (Nat.mod_lt _ (by decide))

noncomputable def mX (a : Nat) : Nat := if a / 2 ^ 31 % 2 = 1 then 2 * a ^^^ 4374732215 else 2 * a
noncomputable def mXn : Nat → Nat → Nat
  | 0, a => a
  | n + 1, a => mX (mXn n a)
theorem mX_lin : Lin mX := fun a b => by
  have h : ∀ x, mX x = 2 * x ^^^ (if x / 2 ^ 31 % 2 = 1 then 4374732215 else 0) := fun x => by rw [mX, if_xor]
  have h2 := cond_lin 31 4374732215 a b
  have h3 := dbl_lin a b
  simp only at h2 h3
  rw [h, h, h, h2, h3]
  simp only [Nat.xor_assoc]
  congr 1
  rw [← Nat.xor_assoc, Nat.xor_comm (2 * b), Nat.xor_assoc]
theorem mXn_lin : ∀ n, Lin (mXn n)
  | 0 => Lin.id
  | n + 1 => fun a b => by show mX (mXn n (a ^^^ b)) = mX (mXn n a) ^^^ mX (mXn n b); rw [mXn_lin n, mX_lin]
theorem mXn_add (m n a : Nat) : mXn (m + n) a = mXn m (mXn n a) := by
  induction m with
  | zero => rw [Nat.zero_add]; rfl
  | succ m ih => rw [Nat.succ_add]; show mX _ = mX _; rw [ih]
theorem mX_lt {a : Nat} (h : a < 2 ^ 32) : mX a < 2 ^ 32 := by
  unfold mX
  by_cases q : a / 2 ^ 31 % 2 = 1
  · rw [if_pos q]
    have h1 : 2 * a < 2 ^ 33 := by lia
    have e : 2 * a ^^^ 4374732215 < 2 ^ 33 := lt_of_xor h1 (by decide)
    have e2 : (2 * a ^^^ 4374732215) / 2 ^ 32 = 0 := by
      rw [xor_div_pow]
      have : 2 * a / 2 ^ 32 = 1 := by lia
      rw [this]; decide
    lia
  · rw [if_neg q]; lia
theorem mXn_lt {a : Nat} (h : a < 2 ^ 32) : ∀ n, mXn n a < 2 ^ 32
  | 0 => h
  | n + 1 => mX_lt (mXn_lt h n)
theorem rev_step {r : Nat} (h : r < 2 ^ 32) : polyN 32 (crcStep r) = mX (polyN 32 r) :=
  lin_ext (Lin.comp (polyN_lin 32) crcStep_lin) (Lin.comp mX_lin (polyN_lin 32)) 32 (by decide +kernel) r h
theorem crcStep_lt {r : Nat} (h : r < 2 ^ 32) : crcStep r < 2 ^ 32 := by
  unfold crcStep
  split
  · exact lt_of_xor (by lia) (by decide)
  · lia
theorem crcN_lt {r : Nat} (h : r < 2 ^ 32) : ∀ n, crcN n r < 2 ^ 32
  | 0 => h
  | n + 1 => crcStep_lt (crcN_lt h n)
theorem rev_steps {r : Nat} (h : r < 2 ^ 32) : ∀ n, polyN 32 (crcN n r) = mXn n (polyN 32 r)
  | 0 => rfl
  | n + 1 => by rw [crcN, rev_step (crcN_lt h n), rev_steps h n]; rfl
theorem rev_lt {r : Nat} (h : r < 2 ^ 32) : polyN 32 r < 2 ^ 32 := by
  have key : ∀ n, polyN n r < 2 ^ n := fun n => by
    induction n with
    | zero => simp [polyN]; lia
    | succ n ih =>
      rw [polyN, Nat.pow_succ]
      have := Nat.mod_lt (r / 2 ^ n) (show 0 < 2 by decide)
      lia
  exact key 32
end
section
set_option Elab.async false
set_option maxRecDepth 100000
open PySem PySem.W PyProof.Rows
noncomputable def chgsL (c : Nat) : List (Str × Str) → List Nat
  | [] => []
  | p :: r => mXn (8 * sumLen (p :: r)) c :: chgsL c r
theorem chgs_len (c : Nat) : ∀ ps, (chgsL c ps).length = ps.length
  | [] => rfl
  | p :: r => by simp [chgsL, chgs_len c r]
theorem mX_big {x : Nat} (hx : x < 2 ^ 32) (h : (4294967295 : Int) < 2 * (x : Int)) : Builtin.bitXor (2 * (x : Int)) 4374732215 = ((mX x : Nat) : Int) := by
  have e : (2 * (x : Int)) = ((2 * x : Nat) : Int) := by lia
  have := bitXor_nat (2 * x) 4374732215
  rw [e, show (4374732215 : Int) = ((4374732215 : Nat) : Int) from rfl, this, mX, if_pos (by lia)]
theorem mX_small {x : Nat} (h : ¬ (4294967295 : Int) < 2 * (x : Int)) : (2 * (x : Int)) = ((mX x : Nat) : Int) := by
  rw [mX, if_neg (by lia)]; lia
theorem drop_rev {ps : List (Str × Str)} {i : Nat} {p : Str × Str} (h : ps.reverse[i]? = some p) : ps.drop (ps.length - (i + 1)) = p :: ps.drop (ps.length - i) := by
  have hi : i < ps.length := by have := (List.getElem?_eq_some_iff.mp h).1; rwa [List.length_reverse] at this
  rw [List.getElem?_reverse hi] at h
  have hj : ps.length - (i + 1) < ps.length := by lia
  rw [List.drop_eq_getElem_cons hj]
  rw [show ps.length - 1 - i = ps.length - (i + 1) by lia, List.getElem?_eq_getElem hj] at h
  rw [Option.some.inj h, show ps.length - (i + 1) + 1 = ps.length - i by lia]
theorem parts_rev {h : Heap} {items : Array Value} {ps : List (Str × Str)} (x : PartsAt h items ps) : PartsAt h items.toList.reverse.toArray ps.reverse := by
  refine ⟨by simp [x.1], fun i p e => ?_⟩
  have hi : i < ps.length := by have := (List.getElem?_eq_some_iff.mp e).1; rwa [List.length_reverse] at this
  rw [List.getElem?_reverse hi] at e
  obtain ⟨e1, t, u, r⟩ := x.2 _ p e
  have e2 : (items.toList.reverse.toArray)[i]? = some (.ref (tsOf items (ps.length - 1 - i))) := by
    rw [List.getElem?_toArray, List.getElem?_reverse (by simp [x.1]; exact hi), Array.length_toList, x.1, Array.getElem?_toList]
    exact e1
  rw [tsOf_of e2]
  exact ⟨e2, t, u, r⟩
end
section
open PySem PySem.W PyProof.Rows PySem.Calls
set_option Elab.async false
set_option maxRecDepth 100000
set_option maxHeartbeats 1000000

theorem fillCg : PySem.Challenge.rw_pe0168_01 = PySem.Challenge.rw_pe0168_01 → Mine.hd.heap_1 = Mine.hd.heap_1 := by
  k_fill
  intro _; rfl


theorem napart {g h : Heap} {L : Addr} {news : List (Addr × Obj)} (N : News g L h news) : ∀ q ∈ news, q.1 ∉ [h.objs.size] := fun q hq e => by
  have := Heap.lt_size (N q hq).1
  rw [List.mem_singleton.mp e] at this
  exact Nat.lt_irrefl _ this
theorem isnoc {k : Int} {t : Tok} : ∀ {vs : List Value} {ns : List Int}, IntsAre vs ns → IntsAre (vs ++ [.int k t]) (ns ++ [k])
  | _, _, .nil => .cons _ _ .nil
  | _, _, .cons a b r => .cons a b (isnoc r)
theorem isnoc_eq {k k' : Int} {t : Tok} {vs : List Value} {ns : List Int} (e : k = k') (h : IntsAre vs ns) : IntsAre (vs ++ [.int k t]) (ns ++ [k']) := e ▸ isnoc h
theorem lmap_agree2 {l l' : List (Str × Option Value)} {x x2 : Str} (keys : List Str) (h1 : ((l.map (·.1)).all fun k => (x2 :: keys).contains k || k == x) = true) (h2 : ((l'.map (·.1)).all fun k => (x2 :: keys).contains k || k == x) = true)
    (hv : ∀ k ∈ keys, lmap l k = lmap l' k) : ∀ y, y ≠ x → y ≠ x2 → lmap l y = lmap l' y := by
  intro y hy hy2
  by_cases hn : y ∈ keys
  · exact hv y hn
  · have hm : y ∉ x2 :: keys := fun q => by
      rcases List.mem_cons.mp q with q | q
      · exact hy2 q
      · exact hn q
    rw [lmap_none (x2 :: keys) x y hy hm l h1, lmap_none (x2 :: keys) x y hy hm l' h2]
theorem law_changes_ok {w : World} {p : Program} {loose mg mb} {dp un gd fr} {s : Shared} {Q E} {wl : Addr} {items : Array Value} {ep : Nat} {ps : List (Str × Str)} {c : Nat} {kc : Tok} {z : Int}
   (C : Cx (Mine.hd.heap_1 w.params) p loose mg mb s.heap) (hd : dp + 2 < recursionLimit) (hwl : s.heap.get? wl = some (liO items ep)) (hp : PartsAt s.heap items ps) (hlen : ps.length ≤ 100) (hb : sumLen ps ≤ 1000) (hc : c < 2 ^ 32) (hz : z = (c : Nat))
   (hQ : ∀ s' D vs ep', Sm s s' → Kp s.heap s'.heap → s.heap.get? D = none → s'.heap.get? D = some (liO vs ep') → IntsAre vs.toList ((chgsL c ps).map Int.ofNat) → Q (.ref D) s') :
   wpAny (model PySem.Challenge.pw_pe0168_01 w) (aT dp un gd fr) (call (.ref 258) [.ref wl, .int z kc]) Q E s := by
  subst hz
  w_on
  k_dflt (refine enter0 (binds := [(Str.ofString "words", .ref wl), (Str.ofString "change", .int (c : Nat) kc)]) C (by k_is) (by k_is) (by show dp < recursionLimit; (with_reducible exact nnC (by assumption))) (BindsTo.of_eq rfl) (locs rfl) ?_ rfl rfl rfl (by decide))
  intro L' h₁ tk F N X T
  change Fr _ _ _ (lmap [(Str.ofString "change", some (.int (c : Nat) kc)), (Str.ofString "words", some (.ref wl))]) at F
  (repeat' ((fail_if_success (with_reducible show wpAny _ _ (subscriptTail _ _ _ _) _ _ _)); (fail_if_success (with_reducible show wpAny _ _ (exec (Stmt.For _ _ _ _ _) _) _ _ _)); (fail_if_success (with_reducible show wpAny _ _ (pyIter _) _ _ _)); (fail_if_success (with_reducible show wpAny _ _ (call (Value.builtin "list.append") _) _ _ _)); (first | walk1 | (dsimp only; walk1)); (try dsimp only)))
  refine wpAny_For ?_ (by intro _; rfl)
  (repeat' ((fail_if_success (with_reducible show wpAny _ _ (subscriptTail _ _ _ _) _ _ _)); (fail_if_success (with_reducible show wpAny _ _ (exec (Stmt.For _ _ _ _ _) _) _ _ _)); (fail_if_success (with_reducible show wpAny _ _ (pyIter _) _ _ _)); (fail_if_success (with_reducible show wpAny _ _ (call (Value.builtin "list.append") _) _ _ _)); (first | walk1 | (dsimp only; walk1)); (try dsimp only)))
  rename_i CH hA lA hB F2 N2
  refine krv_lit (s := ⟨_, s.gens, s.drawn, _, s.os⟩) (its := items) F2 N2 ⟨_, F2.keep _ _ hwl, rfl, _, rfl⟩ (.int _ _) rfl ?_ (by with_unfolding_all rfl) (by intro _; with_unfolding_all rfl) (by rw [hp.1, sizeLine_eq]; (with_reducible exact nnD (by assumption) (by decide)))
  intro D h3 F3 N3 l3
  have hCD : CH ≠ D := Nat.ne_of_lt (l3 _ (.head _))
  dsimp only
  refine iter_partsN (ps := ps.reverse) (σ := Array Value × Nat × Tok × Option Value) (fun i a => [(Str.ofString "changes", some (.ref CH)), (Str.ofString "change", some (.int (mXn (8 * sumLen (ps.drop (ps.length - i))) c : Nat) a.2.2.1)), (Str.ofString "turn", a.2.2.2), (Str.ofString "words", some (.ref wl))])
    (fun _ a => [(D, liO items.toList.reverse.toArray 0), (CH, liO a.1 a.2.1)]) (fun i a _ => IntsAre a.1.toList ((chgsL c (ps.drop (ps.length - i))).reverse.map Int.ofNat)) (#[], 0, kc, none) (fun _ _ _ _ x _ _ => x) (by rfl) (fun _ _ => .head _) (parts_rev hp) F3
    (fun y h1 _ => lmap_agree (x := Str.ofString "white") [Str.ofString "changes", Str.ofString "change", Str.ofString "turn", Str.ofString "words"] ?h1 ?h2 ?hv y h1) N3 ?h0 ?_ ?_
  case h1 => rfl
  case h2 => rfl
  case hv =>
    refine List.forall_mem_cons.mpr ⟨rfl, List.forall_mem_cons.mpr ⟨?_, List.forall_mem_cons.mpr ⟨rfl, List.forall_mem_cons.mpr ⟨rfl, List.forall_mem_nil _⟩⟩⟩⟩
    show some (Value.int _ _) = some (Value.int _ _)
    exact some_int (by rw [Nat.sub_zero, List.drop_length]; rfl)
  case h0 => rw [Nat.sub_zero, List.drop_length]; exact .nil
  · intro i pr t u a s4 I oI hpi hs sm4 hne4 cI F4 N4
    clear F2 N2 F3 N3
    obtain ⟨fv, fe, tc, tv⟩ := a
    dsimp only at hs F4 N4 hne4
    have hpm : pr.1.length + pr.2.length ≤ 1000 := Nat.le_trans (sumLen_mem (List.mem_reverse.mp (List.mem_of_getElem? hpi))) hb
    have hdr := drop_rev hpi
    generalize hv0 : mXn (8 * sumLen (ps.drop (ps.length - i))) c = v0 at *
    have hv32 : v0 < 2 ^ 32 := by rw [← hv0]; exact mXn_lt hc _
    refine turn_abs fun R hR => ?_
    (repeat' ((fail_if_success (with_reducible show wpAny _ _ (subscriptTail _ _ _ _) _ _ _)); (fail_if_success (with_reducible show wpAny _ _ (exec (Stmt.For _ _ _ _ _) _) _ _ _)); (fail_if_success (with_reducible show wpAny _ _ (pyIter _) _ _ _)); (fail_if_success (with_reducible show wpAny _ _ (call (Value.builtin "list.append") _) _ _ _)); (first | walk1 | (dsimp only; walk1)); (try dsimp only)))
    refine wpAny_For ?_ (by intro _; rfl)
    (repeat' ((fail_if_success (with_reducible show wpAny _ _ (subscriptTail _ _ _ _) _ _ _)); (fail_if_success (with_reducible show wpAny _ _ (exec (Stmt.For _ _ _ _ _) _) _ _ _)); (fail_if_success (with_reducible show wpAny _ _ (pyIter _) _ _ _)); (fail_if_success (with_reducible show wpAny _ _ (call (Value.builtin "list.append") _) _ _ _)); (first | walk1 | (dsimp only; walk1)); (try dsimp only)))
    rename IsRange _ _ _ _ _ _ _ _ => hr5
    rename Fr _ _ _ _ => F5
    rename News _ _ _ _ => N5
    have hcat : (pr.1 ++ pr.2).length = pr.1.length + pr.2.length := Str.length_append ..
    rw [show (8 * ((pr.1 ++ pr.2).length : Int)) = ((8 * (pr.1 ++ pr.2).length : Nat) : Int) by lia] at hr5
    have hap : ∀ q ∈ [(I, oI), (D, liO items.toList.reverse.toArray 0), (CH, liO fv fe)], q.1 ∉ _ := napart N5
    refine' iter_range (n := 8 * (pr.1 ++ pr.2).length) (σ := Tok) (fun j k => [(Str.ofString "change", some (.int (mXn j v0 : Nat) k)), (Str.ofString "word", some (.str pr.2 u)), (Str.ofString "white", some (.str pr.1 t)), (Str.ofString "changes", some (.ref CH)), (Str.ofString "words", some (.ref wl))])
      (fun _ _ => [(I, oI), (D, liO items.toList.reverse.toArray 0), (CH, liO fv fe)]) (fun _ _ => True) ?t0 (by rfl) hr5 (small_up (by lia)) (range_up _) F5 (lmap_agree [Str.ofString "change", Str.ofString "word", Str.ofString "white", Str.ofString "changes", Str.ofString "words"] ?k1 ?k2 ?kv) N5 trivial ?_ ?_
    case k1 => rfl
    case k2 => rfl
    case kv =>
      refine List.forall_mem_cons.mpr ⟨?_, List.forall_mem_cons.mpr ⟨rfl, List.forall_mem_cons.mpr ⟨rfl, List.forall_mem_cons.mpr ⟨rfl, List.forall_mem_cons.mpr ⟨rfl, List.forall_mem_nil _⟩⟩⟩⟩⟩
      show some (Value.int _ _) = some (Value.int _ _)
      exact some_int rfl
    · intro j tj k h tk own hj _ ho F6 N6
      refine turn_abs fun R2 hR2 => ?_
      have hj32 : mXn j v0 < 2 ^ 32 := mXn_lt hv32 _
      clear F5 N5
      (repeat' ((fail_if_success (with_reducible show wpAny _ _ (subscriptTail _ _ _ _) _ _ _)); (fail_if_success (with_reducible show wpAny _ _ (exec (Stmt.For _ _ _ _ _) _) _ _ _)); (fail_if_success (with_reducible show wpAny _ _ (pyIter _) _ _ _)); (fail_if_success (with_reducible show wpAny _ _ (call (Value.builtin "list.append") _) _ _ _)); (first | walk1 | (dsimp only; walk1)); (try dsimp only)))
      · rename Fr _ _ _ _ => F7
        rename News _ _ _ _ => N7
        refine hR2 _ _ ?_
        refine' turn_next ?a0 F7 N7 (fun q hq => hq) (fun q hq => ?_) (lmap_agree [Str.ofString "change", Str.ofString "word", Str.ofString "white", Str.ofString "changes", Str.ofString "words"] ?a1 ?a2 ?av) trivial
        case a1 => rfl
        case a2 => rfl
        case av =>
          refine List.forall_mem_cons.mpr ⟨?_, List.forall_mem_cons.mpr ⟨rfl, List.forall_mem_cons.mpr ⟨rfl, List.forall_mem_cons.mpr ⟨rfl, List.forall_mem_cons.mpr ⟨rfl, List.forall_mem_nil _⟩⟩⟩⟩⟩
          show some (Value.int _ _) = some (Value.int _ _)
          exact some_int (mX_big hj32 (by lia))
        · exact hap q hq
      · rename Fr _ _ _ _ => F7
        rename News _ _ _ _ => N7
        refine hR2 _ _ ?_
        refine' turn_next ?b0 F7 N7 (fun q hq => hq) (fun q hq => ?_) (lmap_agree [Str.ofString "change", Str.ofString "word", Str.ofString "white", Str.ofString "changes", Str.ofString "words"] ?b1 ?b2 ?bv) trivial
        case b1 => rfl
        case b2 => rfl
        case bv =>
          refine List.forall_mem_cons.mpr ⟨?_, List.forall_mem_cons.mpr ⟨rfl, List.forall_mem_cons.mpr ⟨rfl, List.forall_mem_cons.mpr ⟨rfl, List.forall_mem_cons.mpr ⟨rfl, List.forall_mem_nil _⟩⟩⟩⟩⟩
          show some (Value.int _ _) = some (Value.int _ _)
          exact some_int (mX_small (by omega))
        · exact hap q hq
    · intro k u' h tk _ F6 N6
      clear F5 N5
      (repeat' ((fail_if_success (with_reducible show wpAny _ _ (subscriptTail _ _ _ _) _ _ _)); (fail_if_success (with_reducible show wpAny _ _ (exec (Stmt.For _ _ _ _ _) _) _ _ _)); (fail_if_success (with_reducible show wpAny _ _ (pyIter _) _ _ _)); (fail_if_success (with_reducible show wpAny _ _ (call (Value.builtin "list.append") _) _ _ _)); (first | walk1 | (dsimp only; walk1)); (try dsimp only)))
      have hnx : mXn (8 * (pr.1 ++ pr.2).length) v0 = mXn (8 * sumLen (ps.drop (ps.length - (i + 1)))) c := by
        rw [hdr, ← hv0, ← mXn_add, hcat]
        simp only [sumLen]
        congr 1
        lia
      rw [hnx]
      have oC := N6 (CH, _) (.tail _ (.tail _ (.head _)))
      refine list_append_at oC.1 (by
        have := hs.length
        rw [Array.length_toList, List.length_map, List.length_reverse, chgs_len, List.length_drop] at this
        rw [this, sizeLine_eq]; lia) ?_
      intro h9 hC9 sb9
      have F9 := fr_but F6 (kb_same (KB.refl [CH] _) sb9 (.head _)) (fun b hb => by rw [List.mem_singleton.mp hb]; exact oC.2)
      have N9 : News s.heap L' h9 [(I, oI), (D, liO items.toList.reverse.toArray 0), (CH, liO (fv.push (.int (mXn (8 * sumLen (ps.drop (ps.length - (i + 1)))) c : Nat) k)) (fe + 1))] := fun q hq => by
        simp only [List.mem_cons, List.not_mem_nil, or_false] at hq
        rcases hq with rfl | rfl | rfl
        · exact ⟨sb9.extBut _ _ (Ne.symm (hne4 (CH, _) (.tail _ (.head _)))) (N6 (I, oI) (.head _)).1, (N6 (I, oI) (.head _)).2⟩
        · exact ⟨sb9.extBut _ _ (Ne.symm hCD) (N6 (D, _) (.tail _ (.head _))).1, (N6 (D, _) (.tail _ (.head _))).2⟩
        · exact ⟨hC9, oC.2⟩
      clear F6 N6
      (repeat' ((fail_if_success (with_reducible show wpAny _ _ (subscriptTail _ _ _ _) _ _ _)); (fail_if_success (with_reducible show wpAny _ _ (exec (Stmt.For _ _ _ _ _) _) _ _ _)); (fail_if_success (with_reducible show wpAny _ _ (pyIter _) _ _ _)); (fail_if_success (with_reducible show wpAny _ _ (call (Value.builtin "list.append") _) _ _ _)); (first | walk1 | (dsimp only; walk1)); (try dsimp only)))
      refine hR _ _ ?_
      refine ⟨_, (_, fe + 1, k, u'), ⟨sm4.1, sm4.2.1, sm4.2.2⟩, F9, N9, fun q hq => ?_, fun y h1 h2 => ?_, ?_⟩
      · simp only [List.mem_cons, List.not_mem_nil, or_false] at hq
        rcases hq with rfl | rfl
        · exact hne4 (D, _) (.head _)
        · exact hne4 (CH, liO fv fe) (.tail _ (.head _))
      · refine lmap_agree2 (x := Str.ofString "white") (x2 := Str.ofString "word") [Str.ofString "changes", Str.ofString "change", Str.ofString "turn", Str.ofString "words"] ?r1 ?r2 ?rv y h1 h2
        case r1 => rfl
        case r2 => rfl
        case rv =>
          refine List.forall_mem_cons.mpr ⟨rfl, List.forall_mem_cons.mpr ⟨?_, List.forall_mem_cons.mpr ⟨rfl, List.forall_mem_cons.mpr ⟨rfl, List.forall_mem_nil _⟩⟩⟩⟩
          show some (Value.int _ _) = some (Value.int _ _)
          exact some_int (by rw [hnx])
      · show IntsAre (fv.push _).toList _
        rw [Array.toList_push, hdr]
        simp only [chgsL, List.reverse_cons, List.map_append, List.map_cons, List.map_nil]
        rw [← hdr]
        exact isnoc_eq rfl hs
  · intro a u1 u2 s4 hs sm4 F4 N4
    rw [List.length_reverse, Nat.sub_self, List.drop_zero] at hs
    (repeat' ((fail_if_success (with_reducible show wpAny _ _ (subscriptTail _ _ _ _) _ _ _)); (fail_if_success (with_reducible show wpAny _ _ (exec (Stmt.For _ _ _ _ _) _) _ _ _)); (fail_if_success (with_reducible show wpAny _ _ (pyIter _) _ _ _)); (fail_if_success (with_reducible show wpAny _ _ (call (Value.builtin "list.append") _) _ _ _)); (first | walk1 | (dsimp only; walk1)); (try dsimp only)))
    rename Fr _ _ _ _ => F5
    rename News _ _ _ _ => N5
    have hl5 : s4.heap.IsList CH a.1 := ⟨_, (N5 (CH, liO a.1 a.2.1) (.tail _ (.head _))).1, rfl, _, rfl⟩
    refine krv_lit (l := CH) (s := ⟨s4.heap, s4.gens, s4.drawn, s4.toks + 1 + 1, s4.os⟩) (its := a.1) (vk := .int _ _) F5 N5 hl5 (.int _ _) rfl ?_ (by with_unfolding_all rfl) (by intro _; with_unfolding_all rfl) (by
      have := hs.length
      rw [Array.length_toList, List.length_map, List.length_reverse, chgs_len] at this
      rw [this, sizeLine_eq]; (with_reducible exact nnD (by assumption) (by decide)))
    intro D5 h5 F6 N6 _
    have hi := hs.reverse
    rw [← List.map_reverse, List.reverse_reverse] at hi
    exact hQ _ D5 _ 0 ⟨sm4.1, sm4.2.1, sm4.2.2⟩ F6.keep (N6 _ (.head _)).2.2 (N6 _ (.head _)).1 hi
end
section
set_option Elab.async false
set_option maxRecDepth 100000
open PySem PySem.W PyProof.Rows
noncomputable def waysOf (cs : List Nat) : List Nat := cs.foldl (fun w c => w ++ w.map (· ^^^ c)) [0]
theorem ways_snoc (cs : List Nat) (c : Nat) : waysOf (cs ++ [c]) = waysOf cs ++ (waysOf cs).map (· ^^^ c) := by unfold waysOf; rw [List.foldl_append]; rfl
theorem ways_len0 : ∀ n (cs : List Nat), cs.length = n → (waysOf cs).length = 2 ^ n
  | 0, cs, h => by rw [List.length_eq_zero_iff.mp h]; rfl
  | n + 1, cs, h => by
    rcases List.eq_nil_or_concat cs with rfl | ⟨r, c, rfl⟩
    · cases h
    · rw [List.concat_eq_append] at h ⊢
      rw [List.length_append, List.length_singleton] at h
      rw [ways_snoc, List.length_append, List.length_map, ways_len0 n r (by (with_reducible exact nnW (by assumption))), Nat.pow_succ]
      lia
theorem ways_len (cs : List Nat) : (waysOf cs).length = 2 ^ cs.length := ways_len0 _ cs rfl
theorem ways_take (cs : List Nat) {i c : Nat} (h : cs[i]? = some c) : waysOf (cs.take (i + 1)) = waysOf (cs.take i) ++ (waysOf (cs.take i)).map (· ^^^ c) := by
  rw [List.take_add_one, h]; exact ways_snoc _ _
end
section
open PySem PySem.W PyProof.Rows PySem.Calls PySem.Spec
set_option Elab.async false
set_option maxRecDepth 100000
set_option linter.unusedVariables false
theorem paired_strs {α : Type} {F : Value → Value → Prop} (f : α → Str) : ∀ {vs : List Value} {ys : List Value} {as : List α}, Paired F vs ys → as.length = vs.length → (∀ (j : Nat) (v y : Value) (a : α), vs[j]? = some v → F v y → as[j]? = some a → ∃ t, y = .str (f a) t) → StrsAre ys (as.map f)
  | _, _, [], .nil, _, _ => .nil
  | _, _, a :: as, .cons h r, hl, k => by
    obtain ⟨t, rfl⟩ := k 0 _ _ a rfl h rfl
    exact .cons _ _ (paired_strs f r (by simpa using hl) fun j v y b e1 e2 e3 => k (j + 1) v y b e1 e2 e3)
  | _, _, _ :: _, .nil, hl, _ => by simp at hl
  | _, _, [], .cons _ _, hl, _ => by simp at hl
theorem strs_get : ∀ {vs : List Value} {xs : List Str}, StrsAre vs xs → ∀ {j : Nat} {v : Value}, vs[j]? = some v → ∃ x t, xs[j]? = some x ∧ v = .str x t
  | _, _, .nil, _, _, h => by simp at h
  | _, _, .cons x t r, 0, v, h => by cases h; exact ⟨x, t, rfl, rfl⟩
  | _, _, .cons _ _ r, j + 1, v, h => strs_get r h
theorem filter_true {l : List Value} : l.filter (fun _ => true) = l := by simp

section
variable {prog : Program} {w : World} {A : Around} {E : Value → Shared → Prop} {s : Shared} {env : Env}

theorem comp_strs {elt iter : Expr} {x : Str} {px pos : Pos} {scope : Scope} {cl : List (Str × Addr)} {Q : Value → Shared → Prop} (f : Str → Str)
    (hclos : closureFor scope env = pure cl) (hcell : ∀ y ∈ scope.names, y.2 ≠ .cell) (hkind : scope.kind = .function)
    (hnames : ∀ y ∈ scope.names, y.2 = .local → scope.names.lookup y.1 = some .local) (hx : scope.names.lookup x = some .local) (hh : A.handled = none)
    (h : wpAny (model prog w) A (eval iter env) (fun xv s₁ => ∃ l vs xs n, xv = .ref l ∧ s₁.heap.get? l = some (liO vs n) ∧ StrsAre vs.toList xs ∧ vs.size ≤ 1000000 ∧
      (∀ C (s₃ : Shared) m₂ z u (E' : Value → Shared → Prop), z ∈ xs → Kp s₁.heap s₃.heap → s₁.heap.objs.size ≤ C → s₃.heap.Ns C m₂ → m₂ x = some (.str z u) →
        wpAny (model prog w) A (eval elt (compEnvC scope cl C env)) (fun y s₄ => ∃ h₄ tk₄ t, s₄ = { s₃ with heap := h₄, toks := tk₄ } ∧ Kp s₃.heap h₄ ∧ y = .str (f z) t) E' s₃) ∧
      (∀ D h' tk ys n, Kp s₁.heap h' → s₁.heap.get? D = none → h'.get? D = some (liO ys n) → StrsAre ys.toList (xs.map f) → Q (.ref D) { s₁ with heap := h', toks := tk })) E s)
    (hs : ∀ x, foldedSetIterable iter env x = pure x := by intro _; rfl) :
    wpAny (model prog w) A (eval (.ListComp elt [⟨.Name x px, iter, [], 0⟩] scope pos) env) Q E s := by
  refine wpAny_ListComp_free (fun _ => true) (fun v y => ∀ c u, v = .str c u → ∃ t, y = .str (f c) t) hclos hcell hkind hnames hx (wpAny_mono h (fun xv s₁ h₁ => ?_) fun _ _ e => e) hs
  obtain ⟨l, vs0, xs, n0, rfl, hl, hv0, hz, helt, hQ⟩ := h₁
  have hIs : s₁.heap.IsList l vs0 := ⟨_, hl, rfl, _, rfl⟩
  refine wpAny_pyIter_list hIs ?_
  have hne : l ≠ s₁.heap.objs.size := Nat.ne_of_lt (Heap.lt_size hl)
  have kp : ∀ {h' : Heap}, (∀ b o', b ∉ [s₁.heap.objs.size] → (s₁.heap.push { cls := .type "list_iterator", data := .fields #[.ref l, .int 0 0] }).get? b = some o' → h'.get? b = some o') → Kp s₁.heap h' := fun k b o' e => k b o' (by simpa using Nat.ne_of_lt (Heap.lt_size e)) (Heap.get?_push_of_some _ e)
  refine ⟨_, _, _, _, _, _, rfl, Walks.list hh s₁.heap.objs.size l hne vs0, by rw [sizeLine_eq]; exact Nat.le_trans hz (by decide), ⟨⟨_, Heap.get?_push_size _ rfl, rfl, rfl⟩, hIs.push _⟩, fun b hb => ?_, ⟨?_, ?_⟩, ?_⟩
  · show b < (s₁.heap.push _).objs.size
    rw [Heap.size_push]
    rcases List.mem_cons.mp hb with rfl | hb
    · exact Nat.lt_succ_self _
    · rw [List.mem_singleton.mp hb]; exact Nat.lt_succ_of_lt (Heap.lt_size hl)
  · intro C i v s₃ m₃ E' _ _ _ _ _ _
    exact wpAny_pure ⟨rfl, s₃.heap, s₃.toks, rfl, fun _ _ e => e⟩
  · intro C i v s₃ m₃ E' hC hv _ hn hm hk htk
    obtain ⟨z, u, e4, rfl⟩ := strs_get hv0 (show vs0.toList[i]? = some v by rw [Array.getElem?_toList]; exact hv)
    refine wpAny_mono (helt C s₃ m₃ z u E' (List.mem_of_getElem? e4) (kp hk) (by rw [Heap.size_push] at hC; exact Nat.le_of_succ_le hC) hn hm) (fun y s₄ h₄ => ?_) fun _ _ e => e
    obtain ⟨h₄, tk₄, t, rfl, k4, rfl⟩ := h₄
    exact ⟨fun c' u' e => by cases e; exact ⟨t, rfl⟩, h₄, tk₄, rfl, k4⟩
  · intro D h' tk ys vs hD hl' hpl hlen hP hF hk
    obtain ⟨n, e⟩ := hpl
    refine hQ D h' tk ys n (kp hk) (by cases q : s₁.heap.get? D with | none => rfl | some o' => rw [Heap.get?_push_of_some _ q] at hD; cases hD) e ?_
    rw [filter_true] at hF
    refine paired_strs f hF (by rw [← hv0.length, Array.length_toList]; exact hlen.symm) fun j v y a e1 e2 e3 => ?_
    obtain ⟨c, u, e4, rfl⟩ := strs_get hv0 (show vs0.toList[j]? = some v by rw [Array.getElem?_toList]; exact hP j v e1)
    rw [e4] at e3
    cases e3
    exact e2 _ _ rfl
end
section
variable {prog : Program} {w : World} {A : Around} {E : Value → Shared → Prop} {s : Shared}
theorem slice_kp {value slice : Expr} {x : Str} {t : Tok} {i : Int} {ui : Tok} {Q : Value → Shared → Prop} (h : ∀ h' t' k, Kp s.heap h' → Q (.str (Txt.slice x (some i) none) t') { s with heap := h', toks := k })
    (hs : subscripted slice false (.str x t) (.ref s.heap.objs.size) = operate [.ref s.heap.objs.size, .str x t] (getItem (.str x t) (.ref s.heap.objs.size)) := by with_unfolding_all rfl)
    (ht : ∀ r, letTemporaryGo value (.str x t) r = pure () := by intro _; with_unfolding_all rfl) (hsz : x.length ≤ sizeLine := by size_fits) :
    wpAny (model prog w) A (subscriptTail value slice (.str x t) (.ref s.heap.objs.size)) Q E { s with heap := s.heap.push { cls := .type "slice", data := .fields #[.int i ui, .none, .none] } } :=
  tail_of_ItemOn (SBH.sliceItem_sn (P := fun h' => Kp s.heap h') (fun h ob k b o e => Heap.get?_push_of_some _ (k b o e)) (Kp.refl _) (fun h' t' k a => h h' t' k a) hsz) hs ht
end
theorem slice_tail {z : Str} (h : 0 < z.length) : Txt.slice z (some 1) none = tx (sg z).tail := by
  have := eq_of_beq (slice_closes_from (x := z) (i := 1) ⟨by decide, by rw [Array.length_toList]; exact_mod_cast h⟩)
  rw [this]
  unfold tx
  congr 1
  rw [show (1 : Int).toNat = 1 from rfl, List.drop_one, List.take_of_length_le (by rw [List.length_tail]; lia)]
end
section
open PySem PySem.W PyProof.Rows PySem.Calls PySem.Spec
set_option Elab.async false
set_option maxRecDepth 100000
set_option linter.unusedVariables false
theorem paired_ints {α : Type} {F : Value → Value → Prop} (f : α → Int) : ∀ {vs : List Value} {ys : List Value} {as : List α}, Paired F vs ys → as.length = vs.length → (∀ (j : Nat) (v y : Value) (a : α), vs[j]? = some v → F v y → as[j]? = some a → ∃ t, y = .int (f a) t) → IntsAre ys (as.map f)
  | _, _, [], .nil, _, _ => .nil
  | _, _, a :: as, .cons h r, hl, k => by
    obtain ⟨t, rfl⟩ := k 0 _ _ a rfl h rfl
    exact .cons _ _ (paired_ints f r (by simpa using hl) fun j v y b e1 e2 e3 => k (j + 1) v y b e1 e2 e3)
  | _, _, _ :: _, .nil, hl, _ => by simp at hl
  | _, _, [], .cons _ _, hl, _ => by simp at hl
theorem walks_lt {prog : Program} {w : World} {A : Around} {I : Addr} {fp wr : List Addr} {n : Nat} {P : Nat → Value → Prop} {St : Nat → Heap → Prop} (W : Walks prog w A I fp wr n P St) : Walks prog w A I fp wr n (fun i v => i < n ∧ P i v) St :=
  { W with item := fun i s Q E hi st hQ => W.item i s Q E hi st fun v h' tk hP st' hk => hQ v h' tk ⟨hi, hP⟩ st' hk }
theorem filter_ints (tst : Nat → Bool) : ∀ (vs : List Value) (a : Nat), (∀ (j : Nat) (v : Value), vs[j]? = some v → ∃ t, v = .int ((a + j : Nat) : Int) t) →
    IntsAre (vs.filter (fun v => match v with | .int i _ => tst i.toNat | _ => false)) (((List.range' a vs.length).filter tst).map Int.ofNat)
  | [], _, _ => .nil
  | v :: r, a, h => by
    obtain ⟨t, rfl⟩ := h 0 v rfl
    have ih := filter_ints tst r (a + 1) fun j v e => by
      obtain ⟨t, q⟩ := h (j + 1) v e
      exact ⟨t, by rw [q]; congr 1; lia⟩
    rw [List.length_cons, List.range'_succ, List.filter_cons, List.filter_cons]
    show IntsAre (if tst ((a + 0 : Nat) : Int).toNat = true then _ else _) _
    rw [Int.toNat_natCast, Nat.add_zero]
    cases tst a with
    | true => exact .cons _ _ ih
    | false => exact ih
theorem paired_same : ∀ {vs ys : List Value} {xs : List Int}, IntsAre vs xs → Paired (fun v y => ∀ (c : Int) (u : Tok), v = .int c u → ∃ t, y = .int c t) vs ys → IntsAre ys xs
  | _, _, _, .nil, .nil => .nil
  | _, _, _, .cons k t r, .cons h q => by
    obtain ⟨t', rfl⟩ := h _ _ rfl
    exact .cons _ _ (paired_same r q)
section
variable {prog : Program} {w : World} {A : Around} {E : Value → Shared → Prop} {s : Shared} {env : Env}
theorem comp_ints {elt iter : Expr} {x : Str} {px pos : Pos} {scope : Scope} {cl : List (Str × Addr)} {Q : Value → Shared → Prop} (f : Int → Int)
    (hclos : closureFor scope env = pure cl) (hcell : ∀ y ∈ scope.names, y.2 ≠ .cell) (hkind : scope.kind = .function)
    (hnames : ∀ y ∈ scope.names, y.2 = .local → scope.names.lookup y.1 = some .local) (hx : scope.names.lookup x = some .local) (hh : A.handled = none)
    (h : wpAny (model prog w) A (eval iter env) (fun xv s₁ => ∃ l vs xs n, xv = .ref l ∧ s₁.heap.get? l = some (liO vs n) ∧ IntsAre vs.toList xs ∧ vs.size ≤ 1000000 ∧
      (∀ C (s₃ : Shared) m₂ z u (E' : Value → Shared → Prop), z ∈ xs → Kp s₁.heap s₃.heap → s₁.heap.objs.size ≤ C → s₃.heap.Ns C m₂ → m₂ x = some (.int z u) →
        wpAny (model prog w) A (eval elt (compEnvC scope cl C env)) (fun y s₄ => ∃ h₄ tk₄ t, s₄ = { s₃ with heap := h₄, toks := tk₄ } ∧ Kp s₃.heap h₄ ∧ y = .int (f z) t) E' s₃) ∧
      (∀ D h' tk ys n, Kp s₁.heap h' → s₁.heap.get? D = none → h'.get? D = some (liO ys n) → IntsAre ys.toList (xs.map f) → Q (.ref D) { s₁ with heap := h', toks := tk })) E s)
    (hs : ∀ x, foldedSetIterable iter env x = pure x := by intro _; rfl) :
    wpAny (model prog w) A (eval (.ListComp elt [⟨.Name x px, iter, [], 0⟩] scope pos) env) Q E s := by
  refine wpAny_ListComp_free (fun _ => true) (fun v y => ∀ c u, v = .int c u → ∃ t, y = .int (f c) t) hclos hcell hkind hnames hx (wpAny_mono h (fun xv s₁ h₁ => ?_) fun _ _ e => e) hs
  obtain ⟨l, vs0, xs, n0, rfl, hl, hv0, hz, helt, hQ⟩ := h₁
  have hIs : s₁.heap.IsList l vs0 := ⟨_, hl, rfl, _, rfl⟩
  refine wpAny_pyIter_list hIs ?_
  have hne : l ≠ s₁.heap.objs.size := Nat.ne_of_lt (Heap.lt_size hl)
  have kp : ∀ {h' : Heap}, (∀ b o', b ∉ [s₁.heap.objs.size] → (s₁.heap.push { cls := .type "list_iterator", data := .fields #[.ref l, .int 0 0] }).get? b = some o' → h'.get? b = some o') → Kp s₁.heap h' := fun k b o' e => k b o' (by simpa using Nat.ne_of_lt (Heap.lt_size e)) (Heap.get?_push_of_some _ e)
  refine ⟨_, _, _, _, _, _, rfl, Walks.list hh s₁.heap.objs.size l hne vs0, by rw [sizeLine_eq]; exact Nat.le_trans hz (by decide), ⟨⟨_, Heap.get?_push_size _ rfl, rfl, rfl⟩, hIs.push _⟩, fun b hb => ?_, ⟨?_, ?_⟩, ?_⟩
  · show b < (s₁.heap.push _).objs.size
    rw [Heap.size_push]
    rcases List.mem_cons.mp hb with rfl | hb
    · exact Nat.lt_succ_self _
    · rw [List.mem_singleton.mp hb]; exact Nat.lt_succ_of_lt (Heap.lt_size hl)
  · intro C i v s₃ m₃ E' _ _ _ _ _ _
    exact wpAny_pure ⟨rfl, s₃.heap, s₃.toks, rfl, fun _ _ e => e⟩
  · intro C i v s₃ m₃ E' hC hv _ hn hm hk htk
    obtain ⟨z, u, e4, rfl⟩ := ints_get hv0 (show vs0.toList[i]? = some v by rw [Array.getElem?_toList]; exact hv)
    refine wpAny_mono (helt C s₃ m₃ z u E' (List.mem_of_getElem? e4) (kp hk) (by rw [Heap.size_push] at hC; exact Nat.le_of_succ_le hC) hn hm) (fun y s₄ h₄ => ?_) fun _ _ e => e
    obtain ⟨h₄, tk₄, t, rfl, k4, rfl⟩ := h₄
    exact ⟨fun c' u' e => by cases e; exact ⟨t, rfl⟩, h₄, tk₄, rfl, k4⟩
  · intro D h' tk ys vs hD hl' hpl hlen hP hF hk
    obtain ⟨n, e⟩ := hpl
    refine hQ D h' tk ys n (kp hk) (by cases q : s₁.heap.get? D with | none => rfl | some o' => rw [Heap.get?_push_of_some _ q] at hD; cases hD) e ?_
    rw [filter_true] at hF
    refine paired_ints f hF (by rw [← hv0.length, Array.length_toList]; exact hlen.symm) fun j v y a e1 e2 e3 => ?_
    obtain ⟨c, u, e4, rfl⟩ := ints_get hv0 (show vs0.toList[j]? = some v by rw [Array.getElem?_toList]; exact hP j v e1)
    rw [e4] at e3
    cases e3
    exact e2 _ _ rfl
theorem comp_range_if {elt iter test : Expr} {x : Str} {px pos : Pos} {scope : Scope} {cl : List (Str × Addr)} {Q : Value → Shared → Prop} (tst : Nat → Bool)
    (hclos : closureFor scope env = pure cl) (hcell : ∀ y ∈ scope.names, y.2 ≠ .cell) (hkind : scope.kind = .function)
    (hnames : ∀ y ∈ scope.names, y.2 = .local → scope.names.lookup y.1 = some .local) (hx : scope.names.lookup x = some .local) (hh : A.handled = none)
    (h : wpAny (model prog w) A (eval iter env) (fun xv s₁ => ∃ r n t₁ u₁ v₁, xv = .ref r ∧ IsRange s₁.heap r 0 (n : Nat) 1 t₁ u₁ v₁ ∧ n ≤ 1000 ∧
      (∀ C (s₃ : Shared) m₂ k u (E' : Value → Shared → Prop), k < n → Kp s₁.heap s₃.heap → s₁.heap.objs.size ≤ C → s₃.heap.Ns C m₂ → m₂ x = some (.int (k : Nat) u) →
        wpAny (model prog w) A (isTrue test (compEnvC scope cl C env) (eval test (compEnvC scope cl C env))) (fun b s₄ => ∃ h₄ tk₄, s₄ = { s₃ with heap := h₄, toks := tk₄ } ∧ Kp s₃.heap h₄ ∧ b = tst k) E' s₃) ∧
      (∀ C (s₃ : Shared) m₂ k u (E' : Value → Shared → Prop), k < n → Kp s₁.heap s₃.heap → s₁.heap.objs.size ≤ C → s₃.heap.Ns C m₂ → m₂ x = some (.int (k : Nat) u) →
        wpAny (model prog w) A (eval elt (compEnvC scope cl C env)) (fun y s₄ => ∃ h₄ tk₄ t, s₄ = { s₃ with heap := h₄, toks := tk₄ } ∧ Kp s₃.heap h₄ ∧ y = .int (k : Nat) t) E' s₃) ∧
      (∀ D h' tk ys n', Kp s₁.heap h' → s₁.heap.get? D = none → h'.get? D = some (liO ys n') → IntsAre ys.toList (((List.range n).filter tst).map Int.ofNat) → Q (.ref D) { s₁ with heap := h', toks := tk })) E s)
    (hs : ∀ x, foldedSetIterable iter env x = pure x := by intro _; rfl) :
    wpAny (model prog w) A (eval (.ListComp elt [⟨.Name x px, iter, [test], 0⟩] scope pos) env) Q E s := by
  refine wpAny_ListComp_free (fun v => match v with | .int i _ => tst i.toNat | _ => false) (fun v y => ∀ c u, v = .int c u → ∃ t, y = .int c t) hclos hcell hkind hnames hx (wpAny_mono h (fun xv s₁ h₁ => ?_) fun _ _ e => e) hs
  obtain ⟨r, n, t₁, u₁, v₁, rfl, hr, hn, htest, helt, hQ⟩ := h₁
  have hsz : Builtin.Range.rangeSize 0 (n : Int) 1 = (n : Int) := by simp only [Builtin.Range.rangeSize]; split <;> (try split) <;> lia
  have hsm : Builtin.Range.small 0 (n : Int) 1 = true := small_up (by (with_reducible exact nnD (by assumption) (by decide)))
  refine wpAny_pyIter_range hr hsm ?_
  have kp : ∀ {h' : Heap}, (∀ b o', b ∉ [s₁.heap.objs.size] → (s₁.heap.push { cls := .type "range_iterator", data := .fields #[rawInt 0, rawInt (Builtin.Range.rangeSize 0 (n : Int) 1), rawInt 1] }).get? b = some o' → h'.get? b = some o') → Kp s₁.heap h' := fun k b o' e => k b o' (by simpa using Nat.ne_of_lt (Heap.lt_size e)) (Heap.get?_push_of_some _ e)
  refine ⟨_, _, _, _, _, _, rfl, walks_lt (Walks.range hh s₁.heap.objs.size 0 1 n), by rw [sizeLine_eq]; (with_reducible exact nnD (by assumption) (by decide)), ?_, fun b hb => ?_, ⟨?_, ?_⟩, ?_⟩
  · rw [hsz]
    show IsRangeIter _ _ _ _ _
    simpa using (show IsRangeIter (s₁.heap.push { cls := .type "range_iterator", data := .fields #[rawInt 0, rawInt (n : Int), rawInt 1] }) s₁.heap.objs.size 0 n 1 from Heap.get?_push_size _ rfl)
  · rw [List.mem_singleton.mp hb]
    show _ < (s₁.heap.push _).objs.size
    rw [Heap.size_push]
    exact Nat.lt_succ_self _
  · intro C i v s₃ m₃ E' hC hv hn3 hm hk htk
    obtain ⟨hi, t, rfl⟩ := hv
    rw [nnK] at hm
    refine wpAny_tests_one (wpAny_mono (htest C s₃ m₃ i t E' hi (kp hk) (by rw [Heap.size_push] at hC; exact Nat.le_of_succ_le hC) hn3 hm) (fun b s₄ h₄ => ?_) fun _ _ e => e)
    obtain ⟨h₄, tk₄, rfl, k4, rfl⟩ := h₄
    exact ⟨by show tst i = tst (0 + (i : Int) * 1).toNat; rw [nnJ], h₄, tk₄, rfl, k4⟩
  · intro C i v s₃ m₃ E' hC hv hpv hn3 hm hk htk
    obtain ⟨hi, t, rfl⟩ := hv
    rw [nnK] at hm
    refine wpAny_mono (helt C s₃ m₃ i t E' hi (kp hk) (by rw [Heap.size_push] at hC; exact Nat.le_of_succ_le hC) hn3 hm) (fun y s₄ h₄ => ?_) fun _ _ e => e
    obtain ⟨h₄, tk₄, t', rfl, k4, rfl⟩ := h₄
    exact ⟨fun c' u' e => by cases e; exact ⟨t', by rw [nnK]⟩, h₄, tk₄, rfl, k4⟩
  · intro D h' tk ys vs hD hl' hpl hlen hP hF hk
    obtain ⟨n', e⟩ := hpl
    refine hQ D h' tk ys n' (kp hk) (by cases q : s₁.heap.get? D with | none => rfl | some o' => rw [Heap.get?_push_of_some _ q] at hD; cases hD) e ?_
    have hvs : ∀ (j : Nat) (v : Value), vs[j]? = some v → ∃ t, v = .int ((j : Nat) : Int) t := fun j v e => by
      obtain ⟨-, t, rfl⟩ := hP j v e
      exact ⟨t, by rw [show (0 + (j : Int) * 1) = ((j : Nat) : Int) by (with_reducible exact nnK _)]⟩
    have h1 := filter_ints tst vs 0 (fun j v e => by rw [Nat.zero_add]; exact hvs j v e)
    rw [hlen, ← List.range_eq_range'] at h1
    exact paired_same h1 hF
end
end
section
open PySem PySem.W PyProof.Rows PySem.Calls
set_option Elab.async false
set_option maxRecDepth 100000
set_option maxHeartbeats 1000000

theorem fillWy : PySem.Challenge.rw_pe0168_01 = PySem.Challenge.rw_pe0168_01 → Mine.hd.heap_1 = Mine.hd.heap_1 := by
  k_fill
  intro _; rfl


theorem law_ways_ok {w : World} {p : Program} {loose mg mb} {dp un gd fr} {s : Shared} {Q E} {cl : Addr} {items : Array Value} {ep : Nat} {cs : List Nat}
   (C : Cx (Mine.hd.heap_1 w.params) p loose mg mb s.heap) (hd : dp + 2 < recursionLimit) (hcl : s.heap.get? cl = some (liO items ep)) (hi : IntsAre items.toList (cs.map Int.ofNat)) (hlen : cs.length ≤ 8)
   (hQ : ∀ s' D vs ep', Sm s s' → Kp s.heap s'.heap → s.heap.get? D = none → s'.heap.get? D = some (liO vs ep') → IntsAre vs.toList ((waysOf cs).map Int.ofNat) → Q (.ref D) s') :
   wpAny (model PySem.Challenge.pw_pe0168_01 w) (aT dp un gd fr) (call (.ref 263) [.ref cl]) Q E s := by
  w_on
  k_dflt (refine enterCells (binds := [(Str.ofString "changes", .ref cl)]) C (by k_is) (by k_is) (by show dp < recursionLimit; (with_reducible exact nnC (by assumption))) (BindsTo.of_eq rfl) ?hk (by decide) ?_ rfl rfl rfl)
  case hk => intro n; exact List.forall_mem_cons.mpr ⟨.inl rfl, List.forall_mem_nil _⟩
  intro L' h₁ tk cells F N Y X T
  change Fr s.heap _ _ (lmap [(Str.ofString "changes", some (.ref cl))]) at F
  obtain ⟨oc1, rfl, hc1⟩ := CellsAre.one Y
  clear Y
  replace hc1 : oc1.data = .cell none := hc1
  (repeat' ((fail_if_success (with_reducible show wpAny _ _ (exec (Stmt.For _ _ _ _ _) _) _ _ _)); (fail_if_success (with_reducible show wpAny _ _ (pyIter _) _ _ _)); (fail_if_success (with_reducible show wpAny _ _ (eval (Expr.ListComp _ _ _ _) _) _ _ _)); (fail_if_success (with_reducible show wpAny _ _ (binaryOp _ (Value.ref _) (Value.ref _)) _ _ _)); (first | walk1 | (dsimp only; walk1)); (try dsimp only)))
  refine wpAny_For ?_ (by intro _; rfl)
  (repeat' ((fail_if_success (with_reducible show wpAny _ _ (exec (Stmt.For _ _ _ _ _) _) _ _ _)); (fail_if_success (with_reducible show wpAny _ _ (pyIter _) _ _ _)); (fail_if_success (with_reducible show wpAny _ _ (eval (Expr.ListComp _ _ _ _) _) _ _ _)); (fail_if_success (with_reducible show wpAny _ _ (binaryOp _ (Value.ref _) (Value.ref _)) _ _ _)); (first | walk1 | (dsimp only; walk1)); (try dsimp only)))
  rename_i WK hA lA hB F2 N2
  refine iter_cell (σ := Addr × Array Value × Nat) (c := L' + 1) (ov := none) (fun _ a => [(Str.ofString "ways", some (.ref a.1)), (Str.ofString "changes", some (.ref cl))])
    (fun _ a => [(a.1, liO a.2.1 a.2.2)]) (fun i a => a.1 ≠ L' + 1 ∧ IntsAre a.2.1.toList ((waysOf (cs.take i)).map Int.ofNat)) (WK, #[.int 0 _], 0) (by rfl) hcl F2 (fun _ => rfl)
    (fun q hq => N2 q (by rw [List.mem_singleton.mp hq]; exact .head _)) ⟨Nat.ne_of_gt lA, .cons _ _ .nil⟩ ⟨_, (N2 (L' + 1, _) (.tail _ (.head _))).1, hc1⟩ (Nat.ne_of_gt (Nat.lt_succ_self _)) (N2 (L' + 1, _) (.tail _ (.head _))).2.2 (fun i a hs q hq => by rw [List.mem_singleton.mp hq]; exact hs.1) ?_ ?_ (by rfl) (by rfl) (by rfl)
  · intro i v a s3 I oI oc hvi hs sm3 hne3 cI hoc F3 N3
    refine turn_abs fun R hR => ?_
    obtain ⟨x, t, ex, rfl⟩ := ints_get hi (show items.toList[i]? = some v by rw [Array.getElem?_toList]; exact hvi)
    rw [List.getElem?_map] at ex
    obtain ⟨c, ec, rfl⟩ := Option.map_eq_some_iff.mp ex
    obtain ⟨wk, wv, we⟩ := a
    obtain ⟨hwc, hs⟩ := hs
    dsimp only at hwc hs F3 N3 hne3
    have hwl : (waysOf (cs.take i)).length ≤ 256 := by
      rw [ways_len]
      exact Nat.pow_le_pow_right (by decide) (by rw [List.length_take]; (with_reducible exact nnH (by assumption)) : (cs.take i).length ≤ 8)
    clear F2 N2
    (repeat' ((fail_if_success (with_reducible show wpAny _ _ (exec (Stmt.For _ _ _ _ _) _) _ _ _)); (fail_if_success (with_reducible show wpAny _ _ (pyIter _) _ _ _)); (fail_if_success (with_reducible show wpAny _ _ (eval (Expr.ListComp _ _ _ _) _) _ _ _)); (fail_if_success (with_reducible show wpAny _ _ (binaryOp _ (Value.ref _) (Value.ref _)) _ _ _)); (first | walk1 | (dsimp only; walk1)); (try dsimp only)))
    refine comp_ints (fun y => Builtin.bitXor y (c : Nat)) (by rfl) (by decide) (by rfl) (by decide) (by rfl) (by rfl) ?_
    walk1
    (try dsimp only)
    rename Fr _ _ _ _ => F4
    rename News _ _ _ _ => N4
    have oW := N4 (wk, liO wv we) (.tail _ (.tail _ (.head _)))
    have oc4 := N4 (L' + 1, oc) (.head _)
    refine ⟨wk, wv, _, we, rfl, oW.1, hs, ?_, ?_, ?_⟩
    · have := hs.length
      rw [Array.length_toList, List.length_map] at this
      lia
    · intro C s5 m5 y u E' hy kp5 hC5 hn5 hm5
      refine wpAny_BinOp (elt_name rfl rfl hn5 hm5 ?_ (by decide))
      refine wpAny_Name (wpAny_loadName_cell (c := L' + 1) rfl rfl rfl ⟨oc, kp5 _ _ oc4.1, hoc⟩ ?_) (by decide)
      walk1
      exact ⟨s5.heap, _, _, rfl, Kp.refl _, rfl⟩
    · intro D h6 tk6 ys e6 kp6 nD6 gD6 hI6
      have F6 := fr_keeps F4 kp6
      have fD := fresh_of F4 nD6
      have N6 : News s.heap L' h6 [(D, liO ys e6), (L' + 1, oc), (I, oI), (wk, liO wv we)] := fun q hq => by
        rcases List.mem_cons.mp hq with rfl | hq
        · exact ⟨gD6, fD⟩
        · exact news_keeps N4 kp6 q hq
      clear F4 N4
      (repeat' ((fail_if_success (with_reducible show wpAny _ _ (exec (Stmt.For _ _ _ _ _) _) _ _ _)); (fail_if_success (with_reducible show wpAny _ _ (pyIter _) _ _ _)); (fail_if_success (with_reducible show wpAny _ _ (eval (Expr.ListComp _ _ _ _) _) _ _ _)); (fail_if_success (with_reducible show wpAny _ _ (binaryOp _ (Value.ref _) (Value.ref _)) _ _ _)); (first | walk1 | (dsimp only; walk1)); (try dsimp only)))
      refine add_lists_ints (s := ⟨h6, s3.gens, s3.drawn, _, s3.os⟩) F6 N6 (l := wk) (b := D) (vs := wv.toList) (ws := ys.toList) ⟨_, (N6 (wk, liO wv we) (.tail _ (.tail _ (.tail _ (.head _))))).1, rfl, _, rfl⟩ ⟨_, gD6, rfl, _, rfl⟩ hs hI6 ?_ (by rw [List.length_map, List.length_map, List.length_map, sizeLine_eq]; lia)
      intro h7 F7 N7 hI7
      (repeat' ((fail_if_success (with_reducible show wpAny _ _ (exec (Stmt.For _ _ _ _ _) _) _ _ _)); (fail_if_success (with_reducible show wpAny _ _ (pyIter _) _ _ _)); (fail_if_success (with_reducible show wpAny _ _ (eval (Expr.ListComp _ _ _ _) _) _ _ _)); (fail_if_success (with_reducible show wpAny _ _ (binaryOp _ (Value.ref _) (Value.ref _)) _ _ _)); (first | walk1 | (dsimp only; walk1)); (try dsimp only)))
      rename Fr _ _ _ _ => F8
      rename News _ _ _ _ => N8
      have hI7' : IntsAre (wv.toList ++ ys.toList) ((waysOf (cs.take (i + 1))).map Int.ofNat) := by
        rw [ways_take cs ec, List.map_append, List.map_map]
        rw [List.map_map] at hI7
        have e : ((fun y => Builtin.bitXor y (c : Int)) ∘ Int.ofNat) = (Int.ofNat ∘ fun x => x ^^^ c) := funext fun x => bitXor_nat x c
        rw [e] at hI7
        exact hI7
      have l6 : L' + 1 < h6.objs.size := Heap.lt_size (N6 (L' + 1, oc) (.tail _ (.head _))).1
      have lI : I < h6.objs.size := Heap.lt_size (N6 (I, oI) (.tail _ (.tail _ (.head _)))).1
      refine hR _ _ ?_
      refine ⟨_, (h6.objs.size, (wv.toList ++ ys.toList).toArray, 0), ⟨sm3.1, sm3.2.1, sm3.2.2⟩, F8, fun q hq => ?_, fun q hq => ?_, fun y => ?_, Nat.ne_of_gt l6, hI7'⟩
      · simp only [List.mem_cons, List.not_mem_nil, or_false] at hq
        rcases hq with rfl | rfl | rfl
        · exact N8 _ (.tail _ (.tail _ (.head _)))
        · exact N8 _ (.tail _ (.tail _ (.tail _ (.head _))))
        · exact N8 _ (.head _)
      · rw [List.mem_singleton.mp hq]
        exact Nat.ne_of_gt lI
      · show (if y = _ then _ else if y = _ then _ else if y = _ then _ else none) = (if y = _ then _ else if y = _ then _ else none)
        by_cases h1 : y = Str.ofString "ways"
        · simp [h1]
        · simp only [if_neg h1]
  · intro a s3 hs sm3 F3 N3
    have hz : items.size = cs.length := by have := hi.length; rw [Array.length_toList, List.length_map] at this; exact this
    rw [hz, List.take_length] at hs
    (repeat' ((fail_if_success (with_reducible show wpAny _ _ (exec (Stmt.For _ _ _ _ _) _) _ _ _)); (fail_if_success (with_reducible show wpAny _ _ (pyIter _) _ _ _)); (fail_if_success (with_reducible show wpAny _ _ (eval (Expr.ListComp _ _ _ _) _) _ _ _)); (fail_if_success (with_reducible show wpAny _ _ (binaryOp _ (Value.ref _) (Value.ref _)) _ _ _)); (first | walk1 | (dsimp only; walk1)); (try dsimp only)))
    exact hQ _ a.1 a.2.1 a.2.2 ⟨sm3.1, sm3.2.1, sm3.2.2⟩ F3.keep (N3 _ (.head _)).2.2 (N3 _ (.head _)).1 hs.2
end
section
open PySem PySem.W PyProof.Rows
set_option Elab.async false
set_option maxRecDepth 100000
set_option maxHeartbeats 8000000

theorem fillM : PySem.Challenge.rw_pe0168_01 = PySem.Challenge.rw_pe0168_01 → Mine.hd.heap_1 = Mine.hd.heap_1 := by
  k_fill
  intro _; rfl


noncomputable abbrev accO (ad : Addr) (items : Array Value) (ep : Nat) : Obj := ⟨.ref 200, some ad, .seq items ep, #[]⟩
noncomputable abbrev adO (hs : Int) (kt : Tok) (v : Value) : Obj := ⟨.type "dict", none, .dict #[⟨hs, .str (Str.ofString "_initial_size") kt, v⟩] 1, #[]⟩

theorem accS (w : World) : SubL (Mine.hd.heap_1 w.params) 200 := ⟨by k_is, by k_is, by k_is⟩
theorem accI {h : Heap} {x ad : Addr} {items : Array Value} {ep : Nat} {od : Obj} (hx : h.get? x = some (accO ad items ep)) (had : h.get? ad = some od) : InstAt h x (accO ad items ep) 200 (some od) := ⟨hx, rfl, rfl, had⟩
theorem acc_append (w : World) : findIn (Mine.hd.heap_1 w.params) (.ref 200) "append" = some (some (.builtin "list.append")) := by k_is
theorem acc_getitem (w : World) : findIn (Mine.hd.heap_1 w.params) (.ref 200) "__getitem__" = some (some (.builtin "list.__getitem__")) := by k_is
theorem acc_setitem (w : World) : findIn (Mine.hd.heap_1 w.params) (.ref 200) "__setitem__" = some (some (.builtin "list.__setitem__")) := by k_is
theorem acc_iter (w : World) : findIn (Mine.hd.heap_1 w.params) (.ref 200) "__iter__" = some (some (.builtin "list.__iter__")) := by k_is
theorem acc_setattr (w : World) : findIn (Mine.hd.heap_1 w.params) (.ref 200) "__setattr__" = some (some (.builtin "object.__setattr__")) := by k_is
theorem acc_noseq (w : World) : noSeq (Mine.hd.heap_1 w.params) 200 = true := by k_is
theorem acc_md (w : World) : typeIn (Mine.hd.heap_1 w.params) (.builtin "list.append") = some (.type "method_descriptor") := by k_is

theorem push_okC {w : World} {p : Program} {loose mg mb} {dp un gd fr} {s : Shared} {R} {x ad : Addr} {items : Array Value} {ep : Nat} {hs kt iv} {a b : Value}
   (C : Sx (Mine.hd.heap_1 w.params) p loose mg mb [x] s.heap) (hd : dp + 2 < recursionLimit) (hx : s.heap.get? x = some (accO ad items ep)) (had : s.heap.get? ad = some (adO hs kt iv)) (hz : items.size ≤ 1000)
   (hQ : ∀ h' tk q, KB [x] s.heap h' → s.heap.get? q = none → h'.get? q = some (tup2 a b) → h'.get? x = some (accO ad (items.push (.ref q)) (ep + 1)) → R (.ok (.ret .none)) { s with heap := h', toks := tk }) :
   codeAny (model PySem.Challenge.pw_pe0168_01 w) (aT dp un gd fr) (.call (.ref 144) ⟨[.ref x, a, b], []⟩) R s := by
  w_on
  k_dflt (refine enterHC (binds := [(Str.ofString "self", .ref x), (Str.ofString "fws", a), (Str.ofString "string", b)]) [(x, accO ad items ep)] C (by k_is) (by k_is) (by show dp < recursionLimit; (with_reducible exact nnC (by assumption))) (BindsTo.of_eq rfl) (locs rfl) ?hn ?_ rfl rfl rfl (by decide))
  case hn => exact List.forall_mem_cons.mpr ⟨⟨.head _, hx⟩, List.forall_mem_nil _⟩
  intro L' h₁ tk F N X T
  change Fr _ _ _ (lmap [(Str.ofString "string", some b), (Str.ofString "fws", some a), (Str.ofString "self", some (.ref x))]) at F
  have hne : ad ≠ x := ne_of_cls had hx (by intro q; cases q)
  have gd0 : (hideAll s.heap [x]).get? ad = some (adO hs kt iv) := hid_get had (by simpa using hne)
  (repeat' ((first | walk1 | (dsimp only; walk1)); (try dsimp only)))
  refine sub_method (X.keeps F.keep) (accI (N _ (.head _)).1 (F.keep _ _ gd0)) (accS w) (acc_append w) (by rw [acc_md]; rfl) (by rfl) ?_
  dsimp only
  (repeat' ((first | walk1 | (dsimp only; walk1)); (try dsimp only)))
  rename Fr _ _ _ _ => F2
  rename News _ _ _ _ => N2
  refine sub_append (N2 _ (.tail _ (.head _))).1 (sub_inst (X.keeps F2.keep) (accI (N2 _ (.tail _ (.head _))).1 (F2.keep _ _ gd0)) (accS w)) (by rw [sizeLine_eq]; (with_reducible exact nnD (by assumption) (by decide))) ?_
  intro h2 hx2 sb
  (repeat' ((first | walk1 | (dsimp only; walk1)); (try dsimp only)))
  have hD := N2 _ (.head _)
  have hne2 : _ ≠ x := Nat.ne_of_gt (by assumption)
  exact hQ _ _ _ (kb_same (kb_of F2) sb (.head _)) (new_of hD.2.2 (by simpa using hne2)) (sb.extBut _ _ hne2 hD.1) hx2
end
section
open PySem PySem.W PyProof.Rows PySem.Calls
set_option Elab.async false
set_option maxRecDepth 100000
set_option maxHeartbeats 8000000

theorem fillM2 : PySem.Challenge.rw_pe0168_01 = PySem.Challenge.rw_pe0168_01 → Mine.hd.heap_1 = Mine.hd.heap_1 := by
  k_fill
  intro _; rfl



theorem part_count_ok {w : World} {p : Program} {loose mg mb} {dp un gd fr} {s : Shared} {Q E} {x ad : Addr} {items : Array Value} {ep : Nat} {hs kt iv}
   (C : Cx (Mine.hd.heap_1 w.params) p loose mg mb s.heap) (hd : dp + 2 < recursionLimit) (hx : s.heap.get? x = some (accO ad items ep)) (had : s.heap.get? ad = some (adO hs kt iv))
   (hQ : ∀ t h' tk, (∀ b o, s.heap.get? b = some o → h'.get? b = some o) → Q (.int items.size t) { s with heap := h', toks := tk }) :
   wpAny (model PySem.Challenge.pw_pe0168_01 w) (aT dp un gd fr) (call (.ref 197) [.ref x]) Q E s := by
  w_on
  k_dflt (refine enterS (fp := []) (binds := [(Str.ofString "self", .ref x)]) [] ⟨C.X, C.T⟩ (by k_is) (by k_is) (by show dp < recursionLimit; (with_reducible exact nnC (by assumption))) (BindsTo.of_eq rfl) (locs rfl) (fun q hq => by cases hq) ?_ rfl rfl rfl (by decide))
  intro L' h₁ tk F N X T
  change Fr s.heap _ _ (lmap [(Str.ofString "self", some (.ref x))]) at F
  have I1 := accI (F.keep _ _ hx) (F.keep _ _ had)
  refine ks_wpAt_execs_cons (ks_wpAt_Return_some (ks_wpAt_MethodCall ?_))
  k_dflt (refine super_node F X T (by k_is) (by rfl) (by rfl) I1 (by k_is) (by rfl) (by first | rfl | decide +kernel) (by k_is) (by k_is) (by k_is) (by k_is) (by decide) (by rfl) (by rfl) (by rfl) (by rfl) (by decide +kernel) (by first | boot_by_name | rfl | kernel_rfl) ?_)
  intro h2 hso k2
  have K2 : ∀ b o, s.heap.get? b = some o → h2.get? b = some o := fun b o e => k2 b o (F.keep b o e)
  have I2 := accI (K2 _ _ hx) (K2 _ _ had)
  k_dflt (refine super_meth' hso (C.X.keeps K2) I2 (accS w) (by k_is) (by ks_is) bnd_len (by decide) ?_)
  refine callWith_bnd0 (Heap.get?_push_size _ rfl) (.inl rfl) ?_
  refine bnd_call (Heap.get?_push_size _ rfl) (.inl rfl) (by decide +kernel) e_len chk_len ?_
  refine raw_len (Heap.get?_push_of_some _ (K2 _ _ hx)) ?_
  exact hQ _ _ _ fun b o e => Heap.get?_push_of_some _ (K2 b o e)

theorem pop_some_ok {w : World} {p : Program} {loose mg mb} {dp un gd fr} {s : Shared} {Q E} {x ad : Addr} {items : Array Value} {ep : Nat} {hs kt iv} {v : Value}
   (C : Sx (Mine.hd.heap_1 w.params) p loose mg mb [x] s.heap) (hd : dp + 3 < recursionLimit) (hx : s.heap.get? x = some (accO ad (items.push v) ep)) (had : s.heap.get? ad = some (adO hs kt iv)) (hz : items.size ≤ 1000)
   (hQ : ∀ h' tk, KB [x] s.heap h' → h'.get? x = some (accO ad items (ep + 1)) → Q v { s with heap := h', toks := tk }) :
   wpAny (model PySem.Challenge.pw_pe0168_01 w) (aT dp un gd fr) (call (.ref 160) [.ref x]) Q E s := by
  w_on
  k_dflt (refine enterS (fp := [x]) (binds := [(Str.ofString "self", .ref x)]) [(x, accO ad (items.push v) ep)] C (by k_is) (by k_is) (by show dp < recursionLimit; (with_reducible exact nnC (by assumption))) (BindsTo.of_eq rfl) (locs rfl) ?hn ?_ rfl rfl rfl (by decide))
  case hn => exact List.forall_mem_cons.mpr ⟨⟨.head _, hx⟩, List.forall_mem_nil _⟩
  intro L' h₁ tk F N X T
  change Fr _ _ _ (lmap [(Str.ofString "self", some (.ref x))]) at F
  have hne : ad ≠ x := ne_of_cls had hx (by intro q; cases q)
  have gd0 : (hideAll s.heap [x]).get? ad = some (adO hs kt iv) := hid_get had (by simpa using hne)
  have I1 := accI (N _ (.head _)).1 (F.keep _ _ gd0)
  refine ks_wpAt_execs_cons (ks_wpAt_If (PySem.wpAt_of_wpAny ?_))
  (repeat' ((first | walk1 | (dsimp only; walk1)); (try dsimp only)))
  k_dflt (refine sub_meth_fn (X.keeps F.keep) I1 (accS w) (by k_is) (by k_is) (by rfl) ?_)
  dsimp only
  (repeat' ((first | walk1 | (dsimp only; walk1)); (try dsimp only)))
  show wpAny _ _ (call (.ref 197) [.ref x]) _ _ _
  refine part_count_ok ⟨X.keeps F.keep, T.keeps F.keep⟩ (by show dp + 1 + 2 < recursionLimit; (with_reducible exact nnA (by assumption) (by decide))) (N _ (.head _)).1 (F.keep _ _ gd0) ?_
  intro t2 h2 tk2 k2
  replace F := fr_keeps F k2
  replace N := news_keeps N k2
  clear I1 k2
  (repeat' ((fail_if_success (with_reducible show PySem.wpAt _ _ _ _ _ _ _)); (first | walk1 | (dsimp only; walk1)); (try dsimp only)))
  · rename _ = (0 : Int) => hbad
    rw [Array.size_push] at hbad
    lia
  · refine PySem.wpAt_of_wpAny (wpAny_of_eq (a := Flow.next) rfl ?_)
    dsimp only
    refine ks_wpAt_execs_cons (ks_wpAt_Return_some (ks_wpAt_MethodCall ?_))
    have I1 := accI (N _ (.head _)).1 (F.keep _ _ gd0)
    k_dflt (refine super_node F X T (by k_is) (by rfl) (by rfl) I1 (by k_is) (by rfl) (by first | rfl | decide +kernel) (by k_is) (by k_is) (by k_is) (by k_is) (by decide) (by rfl) (by rfl) (by rfl) (by rfl) (by decide +kernel) (by first | boot_by_name | rfl | kernel_rfl) ?_)
    intro h3 hso k3
    replace F := fr_keeps F k3
    replace N := news_keeps N k3
    have I2 := accI (N _ (.head _)).1 (F.keep _ _ gd0)
    k_dflt (refine super_meth' hso (X.keeps F.keep) I2 (accS w) (by k_is) (by ks_is) bnd_pop (by decide) ?_)
    have k4 : ∀ b o, h3.get? b = some o → (h3.push (bndO "builtin_function_or_method" "list.pop" x)).get? b = some o := fun b o e => Heap.get?_push_of_some _ e
    replace F := fr_keeps F k4
    replace N := news_keeps N k4
    have I3 := accI (N _ (.head _)).1 (F.keep _ _ gd0)
    refine callWith_bnd0 (Heap.get?_push_size _ rfl) (.inr rfl) ?_
    k_dflt (refine bnd_call (Heap.get?_push_size _ rfl) (.inr rfl) (by decide +kernel) e_pop (chk_pop (X.keeps F.keep) I3 (by k_is) (by k_is) (by k_is) (by decide +kernel)) ?_)
    refine raw_pop (N _ (.head _)).1 (by rw [sizeLine_eq]; lia) ?_
    intro h5 hx5 sb
    exact hQ _ _ (kb_same (kb_of F) sb (.head _)) hx5
end
section
open PySem PySem.W PyProof.Rows PySem.Calls
set_option Elab.async false
set_option maxRecDepth 100000
set_option maxHeartbeats 8000000

theorem fillM3 : PySem.Challenge.rw_pe0168_01 = PySem.Challenge.rw_pe0168_01 → Mine.hd.heap_1 = Mine.hd.heap_1 := by
  k_fill
  intro _; rfl


theorem pop_empty_ok {w : World} {p : Program} {loose mg mb} {dp un gd fr} {s : Shared} {Q E} {x ad : Addr} {ep : Nat} {hs kt iv}
   (C : Cx (Mine.hd.heap_1 w.params) p loose mg mb s.heap) (hd : dp + 3 < recursionLimit) (hx : s.heap.get? x = some (accO ad #[] ep)) (had : s.heap.get? ad = some (adO hs kt iv))
   (hQ : ∀ t u q h' tk, (∀ b o, s.heap.get? b = some o → h'.get? b = some o) → s.heap.get? q = none → h'.get? q = some (tup2 (.str (Str.ofString "") t) (.str (Str.ofString "") u)) → Q (.ref q) { s with heap := h', toks := tk }) :
   wpAny (model PySem.Challenge.pw_pe0168_01 w) (aT dp un gd fr) (call (.ref 160) [.ref x]) Q E s := by
  w_on
  k_dflt (refine enterS (fp := []) (binds := [(Str.ofString "self", .ref x)]) [] ⟨C.X, C.T⟩ (by k_is) (by k_is) (by show dp < recursionLimit; (with_reducible exact nnC (by assumption))) (BindsTo.of_eq rfl) (locs rfl) (fun q hq => by cases hq) ?_ rfl rfl rfl (by decide))
  intro L' h₁ tk F N X T
  change Fr s.heap _ _ (lmap [(Str.ofString "self", some (.ref x))]) at F
  have I1 := accI (F.keep _ _ hx) (F.keep _ _ had)
  refine ks_wpAt_execs_cons (ks_wpAt_If (PySem.wpAt_of_wpAny ?_))
  (repeat' ((first | walk1 | (dsimp only; walk1)); (try dsimp only)))
  k_dflt (refine sub_meth_fn (X.keeps F.keep) I1 (accS w) (by k_is) (by k_is) (by rfl) ?_)
  dsimp only
  (repeat' ((first | walk1 | (dsimp only; walk1)); (try dsimp only)))
  show wpAny _ _ (call (.ref 197) [.ref x]) _ _ _
  refine part_count_ok ⟨X.keeps F.keep, T.keeps F.keep⟩ (by show dp + 1 + 2 < recursionLimit; (with_reducible exact nnA (by assumption) (by decide))) (F.keep _ _ hx) (F.keep _ _ had) ?_
  intro t2 h2 tk2 k2
  replace F := fr_keeps F k2
  replace N := news_keeps N k2
  clear I1 k2
  (repeat' ((first | walk1 | (dsimp only; walk1)); (try dsimp only)))
  rename News _ _ _ _ => N3
  rename Fr _ _ _ _ => F3
  have hD := N3 _ (.head _)
  exact hQ _ _ _ _ _ F3.keep hD.2.2 hD.1

theorem pop_from_ok {w : World} {p : Program} {loose mg mb} {dp un gd fr} {s : Shared} {Q E} {x ad : Addr} {items : Array Value} {ep : Nat} {hs kt iv} {i : Nat} {t : Tok} {z : Int}
   (C : Sx (Mine.hd.heap_1 w.params) p loose mg mb [x] s.heap) (hd : dp + 2 < recursionLimit) (hx : s.heap.get? x = some (accO ad items ep)) (had : s.heap.get? ad = some (adO hs kt iv)) (hz : items.size ≤ 1000) (hzi : z = (i : Nat)) (hi : i ≤ items.size)
   (hQ : ∀ h' tk q ep', KB [x] s.heap h' → s.heap.get? q = none → h'.get? q = some ⟨.type "list", none, .seq (items.toList.drop i).toArray 0, #[]⟩ → h'.get? x = some (accO ad (items.toList.take i).toArray ep') → Q (.ref q) { s with heap := h', toks := tk }) :
   wpAny (model PySem.Challenge.pw_pe0168_01 w) (aT dp un gd fr) (call (.ref 152) [.ref x, .int z t]) Q E s := by
  subst hzi
  w_on
  k_dflt (refine enterH (binds := [(Str.ofString "self", .ref x), (Str.ofString "i", .int (i : Nat) t)]) [(x, accO ad items ep)] C (by k_is) (by k_is) (by show dp < recursionLimit; (with_reducible exact nnC (by assumption))) (kp_binds C.cx.X (fun _ => rfl)) (locs rfl) ?hn ?_ rfl rfl rfl (by decide))
  case hn => exact List.forall_mem_cons.mpr ⟨⟨.head _, hx⟩, List.forall_mem_nil _⟩
  intro L' h₁ tk F N X T
  change Fr _ _ _ (lmap [(Str.ofString "i", some (.int (i : Nat) t)), (Str.ofString "self", some (.ref x))]) at F
  have hne : ad ≠ x := ne_of_cls had hx (by intro q; cases q)
  have gd0 : (hideAll s.heap [x]).get? ad = some (adO hs kt iv) := hid_get had (by simpa using hne)
  (repeat' ((first | walk1 | (dsimp only; walk1)); (try dsimp only)))
  have Fs := F.push { cls := .type "slice", data := .fields #[.int (i : Nat) t, .none, .none] }
  have Ns := news_push N { cls := .type "slice", data := .fields #[.int (i : Nat) t, .none, .none] }
  have I2 := accI (Ns _ (.head _)).1 (Fs.keep _ _ gd0)
  refine sub_subscript (ops := [.ref h₁.objs.size, .ref x]) (X.keeps Fs.keep) I2 (acc_getitem w) (sub_slice (X.keeps Fs.keep) I2 (accS w) rfl (acc_noseq w) (acc_getitem w) (Heap.IsSliceOf.new ..) (.int _ _) .none (by rw [sizeLine_eq]; (with_reducible exact nnD (by assumption) (by decide))) ?_) (by with_unfolding_all rfl)
  dsimp only
  have hl : slicePick items (some (i : Int)) none none = (items.toList.drop i).toArray := by
    rw [kmk_pick_nat (a := i) (b := items.size) items (by simp only [sliceBounds, Option.getD_none, show (1 : Int) > 0 by decide, if_true, if_neg (show ¬ ((i : Int) < 0) by lia)]; congr 1; lia)]
    rw [List.take_of_length_le (by rw [List.length_drop, Array.length_toList]; lia)]
  rw [hl]
  have N3 := Ns.push Fs { cls := .type "list", data := .seq (items.toList.drop i).toArray }
  have F3 := Fs.push { cls := .type "list", data := .seq (items.toList.drop i).toArray }
  clear I2 Fs Ns F N
  (repeat' ((first | walk1 | (dsimp only; walk1)); (try dsimp only)))
  rename Fr _ _ _ _ => F4
  rename News _ _ _ _ => N4
  rename _ ∧ _ => l4
  have F5 := F4.push { cls := .type "slice", data := .fields #[.int (i : Nat) t, .none, .none] }
  have N5 := news_push N4 { cls := .type "slice", data := .fields #[.int (i : Nat) t, .none, .none] }
  have I5 := accI (N5 _ (.tail _ (.tail _ (.head _)))).1 (F5.keep _ _ gd0)
  have hres : items.extract 0 (sliceBounds (some (i : Int)) none none items.size).1.toNat ++ #[] ++ items.extract (max (sliceBounds (some (i : Int)) none none items.size).1 (sliceBounds (some (i : Int)) none none items.size).2.1).toNat items.size = (items.toList.take i).toArray := by
    have e1 : (sliceBounds (some (i : Int)) none none items.size).1 = (i : Int) := by
      simp only [sliceBounds, Option.getD_none, show (1 : Int) > 0 by decide, if_true, if_neg (show ¬ ((i : Int) < 0) by lia)]; lia
    have e2 : (sliceBounds (some (i : Int)) none none items.size).2.1 = (items.size : Int) := by
      simp only [sliceBounds, Option.getD_none, show (1 : Int) > 0 by decide, if_true]
    rw [e1, e2, show (max (i : Int) (items.size : Int)).toNat = items.size by lia, Int.toNat_natCast]
    apply Array.ext'
    simp
  refine sub_setSlice (X.keeps F5.keep) I5 (accS w) rfl (acc_noseq w) (acc_setitem w) (Heap.IsSliceOf.new ..) (.int _ _) .none (N5 _ (.head _)).1 rfl rfl (Nat.ne_of_lt l4.2) _ hres (by rw [sizeLine_eq]; simp; (with_reducible exact nnD (by assumption) (by decide))) (by rw [sizeLine_eq]; simp; lia) ?_
  intro h6 ep6 hx6 sb
  have k6 : KB [x] _ h6 := kb_same (KB.refl _ _) sb (.head _)
  have F6 := fr_but F5 k6 (nf_of N5 (by simp))
  have hq := N5 _ (.tail _ (.head _))
  have hqx : _ ≠ x := ne_of_cls hq.1 (N5 _ (.tail _ (.tail _ (.head _)))).1 (by intro q; cases q)
  have N6 : News _ _ h6 [(_, _)] := news_but N5 k6 [(_, _)] (by intro q hq'; rw [List.mem_singleton.mp hq']; exact .inl ⟨.tail _ (.head _), by simpa using hqx⟩)
  clear F5 N5 F4 N4 I5
  (repeat' ((first | walk1 | (dsimp only; walk1)); (try dsimp only)))
  have hq6 := N6 _ (.head _)
  exact hQ _ _ _ _ (kb_of F6) (new_of hq6.2.2 (by simpa using hqx)) hq6.1 hx6
end
section
open PySem PySem.W PyProof.Rows PySem.Calls
set_option Elab.async false
set_option maxRecDepth 100000
set_option maxHeartbeats 8000000

theorem fillM4 : PySem.Challenge.rw_pe0168_01 = PySem.Challenge.rw_pe0168_01 → Mine.hd.heap_1 = Mine.hd.heap_1 := by
  k_fill
  intro _; rfl


theorem acc_over (w : World) : subOver (Mine.hd.heap_1 w.params) 200 = true := by kernel_rfl
theorem acc_taker (w : World) : takerIn (Mine.hd.heap_1 w.params) 200 (Str.ofString "_initial_size") = some none := by first | k_is | kernel_rfl
theorem ad_put (w : World) (hs : Int) (kt : Tok) (iv v : Value) (tk : Tok) : Obj.putName (Str.ofString "_initial_size") (PyData.keyHash w.params (Str.ofString "_initial_size")) (.str (Str.ofString "_initial_size") tk) v (adO hs kt iv) = adO hs kt v := by kernel_rfl
theorem ad_look (hs : Int) (kt : Tok) (iv : Value) : (lookIn (Str.ofString "_initial_size") (adO hs kt iv)).isSome = true := by kernel_rfl

theorem reset0_ok {w : World} {p : Program} {loose mg mb} {dp un gd fr} {s : Shared} {Q E} {x ad : Addr} {items : Array Value} {ep : Nat} {hs kt iv}
   (C : Sx (Mine.hd.heap_1 w.params) p loose mg mb [x, ad] s.heap) (hd : dp + 2 < recursionLimit) (hx : s.heap.get? x = some (accO ad items ep)) (had : s.heap.get? ad = some (adO hs kt iv)) (hz : items.size ≤ 1000)
   (hQ : ∀ h' tk t ep', KB [x, ad] s.heap h' → h'.get? x = some (accO ad #[] ep') → h'.get? ad = some (adO hs kt (.int 0 t)) → Q .none { s with heap := h', toks := tk }) :
   wpAny (model PySem.Challenge.pw_pe0168_01 w) (aT dp un gd fr) (call (.ref 182) [.ref x]) Q E s := by
  w_on
  k_dflt (refine enterH (binds := [(Str.ofString "self", .ref x), (Str.ofString "startval", .none)]) [(x, accO ad items ep), (ad, adO hs kt iv)] C (by k_is) (by k_is) (by show dp < recursionLimit; (with_reducible exact nnC (by assumption))) (kp_binds C.cx.X (fun _ => rfl)) (locs rfl) ?hn ?_ rfl rfl rfl (by decide))
  case hn => exact List.forall_mem_cons.mpr ⟨⟨.head _, hx⟩, List.forall_mem_cons.mpr ⟨⟨.tail _ (.head _), had⟩, List.forall_mem_nil _⟩⟩
  intro L' h₁ tk F N X T
  change Fr _ _ _ (lmap [(Str.ofString "startval", some .none), (Str.ofString "self", some (.ref x))]) at F
  have hne : ad ≠ x := ne_of_cls had hx (by intro q; cases q)
  (repeat' ((first | walk1 | (dsimp only; walk1)); (try dsimp only)))
  rename Fr _ _ _ _ => F4
  rename News _ _ _ _ => N4
  have F5 := F4.push { cls := .type "slice", data := .fields #[.none, .none, .none] }
  have N5 := news_push N4 { cls := .type "slice", data := .fields #[.none, .none, .none] }
  have I5 := accI (N5 (x, _) (.tail _ (.head _))).1 (N5 (ad, _) (.tail _ (.tail _ (.head _)))).1
  have hres : items.extract 0 (sliceBounds none none none items.size).1.toNat ++ #[] ++ items.extract (max (sliceBounds none none none items.size).1 (sliceBounds none none none items.size).2.1).toNat items.size = #[] := by
    have e1 : (sliceBounds none none none items.size).1 = 0 := by
      simp only [sliceBounds, Option.getD_none, show (1 : Int) > 0 by decide, if_true]
    have e2 : (sliceBounds none none none items.size).2.1 = (items.size : Int) := by
      simp only [sliceBounds, Option.getD_none, show (1 : Int) > 0 by decide, if_true]
    rw [e1, e2, show (max (0 : Int) (items.size : Int)).toNat = items.size by lia]
    apply Array.ext'
    simp
  refine sub_setSlice (X.keeps F5.keep) I5 (accS w) rfl (acc_noseq w) (acc_setitem w) (Heap.IsSliceOf.new ..) .none .none (N5 _ (.head _)).1 rfl rfl (Nat.ne_of_lt (show x < _ from (by assumption : _ ∧ _).1)) _ hres (by rw [sizeLine_eq]; (try simp); (with_reducible exact nnD (by assumption) (by decide))) (by rw [sizeLine_eq]; (try simp); try lia) ?_
  intro h6 ep6 hx6 sb
  have k6 : KB [x] _ h6 := kb_same (KB.refl _ _) sb (.head _)
  have F6 := fr_but F5 k6 (nf_of N5 (by simp))
  have N6 : News _ _ h6 [(x, accO ad #[] ep6), (ad, adO hs kt iv)] := news_but N5 k6 _ (by
    intro q hq'
    rcases List.mem_cons.mp hq' with rfl | hq'
    · exact .inr ⟨hx6, (N5 (x, _) (.tail _ (.head _))).2⟩
    · rw [List.mem_singleton.mp hq']; exact .inl ⟨(.tail _ (.tail _ (.head _))), by simpa using hne⟩)
  clear F5 N5 F4 N4 I5
  (repeat' ((first | walk1 | (dsimp only; walk1)); (try dsimp only)))
  rename Fr _ _ _ _ => F7
  rename News _ _ _ _ => N7
  refine sub_set (od' := fun _ => adO hs kt (.int 0 _)) (es := fun _ => [⟨hs, .str (Str.ofString "_initial_size") kt, .int 0 _⟩]) (n := fun _ => 1) (X.keeps F7.keep) (accI (N7 _ (.head _)).1 (N7 _ (.tail _ (.head _))).1) rfl (acc_over w) (acc_setattr w) (acc_taker w) (ad_look _ _ _) (fun tk => ad_put w _ _ _ _ tk) (fun _ => rfl) (fun _ => by simp) ?_
  intro h8 hd8 sb8
  (repeat' ((first | walk1 | (dsimp only; walk1)); (try dsimp only)))
  refine hQ _ _ _ _ (kb_same (kb_of F7) sb8 (.tail _ (.head _))) ((sb8.2 x (Ne.symm hne)).trans (N7 _ (.head _)).1) hd8

theorem reset1_ok {w : World} {p : Program} {loose mg mb} {dp un gd fr} {s : Shared} {Q E} {x ad y : Addr} {items new : Array Value} {ep ey : Nat} {hs kt iv}
   (C : Sx (Mine.hd.heap_1 w.params) p loose mg mb [x, ad] s.heap) (hd : dp + 2 < recursionLimit) (hx : s.heap.get? x = some (accO ad items ep)) (had : s.heap.get? ad = some (adO hs kt iv)) (hy : s.heap.get? y = some ⟨.type "list", none, .seq new ey, #[]⟩) (hz : items.size + new.size ≤ 1000)
   (hQ : ∀ h' tk t ep', KB [x, ad] s.heap h' → h'.get? x = some (accO ad new ep') → h'.get? ad = some (adO hs kt (.int 0 t)) → Q .none { s with heap := h', toks := tk }) :
   wpAny (model PySem.Challenge.pw_pe0168_01 w) (aT dp un gd fr) (call (.ref 182) [.ref x, .ref y]) Q E s := by
  w_on
  k_dflt (refine enterH (binds := [(Str.ofString "self", .ref x), (Str.ofString "startval", .ref y)]) [(x, accO ad items ep), (ad, adO hs kt iv)] C (by k_is) (by k_is) (by show dp < recursionLimit; (with_reducible exact nnC (by assumption))) (kp_binds C.cx.X (fun _ => rfl)) (locs rfl) ?hn ?_ rfl rfl rfl (by decide))
  case hn => exact List.forall_mem_cons.mpr ⟨⟨.head _, hx⟩, List.forall_mem_cons.mpr ⟨⟨.tail _ (.head _), had⟩, List.forall_mem_nil _⟩⟩
  intro L' h₁ tk F N X T
  change Fr _ _ _ (lmap [(Str.ofString "startval", some (.ref y)), (Str.ofString "self", some (.ref x))]) at F
  have hne : ad ≠ x := ne_of_cls had hx (by intro q; cases q)
  have hyx : y ≠ x := ne_of_cls hy hx (by intro q; cases q)
  have hya : y ≠ ad := ne_of_cls hy had (by simp)
  have gy0 : (hideAll s.heap [x, ad]).get? y = some ⟨.type "list", none, .seq new ey, #[]⟩ := hid_get hy (by simp [hyx, hya])
  (repeat' ((first | walk1 | (dsimp only; walk1)); (try dsimp only)))
  rename Fr _ _ _ _ => F4
  rename News _ _ _ _ => N4
  have F5 := F4.push { cls := .type "slice", data := .fields #[.none, .none, .none] }
  have N5 := news_push N4 { cls := .type "slice", data := .fields #[.none, .none, .none] }
  have I5 := accI (N5 (x, _) (.head _)).1 (N5 (ad, _) (.tail _ (.head _))).1
  have hres : items.extract 0 (sliceBounds none none none items.size).1.toNat ++ new ++ items.extract (max (sliceBounds none none none items.size).1 (sliceBounds none none none items.size).2.1).toNat items.size = new := by
    have e1 : (sliceBounds none none none items.size).1 = 0 := by
      simp only [sliceBounds, Option.getD_none, show (1 : Int) > 0 by decide, if_true]
    have e2 : (sliceBounds none none none items.size).2.1 = (items.size : Int) := by
      simp only [sliceBounds, Option.getD_none, show (1 : Int) > 0 by decide, if_true]
    rw [e1, e2, show (max (0 : Int) (items.size : Int)).toNat = items.size by lia]
    apply Array.ext'
    simp
  refine sub_setSlice (X.keeps F5.keep) I5 (accS w) rfl (acc_noseq w) (acc_setitem w) (Heap.IsSliceOf.new ..) .none .none (F5.keep _ _ gy0) rfl rfl (Ne.symm hyx) _ hres (by rw [sizeLine_eq]; (try simp); (with_reducible exact nnD (by assumption) (by decide))) (by rw [sizeLine_eq]; (try simp); try lia) ?_
  intro h6 ep6 hx6 sb
  have k6 : KB [x] _ h6 := kb_same (KB.refl _ _) sb (.head _)
  have F6 := fr_but F5 k6 (nf_of N5 (by simp))
  have N6 : News _ _ h6 [(x, accO ad new ep6), (ad, adO hs kt iv)] := news_but N5 k6 _ (by
    intro q hq'
    rcases List.mem_cons.mp hq' with rfl | hq'
    · exact .inr ⟨hx6, (N5 (x, _) (.head _)).2⟩
    · rw [List.mem_singleton.mp hq']; exact .inl ⟨(.tail _ (.head _)), by simpa using hne⟩)
  clear F5 N5 F4 N4 I5
  (repeat' ((first | walk1 | (dsimp only; walk1)); (try dsimp only)))
  rename Fr _ _ _ _ => F7
  rename News _ _ _ _ => N7
  refine sub_set (od' := fun _ => adO hs kt (.int 0 _)) (es := fun _ => [⟨hs, .str (Str.ofString "_initial_size") kt, .int 0 _⟩]) (n := fun _ => 1) (X.keeps F7.keep) (accI (N7 _ (.head _)).1 (N7 _ (.tail _ (.head _))).1) rfl (acc_over w) (acc_setattr w) (acc_taker w) (ad_look _ _ _) (fun tk => ad_put w _ _ _ _ tk) (fun _ => rfl) (fun _ => by simp) ?_
  intro h8 hd8 sb8
  (repeat' ((first | walk1 | (dsimp only; walk1)); (try dsimp only)))
  refine hQ _ _ _ _ (kb_same (kb_of F7) sb8 (.tail _ (.head _))) ((sb8.2 x (Ne.symm hne)).trans (N7 _ (.head _)).1) hd8
end
section
open PySem PySem.W PyProof.Rows PySem.Calls
set_option Elab.async false
set_option maxRecDepth 100000
set_option maxHeartbeats 1000000

theorem fillM5 : PySem.Challenge.rw_pe0168_01 = PySem.Challenge.rw_pe0168_01 → Mine.hd.heap_1 = Mine.hd.heap_1 := by
  k_fill
  intro _; rfl


theorem code_len {w : World} {h : Heap} (X : (Mine.hd.heap_1 w.params).In h) : CodeHd h 166 162 :=
  ⟨_, _, _, _, _, _, _, _, _, X _ _ (by k_is), by rfl, by rfl, by rfl, by rfl, by rfl, by rfl, by rfl, by rfl, by decide⟩
theorem code_str {w : World} {h : Heap} (X : (Mine.hd.heap_1 w.params).In h) : CodeHd h 173 169 :=
  ⟨_, _, _, _, _, _, _, _, _, X _ _ (by k_is), by rfl, by rfl, by rfl, by rfl, by rfl, by rfl, by rfl, by rfl, by decide⟩

theorem acc_isz (w : World) (hs : Int) (kt : Tok) (v : Value) : findObj (Mine.hd.heap_1 w.params) 200 (some (adO hs kt v)) (Str.ofString "_initial_size") = some (.value v) := by kernel_rfl

theorem acc_len_ok {w : World} {p : Program} {loose mg mb bm ob} {dp un gd fr} {s : Shared} {Q E} {x ad : Addr} {items : Array Value} {ep : Nat} {hs kt} {n : Nat} {t : Tok} {ps : List (Str × Str)} {tps : Array Value}
   (C : Tx (Mine.hd.heap_1 w.params) p loose mg mb bm ob [162] s.heap) (hd : dp + 4 < recursionLimit) (hx : s.heap.get? x = some (accO ad items ep)) (had : s.heap.get? ad = some (adO hs kt (.int (n : Nat) t)))
   (hp : PartsAt s.heap items ps) (hP : s.heap.get? 162 = some (tabObj tps)) (ht : TriplesOk tps.toList) (hb : n + sumLen ps ≤ 1000000)
   (hQ : ∀ s' t tps', Sm s s' → KB [162] s.heap s'.heap → s'.heap.get? 162 = some (tabObj tps') → TriplesOk tps'.toList → Q (.int ((n + sumLen ps : Nat) : Int) t) s') :
   wpAny (model PySem.Challenge.pw_pe0168_01 w) (aT dp un gd fr) (call (.ref 167) [.ref x]) Q E s := by
  w_on
  k_dflt (refine enterH (binds := [(Str.ofString "self", .ref x)]) [(162, tabObj tps)] C.S (by k_is) (by k_is) (by show dp < recursionLimit; (with_reducible exact nnC (by assumption))) (BindsTo.of_eq rfl) (locs rfl) ?hn ?_ rfl rfl rfl (by decide))
  case hn => exact List.forall_mem_cons.mpr ⟨⟨.head _, hP⟩, List.forall_mem_nil _⟩
  intro L' h₁ tk F N X T
  change Fr _ _ _ (lmap [(Str.ofString "self", some (.ref x))]) at F
  have hxP : x ≠ 162 := ne_of_cls hx hP (by intro q; cases q)
  have haP : ad ≠ 162 := ne_of_cls had hP (by intro q; cases q)
  have gx0 : (hideAll s.heap [162]).get? x = some (accO ad items ep) := hid_get hx (by simpa using hxP)
  have ga0 : (hideAll s.heap [162]).get? ad = some (adO hs kt (.int (n : Nat) t)) := hid_get had (by simpa using haP)
  (repeat' ((first | walk1 | (dsimp only; walk1)); (try dsimp only)))
  have hp1 : PartsAt h₁ items ps := parts_kb hp (kb_of F) (by intro b hb o e; rw [List.mem_singleton.mp hb, hP] at e; cases e; simp)
  refine gen_parts (F := fun i v => ∃ t, v = Value.int (lenAt ps i) t) ?hh ?hco ?hclos ?hcell ?h0 ?hxa ?hxb ?hab ?hkind ?hroom (X.keeps F.keep) (accI (F.keep _ _ gx0) (F.keep _ _ ga0)) (accS w) (acc_iter w) rfl hp1 ?hc (code_len (X.keeps F.keep)) (N _ (.head _)).1 ht (C.M.keeps F.keep) (T.nolimit.keeps F.keep) ?helt ?post ?heval ?hs
  case hh => rfl
  case hco => rfl
  case hclos => rfl
  case hcell => decide
  case h0 => rfl
  case hxa => rfl
  case hxb => rfl
  case hab => decide
  case hkind => rfl
  case hroom => show dp + 1 < recursionLimit; (with_reducible exact nnB (by assumption) (by decide))
  case hc => rfl
  case hs => intro _; rfl
  case heval => exact nameX_L F rfl ⟨rfl, rfl⟩
  case helt =>
    intro code Cc A' E' i pr t1 t2 s2 m2 hA hD hU hpr hns hm1 hm2 hk hCc
    have F2 : Fr (hideAll s.heap [162]) Cc s2.heap m2 := ⟨hns, fun b o e => hk b o (fun q => by rw [q, hideAll_none _ (.head _)] at e; cases e) (F.keep b o e), Nat.le_trans F.above (Nat.le_trans (Nat.le_of_lt F.ns.lt) hCc)⟩
    have hle := lenAt_le ps i
    have hli : lenAt ps i = ((pr.1.length + pr.2.length : Nat) : Int) := by unfold lenAt; rw [hpr]
    have G2 := T.g.keeps F2.keep
    have B2 := T.b.keeps F2.keep
    have g1 : mg "len" = none := mg_none_of X T.g (by k_is)
    have b1 : mb "len" = some (.builtin "len") := (T.builtins _ (by decide)).trans (by first | boot_by_name | rfl | kernel_rfl)
    refine wpAny_BinOp (elt_len rfl rfl rfl (by decide) G2 g1 B2 b1 hns hm1 (by lia) ?_ rfl)
    intro t3 tk3
    refine elt_len rfl rfl rfl (by decide) G2 g1 B2 b1 hns hm2 (by lia) ?_ rfl
    intro t4 tk4
    exact wpAny_add_int ⟨⟨tk4, by rw [hli, Int.natCast_add]⟩, s2.heap, _, rfl, fun _ _ e => e⟩
  case post =>
    intro a s5 tps' sm kb hP5 ht5 hsz hgen
    have F5 : Fr (hideAll s.heap [162]) L' s5.heap (lmap [(Str.ofString "self", some (.ref x))]) := fr_but F kb (nf_of N (by simp))
    have N5 : News (hideAll s.heap [162]) L' s5.heap [(162, tabObj tps')] := news_but N kb _ (by intro q hq; rw [List.mem_singleton.mp hq]; exact .inr ⟨hP5, (N _ (.head _)).2⟩)
    have k1 := kb_of F
    have l1 : ∀ b o, h₁.get? b = some o → b < h₁.objs.size := fun b o e => Heap.lt_size e
    have hP1 := (N _ (.head _)).1
    clear F N
    (repeat' ((first | walk1 | (dsimp only; walk1)); (try dsimp only)))
    refine sub_get (X.keeps F5.keep) (accI (F5.keep _ _ gx0) (F5.keep _ _ ga0)) (accS w) (acc_isz w hs kt (.int (n : Nat) t)) (by rfl) ?_
    (repeat' ((first | walk1 | (dsimp only; walk1)); (try dsimp only)))
    have hle := lenAt_le ps
    refine sum_gen (hgen.toks (Nat.le_succ _)) (lenAt ps) (fun j v hv => hv) _ _ (by constructor <;> lia) (fun j hj => ?_) ?_
    · have h1 := hle j
      have h2 := preSum_len ps (j + 1) hj
      have h3 := sumLen_take_le ps (j + 1)
      rw [h2]
      exact ⟨⟨by lia, by lia⟩, by lia, by lia⟩
    · intro s6 t6 sm6 k6
      rw [preSum_len ps _ (Nat.le_refl _), List.take_length, ← Int.natCast_add]
      refine hQ s6 t6 tps' (Sm.trans (s' := s5) ⟨sm.1, sm.2.1, sm.2.2⟩ ⟨sm6.1, sm6.2.1, sm6.2.2⟩) ?_ (k6 _ _ (l1 _ _ hP1) hP5) ht5
      intro b o hb e
      have e1 := k1 b o hb e
      exact k6 b o (l1 b o e1) (kb b o hb e1)

theorem acc_str_ok {w : World} {p : Program} {loose mg mb bm ob} {dp un gd fr} {s : Shared} {Q E} {x ad : Addr} {items : Array Value} {ep : Nat} {hs kt iv} {ps : List (Str × Str)} {tps : Array Value}
   (C : Tx (Mine.hd.heap_1 w.params) p loose mg mb bm ob [169] s.heap) (hd : dp + 4 < recursionLimit) (hx : s.heap.get? x = some (accO ad items ep)) (had : s.heap.get? ad = some (adO hs kt iv))
   (hp : PartsAt s.heap items ps) (hP : s.heap.get? 169 = some (tabObj tps)) (ht : TriplesOk tps.toList) (hb : sumLen ps ≤ 1000000) (hl : ps.length ≤ 1000)
   (hQ : ∀ s' t tps', Sm s s' → KB [169] s.heap s'.heap → s'.heap.get? 169 = some (tabObj tps') → TriplesOk tps'.toList → Q (.str (tx (partsTx ps)) t) s') :
   wpAny (model PySem.Challenge.pw_pe0168_01 w) (aT dp un gd fr) (call (.ref 174) [.ref x]) Q E s := by
  w_on
  k_dflt (refine enterH (binds := [(Str.ofString "self", .ref x)]) [(169, tabObj tps)] C.S (by k_is) (by k_is) (by show dp < recursionLimit; (with_reducible exact nnC (by assumption))) (BindsTo.of_eq rfl) (locs rfl) ?hn ?_ rfl rfl rfl (by decide))
  case hn => exact List.forall_mem_cons.mpr ⟨⟨.head _, hP⟩, List.forall_mem_nil _⟩
  intro L' h₁ tk F N X T
  change Fr _ _ _ (lmap [(Str.ofString "self", some (.ref x))]) at F
  have hxP : x ≠ 169 := ne_of_cls hx hP (by intro q; cases q)
  have haP : ad ≠ 169 := ne_of_cls had hP (by intro q; cases q)
  have gx0 : (hideAll s.heap [169]).get? x = some (accO ad items ep) := hid_get hx (by simpa using hxP)
  have ga0 : (hideAll s.heap [169]).get? ad = some (adO hs kt iv) := hid_get had (by simpa using haP)
  (repeat' ((first | walk1 | (dsimp only; walk1)); (try dsimp only)))
  have hp1 : PartsAt h₁ items ps := parts_kb hp (kb_of F) (by intro b hb o e; rw [List.mem_singleton.mp hb, hP] at e; cases e; simp)
  refine gen_parts (F := fun i v => ∃ t, v = Value.str (joinAt (Str.ofString "") ps i) t) ?hh ?hco ?hclos ?hcell ?h0 ?hxa ?hxb ?hab ?hkind ?hroom (X.keeps F.keep) (accI (F.keep _ _ gx0) (F.keep _ _ ga0)) (accS w) (acc_iter w) rfl hp1 ?hc (code_str (X.keeps F.keep)) (N _ (.head _)).1 ht (C.M.keeps F.keep) (T.nolimit.keeps F.keep) ?helt ?post ?heval ?hs
  case hh => rfl
  case hco => rfl
  case hclos => rfl
  case hcell => decide
  case h0 => rfl
  case hxa => rfl
  case hxb => rfl
  case hab => decide
  case hkind => rfl
  case hroom => show dp + 1 < recursionLimit; (with_reducible exact nnB (by assumption) (by decide))
  case hc => rfl
  case hs => intro _; rfl
  case heval => exact nameX_L F rfl ⟨rfl, rfl⟩
  case helt =>
    intro code Cc A' E' i pr t1 t2 s2 m2 hA hD hU hpr hns hm1 hm2 hk hCc
    have F2 : Fr (hideAll s.heap [169]) Cc s2.heap m2 := ⟨hns, fun b o e => hk b o (fun q => by rw [q, hideAll_none _ (.head _)] at e; cases e) (F.keep b o e), Nat.le_trans F.above (Nat.le_trans (Nat.le_of_lt F.ns.lt) hCc)⟩
    have hle := lenAt_le ps i
    have hli : lenAt ps i = ((pr.1.length + pr.2.length : Nat) : Int) := by unfold lenAt; rw [hpr]
    have hji : joinAt (Str.ofString "") ps i = Txt.join (Str.ofString "") [pr.1, pr.2] := by unfold joinAt; rw [hpr]
    have G2 := T.g.keeps F2.keep
    have g1 : ∃ t0, mg (Str.ofString "EMPTYSTRING") = some (.str (Str.ofString "") t0) := ⟨_, mg_of X T.g (by k_is)⟩
    obtain ⟨t0, g1⟩ := g1
    refine elt_join2 rfl rfl (by decide) rfl (by decide) rfl (by decide) G2 g1 hns hm1 hm2 (by decide) (by lia) ?_ rfl rfl rfl ⟨_, rfl⟩
    intro t3 h3 tk3 k3
    exact ⟨⟨t3, by rw [hji]⟩, h3, tk3, rfl, k3⟩
  case post =>
    intro a s5 tps' sm kb hP5 ht5 hsz hgen
    have F5 : Fr (hideAll s.heap [169]) L' s5.heap (lmap [(Str.ofString "self", some (.ref x))]) := fr_but F kb (nf_of N (by simp))
    have N5 : News (hideAll s.heap [169]) L' s5.heap [(169, tabObj tps')] := news_but N kb _ (by intro q hq; rw [List.mem_singleton.mp hq]; exact .inr ⟨hP5, (N _ (.head _)).2⟩)
    have k1 := kb_of F
    have l1 : ∀ b o, h₁.get? b = some o → b < h₁.objs.size := fun b o e => Heap.lt_size e
    have hP1 := (N _ (.head _)).1
    clear F N
    (repeat' ((first | walk1 | (dsimp only; walk1)); (try dsimp only)))
    show wpAny _ _ (call (.builtin "str.join") [.str (Str.ofString "") _, .ref a]) _ _ _
    refine join_gen hgen (joinAt (Str.ofString "") ps) (fun j v hv => hv) (join_parts_ok _ (by decide) ps hb) ?_ (by rw [sizeLine_eq]; (with_reducible exact nnD (by assumption) (by decide)))
    intro s6 t6 sm6 k6
    rw [join_parts _ (by decide)]
    refine hQ s6 t6 tps' (Sm.trans (s' := s5) ⟨sm.1, sm.2.1, sm.2.2⟩ ⟨sm6.1, sm6.2.1, sm6.2.2⟩) ?_ (k6 _ _ (l1 _ _ hP1) hP5) ht5
    intro b o hb e
    have e1 := k1 b o hb e
    exact k6 b o (l1 b o e1) (kb b o hb e1)
end
section
open PySem PySem.W PyProof.Rows PySem.Calls
set_option Elab.async false
set_option maxRecDepth 100000
set_option maxHeartbeats 1000000

theorem fillM6 : PySem.Challenge.rw_pe0168_01 = PySem.Challenge.rw_pe0168_01 → Mine.hd.heap_1 = Mine.hd.heap_1 := by
  k_fill
  intro _; rfl


theorem acc_makes (w : World) : makesL (Mine.hd.heap_1 w.params) 200 = true := by kernel_rfl
theorem ad_put0 (w : World) (v : Value) (tk : Tok) : Obj.putName (Str.ofString "_initial_size") (PyData.keyHash w.params (Str.ofString "_initial_size")) (.str (Str.ofString "_initial_size") tk) v emptyDict = adO (PyData.keyHash w.params (Str.ofString "_initial_size")) tk v := by kernel_rfl

theorem acc_make_ok {w : World} {p : Program} {loose mg mb} {dp un gd fr} {s : Shared} {Q E} {v : Value}
   (C : Cx (Mine.hd.heap_1 w.params) p loose mg mb s.heap) (hd : dp + 3 < recursionLimit)
   (hQ : ∀ x ad h' tk hs kt ep, (∀ b o, s.heap.get? b = some o → h'.get? b = some o) → s.heap.get? x = none → s.heap.get? ad = none → h'.get? x = some (accO ad #[] ep) → h'.get? ad = some (adO hs kt v) → Q (.ref x) { s with heap := h', toks := tk }) :
   wpAny (model PySem.Challenge.pw_pe0168_01 w) (aT dp un gd fr) (call (.ref 200) [v]) Q E s := by
  w_on
  obtain ⟨h, g, d, t, os⟩ := s
  refine wpAny_call ?_
  k_dflt (refine make_L C.X (acc_makes w) (by k_is) (by k_is) ?_)
  have ka : ∀ b o, h.get? b = some o → ((h.push emptyDict).push (seqInst 200 h.objs.size)).get? b = some o := fun b o e => Heap.get?_push_of_some _ (Heap.get?_push_of_some _ e)
  have hx0 : ((h.push emptyDict).push (seqInst 200 h.objs.size)).get? (h.objs.size + 1) = some (seqInst 200 h.objs.size) := by heap_get
  have hd0 : ((h.push emptyDict).push (seqInst 200 h.objs.size)).get? h.objs.size = some emptyDict := by heap_get
  have nx : h.get? (h.objs.size + 1) = none := above_none (Nat.le_succ _)
  have nd : h.get? h.objs.size = none := above_none (Nat.le_refl _)
  have S0 : Sx (Mine.hd.heap_1 w.params) p loose mg mb [h.objs.size + 1, h.objs.size] ((h.push emptyDict).push (seqInst 200 h.objs.size)) := Sx.of C.X C.T ka (List.forall_mem_cons.mpr ⟨nx, List.forall_mem_cons.mpr ⟨nd, List.forall_mem_nil _⟩⟩)
  generalize hH : ((h.push emptyDict).push (seqInst 200 h.objs.size)) = H at *
  generalize hX : h.objs.size + 1 = x at *
  generalize hA : h.objs.size = ad at *
  have hne : ad ≠ x := by lia
  k_dflt (refine enterSC (binds := [(Str.ofString "self", .ref x), (Str.ofString "initial_size", v)]) [(x, seqInst 200 ad), (ad, emptyDict)] S0 (by k_is) (by k_is) (by rw [depth_under_make]; show dp + 1 < recursionLimit; (with_reducible exact nnB (by assumption) (by decide))) (kp_binds S0.cx.X (fun _ => rfl)) (locs rfl) ?hn ?_ rfl rfl rfl (by decide))
  case hn => exact List.forall_mem_cons.mpr ⟨⟨.head _, hx0⟩, List.forall_mem_cons.mpr ⟨⟨.tail _ (.head _), hd0⟩, List.forall_mem_nil _⟩⟩
  intro L' h₁ tk F N X T
  change Fr (hideAll H [x, ad]) _ _ (lmap [(Str.ofString "initial_size", some v), (Str.ofString "self", some (.ref x))]) at F
  refine ks_wpAt_execs_cons (PySem.wpAt_of_wpAny ?_)
  (repeat' ((first | walk1 | (dsimp only; walk1)); (try dsimp only)))
  refine sub_set (od' := fun tk => adO (PyData.keyHash w.params (Str.ofString "_initial_size")) tk v) (es := fun tk => [⟨PyData.keyHash w.params (Str.ofString "_initial_size"), .str (Str.ofString "_initial_size") tk, v⟩]) (n := fun _ => 1) (X.keeps F.keep) (accI (N _ (.head _)).1 (N _ (.tail _ (.head _))).1) rfl (acc_over w) (acc_setattr w) (acc_taker w) (by kernel_rfl) (fun tk => ad_put0 w _ tk) (fun _ => rfl) (fun _ => by simp) ?_
  intro h2 hd2 sb2
  have k2 : KB [ad] _ h2 := kb_same (KB.refl _ _) sb2 (.head _)
  replace F := fr_but F k2 (nf_of N (by simp))
  have hx2 : h2.get? x = some (accO ad #[] 0) := (sb2.2 x (Ne.symm hne)).trans (N _ (.head _)).1
  have N2 : News (hideAll H [x, ad]) L' h2 [(x, accO ad #[] 0), (ad, _)] := news_but N k2 _ (by
    intro q hq'
    rcases List.mem_cons.mp hq' with rfl | hq'
    · exact .inr ⟨hx2, (N _ (.head _)).2⟩
    · rw [List.mem_singleton.mp hq']; exact .inr ⟨hd2, (N _ (.tail _ (.head _))).2⟩)
  refine ks_wpAt_execs_cons (ks_wpAt_Expr_any (ks_wpAt_MethodCall ?_))
  have I1 := accI hx2 hd2
  k_dflt (refine super_node F X T (by k_is) (by rfl) (by rfl) I1 (by k_is) (by rfl) (by first | rfl | decide +kernel) (by k_is) (by k_is) (by k_is) (by k_is) (by decide) (by rfl) (by rfl) (by rfl) (by rfl) (by decide +kernel) (by first | boot_by_name | rfl | kernel_rfl) ?_)
  intro h3 hso k3
  replace F := fr_keeps F k3
  replace N2 := news_keeps N2 k3
  have I2 := accI (N2 _ (.head _)).1 (N2 _ (.tail _ (.head _))).1
  k_dflt (refine super_meth' hso (X.keeps F.keep) I2 (accS w) (by k_is) (by ks_is) bnd_init (by decide) ?_)
  have k4 : ∀ b o, h3.get? b = some o → (h3.push (bndO "method-wrapper" "list.__init__" x)).get? b = some o := fun b o e => Heap.get?_push_of_some _ e
  replace F := fr_keeps F k4
  replace N2 := news_keeps N2 k4
  refine callWith_bnd0 (Heap.get?_push_size _ rfl) (.inl rfl) ?_
  refine bnd_call (Heap.get?_push_size _ rfl) (.inl rfl) (by decide +kernel) e_init chk_init ?_
  refine raw_init (N2 _ (.head _)).1 ?_
  intro h5 ep5 hx5 sb5
  refine PySem.wpAt_of_wpAny (wpAny_of_eq (a := Flow.next) rfl ?_)
  refine ⟨rfl, ?_⟩
  have kf : ∀ b o, h.get? b = some o → h5.get? b = some o := fun b o e => by
    have hbx : b ≠ x := fun q => by rw [q, nx] at e; cases e
    have hba : b ≠ ad := fun q => by rw [q, nd] at e; cases e
    exact sb5.extBut b o hbx (F.keep b o (hid_get (ka b o e) (by simp [hbx, hba])))
  exact hQ x ad h5 _ _ _ _ kf nx nd hx5 (sb5.extBut _ _ hne (N2 _ (.tail _ (.head _))).1)
end
section
open PySem PySem.W PyProof.Rows PySem.Calls
set_option Elab.async false
set_option maxRecDepth 100000
set_option maxHeartbeats 1000000

theorem fillM7 : PySem.Challenge.rw_pe0168_01 = PySem.Challenge.rw_pe0168_01 → Mine.hd.heap_1 = Mine.hd.heap_1 := by
  k_fill
  intro _; rfl


theorem len_call {w : World} {p : Program} {loose mg mb bm ob} {dp un gd fr} {s : Shared} {Q E} {x ad : Addr} {items : Array Value} {ep : Nat} {hs kt} {n : Nat} {t : Tok} {ps : List (Str × Str)} {tps : Array Value}
   (C : Tx (Mine.hd.heap_1 w.params) p loose mg mb bm ob [162] s.heap) (hd : dp + 4 < recursionLimit) (hx : s.heap.get? x = some (accO ad items ep)) (had : s.heap.get? ad = some (adO hs kt (.int (n : Nat) t)))
   (hp : PartsAt s.heap items ps) (hP : s.heap.get? 162 = some (tabObj tps)) (ht : TriplesOk tps.toList) (hb : n + sumLen ps ≤ 1000000)
   (hQ : ∀ s' t tps', Sm s s' → KB [162] s.heap s'.heap → s'.heap.get? 162 = some (tabObj tps') → TriplesOk tps'.toList → Q (.int ((n + sumLen ps : Nat) : Int) t) s') :
   wpAny (model PySem.Challenge.pw_pe0168_01 w) (aT dp un gd fr) (call (.builtin "len") [.ref x]) Q E s := by
  w_on
  refine Calls.call_function_entry kind_len plain_len entry_len (args_len1 _) ?_
  unfold Builtin.«len»
  refine wpAny_bind (m := oneArg "len" _) (wpAny_pure ?_)
  k_dflt (refine wpAny_bind (m := callSpecial? (.ref x) (Str.ofString "__len__")) (special_fn C.cx.X (accI hx had) (by k_is) (by k_is) ?_))
  refine acc_len_ok (dp := dp) (un := un + 1) (gd := gd) (fr := fr) C hd hx had hp hP ht hb ?_
  intro s' t' tps' sm kb hP' ht'
  refine wpAny_bind (wpAny_holding (wpAny_pure ?_))
  refine wpAny_bind (wpAny_letGo ?_)
  show wpAny _ _ (if ((n + sumLen ps : Nat) : Int) < 0 then _ else _) _ _ _
  rw [if_neg (by lia)]
  show wpAny _ _ (if ((n + sumLen ps : Nat) : Int) ≥ 2 ^ 63 then _ else _) _ _ _
  rw [if_neg (by lia)]
  exact wpAny_bind (wpAny_mkInt (wpAny_pure ⟨_, rfl, hQ { s' with toks := s'.toks + 1 } _ tps' sm kb hP' ht'⟩))

theorem str_call {w : World} {p : Program} {loose mg mb bm ob} {dp un gd fr} {s : Shared} {Q E} {x ad : Addr} {items : Array Value} {ep : Nat} {hs kt iv} {ps : List (Str × Str)} {tps : Array Value}
   (C : Tx (Mine.hd.heap_1 w.params) p loose mg mb bm ob [169] s.heap) (hd : dp + 4 < recursionLimit) (hu : un + 4 < cLine) (hx : s.heap.get? x = some (accO ad items ep)) (had : s.heap.get? ad = some (adO hs kt iv))
   (hp : PartsAt s.heap items ps) (hP : s.heap.get? 169 = some (tabObj tps)) (ht : TriplesOk tps.toList) (hb : sumLen ps ≤ 1000000) (hl : ps.length ≤ 1000)
   (hQ : ∀ s' t tps', Sm s s' → KB [169] s.heap s'.heap → s'.heap.get? 169 = some (tabObj tps') → TriplesOk tps'.toList → Q (.str (tx (partsTx ps)) t) s') :
   wpAny (model PySem.Challenge.pw_pe0168_01 w) (aT dp un gd fr) (call (.type "str") [.ref x]) Q E s := by
  w_on
  k_dflt (refine kso_call (by show un + 1 + 1 < cLine; (with_reducible exact nnA (by assumption) (by decide))) C.cx.X (accI hx had) (by k_is) (by k_is) ?_)
  refine acc_str_ok (dp := dp) (un := un + 1 + 1) (gd := gd) (fr := fr) C hd hx had hp hP ht hb hl ?_
  intro s' t' tps' sm kb hP' ht'
  exact hQ s' t' tps' sm kb hP' ht'

theorem truthy_acc {w : World} {p : Program} {loose mg mb bm ob} {dp un gd fr} {s : Shared} {Q E} {x ad : Addr} {items : Array Value} {ep : Nat} {hs kt} {n : Nat} {t : Tok} {ps : List (Str × Str)} {tps : Array Value}
   (C : Tx (Mine.hd.heap_1 w.params) p loose mg mb bm ob [162] s.heap) (hd : dp + 4 < recursionLimit) (hx : s.heap.get? x = some (accO ad items ep)) (had : s.heap.get? ad = some (adO hs kt (.int (n : Nat) t)))
   (hp : PartsAt s.heap items ps) (hP : s.heap.get? 162 = some (tabObj tps)) (ht : TriplesOk tps.toList) (hb : n + sumLen ps ≤ 1000000) (h0 : 0 < n + sumLen ps)
   (hQ : ∀ s' tps', Sm s s' → KB [162] s.heap s'.heap → s'.heap.get? 162 = some (tabObj tps') → TriplesOk tps'.toList → Q true s') :
   wpAny (model PySem.Challenge.pw_pe0168_01 w) (aT dp un gd fr) (truthy (.ref x)) Q E s := by
  w_on
  have I := accI hx had
  unfold truthy
  k_dflt (refine wpAny_bind (m := callSpecial? (.ref x) (Str.ofString "__bool__")) (wpAny_bind (wpAny_bind (I.type.here ((looks_findIn (r := none) C.cx.X (by k_is)).here (wpAny_pure ?_))))))
  k_dflt (refine wpAny_bind (wpAny_bind (I.type.here ((looks_findIn (r := some (.ref 167)) C.cx.X (by k_is)).here ?_))))
  simp only [Option.isNone_some, Bool.false_eq_true, if_false]
  refine wpAny_bind (wpAny_runValue (codeAny_builtin entry_len ?_))
  rw [Around.under_plainId plain_len _]
  unfold Builtin.«len»
  refine wpAny_bind (m := oneArg "len" _) (wpAny_pure ?_)
  k_dflt (refine wpAny_bind (m := callSpecial? (.ref x) (Str.ofString "__len__")) (special_fn C.cx.X (accI hx had) (by k_is) (by k_is) ?_))
  refine acc_len_ok (dp := dp) (un := un + 1) (gd := gd) (fr := fr) C hd hx had hp hP ht hb ?_
  intro s' t' tps' sm kb hP' ht'
  refine wpAny_bind (wpAny_holding (wpAny_pure ?_))
  refine wpAny_bind (wpAny_letGo ?_)
  show wpAny _ _ (if ((n + sumLen ps : Nat) : Int) < 0 then _ else _) _ _ _
  rw [if_neg (by lia)]
  show wpAny _ _ (if ((n + sumLen ps : Nat) : Int) ≥ 2 ^ 63 then _ else _) _ _ _
  rw [if_neg (by lia)]
  refine wpAny_bind (wpAny_mkInt (wpAny_pure ?_))
  have hne : (((n + sumLen ps : Nat) : Int) != 0) = true := by simp only [bne_iff_ne, ne_eq]; lia
  show wpAny _ _ (pure (((n + sumLen ps : Nat) : Int) != 0)) _ _ _
  rw [hne]
  exact wpAny_pure (hQ { s' with toks := s'.toks + 1 } tps' sm kb hP' ht')
end
section
open PySem PySem.W PyProof.Rows PySem.Calls
set_option Elab.async false
set_option maxRecDepth 100000
set_option maxHeartbeats 1000000

theorem fillM8 : PySem.Challenge.rw_pe0168_01 = PySem.Challenge.rw_pe0168_01 → Mine.hd.heap_1 = Mine.hd.heap_1 := by
  k_fill
  intro _; rfl


theorem onlyws_ok {w : World} {p : Program} {loose mg mb bm ob} {dp un gd fr} {s : Shared} {Q E} {x ad : Addr} {items : Array Value} {ep : Nat} {hs kt} {n : Nat} {t : Tok} {ps : List (Str × Str)} {tl ts : Array Value}
   (C : Tx (Mine.hd.heap_1 w.params) p loose mg mb bm ob [162, 169] s.heap) (hd : dp + 6 < recursionLimit) (hu : un + 20 < cLine) (hx : s.heap.get? x = some (accO ad items ep)) (had : s.heap.get? ad = some (adO hs kt (.int (n : Nat) t)))
   (hp : PartsAt s.heap items ps) (hPl : s.heap.get? 162 = some (tabObj tl)) (htl : TriplesOk tl.toList) (hPs : s.heap.get? 169 = some (tabObj ts)) (hts : TriplesOk ts.toList) (hb : n + sumLen ps ≤ 1000000) (hl : ps.length ≤ 1000)
   (hno : n ≠ 0 ∨ (0 < sumLen ps ∧ (Txt.isspace (tx (partsTx ps))) = false))
   (hQ : ∀ s' tl' ts', Sm s s' → KB [162, 169] s.heap s'.heap → s'.heap.get? 162 = some (tabObj tl') → TriplesOk tl'.toList → s'.heap.get? 169 = some (tabObj ts') → TriplesOk ts'.toList → Q (.bool false) s') :
   wpAny (model PySem.Challenge.pw_pe0168_01 w) (aT dp un gd fr) (call (.ref 189) [.ref x]) Q E s := by
  w_on
  k_dflt (refine enterH (binds := [(Str.ofString "self", .ref x)]) [(162, tabObj tl), (169, tabObj ts)] C.S (by k_is) (by k_is) (by show dp < recursionLimit; (with_reducible exact nnC (by assumption))) (BindsTo.of_eq rfl) (locs rfl) ?hn ?_ rfl rfl rfl (by decide))
  case hn => exact List.forall_mem_cons.mpr ⟨⟨.head _, hPl⟩, List.forall_mem_cons.mpr ⟨⟨.tail _ (.head _), hPs⟩, List.forall_mem_nil _⟩⟩
  intro L' h₁ tk F N X T
  change Fr _ _ _ (lmap [(Str.ofString "self", some (.ref x))]) at F
  have hx1 : x ≠ 162 := ne_of_cls hx hPl (by intro q; cases q)
  have hx2 : x ≠ 169 := ne_of_cls hx hPs (by intro q; cases q)
  have ha1 : ad ≠ 162 := ne_of_cls had hPl (by intro q; cases q)
  have ha2 : ad ≠ 169 := ne_of_cls had hPs (by intro q; cases q)
  have gx0 : (hideAll s.heap [162, 169]).get? x = some (accO ad items ep) := hid_get hx (by simp [hx1, hx2])
  have ga0 : (hideAll s.heap [162, 169]).get? ad = some (adO hs kt (.int (n : Nat) t)) := hid_get had (by simp [ha1, ha2])
  (repeat' ((first | walk1 | (dsimp only; walk1)); (try dsimp only)))
  refine sub_get (X.keeps F.keep) (accI (F.keep _ _ gx0) (F.keep _ _ ga0)) (accS w) (acc_isz w hs kt (.int (n : Nat) t)) (by rfl) ?_
  (repeat' ((first | walk1 | (dsimp only; walk1)); (try dsimp only)))
  · rename _ = (0 : Int) => hn0
    have hn1 : n = 0 := by lia
    have hpos := hno.resolve_left (fun q => q hn1)
    have nf := nf_of (fp := [162, 169]) N (by simp)
    have hp1 : PartsAt h₁ items ps := parts_tabs hp (kb_of F) (List.forall_mem_cons.mpr ⟨⟨_, hPl⟩, List.forall_mem_cons.mpr ⟨⟨_, hPs⟩, List.forall_mem_nil _⟩⟩)
    have C1 : Tx (Mine.hd.heap_1 w.params) p loose mg mb bm ob [162] h₁ := Tx.of X T C.M F.keep (fun b hb => (nf b (by rw [List.mem_singleton.mp hb]; exact .head _)).2)
    refine truthy_acc (dp := dp + 1) C1 (by (with_reducible exact nnA (by assumption) (by decide))) (F.keep _ _ gx0) (F.keep _ _ ga0) hp1 (N _ (.head _)).1 htl hb (by lia) ?_
    intro s2 tl2 sm2 kb2 hP2 ht2
    have F2 := fr_but F kb2 (fun b hb => nf b (by rw [List.mem_singleton.mp hb]; exact .head _))
    have N2 : News (hideAll s.heap [162, 169]) L' s2.heap [(162, tabObj tl2), (169, tabObj ts)] := news_but N kb2 _ (by
      intro q hq'
      rcases List.mem_cons.mp hq' with rfl | hq'
      · exact .inr ⟨hP2, (N _ (.head _)).2⟩
      · rw [List.mem_singleton.mp hq']; exact .inl ⟨.tail _ (.head _), by simp⟩)
    have hp2 : PartsAt s2.heap items ps := parts_tabs hp1 kb2 (List.forall_mem_cons.mpr ⟨⟨_, (N _ (.head _)).1⟩, List.forall_mem_nil _⟩)
    clear F N hp1 C1
    (repeat' ((first | walk1 | (dsimp only; walk1)); (try dsimp only)))
    have C2 : Tx (Mine.hd.heap_1 w.params) p loose mg mb bm ob [169] s2.heap := Tx.of X T C.M F2.keep (fun b hb => (nf b (by rw [List.mem_singleton.mp hb]; exact .tail _ (.head _))).2)
    refine str_call (dp := dp + 1) C2 (by (with_reducible exact nnA (by assumption) (by decide))) (by show un + 3 + 4 < cLine; (with_reducible exact nnA (by assumption) (by decide))) (F2.keep _ _ gx0) (F2.keep _ _ ga0) hp2 (N2 _ (.tail _ (.head _))).1 hts (by lia) hl ?_
    intro s3 t3 ts3 sm3 kb3 hP3 ht3
    have F3 := fr_but F2 kb3 (fun b hb => nf b (by rw [List.mem_singleton.mp hb]; exact .tail _ (.head _)))
    have N3 : News (hideAll s.heap [162, 169]) L' s3.heap [(162, tabObj tl2), (169, tabObj ts3)] := news_but N2 kb3 _ (by
      intro q hq'
      rcases List.mem_cons.mp hq' with rfl | hq'
      · exact .inl ⟨.head _, by simp⟩
      · rw [List.mem_singleton.mp hq']; exact .inr ⟨hP3, (N2 _ (.tail _ (.head _))).2⟩)
    clear F2 N2
    (repeat' ((first | walk1 | (dsimp only; walk1)); (try dsimp only)))
    rw [hpos.2]
    exact hQ _ tl2 ts3 (Sm.trans (s' := s2) ⟨sm2.1, sm2.2.1, sm2.2.2⟩ sm3) (kb_of F3) (N3 _ (.head _)).1 ht2 (N3 _ (.tail _ (.head _))).1 ht3
  · rename _ ≠ (0 : Int) => hn0
    have e : ((n : Int) == 0) = false := by simpa using hn0
    rw [e]
    exact hQ _ tl ts ⟨rfl, rfl, fun q => q⟩ (kb_of F) (N _ (.head _)).1 htl (N _ (.tail _ (.head _))).1 hts
end
section
open PySem PySem.W PyProof.Rows PySem.Calls
set_option Elab.async false
set_option maxRecDepth 100000
structure PZ (Z : List Addr) (g : Heap) (more : List (Addr × Obj)) (items : Array Value) (ps : List (Str × Str)) : Prop where
  sz : items.size = ps.length
  parts : PartsIn (hideAll g Z) more items ps
  zs : ∀ z ∈ Z, ∃ o, g.get? z = some o ∧ o.cls = .type "tuple"
section
variable {Z : List Addr} {g : Heap} {more more' : List (Addr × Obj)} {items : Array Value} {ps : List (Str × Str)}
theorem PZ.mono (x : PZ Z g more items ps) (h : ∀ z ∈ more, z ∈ more') : PZ Z g more' items ps := ⟨x.sz, x.parts.mono h, x.zs⟩
theorem PZ.at {h : Heap} (x : PZ Z g more items ps) (k : ∀ b o, g.get? b = some o → h.get? b = some o) (n : ∀ z ∈ more, h.get? z.1 = some z.2) : PartsAt h items ps :=
  x.parts.at (fun b o e => k b o (of_hideAll _ e)) n
theorem PZ.push (x : PZ Z g more items ps) {q : Addr} {y z : Str} {t u : Tok} : PZ Z g ((q, tup2 (.str y t) (.str z u)) :: more) (items.push (.ref q)) (ps ++ [(y, z)]) :=
  ⟨by rw [Array.size_push, x.sz, List.length_append]; rfl, x.parts.push, x.zs⟩
theorem PZ.take (x : PZ Z g more items ps) (k : Nat) : PZ Z g more (items.toList.take k).toArray (ps.take k) := ⟨(x.parts.take k).1, x.parts.take k, x.zs⟩
theorem PZ.drop (x : PZ Z g more items ps) (k : Nat) : PZ Z g more (items.toList.drop k).toArray (ps.drop k) := ⟨(x.parts.drop k).1, x.parts.drop k, x.zs⟩
theorem PZ.last {p : Str × Str} (x : PZ Z g more items (ps ++ [p])) :
    ∃ its q t u, items = its.push (.ref q) ∧ PZ Z g more its ps ∧ (g.IsTuple q #[.str p.1 t, .str p.2 u] ∨ (q, tup2 (.str p.1 t) (.str p.2 u)) ∈ more) := by
  obtain ⟨its, q, t, u, e, hp, hq⟩ := x.parts.last
  exact ⟨its, q, t, u, e, ⟨hp.1, hp, x.zs⟩, hq.imp (fun ⟨o, eo, r⟩ => ⟨o, of_hideAll _ eo, r⟩) id⟩
theorem PZ.get {h : Heap} (x : PZ Z g more items ps) (k : ∀ b o, g.get? b = some o → h.get? b = some o) (n : ∀ z ∈ more, h.get? z.1 = some z.2) {i : Nat} {p : Str × Str} (e : ps[i]? = some p) :
    ∃ a t u, items[i]? = some (.ref a) ∧ h.IsTuple a #[.str p.1 t, .str p.2 u] := x.parts.get (fun b o e => k b o (of_hideAll _ e)) n e
theorem PZ.nil (zs : ∀ z ∈ Z, ∃ o, g.get? z = some o ∧ o.cls = .type "tuple") : PZ Z g more #[] [] := ⟨rfl, ⟨rfl, fun i p e => by simp at e⟩, zs⟩
theorem PZ.empty (x : items.size = 0) (zs : ∀ z ∈ Z, ∃ o, g.get? z = some o ∧ o.cls = .type "tuple") : PZ Z g more items [] := ⟨x, ⟨x, fun i p e => by simp at e⟩, zs⟩
theorem PZ.out {h : Heap} {L : Addr} {m : Str → Option Value} {five : List (Addr × Obj)} (x : PZ Z g more items ps) (F : Fr g L h m) (N : News g L h (more ++ five)) : PZ Z h [] items ps := by
  have hz : ∀ z ∈ Z, ∃ o, h.get? z = some o ∧ o.cls = .type "tuple" := fun z q => let ⟨o, e, c⟩ := x.zs z q; ⟨o, F.keep _ _ e, c⟩
  refine ⟨x.sz, .of (x.parts.at (fun b o e => ?_) fun z q => ?_), hz⟩
  · have hb : b ∉ Z := fun q => by rw [hideAll_none _ q] at e; cases e
    exact hideAll_get _ (F.keep _ _ (of_hideAll _ e)) hb
  · have := N z (List.mem_append_left _ q)
    refine hideAll_get _ this.1 fun hb => ?_
    obtain ⟨o, e, -⟩ := x.zs _ hb
    rw [this.2.2] at e
    cases e
end
end
section
open PySem PySem.W PyProof.Rows PySem.Calls
set_option Elab.async false
set_option maxRecDepth 100000
set_option maxHeartbeats 1000000
variable {Z : List Addr}

theorem fillFm : PySem.Challenge.rw_pe0168_01 = PySem.Challenge.rw_pe0168_01 → Mine.hd.heap_1 = Mine.hd.heap_1 := by
  k_fill
  intro _; rfl

noncomputable abbrev fmO (fd : Addr) : Obj := ⟨.ref 116, some fd, .plain, #[]⟩
set_option genInjectivity false in
set_option genSizeOf false in
structure FK where
  h1 : Int
  h2 : Int
  h3 : Int
  h4 : Int
  h5 : Int
  h6 : Int
  k1 : Tok
  k2 : Tok
  k3 : Tok
  k4 : Tok
  k5 : Tok
  k6 : Tok
  v1 : Value
  v2 : Value
  v3 : Value
  v4 : Value
noncomputable abbrev fdO (κ : FK) (ln ac : Addr) : Obj := ⟨.type "dict", none, .dict #[⟨κ.h1, .str (Str.ofString "_maxlen") κ.k1, κ.v1⟩, ⟨κ.h2, .str (Str.ofString "_continuation_ws") κ.k2, κ.v2⟩, ⟨κ.h3, .str (Str.ofString "_continuation_ws_len") κ.k3, κ.v3⟩, ⟨κ.h4, .str (Str.ofString "_splitchars") κ.k4, κ.v4⟩, ⟨κ.h5, .str (Str.ofString "_lines") κ.k5, .ref ln⟩, ⟨κ.h6, .str (Str.ofString "_current_line") κ.k6, .ref ac⟩] 6, #[]⟩
theorem fmI {h : Heap} {f fd ln ac : Addr} {κ : FK} (hf : h.get? f = some (fmO fd)) (hfd : h.get? fd = some (fdO κ ln ac)) : InstAt h f (fmO fd) 116 (some (fdO κ ln ac)) := ⟨hf, rfl, rfl, hfd⟩
theorem vf_ga (w : World) : findIn (Mine.hd.heap_1 w.params) (.ref 116) "__getattribute__" = some (some (.builtin "object.__getattribute__")) := by k_is
theorem vf_cl (w : World) (κ : FK) (ln ac : Addr) : findObj (Mine.hd.heap_1 w.params) 116 (some (fdO κ ln ac)) (Str.ofString "_current_line") = some (.value (.ref ac)) := by kernel_rfl
theorem vf_ln (w : World) (κ : FK) (ln ac : Addr) : findObj (Mine.hd.heap_1 w.params) 116 (some (fdO κ ln ac)) (Str.ofString "_lines") = some (.value (.ref ln)) := by kernel_rfl
theorem vf_mx (w : World) (κ : FK) (ln ac : Addr) : findObj (Mine.hd.heap_1 w.params) 116 (some (fdO κ ln ac)) (Str.ofString "_maxlen") = some (.value κ.v1) := by kernel_rfl
theorem vf_sp (w : World) (κ : FK) (ln ac : Addr) : findObj (Mine.hd.heap_1 w.params) 116 (some (fdO κ ln ac)) (Str.ofString "_splitchars") = some (.value κ.v4) := by kernel_rfl

noncomputable abbrev five (ac ad ln : Addr) (a d l t u : Obj) : List (Addr × Obj) := [(ac, a), (ad, d), (ln, l), (162, t), (169, u)]
noncomputable abbrev FP (ac ad ln : Addr) : List Addr := [ac, ad, ln, 162, 169]
noncomputable abbrev lnO (vs : Array Value) (el : Nat) : Obj := ⟨.type "list", none, .seq vs el, #[]⟩

structure Cl (Z : List Addr) (g : Heap) (ac ad ln : Addr) (more : List (Addr × Obj)) (a d l t u : Obj) (ps : List (Str × Str)) (n : Nat) (ls : List Str) : Prop where
  oac : ∃ items ep, a = accO ad items ep ∧ PZ Z g more items ps
  oad : ∃ hs kt k, d = adO hs kt (.int (n : Nat) k)
  oln : ∃ vs el, l = lnO vs el ∧ StrsAre vs.toList ls
  otl : ∃ v, t = tabObj v ∧ TriplesOk v.toList
  ots : ∃ v, u = tabObj v ∧ TriplesOk v.toList
  ap : ∀ z ∈ more, z.1 ∉ FP ac ad ln

theorem five_nd {h : Heap} {g : Heap} {ac ad ln : Addr} {more} {a d l t u : Obj} {ps n ls} (B : Cl Z g ac ad ln more a d l t u ps n ls) (h1 : h.get? ac = some a) (h2 : h.get? ad = some d) (h3 : h.get? ln = some l) (h4 : h.get? 162 = some t) (h5 : h.get? 169 = some u) : (FP ac ad ln).Nodup := by
  obtain ⟨⟨items, ep, rfl, -⟩, ⟨hs, kt, k, rfl⟩, ⟨vs, el, rfl, -⟩, ⟨v, rfl, -⟩, ⟨v', rfl, -⟩, -⟩ := B
  have a1 := ne_of_cls h1 h2 (by simp)
  have a2 := ne_of_cls h1 h3 (by simp)
  have a3 := ne_of_cls h1 h4 (by simp)
  have a4 := ne_of_cls h1 h5 (by simp)
  have a5 := ne_of_cls h2 h3 (by simp)
  have a6 := ne_of_cls h2 h4 (by simp)
  have a7 := ne_of_cls h2 h5 (by simp)
  have a8 := ne_of_cls h3 h4 (by simp)
  have a9 := ne_of_cls h3 h5 (by simp)
  simp only [List.nodup_cons, List.mem_cons, List.not_mem_nil, not_or, or_false, List.nodup_nil, and_true, not_false_iff]
  exact ⟨⟨a1, a2, a3, a4⟩, ⟨a5, a6, a7⟩, ⟨a8, a9⟩, by decide⟩

section
variable {g : Heap} {L ac ad ln : Addr} {h h' : Heap} {m : Str → Option Value} {more : List (Addr × Obj)} {a d l t u a' d' l' t' u' : Obj} {ps : List (Str × Str)} {n : Nat} {ls : List Str}
theorem f1 (N : News g L h (more ++ five ac ad ln a d l t u)) : h.get? ac = some a ∧ ac ≠ L ∧ g.get? ac = none := N (ac, a) (List.mem_append_right _ (.head _))
theorem f2 (N : News g L h (more ++ five ac ad ln a d l t u)) : h.get? ad = some d ∧ ad ≠ L ∧ g.get? ad = none := N (ad, d) (List.mem_append_right _ (.tail _ (.head _)))
theorem f3 (N : News g L h (more ++ five ac ad ln a d l t u)) : h.get? ln = some l ∧ ln ≠ L ∧ g.get? ln = none := N (ln, l) (List.mem_append_right _ (.tail _ (.tail _ (.head _))))
theorem f4 (N : News g L h (more ++ five ac ad ln a d l t u)) : h.get? 162 = some t ∧ 162 ≠ L ∧ g.get? 162 = none := N (162, t) (List.mem_append_right _ (.tail _ (.tail _ (.tail _ (.head _)))))
theorem f5 (N : News g L h (more ++ five ac ad ln a d l t u)) : h.get? 169 = some u ∧ 169 ≠ L ∧ g.get? 169 = none := N (169, u) (List.mem_append_right _ (.tail _ (.tail _ (.tail _ (.tail _ (.head _))))))
theorem f_nd (N : News g L h (more ++ five ac ad ln a d l t u)) (B : Cl Z g ac ad ln more a d l t u ps n ls) : (FP ac ad ln).Nodup := five_nd B (f1 N).1 (f2 N).1 (f3 N).1 (f4 N).1 (f5 N).1
theorem f_fp (N : News g L h (more ++ five ac ad ln a d l t u)) : ∀ b ∈ FP ac ad ln, b ≠ L ∧ g.get? b = none := fun b hb => by
  simp only [List.mem_cons, List.not_mem_nil, or_false] at hb
  rcases hb with rfl | rfl | rfl | rfl | rfl
  · exact (f1 N).2
  · exact (f2 N).2
  · exact (f3 N).2
  · exact (f4 N).2
  · exact (f5 N).2
theorem f_upd (N : News g L h (more ++ five ac ad ln a d l t u)) (B : Cl Z g ac ad ln more a d l t u ps n ls) (k : KB (FP ac ad ln) h h')
    (h1 : h'.get? ac = some a') (h2 : h'.get? ad = some d') (h3 : h'.get? ln = some l') (h4 : h'.get? 162 = some t') (h5 : h'.get? 169 = some u') : News g L h' (more ++ five ac ad ln a' d' l' t' u') := fun z hz => by
  rcases List.mem_append.mp hz with hz | hz
  · exact ⟨k _ _ (B.ap z hz) (N z (List.mem_append_left _ hz)).1, (N z (List.mem_append_left _ hz)).2⟩
  · simp only [List.mem_cons, List.not_mem_nil, or_false] at hz
    rcases hz with rfl | rfl | rfl | rfl | rfl
    · exact ⟨h1, (f1 N).2⟩
    · exact ⟨h2, (f2 N).2⟩
    · exact ⟨h3, (f3 N).2⟩
    · exact ⟨h4, (f4 N).2⟩
    · exact ⟨h5, (f5 N).2⟩
theorem f_fr (F : Fr g L h m) (N : News g L h (more ++ five ac ad ln a d l t u)) (k : KB (FP ac ad ln) h h') : Fr g L h' m := fr_but F k (f_fp N)
theorem f_parts (F : Fr g L h m) (N : News g L h (more ++ five ac ad ln a d l t u)) {items : Array Value} (hp : PZ Z g more items ps) : PartsAt h items ps := hp.at F.keep (fun z hz => (N z (List.mem_append_left _ hz)).1)
end

section
variable {w : World} {p : Program} {loose : List Str} {mg mb : Str → Option Value} {bm : Addr} {ob : Obj} {dp un : Nat} {gd fr} {s : Shared} {R : Result → Shared → Prop} {Q : Value → Shared → Prop} {E : Value → Shared → Prop}
variable {g : Heap} {L ac ad ln : Addr} {m : Str → Option Value} {more : List (Addr × Obj)} {a d l t u : Obj} {ps : List (Str × Str)} {n : Nat} {ls : List Str}

theorem f_fresh {q : Addr} (N : News g L s.heap (more ++ five ac ad ln a d l t u)) (hq0 : s.heap.get? q = none) : q ∉ FP ac ad ln := fun hq' => by
  simp only [List.mem_cons, List.not_mem_nil, or_false] at hq'
  rcases hq' with rfl | rfl | rfl | rfl | rfl
  · rw [(f1 N).1] at hq0; cases hq0
  · rw [(f2 N).1] at hq0; cases hq0
  · rw [(f3 N).1] at hq0; cases hq0
  · rw [(f4 N).1] at hq0; cases hq0
  · rw [(f5 N).1] at hq0; cases hq0
theorem f_sx (X : (Mine.hd.heap_1 w.params).In g) (T : TopRead p loose mg mb g) (F : Fr g L s.heap m) (N : News g L s.heap (more ++ five ac ad ln a d l t u)) {fp : List Addr} (hf : ∀ b ∈ fp, b ∈ FP ac ad ln) : Sx (Mine.hd.heap_1 w.params) p loose mg mb fp s.heap :=
  Sx.of X T F.keep fun b hb => (f_fp N b (hf b hb)).2
theorem f_tx (X : (Mine.hd.heap_1 w.params).In g) (T : TopRead p loose mg mb g) (M : BMod g mainGlobals mg bm ob) (F : Fr g L s.heap m) (N : News g L s.heap (more ++ five ac ad ln a d l t u)) {fp : List Addr} (hf : ∀ b ∈ fp, b ∈ FP ac ad ln) : Tx (Mine.hd.heap_1 w.params) p loose mg mb bm ob fp s.heap :=
  Tx.of X T M F.keep fun b hb => (f_fp N b (hf b hb)).2
theorem nd_ne {ac ad ln : Addr} (nd : (FP ac ad ln).Nodup) : (ac ≠ ad ∧ ac ≠ ln ∧ ac ≠ 162 ∧ ac ≠ 169) ∧ (ad ≠ ln ∧ ad ≠ 162 ∧ ad ≠ 169) ∧ (ln ≠ 162 ∧ ln ≠ 169) := by
  simp only [List.nodup_cons, List.mem_cons, List.not_mem_nil, not_or, or_false, List.nodup_nil, and_true, not_false_iff] at nd
  exact ⟨nd.1, nd.2.1, nd.2.2.1⟩
theorem kb_ac {h h' : Heap} (k : KB [ac] h h') : KB (FP ac ad ln) h h' := k.mono fun b hb => by rw [List.mem_singleton.mp hb]; exact .head _
theorem kb_ln {h h' : Heap} (k : KB [ln] h h') : KB (FP ac ad ln) h h' := k.mono fun b hb => by rw [List.mem_singleton.mp hb]; exact .tail _ (.tail _ (.head _))
theorem kb_lt {h h' : Heap} (k : KB [162] h h') : KB (FP ac ad ln) h h' := k.mono fun b hb => by rw [List.mem_singleton.mp hb]; exact .tail _ (.tail _ (.tail _ (.head _)))
theorem kb_st {h h' : Heap} (k : KB [169] h h') : KB (FP ac ad ln) h h' := k.mono fun b hb => by rw [List.mem_singleton.mp hb]; exact .tail _ (.tail _ (.tail _ (.tail _ (.head _))))
theorem kb_tabs {h h' : Heap} (k : KB [162, 169] h h') : KB (FP ac ad ln) h h' := k.mono fun b hb => by
  simp only [List.mem_cons, List.not_mem_nil, or_false] at hb
  rcases hb with rfl | rfl
  · exact .tail _ (.tail _ (.tail _ (.head _)))
  · exact .tail _ (.tail _ (.tail _ (.tail _ (.head _))))
theorem kb_acad {h h' : Heap} (k : KB [ac, ad] h h') : KB (FP ac ad ln) h h' := k.mono fun b hb => by
  simp only [List.mem_cons, List.not_mem_nil, or_false] at hb
  rcases hb with rfl | rfl
  · exact .head _
  · exact .tail _ (.head _)

theorem w_push {x y : Str} {tx ty : Tok} (X : (Mine.hd.heap_1 w.params).In g) (T : TopRead p loose mg mb g) (F : Fr g L s.heap m) (N : News g L s.heap (more ++ five ac ad ln a d l t u)) (B : Cl Z g ac ad ln more a d l t u ps n ls) (hd : dp + 2 < recursionLimit) (hl : ps.length ≤ 900)
    (h : ∀ h' tk q a', Fr g L h' m → News g L h' (((q, tup2 (.str x tx) (.str y ty)) :: more) ++ five ac ad ln a' d l t u) → Cl Z g ac ad ln ((q, tup2 (.str x tx) (.str y ty)) :: more) a' d l t u (ps ++ [(x, y)]) n ls → R (.ok (.ret .none)) { s with heap := h', toks := tk }) :
    codeAny (model PySem.Challenge.pw_pe0168_01 w) (aT dp un gd fr) (.call (.ref 144) ⟨[.ref ac, .str x tx, .str y ty], []⟩) R s := by
  have nd := nd_ne (f_nd N B)
  have B' := B
  obtain ⟨⟨items, ep, rfl, hp⟩, ⟨hs, kt, k, rfl⟩, hln, htl, hts, ap⟩ := B
  refine push_okC (f_sx X T F N (fun b hb => by rw [List.mem_singleton.mp hb]; exact .head _)) hd (f1 N).1 (f2 N).1 (by have := hp.1; lia) ?_
  intro h' tk q kb hq0 hq hx
  have N' := f_upd N B' (kb_ac kb) hx (kb _ _ (by simpa using Ne.symm nd.1.1) (f2 N).1) (kb _ _ (by simpa using Ne.symm nd.1.2.1) (f3 N).1) (kb _ _ (by simpa using Ne.symm nd.1.2.2.1) (f4 N).1) (kb _ _ (by simpa using Ne.symm nd.1.2.2.2) (f5 N).1)
  refine h h' tk q (accO ad (items.push (.ref q)) (ep + 1)) (f_fr F N (kb_ac kb)) ?_ ⟨⟨_, _, rfl, hp.push⟩, ⟨_, _, _, rfl⟩, hln, htl, hts, fun z hz => ?_⟩
  · intro z hz
    rcases List.mem_cons.mp hz with rfl | hz
    · exact ⟨hq, fresh_of F hq0⟩
    · exact N' z hz
  · rcases List.mem_cons.mp hz with rfl | hz
    · exact f_fresh N hq0
    · exact ap z hz

theorem w_pop {pr : Str × Str} (X : (Mine.hd.heap_1 w.params).In g) (T : TopRead p loose mg mb g) (F : Fr g L s.heap m) (N : News g L s.heap (more ++ five ac ad ln a d l t u)) (B : Cl Z g ac ad ln more a d l t u (ps ++ [pr]) n ls) (hd : dp + 3 < recursionLimit) (hl : ps.length ≤ 900)
    (h : ∀ h' tk q tx ty a', Fr g L h' m → News g L h' (more ++ five ac ad ln a' d l t u) → Cl Z g ac ad ln more a' d l t u ps n ls → h'.IsTuple q #[.str pr.1 tx, .str pr.2 ty] → (g.IsTuple q #[.str pr.1 tx, .str pr.2 ty] ∨ (q, tup2 (.str pr.1 tx) (.str pr.2 ty)) ∈ more) → Q (.ref q) { s with heap := h', toks := tk }) :
    wpAny (model PySem.Challenge.pw_pe0168_01 w) (aT dp un gd fr) (call (.ref 160) [.ref ac]) Q E s := by
  have nd := nd_ne (f_nd N B)
  have B' := B
  obtain ⟨⟨items, ep, rfl, hp⟩, ⟨hs, kt, k, rfl⟩, hln, htl, hts, ap⟩ := B
  obtain ⟨its, q, tx, ty, rfl, hp', hq⟩ := hp.last
  refine pop_some_ok (f_sx X T F N (fun b hb => by rw [List.mem_singleton.mp hb]; exact .head _)) hd (f1 N).1 (f2 N).1 (by have := hp'.1; lia) ?_
  intro h' tk kb hx
  have N' := f_upd N B' (kb_ac kb) hx (kb _ _ (by simpa using Ne.symm nd.1.1) (f2 N).1) (kb _ _ (by simpa using Ne.symm nd.1.2.1) (f3 N).1) (kb _ _ (by simpa using Ne.symm nd.1.2.2.1) (f4 N).1) (kb _ _ (by simpa using Ne.symm nd.1.2.2.2) (f5 N).1)
  have F' := f_fr F N (kb_ac (ad := ad) (ln := ln) kb)
  refine h h' tk q tx ty (accO ad its (ep + 1)) F' N' ⟨⟨_, _, rfl, hp'⟩, ⟨_, _, _, rfl⟩, hln, htl, hts, ap⟩ ?_ hq
  rcases hq with ⟨o, eo, r⟩ | r
  · exact ⟨o, F'.keep _ _ eo, r⟩
  · exact ⟨_, (N' _ (List.mem_append_left _ r)).1, rfl, _, rfl⟩

theorem w_pop0 (X : (Mine.hd.heap_1 w.params).In g) (T : TopRead p loose mg mb g) (F : Fr g L s.heap m) (N : News g L s.heap (more ++ five ac ad ln a d l t u)) (B : Cl Z g ac ad ln more a d l t u [] n ls) (hd : dp + 3 < recursionLimit)
    (h : ∀ h' tk q tx ty, Fr g L h' m → News g L h' (((q, tup2 (.str (Str.ofString "") tx) (.str (Str.ofString "") ty)) :: more) ++ five ac ad ln a d l t u) → Cl Z g ac ad ln ((q, tup2 (.str (Str.ofString "") tx) (.str (Str.ofString "") ty)) :: more) a d l t u [] n ls → Q (.ref q) { s with heap := h', toks := tk }) :
    wpAny (model PySem.Challenge.pw_pe0168_01 w) (aT dp un gd fr) (call (.ref 160) [.ref ac]) Q E s := by
  obtain ⟨⟨items, ep, rfl, hp⟩, ⟨hs, kt, k, rfl⟩, hln, htl, hts, ap⟩ := B
  have hi : items = #[] := Array.eq_empty_of_size_eq_zero hp.1
  subst hi
  refine pop_empty_ok ⟨X.keeps F.keep, T.keeps F.keep⟩ hd (f1 N).1 (f2 N).1 ?_
  intro tx ty q h' tk kp hq0 hq
  refine h h' tk q tx ty (fr_keeps F kp) ?_ ⟨⟨_, _, rfl, hp.mono fun z hz => .tail _ hz⟩, ⟨_, _, _, rfl⟩, hln, htl, hts, fun z hz => ?_⟩
  · intro z hz
    rcases List.mem_cons.mp hz with rfl | hz
    · exact ⟨hq, fresh_of F hq0⟩
    · exact news_keeps N kp z hz
  · rcases List.mem_cons.mp hz with rfl | hz
    · exact f_fresh N hq0
    · exact ap z hz

theorem w_len (X : (Mine.hd.heap_1 w.params).In g) (T : TopRead p loose mg mb g) (M : BMod g mainGlobals mg bm ob) (F : Fr g L s.heap m) (N : News g L s.heap (more ++ five ac ad ln a d l t u)) (B : Cl Z g ac ad ln more a d l t u ps n ls) (hd : dp + 4 < recursionLimit) (hb : n + sumLen ps ≤ 1000000)
    (h : ∀ s' k t', Sm s s' → Fr g L s'.heap m → News g L s'.heap (more ++ five ac ad ln a d l t' u) → Cl Z g ac ad ln more a d l t' u ps n ls → Q (.int ((n + sumLen ps : Nat) : Int) k) s') :
    wpAny (model PySem.Challenge.pw_pe0168_01 w) (aT dp un gd fr) (call (.builtin "len") [.ref ac]) Q E s := by
  have nd := nd_ne (f_nd N B)
  have B' := B
  obtain ⟨⟨items, ep, rfl, hp⟩, ⟨hs, kt, k, rfl⟩, hln, ⟨v, rfl, hv⟩, hts, ap⟩ := B
  refine len_call (f_tx X T M F N (fun b hb => by rw [List.mem_singleton.mp hb]; exact .tail _ (.tail _ (.tail _ (.head _))))) hd (f1 N).1 (f2 N).1 (f_parts F N hp) (f4 N).1 hv hb ?_
  intro s' k' v' sm kb hP' ht'
  have N' := f_upd N B' (kb_lt kb) (kb _ _ (by simpa using nd.1.2.2.1) (f1 N).1) (kb _ _ (by simpa using nd.2.1.2.1) (f2 N).1) (kb _ _ (by simpa using nd.2.2.1) (f3 N).1) hP' (kb _ _ (by simp) (f5 N).1)
  exact h s' k' _ sm (f_fr F N (kb_lt kb)) N' ⟨⟨_, _, rfl, hp⟩, ⟨_, _, _, rfl⟩, hln, ⟨_, rfl, ht'⟩, hts, ap⟩

theorem w_str (X : (Mine.hd.heap_1 w.params).In g) (T : TopRead p loose mg mb g) (M : BMod g mainGlobals mg bm ob) (F : Fr g L s.heap m) (N : News g L s.heap (more ++ five ac ad ln a d l t u)) (B : Cl Z g ac ad ln more a d l t u ps n ls) (hd : dp + 4 < recursionLimit) (hu : un + 4 < cLine) (hb : sumLen ps ≤ 1000000) (hl : ps.length ≤ 900)
    (h : ∀ s' k u', Sm s s' → Fr g L s'.heap m → News g L s'.heap (more ++ five ac ad ln a d l t u') → Cl Z g ac ad ln more a d l t u' ps n ls → Q (.str (tx (partsTx ps)) k) s') :
    wpAny (model PySem.Challenge.pw_pe0168_01 w) (aT dp un gd fr) (call (.type "str") [.ref ac]) Q E s := by
  have nd := nd_ne (f_nd N B)
  have B' := B
  obtain ⟨⟨items, ep, rfl, hp⟩, ⟨hs, kt, k, rfl⟩, hln, htl, ⟨v, rfl, hv⟩, ap⟩ := B
  refine str_call (f_tx X T M F N (fun b hb => by rw [List.mem_singleton.mp hb]; exact .tail _ (.tail _ (.tail _ (.tail _ (.head _)))))) hd hu (f1 N).1 (f2 N).1 (f_parts F N hp) (f5 N).1 hv hb (by (with_reducible exact nnD (by assumption) (by decide))) ?_
  intro s' k' v' sm kb hP' ht'
  have N' := f_upd N B' (kb_st kb) (kb _ _ (by simpa using nd.1.2.2.2) (f1 N).1) (kb _ _ (by simpa using nd.2.1.2.2) (f2 N).1) (kb _ _ (by simpa using nd.2.2.2) (f3 N).1) (kb _ _ (by simp) (f4 N).1) hP'
  exact h s' k' _ sm (f_fr F N (kb_st kb)) N' ⟨⟨_, _, rfl, hp⟩, ⟨_, _, _, rfl⟩, hln, htl, ⟨_, rfl, ht'⟩, ap⟩

theorem w_onlyws (X : (Mine.hd.heap_1 w.params).In g) (T : TopRead p loose mg mb g) (M : BMod g mainGlobals mg bm ob) (F : Fr g L s.heap m) (N : News g L s.heap (more ++ five ac ad ln a d l t u)) (B : Cl Z g ac ad ln more a d l t u ps n ls) (hd : dp + 6 < recursionLimit) (hu : un + 20 < cLine) (hb : n + sumLen ps ≤ 1000000) (hl : ps.length ≤ 900)
    (hno : n ≠ 0 ∨ (0 < sumLen ps ∧ (Txt.isspace (tx (partsTx ps))) = false))
    (h : ∀ s' t' u', Sm s s' → Fr g L s'.heap m → News g L s'.heap (more ++ five ac ad ln a d l t' u') → Cl Z g ac ad ln more a d l t' u' ps n ls → Q (.bool false) s') :
    wpAny (model PySem.Challenge.pw_pe0168_01 w) (aT dp un gd fr) (call (.ref 189) [.ref ac]) Q E s := by
  have nd := nd_ne (f_nd N B)
  have B' := B
  obtain ⟨⟨items, ep, rfl, hp⟩, ⟨hs, kt, k, rfl⟩, hln, ⟨v1, rfl, hv1⟩, ⟨v, rfl, hv⟩, ap⟩ := B
  refine onlyws_ok (f_tx X T M F N (fun b hb => by
    simp only [List.mem_cons, List.not_mem_nil, or_false] at hb
    rcases hb with rfl | rfl
    · exact .tail _ (.tail _ (.tail _ (.head _)))
    · exact .tail _ (.tail _ (.tail _ (.tail _ (.head _)))))) hd hu (f1 N).1 (f2 N).1 (f_parts F N hp) (f4 N).1 hv1 (f5 N).1 hv hb (by (with_reducible exact nnD (by assumption) (by decide))) hno ?_
  intro s' v1' v' sm kb hP1 ht1 hP' ht'
  have N' := f_upd N B' (kb_tabs kb) (kb _ _ (by simp [nd.1.2.2.1, nd.1.2.2.2]) (f1 N).1) (kb _ _ (by simp [nd.2.1.2.1, nd.2.1.2.2]) (f2 N).1) (kb _ _ (by simp [nd.2.2.1, nd.2.2.2]) (f3 N).1) hP1 hP'
  exact h s' _ _ sm (f_fr F N (kb_tabs kb)) N' ⟨⟨_, _, rfl, hp⟩, ⟨_, _, _, rfl⟩, hln, ⟨_, rfl, ht1⟩, ⟨_, rfl, ht'⟩, ap⟩

theorem w_reset0 (X : (Mine.hd.heap_1 w.params).In g) (T : TopRead p loose mg mb g) (F : Fr g L s.heap m) (N : News g L s.heap (more ++ five ac ad ln a d l t u)) (B : Cl Z g ac ad ln more a d l t u ps n ls) (hd : dp + 2 < recursionLimit) (hl : ps.length ≤ 900)
    (h : ∀ h' tk a' d', Fr g L h' m → News g L h' (more ++ five ac ad ln a' d' l t u) → Cl Z g ac ad ln more a' d' l t u [] 0 ls → Q .none { s with heap := h', toks := tk }) :
    wpAny (model PySem.Challenge.pw_pe0168_01 w) (aT dp un gd fr) (call (.ref 182) [.ref ac]) Q E s := by
  have nd := nd_ne (f_nd N B)
  have B' := B
  obtain ⟨⟨items, ep, rfl, hp⟩, ⟨hs, kt, k, rfl⟩, hln, htl, hts, ap⟩ := B
  refine reset0_ok (f_sx X T F N (fun b hb => by
    simp only [List.mem_cons, List.not_mem_nil, or_false] at hb
    rcases hb with rfl | rfl
    · exact .head _
    · exact .tail _ (.head _))) hd (f1 N).1 (f2 N).1 (by have := hp.1; lia) ?_
  intro h' tk k' ep' kb hx hd'
  have N' := f_upd N B' (kb_acad kb) hx hd' (kb _ _ (by simp [Ne.symm nd.1.2.1, Ne.symm nd.2.1.1]) (f3 N).1) (kb _ _ (by simp [Ne.symm nd.1.2.2.1, Ne.symm nd.2.1.2.1]) (f4 N).1) (kb _ _ (by simp [Ne.symm nd.1.2.2.2, Ne.symm nd.2.1.2.2]) (f5 N).1)
  exact h h' tk _ _ (f_fr F N (kb_acad kb)) N' ⟨⟨_, _, rfl, PZ.nil hp.zs⟩, ⟨_, _, _, rfl⟩, hln, htl, hts, ap⟩

theorem w_reset1 {y : Addr} {new : Array Value} {ey : Nat} {ps' : List (Str × Str)} (X : (Mine.hd.heap_1 w.params).In g) (T : TopRead p loose mg mb g) (F : Fr g L s.heap m) (N : News g L s.heap (more ++ five ac ad ln a d l t u)) (B : Cl Z g ac ad ln more a d l t u ps n ls) (hd : dp + 2 < recursionLimit) (hl : ps.length ≤ 400) (hl' : ps'.length ≤ 400)
    (hy : s.heap.get? y = some (lnO new ey)) (hp' : PZ Z g more new ps')
    (h : ∀ h' tk a' d', Fr g L h' m → News g L h' (more ++ five ac ad ln a' d' l t u) → Cl Z g ac ad ln more a' d' l t u ps' 0 ls → Q .none { s with heap := h', toks := tk }) :
    wpAny (model PySem.Challenge.pw_pe0168_01 w) (aT dp un gd fr) (call (.ref 182) [.ref ac, .ref y]) Q E s := by
  have nd := nd_ne (f_nd N B)
  have B' := B
  obtain ⟨⟨items, ep, rfl, hp⟩, ⟨hs, kt, k, rfl⟩, hln, htl, hts, ap⟩ := B
  refine reset1_ok (f_sx X T F N (fun b hb => by
    simp only [List.mem_cons, List.not_mem_nil, or_false] at hb
    rcases hb with rfl | rfl
    · exact .head _
    · exact .tail _ (.head _))) hd (f1 N).1 (f2 N).1 hy (by have := hp.1; have := hp'.1; lia) ?_
  intro h' tk k' ep' kb hx hd'
  have N' := f_upd N B' (kb_acad kb) hx hd' (kb _ _ (by simp [Ne.symm nd.1.2.1, Ne.symm nd.2.1.1]) (f3 N).1) (kb _ _ (by simp [Ne.symm nd.1.2.2.1, Ne.symm nd.2.1.2.1]) (f4 N).1) (kb _ _ (by simp [Ne.symm nd.1.2.2.2, Ne.symm nd.2.1.2.2]) (f5 N).1)
  exact h h' tk _ _ (f_fr F N (kb_acad kb)) N' ⟨⟨_, _, rfl, hp'⟩, ⟨_, _, _, rfl⟩, hln, htl, hts, ap⟩

theorem w_pop_from {i : Nat} {z : Int} {k : Tok} (X : (Mine.hd.heap_1 w.params).In g) (T : TopRead p loose mg mb g) (F : Fr g L s.heap m) (N : News g L s.heap (more ++ five ac ad ln a d l t u)) (B : Cl Z g ac ad ln more a d l t u ps n ls) (hd : dp + 2 < recursionLimit) (hl : ps.length ≤ 900) (hz : z = (i : Nat)) (hi : i ≤ ps.length)
    (h : ∀ h' tk q a' new, Fr g L h' m → News g L h' (((q, lnO new 0) :: more) ++ five ac ad ln a' d l t u) → Cl Z g ac ad ln ((q, lnO new 0) :: more) a' d l t u (ps.take i) n ls → PZ Z g ((q, lnO new 0) :: more) new (ps.drop i) → Q (.ref q) { s with heap := h', toks := tk }) :
    wpAny (model PySem.Challenge.pw_pe0168_01 w) (aT dp un gd fr) (call (.ref 152) [.ref ac, .int z k]) Q E s := by
  have nd := nd_ne (f_nd N B)
  have B' := B
  obtain ⟨⟨items, ep, rfl, hp⟩, ⟨hs, kt, k, rfl⟩, hln, htl, hts, ap⟩ := B
  refine pop_from_ok (f_sx X T F N (fun b hb => by rw [List.mem_singleton.mp hb]; exact .head _)) hd (f1 N).1 (f2 N).1 (by have := hp.1; lia) hz (by have := hp.1; lia) ?_
  intro h' tk q ep' kb hq0 hq hx
  have N' := f_upd N B' (kb_ac kb) hx (kb _ _ (by simpa using Ne.symm nd.1.1) (f2 N).1) (kb _ _ (by simpa using Ne.symm nd.1.2.1) (f3 N).1) (kb _ _ (by simpa using Ne.symm nd.1.2.2.1) (f4 N).1) (kb _ _ (by simpa using Ne.symm nd.1.2.2.2) (f5 N).1)
  refine h h' tk q (accO ad (items.toList.take i).toArray ep') (items.toList.drop i).toArray (f_fr F N (kb_ac kb)) (fun z hz => ?_) ⟨⟨_, _, rfl, (hp.take i).mono fun z hz => .tail _ hz⟩, ⟨_, _, _, rfl⟩, hln, htl, hts, fun z hz => ?_⟩ ((hp.drop i).mono fun z hz => .tail _ hz)
  · rcases List.mem_cons.mp hz with rfl | hz
    · exact ⟨hq, fresh_of F hq0⟩
    · exact N' z hz
  · rcases List.mem_cons.mp hz with rfl | hz
    · exact f_fresh N hq0
    · exact ap z hz

theorem w_count (X : (Mine.hd.heap_1 w.params).In g) (T : TopRead p loose mg mb g) (F : Fr g L s.heap m) (N : News g L s.heap (more ++ five ac ad ln a d l t u)) (B : Cl Z g ac ad ln more a d l t u ps n ls) (hd : dp + 2 < recursionLimit)
    (h : ∀ h' tk k, Fr g L h' m → News g L h' (more ++ five ac ad ln a d l t u) → Q (.int ps.length k) { s with heap := h', toks := tk }) :
    wpAny (model PySem.Challenge.pw_pe0168_01 w) (aT dp un gd fr) (call (.ref 197) [.ref ac]) Q E s := by
  obtain ⟨⟨items, ep, rfl, hp⟩, ⟨hs, kt, k, rfl⟩, hln, htl, hts, ap⟩ := B
  refine part_count_ok ⟨X.keeps F.keep, T.keeps F.keep⟩ hd (f1 N).1 (f2 N).1 ?_
  intro k' h' tk kp
  rw [hp.1]
  exact h h' tk k' (fr_keeps F kp) (news_keeps N kp)

theorem w_append {x : Str} {k : Tok} {A : Around} (F : Fr g L s.heap m) (N : News g L s.heap (more ++ five ac ad ln a d l t u)) (B : Cl Z g ac ad ln more a d l t u ps n ls) (hl : ls.length ≤ 900)
    (h : ∀ h' l', Fr g L h' m → News g L h' (more ++ five ac ad ln a d l' t u) → Cl Z g ac ad ln more a d l' t u ps n (ls ++ [x]) → Q .none { s with heap := h' }) :
    wpAny (model PySem.Challenge.pw_pe0168_01 w) A (call (.builtin "list.append") [.ref ln, .str x k]) Q E s := by
  have nd := nd_ne (f_nd N B)
  have B' := B
  obtain ⟨hac, had, ⟨vs, el, rfl, hv⟩, htl, hts, ap⟩ := B
  have hsz : vs.size = ls.length := by have := hv.length; simpa using this
  refine list_append_at (f3 N).1 (by rw [sizeLine_eq]; lia) ?_
  intro h' hx sb
  have kb : KB [ln] s.heap h' := kb_same (KB.refl _ _) sb (.head _)
  have N' := f_upd N B' (kb_ln kb) (kb _ _ (by simpa using nd.1.2.1) (f1 N).1) (kb _ _ (by simpa using nd.2.1.1) (f2 N).1) hx (kb _ _ (by simpa using Ne.symm nd.2.2.1) (f4 N).1) (kb _ _ (by simpa using Ne.symm nd.2.2.2) (f5 N).1)
  exact h h' _ (f_fr F N (kb_ln kb)) N' ⟨hac, had, ⟨_, _, rfl, by simpa using strs_snoc hv⟩, htl, hts, ap⟩

noncomputable def lastOr (ps : List (Str × Str)) : Str × Str := ps.getLastD (Str.ofString "", Str.ofString "")
theorem w_popX (X : (Mine.hd.heap_1 w.params).In g) (T : TopRead p loose mg mb g) (F : Fr g L s.heap m) (N : News g L s.heap (more ++ five ac ad ln a d l t u)) (B : Cl Z g ac ad ln more a d l t u ps n ls) (hd : dp + 3 < recursionLimit) (hl : ps.length ≤ 900)
    (h : ∀ h' tk q tx ty a' more', Fr g L h' m → News g L h' (more' ++ five ac ad ln a' d l t u) → Cl Z g ac ad ln more' a' d l t u ps.dropLast n ls → (g.IsTuple q #[.str (lastOr ps).1 tx, .str (lastOr ps).2 ty] ∨ (q, tup2 (.str (lastOr ps).1 tx) (.str (lastOr ps).2 ty)) ∈ more') → Q (.ref q) { s with heap := h', toks := tk }) :
    wpAny (model PySem.Challenge.pw_pe0168_01 w) (aT dp un gd fr) (call (.ref 160) [.ref ac]) Q E s := by
  rcases List.eq_nil_or_concat ps with rfl | ⟨ps', pr, rfl⟩
  · refine w_pop0 X T F N B hd fun h' tk q tx ty F' N' B' => ?_
    exact h h' tk q tx ty a _ F' N' B' (.inr (.head _))
  · simp only [List.concat_eq_append] at *
    refine w_pop X T F N B hd (by rw [List.length_append] at hl; (with_reducible exact nnY (by assumption))) fun h' tk q tx ty a' F' N' B' _ hq => ?_
    have e1 : lastOr (ps' ++ [pr]) = pr := by simp [lastOr, List.getLastD_eq_getLast?]
    have e2 : (ps' ++ [pr]).dropLast = ps' := by simp
    refine h h' tk q tx ty a' more F' N' (by rw [e2]; exact B') ?_
    rw [e1]; exact hq
end

theorem Cl.own {g h : Heap} {L ac ad ln : Addr} {more own : List (Addr × Obj)} {a d l t u : Obj} {ps : List (Str × Str)} {n : Nat} {ls : List Str} (B : Cl Z g ac ad ln more a d l t u ps n ls) (N : News g L h (more ++ five ac ad ln a d l t u)) (ho : ∀ q ∈ own, q.1 = h.objs.size) : Cl Z g ac ad ln (own ++ more) a d l t u ps n ls := by
  obtain ⟨⟨items, ep, rfl, hp⟩, had, hln, htl, hts, ap⟩ := B
  refine ⟨⟨items, ep, rfl, hp.mono fun z hz => List.mem_append_right _ hz⟩, had, hln, htl, hts, fun z hz => ?_⟩
  rcases List.mem_append.mp hz with hz | hz
  · intro q
    rw [ho z hz] at q
    simp only [List.mem_cons, List.not_mem_nil, or_false] at q
    have l1 := Heap.lt_size (f1 N).1
    have l2 := Heap.lt_size (f2 N).1
    have l3 := Heap.lt_size (f3 N).1
    have l4 := Heap.lt_size (f4 N).1
    have l5 := Heap.lt_size (f5 N).1
    rcases q with q | q | q | q | q
    · exact Nat.ne_of_gt l1 q
    · exact Nat.ne_of_gt l2 q
    · exact Nat.ne_of_gt l3 q
    · exact Nat.ne_of_gt l4 q
    · exact Nat.ne_of_gt l5 q
  · exact ap z hz
theorem news_apart {g h : Heap} {L : Addr} {news : List (Addr × Obj)} (N : News g L h news) : ∀ q ∈ news, q.1 ∉ [h.objs.size] := fun q hq e => by
  have := Heap.lt_size (N q hq).1
  rw [List.mem_singleton.mp e] at this
  exact Nat.lt_irrefl _ this

theorem vf_gt (w : World) : findIn (Mine.hd.heap_1 w.params) (.ref 116) "__getattr__" = some none := by k_is
theorem vf_meth {w : World} {A : Around} {E : Value → Shared → Prop} {s : Shared} {f fd ln ac g : Addr} {κ : FK} {name : Str} {pl : Sem Bool} {Q : Value × List Value → Shared → Prop} (X : (Mine.hd.heap_1 w.params).In s.heap) (hf : s.heap.get? f = some (fmO fd)) (hfd : s.heap.get? fd = some (fdO κ ln ac))
    (hm : findIn (Mine.hd.heap_1 w.params) (.ref 116) name = some (some (.ref g))) (ht : typeIn (Mine.hd.heap_1 w.params) (.ref g) = some (.type "function")) (hs : shadowIn (some (fdO κ ln ac)) name = some false) (h : Q (.ref g, [.ref f]) s) :
    wpAny (model PySem.Challenge.pw_pe0168_01 w) A (getMethod (.ref f) name pl) Q E s := method_fn X (fmI hf hfd) (vf_ga w) (vf_gt w) hm ht hs h

noncomputable def Fst (Z : List Addr) (h : Heap) (ac ad ln : Addr) (ps : List (Str × Str)) (n : Nat) (ls : List Str) : Prop :=
  ∃ a d l t u, h.get? ac = some a ∧ h.get? ad = some d ∧ h.get? ln = some l ∧ h.get? 162 = some t ∧ h.get? 169 = some u ∧ Cl Z h ac ad ln [] a d l t u ps n ls
theorem Fst.enter {h : Heap} {ac ad ln : Addr} {ps : List (Str × Str)} {n : Nat} {ls : List Str} (x : Fst Z h ac ad ln ps n ls) :
    ∃ a d l t u, h.get? ac = some a ∧ h.get? ad = some d ∧ h.get? ln = some l ∧ h.get? 162 = some t ∧ h.get? 169 = some u ∧ Cl Z (hideAll h (FP ac ad ln)) ac ad ln [] a d l t u ps n ls := by
  obtain ⟨a, d, l, t, u, h1, h2, h3, h4, h5, B⟩ := x
  refine ⟨a, d, l, t, u, h1, h2, h3, h4, h5, ?_⟩
  obtain ⟨⟨items, ep, rfl, hp⟩, ⟨hs, kt, k, rfl⟩, ⟨vs, el, rfl, hv⟩, ⟨v, rfl, hw⟩, ⟨v', rfl, hw'⟩, ap⟩ := B
  have out : ∀ b o, h.get? b = some o → o.cls = .type "tuple" → b ∉ FP ac ad ln := fun b o eo c => by
    have a1 := ne_of_cls eo h1 (by rw [c]; simp)
    have a2 := ne_of_cls eo h2 (by rw [c]; simp)
    have a3 := ne_of_cls eo h3 (by rw [c]; simp)
    have a4 := ne_of_cls eo h4 (by rw [c]; simp)
    have a5 := ne_of_cls eo h5 (by rw [c]; simp)
    simp [a1, a2, a3, a4, a5]
  refine ⟨⟨items, ep, rfl, hp.sz, ⟨hp.sz, fun i p e => ?_⟩, fun z hz => ?_⟩, ⟨hs, kt, k, rfl⟩, ⟨vs, el, rfl, hv⟩, ⟨v, rfl, hw⟩, ⟨v', rfl, hw'⟩, ap⟩
  · obtain ⟨b, t', u', e', r⟩ := hp.parts.2 i p e
    refine ⟨b, t', u', e', .inl ?_⟩
    rcases r with ⟨o, eo, c, r⟩ | r
    · have hb : b ∉ Z := fun q => by rw [hideAll_none _ q] at eo; cases eo
      have eo' := of_hideAll _ eo
      exact ⟨o, hideAll_get _ (hid_get eo' (out b o eo' c)) hb, c, r⟩
    · cases r
  · obtain ⟨o, eo, c⟩ := hp.zs z hz
    exact ⟨o, hid_get eo (out z o eo c), c⟩
theorem Fst.exit {g h : Heap} {L ac ad ln : Addr} {m : Str → Option Value} {more : List (Addr × Obj)} {a d l t u : Obj} {ps : List (Str × Str)} {n : Nat} {ls : List Str} (F : Fr g L h m) (N : News g L h (more ++ five ac ad ln a d l t u)) (B : Cl Z g ac ad ln more a d l t u ps n ls) : Fst Z h ac ad ln ps n ls := by
  refine ⟨a, d, l, t, u, (f1 N).1, (f2 N).1, (f3 N).1, (f4 N).1, (f5 N).1, ?_⟩
  obtain ⟨⟨items, ep, rfl, hp⟩, had, hln, htl, hts, ap⟩ := B
  exact ⟨⟨items, ep, rfl, hp.out F N⟩, had, hln, htl, hts, fun z hz => by cases hz⟩
theorem Fst.back {g h h' : Heap} {L ac ad ln : Addr} {m : Str → Option Value} {more : List (Addr × Obj)} {a d l t u : Obj} {ps : List (Str × Str)} {n n' : Nat} {ls ls' : List Str} (F : Fr g L h m) (N : News g L h (more ++ five ac ad ln a d l t u)) (B : Cl Z g ac ad ln more a d l t u ps n ls)
    (kb : KB (FP ac ad ln) h h') (S : Fst Z h' ac ad ln [] n' ls') : ∃ a' d' l' t' u', Fr g L h' m ∧ News g L h' (more ++ five ac ad ln a' d' l' t' u') ∧ Cl Z g ac ad ln more a' d' l' t' u' [] n' ls' := by
  obtain ⟨a', d', l', t', u', h1, h2, h3, h4, h5, ⟨⟨items, ep, rfl, hp⟩, had, hln, htl, hts, -⟩⟩ := S
  exact ⟨_, _, _, _, _, f_fr F N kb, f_upd N B kb h1 h2 h3 h4 h5, ⟨⟨items, ep, rfl, PZ.empty hp.1 B.oac.choose_spec.choose_spec.2.zs⟩, had, hln, htl, hts, B.ap⟩⟩
theorem Fst.apart {h : Heap} {ac ad ln b : Addr} {o : Obj} {ps : List (Str × Str)} {n : Nat} {ls : List Str} (x : Fst Z h ac ad ln ps n ls) (hb : h.get? b = some o) (hc : (∃ fd, o = fmO fd) ∨ (∃ κ ln ac, o = fdO κ ln ac) ∨ o.cls = .type "tuple") : b ∉ FP ac ad ln := by
  obtain ⟨a, d, l, t, u, h1, h2, h3, h4, h5, ⟨⟨items, ep, rfl, hp⟩, ⟨hs, kt, k, rfl⟩, ⟨vs, el, rfl, hv⟩, ⟨v, rfl, hw⟩, ⟨v', rfl, hw'⟩, ap⟩⟩ := x
  rcases hc with ⟨fd, rfl⟩ | ⟨κ, ln', ac', rfl⟩ | c
  · have a1 := ne_of_cls hb h1 (by simp)
    have a2 := ne_of_cls hb h2 (by simp)
    have a3 := ne_of_cls hb h3 (by simp)
    have a4 := ne_of_cls hb h4 (by simp)
    have a5 := ne_of_cls hb h5 (by simp)
    simp [a1, a2, a3, a4, a5]
  · have a1 := ne_of_cls hb h1 (by simp)
    have a2 := ne_of_obj hb h2 (by simp)
    have a3 := ne_of_cls hb h3 (by simp)
    have a4 := ne_of_cls hb h4 (by simp)
    have a5 := ne_of_cls hb h5 (by simp)
    simp [a1, a2, a3, a4, a5]
  · have a1 := ne_of_cls hb h1 (by rw [c]; simp)
    have a2 := ne_of_cls hb h2 (by rw [c]; simp)
    have a3 := ne_of_cls hb h3 (by rw [c]; simp)
    have a4 := ne_of_cls hb h4 (by rw [c]; simp)
    have a5 := ne_of_cls hb h5 (by rw [c]; simp)
    simp [a1, a2, a3, a4, a5]

theorem sumLen_lastOr (ps : List (Str × Str)) : sumLen (ps.dropLast ++ [((lastOr ps).1, (lastOr ps).2)]) = sumLen ps := by
  rcases List.eq_nil_or_concat ps with rfl | ⟨ps', pr, rfl⟩
  · rfl
  · simp [lastOr, List.getLastD_eq_getLast?]
theorem partsTx_lastOr (ps : List (Str × Str)) : partsTx (ps.dropLast ++ [((lastOr ps).1, (lastOr ps).2)]) = partsTx ps := by
  rcases List.eq_nil_or_concat ps with rfl | ⟨ps', pr, rfl⟩
  · rfl
  · simp [lastOr, List.getLastD_eq_getLast?]

section
variable {w : World} {p : Program} {loose : List Str} {mg mb : Str → Option Value} {s : Shared} {E : Value → Shared → Prop} {A : Around}
variable {g : Heap} {L ac ad ln : Addr} {m : Str → Option Value} {more : List (Addr × Obj)} {a d l t u : Obj} {ps : List (Str × Str)} {n : Nat} {ls : List Str}
theorem w_meth {f : Addr} {name : Str} {pl : Sem Bool} {Q : Value × List Value → Shared → Prop} (X : (Mine.hd.heap_1 w.params).In g) (F : Fr g L s.heap m) (N : News g L s.heap (more ++ five ac ad ln a d l t u)) (B : Cl Z g ac ad ln more a d l t u ps n ls)
    (hf : findIn (Mine.hd.heap_1 w.params) (.ref 200) name = some (some (.ref f))) (ht : typeIn (Mine.hd.heap_1 w.params) (.ref f) = some (.type "function")) (hsh : ∀ hs kt v, shadowIn (some (adO hs kt v)) name = some false) (h : Q (.ref f, [.ref ac]) s) :
    wpAny (model PySem.Challenge.pw_pe0168_01 w) A (getMethod (.ref ac) name pl) Q E s := by
  obtain ⟨⟨items, ep, rfl, hp⟩, ⟨hs, kt, k, rfl⟩, -⟩ := B
  exact sub_meth_fn (X.keeps F.keep) (accI (f1 N).1 (f2 N).1) (accS w) hf ht (hsh _ _ _) h
theorem w_size {expr : Bool} {Q : Value → Shared → Prop} (X : (Mine.hd.heap_1 w.params).In g) (F : Fr g L s.heap m) (N : News g L s.heap (more ++ five ac ad ln a d l t u)) (B : Cl Z g ac ad ln more a d l t u ps n ls)
    (h : ∀ k, Q (.int (n : Nat) k) { s with toks := s.toks + 1 }) :
    wpAny (model PySem.Challenge.pw_pe0168_01 w) A (getAttr (.ref ac) (Str.ofString "_initial_size") expr) Q E s := by
  obtain ⟨⟨items, ep, rfl, hp⟩, ⟨hs, kt, k, rfl⟩, -⟩ := B
  exact sub_get (X.keeps F.keep) (accI (f1 N).1 (f2 N).1) (accS w) (acc_isz w hs kt _) (by rfl) (h k)
theorem acc_pushb (w : World) (hs : Int) (kt : Tok) (v : Value) : findObj (Mine.hd.heap_1 w.params) 200 (some (adO hs kt v)) (Str.ofString "push") = some (.bind (.builtin "function.__get__") (.ref 144)) := by kernel_rfl
theorem acc_pusht (w : World) : typeIn (Mine.hd.heap_1 w.params) (.ref 144) = some (.type "function") := by k_is
theorem w_bound {expr : Bool} {Q : Value → Shared → Prop} (X : (Mine.hd.heap_1 w.params).In g) (F : Fr g L s.heap m) (N : News g L s.heap (more ++ five ac ad ln a d l t u)) (B : Cl Z g ac ad ln more a d l t u ps n ls)
    (h : Fr g L (s.heap.push (methodObj (.ref 144) (.ref ac))) m → News g L (s.heap.push (methodObj (.ref 144) (.ref ac))) (more ++ five ac ad ln a d l t u) →
      Q (.ref s.heap.objs.size) { s with heap := s.heap.push (methodObj (.ref 144) (.ref ac)), toks := s.toks + 1 }) :
    wpAny (model PySem.Challenge.pw_pe0168_01 w) A (getAttr (.ref ac) (Str.ofString "push") expr) Q E s := by
  obtain ⟨⟨items, ep, rfl, hp⟩, ⟨hs, kt, k, rfl⟩, -⟩ := B
  exact sub_bound (X.keeps F.keep) (accI (f1 N).1 (f2 N).1) (accS w) (acc_pushb w _ _ _) (acc_pusht w) (h (F.push _) (news_push N _))

theorem w_item {value slice : Expr} {i : Nat} {z : Int} {k : Tok} {pr : Str × Str} {Q : Value → Shared → Prop} (X : (Mine.hd.heap_1 w.params).In g) (F : Fr g L s.heap m) (N : News g L s.heap (more ++ five ac ad ln a d l t u)) (B : Cl Z g ac ad ln more a d l t u ps n ls)
    (hz : z = (i : Nat)) (hi : i < 2 ^ 62) (hp : ps[i]? = some pr) (h : ∀ q tx ty, IsTup s.heap q #[.str pr.1 tx, .str pr.2 ty] → Q (.ref q) s)
    (hs : subscripted slice false (.ref ac) (.int z k) = operate [.ref ac, .int z k] (getItem (.ref ac) (.int z k))) :
    wpAny (model PySem.Challenge.pw_pe0168_01 w) A (subscriptTail value slice (.ref ac) (.int z k)) Q E s := by
  obtain ⟨⟨items, ep, rfl, hpp⟩, ⟨hs, kt, k, rfl⟩, -⟩ := B
  subst hz
  obtain ⟨q, tx, ty, e, r⟩ := hpp.get F.keep (fun z hz => (N z (List.mem_append_left _ hz)).1) hp
  have I := accI (f1 N).1 (f2 N).1
  refine sub_subscript (X.keeps F.keep) I (acc_getitem w) (sub_item (X.keeps F.keep) I (accS w) rfl (acc_noseq w) (acc_getitem w) (by lia) (by lia) (by simpa using e) ?_) (by assumption)
  exact h q tx ty r
end
end
section
open PySem PySem.W PyProof.Rows PySem.Calls
set_option Elab.async false
set_option maxRecDepth 100000
set_option maxHeartbeats 1000000
variable {Z : List Addr}

theorem fillM9 : PySem.Challenge.rw_pe0168_01 = PySem.Challenge.rw_pe0168_01 → Mine.hd.heap_1 = Mine.hd.heap_1 := by
  k_fill
  intro _; rfl


theorem newline_ok {w : World} {p : Program} {loose mg mb bm ob} {dp un gd fr} {s : Shared} {Q E} {f fd ln ac ad : Addr} {κ : FK} {n : Nat} {ps : List (Str × Str)} {ls : List Str}
   (C : Tx (Mine.hd.heap_1 w.params) p loose mg mb bm ob (FP ac ad ln) s.heap) (hd : dp + 10 < recursionLimit) (hu : un + 40 < cLine)
   (hf : s.heap.get? f = some (fmO fd)) (hfd : s.heap.get? fd = some (fdO κ ln ac)) (S : Fst Z s.heap ac ad ln ps n ls)
   (hl : ps.length ≤ 100) (hls : ls.length ≤ 100) (hb : n + sumLen ps ≤ 1000000) (hno : n ≠ 0 ∨ (0 < sumLen ps ∧ (Txt.isspace (tx (partsTx ps))) = false)) (hne : lastOr ps ≠ (Str.ofString " ", Str.ofString ""))
   (hQ : ∀ s', Sm s s' → KB (FP ac ad ln) s.heap s'.heap → Fst Z s'.heap ac ad ln [] 0 (ls ++ [tx (partsTx ps)]) → Q .none s') :
   wpAny (model PySem.Challenge.pw_pe0168_01 w) (aT dp un gd fr) (call (.ref 78) [.ref f]) Q E s := by
  w_on
  have n1 : f ∉ FP ac ad ln := S.apart hf (.inl ⟨_, rfl⟩)
  have n2 : fd ∉ FP ac ad ln := S.apart hfd (.inr (.inl ⟨_, _, _, rfl⟩))
  obtain ⟨a, d, l, t, u, h1, h2, h3, h4, h5, B⟩ := S.enter
  k_dflt (refine enterH (binds := [(Str.ofString "self", .ref f)]) (five ac ad ln a d l t u) C.S (by k_is) (by k_is) (by show dp < recursionLimit; (with_reducible exact nnC (by assumption))) (BindsTo.of_eq rfl) (locs rfl) ?hn ?_ rfl rfl rfl (by decide))
  case hn => exact List.forall_mem_cons.mpr ⟨⟨.head _, h1⟩, List.forall_mem_cons.mpr ⟨⟨.tail _ (.head _), h2⟩, List.forall_mem_cons.mpr ⟨⟨.tail _ (.tail _ (.head _)), h3⟩, List.forall_mem_cons.mpr ⟨⟨.tail _ (.tail _ (.tail _ (.head _))), h4⟩, List.forall_mem_cons.mpr ⟨⟨.tail _ (.tail _ (.tail _ (.tail _ (.head _)))), h5⟩, List.forall_mem_nil _⟩⟩⟩⟩⟩
  intro L' h₁ tk F N X T
  change Fr _ _ _ (lmap [(Str.ofString "self", some (.ref f))]) at F
  have gf := hid_get hf n1
  have gfd := hid_get hfd n2
  have CM := C.M
  have kbF : ∀ {h2 m}, Fr (hideAll s.heap (FP ac ad ln)) L' h2 m → KB (FP ac ad ln) s.heap h2 := fun F => kb_of F
  generalize hG : hideAll s.heap (FP ac ad ln) = g0 at F N X T gf gfd CM B kbF
  clear hf hfd h1 h2 h3 h4 h5 C n1 n2 S hG
  (repeat' ((fail_if_success (with_reducible show wpAny _ _ (getAttr (Value.ref _) _ _) _ _ _)); (fail_if_success (with_reducible show wpAny _ _ (getMethod (Value.ref _) _ _) _ _ _)); (fail_if_success (with_reducible show wpAny _ _ (call _ _ _) _ _ _)); (first | walk1 | (dsimp only; walk1)); (try dsimp only)))
  refine get_value (X.keeps F.keep) (fmI (F.keep _ _ gf) (F.keep _ _ gfd)) (vf_ga w) (vf_cl w κ ln ac) rfl ?_
  (repeat' ((fail_if_success (with_reducible show wpAny _ _ (getAttr (Value.ref _) _ _) _ _ _)); (fail_if_success (with_reducible show wpAny _ _ (getMethod (Value.ref _) _ _) _ _ _)); (fail_if_success (with_reducible show wpAny _ _ (call _ _ _) _ _ _)); (first | walk1 | (dsimp only; walk1)); (try dsimp only)))
  refine w_meth (more := []) (f := 160) X F N B (by k_is) (by k_is) (fun _ _ _ => rfl) ?_
  dsimp only
  (repeat' ((fail_if_success (with_reducible show wpAny _ _ (getAttr (Value.ref _) _ _) _ _ _)); (fail_if_success (with_reducible show wpAny _ _ (getMethod (Value.ref _) _ _) _ _ _)); (fail_if_success (with_reducible show wpAny _ _ (call _ _ _) _ _ _)); (first | walk1 | (dsimp only; walk1)); (try dsimp only)))
  show wpAny _ _ (call (.ref 160) [.ref ac]) _ _ _
  refine w_popX (more := []) X T F N B (by show dp + 1 + 3 < recursionLimit; (with_reducible exact nnA (by assumption) (by decide))) (by (with_reducible exact nnD (by assumption) (by decide))) ?_
  intro h2 tk2 q tx ty a2 more F2 N2 B2 hq
  clear F N B
  (repeat' ((fail_if_success (with_reducible show wpAny _ _ (getAttr (Value.ref _) _ _) _ _ _)); (fail_if_success (with_reducible show wpAny _ _ (getMethod (Value.ref _) _ _) _ _ _)); (fail_if_success (with_reducible show wpAny _ _ (call _ _ _) _ _ _)); (first | walk1 | (dsimp only; walk1)); (try dsimp only)))
  rename Fr _ _ _ _ => F3
  rename News _ _ _ _ => N3
  have hq3 := tup_in hq F3.keep (fun z hz => (N3 z (.tail _ (List.mem_append_left _ hz))).1)
  refine tup_ne hq3 ⟨_, (N3 _ (.head _)).1, rfl, _, rfl⟩ (by show un + 3 < cLine; (with_reducible exact nnB (by assumption) (by decide))) ?_
  have hneB : (!((lastOr ps).1 == Str.ofString " " && (lastOr ps).2 == Str.ofString "")) = true := by
    rw [Bool.not_eq_true', ← Bool.not_eq_true]
    intro z
    rw [Bool.and_eq_true, beq_iff_eq, beq_iff_eq] at z
    exact hne (Prod.ext z.1 z.2)
  rw [hneB]
  replace N3 := news_sub N3 (fun z hz => .tail _ hz)
  (repeat' ((fail_if_success (with_reducible show wpAny _ _ (getAttr (Value.ref _) _ _) _ _ _)); (fail_if_success (with_reducible show wpAny _ _ (getMethod (Value.ref _) _ _) _ _ _)); (fail_if_success (with_reducible show wpAny _ _ (call _ _ _) _ _ _)); (first | walk1 | (dsimp only; walk1)); (try dsimp only)))
  refine starMeth ?_
  (repeat' ((fail_if_success (with_reducible show wpAny _ _ (getAttr (Value.ref _) _ _) _ _ _)); (fail_if_success (with_reducible show wpAny _ _ (getMethod (Value.ref _) _ _) _ _ _)); (fail_if_success (with_reducible show wpAny _ _ (call _ _ _) _ _ _)); (first | walk1 | (dsimp only; walk1)); (try dsimp only)))
  refine get_value (X.keeps F3.keep) (fmI (F3.keep _ _ gf) (F3.keep _ _ gfd)) (vf_ga w) (vf_cl w κ ln ac) rfl ?_
  (repeat' ((fail_if_success (with_reducible show wpAny _ _ (getAttr (Value.ref _) _ _) _ _ _)); (fail_if_success (with_reducible show wpAny _ _ (getMethod (Value.ref _) _ _) _ _ _)); (fail_if_success (with_reducible show wpAny _ _ (call _ _ _) _ _ _)); (first | walk1 | (dsimp only; walk1)); (try dsimp only)))
  refine w_bound X F3 N3 B2 fun F4 N4 => ?_
  refine star2 (K := Mine.hd.heap_1 w.params) (g := 144) (self := .ref ac) (T := q) (a := .str (lastOr ps).1 tx) (b := .str (lastOr ps).2 ty) (Heap.get?_push_size _ rfl) (X.keeps F4.keep) (by k_is) (tup_in hq F4.keep (fun z hz => (N4 z (List.mem_append_left _ hz)).1)) (elt_name rfl rfl F4.ns rfl ⟨rfl, rfl⟩ rfl) ?_
  intro h5 k5
  have F5 := fr_keeps F4 k5
  have N5 := news_keeps N4 k5
  refine w_push (dp := dp + 1) X T F5 N5 B2 (by (with_reducible exact nnA (by assumption) (by decide))) (by rw [List.length_dropLast]; lia) ?_
  intro h6 tk6 q6 a6 F6 N6 B6
  clear F3 N3 F4 N4 F5 N5 B2 hq3
  have e1 : sumLen (ps.dropLast ++ [((lastOr ps).1, (lastOr ps).2)]) = sumLen ps := sumLen_lastOr ps
  have e2 : partsTx (ps.dropLast ++ [((lastOr ps).1, (lastOr ps).2)]) = partsTx ps := partsTx_lastOr ps
  have e3 : (ps.dropLast ++ [((lastOr ps).1, (lastOr ps).2)]).length ≤ 101 := by rw [List.length_append, List.length_dropLast]; simp; (with_reducible exact nnD (by assumption) (by decide))
  generalize hqs : ps.dropLast ++ [((lastOr ps).1, (lastOr ps).2)] = qs at B6 e1 e2 e3
  have hpos : 0 < n + sumLen qs := by rcases hno with h | h <;> lia
  (repeat' ((fail_if_success (with_reducible show wpAny _ _ (getAttr (Value.ref _) _ _) _ _ _)); (fail_if_success (with_reducible show wpAny _ _ (getMethod (Value.ref _) _ _) _ _ _)); (fail_if_success (with_reducible show wpAny _ _ (call _ _ _) _ _ _)); (first | walk1 | (dsimp only; walk1)); (try dsimp only)))
  refine get_value (X.keeps F6.keep) (fmI (F6.keep _ _ gf) (F6.keep _ _ gfd)) (vf_ga w) (vf_cl w κ ln ac) rfl ?_
  (repeat' ((fail_if_success (with_reducible show wpAny _ _ (getAttr (Value.ref _) _ _) _ _ _)); (fail_if_success (with_reducible show wpAny _ _ (getMethod (Value.ref _) _ _) _ _ _)); (fail_if_success (with_reducible show wpAny _ _ (call _ _ _) _ _ _)); (first | walk1 | (dsimp only; walk1)); (try dsimp only)))
  refine w_len (dp := dp + 1) X T CM F6 N6 B6 (by (with_reducible exact nnA (by assumption) (by decide))) (by lia) ?_
  intro s7 k7 t7 sm7 F7 N7 B7
  clear F6 N6 B6
  have hlt : (0 : Int) < ((n + sumLen qs : Nat) : Int) := by lia
  (repeat' ((fail_if_success (with_reducible show wpAny _ _ (getAttr (Value.ref _) _ _) _ _ _)); (fail_if_success (with_reducible show wpAny _ _ (getMethod (Value.ref _) _ _) _ _ _)); (fail_if_success (with_reducible show wpAny _ _ (call _ _ _) _ _ _)); (first | walk1 | (dsimp only; walk1)); (try dsimp only)))
  refine get_value (X.keeps F7.keep) (fmI (F7.keep _ _ gf) (F7.keep _ _ gfd)) (vf_ga w) (vf_cl w κ ln ac) rfl ?_
  (repeat' ((fail_if_success (with_reducible show wpAny _ _ (getAttr (Value.ref _) _ _) _ _ _)); (fail_if_success (with_reducible show wpAny _ _ (getMethod (Value.ref _) _ _) _ _ _)); (fail_if_success (with_reducible show wpAny _ _ (call _ _ _) _ _ _)); (first | walk1 | (dsimp only; walk1)); (try dsimp only)))
  refine w_meth (f := 189) X F7 N7 B7 (by k_is) (by k_is) (fun _ _ _ => rfl) ?_
  dsimp only
  (repeat' ((fail_if_success (with_reducible show wpAny _ _ (getAttr (Value.ref _) _ _) _ _ _)); (fail_if_success (with_reducible show wpAny _ _ (getMethod (Value.ref _) _ _) _ _ _)); (fail_if_success (with_reducible show wpAny _ _ (call _ _ _) _ _ _)); (first | walk1 | (dsimp only; walk1)); (try dsimp only)))
  show wpAny _ _ (call (.ref 189) [.ref ac]) _ _ _
  refine w_onlyws (dp := dp + 1) X T CM F7 N7 B7 (by (with_reducible exact nnA (by assumption) (by decide))) (by show un + 3 + 20 < cLine; (with_reducible exact nnA (by assumption) (by decide))) (by lia) (by (with_reducible exact nnD (by assumption) (by decide))) (by rw [e1, e2]; exact hno) ?_
  intro s8 t8 u8 sm8 F8 N8 B8
  clear F7 N7 B7
  (repeat' ((fail_if_success (with_reducible show wpAny _ _ (getAttr (Value.ref _) _ _) _ _ _)); (fail_if_success (with_reducible show wpAny _ _ (getMethod (Value.ref _) _ _) _ _ _)); (fail_if_success (with_reducible show wpAny _ _ (call _ _ _) _ _ _)); (first | walk1 | (dsimp only; walk1)); (try dsimp only)))
  refine get_value (X.keeps F8.keep) (fmI (F8.keep _ _ gf) (F8.keep _ _ gfd)) (vf_ga w) (vf_ln w κ ln ac) rfl ?_
  (repeat' ((fail_if_success (with_reducible show wpAny _ _ (getAttr (Value.ref _) _ _) _ _ _)); (fail_if_success (with_reducible show wpAny _ _ (getMethod (Value.ref _) _ _) _ _ _)); (fail_if_success (with_reducible show wpAny _ _ (call _ _ _) _ _ _)); (first | walk1 | (dsimp only; walk1)); (try dsimp only)))
  obtain ⟨vs, el, rfl, hvs⟩ := id B8.oln
  refine getMethod_list_append (f3 N8).1 rfl rfl ?_
  dsimp only
  (repeat' ((fail_if_success (with_reducible show wpAny _ _ (getAttr (Value.ref _) _ _) _ _ _)); (fail_if_success (with_reducible show wpAny _ _ (getMethod (Value.ref _) _ _) _ _ _)); (fail_if_success (with_reducible show wpAny _ _ (call _ _ _) _ _ _)); (first | walk1 | (dsimp only; walk1)); (try dsimp only)))
  refine get_value (X.keeps F8.keep) (fmI (F8.keep _ _ gf) (F8.keep _ _ gfd)) (vf_ga w) (vf_cl w κ ln ac) rfl ?_
  (repeat' ((fail_if_success (with_reducible show wpAny _ _ (getAttr (Value.ref _) _ _) _ _ _)); (fail_if_success (with_reducible show wpAny _ _ (getMethod (Value.ref _) _ _) _ _ _)); (fail_if_success (with_reducible show wpAny _ _ (call _ _ _) _ _ _)); (first | walk1 | (dsimp only; walk1)); (try dsimp only)))
  refine w_str (dp := dp + 1) X T CM F8 N8 B8 (by (with_reducible exact nnA (by assumption) (by decide))) (by show un + 3 + 4 < cLine; (with_reducible exact nnA (by assumption) (by decide))) (by lia) (by (with_reducible exact nnD (by assumption) (by decide))) ?_
  intro s9 k9 u9 sm9 F9 N9 B9
  clear F8 N8 B8
  (repeat' ((fail_if_success (with_reducible show wpAny _ _ (getAttr (Value.ref _) _ _) _ _ _)); (fail_if_success (with_reducible show wpAny _ _ (getMethod (Value.ref _) _ _) _ _ _)); (fail_if_success (with_reducible show wpAny _ _ (call _ _ _) _ _ _)); (first | walk1 | (dsimp only; walk1)); (try dsimp only)))
  show wpAny _ _ (call (.builtin "list.append") [.ref ln, .str _ _]) _ _ _
  refine w_append F9 N9 B9 (by (with_reducible exact nnD (by assumption) (by decide))) ?_
  intro h10 l10 F10 N10 B10
  clear F9 N9 B9
  (repeat' ((fail_if_success (with_reducible show wpAny _ _ (getAttr (Value.ref _) _ _) _ _ _)); (fail_if_success (with_reducible show wpAny _ _ (getMethod (Value.ref _) _ _) _ _ _)); (fail_if_success (with_reducible show wpAny _ _ (call _ _ _) _ _ _)); (first | walk1 | (dsimp only; walk1)); (try dsimp only)))
  refine get_value (X.keeps F10.keep) (fmI (F10.keep _ _ gf) (F10.keep _ _ gfd)) (vf_ga w) (vf_cl w κ ln ac) rfl ?_
  (repeat' ((fail_if_success (with_reducible show wpAny _ _ (getAttr (Value.ref _) _ _) _ _ _)); (fail_if_success (with_reducible show wpAny _ _ (getMethod (Value.ref _) _ _) _ _ _)); (fail_if_success (with_reducible show wpAny _ _ (call _ _ _) _ _ _)); (first | walk1 | (dsimp only; walk1)); (try dsimp only)))
  refine w_meth (f := 182) X F10 N10 B10 (by k_is) (by k_is) (fun _ _ _ => rfl) ?_
  dsimp only
  (repeat' ((fail_if_success (with_reducible show wpAny _ _ (getAttr (Value.ref _) _ _) _ _ _)); (fail_if_success (with_reducible show wpAny _ _ (getMethod (Value.ref _) _ _) _ _ _)); (fail_if_success (with_reducible show wpAny _ _ (call _ _ _) _ _ _)); (first | walk1 | (dsimp only; walk1)); (try dsimp only)))
  show wpAny _ _ (call (.ref 182) [.ref ac]) _ _ _
  refine w_reset0 (dp := dp + 1) X T F10 N10 B10 (by (with_reducible exact nnA (by assumption) (by decide))) (by (with_reducible exact nnD (by assumption) (by decide))) ?_
  intro h11 tk11 a11 d11 F11 N11 B11
  clear F10 N10 B10
  (repeat' ((fail_if_success (with_reducible show wpAny _ _ (getAttr (Value.ref _) _ _) _ _ _)); (fail_if_success (with_reducible show wpAny _ _ (getMethod (Value.ref _) _ _) _ _ _)); (fail_if_success (with_reducible show wpAny _ _ (call _ _ _) _ _ _)); (first | walk1 | (dsimp only; walk1)); (try dsimp only)))
  rw [e2] at B11
  refine hQ _ ?_ (kbF F11) (Fst.exit F11 N11 B11)
  exact Sm.trans (s' := s7) ⟨sm7.1, sm7.2.1, sm7.2.2⟩ (Sm.trans (s' := s8) ⟨sm8.1, sm8.2.1, sm8.2.2⟩ ⟨sm9.1, sm9.2.1, sm9.2.2⟩)
end
section
open PySem PySem.W PyProof.Rows PySem.Calls
set_option Elab.async false
set_option maxRecDepth 100000
set_option maxHeartbeats 1000000
variable {Z : List Addr}

theorem fillAp : PySem.Challenge.rw_pe0168_01 = PySem.Challenge.rw_pe0168_01 → Mine.hd.heap_1 = Mine.hd.heap_1 := by
  k_fill
  intro _; rfl


theorem lastOr_ne {ps : List (Str × Str)} (h : ∀ p ∈ ps, 0 < p.2.length) : lastOr ps ≠ (Str.ofString " ", Str.ofString "") := by
  rcases List.eq_nil_or_concat ps with rfl | ⟨ps', pr, rfl⟩
  · decide
  · have h1 := h pr (by simp)
    intro e
    have e2 : lastOr (ps'.concat pr) = pr := by simp [lastOr, List.getLastD_eq_getLast?]
    rw [e2] at e
    rw [e] at h1
    exact absurd h1 (by decide)
theorem chunk_ok {w : World} {p : Program} {loose mg mb bm ob} {dp un gd fr} {s : Shared} {Q E} {f fd ln ac ad : Addr} {κ : FK} {n : Nat} {ps : List (Str × Str)} {ls : List Str} {x y : Str} {kx ky kw ks : Tok} {W : Nat} {z : Str}
   (C : Tx (Mine.hd.heap_1 w.params) p loose mg mb bm ob (FP ac ad ln) s.heap) (hd : dp + 20 < recursionLimit) (hu : un + 60 < cLine)
   (hf : s.heap.get? f = some (fmO fd)) (hfd : s.heap.get? fd = some (fdO κ ln ac)) (hW : κ.v1 = .int (W : Nat) kw) (hz : κ.v4 = .str z ks) (S : Fst Z s.heap ac ad ln ps n ls)
   (hl : ps.length ≤ 50) (hls : ls.length ≤ 50) (hb : n + sumLen ps + x.length + y.length ≤ 1000000) (hn : ∀ p ∈ ps ++ [(x, y)], 0 < p.1.length ∧ 0 < p.2.length)
   (hQ : ∀ s', Sm s s' → KB (FP ac ad ln) s.heap s'.heap → Fst Z s'.heap ac ad ln (chunkS (sg z) W (ps, n, ls) (x, y)).1 (chunkS (sg z) W (ps, n, ls) (x, y)).2.1 (chunkS (sg z) W (ps, n, ls) (x, y)).2.2 → Q .none s') :
   wpAny (model PySem.Challenge.pw_pe0168_01 w) (aT dp un gd fr) (call (.ref 113) [.ref f, .str x kx, .str y ky]) Q E s := by
  w_on
  have n1 : f ∉ FP ac ad ln := S.apart hf (.inl ⟨_, rfl⟩)
  have n2 : fd ∉ FP ac ad ln := S.apart hfd (.inr (.inl ⟨_, _, _, rfl⟩))
  obtain ⟨a, d, l, t, u, h1, h2, h3, h4, h5, B⟩ := S.enter
  k_dflt (refine enterH (binds := [(Str.ofString "self", .ref f), (Str.ofString "fws", .str x kx), (Str.ofString "string", .str y ky)]) (five ac ad ln a d l t u) C.S (by k_is) (by k_is) (by show dp < recursionLimit; (with_reducible exact nnC (by assumption))) (BindsTo.of_eq rfl) (locs rfl) ?hn ?_ rfl rfl rfl (by decide))
  case hn => exact List.forall_mem_cons.mpr ⟨⟨.head _, h1⟩, List.forall_mem_cons.mpr ⟨⟨.tail _ (.head _), h2⟩, List.forall_mem_cons.mpr ⟨⟨.tail _ (.tail _ (.head _)), h3⟩, List.forall_mem_cons.mpr ⟨⟨.tail _ (.tail _ (.tail _ (.head _))), h4⟩, List.forall_mem_cons.mpr ⟨⟨.tail _ (.tail _ (.tail _ (.tail _ (.head _)))), h5⟩, List.forall_mem_nil _⟩⟩⟩⟩⟩
  intro L' h₁ tk F N X T
  change Fr _ _ _ (lmap [(Str.ofString "string", some (.str y ky)), (Str.ofString "fws", some (.str x kx)), (Str.ofString "self", some (.ref f))]) at F
  have gf := hid_get hf n1
  have gfd := hid_get hfd n2
  have CM := C.M
  have kbF : ∀ {h2 m}, Fr (hideAll s.heap (FP ac ad ln)) L' h2 m → KB (FP ac ad ln) s.heap h2 := fun F => kb_of F
  generalize hG : hideAll s.heap (FP ac ad ln) = g0 at F N X T gf gfd CM B kbF
  clear hf hfd h1 h2 h3 h4 h5 C n1 n2 S hG
  (repeat' ((fail_if_success (with_reducible show wpAny _ _ (getAttr (Value.ref _) _ _) _ _ _)); (fail_if_success (with_reducible show wpAny _ _ (getMethod (Value.ref _) _ _) _ _ _)); (fail_if_success (with_reducible show wpAny _ _ (exec (Stmt.For _ _ _ _ _) _) _ _ _)); (fail_if_success (with_reducible show wpAny _ _ (call _ _ _) _ _ _)); (first | walk1 | (dsimp only; walk1)); (try dsimp only)))
  refine get_value (X.keeps F.keep) (fmI (F.keep _ _ gf) (F.keep _ _ gfd)) (vf_ga w) (vf_cl w κ ln ac) rfl ?_
  (repeat' ((fail_if_success (with_reducible show wpAny _ _ (getAttr (Value.ref _) _ _) _ _ _)); (fail_if_success (with_reducible show wpAny _ _ (getMethod (Value.ref _) _ _) _ _ _)); (fail_if_success (with_reducible show wpAny _ _ (exec (Stmt.For _ _ _ _ _) _) _ _ _)); (fail_if_success (with_reducible show wpAny _ _ (call _ _ _) _ _ _)); (first | walk1 | (dsimp only; walk1)); (try dsimp only)))
  refine w_meth (more := []) (f := 144) X F N B (by k_is) (by k_is) (fun _ _ _ => rfl) ?_
  dsimp only
  (repeat' ((fail_if_success (with_reducible show wpAny _ _ (getAttr (Value.ref _) _ _) _ _ _)); (fail_if_success (with_reducible show wpAny _ _ (getMethod (Value.ref _) _ _) _ _ _)); (fail_if_success (with_reducible show wpAny _ _ (exec (Stmt.For _ _ _ _ _) _) _ _ _)); (fail_if_success (with_reducible show wpAny _ _ (call _ _ _) _ _ _)); (first | walk1 | (dsimp only; walk1)); (try dsimp only)))
  show wpAny _ _ (call (.ref 144) [.ref ac, .str x kx, .str y ky]) _ _ _
  refine wpAny_call (w_push (more := []) (dp := dp + 1) X T F N B (by (with_reducible exact nnA (by assumption) (by decide))) (by (with_reducible exact nnD (by assumption) (by decide))) ?_)
  intro h2 tk2 q2 a2 F2 N2 B2
  clear F N B
  dsimp only
  (repeat' ((fail_if_success (with_reducible show wpAny _ _ (getAttr (Value.ref _) _ _) _ _ _)); (fail_if_success (with_reducible show wpAny _ _ (getMethod (Value.ref _) _ _) _ _ _)); (fail_if_success (with_reducible show wpAny _ _ (exec (Stmt.For _ _ _ _ _) _) _ _ _)); (fail_if_success (with_reducible show wpAny _ _ (call _ _ _) _ _ _)); (first | walk1 | (dsimp only; walk1)); (try dsimp only)))
  refine get_value (X.keeps F2.keep) (fmI (F2.keep _ _ gf) (F2.keep _ _ gfd)) (vf_ga w) (vf_cl w κ ln ac) rfl ?_
  (repeat' ((fail_if_success (with_reducible show wpAny _ _ (getAttr (Value.ref _) _ _) _ _ _)); (fail_if_success (with_reducible show wpAny _ _ (getMethod (Value.ref _) _ _) _ _ _)); (fail_if_success (with_reducible show wpAny _ _ (exec (Stmt.For _ _ _ _ _) _) _ _ _)); (fail_if_success (with_reducible show wpAny _ _ (call _ _ _) _ _ _)); (first | walk1 | (dsimp only; walk1)); (try dsimp only)))
  have hsl : sumLen (ps ++ [(x, y)]) = sumLen ps + x.length + y.length := by rw [sumLen_append]; simp [sumLen]; lia
  refine w_len (dp := dp + 1) X T CM F2 N2 B2 (by (with_reducible exact nnA (by assumption) (by decide))) (by lia) ?_
  intro s3 k3 t3 sm3 F3 N3 B3
  clear F2 N2 B2
  (repeat' ((fail_if_success (with_reducible show wpAny _ _ (getAttr (Value.ref _) _ _) _ _ _)); (fail_if_success (with_reducible show wpAny _ _ (getMethod (Value.ref _) _ _) _ _ _)); (fail_if_success (with_reducible show wpAny _ _ (exec (Stmt.For _ _ _ _ _) _) _ _ _)); (fail_if_success (with_reducible show wpAny _ _ (call _ _ _) _ _ _)); (first | walk1 | (dsimp only; walk1)); (try dsimp only)))
  refine get_value (X.keeps F3.keep) (fmI (F3.keep _ _ gf) (F3.keep _ _ gfd)) (vf_ga w) (vf_mx w κ ln ac) (by rw [hW]; rfl) ?_
  rw [hW]
  (repeat' ((fail_if_success (with_reducible show wpAny _ _ (getAttr (Value.ref _) _ _) _ _ _)); (fail_if_success (with_reducible show wpAny _ _ (getMethod (Value.ref _) _ _) _ _ _)); (fail_if_success (with_reducible show wpAny _ _ (exec (Stmt.For _ _ _ _ _) _) _ _ _)); (fail_if_success (with_reducible show wpAny _ _ (call _ _ _) _ _ _)); (first | walk1 | (dsimp only; walk1)); (try dsimp only)))
  rotate_left
  · rename ¬ _ => hW2
    have e9 := chunkS_short (z := sg z) (W := W) (s := (ps, n, ls)) (p := (x, y)) (by show ¬ W < n + sumLen (ps ++ [(x, y)]); lia)
    refine hQ _ sm3 (kbF F3) ?_
    rw [e9]
    exact Fst.exit F3 N3 B3
  rename _ < _ => hW2
  generalize hps : ps ++ [(x, y)] = qs at *
  refine wpAny_mono (Q := fun fl s' => match fl with
    | .next => Hold <| ∃ i h' tk kk fw pv cv, s' = { s3 with heap := h', toks := tk } ∧ seek qs (sg z) = some i ∧ Fr g0 L' h' (lmap [(Str.ofString "ch", cv), (Str.ofString "i", some (.int (i : Nat) kk)), (Str.ofString "prevpart", pv), (Str.ofString "fws", fw), (Str.ofString "string", some (.str y ky)), (Str.ofString "self", some (.ref f))]) ∧
        News g0 L' h' ([(q2, tup2 (.str x kx) (.str y ky))] ++ five ac ad ln a2 d l t3 u)
    | .ret v => Hold (v = .none ∧ Q .none s')
    | _ => False) (E := NoE) ?_ (fun fl s' h' => ?_) (fun _ _ h' => h'.elim)
  rotate_left
  · clear F3 N3
    cases fl with
    | ret v =>
      obtain ⟨rfl, hq2⟩ := Hold.get h'
      exact hq2
    | cont => exact h'.elim
    | brk => exact h'.elim
    | next =>
      obtain ⟨i, h4, tk4, kk, fw, pv, cv, rfl, hseek, F4, N4⟩ := Hold.get h'
      have hi := seek_le hseek
      have hql : qs.length ≤ 51 := by rw [← hps, List.length_append]; simp; (with_reducible exact nnD (by assumption) (by decide))
      (repeat' ((fail_if_success (with_reducible show wpAny _ _ (getAttr (Value.ref _) _ _) _ _ _)); (fail_if_success (with_reducible show wpAny _ _ (getMethod (Value.ref _) _ _) _ _ _)); (fail_if_success (with_reducible show wpAny _ _ (exec (Stmt.For _ _ _ _ _) _) _ _ _)); (fail_if_success (with_reducible show wpAny _ _ (call _ _ _) _ _ _)); (first | walk1 | (dsimp only; walk1)); (try dsimp only)))
      refine get_value (X.keeps F4.keep) (fmI (F4.keep _ _ gf) (F4.keep _ _ gfd)) (vf_ga w) (vf_cl w κ ln ac) rfl ?_
      (repeat' ((fail_if_success (with_reducible show wpAny _ _ (getAttr (Value.ref _) _ _) _ _ _)); (fail_if_success (with_reducible show wpAny _ _ (getMethod (Value.ref _) _ _) _ _ _)); (fail_if_success (with_reducible show wpAny _ _ (exec (Stmt.For _ _ _ _ _) _) _ _ _)); (fail_if_success (with_reducible show wpAny _ _ (call _ _ _) _ _ _)); (first | walk1 | (dsimp only; walk1)); (try dsimp only)))
      refine w_meth (f := 152) X F4 N4 B3 (by k_is) (by k_is) (fun _ _ _ => rfl) ?_
      dsimp only
      (repeat' ((fail_if_success (with_reducible show wpAny _ _ (getAttr (Value.ref _) _ _) _ _ _)); (fail_if_success (with_reducible show wpAny _ _ (getMethod (Value.ref _) _ _) _ _ _)); (fail_if_success (with_reducible show wpAny _ _ (exec (Stmt.For _ _ _ _ _) _) _ _ _)); (fail_if_success (with_reducible show wpAny _ _ (call _ _ _) _ _ _)); (first | walk1 | (dsimp only; walk1)); (try dsimp only)))
      show wpAny _ _ (call (.ref 152) [.ref ac, .int (i : Nat) _]) _ _ _
      refine w_pop_from (dp := dp + 1) (i := i) X T F4 N4 B3 (by (with_reducible exact nnA (by assumption) (by decide))) (by (with_reducible exact nnD (by assumption) (by decide))) rfl (by lia) ?_
      intro h5 tk5 q5 a5 new F5 N5 B5 hp5
      clear F4 N4 B3
      (repeat' ((fail_if_success (with_reducible show wpAny _ _ (getAttr (Value.ref _) _ _) _ _ _)); (fail_if_success (with_reducible show wpAny _ _ (getMethod (Value.ref _) _ _) _ _ _)); (fail_if_success (with_reducible show wpAny _ _ (exec (Stmt.For _ _ _ _ _) _) _ _ _)); (fail_if_success (with_reducible show wpAny _ _ (call _ _ _) _ _ _)); (first | walk1 | (dsimp only; walk1)); (try dsimp only)))
      rename Fr _ _ _ _ => F6
      rename News _ _ _ _ => N6
      have hsl2 : sumLen (qs.take i) ≤ sumLen qs := sumLen_take_le qs i
      have htl : (qs.take i).length ≤ 51 := by rw [List.length_take]; (with_reducible exact nnH (by assumption))
      have hdl : (qs.drop i).length ≤ 51 := by rw [List.length_drop]; lia
      refine get_value (X.keeps F6.keep) (fmI (F6.keep _ _ gf) (F6.keep _ _ gfd)) (vf_ga w) (vf_ln w κ ln ac) rfl ?_
      (repeat' ((fail_if_success (with_reducible show wpAny _ _ (getAttr (Value.ref _) _ _) _ _ _)); (fail_if_success (with_reducible show wpAny _ _ (getMethod (Value.ref _) _ _) _ _ _)); (fail_if_success (with_reducible show wpAny _ _ (exec (Stmt.For _ _ _ _ _) _) _ _ _)); (fail_if_success (with_reducible show wpAny _ _ (call _ _ _) _ _ _)); (first | walk1 | (dsimp only; walk1)); (try dsimp only)))
      obtain ⟨vs, el, rfl, hvs⟩ := id B5.oln
      refine getMethod_list_append (f3 N6).1 rfl rfl ?_
      dsimp only
      (repeat' ((fail_if_success (with_reducible show wpAny _ _ (getAttr (Value.ref _) _ _) _ _ _)); (fail_if_success (with_reducible show wpAny _ _ (getMethod (Value.ref _) _ _) _ _ _)); (fail_if_success (with_reducible show wpAny _ _ (exec (Stmt.For _ _ _ _ _) _) _ _ _)); (fail_if_success (with_reducible show wpAny _ _ (call _ _ _) _ _ _)); (first | walk1 | (dsimp only; walk1)); (try dsimp only)))
      refine get_value (X.keeps F6.keep) (fmI (F6.keep _ _ gf) (F6.keep _ _ gfd)) (vf_ga w) (vf_cl w κ ln ac) rfl ?_
      (repeat' ((fail_if_success (with_reducible show wpAny _ _ (getAttr (Value.ref _) _ _) _ _ _)); (fail_if_success (with_reducible show wpAny _ _ (getMethod (Value.ref _) _ _) _ _ _)); (fail_if_success (with_reducible show wpAny _ _ (exec (Stmt.For _ _ _ _ _) _) _ _ _)); (fail_if_success (with_reducible show wpAny _ _ (call _ _ _) _ _ _)); (first | walk1 | (dsimp only; walk1)); (try dsimp only)))
      refine w_str (dp := dp + 1) X T CM F6 N6 B5 (by (with_reducible exact nnA (by assumption) (by decide))) (by show un + 3 + 4 < cLine; (with_reducible exact nnA (by assumption) (by decide))) (by lia) (by (with_reducible exact nnD (by assumption) (by decide))) ?_
      intro s7 k7 u7 sm7 F7 N7 B7
      clear F6 N6 B5
      (repeat' ((fail_if_success (with_reducible show wpAny _ _ (getAttr (Value.ref _) _ _) _ _ _)); (fail_if_success (with_reducible show wpAny _ _ (getMethod (Value.ref _) _ _) _ _ _)); (fail_if_success (with_reducible show wpAny _ _ (exec (Stmt.For _ _ _ _ _) _) _ _ _)); (fail_if_success (with_reducible show wpAny _ _ (call _ _ _) _ _ _)); (first | walk1 | (dsimp only; walk1)); (try dsimp only)))
      show wpAny _ _ (call (.builtin "list.append") [.ref ln, .str _ _]) _ _ _
      refine w_append F7 N7 B7 (by (with_reducible exact nnD (by assumption) (by decide))) ?_
      intro h8 l8 F8 N8 B8
      clear F7 N7 B7
      (repeat' ((fail_if_success (with_reducible show wpAny _ _ (getAttr (Value.ref _) _ _) _ _ _)); (fail_if_success (with_reducible show wpAny _ _ (getMethod (Value.ref _) _ _) _ _ _)); (fail_if_success (with_reducible show wpAny _ _ (exec (Stmt.For _ _ _ _ _) _) _ _ _)); (fail_if_success (with_reducible show wpAny _ _ (call _ _ _) _ _ _)); (first | walk1 | (dsimp only; walk1)); (try dsimp only)))
      refine get_value (X.keeps F8.keep) (fmI (F8.keep _ _ gf) (F8.keep _ _ gfd)) (vf_ga w) (vf_cl w κ ln ac) rfl ?_
      (repeat' ((fail_if_success (with_reducible show wpAny _ _ (getAttr (Value.ref _) _ _) _ _ _)); (fail_if_success (with_reducible show wpAny _ _ (getMethod (Value.ref _) _ _) _ _ _)); (fail_if_success (with_reducible show wpAny _ _ (exec (Stmt.For _ _ _ _ _) _) _ _ _)); (fail_if_success (with_reducible show wpAny _ _ (call _ _ _) _ _ _)); (first | walk1 | (dsimp only; walk1)); (try dsimp only)))
      refine w_meth (f := 182) X F8 N8 B8 (by k_is) (by k_is) (fun _ _ _ => rfl) ?_
      dsimp only
      (repeat' ((fail_if_success (with_reducible show wpAny _ _ (getAttr (Value.ref _) _ _) _ _ _)); (fail_if_success (with_reducible show wpAny _ _ (getMethod (Value.ref _) _ _) _ _ _)); (fail_if_success (with_reducible show wpAny _ _ (exec (Stmt.For _ _ _ _ _) _) _ _ _)); (fail_if_success (with_reducible show wpAny _ _ (call _ _ _) _ _ _)); (first | walk1 | (dsimp only; walk1)); (try dsimp only)))
      show wpAny _ _ (call (.ref 182) [.ref ac, .ref q5]) _ _ _
      refine w_reset1 (dp := dp + 1) (y := q5) (new := new) X T F8 N8 B8 (by (with_reducible exact nnA (by assumption) (by decide))) (by (with_reducible exact nnD (by assumption) (by decide))) (by (with_reducible exact nnD (by assumption) (by decide))) (N8 (q5, lnO new 0) (.head _)).1 hp5 ?_
      intro h9 tk9 a9 d9 F9 N9 B9
      clear F8 N8 B8
      (repeat' ((fail_if_success (with_reducible show wpAny _ _ (getAttr (Value.ref _) _ _) _ _ _)); (fail_if_success (with_reducible show wpAny _ _ (getMethod (Value.ref _) _ _) _ _ _)); (fail_if_success (with_reducible show wpAny _ _ (exec (Stmt.For _ _ _ _ _) _) _ _ _)); (fail_if_success (with_reducible show wpAny _ _ (call _ _ _) _ _ _)); (first | walk1 | (dsimp only; walk1)); (try dsimp only)))
      have e9 := chunkS_found (z := sg z) (W := W) (s := (ps, n, ls)) (p := (x, y)) (i := i) (by show W < n + sumLen (ps ++ [(x, y)]); rw [hps]; lia) (by rw [hps]; exact hseek)
      refine hQ _ ⟨sm7.1.trans sm3.1, sm7.2.1.trans sm3.2.1, fun q => sm7.2.2 (sm3.2.2 q)⟩ (kbF F9) ?_
      rw [e9, hps]
      exact Fst.exit F9 N9 B9
  refine turn_abs fun R0 hR0 => ?_
  refine wpAny_For ?_ (by intro _; rfl)
  (repeat' ((fail_if_success (with_reducible show wpAny _ _ (getAttr (Value.ref _) _ _) _ _ _)); (fail_if_success (with_reducible show wpAny _ _ (getMethod (Value.ref _) _ _) _ _ _)); (fail_if_success (with_reducible show wpAny _ _ (exec (Stmt.For _ _ _ _ _) _) _ _ _)); (fail_if_success (with_reducible show wpAny _ _ (call _ _ _) _ _ _)); (first | walk1 | (dsimp only; walk1)); (try dsimp only)))
  refine get_value (X.keeps F3.keep) (fmI (F3.keep _ _ gf) (F3.keep _ _ gfd)) (vf_ga w) (vf_sp w κ ln ac) (by rw [hz]; rfl) ?_
  rw [hz]
  refine iter_str (σ := Option Value × Option Value × Option Value) (fun i a => [(Str.ofString "i", a.1), (Str.ofString "prevpart", a.2.1), (Str.ofString "fws", a.2.2), (Str.ofString "string", some (.str y ky)), (Str.ofString "self", some (.ref f))]) (fun _ _ => [(q2, tup2 (.str x kx) (.str y ky))] ++ five ac ad ln a2 d l t3 u) (fun i _ => seek qs ((sg z).take i) = none) (none, none, some (.str x kx)) (by rfl) F3 (lmap_agree [Str.ofString "i", Str.ofString "prevpart", Str.ofString "fws", Str.ofString "string", Str.ofString "self"] ?h1 ?h2 ?hv) N3 (by rfl) ?_ ?_
  case h1 => rfl
  case h2 => rfl
  case hv => exact List.forall_mem_cons.mpr ⟨rfl, List.forall_mem_cons.mpr ⟨rfl, List.forall_mem_cons.mpr ⟨rfl, List.forall_mem_cons.mpr ⟨rfl, List.forall_mem_cons.mpr ⟨rfl, List.forall_mem_nil _⟩⟩⟩⟩⟩
  · intro k c kc a4 h4 tk4 own hc hs ho F4 N4
    refine turn_abs fun R hR => ?_
    clear F3
    have B4 := B3.own N3 ho
    have N4' : News g0 L' h4 ((own ++ [(q2, tup2 (.str x kx) (.str y ky))]) ++ five ac ad ln a2 d l t3 u) := news_sub N4 fun z hz => by
      simp only [List.mem_append] at hz ⊢
      rcases hz with (hz | hz) | hz
      · exact .inr hz
      · exact .inl (.inl hz)
      · exact .inl (.inr hz)
    clear N4
    generalize hmo : own ++ [(q2, tup2 (.str x kx) (.str y ky))] = more4 at B4 N4'
    have N4 := N4'
    clear N4'
    (repeat' ((fail_if_success (with_reducible show wpAny _ _ (getAttr (Value.ref _) _ _) _ _ _)); (fail_if_success (with_reducible show wpAny _ _ (getMethod (Value.ref _) _ _) _ _ _)); (fail_if_success (with_reducible show wpAny _ _ (exec (Stmt.For _ _ _ _ _) _) _ _ _)); (fail_if_success (with_reducible show wpAny _ _ (call _ _ _) _ _ _)); (first | walk1 | (dsimp only; walk1)); (try dsimp only)))
    refine wpAny_For ?_ (by intro _; rfl)
    (repeat' ((fail_if_success (with_reducible show wpAny _ _ (getAttr (Value.ref _) _ _) _ _ _)); (fail_if_success (with_reducible show wpAny _ _ (getMethod (Value.ref _) _ _) _ _ _)); (fail_if_success (with_reducible show wpAny _ _ (exec (Stmt.For _ _ _ _ _) _) _ _ _)); (fail_if_success (with_reducible show wpAny _ _ (call _ _ _) _ _ _)); (first | walk1 | (dsimp only; walk1)); (try dsimp only)))
    refine get_value (X.keeps F4.keep) (fmI (F4.keep _ _ gf) (F4.keep _ _ gfd)) (vf_ga w) (vf_cl w κ ln ac) rfl ?_
    (repeat' ((fail_if_success (with_reducible show wpAny _ _ (getAttr (Value.ref _) _ _) _ _ _)); (fail_if_success (with_reducible show wpAny _ _ (getMethod (Value.ref _) _ _) _ _ _)); (fail_if_success (with_reducible show wpAny _ _ (exec (Stmt.For _ _ _ _ _) _) _ _ _)); (fail_if_success (with_reducible show wpAny _ _ (call _ _ _) _ _ _)); (first | walk1 | (dsimp only; walk1)); (try dsimp only)))
    refine w_meth (f := 197) X F4 N4 B4 (by k_is) (by k_is) (fun _ _ _ => rfl) ?_
    dsimp only
    (repeat' ((fail_if_success (with_reducible show wpAny _ _ (getAttr (Value.ref _) _ _) _ _ _)); (fail_if_success (with_reducible show wpAny _ _ (getMethod (Value.ref _) _ _) _ _ _)); (fail_if_success (with_reducible show wpAny _ _ (exec (Stmt.For _ _ _ _ _) _) _ _ _)); (fail_if_success (with_reducible show wpAny _ _ (call _ _ _) _ _ _)); (first | walk1 | (dsimp only; walk1)); (try dsimp only)))
    show wpAny _ _ (call (.ref 197) [.ref ac]) _ _ _
    refine w_count (dp := dp + 1) X T F4 N4 B4 (by (with_reducible exact nnA (by assumption) (by decide))) ?_
    intro h5 tk5 k5 F5 N5
    clear F4 N4
    (repeat' ((fail_if_success (with_reducible show wpAny _ _ (getAttr (Value.ref _) _ _) _ _ _)); (fail_if_success (with_reducible show wpAny _ _ (getMethod (Value.ref _) _ _) _ _ _)); (fail_if_success (with_reducible show wpAny _ _ (exec (Stmt.For _ _ _ _ _) _) _ _ _)); (fail_if_success (with_reducible show wpAny _ _ (call _ _ _) _ _ _)); (first | walk1 | (dsimp only; walk1)); (try dsimp only)))
    walk1
    (try dsimp only)
    rename IsRange _ _ _ _ _ _ _ _ => hr6
    rename Fr _ _ _ _ => F6
    rename News _ _ _ _ => N6
    have hq0 : 0 < qs.length := by rw [← hps, List.length_append]; exact Nat.succ_pos _
    have hrs : Builtin.Range.rangeSize ((qs.length : Int) - 1) 0 (-1) = ((qs.length - 1 : Nat) : Int) := by
      have := range_down (qs.length - 1)
      rw [show ((qs.length - 1 : Nat) : Int) = (qs.length : Int) - 1 by lia] at this
      rw [this]; lia
    have hql : qs.length ≤ 51 := by rw [← hps, List.length_append]; simp; (with_reducible exact nnD (by assumption) (by decide))
    refine iter_range (n := qs.length - 1) (σ := Option Value × Option Value) (fun i a => [(Str.ofString "ch", some (.str ⟨#[c]⟩ kc)), (Str.ofString "prevpart", a.1), (Str.ofString "fws", a.2), (Str.ofString "string", some (.str y ky)), (Str.ofString "self", some (.ref f))]) (fun _ _ => more4 ++ five ac ad ln a2 d l t3 u) (fun i _ => findI qs c (qs.length - 1) = findI qs c (qs.length - 1 - i)) (a4.2.1, a4.2.2) (by rfl) hr6 (small_gen (by lia) (by lia) (by decide) (by decide) (.inr rfl) hrs (by lia)) hrs F6 (lmap_agree [Str.ofString "ch", Str.ofString "prevpart", Str.ofString "fws", Str.ofString "string", Str.ofString "self"] ?d1 ?d2 ?dv) N6 (by rfl) ?_ ?_
    case d1 => rfl
    case d2 => rfl
    case dv => exact List.forall_mem_cons.mpr ⟨rfl, List.forall_mem_cons.mpr ⟨rfl, List.forall_mem_cons.mpr ⟨rfl, List.forall_mem_cons.mpr ⟨rfl, List.forall_mem_cons.mpr ⟨rfl, List.forall_mem_nil _⟩⟩⟩⟩⟩
    · intro i ki a7 h7 tk7 own7 hi hs7 ho7 F7 N7
      refine turn_abs fun R2 hR2 => ?_
      clear F6
      have B7 := B4.own N6 ho7
      have N7' : News g0 L' h7 ((own7 ++ more4) ++ five ac ad ln a2 d l t3 u) := news_sub N7 fun z hz => by
        simp only [List.mem_append] at hz ⊢
        rcases hz with (hz | hz) | hz
        · exact .inr hz
        · exact .inl (.inl hz)
        · exact .inl (.inr hz)
      clear N7
      generalize hmo7 : own7 ++ more4 = more7 at B7 N7'
      have N7 := N7'
      clear N7'
      obtain ⟨j, hj⟩ : ∃ j : Nat, qs.length - 1 - i = j + 1 := ⟨qs.length - 1 - i - 1, by (with_reducible exact nnX (by assumption))⟩
      have hjz : ((qs.length : Int) - 1 + (i : Int) * (-1)) = ((j + 1 : Nat) : Int) := by lia
      rw [hjz] at F7
      have hjl : j + 1 < qs.length := by lia
      obtain ⟨pr, hpr⟩ : ∃ pr, qs[j + 1]? = some pr := ⟨_, List.getElem?_eq_getElem hjl⟩
      obtain ⟨pv, hpv⟩ : ∃ pv, qs[j]? = some pv := ⟨_, List.getElem?_eq_getElem (by (with_reducible exact nnC (by assumption)))⟩
      have hpr1 := (hn pr (List.mem_of_getElem? hpr)).1
      have hpv2 := (hn pv (List.mem_of_getElem? hpv)).2
      have hpr3 := sumLen_mem (List.mem_of_getElem? hpr)
      have hpv3 := sumLen_mem (List.mem_of_getElem? hpv)
      have hhit : hitAt qs c (j + 1) = (Txt.isspace ⟨#[c]⟩ && Txt.item pr.1 0 == ⟨#[c]⟩ || Txt.item pv.2 (-1) == ⟨#[c]⟩) := by
        unfold hitAt; rw [hpr, show j + 1 - 1 = j from rfl, hpv]
      rw [hj] at hs7
      walk1
      refine wpAny_mono (Q := fun fl s' => match fl with
        | .next => Hold <| ∃ h' tk fw, s' = { s3 with heap := h', toks := tk } ∧ Fr g0 L' h' (lmap [(Str.ofString "i", some (.int ((j + 1 : Nat) : Int) ki)), (Str.ofString "ch", some (.str ⟨#[c]⟩ kc)), (Str.ofString "prevpart", a7.1), (Str.ofString "fws", fw), (Str.ofString "string", some (.str y ky)), (Str.ofString "self", some (.ref f))]) ∧
            News g0 L' h' (more7 ++ five ac ad ln a2 d l t3 u) ∧ (Txt.isspace ⟨#[c]⟩ && Txt.item pr.1 0 == ⟨#[c]⟩) = false
        | .brk => Hold <| ∃ h' tk fw, s' = { s3 with heap := h', toks := tk } ∧ Fr g0 L' h' (lmap [(Str.ofString "i", some (.int ((j + 1 : Nat) : Int) ki)), (Str.ofString "ch", some (.str ⟨#[c]⟩ kc)), (Str.ofString "prevpart", a7.1), (Str.ofString "fws", fw), (Str.ofString "string", some (.str y ky)), (Str.ofString "self", some (.ref f))]) ∧
            News g0 L' h' (more7 ++ five ac ad ln a2 d l t3 u) ∧ (Txt.isspace ⟨#[c]⟩ && Txt.item pr.1 0 == ⟨#[c]⟩) = true
        | _ => False) (E := NoE) ?_ (fun fl s' h' => ?_) (fun _ _ h' => h'.elim)
      · refine turn_abs fun R3 hR3 => ?_
        (repeat' ((fail_if_success (with_reducible show wpAny _ _ (getAttr (Value.ref _) _ _) _ _ _)); (fail_if_success (with_reducible show wpAny _ _ (getMethod (Value.ref _) _ _) _ _ _)); (fail_if_success (with_reducible show wpAny _ _ (exec (Stmt.For _ _ _ _ _) _) _ _ _)); (fail_if_success (with_reducible show wpAny _ _ (call _ _ _) _ _ _)); (first | walk1 | (dsimp only; walk1)); (try dsimp only)))
        walk1
        (try dsimp only)
        (repeat' ((fail_if_success (with_reducible show wpAny _ _ (getAttr (Value.ref _) _ _) _ _ _)); (fail_if_success (with_reducible show wpAny _ _ (getMethod (Value.ref _) _ _) _ _ _)); (fail_if_success (with_reducible show wpAny _ _ (exec (Stmt.For _ _ _ _ _) _) _ _ _)); (fail_if_success (with_reducible show wpAny _ _ (call _ _ _) _ _ _)); (first | walk1 | (dsimp only; walk1)); (try dsimp only)))
        · refine get_value (X.keeps F7.keep) (fmI (F7.keep _ _ gf) (F7.keep _ _ gfd)) (vf_ga w) (vf_cl w κ ln ac) rfl ?_
          (repeat' ((fail_if_success (with_reducible show wpAny _ _ (getAttr (Value.ref _) _ _) _ _ _)); (fail_if_success (with_reducible show wpAny _ _ (getMethod (Value.ref _) _ _) _ _ _)); (fail_if_success (with_reducible show wpAny _ _ (exec (Stmt.For _ _ _ _ _) _) _ _ _)); (fail_if_success (with_reducible show wpAny _ _ (call _ _ _) _ _ _)); (first | walk1 | (dsimp only; walk1)); (try dsimp only)))
          refine w_item X F7 N7 B7 rfl (by lia) hpr ?_ (by with_unfolding_all rfl)
          intro q8 tx8 ty8 r8
          (repeat' ((fail_if_success (with_reducible show wpAny _ _ (getAttr (Value.ref _) _ _) _ _ _)); (fail_if_success (with_reducible show wpAny _ _ (getMethod (Value.ref _) _ _) _ _ _)); (fail_if_success (with_reducible show wpAny _ _ (exec (Stmt.For _ _ _ _ _) _) _ _ _)); (fail_if_success (with_reducible show wpAny _ _ (call _ _ _) _ _ _)); (first | walk1 | (dsimp only; walk1)); (try dsimp only)))
          · rename (Txt.item _ _ == _) = true => hit
            rename Txt.isspace _ = true => hsp
            rename Fr _ _ _ _ => F9
            rename News _ _ _ _ => N9
            refine hR3 _ _ ?_
            exact Hold.mk ⟨_, _, _, rfl, fr_pick [Str.ofString "i", Str.ofString "ch", Str.ofString "prevpart", Str.ofString "fws", Str.ofString "string", Str.ofString "self"] F9 (by rfl), N9, by rw [hsp, hit]; rfl⟩
          · rename _ = false => hit
            rename Fr _ _ _ _ => F9
            rename News _ _ _ _ => N9
            refine hR3 _ _ ?_
            exact Hold.mk ⟨_, _, _, rfl, fr_pick [Str.ofString "i", Str.ofString "ch", Str.ofString "prevpart", Str.ofString "fws", Str.ofString "string", Str.ofString "self"] F9 (by rfl), N9, by rw [hit, Bool.and_false]⟩
          · lia
        · rename _ = false => hsp
          refine hR3 _ _ ?_
          exact Hold.mk ⟨h7, _, a7.2, rfl, F7, N7, by rw [hsp]; rfl⟩
      · clear F7 N7
        cases fl with
        | ret v => exact h'.elim
        | cont => exact h'.elim
        | brk =>
          obtain ⟨h9, tk9, fw, rfl, F9, N9, hit⟩ := h'
          refine hR2 _ _ ?_
          refine (show wpAny _ _ (execs [Stmt.Break _] _) _ _ _ from ?_)
          (repeat' ((fail_if_success (with_reducible show wpAny _ _ (getAttr (Value.ref _) _ _) _ _ _)); (fail_if_success (with_reducible show wpAny _ _ (getMethod (Value.ref _) _ _) _ _ _)); (fail_if_success (with_reducible show wpAny _ _ (exec (Stmt.For _ _ _ _ _) _) _ _ _)); (fail_if_success (with_reducible show wpAny _ _ (call _ _ _) _ _ _)); (first | walk1 | (dsimp only; walk1)); (try dsimp only)))
          refine hR _ _ ?_
          refine hR0 _ _ ?_
          exact Hold.mk ⟨j + 1, _, _, ki, _, _, _, rfl, seek_here (by rw [Array.getElem?_toList]; exact hc) hs (by rw [hs7]; unfold findI; rw [if_pos (by rw [hhit, hit]; rfl)]), fr_pick [Str.ofString "ch", Str.ofString "i", Str.ofString "prevpart", Str.ofString "fws", Str.ofString "string", Str.ofString "self"] F9 (by rfl), news_sub N9 (fun z hz => by
            rw [← hmo7, ← hmo]
            rcases List.mem_cons.mp hz with rfl | hz
            · exact List.mem_append_left _ (List.mem_append_right _ (List.mem_append_right _ (.head _)))
            · exact List.mem_append_right _ hz)⟩
        | next =>
          obtain ⟨h9, tk9, fw, rfl, F9, N9, hit⟩ := h'
          (repeat' ((fail_if_success (with_reducible show wpAny _ _ (getAttr (Value.ref _) _ _) _ _ _)); (fail_if_success (with_reducible show wpAny _ _ (getMethod (Value.ref _) _ _) _ _ _)); (fail_if_success (with_reducible show wpAny _ _ (exec (Stmt.For _ _ _ _ _) _) _ _ _)); (fail_if_success (with_reducible show wpAny _ _ (call _ _ _) _ _ _)); (first | walk1 | (dsimp only; walk1)); (try dsimp only)))
          refine get_value (X.keeps F9.keep) (fmI (F9.keep _ _ gf) (F9.keep _ _ gfd)) (vf_ga w) (vf_cl w κ ln ac) rfl ?_
          (repeat' ((fail_if_success (with_reducible show wpAny _ _ (getAttr (Value.ref _) _ _) _ _ _)); (fail_if_success (with_reducible show wpAny _ _ (getMethod (Value.ref _) _ _) _ _ _)); (fail_if_success (with_reducible show wpAny _ _ (exec (Stmt.For _ _ _ _ _) _) _ _ _)); (fail_if_success (with_reducible show wpAny _ _ (call _ _ _) _ _ _)); (first | walk1 | (dsimp only; walk1)); (try dsimp only)))
          refine w_item (i := j) X F9 N9 B7 (by lia) (by lia) hpv ?_ (by with_unfolding_all rfl)
          intro q8 tx8 ty8 r8
          (repeat' ((fail_if_success (with_reducible show wpAny _ _ (getAttr (Value.ref _) _ _) _ _ _)); (fail_if_success (with_reducible show wpAny _ _ (getMethod (Value.ref _) _ _) _ _ _)); (fail_if_success (with_reducible show wpAny _ _ (exec (Stmt.For _ _ _ _ _) _) _ _ _)); (fail_if_success (with_reducible show wpAny _ _ (call _ _ _) _ _ _)); (first | walk1 | (dsimp only; walk1)); (try dsimp only)))
          · rename (Txt.item _ _ == _) = true => hit2
            rename Fr _ _ _ _ => F9
            rename News _ _ _ _ => N9
            have hit : (Txt.isspace ⟨#[c]⟩ && Txt.item pr.1 0 == ⟨#[c]⟩ || Txt.item pv.2 (-1) == ⟨#[c]⟩) = true := by rw [hit2, Bool.or_true]
            refine hR2 _ _ ?_
            refine (show wpAny _ _ (execs [Stmt.Break _] _) _ _ _ from ?_)
            (repeat' ((fail_if_success (with_reducible show wpAny _ _ (getAttr (Value.ref _) _ _) _ _ _)); (fail_if_success (with_reducible show wpAny _ _ (getMethod (Value.ref _) _ _) _ _ _)); (fail_if_success (with_reducible show wpAny _ _ (exec (Stmt.For _ _ _ _ _) _) _ _ _)); (fail_if_success (with_reducible show wpAny _ _ (call _ _ _) _ _ _)); (first | walk1 | (dsimp only; walk1)); (try dsimp only)))
            refine hR _ _ ?_
            refine hR0 _ _ ?_
            exact Hold.mk ⟨j + 1, _, _, ki, _, _, _, rfl, seek_here (by rw [Array.getElem?_toList]; exact hc) hs (by rw [hs7]; unfold findI; rw [if_pos (by rw [hhit, hit])]), fr_pick [Str.ofString "ch", Str.ofString "i", Str.ofString "prevpart", Str.ofString "fws", Str.ofString "string", Str.ofString "self"] F9 (by rfl), news_sub N9 (fun z hz => by
              rw [← hmo7, ← hmo]
              rcases List.mem_cons.mp hz with rfl | hz
              · exact List.mem_append_left _ (List.mem_append_right _ (List.mem_append_right _ (.head _)))
              · exact List.mem_append_right _ hz)⟩
          · rename (Txt.item _ _ == _) = false => hit2
            rename Fr _ _ _ _ => F9
            rename News _ _ _ _ => N9
            refine hR2 _ _ ?_
            refine turn_next (some (.str pv.2 ty8), fw) F9 N9 (fun z hz => ?_) (fun z hz => news_apart N6 z hz) (lmap_agree [Str.ofString "ch", Str.ofString "prevpart", Str.ofString "fws", Str.ofString "string", Str.ofString "self"] ?g1 ?g2 ?gv) ?_
            case g1 => rfl
            case g2 => rfl
            case gv => exact List.forall_mem_cons.mpr ⟨rfl, List.forall_mem_cons.mpr ⟨rfl, List.forall_mem_cons.mpr ⟨rfl, List.forall_mem_cons.mpr ⟨rfl, List.forall_mem_cons.mpr ⟨rfl, List.forall_mem_nil _⟩⟩⟩⟩⟩
            · rw [← hmo7]
              simp only [List.mem_append] at hz ⊢
              rcases hz with (hz | hz) | hz
              · exact .inl (.inr hz)
              · exact .inr hz
              · exact .inl (.inl hz)
            · rw [hs7, show qs.length - 1 - (i + 1) = j by lia]
              show findI qs c (j + 1) = _
              rw [findI, if_neg (by rw [hhit, hit, hit2]; decide)]
          · lia
    · intro a7 v7 h7 tk7 hs7 F7 N7
      clear F6
      (repeat' ((fail_if_success (with_reducible show wpAny _ _ (getAttr (Value.ref _) _ _) _ _ _)); (fail_if_success (with_reducible show wpAny _ _ (getMethod (Value.ref _) _ _) _ _ _)); (fail_if_success (with_reducible show wpAny _ _ (exec (Stmt.For _ _ _ _ _) _) _ _ _)); (fail_if_success (with_reducible show wpAny _ _ (call _ _ _) _ _ _)); (first | walk1 | (dsimp only; walk1)); (try dsimp only)))
      refine hR _ _ ?_
      refine ⟨h7, _, _, (v7, a7.1, a7.2), rfl, F7, news_sub N7 (fun z hz => ?_), fun z hz => news_apart N3 z hz, lmap_agree [Str.ofString "i", Str.ofString "prevpart", Str.ofString "fws", Str.ofString "string", Str.ofString "self"] ?e1 ?e2 ?ev, seek_next (by rw [Array.getElem?_toList]; exact hc) hs ?_⟩
      case e1 => rfl
      case e2 => rfl
      case ev => exact List.forall_mem_cons.mpr ⟨rfl, List.forall_mem_cons.mpr ⟨rfl, List.forall_mem_cons.mpr ⟨rfl, List.forall_mem_cons.mpr ⟨rfl, List.forall_mem_cons.mpr ⟨rfl, List.forall_mem_nil _⟩⟩⟩⟩⟩
      · rw [← hmo]
        simp only [List.mem_append, List.mem_cons, List.not_mem_nil, or_false] at hz ⊢
        rcases hz with (hz | hz) | hz
        · exact .inl (.inr hz)
        · exact .inr hz
        · exact .inl (.inl hz)
      · rw [hs7, Nat.sub_self]; rfl
  · intro a4 v4 h4 tk4 hs F4 N4
    clear F3
    have hseek : seek qs (sg z) = none := by
      rw [show (sg z).take z.cps.size = sg z by rw [← Array.length_toList, List.take_length]] at hs
      exact hs
    have hpl : (ps ++ [(x, y)]).length ≤ 51 := by rw [List.length_append]; simp; (with_reducible exact nnD (by assumption) (by decide))
    (repeat' ((fail_if_success (with_reducible show wpAny _ _ (getAttr (Value.ref _) _ _) _ _ _)); (fail_if_success (with_reducible show wpAny _ _ (getMethod (Value.ref _) _ _) _ _ _)); (fail_if_success (with_reducible show wpAny _ _ (exec (Stmt.For _ _ _ _ _) _) _ _ _)); (fail_if_success (with_reducible show wpAny _ _ (call _ _ _) _ _ _)); (first | walk1 | (dsimp only; walk1)); (try dsimp only)))
    refine get_value (X.keeps F4.keep) (fmI (F4.keep _ _ gf) (F4.keep _ _ gfd)) (vf_ga w) (vf_cl w κ ln ac) rfl ?_
    (repeat' ((fail_if_success (with_reducible show wpAny _ _ (getAttr (Value.ref _) _ _) _ _ _)); (fail_if_success (with_reducible show wpAny _ _ (getMethod (Value.ref _) _ _) _ _ _)); (fail_if_success (with_reducible show wpAny _ _ (exec (Stmt.For _ _ _ _ _) _) _ _ _)); (fail_if_success (with_reducible show wpAny _ _ (call _ _ _) _ _ _)); (first | walk1 | (dsimp only; walk1)); (try dsimp only)))
    refine w_meth (f := 160) X F4 N4 B3 (by k_is) (by k_is) (fun _ _ _ => rfl) ?_
    dsimp only
    (repeat' ((fail_if_success (with_reducible show wpAny _ _ (getAttr (Value.ref _) _ _) _ _ _)); (fail_if_success (with_reducible show wpAny _ _ (getMethod (Value.ref _) _ _) _ _ _)); (fail_if_success (with_reducible show wpAny _ _ (exec (Stmt.For _ _ _ _ _) _) _ _ _)); (fail_if_success (with_reducible show wpAny _ _ (call _ _ _) _ _ _)); (first | walk1 | (dsimp only; walk1)); (try dsimp only)))
    show wpAny _ _ (call (.ref 160) [.ref ac]) _ _ _
    rw [← hps] at B3
    refine w_pop (dp := dp + 1) (pr := (x, y)) X T F4 N4 B3 (by (with_reducible exact nnA (by assumption) (by decide))) (by (with_reducible exact nnD (by assumption) (by decide))) ?_
    intro h5 tk5 q5 tx5 ty5 a5 F5 N5 B5 ht5 _
    clear F4 N4 B3
    have ht5' : IsTup h5 q5 #[.str x tx5, .str y ty5] := ht5
    (repeat' ((fail_if_success (with_reducible show wpAny _ _ (getAttr (Value.ref _) _ _) _ _ _)); (fail_if_success (with_reducible show wpAny _ _ (getMethod (Value.ref _) _ _) _ _ _)); (fail_if_success (with_reducible show wpAny _ _ (exec (Stmt.For _ _ _ _ _) _) _ _ _)); (fail_if_success (with_reducible show wpAny _ _ (call _ _ _) _ _ _)); (first | walk1 | (dsimp only; walk1)); (try dsimp only)))
    rename Fr _ _ _ _ => F6
    rename News _ _ _ _ => N6
    have F7 : Fr g0 L' _ (lmap [(Str.ofString "part", some (.str y ty5)), (Str.ofString "fws", some (.str x tx5)), (Str.ofString "i", a4.1), (Str.ofString "ch", v4), (Str.ofString "prevpart", a4.2.1), (Str.ofString "string", some (.str y ky)), (Str.ofString "self", some (.ref f))]) := fr_pick [Str.ofString "part", Str.ofString "fws", Str.ofString "i", Str.ofString "ch", Str.ofString "prevpart", Str.ofString "string", Str.ofString "self"] F6 (by rfl)
    clear F6
    have N7 : News g0 L' _ ([(q2, tup2 (.str x kx) (.str y ky))] ++ five ac ad ln a5 d l t3 u) := N6
    clear N6
    refine get_value (X.keeps F7.keep) (fmI (F7.keep _ _ gf) (F7.keep _ _ gfd)) (vf_ga w) (vf_cl w κ ln ac) rfl ?_
    (repeat' ((fail_if_success (with_reducible show wpAny _ _ (getAttr (Value.ref _) _ _) _ _ _)); (fail_if_success (with_reducible show wpAny _ _ (getMethod (Value.ref _) _ _) _ _ _)); (fail_if_success (with_reducible show wpAny _ _ (exec (Stmt.For _ _ _ _ _) _) _ _ _)); (fail_if_success (with_reducible show wpAny _ _ (call _ _ _) _ _ _)); (first | walk1 | (dsimp only; walk1)); (try dsimp only)))
    refine w_size X F7 N7 B5 fun k7 => ?_
    (repeat' ((fail_if_success (with_reducible show wpAny _ _ (getAttr (Value.ref _) _ _) _ _ _)); (fail_if_success (with_reducible show wpAny _ _ (getMethod (Value.ref _) _ _) _ _ _)); (fail_if_success (with_reducible show wpAny _ _ (exec (Stmt.For _ _ _ _ _) _) _ _ _)); (fail_if_success (with_reducible show wpAny _ _ (call _ _ _) _ _ _)); (first | walk1 | (dsimp only; walk1)); (try dsimp only)))
    · rename (0 : Int) < _ => hn0
      refine vf_meth (X.keeps F7.keep) (F7.keep _ _ gf) (F7.keep _ _ gfd) (g := 78) (by k_is) (by k_is) (by rfl) ?_
      dsimp only
      (repeat' ((fail_if_success (with_reducible show wpAny _ _ (getAttr (Value.ref _) _ _) _ _ _)); (fail_if_success (with_reducible show wpAny _ _ (getMethod (Value.ref _) _ _) _ _ _)); (fail_if_success (with_reducible show wpAny _ _ (exec (Stmt.For _ _ _ _ _) _) _ _ _)); (fail_if_success (with_reducible show wpAny _ _ (call _ _ _) _ _ _)); (first | walk1 | (dsimp only; walk1)); (try dsimp only)))
      show wpAny _ _ (call (.ref 78) [.ref f]) _ _ _
      refine newline_ok (dp := dp + 1) (f_tx X T CM F7 N7 (fun b hb => hb)) (by (with_reducible exact nnA (by assumption) (by decide))) (by show un + 3 + 40 < cLine; (with_reducible exact nnA (by assumption) (by decide))) (F7.keep _ _ gf) (F7.keep _ _ gfd) (Fst.exit F7 N7 B5) (by (with_reducible exact nnD (by assumption) (by decide))) (by (with_reducible exact nnD (by assumption) (by decide))) (by lia) (.inl (by lia)) (lastOr_ne fun p hp => (hn p (by rw [← hps]; exact List.mem_append_left _ hp)).2) ?_
      intro s8 sm8 kb8 S8
      obtain ⟨a8, d8, l8, t8, u8, F8, N8, B8⟩ := Fst.back F7 N7 B5 kb8 S8
      clear F7 N7 B5 S8 kb8
      have hx0 : 0 < x.length := (hn (x, y) (by rw [← hps]; simp)).1
      (repeat' ((fail_if_success (with_reducible show wpAny _ _ (getAttr (Value.ref _) _ _) _ _ _)); (fail_if_success (with_reducible show wpAny _ _ (getMethod (Value.ref _) _ _) _ _ _)); (fail_if_success (with_reducible show wpAny _ _ (exec (Stmt.For _ _ _ _ _) _) _ _ _)); (fail_if_success (with_reducible show wpAny _ _ (call _ _ _) _ _ _)); (first | walk1 | (dsimp only; walk1)); (try dsimp only)))
      · refine get_value (X.keeps F8.keep) (fmI (F8.keep _ _ gf) (F8.keep _ _ gfd)) (vf_ga w) (vf_cl w κ ln ac) rfl ?_
        (repeat' ((fail_if_success (with_reducible show wpAny _ _ (getAttr (Value.ref _) _ _) _ _ _)); (fail_if_success (with_reducible show wpAny _ _ (getMethod (Value.ref _) _ _) _ _ _)); (fail_if_success (with_reducible show wpAny _ _ (exec (Stmt.For _ _ _ _ _) _) _ _ _)); (fail_if_success (with_reducible show wpAny _ _ (call _ _ _) _ _ _)); (first | walk1 | (dsimp only; walk1)); (try dsimp only)))
        refine w_meth (f := 144) X F8 N8 B8 (by k_is) (by k_is) (fun _ _ _ => rfl) ?_
        dsimp only
        (repeat' ((fail_if_success (with_reducible show wpAny _ _ (getAttr (Value.ref _) _ _) _ _ _)); (fail_if_success (with_reducible show wpAny _ _ (getMethod (Value.ref _) _ _) _ _ _)); (fail_if_success (with_reducible show wpAny _ _ (exec (Stmt.For _ _ _ _ _) _) _ _ _)); (fail_if_success (with_reducible show wpAny _ _ (call _ _ _) _ _ _)); (first | walk1 | (dsimp only; walk1)); (try dsimp only)))
        show wpAny _ _ (call (.ref 144) [.ref ac, .str x _, .str y _]) _ _ _
        refine wpAny_call (w_push (dp := dp + 1) X T F8 N8 B8 (by (with_reducible exact nnA (by assumption) (by decide))) (by first | decide | (simp only [List.length_nil]; lia)) ?_)
        intro h9 tk9 q9 a9 F9 N9 B9
        clear F8 N8 B8
        (repeat' ((fail_if_success (with_reducible show wpAny _ _ (getAttr (Value.ref _) _ _) _ _ _)); (fail_if_success (with_reducible show wpAny _ _ (getMethod (Value.ref _) _ _) _ _ _)); (fail_if_success (with_reducible show wpAny _ _ (exec (Stmt.For _ _ _ _ _) _) _ _ _)); (fail_if_success (with_reducible show wpAny _ _ (call _ _ _) _ _ _)); (first | walk1 | (dsimp only; walk1)); (try dsimp only)))
        have e9 := chunkS_room (z := sg z) (W := W) (s := (ps, n, ls)) (p := (x, y)) (by show W < n + sumLen (ps ++ [(x, y)]); rw [hps]; lia) (by rw [hps]; exact hseek) (by show _ < n; lia)
        refine hR0 _ _ ?_
        refine Hold.mk ⟨rfl, hQ _ ⟨sm8.1.trans sm3.1, sm8.2.1.trans sm3.2.1, fun q => sm8.2.2 (sm3.2.2 q)⟩ (kbF F9) ?_⟩
        rw [e9]
        exact Fst.exit F9 N9 B9
      · lia
    · rename ¬ _ => hn0
      refine get_value (X.keeps F7.keep) (fmI (F7.keep _ _ gf) (F7.keep _ _ gfd)) (vf_ga w) (vf_cl w κ ln ac) rfl ?_
      (repeat' ((fail_if_success (with_reducible show wpAny _ _ (getAttr (Value.ref _) _ _) _ _ _)); (fail_if_success (with_reducible show wpAny _ _ (getMethod (Value.ref _) _ _) _ _ _)); (fail_if_success (with_reducible show wpAny _ _ (exec (Stmt.For _ _ _ _ _) _) _ _ _)); (fail_if_success (with_reducible show wpAny _ _ (call _ _ _) _ _ _)); (first | walk1 | (dsimp only; walk1)); (try dsimp only)))
      refine w_meth (f := 144) X F7 N7 B5 (by k_is) (by k_is) (fun _ _ _ => rfl) ?_
      dsimp only
      (repeat' ((fail_if_success (with_reducible show wpAny _ _ (getAttr (Value.ref _) _ _) _ _ _)); (fail_if_success (with_reducible show wpAny _ _ (getMethod (Value.ref _) _ _) _ _ _)); (fail_if_success (with_reducible show wpAny _ _ (exec (Stmt.For _ _ _ _ _) _) _ _ _)); (fail_if_success (with_reducible show wpAny _ _ (call _ _ _) _ _ _)); (first | walk1 | (dsimp only; walk1)); (try dsimp only)))
      show wpAny _ _ (call (.ref 144) [.ref ac, .str x _, .str y _]) _ _ _
      refine wpAny_call (w_push (dp := dp + 1) X T F7 N7 B5 (by (with_reducible exact nnA (by assumption) (by decide))) (by first | (with_reducible exact nnD (by assumption) (by decide)) | (simp only [List.length_nil]; lia)) ?_)
      intro h9 tk9 q9 a9 F9 N9 B9
      clear F7 N7 B5
      (repeat' ((fail_if_success (with_reducible show wpAny _ _ (getAttr (Value.ref _) _ _) _ _ _)); (fail_if_success (with_reducible show wpAny _ _ (getMethod (Value.ref _) _ _) _ _ _)); (fail_if_success (with_reducible show wpAny _ _ (exec (Stmt.For _ _ _ _ _) _) _ _ _)); (fail_if_success (with_reducible show wpAny _ _ (call _ _ _) _ _ _)); (first | walk1 | (dsimp only; walk1)); (try dsimp only)))
      have e9 := chunkS_on (z := sg z) (W := W) (s := (ps, n, ls)) (p := (x, y)) (by show W < n + sumLen (ps ++ [(x, y)]); rw [hps]; lia) (by rw [hps]; exact hseek) (by show ¬ _ < n; lia)
      refine hR0 _ _ ?_
      refine Hold.mk ⟨rfl, hQ _ sm3 (kbF F9) ?_⟩
      rw [e9]
      exact Fst.exit F9 N9 B9
end
section
open PySem PySem.W PyProof.Rows PySem.Calls
set_option Elab.async false
set_option maxRecDepth 100000
set_option maxHeartbeats 1000000
variable {Z : List Addr}

theorem fillMk : PySem.Challenge.rw_pe0168_01 = PySem.Challenge.rw_pe0168_01 → Mine.hd.heap_1 = Mine.hd.heap_1 := by
  k_fill
  intro _; rfl


theorem vf_makes (w : World) : makesIn (Mine.hd.heap_1 w.params) 116 = true := by k_is

theorem vf_make_ok {w : World} {p : Program} {loose mg mb} {dp un gd fr} {s : Shared} {Q E} {n : Nat} {kn : Tok} {v2 v4 : Value} {k3 : Tok}
   (C : Cx (Mine.hd.heap_1 w.params) p loose mg mb s.heap) (hd : dp + 6 < recursionLimit)
   (hQ : ∀ f fd ln ac ad h' tk κ ep el hs kt, (∀ b o, s.heap.get? b = some o → h'.get? b = some o) → s.heap.get? f = none → s.heap.get? fd = none → s.heap.get? ln = none → s.heap.get? ac = none → s.heap.get? ad = none →
      h'.get? f = some (fmO fd) → h'.get? fd = some (fdO κ ln ac) → κ.v1 = v2 → κ.v4 = v4 → h'.get? ln = some (lnO #[] el) → h'.get? ac = some (accO ad #[] ep) → h'.get? ad = some (adO hs kt (.int (n : Nat) kn)) → Q (.ref f) { s with heap := h', toks := tk }) :
   wpAny (model PySem.Challenge.pw_pe0168_01 w) (aT dp un gd fr) (call (.ref 116) [.int (n : Nat) kn, v2, .str (Str.ofString " ") k3, v4]) Q E s := by
  w_on
  obtain ⟨h, g, d, t, os⟩ := s
  refine wpAny_call ?_
  k_dflt (refine make_core (makes_of C.X (vf_makes w)) (looks_findIn (r := some (.ref 57)) C.X (by k_is)) (fun self => bind_fn C.X self (by k_is)) (.inl rfl) ?_)
  have ka : ∀ b o, h.get? b = some o → ((h.push emptyDict).push (instObj 116 h.objs.size)).get? b = some o := fun b o e => Heap.get?_push_of_some _ (Heap.get?_push_of_some _ e)
  have hx0 : ((h.push emptyDict).push (instObj 116 h.objs.size)).get? (h.objs.size + 1) = some (instObj 116 h.objs.size) := by heap_get
  have hd0 : ((h.push emptyDict).push (instObj 116 h.objs.size)).get? h.objs.size = some emptyDict := by heap_get
  have nx : h.get? (h.objs.size + 1) = none := above_none (Nat.le_succ _)
  have nd : h.get? h.objs.size = none := above_none (Nat.le_refl _)
  have S0 : Sx (Mine.hd.heap_1 w.params) p loose mg mb [h.objs.size + 1, h.objs.size] ((h.push emptyDict).push (instObj 116 h.objs.size)) := Sx.of C.X C.T ka (List.forall_mem_cons.mpr ⟨nx, List.forall_mem_cons.mpr ⟨nd, List.forall_mem_nil _⟩⟩)
  generalize hH : ((h.push emptyDict).push (instObj 116 h.objs.size)) = H at *
  generalize hX : h.objs.size + 1 = x at *
  generalize hA : h.objs.size = dx at *
  have hlt : dx < x := by lia
  k_dflt (refine enterHC (binds := [(Str.ofString "self", .ref x), (Str.ofString "headerlen", .int (n : Nat) kn), (Str.ofString "maxlen", v2), (Str.ofString "continuation_ws", .str (Str.ofString " ") k3), (Str.ofString "splitchars", v4)]) [(x, instObj 116 dx), (dx, emptyDict)] S0 (by k_is) (by k_is) (by rw [depth_under_make]; show dp + 1 < recursionLimit; (with_reducible exact nnB (by assumption) (by decide))) (BindsTo.of_eq rfl) (locs rfl) ?hn ?_ rfl rfl rfl (by decide))
  case hn => exact List.forall_mem_cons.mpr ⟨⟨.head _, hx0⟩, List.forall_mem_cons.mpr ⟨⟨.tail _ (.head _), hd0⟩, List.forall_mem_nil _⟩⟩
  intro L' h₁ tk F N X T
  change Fr (hideAll H [x, dx]) _ _ (lmap [(Str.ofString "splitchars", some v4), (Str.ofString "continuation_ws", some (.str (Str.ofString " ") k3)), (Str.ofString "maxlen", some v2), (Str.ofString "headerlen", some (.int (n : Nat) kn)), (Str.ofString "self", some (.ref x))]) at F
  (repeat' ((fail_if_success (with_reducible show wpAny _ _ (call (Value.ref _) _ _) _ _ _)); (first | walk1 | (dsimp only; walk1)); (try dsimp only)))
  rename Fr _ _ _ _ => F2
  rename News _ _ _ _ => N2
  show wpAny _ _ (call (.ref 200) [.int (n : Nat) kn]) _ _ _
  refine acc_make_ok (dp := dp + 2) ⟨X.keeps F2.keep, T.keeps F2.keep⟩ (by (with_reducible exact nnA (by assumption) (by decide))) ?_
  intro ac ad h3 tk3 hs3 kt3 ep3 k3 na nd2 ha3 had3
  have F3 := fr_keeps F2 k3
  have na' := fresh_of F2 na
  have nd' := fresh_of F2 nd2
  have q1 : ac ≠ dx := fun e => by rw [e, (N2 (dx, _) (.tail _ (.tail _ (.head _)))).1] at na; cases na
  have q2 : ad ≠ dx := fun e => by rw [e, (N2 (dx, _) (.tail _ (.tail _ (.head _)))).1] at nd2; cases nd2
  have N3 := news_keeps N2 k3
  have N4 : News (hideAll H [x, dx]) L' h3 ((ac, accO ad #[] ep3) :: (ad, adO hs3 kt3 (.int (n : Nat) kn)) :: _) := fun z hz => by
    rcases List.mem_cons.mp hz with rfl | hz
    · exact ⟨ha3, na'⟩
    rcases List.mem_cons.mp hz with rfl | hz
    · exact ⟨had3, nd'⟩
    exact N3 z hz
  clear F2 N2 N3
  (repeat' ((fail_if_success (with_reducible show wpAny _ _ (call (Value.ref _) _ _) _ _ _)); (first | walk1 | (dsimp only; walk1)); (try dsimp only)))
  rename Fr _ _ _ _ => F5
  rename News _ _ _ _ => N5
  have o1 := N5 (ac, _) (.head _)
  have o2 := N5 (ad, _) (.tail _ (.head _))
  have o3 := N5 _ (.tail _ (.tail _ (.head _)))
  have o4 := N5 (x, _) (.tail _ (.tail _ (.tail _ (.head _))))
  have o5 := N5 (dx, _) (.tail _ (.tail _ (.tail _ (.tail _ (.head _)))))
  have un : ∀ q, (hideAll H [x, dx]).get? q = none → q ≠ x → q ≠ dx → h.get? q = none := fun q e1 e2 e3 => by
    cases z : h.get? q with
    | none => rfl
    | some o => rw [hid_get (ka _ _ z) (by simp [e2, e3])] at e1; cases e1
  have kf : ∀ b o, h.get? b = some o → _ := fun b o e => by
    have hbx : b ≠ x := fun q => by rw [q, nx] at e; cases e
    have hba : b ≠ dx := fun q => by rw [q, nd] at e; cases e
    exact F5.keep b o (hid_get (ka b o e) (by simp [hbx, hba]))
  refine ⟨rfl, hQ x dx _ ac ad _ _ ⟨_, _, _, _, _, _, _, _, _, _, _, _, _, _, _, _⟩ _ _ _ _ kf nx nd ?_ ?_ ?_ o4.1 o5.1 rfl rfl o3.1 o1.1 o2.1⟩
  · exact un _ o3.2.2 (ne_of_cls o3.1 o4.1 (by intro q; cases q)) (ne_of_cls o3.1 o5.1 (fun q => absurd (show Value.type "list" = Value.type "dict" from q) (by simp)))
  · exact un _ o1.2.2 (ne_of_cls o1.1 o4.1 (by simp)) q1
  · exact un _ o2.2.2 (ne_of_cls o2.1 o4.1 (by simp)) q2
end
section
set_option Elab.async false
set_option maxRecDepth 100000
open PySem PySem.Sre
noncomputable def code0 : Array Nat := #[14, 4, 0, 1, 4294967295, 17, 0, 24, 11, 1, 4294967295, 13, 6, 16, 32, 16, 9, 0, 1, 17, 1, 1]
noncomputable def isW (c : Nat) : Bool := c == 32 || c == 9
theorem acc_eq (c : Nat) (seen : Sre.Seen) : ∃ s', accepts code0 11 c seen = .ok (isW c, s') := by
  by_cases h1 : c = 32
  · subst h1; exact ⟨_, rfl⟩
  · by_cases h2 : c = 9
    · subst h2; exact ⟨_, rfl⟩
    · have e1 : (c == 32) = false := by simpa using h1
      have e2 : (c == 9) = false := by simpa using h2
      have e : isW c = false := by unfold isW; rw [e1, e2]; rfl
      rw [e]
      refine ⟨((seen.add 16).add 16).add 0, ?_⟩
      show (if (c == 32) = true then _ else if (c == 9) = true then _ else _) = _
      rw [e1, e2]
      rfl
noncomputable def wlen (text : Array Nat) : Nat → Nat → Nat
  | 0, _ => 0
  | n + 1, p => if isW (text.getD p 0) then wlen text n (p + 1) + 1 else 0
theorem run_eq (text : Array Nat) : ∀ n p found seen, ∃ s', Sre.run code0 text 11 n p found seen = .ok (found + wlen text n p, s')
  | 0, p, found, seen => ⟨seen, rfl⟩
  | n + 1, p, found, seen => by
    obtain ⟨s1, e1⟩ := acc_eq (text.getD p 0) seen
    unfold Sre.run
    rw [e1]
    by_cases h : isW (text.getD p 0) = true
    · obtain ⟨s2, e2⟩ := run_eq text n (p + 1) (found + 1) s1
      refine ⟨s2, ?_⟩
      rw [h]
      show Sre.run code0 text 11 n (p + 1) (found + 1) s1 = _
      rw [e2, wlen, if_pos h]
      congr 2
      lia
    · have h' : isW (text.getD p 0) = false := by simpa using h
      rw [h']
      refine ⟨s1, ?_⟩
      rw [wlen, if_neg h]
      rfl
noncomputable def tryAt (text : Array Nat) (lim p : Nat) (a b : Option Nat) (seen : Sre.Seen) (o : Bool) : M :=
  { code := code0, text, lim, start := p, lastStart := lim, pc := 5, pos := p, handed := p, outermost := o, marks := #[a, b], frames := [{ wait := .nextStart, pc := 5, pos := p, outermost := o }], weight := 1, seen }
theorem step_mark (text : Array Nat) (lim p : Nat) (a b : Option Nat) (seen : Sre.Seen) (o : Bool) :
    (tryAt text lim p a b seen o).step = { tryAt text lim p (some p) b (seen.add 17) o with lastmark := 0, pc := 7 } := rfl
noncomputable abbrev atRep (text : Array Nat) (lim p : Nat) (b : Option Nat) (seen : Sre.Seen) (o : Bool) : M := { tryAt text lim p (some p) b seen o with lastmark := 0, pc := 7 }
theorem rep_end {text : Array Nat} {lim p : Nat} {b : Option Nat} {seen : Sre.Seen} {o : Bool} (h : lim ≤ p) : (atRep text lim p b seen o).step = { atRep text lim p b (seen.add 24) o with answer := some false } := by
  show (if ((1 : Nat) : Int) > (lim : Int) - (p : Int) then _ else _) = _
  rw [if_pos (by lia)]
  rfl
theorem rep_no {text : Array Nat} {lim p : Nat} {b : Option Nat} {seen : Sre.Seen} {o : Bool} (h : p < lim) (hw : isW (text.getD p 0) = false) : ∃ s', (atRep text lim p b seen o).step = { atRep text lim p b s' o with answer := some false } := by
  obtain ⟨s', e⟩ := run_eq text (min 4294967295 ((lim : Int) - (p : Int)).toNat) p 0 ((seen.add 24).add 13)
  refine ⟨s', ?_⟩
  show (if ((1 : Nat) : Int) > (lim : Int) - (p : Int) then _ else match Sre.run code0 text 11 (min 4294967295 ((lim : Int) - (p : Int)).toNat) p 0 ((seen.add 24).add 13) with | .error why => _ | .ok (n, seen) => _) = _
  have hn : min 4294967295 ((lim : Int) - (p : Int)).toNat = (min 4294967295 ((lim : Int) - (p : Int)).toNat - 1) + 1 := by lia
  rw [if_neg (by lia), e, hn, wlen, hw]
  rfl
theorem rep_yes {text : Array Nat} {lim p n : Nat} {b : Option Nat} {seen : Sre.Seen} {o : Bool} (h : p < lim) (hl : lim ≤ 4294967295) (hn : wlen text (lim - p) p = n) (h1 : 0 < n) : ∃ s',
    (atRep text lim p b seen o).step = { atRep text lim p b s' o with pos := p + n, handed := p + n, pc := 19, frames := { wait := .giveBack, pc := 7, pos := p + n, outermost := o, count := n, kept := { lastmark := 0, lastindex := -1 } } :: (atRep text lim p b s' o).frames, weight := 2 } := by
  obtain ⟨s', e⟩ := run_eq text (min 4294967295 ((lim : Int) - (p : Int)).toNat) p 0 ((seen.add 24).add 13)
  refine ⟨s', ?_⟩
  show (if ((1 : Nat) : Int) > (lim : Int) - (p : Int) then _ else match Sre.run code0 text 11 (min 4294967295 ((lim : Int) - (p : Int)).toNat) p 0 ((seen.add 24).add 13) with | .error why => _ | .ok (n, seen) => _) = _
  have hm : min 4294967295 ((lim : Int) - (p : Int)).toNat = lim - p := by lia
  rw [if_neg (by lia), e, hm, hn, Nat.zero_add]
  show (if n < 1 then _ else _) = _
  rw [if_neg (by lia)]
  rfl
theorem run_one {n : Nat} {m : M} (h : m.outcome = none) : m.runFor (n + 1) = m.step.runFor n := by
  rw [M.runFor, h]; rfl
theorem say_no {text : Array Nat} {lim p : Nat} {b : Option Nat} {seen : Sre.Seen} {o : Bool} (h : p < lim) : ({ atRep text lim p b seen o with answer := some false } : M).step = tryAt text lim (p + 1) (some p) b seen false := by
  show (if p < lim then _ else _) = _
  rw [if_pos h]
  rfl
theorem try_no {text : Array Nat} {lim p : Nat} {a b : Option Nat} {seen : Sre.Seen} {o : Bool} (n : Nat) (h : p < lim) (hw : isW (text.getD p 0) = false) : ∃ s', (tryAt text lim p a b seen o).runFor (n + 3) = (tryAt text lim (p + 1) (some p) b s' false).runFor n := by
  obtain ⟨s', e⟩ := rep_no (b := b) (seen := seen.add 17) (o := o) h hw
  exact ⟨s', by rw [run_one (by rfl), step_mark, run_one (by rfl), e, run_one (by rfl), say_no h]⟩
theorem say_end {text : Array Nat} {lim : Nat} {b : Option Nat} {seen : Sre.Seen} {o : Bool} : (({ atRep text lim lim b seen o with answer := some false } : M).step.step).outcome = some .failed := by
  show (M.step (if lim < lim then _ else _)).outcome = _
  rw [if_neg (Nat.lt_irrefl _)]
  rfl
theorem say_end0 {text : Array Nat} {lim : Nat} {b : Option Nat} {seen : Sre.Seen} {o : Bool} : (({ atRep text lim lim b seen o with answer := some false } : M).step).outcome = none := by
  show (if lim < lim then _ else _ : M).outcome = _
  rw [if_neg (Nat.lt_irrefl _)]
  rfl
theorem try_end {text : Array Nat} {lim : Nat} {a b : Option Nat} {seen : Sre.Seen} {o : Bool} : ((tryAt text lim lim a b seen o).runFor 4).outcome = some .failed := by
  rw [run_one (by rfl), step_mark, run_one (by rfl), rep_end (Nat.le_refl _), run_one (by rfl), run_one say_end0]
  exact say_end
structure Found (m : M) (p e : Nat) : Prop where
  out : m.outcome = some .matched
  start : m.start = p
  handed : m.handed = e
  mark : m.lastmark = 1
  marks : m.marks = #[some p, some e]
noncomputable abbrev fEnd (p n : Nat) (o : Bool) : Sre.Frame := { wait := .giveBack, pc := 7, pos := p + n, outermost := o, count := n, kept := { lastmark := 0, lastindex := -1 } }
noncomputable abbrev fTop (p : Nat) (o : Bool) : Sre.Frame := { wait := .nextStart, pc := 5, pos := p, outermost := o }
noncomputable abbrev atMark (text : Array Nat) (lim p n : Nat) (b : Option Nat) (seen : Sre.Seen) (o : Bool) : M := { atRep text lim p b seen o with pos := p + n, handed := p + n, pc := 19, frames := [fEnd p n o, fTop p o], weight := 2 }
noncomputable abbrev atEnd (text : Array Nat) (lim p n : Nat) (seen : Sre.Seen) (o : Bool) : M := { atRep text lim p none seen o with pos := p + n, handed := p + n, pc := 21, frames := [fEnd p n o, fTop p o], weight := 2, marks := #[some p, some (p + n)], lastmark := 1, lastindex := 1 }
theorem step_mark1 (text : Array Nat) (lim p n : Nat) (b : Option Nat) (seen : Sre.Seen) (o : Bool) : (atMark text lim p n b seen o).step = atEnd text lim p n (seen.add 17) o := by
  show ({ (atMark text lim p n b (seen.add 17) o) with marks := _, lastmark := _, lastindex := _, pc := _ } : M) = _
  kernel_rfl
theorem step_ok (text : Array Nat) (lim p n : Nat) (seen : Sre.Seen) (o : Bool) : (atEnd text lim p n seen o).step = { atEnd text lim p n (seen.add 1) o with answer := some true } := by
  cases o <;> rfl
noncomputable abbrev atUp (text : Array Nat) (lim p n : Nat) (seen : Sre.Seen) (o : Bool) : M := { atEnd text lim p n seen o with pc := 7, frames := [fTop p o], weight := 1, answer := some true }
theorem step_up (text : Array Nat) (lim p n : Nat) (seen : Sre.Seen) (o : Bool) : ({ atEnd text lim p n seen o with answer := some true } : M).step = atUp text lim p n seen o := rfl
noncomputable abbrev atTop (text : Array Nat) (lim p n : Nat) (seen : Sre.Seen) (o : Bool) : M := { atEnd text lim p n seen o with pc := 5, pos := p, frames := [], weight := 0, answer := some true }
theorem step_top (text : Array Nat) (lim p n : Nat) (seen : Sre.Seen) (o : Bool) : (atUp text lim p n seen o).step = atTop text lim p n seen o := rfl
theorem step_out (text : Array Nat) (lim p n : Nat) (seen : Sre.Seen) (o : Bool) : (atTop text lim p n seen o).step = { atTop text lim p n seen o with outcome := some .matched } := rfl
theorem try_yes {text : Array Nat} {lim p n : Nat} {a b : Option Nat} {seen : Sre.Seen} {o : Bool} (h : p < lim) (hl : lim ≤ 4294967295) (hn : wlen text (lim - p) p = n) (h1 : 0 < n) : Found ((tryAt text lim p a b seen o).runFor 7) p (p + n) := by
  obtain ⟨s', e⟩ := rep_yes (b := b) (seen := seen.add 17) (o := o) h hl hn h1
  have e' : (atRep text lim p b (seen.add 17) o).step = atMark text lim p n b s' o := e
  rw [run_one (by rfl), step_mark, run_one (by rfl), e', run_one (by rfl), step_mark1, run_one (by rfl), step_ok, run_one (by rfl), step_up, run_one (by rfl), step_top, run_one (by rfl), step_out]
  exact ⟨rfl, rfl, rfl, rfl, rfl⟩
theorem scan_yes {text : Array Nat} {lim n : Nat} (hl : lim ≤ 4294967295) (h1 : 0 < n) : ∀ j p a b seen o, (∀ i, i < j → isW (text.getD (p + i) 0) = false) → p + j < lim → wlen text (lim - (p + j)) (p + j) = n →
    Found ((tryAt text lim p a b seen o).runFor (3 * j + 7)) (p + j) (p + j + n)
  | 0, p, a, b, seen, o, _, h, hn => try_yes h hl hn h1
  | j + 1, p, a, b, seen, o, hw, h, hn => by
    obtain ⟨s', e⟩ := try_no (a := a) (b := b) (seen := seen) (o := o) (3 * j + 7) (show p < lim by (with_reducible exact nnC (by assumption))) (hw 0 (by lia))
    rw [show 3 * (j + 1) + 7 = 3 * j + 7 + 3 by lia, e, show p + (j + 1) = p + 1 + j by lia]
    exact scan_yes hl h1 j (p + 1) _ _ _ _ (fun i hi => by rw [show p + 1 + i = p + (i + 1) by lia]; exact hw _ (by lia)) (by lia) (by rw [show p + 1 + j = p + (j + 1) by lia]; exact hn)
theorem scan_no {text : Array Nat} {lim : Nat} : ∀ j p a b seen o, p + j = lim → (∀ i, i < j → isW (text.getD (p + i) 0) = false) → ((tryAt text lim p a b seen o).runFor (3 * j + 4)).outcome = some .failed
  | 0, p, a, b, seen, o, h, _ => by
    rw [Nat.add_zero] at h
    subst h
    exact try_end
  | j + 1, p, a, b, seen, o, h, hw => by
    obtain ⟨s', e⟩ := try_no (a := a) (b := b) (seen := seen) (o := o) (3 * j + 4) (show p < lim by lia) (hw 0 (by lia))
    rw [show 3 * (j + 1) + 4 = 3 * j + 4 + 3 by lia, e]
    exact scan_no j (p + 1) _ _ _ _ (by lia) (fun i hi => by rw [show p + 1 + i = p + (i + 1) by lia]; exact hw _ (by lia))
theorem search_eq {text : Array Nat} {lim p : Nat} (h : p < lim) : forSearch code0 text 1 p lim false = tryAt text lim p none none (({} : Sre.Seen).add 14) true := by
  show (if (decide (p > lim) || decide (lim - p < 1)) = true then _ else _) = _
  have e : (decide (p > lim) || decide (lim - p < 1)) = false := by
    rw [Bool.or_eq_false_iff]
    exact ⟨decide_eq_false (by lia), decide_eq_false (by lia)⟩
  rw [e]
  rfl
theorem done_run {m : M} (h : m.outcome.isSome = true) : ∀ n, m.runFor n = m
  | 0 => rfl
  | n + 1 => by rw [M.runFor, if_pos h]
theorem run_add (b : Nat) : ∀ (a : Nat) (m : M), m.runFor (a + b) = (m.runFor a).runFor b
  | 0, m => by rw [Nat.zero_add]; rfl
  | a + 1, m => by
    cases h : m.outcome with
    | some o => rw [done_run (by rw [h]; rfl), done_run (m := m) (by rw [h]; rfl), done_run (by rw [h]; rfl)]
    | none => rw [show a + 1 + b = a + b + 1 by lia, run_one h, run_one h, run_add b a]
end
section
set_option Elab.async false
set_option maxRecDepth 100000
open PySem PySem.W PyProof.Rows
theorem getD_drop {text : Array Nat} {p c : Nat} {r : List Nat} (h : text.toList.drop p = c :: r) : text.getD p 0 = c ∧ p < text.size := by
  have hp : p < text.toList.length := by
    rcases Nat.lt_or_ge p text.toList.length with q | q
    · exact q
    · rw [List.drop_eq_nil_of_le q] at h; cases h
  rw [List.drop_eq_getElem_cons hp] at h
  have := (List.cons.inj h).1
  refine ⟨?_, by rwa [Array.length_toList] at hp⟩
  rw [Array.getD_eq_getD_getElem?, Array.getElem?_eq_getElem (by rwa [Array.length_toList] at hp)]
  simpa using this
theorem drop_add' {text : Array Nat} {p : Nat} {a r : List Nat} (h : text.toList.drop p = a ++ r) : text.toList.drop (p + a.length) = r := by
  rw [← List.drop_drop, h, List.drop_left]
theorem wlen_spec {text : Array Nat} {c : Nat} {r : List Nat} (hc : isW c = false) : ∀ (a : List Nat) (n p : Nat), text.toList.drop p = a ++ c :: r → (∀ x ∈ a, isW x = true) → a.length < n → wlen text n p = a.length
  | [], n + 1, p, h, _, _ => by
    rw [wlen, (getD_drop h).1, hc]; rfl
  | x :: a, n + 1, p, h, ha, hn => by
    have e := getD_drop (show text.toList.drop p = x :: (a ++ c :: r) from h)
    have h2 := drop_add' (a := [x]) (show text.toList.drop p = [x] ++ (a ++ c :: r) from h)
    rw [wlen, e.1, ha x List.mem_cons_self, if_pos rfl, wlen_spec hc a n (p + 1) h2 (fun y hy => ha y (List.mem_cons_of_mem _ hy)) (by simpa using hn)]
    rfl
theorem extract_tx {text : Array Nat} {p : Nat} {a r : List Nat} (h : text.toList.drop p = a ++ r) : (⟨text.extract p (p + a.length)⟩ : Str) = tx a := by
  apply tx_inj
  rw [sg_tx]
  show (text.extract p (p + a.length)).toList = a
  rw [Array.toList_extract, List.extract_eq_take_drop, h, Nat.add_sub_cancel_left, List.take_left]
theorem extract_end {text : Array Nat} {p : Nat} {a : List Nat} (h : text.toList.drop p = a) : (⟨text.extract p text.size⟩ : Str) = tx a := by
  apply tx_inj
  rw [sg_tx]
  show (text.extract p text.size).toList = a
  rw [Array.toList_extract, List.extract_eq_take_drop, h]
  refine List.take_of_length_le ?_
  rw [← h, List.length_drop, Array.length_toList]
  exact Nat.le_refl _
structure WhiteW (ps : List (Str × Str)) : Prop where
  white : ∀ p ∈ ps, ∀ c ∈ sg p.1, isW c = true
  black : ∀ p ∈ ps, ∀ c ∈ sg p.2, isW c = false
  pos : ∀ p ∈ ps, 0 < p.1.length ∧ 0 < p.2.length
theorem WhiteW.tail {p : Str × Str} {ps : List (Str × Str)} (h : WhiteW (p :: ps)) : WhiteW ps :=
  ⟨fun q hq => h.white q (List.mem_cons_of_mem _ hq), fun q hq => h.black q (List.mem_cons_of_mem _ hq), fun q hq => h.pos q (List.mem_cons_of_mem _ hq)⟩
noncomputable def cutTx (pre : Str) : List (Str × Str) → List Str
  | [] => [pre]
  | p :: r => pre :: p.1 :: cutTx p.2 r
theorem cutTx_eq (pre : Str) : ∀ ps, cutTx pre ps = pre :: ps.flatMap fun p => [p.1, p.2]
  | [] => rfl
  | p :: r => by rw [cutTx, cutTx_eq p.2 r]; rfl
theorem found_at {text : Array Nat} {st : Nat} {pre : List Nat} {p : Str × Str} {r : List (Str × Str)} (hs : text.size ≤ 100000) (h : text.toList.drop st = pre ++ partsTx (p :: r)) (hp : ∀ c ∈ pre, isW c = false) (hw : WhiteW (p :: r)) :
    ∃ k, k ≤ 1000000 ∧ Found ((Sre.forSearch code0 text 1 st text.size false).runFor k) (st + pre.length) (st + pre.length + p.1.length) ∧ text.toList.drop (st + pre.length + p.1.length) = sg p.2 ++ partsTx r ∧ st + pre.length + p.1.length ≤ text.size ∧
      (⟨text.extract st (st + pre.length)⟩ : Str) = tx pre ∧ (⟨text.extract (st + pre.length) (st + pre.length + p.1.length)⟩ : Str) = p.1 := by
  obtain ⟨h1, h2⟩ := hw.pos p List.mem_cons_self
  have e0 : partsTx (p :: r) = sg p.1 ++ (sg p.2 ++ partsTx r) := by
    show (sg p.1 ++ sg p.2) ++ partsTx r = _
    rw [List.append_assoc]
  rw [e0] at h
  have d1 := drop_add' h
  have d2 := drop_add' d1
  obtain ⟨c, q, hcq⟩ : ∃ c q, sg p.2 = c :: q := by
    cases hh : sg p.2 with
    | nil => rw [← sg_len, hh] at h2; exact absurd h2 (Nat.lt_irrefl _)
    | cons c q => exact ⟨c, q, rfl⟩
  have d1' : text.toList.drop (st + pre.length) = sg p.1 ++ c :: (q ++ partsTx r) := by rw [d1, hcq]; rfl
  have hc : isW c = false := hw.black p List.mem_cons_self c (by rw [hcq]; exact .head _)
  have hlen : text.size - (st + pre.length) = (sg p.1).length + ((q ++ partsTx r).length + 1) := by
    have := congrArg List.length d1'
    rw [List.length_drop, Array.length_toList, List.length_append, List.length_cons] at this
    exact this
  have hl1 : (sg p.1).length = p.1.length := sg_len _
  have hwl := wlen_spec hc (sg p.1) (text.size - (st + pre.length)) (st + pre.length) d1' (fun x hx => hw.white p List.mem_cons_self x hx) (by omega)
  have hst : st < text.size := by omega
  rw [search_eq hst]
  refine ⟨3 * pre.length + 7, by omega, ?_, ?_, by omega, ?_, ?_⟩
  · rw [← hl1]
    refine scan_yes (by (with_reducible exact nnD (by assumption) (by decide))) (by omega) pre.length st _ _ _ _ (fun i hi => ?_) (by omega) hwl
    have e : text.toList.drop (st + i) = pre.drop i ++ (sg p.1 ++ (sg p.2 ++ partsTx r)) := by
      rw [← List.drop_drop, h, List.drop_append_of_le_length (Nat.le_of_lt hi)]
    rw [List.drop_eq_getElem_cons hi] at e
    rw [(getD_drop e).1]
    exact hp _ (List.getElem_mem hi)
  · rw [← hl1]; exact d2
  · exact extract_tx h
  · rw [← hl1, extract_tx d1, tx_sg]
theorem none_at {text : Array Nat} {st : Nat} {pre : List Nat} (hs : text.size ≤ 100000) (h : text.toList.drop st = pre) (hp : ∀ c ∈ pre, isW c = false) (hne : pre ≠ []) :
    ∃ k, k ≤ 1000000 ∧ ((Sre.forSearch code0 text 1 st text.size false).runFor k).outcome = some .failed := by
  have hl := congrArg List.length h
  rw [List.length_drop, Array.length_toList] at hl
  have := List.length_pos_iff.mpr hne
  rw [search_eq (show st < text.size by omega)]
  refine ⟨3 * pre.length + 4, by omega, scan_no pre.length st _ _ _ _ (by omega) fun i hi => ?_⟩
  have e : text.toList.drop (st + i) = pre.drop i := by rw [← List.drop_drop, h]
  rw [List.drop_eq_getElem_cons hi] at e
  rw [(getD_drop e).1]
  exact hp _ (List.getElem_mem hi)
end
section
set_option Elab.async false
set_option maxRecDepth 100000
open PySem PySem.W PyProof.Rows PySem.Calls PySem.Sre
section
variable {M : Model} {A : Around} {E : Value → Shared → Prop} {s : Shared}
theorem rules_any (c : Nat → Bool) (f : Nat → String) : ∀ (l : List Nat) {s : Shared} {Q : PUnit → Shared → Prop}, Q PUnit.unit s →
    wpAny M A (forIn l PUnit.unit fun i __s => if c i = true then do rule (f i); pure (ForInStep.yield PUnit.unit) else pure (ForInStep.yield PUnit.unit)) Q E s
  | [], s, Q, h => wpAny_pure h
  | i :: l, s, Q, h => by
    simp only [List.forIn_cons]
    refine wpAny_bind ?_
    by_cases hc : c i = true
    · rw [if_pos hc]
      exact wpAny_bind (wpAny_rule (wpAny_pure (rules_any c f l h)))
    · rw [if_neg hc]
      exact wpAny_pure (rules_any c f l h)
theorem drive : ∀ (T k : Nat) (m : Sre.M) {s : Shared} {Q : Sre.M → Shared → Prop}, k ≤ 4 * T + 4 → (m.runFor k).outcome.isSome = true → Q (m.runFor k) s → wpAny M A (Builtin.Re.reDrive (T + 1) m) Q E s
  | T, k, m, s, Q, hk, ho, h => by
    show wpAny M A (if (m.runFor 4).outcome.isSome = true then pure (m.runFor 4) else (do rule "sre.turn"; Builtin.Re.reDrive T (m.runFor 4))) Q E s
    by_cases h4 : (m.runFor 4).outcome.isSome = true
    · rw [if_pos h4]
      have e : m.runFor k = m.runFor 4 := by
        rcases Nat.le_total k 4 with q | q
        · have := run_add (4 - k) k m
          rw [show k + (4 - k) = 4 by lia] at this
          rw [this, done_run ho]
        · have := run_add (k - 4) 4 m
          rw [show 4 + (k - 4) = k by lia] at this
          rw [this, done_run h4]
      rw [← e]
      exact wpAny_pure h
    · rw [if_neg h4]
      refine wpAny_bind (wpAny_rule ?_)
      have hk4 : 4 < k := by
        rcases Nat.lt_or_ge 4 k with q | q
        · exact q
        · have := run_add (4 - k) k m
          rw [show k + (4 - k) = 4 by lia] at this
          rw [this, done_run ho] at h4
          exact absurd ho h4
      have e := run_add (k - 4) 4 m
      rw [show 4 + (k - 4) = k by lia] at e
      cases T with
      | zero => lia
      | succ T =>
        rw [e] at ho h
        exact drive T (k - 4) (m.runFor 4) (by lia) ho h
theorem drive0 {T k : Nat} {m : Sre.M} {Q : Sre.M → Shared → Prop} (hT : 0 < T) (hk : k ≤ 4 * T) (ho : (m.runFor k).outcome.isSome = true) (h : Q (m.runFor k) s) : wpAny M A (Builtin.Re.reDrive T m) Q E s := by
  obtain ⟨T', rfl⟩ : ∃ T', T = T' + 1 := ⟨T - 1, by lia⟩
  exact drive T' k m (by lia) ho h
theorem to_end {k : Nat} {m : Sre.M} {Q : Option Sre.M → Shared → Prop} (hk : k ≤ 1000000) (h : (∃ o, (m.runFor k).outcome = some .matched ∧ o = some (m.runFor k) ∧ Q o s) ∨ ((m.runFor k).outcome = some .failed ∧ Q none s)) :
    wpAny M A (Builtin.Re.reRunToEnd m) Q E s := by
  unfold Builtin.Re.reRunToEnd
  refine wpAny_bind (drive0 (k := k) (Nat.two_pow_pos 64) (Nat.le_trans hk (by decide)) ?_ ?_)
  · rcases h with ⟨o, e, -⟩ | ⟨e, -⟩ <;> rw [e] <;> rfl
  · refine wpAny_bind (rules_any (fun i => (m.runFor k).seen.has i) (fun i => Sre.names.getD i "") (List.range Sre.names.size) ?_)
    rcases h with ⟨o, e, rfl, hq⟩ | ⟨e, hq⟩
    · simp only [e]
      exact wpAny_pure hq
    · simp only [e]
      exact wpAny_pure hq
end
theorem owner_re : Manifest.owners.lookup (String.ofList ['n', 'r', 'e', 't', 't', 'a', 'P', '.', 'e', 'r'].reverse) = some Manifest.sig_re_Pattern := by kernel_rfl
theorem slot_re_split : Slot "re.Pattern" "split" "re.Pattern.split" :=
  .of (owner := "re.Pattern") (n := "split") (by rw [typeLookup_type, builtinLookup_eq_fast]; kernel_rfl) (by decide +kernel) (by decide +kernel) (by decide +kernel)
    (by first | exact .inl (by decide +kernel) | exact .inr (by decide +kernel)) (by rw [isSubtype_type]; kernel_rfl)
theorem type_re_split : typeOf (.builtin "re.Pattern.split") = pure (.type "method_descriptor") := by show builtinType _ = _; rw [builtinType_eq_fast]; kernel_rfl
theorem entry_re_split : entryFor table "re.Pattern.split" = some Builtin.«re.Pattern.split» := entryFor_of_tree (by kernel_rfl)
theorem args_re_split (a b : Value) : argsOk "re.Pattern.split" ⟨[a, b], []⟩ := by
  unfold argsOk; kernel_rfl
theorem re_getattribute : ∃ id, typeLookup (.type "re.Pattern") "__getattribute__" = pure (some (.builtin id)) ∧ (Manifest.canonical id != "object.__getattribute__") = false :=
  ⟨"object.__getattribute__", by rw [typeLookup_type, builtinLookup_eq_fast]; kernel_rfl, by decide +kernel⟩
theorem re_getattr_none : typeLookup (.type "re.Pattern") "__getattr__" = pure none := by rw [typeLookup_type, builtinLookup_eq_fast]; kernel_rfl
section
variable {prog : Program} {w : World} {A : Around} {E : Value → Shared → Prop} {s : Shared}
theorem getMethod_re_split {a : Addr} {o : Obj} {pl : Sem Bool} {Q : Value × List Value → Shared → Prop} (ho : s.heap.get? a = some o) (hc : o.cls = .type "re.Pattern") (hd : o.dict = none)
    (h : Q (.builtin "re.Pattern.split", [.ref a]) s) : wpAny (model prog w) A (getMethod (.ref a) "split" pl) Q E s := by
  have hT : s.TypeIs (.ref a) "re.Pattern" := ⟨o, ho, hc⟩
  obtain ⟨id, e1, e2⟩ := re_getattribute
  unfold getMethod
  refine wpAny_bind (wpAny_specialOf hT e1 ?_)
  show wpAny _ A (if (Manifest.canonical id != "object.__getattribute__") = true then _ else _) Q E s
  rw [e2, if_neg Bool.false_ne_true]
  refine wpAny_bind (wpAny_specialOf hT re_getattr_none ?_)
  refine wpAny_bind (wpAny_specialOf hT slot_re_split.lookup ?_)
  refine wpAny_bind (wpAny_of_eq type_re_split ?_)
  refine wpAny_bind (wpAny_load ho ?_)
  rw [hd]
  exact wpAny_bind (wpAny_rule (wpAny_pure h))
end
noncomputable def reFields : Obj → Option (Array Value) := fun o => match o.data with | .fields fs => some fs | _ => none
section
variable {prog : Program} {w : World} {A : Around} {E : Value → Shared → Prop} {s : Shared}
theorem call_re_split {a : Addr} {z : Str} {t : Tok} {Q : Value → Shared → Prop} (hT : s.TypeIs (.ref a) "re.Pattern") 
    (h : wpAny (model prog w) A.in1 (Builtin.«re.Pattern.split» ⟨[.ref a, .str z t], []⟩) (fun fin s' => ∃ v, fin = .done (.ret v) ∧ Q v s') E s) :
    wpAny (model prog w) A (call (.builtin "re.Pattern.split") [.ref a, .str z t]) Q E s :=
  wpAny_call_entry slot_re_split hT entry_re_split h (args_re_split _ _)
end
noncomputable abbrev LoopS := Array Value × Nat × Nat × Bool × Int × Bool
theorem words_le : ∀ {ps : List (Str × Str)}, (∀ p ∈ ps, 0 < p.1.length) → ps.length ≤ sumLen ps
  | [], _ => Nat.le_refl _
  | p :: r, h => by
    have h1 := h p List.mem_cons_self
    have := words_le fun q hq => h q (List.mem_cons_of_mem _ hq)
    simp only [List.length_cons, sumLen]; lia
section
variable {M : Model} {A : Around} {E : Value → Shared → Prop}
structure Turns (M : Model) (A : Around) (E : Value → Shared → Prop) (text : Array Nat) (f : Nat → LoopS → Sem (ForInStep LoopS)) : Prop where
  over : ∀ x out st la mu n (s : Shared) (Q : ForInStep LoopS → Shared → Prop), Q (.yield (out, st, la, mu, n, true)) s → wpAny M A (f x (out, st, la, mu, n, true)) Q E s
  none : ∀ x out st n (s : Shared) (Q : ForInStep LoopS → Shared → Prop) k, k ≤ 1000000 → ((Sre.forSearch code0 text 1 st text.size false).runFor k).outcome = some .failed →
    Q (.yield (out, st, st, false, n, true)) s → wpAny M A (f x (out, st, st, false, n, false)) Q E s
  found : ∀ x out st n (s : Shared) (Q : ForInStep LoopS → Shared → Prop) k p e, k ≤ 1000000 → Found ((Sre.forSearch code0 text 1 st text.size false).runFor k) p e → p < e → e ≤ text.size →
    (∀ t1 t2 tk, Q (.yield ((out.push (.str ⟨text.extract st p⟩ t1)).push (.str ⟨text.extract p e⟩ t2), e, e, false, n + 1, false)) { s with toks := tk }) → wpAny M A (f x (out, st, st, false, n, false)) Q E s
theorem loop_over {text : Array Nat} {f : Nat → LoopS → Sem (ForInStep LoopS)} (T : Turns M A E text f) : ∀ (l : List Nat) out st la mu n (s : Shared) (Q : LoopS → Shared → Prop), Q (out, st, la, mu, n, true) s →
    wpAny M A (forIn l (out, st, la, mu, n, true) f) Q E s
  | [], out, st, la, mu, n, s, Q, h => wpAny_pure h
  | x :: l, out, st, la, mu, n, s, Q, h => by
    simp only [List.forIn_cons]
    exact wpAny_bind (T.over x out st la mu n s _ (loop_over T l out st la mu n s Q h))
theorem cut_len : ∀ (ps : List (Str × Str)) (pre : Str), (cutTx pre ps).length = 2 * ps.length + 1
  | [], _ => rfl
  | p :: r, pre => by rw [cutTx, List.length_cons, List.length_cons, cut_len r, List.length_cons]; lia
theorem strs_retok {z : Str} {t t' : Tok} : ∀ {vs : List Value} {ys : List Str}, StrsAre (vs ++ [.str z t]) ys → StrsAre (vs ++ [.str z t']) ys
  | [], _, .cons _ _ .nil => .cons _ _ .nil
  | _ :: _, _, .cons a b r => .cons a b (strs_retok r)
theorem strs_snoc2 {z : Str} {t : Tok} : ∀ {vs : List Value} {ys : List Str}, StrsAre vs ys → StrsAre (vs ++ [.str z t]) (ys ++ [z])
  | _, _, .nil => .cons _ _ .nil
  | _, _, .cons a b r => .cons a b (strs_snoc2 r)
theorem loop_all {text : Array Nat} {f : Nat → LoopS → Sem (ForInStep LoopS)} (T : Turns M A E text f) (hs : text.size ≤ 100000) : ∀ (ws : List (Str × Str)) (l : List Nat) (pre : Str) (out : Array Value) (ys : List Str) (st : Nat) (n : Int) (s : Shared) (Q : LoopS → Shared → Prop), ws.length < l.length →
    text.toList.drop st = sg pre ++ partsTx ws → (∀ c ∈ sg pre, isW c = false) → (ws = [] → sg pre ≠ []) → WhiteW ws → StrsAre out.toList ys →
    (∀ out' st' la mu n' tk, StrsAre (out'.toList ++ [.str ⟨text.extract la text.size⟩ (0 : Nat)]) (ys ++ cutTx pre ws) → Q (out', st', la, mu, n', true) { s with toks := tk }) →
    wpAny M A (forIn l (out, st, st, false, n, false) f) Q E s
  | ws, [], _, _, _, _, _, _, _, hl, _, _, _, _, _, _ => absurd hl (Nat.not_lt_zero _)
  | [], x :: l, pre, out, ys, st, n, s, Q, _, hd, hp, hne, _, ho, hQ => by
    have hd' : text.toList.drop st = sg pre := by rw [hd]; simp [partsTx]
    obtain ⟨k, hk, hf⟩ := none_at hs hd' hp (hne rfl)
    simp only [List.forIn_cons]
    refine wpAny_bind (T.none x out st n s _ k hk hf (loop_over T l out st st false n s Q ?_))
    refine hQ out st st false n s.toks ?_
    rw [extract_end hd', tx_sg]
    exact strs_snoc2 ho
  | p :: r, x :: l, pre, out, ys, st, n, s, Q, hl, hd, hp, _, hw, ho, hQ => by
    obtain ⟨k, hk, hf, hd2, he, e1, e2⟩ := found_at hs hd hp hw
    have hpos := hw.pos p List.mem_cons_self
    simp only [List.forIn_cons]
    refine wpAny_bind (T.found x out st n s _ k _ _ hk hf (by lia) he fun t1 t2 tk => ?_)
    rw [e1, e2, tx_sg]
    refine loop_all T hs r l p.2 _ (ys ++ [pre, p.1]) _ _ _ Q (by simpa using hl) hd2 (hw.black p List.mem_cons_self) (fun _ q => ?_) hw.tail ?_ (fun out' st' la mu n' tk' h => ?_)
    · have h2 := hpos.2
      rw [← sg_len, q] at h2; exact absurd h2 (Nat.lt_irrefl _)
    · rw [Array.toList_push, Array.toList_push, List.append_assoc]
      have := strs_snoc2 (t := t2) (z := p.1) (strs_snoc2 (t := t1) (z := pre) ho)
      simpa using this
    · refine hQ out' st' la mu n' tk' ?_
      rw [cutTx]
      simpa using h
end
section
variable {prog : Program} {w : World} {A : Around} {E : Value → Shared → Prop} {s : Shared}
theorem whole_ok {a b : Addr} {z : Str} {t : Tok} {Q : Builtin.Re.ReTarget → Shared → Prop} {p0 p1 : Value} {u2 u6 : Tok} {cv : Array Value} {ep : Nat} (ha : s.heap.get? a = some ⟨.type "re.Pattern", none, .fields #[p0, p1, .int 1 u2, .none, .none, .ref b, .int 0 u6], #[]⟩)
    (hb : s.heap.get? b = some ⟨.type "tuple", none, .seq cv ep, #[]⟩) (hcv : (cv.map Builtin.Re.reRawOf).map (·.toNat) = code0)
    (h : Q { pattern := .ref a, string := .str z t, code := code0, text := z.cps, kind := 0, groups := 1, pos := 0, lim := z.cps.size } s) : wpAny (model prog w) A (Builtin.Re.reWholeTarget (.ref a) (.str z t)) Q E s := by
  unfold Builtin.Re.reWholeTarget
  refine wpAny_bind (wpAny_fieldsOf ha rfl ?_)
  refine wpAny_bind (wpAny_of_eq (a := (z.cps, 0)) (by rfl) ?_)
  dsimp only
  show wpAny _ _ (Builtin.Re.reRawItems (.ref b) >>= _) _ _ _
  unfold Builtin.Re.reRawItems
  refine wpAny_bind (wpAny_bind (wpAny_seqItems hb rfl (wpAny_pure ?_)))
  refine wpAny_pure ?_
  show Q { pattern := .ref a, string := .str z t, code := (cv.map Builtin.Re.reRawOf).map (·.toNat), text := z.cps, kind := 0, groups := 1, pos := 0, lim := z.cps.size } s
  rw [hcv]
  exact h
theorem split_body {a b : Addr} {ps : List (Str × Str)} {t : Tok} {Q : Fin → Shared → Prop} {p0 p1 : Value} {u2 u6 : Tok} {cv : Array Value} {ep : Nat} (ha : s.heap.get? a = some ⟨.type "re.Pattern", none, .fields #[p0, p1, .int 1 u2, .none, .none, .ref b, .int 0 u6], #[]⟩)
    (hb : s.heap.get? b = some ⟨.type "tuple", none, .seq cv ep, #[]⟩) (hcv : (cv.map Builtin.Re.reRawOf).map (·.toNat) = code0) (hw : WhiteW ps) (hne : ps ≠ []) (hl : sumLen ps ≤ 1000)
    (hQ : ∀ D h' tk ys, Kp s.heap h' → s.heap.get? D = none → h'.get? D = some (liO ys 0) → StrsAre ys.toList (Str.empty :: ps.flatMap fun p => [p.1, p.2]) → Q (.done (.ret (.ref D))) { s with heap := h', toks := tk }) :
    wpAny (model prog w) A (Builtin.«re.Pattern.split» ⟨[.ref a, .str (tx (partsTx ps)) t], []⟩) Q E s := by
  have hsz : (tx (partsTx ps)).cps.size = sumLen ps := by
    have := partsTx_len ps
    rw [← this]
    simp [tx]
  unfold Builtin.«re.Pattern.split»
  dsimp only
  refine wpAny_bind (wpAny_of_eq (a := [some (.str (tx (partsTx ps)) t), none]) (by rfl) ?_)
  dsimp only
  refine wpAny_bind (wpAny_pure ?_)
  refine wpAny_bind (whole_ok ha hb hcv ?_)
  dsimp only
  have hne2 : 0 < sumLen ps := by
    cases ps with
    | nil => exact absurd rfl hne
    | cons p r => have := (hw.pos p List.mem_cons_self).1; simp only [sumLen]; lia
  have hle : ps.length ≤ sumLen ps := words_le fun p hp => (hw.pos p hp).1
  refine wpAny_bind (loop_all (text := (tx (partsTx ps)).cps) ?T (by lia) ps (List.range _) Str.empty #[] [] 0 0 _ _ ?hl ?hd (fun c hc => by cases hc) (fun q => absurd q hne) hw .nil ?_)
  case hl =>
    rw [List.length_range]
    show ps.length < 2 * (tx (partsTx ps)).cps.size + 3
    rw [hsz]; lia
  case hd => simp [tx, Str.empty]
  case T =>
    refine ⟨?_, ?_, ?_⟩
    · intro x out st la mu n s Q h
      exact wpAny_pure h
    · intro x out st n s Q k hk hf h
      dsimp only
      show wpAny _ _ (Builtin.Re.reNextFound _ st false >>= _) _ _ _
      refine wpAny_bind (to_end hk (.inr ⟨hf, ?_⟩))
      exact wpAny_pure h
    · intro x out st n s Q k p e hk hf hpe he h
      dsimp only
      show wpAny _ _ (Builtin.Re.reNextFound _ st false >>= _) _ _ _
      refine wpAny_bind (to_end hk (.inl ⟨_, hf.out, rfl, ?_⟩))
      dsimp only
      rw [hf.start, hf.handed]
      have hx : ∀ i j, (⟨(tx (partsTx ps)).cps.extract i j⟩ : Str).length ≤ sizeLine := fun i j => by
        rw [sizeLine_eq]
        show ((tx (partsTx ps)).cps.extract i j).size ≤ _
        rw [Array.size_extract]
        lia
      show wpAny _ _ (mkStr ⟨(tx (partsTx ps)).cps.extract st p⟩ >>= _) _ _ _
      refine wpAny_bind (wpAny_mkStr ?_ (hx _ _))
      simp only [show List.range 1 = [0] from rfl, List.forIn_cons, List.forIn_nil]
      refine wpAny_bind (wpAny_bind (wpAny_bind ?_))
      unfold Builtin.Re.reMachineGroup
      rw [hf.mark, hf.marks]
      show wpAny _ _ (if e < p then _ else _) _ _ _
      rw [if_neg (by lia)]
      show wpAny _ _ (mkStr ⟨(tx (partsTx ps)).cps.extract p e⟩) _ _ _
      refine wpAny_mkStr ?_ (hx _ _)
      refine wpAny_pure (wpAny_pure (wpAny_pure ?_))
      have e0 : (e == p) = false := by simpa using (show ¬ e = p by lia)
      rw [e0]
      exact h _ _ _
  · intro out' st' la mu n' tk h
    have hx : (⟨(tx (partsTx ps)).cps.extract la (tx (partsTx ps)).cps.size⟩ : Str).length ≤ sizeLine := by
      rw [sizeLine_eq]
      show ((tx (partsTx ps)).cps.extract la _).size ≤ _
      rw [Array.size_extract]
      lia
    show wpAny _ _ (mkStr ⟨(tx (partsTx ps)).cps.extract la (tx (partsTx ps)).cps.size⟩ >>= _) _ _ _
    refine wpAny_bind (wpAny_mkStr ?_ hx)
    have hlen := h.length
    rw [List.length_append, List.nil_append, cut_len] at hlen
    refine wpAny_bind (wpAny_newList ?_ (by rw [Array.toList_push, List.length_append, sizeLine_eq]; simp only [List.length_cons, List.length_nil]; lia))
    refine wpAny_pure (hQ _ _ _ ((out'.push (.str ⟨(tx (partsTx ps)).cps.extract la (tx (partsTx ps)).cps.size⟩ tk)).toList.toArray) (fun b o e => Heap.get?_push_of_some _ e) (by
      cases q : s.heap.get? s.heap.objs.size with
      | none => rfl
      | some o => exact absurd (Heap.lt_size q) (Nat.lt_irrefl _)) (Heap.get?_push_size _ rfl) ?_)
    rw [List.nil_append, cutTx_eq] at h
    show StrsAre (out'.push _).toList _
    rw [Array.toList_push]
    exact strs_retok h
end
end
section
open PySem PySem.W PyProof.Rows PySem.Calls PySem.Spec
set_option Elab.async false
set_option maxRecDepth 100000
set_option linter.unusedVariables false
structure ZA (z TI TO i l : Addr) : Prop where
  TIz : TI ≠ z
  TOz : TO ≠ z
  iz : i ≠ z
  TITO : TI ≠ TO
  TIi : TI ≠ i
  TOi : TO ≠ i
  lz : l ≠ z
  lTO : l ≠ TO
  li : l ≠ i
section
variable {prog : Program} {w : World} {A : Around} {E : Value → Shared → Prop} {s : Shared} {z TI TO i l : Addr} {k : Nat} {xs : Array Value} {x y a b : Value}
theorem zip1_draw {Q : Value → Shared → Prop} (D : ZA z TI TO i l) (hz : IsZip s.heap z TI TO .none) (hTI : IsPair s.heap TI (.ref i) (.ref i)) (hTO : IsPair s.heap TO a b) (h1 : s.heap.IsListIter i l k) (hl : s.heap.IsList l xs) (hx : xs[k]? = some x) (hy : xs[k + 1]? = some y)
    (hQ : ∀ h', IsZip h' z TI TO (rawInt s.heap.objs.size) → IsPair h' TO x y → h'.IsListIter i l (k + 2) → IsPair h' s.heap.objs.size x y →
      (∀ c o, c ≠ z → c ≠ TO → c ≠ i → s.heap.get? c = some o → h'.get? c = some o) → Q (.ref s.heap.objs.size) { s with heap := h' }) :
    wpAny (model prog w) A (Builtin.«zip.__next__» ⟨[.ref z], []⟩) (fun fin s' => ∃ v, fin = .done (.ret v) ∧ Q v s') E s := by
  show wpAny _ _ (field (.ref z) 2 >>= _) _ _ _
  refine wpAny_bind (wpAny_field hz rfl (x := .bool false) rfl ?_)
  show wpAny _ _ (field (.ref z) 3 >>= _) _ _ _
  refine wpAny_bind (wpAny_field hz rfl (x := .ref TI) rfl ?_)
  refine wpAny_bind (wpAny_seqItems hTI rfl ?_)
  show wpAny _ _ (Builtin.SmallTypes.ownedTupleIsFree (.ref z) >>= _) _ _ _
  refine wpAny_bind ?_
  unfold Builtin.SmallTypes.ownedTupleIsFree
  refine wpAny_bind (wpAny_field hz rfl (x := .none) rfl (wpAny_pure ?_))
  simp only [if_true]
  refine wpAny_bind (wpAny_rule ?_)
  refine wpAny_bind (wpAny_field hz rfl (x := .ref TO) rfl ?_)
  refine wpAny_bind (wpAny_setField_rec hz (by simp) fun g1 z1 b1 => ?_)
  replace z1 : IsZip g1 z TI TO .ellipsis := z1
  refine wpAny_bind ?_
  simp only [List.zipIdx_cons, List.zipIdx_nil, List.forIn_cons, List.forIn_nil]
  refine wpAny_bind (wpAny_bind (wpAny_onRaise ?_))
  show wpAny _ _ (Builtin.SmallTypes.nextOf (.ref i) >>= _) _ _ _
  refine wpAny_bind (wpAny_nextOf_list_item (h1.extBut b1.extBut D.iz) (hl.extBut b1.extBut D.lz) hx fun g2 i2 b2 => wpAny_pure ?_)
  have o2 : IsPair g2 TO a b := b2.extBut _ _ D.TOi (b1.extBut _ _ D.TOz hTO)
  refine wpAny_bind (wpAny_seqItems o2 rfl ?_)
  refine wpAny_bind (wpAny_updateSeq_pair o2 fun g3 o3 b3 => ?_)
  replace o3 : IsPair g3 TO x b := o3
  refine wpAny_bind (wpAny_letGo (wpAny_pure ?_))
  have i3 : g3.IsListIter i l (k + 1) := i2.extBut b3.extBut (Ne.symm D.TOi)
  have l3 : g3.IsList l xs := ((hl.extBut b1.extBut D.lz).extBut b2.extBut D.li).extBut b3.extBut D.lTO
  refine wpAny_bind (wpAny_bind (wpAny_onRaise ?_))
  show wpAny _ _ (Builtin.SmallTypes.nextOf (.ref i) >>= _) _ _ _
  refine wpAny_bind (wpAny_nextOf_list_item i3 l3 hy fun g4 i4 b4 => wpAny_pure ?_)
  have o4 : IsPair g4 TO x b := b4.extBut _ _ D.TOi o3
  refine wpAny_bind (wpAny_seqItems o4 rfl ?_)
  refine wpAny_bind (wpAny_updateSeq_pair o4 fun g5 o5 b5 => ?_)
  replace o5 : IsPair g5 TO x y := o5
  refine wpAny_bind (wpAny_letGo (wpAny_pure (wpAny_pure ?_)))
  refine wpAny_bind (wpAny_seqItems o5 rfl ?_)
  refine wpAny_bind (wpAny_newTuple ?_)
  have hsz : g5.objs.size = s.heap.objs.size := by rw [b5.1, b4.1, b3.1, b2.1, b1.1]
  have z5 : IsZip g5 z TI TO .ellipsis := b5.extBut _ _ (Ne.symm D.TOz) (b4.extBut _ _ (Ne.symm D.iz) (b3.extBut _ _ (Ne.symm D.TOz) (b2.extBut _ _ (Ne.symm D.iz) z1)))
  have k5 : ∀ c o, c ≠ z → c ≠ TO → c ≠ i → s.heap.get? c = some o → g5.get? c = some o := fun c o c1 c2 c3 e =>
    b5.extBut _ _ c2 (b4.extBut _ _ c3 (b3.extBut _ _ c2 (b2.extBut _ _ c3 (b1.extBut _ _ c1 e))))
  have i5 : g5.IsListIter i l (k + 2) := i4.extBut b5.extBut (Ne.symm D.TOi)
  have lz5 : z < g5.objs.size := Heap.lt_size z5
  show wpAny _ _ (Builtin.SmallTypes.ownedTupleHandOut (.ref z) (.ref g5.objs.size) >>= _) _ _ _
  refine wpAny_bind ?_
  unfold Builtin.SmallTypes.ownedTupleHandOut
  have z6 : IsZip (g5.push { cls := .type "tuple", data := .seq #[x, y] }) z TI TO .ellipsis := Heap.get?_push_of_some _ z5
  refine wpAny_bind (wpAny_setField_rec z6 (by simp) fun g7 z7 b7 => ?_)
  replace z7 : IsZip g7 z TI TO (rawInt g5.objs.size) := z7
  refine wpAny_setField_rec z7 (by simp) fun g8 z8 b8 => ?_
  replace z8 : IsZip g8 z TI TO (rawInt g5.objs.size) := z8
  have up : ∀ c o, c ≠ z → g5.get? c = some o → g8.get? c = some o := fun c o c1 e => b8.extBut _ _ c1 (b7.extBut _ _ c1 (Heap.get?_push_of_some _ e))
  have t8 : IsPair g8 g5.objs.size x y := b8.extBut _ _ (Nat.ne_of_gt lz5) (b7.extBut _ _ (Nat.ne_of_gt lz5) (Heap.get?_push_size _ rfl))
  rw [hsz] at z8 t8
  refine wpAny_pure ⟨_, rfl, ?_⟩
  show Q (.ref g5.objs.size) _
  rw [hsz]
  exact hQ g8 z8 (up _ _ D.TOz o5) (i5.at fun o e => up _ o D.iz e) t8 fun c o c1 c2 c3 e => up c o c1 (k5 c o c1 c2 c3 e)
theorem zip1_over {Q : Fin → Shared → Prop} (hh : A.handled = none) (D : ZA z TI TO i l) (hz : IsZip s.heap z TI TO .none) (hTI : IsPair s.heap TI (.ref i) (.ref i)) (h1 : s.heap.IsListIter i l k) (hl : s.heap.IsList l xs) (hx : xs[k]? = none)
    (hTO : IsPair s.heap TO a b)
    (hE : ∀ h' e, (∀ c o, c ≠ z → c ≠ i → s.heap.get? c = some o → h'.get? c = some o) → (∃ o, h'.get? e = some o ∧ o.cls = .type "StopIteration") → E (.ref e) { s with heap := h' }) :
    wpAny (model prog w) A (Builtin.«zip.__next__» ⟨[.ref z], []⟩) Q E s := by
  show wpAny _ _ (field (.ref z) 2 >>= _) _ _ _
  refine wpAny_bind (wpAny_field hz rfl (x := .bool false) rfl ?_)
  show wpAny _ _ (field (.ref z) 3 >>= _) _ _ _
  refine wpAny_bind (wpAny_field hz rfl (x := .ref TI) rfl ?_)
  refine wpAny_bind (wpAny_seqItems hTI rfl ?_)
  show wpAny _ _ (Builtin.SmallTypes.ownedTupleIsFree (.ref z) >>= _) _ _ _
  refine wpAny_bind ?_
  unfold Builtin.SmallTypes.ownedTupleIsFree
  refine wpAny_bind (wpAny_field hz rfl (x := .none) rfl (wpAny_pure ?_))
  simp only [if_true]
  refine wpAny_bind (wpAny_rule ?_)
  refine wpAny_bind (wpAny_field hz rfl (x := .ref TO) rfl ?_)
  refine wpAny_bind (wpAny_setField_rec hz (by simp) fun g1 z1 b1 => ?_)
  replace z1 : IsZip g1 z TI TO .ellipsis := z1
  refine wpAny_bind ?_
  simp only [List.zipIdx_cons, List.zipIdx_nil, List.forIn_cons, List.forIn_nil]
  refine wpAny_bind (wpAny_bind (wpAny_onRaise ?_))
  show wpAny _ _ (Builtin.SmallTypes.nextOf (.ref i) >>= _) _ _ _
  refine wpAny_bind (wpAny_nextOf_list_end hh (h1.extBut b1.extBut D.iz) (hl.extBut b1.extBut D.lz) hx fun g2 e b2 he => ?_)
  obtain ⟨oe, eoe, ce⟩ := he
  have z2 : IsZip g2 z TI TO .ellipsis := b2 _ _ (Ne.symm D.iz) z1
  have hez : e ≠ z := fun q => by subst q; rw [z2] at eoe; cases eoe; simp at ce
  exact wpAny_setField_rec z2 (by simp) fun g3 _ b3 => hE g3 e (fun c o c1 c3 q => b3.extBut _ _ c1 (b2 _ _ c3 (b1.extBut _ _ c1 q))) ⟨oe, b3.extBut _ _ hez eoe, ce⟩
theorem next_zip1 {Q : Option Value → Shared → Prop} (D : ZA z TI TO i l) (hz : IsZip s.heap z TI TO .none) (hTI : IsPair s.heap TI (.ref i) (.ref i)) (hTO : IsPair s.heap TO a b) (h1 : s.heap.IsListIter i l k) (hl : s.heap.IsList l xs) (hx : xs[k]? = some x) (hy : xs[k + 1]? = some y)
    (hQ : ∀ h', IsZip h' z TI TO (rawInt s.heap.objs.size) → IsPair h' TO x y → h'.IsListIter i l (k + 2) → IsPair h' s.heap.objs.size x y →
      (∀ c o, c ≠ z → c ≠ TO → c ≠ i → s.heap.get? c = some o → h'.get? c = some o) → Q (some (.ref s.heap.objs.size)) { s with heap := h' }) :
    wpAny (model prog w) A (pyNext (.ref z)) Q E s := by
  have hT : s.TypeIs (.ref z) "zip" := ⟨_, hz, rfl⟩
  unfold pyNext
  exact wpAny_bind (wpAny_attempt (wpAny_callSpecial?_slot (name := Str.ofString "__next__") hT F.slot_zip_next
    (wpAny_call_entry F.slot_zip_next hT F.entry_zip_next (zip1_draw D hz hTI hTO h1 hl hx hy fun h' a1 a2 a3 a4 a5 => wpAny_pure (hQ h' a1 a2 a3 a4 a5)) (F.args_zip_next_1 _))))
theorem over_zip1 {Q : Option Value → Shared → Prop} (hh : A.handled = none) (D : ZA z TI TO i l) (hz : IsZip s.heap z TI TO .none) (hTI : IsPair s.heap TI (.ref i) (.ref i)) (hTO : IsPair s.heap TO a b) (h1 : s.heap.IsListIter i l k) (hl : s.heap.IsList l xs) (hx : xs[k]? = none)
    (hQ : ∀ h', (∀ c o, c ≠ z → c ≠ i → s.heap.get? c = some o → h'.get? c = some o) → Q none { s with heap := h' }) : wpAny (model prog w) A (pyNext (.ref z)) Q E s := by
  have hT : s.TypeIs (.ref z) "zip" := ⟨_, hz, rfl⟩
  unfold pyNext
  refine wpAny_bind (wpAny_attempt (wpAny_callSpecial?_slot (name := Str.ofString "__next__") hT F.slot_zip_next
    (wpAny_call_entry F.slot_zip_next hT F.entry_zip_next (zip1_over hh D hz hTI h1 hl hx hTO fun h' e hk he => ?_) (F.args_zip_next_1 _))))
  obtain ⟨o, ho, hc⟩ := he
  refine wpAny_bind (wpAny_isInstance (T := "StopIteration") (b := true) ⟨o, ho, hc⟩ isSubtype_stop ?_)
  exact wpAny_pure (hQ _ hk)
end
end
section
open PySem PySem.W PyProof.Rows PySem.Calls PySem.Spec
set_option Elab.async false
set_option maxRecDepth 100000
set_option linter.unusedVariables false
noncomputable def TurnZ {σ : Type} (h₀ : Heap) (L : Addr) (x1 x2 : Str) (own : List (Addr × Obj)) (mk : σ → List (Str × Option Value)) (nw : σ → List (Addr × Obj)) (side : σ → Heap → Prop) (s : Shared) (Q : Flow → Shared → Prop) (f : Flow) (s₃ : Shared) : Prop :=
  match f with
  | .brk => Q .next s₃
  | .ret v => Q (.ret v) s₃
  | _ => ∃ m' a', Sm s s₃ ∧ Fr h₀ L s₃.heap m' ∧ News h₀ L s₃.heap (own ++ nw a') ∧ (∀ y, y ≠ x1 → y ≠ x2 → m' y = lmap (mk a') y) ∧ side a' s₃.heap
noncomputable abbrev zipO (TI TO : Addr) : Obj := { cls := .type "zip", dict := none, data := .fields #[.none, .bool false, .bool false, .ref TI, .ref TO], slots := #[] }
noncomputable abbrev pairO (a b : Value) : Obj := { cls := .type "tuple", data := .seq #[a, b] }
noncomputable def FlatAt (items : Array Value) (ps : List (Str × Str)) : Prop := items.size = 2 * ps.length ∧ ∀ (k : Nat) (p : Str × Str), ps[k]? = some p → ∃ t u, items[2 * k]? = some (.str p.1 t) ∧ items[2 * k + 1]? = some (.str p.2 u)
section
variable {prog : Program} {w : World} {A : Around} {s : Shared} {env : Env} {h₀ : Heap}
theorem iter_zip {σ : Type} {Q : Flow → Shared → Prop} {x1 x2 : Str} {px1 px2 tp : Pos} {tkk : Nat} {body : List Stmt} {z TI TO i l : Addr} {items : Array Value} {ep : Nat} {ps : List (Str × Str)} {m₀ : Str → Option Value} {pa pb : Value}
    (mk : Nat → σ → List (Str × Option Value)) (nw : Nat → σ → List (Addr × Obj)) (side : Nat → σ → Heap → Prop) (a₀ : σ)
    (hst : ∀ k a h h', side k a h → (∀ q ∈ nw k a, h'.get? q.1 = some q.2) → (∀ b o, b ≠ TO → h.get? b = some o → o.cls = .type "tuple" → (∃ v n, o.data = .seq v n) → h'.get? b = some o) → (∃ o, h'.get? TO = some o ∧ o.cls = .type "tuple") → side k a h')
    (hh : A.handled = none) (D : ZA z TI TO i l) (hz : IsZip s.heap z TI TO .none) (hTI : IsPair s.heap TI (.ref i) (.ref i)) (hTO : IsPair s.heap TO pa pb) (hi : s.heap.IsListIter i l 0) (hl : s.heap.get? l = some (liO items ep)) (hp : FlatAt items ps)
    (hfr : ∀ q ∈ [z, TI, TO, i, l], q ≠ env.locals ∧ h₀.get? q = none) (hnw : ∀ k a, ∀ q ∈ nw k a, q.1 ∉ [z, TI, TO, i, l])
    (F : Fr h₀ env.locals s.heap m₀) (hm : ∀ y, y ≠ x1 → y ≠ x2 → m₀ y = lmap (mk 0 a₀) y) (N : News h₀ env.locals s.heap (nw 0 a₀)) (h0 : side 0 a₀ s.heap)
    (turn : ∀ k p t u a (s₁ : Shared) oi, ps[k]? = some p → side k a s₁.heap → Sm s s₁ → oi.cls = .type "list_iterator" → Fr h₀ env.locals s₁.heap (lmap ((x2, some (.str p.2 u)) :: (x1, some (.str p.1 t)) :: mk k a)) →
      News h₀ env.locals s₁.heap ([(z, zipO TI TO), (TI, pairO (.ref i) (.ref i)), (TO, pairO (.str p.1 t) (.str p.2 u)), (i, oi), (l, liO items ep)] ++ nw k a) →
      wpAny (model prog w) A (execs body env) (TurnZ h₀ env.locals x1 x2 [(z, zipO TI TO), (TI, pairO (.ref i) (.ref i)), (TO, pairO (.str p.1 t) (.str p.2 u)), (i, oi), (l, liO items ep)] (mk (k + 1)) (nw (k + 1)) (side (k + 1)) s Q) NoE s₁)
    (done : ∀ a u1 u2 (s₁ : Shared), side ps.length a s₁.heap → Sm s s₁ → Fr h₀ env.locals s₁.heap (lmap ((x2, u2) :: (x1, u1) :: mk ps.length a)) → News h₀ env.locals s₁.heap (nw ps.length a) → Q .next s₁)
    (hx1 : env.kindOf x1 = some .local) (hx2 : env.kindOf x2 = some .local) (hxx : x1 ≠ x2)
    (hpp : (env.scope.kind == .class || (env.scope.kind == .module && env.locals != env.globals)) = false) :
    wpAny (model prog w) A (pyIter (.ref z)) (fun it s₂ => codeAny (model prog w) A (.forLoop (.Tuple [.Name x1 px1, .Name x2 px2] tkk tp) it body [] env) (fun r s' => match r with | .ok f => Q f s' | .error e => cameBackBy (model prog w) A env NoE e s') s₂) NoE s := by
  refine wpAny_pyIter_zip hz ?_
  have ez := hfr z (by simp)
  have eTI := hfr TI (by simp)
  have eTO := hfr TO (by simp)
  have ei := hfr i (by simp)
  have el := hfr l (by simp)
  obtain ⟨P, hI, hE⟩ : ∃ P : Nat → Shared → Prop, (∀ (s' : Shared) m' a k pa pb, Sm s s' → IsZip s'.heap z TI TO .none → IsPair s'.heap TI (.ref i) (.ref i) → IsPair s'.heap TO pa pb → s'.heap.IsListIter i l (2 * k) → s'.heap.get? l = some (liO items ep) → Fr h₀ env.locals s'.heap m' → News h₀ env.locals s'.heap (nw k a) → (∀ y, y ≠ x1 → y ≠ x2 → m' y = lmap (mk k a) y) → side k a s'.heap → k ≤ ps.length → P (ps.length + 1 - k) s') ∧ ∀ kk s' (G : Prop), P kk s' → (∀ m' a k pa pb, Sm s s' → IsZip s'.heap z TI TO .none → IsPair s'.heap TI (.ref i) (.ref i) → IsPair s'.heap TO pa pb → s'.heap.IsListIter i l (2 * k) → s'.heap.get? l = some (liO items ep) → Fr h₀ env.locals s'.heap m' → News h₀ env.locals s'.heap (nw k a) → (∀ y, y ≠ x1 → y ≠ x2 → m' y = lmap (mk k a) y) → side k a s'.heap → k ≤ ps.length → kk = ps.length + 1 - k → G) → G :=
    ⟨fun kk s' => ∀ G : Prop, _ → G, fun s' m' a k pa pb y0 y1 y2 y3 y4 y5 y6 y7 y8 y9 y10 G f => f m' a k pa pb y0 y1 y2 y3 y4 y5 y6 y7 y8 y9 y10 rfl, fun _ _ _ x f => x _ f⟩
  refine loop_abs fun R hR => ?_
  refine codeAny_forLoop_any P ?_ (ps.length + 1) (hI _ m₀ a₀ 0 pa pb ⟨rfl, rfl, fun x => x⟩ hz hTI hTO hi hl F N hm h0 (Nat.zero_le _))
  intro kk s' hk'
  refine hE kk s' _ hk' ?_
  clear hE hk'
  rintro m' a k pa pb sm hz' hTI' hTO' hi' hl' F' N' hm' hs' hk rfl
  have hls : s'.heap.IsList l items := ⟨_, hl', rfl, _, rfl⟩
  have fr1 : ∀ h1 : Heap, (∀ b o, b ≠ z → b ≠ TO → b ≠ i → s'.heap.get? b = some o → h1.get? b = some o) → Fr h₀ env.locals h1 m' ∧ News h₀ env.locals h1 (nw k a) := fun h1 k1 =>
    ⟨⟨F'.ns.at' fun o e => k1 _ o (Ne.symm ez.1) (Ne.symm eTO.1) (Ne.symm ei.1) e, fun b o e => k1 b o (fun q => by rw [q, ez.2] at e; cases e) (fun q => by rw [q, eTO.2] at e; cases e) (fun q => by rw [q, ei.2] at e; cases e) (F'.keep b o e), F'.above⟩,
      fun q hq => by
        have := hnw k a q hq
        simp only [List.mem_cons, List.not_mem_nil, or_false, not_or] at this
        exact ⟨k1 _ _ this.1 this.2.2.1 this.2.2.2.1 (N' q hq).1, (N' q hq).2⟩⟩
  have sd : ∀ h1 : Heap, (∀ b o, b ≠ z → b ≠ TO → b ≠ i → s'.heap.get? b = some o → h1.get? b = some o) → (∃ o, h1.get? TO = some o ∧ o.cls = .type "tuple") → side k a h1 := fun h1 k1 t1 => by
    refine hst k a _ _ hs' (fun q hq => ((fr1 h1 k1).2 q hq).1) (fun b o hb e c _ => k1 b o (fun q => ?_) hb (fun q => ?_) e) t1
    · rw [q, hz'] at e; cases e; simp at c
    · obtain ⟨oi, eo, c2, _⟩ := id hi'
      rw [q, eo] at e; cases e; rw [c2] at c; simp at c
  by_cases hlt : k < ps.length
  · obtain ⟨p, hpk⟩ : ∃ p, ps[k]? = some p := ⟨_, List.getElem?_eq_getElem hlt⟩
    obtain ⟨t, u, ex, ey⟩ := hp.2 k p hpk
    refine next_zip1 D hz' hTI' hTO' hi' hls ex ey fun h1 a1 a2 a3 a4 k1 => ?_
    dsimp only
    refine wpAny_letOwnedTupleGo_zip a1 fun h2 b1 sb2 => ?_
    have hsz : s'.heap.objs.size ≠ z := Nat.ne_of_gt (Heap.lt_size hz')
    have hT2 : h2.IsTuple s'.heap.objs.size #[.str p.1 t, .str p.2 u] := ⟨_, sb2.extBut _ _ hsz a4, rfl, _, rfl⟩
    have k2 : ∀ b o, b ≠ z → b ≠ TO → b ≠ i → s'.heap.get? b = some o → h2.get? b = some o := fun b o c1 c2 c3 e => sb2.extBut _ _ c1 (k1 b o c1 c2 c3 e)
    obtain ⟨F2, N2⟩ := fr1 h2 k2
    have o2 : IsPair h2 TO (.str p.1 t) (.str p.2 u) := sb2.extBut _ _ D.TOz a2
    refine kcp_assign hh hT2 hx1 hx2 hpp F2.ns fun h3 tk3 hn3 k3 => ?_
    have F3 : Fr h₀ env.locals h3 (lmap ((x2, some (.str p.2 u)) :: (x1, some (.str p.1 t)) :: mk k a)) := ⟨by
        have e : lmap ((x2, some (.str p.2 u)) :: (x1, some (.str p.1 t)) :: mk k a) = fun y => if y = x2 then some (.str p.2 u) else if y = x1 then some (.str p.1 t) else m' y := by
          funext y
          show (if y = x2 then _ else if y = x1 then _ else lmap (mk k a) y) = _
          by_cases q2 : y = x2
          · simp [q2]
          · by_cases q1 : y = x1
            · subst q1; simp [hxx]
            · simp only [if_neg q2, if_neg q1]; exact (hm' y q1 q2).symm
        rw [e]; exact hn3, fun b o e => k3 b o (fun q => by
          have := Heap.lt_size e
          rw [q] at this
          exact absurd (Nat.lt_of_lt_of_le this F.above) (Nat.lt_irrefl _)) (F2.keep b o e), F.above⟩
    have z3 : IsZip h3 z TI TO .none := k3 _ _ ez.1 b1
    have t3 : IsPair h3 TI (.ref i) (.ref i) := k3 _ _ eTI.1 (k2 _ _ D.TIz D.TITO D.TIi hTI')
    have o3 : IsPair h3 TO (.str p.1 t) (.str p.2 u) := k3 _ _ eTO.1 o2
    have i3 : h3.IsListIter i l (2 * k + 2) := a3.at fun o e => k3 _ o ei.1 (sb2.extBut _ _ D.iz e)
    have l3 : h3.get? l = some (liO items ep) := k3 _ _ el.1 (k2 _ _ D.lz D.lTO D.li hl')
    obtain ⟨oi, eoi, coi, doi⟩ := id i3
    have N3 : News h₀ env.locals h3 ([(z, zipO TI TO), (TI, pairO (.ref i) (.ref i)), (TO, pairO (.str p.1 t) (.str p.2 u)), (i, oi), (l, liO items ep)] ++ nw k a) := fun q hq => by
      rcases List.mem_append.mp hq with hq | hq
      · simp only [List.mem_cons, List.not_mem_nil, or_false] at hq
        rcases hq with rfl | rfl | rfl | rfl | rfl
        · exact ⟨z3, ez⟩
        · exact ⟨t3, eTI⟩
        · exact ⟨o3, eTO⟩
        · exact ⟨eoi, ei⟩
        · exact ⟨l3, el⟩
      · exact ⟨k3 _ _ (N2 q hq).2.1 (N2 q hq).1, (N2 q hq).2⟩
    have hs3 : side k a h3 := by
      refine hst k a _ _ (sd h2 k2 ⟨_, o2, rfl⟩) (fun q hq => (N3 q (List.mem_append_right _ hq)).1) (fun b o hb e c d => k3 b o (fun q => ?_) e) ⟨_, o3, rfl⟩
      obtain ⟨o', es, n', ho, hd, _⟩ := F2.ns
      rw [q, ho] at e
      cases e
      obtain ⟨v, n'', hv⟩ := d
      rw [hd] at hv; cases hv
    refine wpAny_mono (turn k p t u a _ oi hpk hs3 ⟨sm.1, sm.2.1, sm.2.2⟩ coi F3 N3) (fun f s₃ h₃ => ?_) fun _ _ x => x.elim
    have fin : TurnZ h₀ env.locals x1 x2 [(z, zipO TI TO), (TI, pairO (.ref i) (.ref i)), (TO, pairO (.str p.1 t) (.str p.2 u)), (i, oi), (l, liO items ep)] (mk (k + 1)) (nw (k + 1)) (side (k + 1)) s Q .next s₃ → ∃ kk, kk < ps.length + 1 - k ∧ P kk s₃ := by
      rintro ⟨m2, a', sm3, F4, N4, hm3, hs4⟩
      exact ⟨ps.length + 1 - (k + 1), by (with_reducible exact nnF (by assumption)), hI _ m2 a' (k + 1) _ _ sm3 ((N4 (z, _) (.head _)).1) ((N4 (TI, _) (.tail _ (.head _))).1) ((N4 (TO, _) (.tail _ (.tail _ (.head _)))).1) ⟨oi, (N4 (i, _) (.tail _ (.tail _ (.tail _ (.head _))))).1, coi, doi⟩ ((N4 (l, _) (.tail _ (.tail _ (.tail _ (.tail _ (.head _)))))).1) F4 (fun q hq => N4 q (List.mem_append_right _ hq)) hm3 hs4 hlt⟩
    cases f with
    | brk => exact hR _ _ h₃
    | ret v => exact hR _ _ h₃
    | next => exact fin h₃
    | cont => exact fin h₃
  · have hkn : k = ps.length := by (with_reducible exact nnG (by assumption) (by assumption))
    subst hkn
    refine over_zip1 hh D hz' hTI' hTO' hi' hls (Array.getElem?_eq_none (by rw [hp.1]; exact Nat.le_refl _)) fun h1 k1 => ?_
    have o1 : ∃ o, h1.get? TO = some o ∧ o.cls = .type "tuple" := ⟨_, k1 _ _ D.TOz D.TOi hTO', rfl⟩
    replace k1 : ∀ c o, c ≠ z → c ≠ TO → c ≠ i → s'.heap.get? c = some o → h1.get? c = some o := fun c o c1 _ c3 e => k1 c o c1 c3 e
    obtain ⟨F1, N1⟩ := fr1 h1 k1
    have e : lmap ((x2, m' x2) :: (x1, m' x1) :: mk ps.length a) = m' := by
      funext y
      show (if y = x2 then m' x2 else if y = x1 then m' x1 else lmap (mk ps.length a) y) = _
      by_cases q2 : y = x2
      · simp [q2]
      · by_cases q1 : y = x1
        · subst q1; simp [hxx]
        · simp only [if_neg q2, if_neg q1]; exact (hm' y q1 q2).symm
    refine wpAny_of_eq (a := Flow.next) rfl ?_
    exact hR _ _ (done a (m' x1) (m' x2) _ (sd h1 k1 o1) ⟨sm.1, sm.2.1, sm.2.2⟩ (by rw [e]; exact F1) N1)
end
end
section
open PySem PySem.W PyProof.Rows PySem.Calls PySem.Spec
set_option Elab.async false
set_option maxRecDepth 100000
set_option linter.unusedVariables false
noncomputable abbrev zsH1 (h : Heap) (i : Addr) : Heap := h.push { cls := .type "tuple", data := .seq #[.ref i, .ref i] }
noncomputable abbrev zsH2 (h : Heap) (i : Addr) : Heap := (zsH1 h i).push { cls := .type "tuple", data := .seq #[.none, .none] }
noncomputable abbrev zsH3 (h : Heap) (i : Addr) : Heap := (zsH2 h i).push { cls := .type "zip", data := .fields #[.none, .bool false, .bool false, .ref h.objs.size, .ref (zsH1 h i).objs.size] }
theorem meets_zip_same (i l : Addr) (k : Nat) :
    Meets (Builtin.«zip.__new__» ⟨[.type "zip", .ref i, .ref i], []⟩) (fun _ R s => s.heap.IsListIter i l k ∧ R (.ok (.ret (.ref (zsH2 s.heap i).objs.size))) { s with heap := zsH3 s.heap i }) :=
  .of_wp fun prog w A R s h => by
    obtain ⟨hp, g, d, tk, os⟩ := s; obtain ⟨hi, h⟩ := h
    have hsub := sub_zip
    have hI : Heap.IsListIter (Shared.heap ⟨hp, g, d, tk, os⟩) i l k := hi
    wp_walk using wpAny_pyIter_listiter hI
    exact ⟨_, rfl, h⟩
section
variable {prog : Program} {w : World} {A : Around} {E : Value → Shared → Prop} {s : Shared}
theorem call_zip_same {i l : Addr} {k : Nat} {Q : Value → Shared → Prop} (hi : s.heap.IsListIter i l k)
    (h : ∀ h', IsZip h' (s.heap.objs.size + 2) s.heap.objs.size (s.heap.objs.size + 1) .none → IsPair h' s.heap.objs.size (.ref i) (.ref i) → IsPair h' (s.heap.objs.size + 1) .none .none →
      (∀ c o, s.heap.get? c = some o → h'.get? c = some o) → Q (.ref (s.heap.objs.size + 2)) { s with heap := h' }) :
    wpAny (model prog w) A (call (.type "zip") [.ref i, .ref i]) Q E s := by
  refine callType_new F.called_zip (by decide) (F.typeCall_zip_2 _ _) (F.newCall_zip_2 _ _) (fun obj => F.args_object_init_3 obj _ _) F.entry_zip_new
    (meets_zip_same i l k) ⟨hi, ?_⟩
  have z1 : (zsH1 s.heap i).objs.size = s.heap.objs.size + 1 := Heap.size_push ..
  have z2 : (zsH2 s.heap i).objs.size = s.heap.objs.size + 2 := by rw [Heap.size_push, z1]
  have g3 : (zsH3 s.heap i).get? (zsH2 s.heap i).objs.size = some _ := Heap.get?_push_size _ rfl
  have g2 : (zsH3 s.heap i).get? (zsH1 s.heap i).objs.size = some _ := Heap.get?_push_of_some _ (Heap.get?_push_size _ rfl)
  have g1 : (zsH3 s.heap i).get? s.heap.objs.size = some _ := Heap.get?_push_of_some _ (Heap.get?_push_of_some _ (Heap.get?_push_size _ rfl))
  show _ ∧ _
  rw [z2, z1] at g3
  rw [z1] at g2
  rw [z2]
  exact ⟨⟨_, g3, rfl⟩, h _ g3 g1 g2 fun c o x => Heap.get?_push_of_some _ (Heap.get?_push_of_some _ (Heap.get?_push_of_some _ x))⟩
theorem star_type {T : String} {pos p : Pos} {e : Expr} {env : Env} {Q : Value → Shared → Prop}
    (he : wpAny (model prog w) A (eval e env) (fun v s' => Hold (∃ L ep a b, v = .ref L ∧ s'.heap.get? L = some (liO #[a, b] ep) ∧ ∀ h', (∀ c o, s'.heap.get? c = some o → h'.get? c = some o) → wpAny (model prog w) A (call (.type T) [a, b]) Q E { s' with heap := h' })) E s)
    (hs : starEach [.Starred e p] env = [(true, eval e env)] := by rfl) :
    wpAny (model prog w) A (callWith pos (.type T) [] (backTo pos (starEach [.Starred e p] env)) []) Q E s := by
  rw [hs]
  refine ks_call (P := fun _ => True) rfl (fun _ _ => ⟨.machine, .inr (.inl rfl), .now⟩) (ks_lone ?_)
  refine wpAny_mono he ?_ (fun _ _ x => x)
  intro v s' hx
  obtain ⟨L, ep, a, b, rfl, hL, h⟩ := Hold.get hx
  have hT' : s'.TypeIs (.ref L) "list" := ⟨_, hL, rfl⟩
  unfold StarOf notIterableAtAll
  refine wpAny_bind (wpAny_specialOf hT' PySem.F.slot_list_iter.lookup (wpAny_pure ⟨rfl, ?_⟩))
  refine wpAny_collect_seq L (.inl rfl) hL rfl rfl (fun h' hk => ⟨trivial, ?_⟩) (by show 2 ≤ sizeLine; decide)
  exact h h' hk
end
section
variable {prog : Program} {w : World} {A : Around} {E : Value → Shared → Prop} {s : Shared} {h₀ : Heap} {L : Addr} {m : Str → Option Value}
theorem pop_first {D : Addr} {x : Value} {rest : List Value} {ep : Nat} {more : List (Addr × Obj)} {tk : Tok} {Q : Value → Shared → Prop} (F : Fr h₀ L s.heap m) (N : News h₀ L s.heap ((D, liO (x :: rest).toArray ep) :: more)) (hne : ∀ z ∈ more, z.1 ≠ D) (hsz : (x :: rest).length ≤ sizeLine)
    (h : ∀ h' ep', Fr h₀ L h' m → News h₀ L h' ((D, liO rest.toArray ep') :: more) → Q x { s with heap := h' }) :
    wpAny (model prog w) A (call (.builtin "list.pop") [.ref D, .int 0 tk]) Q E s := by
  have g := N (D, _) (.head _)
  refine call_meets PySem.F.slot_list_pop ⟨_, g.1, rfl⟩ PySem.F.entry_list_pop (PySem.F.args_list_pop_2 _ _) (PySem.MeetsSeq.list_pop_at D (x :: rest).toArray ep 0 tk 0 x (by rfl) (by show seqIndex? 0 (rest.length + 1) = some 0; simp [seqIndex?]) (by rfl) (by simpa using hsz)) ⟨g.1, ?_⟩
  have b := Heap.SameBut.update s.heap D (Obj.mapSeq fun xs => xs.eraseIdxIfInBounds 0)
  have e := Heap.get?_update_self (Obj.mapSeq fun xs => xs.eraseIdxIfInBounds 0) g.1 rfl
  generalize s.heap.update D (Obj.mapSeq fun xs => xs.eraseIdxIfInBounds 0) = h' at b e
  have e2 : h'.get? D = some (liO rest.toArray (ep + 1)) := by
    rw [e]
    simp [Obj.mapSeq]
  refine h h' (ep + 1) ?_ fun q hq => ?_
  · exact ⟨F.ns.at' fun o e' => b.extBut _ o (Ne.symm g.2.1) e', fun c o e' => b.extBut _ o (fun q => by rw [q, g.2.2] at e'; cases e') (F.keep c o e'), F.above⟩
  · rcases List.mem_cons.mp hq with rfl | hq
    · exact ⟨e2, g.2⟩
    · exact ⟨b.extBut _ _ (hne q hq) (N q (List.mem_cons_of_mem _ hq)).1, (N q (List.mem_cons_of_mem _ hq)).2⟩
theorem iter_call {D : Addr} {items : Array Value} {ep : Nat} {news : List (Addr × Obj)} {Q : Value → Shared → Prop} (F : Fr h₀ L s.heap m) (N : News h₀ L s.heap news) (hD : s.heap.get? D = some (liO items ep))
    (h : ∀ I h', I = s.heap.objs.size → Fr h₀ L h' m → News h₀ L h' ((I, { cls := .type "list_iterator", data := .fields #[.ref D, .int 0 0] }) :: news) → Q (.ref I) { s with heap := h' }) :
    wpAny (model prog w) A (call (.builtin "iter") [.ref D]) Q E s := by
  refine call_function_entry (by decide +kernel) (by decide +kernel) kdk_entry_iter (kdk_args_iter _) ?_
  unfold Builtin.«iter»
  refine wpAny_bind (m := PySem.someArgs "iter" 1 2 _) (wpAny_of_eq (a := [Value.ref D]) (by first | rfl | kernel_rfl!) ?_)
  show wpAny _ _ (pyIter (.ref D) >>= _) _ _ _
  refine wpAny_bind (wpAny_pyIter_list ⟨_, hD, rfl, _, rfl⟩ ?_)
  exact wpAny_pure ⟨_, rfl, h _ _ rfl (F.push _) (News.push F N _ rfl)⟩
end
end
section
set_option Elab.async false
set_option maxRecDepth 100000
open PySem PySem.W PyProof.Rows
section
open PySem.StrLaws Builtin.Str
theorem occ_stay (s sub : Str) (hi : Nat) : ∀ (l : List Nat) (st : Array Nat × Nat), ¬ st.fst.size < 1 → (forIn l st (occBody s sub hi 1)).run.fst = st.fst
  | [], st, h => rfl
  | a :: l, st, h => by
    rw [List.forIn_cons]
    unfold occBody
    rw [if_neg (fun q => h q.1.1.1)]
    exact occ_stay s sub hi l _ h
theorem occ_first (s sub : Str) (hi : Nat) : ∀ (l : List Nat) (free : Nat), (∀ i ∈ l, free ≤ i) →
    (forIn l ((#[] : Array Nat), free) (occBody s sub hi 1)).run.fst = match l.find? (fun i => decide (i + sub.length ≤ hi ∧ subAt s sub i = true)) with | some i => #[i] | none => #[]
  | [], free, _ => rfl
  | a :: l, free, hf => by
    rw [List.forIn_cons, List.find?_cons]
    unfold occBody
    have ha : free ≤ a := hf a (List.mem_cons_self ..)
    by_cases hc : a + sub.length ≤ hi ∧ subAt s sub a = true
    · have c1 : (((#[] : Array Nat), free).fst.size < 1 ∧ ((#[] : Array Nat), free).snd ≤ a) ∧ a + sub.length ≤ hi := ⟨⟨by simp, ha⟩, hc.1⟩
      rw [if_pos ⟨c1, hc.2⟩, decide_eq_true hc]
      exact occ_stay s sub hi l _ (by simp)
    · have c2 : ¬ (((((#[] : Array Nat), free).fst.size < 1 ∧ ((#[] : Array Nat), free).snd ≤ a) ∧ a + sub.length ≤ hi) ∧ subAt s sub a = true) := fun h => hc ⟨h.1.2, h.2⟩
      rw [if_neg c2, decide_eq_false hc]
      exact occ_first s sub hi l free (fun i hi' => hf i (List.mem_cons_of_mem _ hi'))
theorem find_first {x : Str} {c : Nat} (h : c ∈ x.cps.toList) : ∃ i : Nat, Txt.find x ⟨#[c]⟩ = (i : Int) ∧ x.cps.toList[i]? = some c ∧ ∀ j < i, x.cps.toList[j]? ≠ some c := by
  have e := occ_eq x ⟨#[c]⟩ 0 x.length 1
  rw [occ_first x ⟨#[c]⟩ x.length _ 0 (fun _ _ => Nat.zero_le _)] at e
  cases hf : (List.range' 0 (x.length + 1 - 0)).find? (fun i => decide (i + (⟨#[c]⟩ : Str).length ≤ x.length ∧ subAt x ⟨#[c]⟩ i = true)) with
  | none =>
    obtain ⟨i, hi⟩ := List.mem_iff_getElem?.mp h
    have h1 := (subAt_one x c i).mpr hi
    have := List.find?_eq_none.mp hf i (by simp [List.mem_range']; lia)
    exact absurd h1 (by simpa using this)
  | some i =>
    rw [hf] at e
    have h2 := List.find?_range'_eq_some.mp hf
    refine ⟨i, by unfold Txt.find; rw [e], (subAt_one x c i).mp (by simpa using h2.1), fun j hj q => ?_⟩
    have h3 := h2.2.2 j (Nat.zero_le _) hj
    have h4 := (subAt_one x c j).mpr q
    rw [decide_eq_true h4] at h3
    cases h3
theorem contains_one (x : Str) (c : Nat) : Txt.contains x ⟨#[c]⟩ = decide (c ∈ x.cps.toList) := found_one x c
end
theorem findI_spec {ps : List (Str × Str)} {c i : Nat} : ∀ {j : Nat}, findI ps c j = some i → hitAt ps c i = true ∧ ∀ i', i < i' → i' ≤ j → hitAt ps c i' = false
  | 0, h => by cases h
  | j + 1, h => by
    unfold findI at h
    split at h
    · cases h; exact ⟨by assumption, fun i' a b => by lia⟩
    · rename_i hn
      obtain ⟨a, b⟩ := findI_spec h
      refine ⟨a, fun i' q r => ?_⟩
      by_cases e : i' = j + 1
      · rw [e]; simpa using hn
      · exact b i' q (by lia)
theorem findI_none {ps : List (Str × Str)} {c : Nat} : ∀ {j : Nat}, findI ps c j = none → ∀ i', 0 < i' → i' ≤ j → hitAt ps c i' = false
  | 0, _, i', a, b => by lia
  | j + 1, h, i', a, b => by
    unfold findI at h
    split at h
    · cases h
    · rename_i hn
      by_cases e : i' = j + 1
      · rw [e]; simpa using hn
      · exact findI_none h i' a (by lia)
theorem seek_none {ps : List (Str × Str)} : ∀ {l : List Nat}, seek ps l = none → ∀ c ∈ l, ∀ i', 0 < i' → i' < ps.length → hitAt ps c i' = false
  | [], _, c, hc, _, _, _ => by cases hc
  | d :: r, h, c, hc, i', a, b => by
    unfold seek at h
    split at h
    · cases h
    · rename_i hn
      rcases List.mem_cons.mp hc with rfl | hc
      · exact findI_none hn i' a (by lia)
      · exact seek_none h c hc i' a b
theorem seek_spec {ps : List (Str × Str)} {i : Nat} : ∀ {l : List Nat}, seek ps l = some i → ∃ (f c : Nat), l[f]? = some c ∧ hitAt ps c i = true ∧ (∀ (f' : Nat), f' < f → ∀ c' : Nat, l[f']? = some c' → ∀ i', 0 < i' → i' < ps.length → hitAt ps c' i' = false) ∧ ∀ i', i < i' → i' < ps.length → hitAt ps c i' = false
  | [], h => by cases h
  | d :: r, h => by
    unfold seek at h
    split at h
    · rename_i k hk
      cases h
      obtain ⟨a, b⟩ := findI_spec hk
      exact ⟨0, d, rfl, a, fun f' hf => by lia, fun i' q s => b i' q (by lia)⟩
    · rename_i hn
      obtain ⟨f, c, e, a, b, g⟩ := seek_spec h
      refine ⟨f + 1, c, e, a, fun f' hf c' e' i' p q => ?_, g⟩
      cases f' with
      | zero => cases e'; exact findI_none hn i' p (by lia)
      | succ f' => exact b f' (by (with_reducible exact nnQ (by assumption))) c' e' i' p q
theorem lex_tri {p q : Int × Int} (a : lexLt p q = false) (b : lexLt q p = false) : p = q := by
  obtain ⟨p1, p2⟩ := p
  obtain ⟨q1, q2⟩ := q
  unfold lexLt at a b
  dsimp only at a b
  by_cases e : p1 = q1
  · subst e
    rw [if_pos rfl] at a b
    have a := of_decide_eq_false a
    have b := of_decide_eq_false b
    rw [show p2 = q2 by lia]
  · rw [if_neg e] at a
    rw [if_neg (Ne.symm e)] at b
    have a := of_decide_eq_false a
    have b := of_decide_eq_false b
    lia
theorem lex_iff {p q : Int × Int} : lexLt p q = true ↔ p.1 < q.1 ∨ (p.1 = q.1 ∧ p.2 < q.2) := by
  unfold lexLt
  split
  · rename_i e; rw [decide_eq_true_eq]; lia
  · rename_i e; rw [decide_eq_true_eq]; lia
theorem lex_step {p q r : Int × Int} (a : lexLt q p = true) (b : lexLt r p = false) : lexLt r q = false := by
  rw [Bool.eq_false_iff, Ne, lex_iff] at b ⊢
  rw [lex_iff] at a
  lia
theorem leastP_le (rk : List (Int × Int)) : ∀ k j, j ≤ k → lexLt (rk.getD j (0, 0)) (leastP rk k) = false
  | 0, j, h => by
    rw [show j = 0 by lia, leastP]; simp [lexLt]
  | k + 1, j, h => by
    rw [leastP]
    split
    · rename_i q
      by_cases e : j = k + 1
      · rw [e]; simp [lexLt]
      · exact lex_step q (leastP_le rk k j (by lia))
    · rename_i q
      by_cases e : j = k + 1
      · rw [e]; simpa using q
      · exact leastP_le rk k j (by lia)
theorem leastP_is {rk : List (Int × Int)} {p : Int × Int} (hm : p ∈ rk) (h : ∀ q ∈ rk, lexLt q p = false) : leastP rk (rk.length - 1) = p := by
  have hl := List.length_pos_of_mem hm
  have h1 := h _ (leastP_mem rk (rk.length - 1) (by (with_reducible exact nnZ (by assumption))))
  obtain ⟨j, hj, e⟩ := List.getElem_of_mem hm
  have h2 := leastP_le rk (rk.length - 1) j (by lia)
  rw [List.getD_eq_getElem?_getD, List.getElem?_eq_getElem hj] at h2
  rw [Option.getD_some, e] at h2
  exact lex_tri h1 h2
theorem item_form (z : Str) (k : Int) : ∃ c, Txt.item z k = ⟨#[c]⟩ := ⟨_, rfl⟩
theorem mark1_form (ps : List (Str × Str)) (b : Nat) {j : Nat} (h : b + 1 + j < ps.length) : ∃ c, mark1 ps b j = ⟨#[c]⟩ := by
  unfold mark1; rw [List.getElem?_eq_getElem h]; exact item_form ..
theorem mark2_form (ps : List (Str × Str)) (b : Nat) {j : Nat} (h : b + j < ps.length) : ∃ c, mark2 ps b j = ⟨#[c]⟩ := by
  unfold mark2; rw [List.getElem?_eq_getElem h]; exact item_form ..
theorem hit_iff {ps : List (Str × Str)} {b last j c : Nat} (hl : last < ps.length) (hj : j < last - b) (hw : ∀ p ∈ ps, Txt.isspace (Txt.item p.1 0) = true) :
    hitAt ((ps.drop b).take (last + 1 - b)) c (j + 1) = true ↔ mark1 ps b j = ⟨#[c]⟩ ∨ mark2 ps b j = ⟨#[c]⟩ := by
  have l1 : b + 1 + j < ps.length := by lia
  have l0 : b + j < ps.length := by lia
  have e1 : ((ps.drop b).take (last + 1 - b))[j + 1]? = some ps[b + 1 + j] := by
    rw [List.getElem?_take, if_pos (by lia), List.getElem?_drop, show b + (j + 1) = b + 1 + j by lia]
    exact List.getElem?_eq_getElem l1
  have e0 : ((ps.drop b).take (last + 1 - b))[j + 1 - 1]? = some ps[b + j] := by
    rw [List.getElem?_take, if_pos (by lia), List.getElem?_drop, Nat.add_sub_cancel]
    exact List.getElem?_eq_getElem l0
  unfold hitAt mark1 mark2
  rw [e1, e0, List.getElem?_eq_getElem l1, List.getElem?_eq_getElem l0]
  simp only [Bool.or_eq_true, Bool.and_eq_true, beq_iff_eq]
  constructor
  · rintro (⟨-, h⟩ | h)
    · exact .inl h
    · exact .inr h
  · rintro (h | h)
    · exact .inl ⟨by rw [← h]; exact hw _ (List.getElem_mem l1), h⟩
    · exact .inr h
theorem mem_rank {ps : List (Str × Str)} {z : Str} {b last : Nat} {p : Int × Int} : p ∈ rankOf ps z b last ↔ ∃ j, j < last - b ∧ ∃ mk, (mk = mark1 ps b j ∨ mk = mark2 ps b j) ∧ Txt.contains z mk = true ∧ p = rankF z b j mk := by
  unfold rankOf groups
  simp only [List.mem_flatMap, List.mem_range, List.mem_map, List.mem_filter, List.mem_cons, List.not_mem_nil, or_false]
  constructor
  · rintro ⟨j, hj, mk, ⟨h1, h2⟩, rfl⟩; exact ⟨j, hj, mk, h1, h2, rfl⟩
  · rintro ⟨j, hj, mk, h1, h2, rfl⟩; exact ⟨j, hj, mk, ⟨h1, h2⟩, rfl⟩
theorem mark_sign {ps : List (Str × Str)} {b last j : Nat} {mk : Str} (hl : last < ps.length) (hj : j < last - b) (h : mk = mark1 ps b j ∨ mk = mark2 ps b j) : ∃ c, mk = ⟨#[c]⟩ := by
  rcases h with rfl | rfl
  · exact mark1_form ps b (by lia)
  · exact mark2_form ps b (by lia)
theorem seek_rank_none {ps : List (Str × Str)} {z : Str} {b last : Nat} (hl : last < ps.length) (hw : ∀ p ∈ ps, Txt.isspace (Txt.item p.1 0) = true) (h : seek ((ps.drop b).take (last + 1 - b)) (sg z) = none) : rankOf ps z b last = [] := by
  refine Classical.byContradiction fun hne => ?_
  obtain ⟨p, hp⟩ := List.exists_mem_of_ne_nil _ hne
  obtain ⟨j, hj, mk, hmk, hc, -⟩ := mem_rank.mp hp
  obtain ⟨c, rfl⟩ := mark_sign hl hj hmk
  rw [contains_one, decide_eq_true_eq] at hc
  have h1 := seek_none h c hc (j + 1) (by lia) (by rw [List.length_take, List.length_drop]; lia)
  rw [(hit_iff hl hj hw).mpr (hmk.imp Eq.symm Eq.symm)] at h1
  cases h1
theorem seek_rank_some {ps : List (Str × Str)} {z : Str} {b last i : Nat} (hl : last < ps.length) (hw : ∀ p ∈ ps, Txt.isspace (Txt.item p.1 0) = true) (h : seek ((ps.drop b).take (last + 1 - b)) (sg z) = some i) : rankOf ps z b last ≠ [] ∧ bestOf ps z b last = b + i := by
  have hlen : ((ps.drop b).take (last + 1 - b)).length = last + 1 - b := by rw [List.length_take, List.length_drop]; lia
  obtain ⟨hi0, hi1⟩ := seek_le h
  rw [hlen] at hi1
  obtain ⟨f, c, hf, hit, hmin, hmax⟩ := seek_spec h
  rw [hlen] at hmin hmax
  obtain ⟨j, rfl⟩ : ∃ j, i = j + 1 := ⟨i - 1, by lia⟩
  have hj : j < last - b := by lia
  have hmk := (hit_iff hl hj hw).mp hit
  have hcz : c ∈ sg z := List.mem_of_getElem? hf
  obtain ⟨f0, e0, g0, m0⟩ := find_first hcz
  have hff : f0 = f := by
    rcases Nat.lt_trichotomy f0 f with q | q | q
    · have := hmin f0 q c g0 (j + 1) hi0 hi1
      rw [hit] at this; cases this
    · exact q
    · exact absurd hf (m0 f q)
  subst hff
  have hmem : ((f0 : Int), -((b + 1 + j : Nat) : Int)) ∈ rankOf ps z b last := mem_rank.mpr ⟨j, hj, ⟨#[c]⟩, hmk.imp Eq.symm Eq.symm, by rw [contains_one, decide_eq_true_eq]; exact hcz, by unfold rankF; rw [e0]⟩
  have hne : rankOf ps z b last ≠ [] := List.ne_nil_of_mem hmem
  refine ⟨hne, ?_⟩
  have hL := leastP_is hmem (fun q hq => by
    obtain ⟨j', hj', mk', hmk', hc', rfl⟩ := mem_rank.mp hq
    obtain ⟨c', rfl⟩ := mark_sign hl hj' hmk'
    rw [contains_one, decide_eq_true_eq] at hc'
    obtain ⟨f', e', g', m'⟩ := find_first hc'
    have hit' := (hit_iff (c := c') hl hj' hw).mpr (hmk'.imp Eq.symm Eq.symm)
    unfold rankF lexLt
    rw [e']
    dsimp only
    split
    · rename_i q
      have q' : f' = f0 := by lia
      subst q'
      have : c' = c := by
        have g'' : (sg z)[f']? = some c' := g'
        rw [hf] at g''; exact (Option.some.inj g'').symm
      subst this
      by_cases hlt : j + 1 < j' + 1
      · have := hmax (j' + 1) hlt (by lia)
        rw [hit'] at this; cases this
      · exact decide_eq_false (by lia)
    · rename_i q
      by_cases hlt : f' < f0
      · have := hmin f' hlt c' g' (j' + 1) (by lia) (by lia)
        rw [hit'] at this; cases this
      · exact decide_eq_false (by lia))
  unfold bestOf
  rw [if_neg hne, hL]
  show (-(-((b + 1 + j : Nat) : Int))).toNat = b + (j + 1)
  lia
end
section
set_option Elab.async false
set_option maxRecDepth 100000
open PySem PySem.W PyProof.Rows
noncomputable def polE : List Nat → Nat
  | [] => 0
  | e :: r => mXn (8 * (r.length + 1)) (polyN 32 e) ^^^ polE r
theorem mXn_zero (n : Nat) : mXn n 0 = 0 := (mXn_lin n).zero
theorem polE_zeros (l : List Nat) (h : ∀ e ∈ l, e = 0) : polE l = 0 := by
  induction l with
  | nil => rfl
  | cons e r ih =>
    rw [polE, h e List.mem_cons_self, ih fun x hx => h x (List.mem_cons_of_mem _ hx), (polyN_lin 32).zero, mXn_zero]; rfl
theorem polE_append (a b : List Nat) : polE (a ++ b) = mXn (8 * b.length) (polE a) ^^^ polE b := by
  induction a with
  | nil => simp [polE, mXn_zero]
  | cons e r ih =>
    rw [List.cons_append, polE, ih, polE, mXn_lin, Nat.xor_assoc, ← mXn_add, List.length_append]
    congr 2
    lia
theorem reg_pol (es : List Nat) (he : ∀ e ∈ es, e < 2 ^ 32) : ∀ r, r < 2 ^ 32 → polyN 32 (es.foldl (fun r c => crcN 8 (r ^^^ c)) r) = mXn (8 * es.length) (polyN 32 r) ^^^ polE es := by
  induction es with
  | nil => intro r _; simp [polE, mXn]
  | cons e es ih =>
    intro r hr
    have h1 : r ^^^ e < 2 ^ 32 := lt_of_xor hr (he e List.mem_cons_self)
    rw [List.foldl_cons, ih (fun x hx => he x (List.mem_cons_of_mem _ hx)) _ (crcN_lt h1 8), rev_steps h1, ← mXn_add, polyN_lin, mXn_lin, polE, Nat.xor_assoc, List.length_cons]
    rfl
theorem reg_xor : ∀ (a b : List Nat) (r s : Nat), a.length = b.length → a.foldl (fun r c => crcN 8 (r ^^^ c)) r ^^^ b.foldl (fun r c => crcN 8 (r ^^^ c)) s = (List.zipWith (· ^^^ ·) a b).foldl (fun r c => crcN 8 (r ^^^ c)) (r ^^^ s)
  | [], [], _, _, _ => rfl
  | x :: a, y :: b, r, s, h => by
    rw [List.foldl_cons, List.foldl_cons, reg_xor a b _ _ (by simpa using h), List.zipWith_cons_cons, List.foldl_cons, ← crcN_lin]
    congr 2
    simp only [Nat.xor_assoc]
    congr 1
    rw [← Nat.xor_assoc, Nat.xor_comm x, Nat.xor_assoc]
theorem crc_diff (a b : List Nat) (h : a.length = b.length) (ha : ∀ c ∈ a, c < 2 ^ 32) (hb : ∀ c ∈ b, c < 2 ^ 32) : polyN 32 (crcS a ^^^ crcS b) = polE (List.zipWith (· ^^^ ·) a b) := by
  have e : crcS a ^^^ crcS b = crcR a ^^^ crcR b := by
    unfold crcS
    rw [Nat.xor_assoc, Nat.xor_comm 4294967295, Nat.xor_assoc, Nat.xor_self, Nat.xor_zero]
  rw [e]
  unfold crcR
  rw [reg_xor a b _ _ h, Nat.xor_self, reg_pol _ ?_ 0 (by decide), (polyN_lin 32).zero, mXn_zero, Nat.zero_xor]
  intro c hc
  obtain ⟨i, hi⟩ := List.getElem?_of_mem hc
  rw [List.getElem?_zipWith] at hi
  split at hi
  · rename_i x y hx hy
    cases hi
    exact lt_of_xor (ha _ (List.mem_of_getElem? hx)) (hb _ (List.mem_of_getElem? hy))
  · cases hi

noncomputable def pgTx (fs : Nat → Bool) : Nat → List (Str × Str) → List Nat
  | _, [] => []
  | k, p :: r => ((if fs k then 10 :: (sg p.1).tail else sg p.1) ++ sg p.2) ++ pgTx fs (k + 1) r
noncomputable def foldQ (fs : Nat → Bool) : Nat → List (Str × Str) → List Nat
  | _, [] => []
  | k, p :: r => (if fs k then [sumLen (p :: r)] else []) ++ foldQ fs (k + 1) r
theorem pgTx_append (fs : Nat → Bool) : ∀ (a b : List (Str × Str)) (k : Nat), pgTx fs k (a ++ b) = pgTx fs k a ++ pgTx fs (k + a.length) b
  | [], b, k => by simp [pgTx]
  | p :: a, b, k => by simp only [List.cons_append, pgTx, pgTx_append fs a b (k + 1), List.append_assoc, List.length_cons]; rw [show k + 1 + a.length = k + (a.length + 1) by lia]
theorem zip_self_zero (l : List Nat) : ∀ e ∈ List.zipWith (· ^^^ ·) l l, e = 0 := by
  intro e he
  obtain ⟨i, hi⟩ := List.getElem?_of_mem he
  rw [List.getElem?_zipWith] at hi
  cases h : l[i]? with
  | none => rw [h] at hi; cases hi
  | some x => rw [h] at hi; cases hi; simp
theorem fold_err (D0 : Nat) (fs : Nat → Bool) : ∀ (ws : List (Str × Str)) (k : Nat), (∀ p ∈ ws, ∃ t, sg p.1 = D0 :: t) →
    (pgTx fs k ws).length = (partsTx ws).length ∧ polE (List.zipWith (· ^^^ ·) (pgTx fs k ws) (partsTx ws)) = xorL ((foldQ fs k ws).map fun q => mXn (8 * q) (polyN 32 (D0 ^^^ 10)))
  | [], k, _ => ⟨rfl, rfl⟩
  | p :: r, k, h => by
    obtain ⟨ih1, ih2⟩ := fold_err D0 fs r (k + 1) fun q hq => h q (List.mem_cons_of_mem _ hq)
    obtain ⟨t, ht⟩ := h p List.mem_cons_self
    have e1 : partsTx (p :: r) = (sg p.1 ++ sg p.2) ++ partsTx r := rfl
    have hl : sumLen (p :: r) = t.length + 1 + (sg p.2).length + (partsTx r).length := by
      have := partsTx_len (p :: r)
      rw [e1, ht] at this
      simp only [List.length_append, List.length_cons] at this
      lia
    rw [e1, pgTx, foldQ]
    by_cases hf : fs k
    · rw [if_pos hf, if_pos hf, ht]
      refine ⟨by simp [ih1], ?_⟩
      simp only [List.tail_cons]
      rw [List.zipWith_append (by simp), polE_append, ih2]
      simp only [List.cons_append, List.nil_append, List.zipWith_cons_cons, List.map_cons, xorL, polE]
      rw [polE_zeros _ (zip_self_zero _), Nat.xor_zero, ← mXn_add, Nat.xor_comm 10]
      congr 2
      simp only [List.length_zipWith, List.length_append, ih1, Nat.min_self]
      lia
    · rw [if_neg hf, if_neg hf]
      refine ⟨by simp [ih1], ?_⟩
      rw [List.zipWith_append rfl, polE_append, ih2, polE_zeros _ (zip_self_zero _), mXn_zero, Nat.zero_xor]
      rfl
theorem fold_crc (D0 : Nat) (fs : Nat → Bool) (ws : List (Str × Str)) (h : ∀ p ∈ ws, ∃ t, sg p.1 = D0 :: t) (hs : ∀ c ∈ partsTx ws, c < 256) :
    polyN 32 (crcS (pgTx fs 0 ws) ^^^ crcS (partsTx ws)) = xorL ((foldQ fs 0 ws).map fun q => mXn (8 * q) (polyN 32 (D0 ^^^ 10))) := by
  have key : ∀ (ws : List (Str × Str)) (k : Nat), (∀ c ∈ partsTx ws, c < 256) → ∀ c ∈ pgTx fs k ws, c < 2 ^ 32 := by
    intro ws
    induction ws with
    | nil => intro k _ c hc; cases hc
    | cons p r ih =>
      intro k hs c hc
      have e1 : partsTx (p :: r) = (sg p.1 ++ sg p.2) ++ partsTx r := rfl
      rw [e1] at hs
      rw [pgTx] at hc
      rcases List.mem_append.mp hc with hc | hc
      · have h2 : c = 10 ∨ c ∈ sg p.1 ++ sg p.2 := by
          split at hc
          · rcases List.mem_append.mp hc with hc | hc
            · rcases List.mem_cons.mp hc with hc | hc
              · exact .inl hc
              · exact .inr (List.mem_append_left _ (List.mem_of_mem_tail hc))
            · exact .inr (List.mem_append_right _ hc)
          · exact .inr hc
        rcases h2 with rfl | h2
        · decide
        · exact Nat.lt_trans (hs c (List.mem_append_left _ h2)) (by decide)
      · exact ih (k + 1) (fun c hc => hs c (List.mem_append_right _ hc)) c hc
  obtain ⟨h1, h2⟩ := fold_err D0 fs ws 0 h
  rw [crc_diff _ _ h1 (key ws 0 hs) (fun c hc => Nat.lt_trans (hs c hc) (by decide)), h2]
end
section
set_option Elab.async false
set_option maxRecDepth 100000
open PySem PySem.W PyProof.Rows
noncomputable def readTx : List Str → List Nat
  | [] => []
  | r :: rs => sg r ++ rs.flatMap fun z => 10 :: (sg z).tail
theorem readTx_snoc (rs : List Str) (z : Str) : readTx (rs ++ [z]) = readTx rs ++ (if rs = [] then sg z else 10 :: (sg z).tail) := by
  cases rs with
  | nil => simp [readTx]
  | cons r rs => simp [readTx, List.flatMap_append]
theorem pgTx_congr {f g : Nat → Bool} : ∀ (ws : List (Str × Str)) (k : Nat), (∀ j, k ≤ j → j < k + ws.length → f j = g j) → pgTx f k ws = pgTx g k ws
  | [], _, _ => rfl
  | p :: r, k, h => by
    rw [pgTx, pgTx, h k (Nat.le_refl _) (by simp), pgTx_congr r (k + 1) (fun j a b => h j (by (with_reducible exact nnY (by assumption))) (by simp only [List.length_cons]; lia))]
theorem pgTx_none {f : Nat → Bool} : ∀ (ws : List (Str × Str)) (k : Nat), (∀ j, k ≤ j → j < k + ws.length → f j = false) → pgTx f k ws = partsTx ws
  | [], _, _ => rfl
  | p :: r, k, h => by
    rw [pgTx, h k (Nat.le_refl _) (by simp), pgTx_none r (k + 1) (fun j a b => h j (by (with_reducible exact nnY (by assumption))) (by simp only [List.length_cons]; lia))]
    simp [partsTx]
theorem partsTx_append (a b : List (Str × Str)) : partsTx (a ++ b) = partsTx a ++ partsTx b := List.flatMap_append
theorem pgTx_row {f : Nat → Bool} {ws : List (Str × Str)} {k : Nat} (hne : ws ≠ []) (hp : ∀ p ∈ ws, 0 < p.1.length) (h : ∀ j, k < j → j < k + ws.length → f j = false) : pgTx f k ws = if f k then 10 :: (partsTx ws).tail else partsTx ws := by
  cases ws with
  | nil => exact absurd rfl hne
  | cons p r =>
    rw [pgTx, pgTx_none r (k + 1) (fun j a b => h j (by lia) (by simp only [List.length_cons]; lia))]
    have hl := hp p List.mem_cons_self
    rw [← sg_len] at hl
    split
    · show _ = 10 :: (sg p.1 ++ sg p.2 ++ partsTx r).tail
      cases hs : sg p.1 with
      | nil => rw [hs] at hl; exact absurd hl (Nat.lt_irrefl 0)
      | cons c t => simp
    · show _ = sg p.1 ++ sg p.2 ++ partsTx r
      simp
theorem drop_take_take {ps : List (Str × Str)} {b k i : Nat} (hb : b ≤ k) (hk : k ≤ i) : ((ps.take i).drop b).take (k - b) = (ps.take k).drop b := by
  rw [List.drop_take, List.drop_take, List.take_take, Nat.min_eq_left (by lia)]
theorem drop_take_drop {ps : List (Str × Str)} {b k i : Nat} (hb : b ≤ k) : ((ps.take i).drop b).drop (k - b) = (ps.take i).drop k := by
  rw [List.drop_drop, show b + (k - b) = k by lia]
theorem chunk_fold {z : Str} {ps : List (Str × Str)} {W n b i : Nat} {rows : List Str} (hb : b ≤ i) (hi : i < ps.length) (hw : ∀ p ∈ ps, Txt.isspace (Txt.item p.1 0) = true) (hn : 0 < n → b = 0) :
    chunkS (sg z) W ((ps.take i).drop b, n, rows) ps[i] = if W < n + sumLen ((ps.drop b).take (i + 1 - b)) ∧ (rankOf ps z b i ≠ [] ∨ 0 < n) then ((ps.take (i + 1)).drop (bestOf ps z b i), 0, rows ++ [tx (partsTx ((ps.take (bestOf ps z b i)).drop b))]) else ((ps.take (i + 1)).drop b, n, rows) := by
  have e0 : (ps.take i).drop b ++ [ps[i]] = (ps.take (i + 1)).drop b := by
    rw [List.take_add_one, List.getElem?_eq_getElem hi, List.drop_append_of_le_length (by rw [List.length_take]; lia)]
    rfl
  have e1 : (ps.take (i + 1)).drop b = (ps.drop b).take (i + 1 - b) := List.drop_take ..
  by_cases h : W < n + sumLen ((ps.take (i + 1)).drop b)
  · have h' : W < n + sumLen ((ps.take i).drop b ++ [ps[i]]) := by rw [e0]; exact h
    cases hs : seek ((ps.take (i + 1)).drop b) (sg z) with
    | some k =>
      have hs' : seek ((ps.take i).drop b ++ [ps[i]]) (sg z) = some k := by rw [e0]; exact hs
      obtain ⟨hne, hbest⟩ := seek_rank_some (z := z) hi hw (by rw [← e1]; exact hs)
      have hk := seek_le hs
      rw [List.length_drop, List.length_take] at hk
      rw [if_pos ⟨by rw [← e1]; exact h, .inl hne⟩, hbest]
      rw [chunkS_found (s := ((ps.take i).drop b, n, rows)) h' hs']
      dsimp only
      rw [e0]
      have d1 := drop_take_take (ps := ps) (b := b) (k := b + k) (i := i + 1) (by lia) (by lia)
      have d2 := drop_take_drop (ps := ps) (b := b) (k := b + k) (i := i + 1) (by lia)
      rw [Nat.add_sub_cancel_left] at d1 d2
      rw [d1, d2]
    | none =>
      have hs' : seek ((ps.take i).drop b ++ [ps[i]]) (sg z) = none := by rw [e0]; exact hs
      have hr := seek_rank_none (z := z) hi hw (by rw [← e1]; exact hs)
      by_cases hn0 : 0 < n
      · rw [if_pos ⟨by rw [← e1]; exact h, .inr hn0⟩]
        rw [chunkS_room (s := ((ps.take i).drop b, n, rows)) h' hs' hn0]
        have hbest : bestOf ps z b i = i := by unfold bestOf; rw [if_pos hr]
        rw [hbest]
        have d3 : (ps.take (i + 1)).drop i = [ps[i]] := by
          rw [List.take_add_one, List.getElem?_eq_getElem hi, List.drop_append_of_le_length (by rw [List.length_take]; lia), List.drop_eq_nil_of_le (by rw [List.length_take]; lia)]
          rfl
        rw [d3]
      · rw [if_neg (by rintro ⟨-, q | q⟩; exact q hr; exact hn0 q)]
        rw [chunkS_on (s := ((ps.take i).drop b, n, rows)) h' hs' hn0, e0]
  · have h' : ¬ W < n + sumLen ((ps.take i).drop b ++ [ps[i]]) := by rw [e0]; exact h
    rw [if_neg (by rintro ⟨q, -⟩; rw [← e1] at q; exact h q)]
    rw [chunkS_short (s := ((ps.take i).drop b, n, rows)) h']
    dsimp only
    rw [e0]
noncomputable abbrev PInv (ps : List (Str × Str)) (z : Str) (W room i : Nat) : Prop :=
  ((chunksS (sg z) W room (ps.take i)).1 = (ps.take i).drop (foldsS ps z W room i).1) ∧
  ((chunksS (sg z) W room (ps.take i)).2.1 = (foldsS ps z W room i).2.1) ∧
  (∀ k ∈ (foldsS ps z W room i).2.2, k ≤ (foldsS ps z W room i).1) ∧
  ((foldsS ps z W room i).1 ≤ i) ∧
  (((foldsS ps z W room i).2.2 = [] ∧ (chunksS (sg z) W room (ps.take i)).2.2 = [] ∧ (foldsS ps z W room i).1 = 0) ∨
    ((foldsS ps z W room i).1 ∈ (foldsS ps z W room i).2.2 ∧ (chunksS (sg z) W room (ps.take i)).2.2 ≠ [] ∧ (foldsS ps z W room i).2.1 = 0 ∧ (foldsS ps z W room i).1 < i)) ∧
  (readTx (chunksS (sg z) W room (ps.take i)).2.2 = pgTx (fun k => decide (k ∈ (foldsS ps z W room i).2.2)) 0 (ps.take (foldsS ps z W room i).1)) ∧
  ((chunksS (sg z) W room (ps.take i)).2.2.flatMap sg = partsTx (ps.take (foldsS ps z W room i).1)) ∧
  (∀ r ∈ (chunksS (sg z) W room (ps.take i)).2.2.tail, 0 < r.length)
theorem best_gt {ps : List (Str × Str)} {z : Str} {b i : Nat} (h : rankOf ps z b i ≠ []) : b < bestOf ps z b i ∧ bestOf ps z b i ≤ i := by
  unfold bestOf
  rw [if_neg h]
  obtain ⟨j, hj, e⟩ := rank_mem (leastP_mem (rankOf ps z b i) ((rankOf ps z b i).length - 1) (by have := List.length_pos_iff.mpr h; (with_reducible exact nnZ (by assumption))))
  rw [e]; lia
theorem PInv.start (ps : List (Str × Str)) (z : Str) (W room : Nat) : PInv ps z W room 0 := by
  refine ⟨?_, rfl, ?_, Nat.le_refl _, .inl ⟨rfl, rfl, rfl⟩, rfl, rfl, ?_⟩
  · rfl
  · intro k hk; cases hk
  · intro r hr; cases hr
theorem PInv.step {ps : List (Str × Str)} {z : Str} {W room i : Nat} (J : PInv ps z W room i) (hi : i < ps.length) (hw : ∀ p ∈ ps, Txt.isspace (Txt.item p.1 0) = true) (hpos : ∀ p ∈ ps, 0 < p.1.length) : PInv ps z W room (i + 1) := by
  obtain ⟨j1, j2, j3, j4, j5, j6, j7, j8⟩ := J
  have e := chunksS_take (sg z) W room (List.getElem?_eq_getElem hi)
  have f : foldsS ps z W room (i + 1) = foldStep ps z W (foldsS ps z W room i) i := rfl
  generalize chunksS (sg z) W room (ps.take i) = st at *
  generalize foldsS ps z W room i = ls at *
  obtain ⟨cur, m, rows⟩ := st
  obtain ⟨b, n, fo⟩ := ls
  dsimp only at j1 j2 j3 j4 j5 j6 j7 j8
  subst j1 j2
  rw [chunk_fold j4 hi hw (fun q => by rcases j5 with h | h <;> lia)] at e
  unfold foldStep at f
  dsimp only at f
  by_cases hc : W < m + sumLen ((ps.drop b).take (i + 1 - b)) ∧ (rankOf ps z b i ≠ [] ∨ 0 < m)
  · rw [if_pos hc] at e f
    have hk : b ≤ bestOf ps z b i ∧ bestOf ps z b i ≤ i ∧ (b = bestOf ps z b i → rows = []) := by
      by_cases hr : rankOf ps z b i = []
      · have h0 : 0 < m := hc.2.resolve_left (fun q => q hr)
        have : bestOf ps z b i = i := by unfold bestOf; rw [if_pos hr]
        rw [this]
        refine ⟨j4, Nat.le_refl _, fun _ => ?_⟩
        rcases j5 with h | h
        · exact h.2.1
        · lia
      · have := best_gt hr
        exact ⟨by lia, this.2, fun q => by lia⟩
    generalize bestOf ps z b i = k at *
    obtain ⟨k1, k2, k3⟩ := hk
    have tk : ps.take k = ps.take b ++ (ps.take k).drop b := by
      conv => lhs; rw [← List.take_append_drop b (ps.take k), List.take_take, Nat.min_eq_left k1]
    have hbl : (ps.take b).length = b := by rw [List.length_take]; lia
    have hdl : ((ps.take k).drop b).length = k - b := by rw [List.length_drop, List.length_take]; lia
    have hdp : ∀ p ∈ (ps.take k).drop b, 0 < p.1.length := fun p hp => hpos p (List.mem_of_mem_take (List.mem_of_mem_drop hp))
    have hA : b < k → (ps.take k).drop b ≠ [] := fun q r => by rw [r, List.length_nil] at hdl; lia
    refine ⟨?_, ?_, ?_, ?_, ?_, ?_, ?_, ?_⟩ <;> (try rw [e]) <;> (try rw [f]) <;> (try dsimp only)
    · intro x hx
      rcases List.mem_append.mp hx with h | h
      · have := j3 x h; lia
      · rw [List.mem_singleton.mp h]; exact Nat.le_refl _
    · lia
    · exact .inr ⟨List.mem_append_right _ (.head _), by simp, rfl, by lia⟩
    · rw [readTx_snoc, j6, sg_tx, tk, pgTx_append, hbl, Nat.zero_add]
      congr 1
      · refine pgTx_congr _ _ (fun j _ hj => ?_)
        rw [hbl] at hj
        refine decide_eq_decide.mpr ⟨List.mem_append_left _, fun h => ?_⟩
        rcases List.mem_append.mp h with h | h
        · exact h
        · rw [List.mem_singleton.mp h] at hj; lia
      · rw [← tk]
        rcases Nat.eq_or_lt_of_le k1 with q | q
        · have hr := k3 q
          have : (ps.take k).drop b = [] := List.length_eq_zero_iff.mp (by rw [hdl]; lia)
          rw [if_pos hr, this]; rfl
        · rw [pgTx_row (hA q) hdp (fun j a c => ?_)]
          · rcases j5 with h | h
            · rw [if_pos h.2.1, if_neg]
              rw [h.1]
              simp only [List.nil_append, List.mem_singleton, decide_eq_true_eq]
              lia
            · rw [if_neg h.2.1, if_pos]
              rw [decide_eq_true_eq]
              exact List.mem_append_left _ h.1
          · rw [hdl] at c
            refine decide_eq_false fun r => ?_
            rcases List.mem_append.mp r with r | r
            · have := j3 j r; lia
            · rw [List.mem_singleton.mp r] at c; lia
    · rw [List.flatMap_append, j7, tk, partsTx_append, ← tk]
      congr 1
      simp [sg_tx]
    · intro r hr
      cases rows with
      | nil => cases hr
      | cons r0 rs =>
        rw [List.cons_append, List.tail_cons] at hr
        rcases List.mem_append.mp hr with h | h
        · exact j8 r h
        · have hbk : b < k := Nat.lt_of_le_of_ne k1 (fun q => by cases k3 q)
          rw [List.mem_singleton.mp h, tx_len, partsTx_len]
          obtain ⟨p, hp⟩ := List.exists_mem_of_ne_nil _ (hA hbk)
          have := sumLen_mem hp
          have := hdp p hp
          lia
  · rw [if_neg hc] at e f
    refine ⟨?_, ?_, ?_, ?_, ?_, ?_, ?_, ?_⟩ <;> (try rw [e]) <;> (try rw [f]) <;> (try dsimp only)
    · exact j3
    · lia
    · rcases j5 with h | h
      · exact .inl h
      · exact .inr ⟨h.1, h.2.1, h.2.2.1, by lia⟩
    · exact j6
    · exact j7
    · exact j8
theorem pinv_all (ps : List (Str × Str)) (z : Str) (W room : Nat) (hw : ∀ p ∈ ps, Txt.isspace (Txt.item p.1 0) = true) (hpos : ∀ p ∈ ps, 0 < p.1.length) : ∀ i, i ≤ ps.length → PInv ps z W room i
  | 0, _ => PInv.start ..
  | i + 1, h => (pinv_all ps z W room hw hpos i (by (with_reducible exact nnY (by assumption)))).step (by lia) hw hpos
theorem rows_page {ps : List (Str × Str)} {z : Str} {W room : Nat} (hw : ∀ p ∈ ps, Txt.isspace (Txt.item p.1 0) = true) (hpos : ∀ p ∈ ps, 0 < p.1.length) (hne : ps ≠ []) :
    readTx (rowsS (sg z) W room ps) = pgTx (fun k => decide (k ∈ (foldsS ps z W room ps.length).2.2)) 0 ps ∧ (rowsS (sg z) W room ps).flatMap sg = partsTx ps ∧ ∀ r ∈ (rowsS (sg z) W room ps).tail, 0 < r.length := by
  obtain ⟨j1, j2, j3, j4, j5, j6, j7, j8⟩ := pinv_all ps z W room hw hpos ps.length (Nat.le_refl _)
  rw [List.take_length] at j1 j2 j5 j6 j7 j8
  unfold rowsS
  generalize chunksS (sg z) W room ps = st at *
  generalize foldsS ps z W room ps.length = ls at *
  obtain ⟨cur, m, rows⟩ := st
  obtain ⟨b, n, fo⟩ := ls
  dsimp only at *
  subst j1
  have hl := List.length_pos_iff.mpr hne
  have hb : b < ps.length := by rcases j5 with h | h <;> lia
  have hcne : ps.drop b ≠ [] := fun q => by have := congrArg List.length q; rw [List.length_drop, List.length_nil] at this; lia
  have hdp : ∀ p ∈ ps.drop b, 0 < p.1.length := fun p hp => hpos p (List.mem_of_mem_drop hp)
  have hbl : (ps.take b).length = b := by rw [List.length_take]; lia
  have tk : ps = ps.take b ++ ps.drop b := (List.take_append_drop b ps).symm
  refine ⟨?_, ?_, ?_⟩
  · rw [readTx_snoc, j6, sg_tx]
    conv => rhs; rw [tk]
    rw [pgTx_append, hbl, Nat.zero_add]
    congr 1
    rw [pgTx_row hcne hdp (fun j a c => decide_eq_false fun r => by have := j3 j r; lia)]
    rcases j5 with h | h
    · rw [if_pos h.2.1, if_neg]
      rw [h.1]; simp
    · rw [if_neg h.2.1, if_pos]
      rw [decide_eq_true_eq]; exact h.1
  · rw [List.flatMap_append, j7]
    conv => rhs; rw [tk]
    rw [partsTx_append]
    congr 1
    simp [sg_tx]
  · intro r hr
    cases rows with
    | nil => cases hr
    | cons r0 rs =>
      rw [List.cons_append, List.tail_cons] at hr
      rcases List.mem_append.mp hr with h | h
      · exact j8 r h
      · rw [List.mem_singleton.mp h, tx_len, partsTx_len]
        obtain ⟨p, hp⟩ := List.exists_mem_of_ne_nil _ hcne
        have := sumLen_mem hp
        have := hdp p hp
        lia
end
section
set_option Elab.async false
set_option maxRecDepth 100000
open PySem PySem.W PyProof.Rows
noncomputable def dualL (t : List Nat) (a : Nat) : Nat := xorL ((List.range 32).map fun i => if a / 2 ^ i % 2 = 1 then t.getD i 0 else 0)
theorem dual_lin (t : List Nat) : Lin (dualL t) := lin_many (fun i a => if a / 2 ^ i % 2 = 1 then t.getD i 0 else 0) (fun i => cond_lin i (t.getD i 0)) (List.range 32)
noncomputable def dual32 : List Nat := [2147529755, 768254166, 3338405427, 809175455, 2412978993, 2596929219, 679952857, 2691916153, 79721857, 1536508332, 2302218705, 1618350910, 459758549, 827514929, 1359905714, 1143463749, 159443714, 3073016664, 380845589, 3236701820, 919517098, 1655029858, 2719811428, 2286927498, 318887428, 1788091143, 761691178, 2233028943, 1839034196, 3310059716, 1090196351, 341729443]
noncomputable def dual9 : List Nat := [1221840104, 2608417159, 2884544140, 2066823827, 3029970365, 2109095076, 4203637550, 2602962933, 2443680208, 842239673, 1394364591, 4133647654, 1844594381, 4218190152, 4057844715, 848101981, 663629335, 1684479346, 2788729182, 3892705275, 3689188762, 4061785895, 3883567713, 1696203962, 1327258670, 3368958692, 1219518219, 3570070081, 3003647619, 3774006265, 3392407925, 3392407924]
theorem dual_ex {d : Nat} (hd : d = 32 ∨ d = 9) : ∃ L : Nat → Nat, Lin L ∧ ∀ q, q < 32 → L (mXn (8 * q) (polyN 32 (d ^^^ 10))) = 2 ^ q := by
  rcases hd with rfl | rfl
  · exact ⟨dualL dual32, dual_lin _, by decide +kernel⟩
  · exact ⟨dualL dual9, dual_lin _, by decide +kernel⟩
noncomputable def selC (f : Nat → Bool) : Nat → List Nat → Nat
  | _, [] => 0
  | k, c :: r => (if f k then c else 0) ^^^ selC f (k + 1) r
theorem selC_append (f : Nat → Bool) : ∀ (a b : List Nat) (k : Nat), selC f k (a ++ b) = selC f k a ^^^ selC f (k + a.length) b
  | [], b, k => by simp [selC]
  | c :: a, b, k => by
    rw [List.cons_append, selC, selC, selC_append f a b (k + 1), List.length_cons, Nat.xor_assoc]
    congr 3
    lia
theorem selC_congr {f g : Nat → Bool} : ∀ (a : List Nat) (k : Nat), (∀ j, k ≤ j → j < k + a.length → f j = g j) → selC f k a = selC g k a
  | [], _, _ => rfl
  | c :: a, k, h => by
    rw [selC, selC, h k (Nat.le_refl _) (by simp), selC_congr a (k + 1) fun j h1 h2 => h j (by (with_reducible exact nnY (by assumption))) (by simp only [List.length_cons]; lia)]
theorem ways_get : ∀ n (cs : List Nat), cs.length = n → ∀ m, m < 2 ^ n → (waysOf cs)[m]? = some (selC m.testBit 0 cs)
  | 0, cs, h, m, hm => by
    rw [List.length_eq_zero_iff.mp h]
    have : m = 0 := by simpa using hm
    subst this; rfl
  | n + 1, cs, h, m, hm => by
    rcases List.eq_nil_or_concat cs with rfl | ⟨r, c, rfl⟩
    · cases h
    · rw [List.concat_eq_append] at h ⊢
      rw [List.length_append, List.length_singleton] at h
      have hr : r.length = n := by (with_reducible exact nnW (by assumption))
      have hl := ways_len0 n r hr
      rw [ways_snoc, selC_append, Nat.zero_add, hr]
      have e1 : selC m.testBit n [c] = if m.testBit n then c else 0 := by simp [selC]
      rw [e1]
      by_cases hmn : m < 2 ^ n
      · rw [List.getElem?_append_left (by rw [hl]; exact hmn), ways_get n r hr m hmn, Nat.testBit_lt_two_pow hmn]
        simp
      · obtain ⟨m', rfl⟩ : ∃ m', m = 2 ^ n + m' := ⟨m - 2 ^ n, by lia⟩
        have hm' : m' < 2 ^ n := by rw [Nat.pow_succ] at hm; lia
        rw [List.getElem?_append_right (by rw [hl]; lia), hl, Nat.add_sub_cancel_left, List.getElem?_map, ways_get n r hr m' hm', Nat.testBit_two_pow_add_eq, Nat.testBit_lt_two_pow hm']
        simp only [Bool.not_false, if_true, Option.map_some]
        congr 2
        exact selC_congr _ _ fun j _ hj => (Nat.testBit_two_pow_add_gt (by lia) m').symm
theorem selC_chgs (D : Nat) (f : Nat → Bool) : ∀ (ws : List (Str × Str)) (k : Nat), selC f k (chgsL D ws) = xorL ((foldQ f k ws).map fun q => mXn (8 * q) D)
  | [], _ => rfl
  | p :: r, k => by
    rw [chgsL, selC, foldQ, List.map_append, xorL_append, selC_chgs D f r (k + 1)]
    congr 1
    split <;> simp [xorL]
noncomputable def bitsQ (f : Nat → Bool) : Nat → List (Str × Str) → Nat
  | _, [] => 0
  | k, p :: r => (if f k then 2 ^ sumLen (p :: r) else 0) ^^^ bitsQ f (k + 1) r
theorem bits_eq (f : Nat → Bool) : ∀ (ws : List (Str × Str)) (k : Nat), xorL ((foldQ f k ws).map (2 ^ ·)) = bitsQ f k ws
  | [], _ => rfl
  | p :: r, k => by
    rw [foldQ, List.map_append, xorL_append, bits_eq f r (k + 1), bitsQ]
    congr 1
    split <;> simp [xorL]
theorem bits_lt (f : Nat → Bool) : ∀ (ws : List (Str × Str)) (k : Nat), bitsQ f k ws < 2 ^ (sumLen ws + 1)
  | [], _ => by show 0 < _; exact Nat.two_pow_pos _
  | p :: r, k => by
    have ih := bits_lt f r (k + 1)
    have h1 : sumLen r ≤ sumLen (p :: r) := by simp only [sumLen]; lia
    rw [bitsQ]
    refine lt_of_xor ?_ (Nat.lt_of_lt_of_le ih (Nat.pow_le_pow_right (by decide) (by lia)))
    split
    · exact Nat.pow_lt_pow_right (by decide) (by lia)
    · exact Nat.two_pow_pos _
theorem bits_inj {f g : Nat → Bool} : ∀ (ws : List (Str × Str)) (k : Nat), (∀ p ∈ ws, 0 < p.1.length) → bitsQ f k ws = bitsQ g k ws → ∀ j, k ≤ j → j < k + ws.length → f j = g j
  | [], k, _, _, j, h1, h2 => by simp at h2; lia
  | p :: r, k, hp, e, j, h1, h2 => by
    have hpos := hp p List.mem_cons_self
    have hs : sumLen r + 1 ≤ sumLen (p :: r) := by simp only [sumLen]; lia
    have lt : ∀ h : Nat → Bool, bitsQ h (k + 1) r < 2 ^ sumLen (p :: r) := fun h => Nat.lt_of_lt_of_le (bits_lt h r (k + 1)) (Nat.pow_le_pow_right (by decide) hs)
    have top : ∀ h : Nat → Bool, (bitsQ h k (p :: r)).testBit (sumLen (p :: r)) = h k := fun h => by
      rw [bitsQ, Nat.testBit_xor, Nat.testBit_lt_two_pow (lt h), Bool.xor_false]
      cases h k <;> simp
    have hk : f k = g k := by rw [← top f, ← top g, e]
    by_cases hj : j = k
    · rw [hj]; exact hk
    · refine bits_inj r (k + 1) (fun q hq => hp q (List.mem_cons_of_mem _ hq)) ?_ j (by lia) (by simp only [List.length_cons] at h2; lia)
      rw [bitsQ, bitsQ, hk] at e
      have := congrArg (fun x => (if g k then 2 ^ sumLen (p :: r) else 0) ^^^ x) e
      simpa [← Nat.xor_assoc] using this
theorem foldQ_le (f : Nat → Bool) : ∀ (ws : List (Str × Str)) (k : Nat), ∀ q ∈ foldQ f k ws, q ≤ sumLen ws
  | [], _, q, h => by cases h
  | p :: r, k, q, h => by
    rw [foldQ] at h
    rcases List.mem_append.mp h with h | h
    · split at h
      · rw [List.mem_singleton.mp h]; exact Nat.le_refl _
      · cases h
    · have := foldQ_le f r (k + 1) q h
      simp only [sumLen]; lia
theorem filter_one {p : Nat → Bool} {n F : Nat} (hF : F < n) (h1 : p F = true) (h2 : ∀ k, k < n → p k = true → k = F) : (List.range n).filter p = [F] := by
  have e : List.range n = List.range F ++ (F :: List.range' (F + 1) (n - F - 1)) := by
    rw [List.range_eq_range', List.range_eq_range']
    have a := List.range'_append (s := 0) (m := F) (n := n - F) (step := 1)
    rw [Nat.zero_add, Nat.one_mul, show F + (n - F) = n by lia] at a
    rw [← a]
    congr 1
    rw [show n - F = (n - F - 1) + 1 by (with_reducible exact nnX (by assumption)), List.range'_succ]
    simp
  rw [e, List.filter_append, List.filter_cons_of_pos h1]
  have n1 : (List.range F).filter p = [] := List.filter_eq_nil_iff.mpr fun k hk q => by
    have hk := List.mem_range.mp hk
    have := h2 k (by lia) q
    lia
  have n2 : (List.range' (F + 1) (n - F - 1)).filter p = [] := List.filter_eq_nil_iff.mpr fun k hk q => by
    have hk := List.mem_range'_1.mp hk
    have := h2 k (by lia) q
    lia
  rw [n1, n2]; rfl
theorem foldN_bits : ∀ n (fo : List Nat), fo.length = n → fo.Pairwise (· < ·) → ∀ M, (∀ k ∈ fo, k < M) → foldN fo < 2 ^ M ∧ ∀ j, (foldN fo).testBit j = decide (j ∈ fo)
  | 0, fo, h, _, M, _ => by
    rw [List.length_eq_zero_iff.mp h]
    exact ⟨Nat.two_pow_pos _, fun j => by simp [foldN]⟩
  | n + 1, fo, h, hp, M, hM => by
    rcases List.eq_nil_or_concat fo with rfl | ⟨r, k, rfl⟩
    · cases h
    · rw [List.concat_eq_append] at h hp hM ⊢
      rw [List.length_append, List.length_singleton] at h
      obtain ⟨p1, -, p3⟩ := List.pairwise_append.mp hp
      have hk : ∀ x ∈ r, x < k := fun x hx => p3 x hx k (.head _)
      obtain ⟨b1, b2⟩ := foldN_bits n r (by (with_reducible exact nnW (by assumption))) p1 k hk
      have hkM := hM k (List.mem_append_right _ (.head _))
      have hle : 2 ^ (k + 1) ≤ 2 ^ M := Nat.pow_le_pow_right (by decide) hkM
      rw [Nat.pow_succ] at hle
      rw [foldN_snoc]
      refine ⟨by lia, fun j => ?_⟩
      rw [Nat.add_comm]
      rcases Nat.lt_trichotomy j k with q | q | q
      · rw [Nat.testBit_two_pow_add_gt q, b2 j]
        simp; lia
      · subst q
        rw [Nat.testBit_two_pow_add_eq, Nat.testBit_lt_two_pow b1]
        simp
      · have : 2 ^ (k + 1) ≤ 2 ^ j := Nat.pow_le_pow_right (by decide) q
        rw [Nat.pow_succ] at this
        rw [Nat.testBit_lt_two_pow (by lia)]
        symm
        rw [decide_eq_false_iff_not]
        intro hj
        rcases List.mem_append.mp hj with hj | hj
        · have := hk j hj; lia
        · rw [List.mem_singleton.mp hj] at q; lia
theorem folds_sorted (ps : List (Str × Str)) (z : Str) (W room : Nat) : ∀ i, i ≤ ps.length → (foldsS ps z W room i).2.2.Pairwise (· < ·) ∧ (∀ k ∈ (foldsS ps z W room i).2.2, k ≤ (foldsS ps z W room i).1) ∧ (∀ k ∈ (foldsS ps z W room i).2.2, k < i) ∧ (foldsS ps z W room i).1 ≤ i ∧
    (((foldsS ps z W room i).2.2 = [] ∧ (foldsS ps z W room i).1 = 0) ∨ (foldsS ps z W room i).2.1 = 0)
  | 0, _ => ⟨.nil, (fun k hk => by cases hk), (fun k hk => by cases hk), Nat.le_refl _, .inl ⟨rfl, rfl⟩⟩
  | i + 1, h => by
    obtain ⟨h1, h2, h3, h4, h5⟩ := folds_sorted ps z W room i (by (with_reducible exact nnY (by assumption)))
    rw [foldsS]
    generalize foldsS ps z W room i = st at *
    obtain ⟨b, n, fo⟩ := st
    dsimp only at h1 h2 h3 h4 h5
    unfold foldStep
    dsimp only
    split
    · rename_i hc
      have hk : (∀ x ∈ fo, x < bestOf ps z b i) ∧ bestOf ps z b i ≤ i := by
        by_cases hr : rankOf ps z b i = []
        · have h0 : 0 < n := hc.2.resolve_left (fun q => q hr)
          have hf : fo = [] := by
            rcases h5 with q | q
            · exact q.1
            · lia
          have hb : bestOf ps z b i = i := by unfold bestOf; rw [if_pos hr]
          rw [hb, hf]
          exact ⟨(fun x hx => by cases hx), Nat.le_refl _⟩
        · have := best_gt hr
          exact ⟨fun x hx => Nat.lt_of_le_of_lt (h2 x hx) this.1, this.2⟩
      generalize bestOf ps z b i = k at *
      refine ⟨List.pairwise_append.mpr ⟨h1, List.pairwise_singleton _ _, fun x hx y hy => by rw [List.mem_singleton.mp hy]; exact hk.1 x hx⟩, fun x hx => ?_, fun x hx => ?_, by dsimp only; lia, .inr rfl⟩
      · rcases List.mem_append.mp hx with hx | hx
        · exact Nat.le_of_lt (hk.1 x hx)
        · rw [List.mem_singleton.mp hx]; exact Nat.le_refl _
      · rcases List.mem_append.mp hx with hx | hx
        · have := h3 x hx; lia
        · rw [List.mem_singleton.mp hx]; lia
    · exact ⟨h1, h2, fun k hk => by have := h3 k hk; lia, by dsimp only; lia, h5⟩
theorem law1_end {d : Nat} (hd : d = 32 ∨ d = 9) {ws : List (Str × Str)} (h : ∀ p ∈ ws, ∃ t, sg p.1 = d :: t) (hs : ∀ c ∈ partsTx ws, c < 256) (hp : ∀ p ∈ ws, 0 < p.1.length) (hb : sumLen ws ≤ 30) (z : Str) (W room : Nat) :
    ((List.range (2 ^ ws.length)).filter fun k => (waysOf (chgsL (polyN 32 (d ^^^ 10)) ws)).getD k 0 == polyN 32 (crcS (pgTx (fun k => decide (k ∈ (foldsS ws z W room ws.length).2.2)) 0 ws) ^^^ crcS (partsTx ws))) = [foldN (foldsS ws z W room ws.length).2.2] := by
  obtain ⟨L, hL, hLq⟩ := dual_ex hd
  obtain ⟨s1, -, s3, -, -⟩ := folds_sorted ws z W room ws.length (Nat.le_refl _)
  generalize (foldsS ws z W room ws.length).2.2 = fo at *
  obtain ⟨b1, b2⟩ := foldN_bits _ fo rfl s1 ws.length s3
  have told := fold_crc d (fun k => decide (k ∈ fo)) ws h hs
  have way : ∀ k, k < 2 ^ ws.length → (waysOf (chgsL (polyN 32 (d ^^^ 10)) ws)).getD k 0 = xorL ((foldQ k.testBit 0 ws).map fun q => mXn (8 * q) (polyN 32 (d ^^^ 10))) := fun k hk => by
    rw [List.getD_eq_getElem?_getD, ways_get ws.length _ (chgs_len _ ws) k hk, selC_chgs]; rfl
  have dual : ∀ f : Nat → Bool, L (xorL ((foldQ f 0 ws).map fun q => mXn (8 * q) (polyN 32 (d ^^^ 10)))) = bitsQ f 0 ws := fun f => by
    rw [lin_xorL hL, List.map_map, ← bits_eq]
    congr 1
    refine List.map_congr_left fun q hq => hLq q ?_
    have := foldQ_le f ws 0 q hq
    lia
  have same : xorL ((foldQ (foldN fo).testBit 0 ws).map fun q => mXn (8 * q) (polyN 32 (d ^^^ 10))) = xorL ((foldQ (fun k => decide (k ∈ fo)) 0 ws).map fun q => mXn (8 * q) (polyN 32 (d ^^^ 10))) := by
    rw [show (foldN fo).testBit = fun k => decide (k ∈ fo) from funext b2]
  refine filter_one b1 ?_ fun k hk e => ?_
  · rw [way _ b1, told, same]; exact beq_self_eq_true _
  · rw [way k hk, told] at e
    have e := eq_of_beq e
    have e2 := congrArg L e
    rw [dual, dual] at e2
    have e3 := bits_inj ws 0 hp e2
    refine Nat.eq_of_testBit_eq fun j => ?_
    rw [b2 j]
    by_cases hj : j < ws.length
    · exact e3 j (Nat.zero_le _) (by lia)
    · have l1 : 2 ^ ws.length ≤ 2 ^ j := Nat.pow_le_pow_right (by decide) (by lia)
      rw [Nat.testBit_lt_two_pow (by lia)]
      symm
      rw [decide_eq_false_iff_not]
      intro q
      exact hj (s3 j q)
end
section
open PySem PySem.W PyProof.Rows PySem.Calls
set_option Elab.async false
set_option maxRecDepth 100000
set_option maxHeartbeats 1000000

theorem fillAs : PySem.Challenge.rw_pe0168_01 = PySem.Challenge.rw_pe0168_01 → Mine.hd.heap_1 = Mine.hd.heap_1 := by
  k_fill
  intro _; rfl


theorem re_at (w : World) : ∃ o, (Mine.hd.heap_1 w.params).lookup 43 = some o ∧ ∃ p0 p1 u2 u6, o = ⟨.type "re.Pattern", none, .fields #[p0, p1, .int 1 u2, .none, .none, .ref 42, .int 0 u6], #[]⟩ := by
  exact ⟨_, rfl, _, _, _, _, rfl⟩
theorem code_at (w : World) : ∃ o, (Mine.hd.heap_1 w.params).lookup 42 = some o ∧ ∃ cv ep, o = ⟨.type "tuple", none, .seq cv ep, #[]⟩ ∧ (cv.map Builtin.Re.reRawOf).map (·.toNat) = code0 := by
  exact ⟨_, rfl, _, _, rfl, by kernel_rfl⟩

theorem flat_of : ∀ {ps : List (Str × Str)} {vs : List Value}, StrsAre vs (ps.flatMap fun p => [p.1, p.2]) → FlatAt vs.toArray ps
  | [], vs, h => by
    cases h
    exact ⟨rfl, fun k p e => by simp at e⟩
  | q :: r, vs, h => by
    change StrsAre vs (q.1 :: q.2 :: r.flatMap fun p => [p.1, p.2]) at h
    cases h with
    | cons y t h =>
      cases h with
      | cons y' t' h =>
        obtain ⟨e1, e2⟩ := flat_of h
        refine ⟨by simp only [List.size_toArray, List.length_cons] at e1 ⊢; lia, fun k p e => ?_⟩
        cases k with
        | zero =>
          cases e
          exact ⟨t, t', rfl, rfl⟩
        | succ k =>
          obtain ⟨a, b, x1, x2⟩ := e2 k p (by simpa using e)
          refine ⟨a, b, ?_, ?_⟩
          · rw [← x1]; simp [Nat.mul_add]
          · rw [← x2]; simp [Nat.mul_add]
structure O5 where
  a : Obj
  d : Obj
  l : Obj
  t : Obj
  u : Obj
noncomputable def S5 (Z : List Addr) (ac ad ln : Addr) (st : FS) (o : O5) (h : Heap) : Prop :=
  (h.get? ac = some o.a ∧ h.get? ad = some o.d ∧ h.get? ln = some o.l ∧ h.get? 162 = some o.t ∧ h.get? 169 = some o.u) ∧ Cl Z h ac ad ln [] o.a o.d o.l o.t o.u st.1 st.2.1 st.2.2
theorem S5.fst {Z : List Addr} {ac ad ln : Addr} {st : FS} {o : O5} {h : Heap} (x : S5 Z ac ad ln st o h) : Fst Z h ac ad ln st.1 st.2.1 st.2.2 :=
  ⟨_, _, _, _, _, x.1.1, x.1.2.1, x.1.2.2.1, x.1.2.2.2.1, x.1.2.2.2.2, x.2⟩
theorem S5.of {Z : List Addr} {ac ad ln : Addr} {st : FS} {h : Heap} (x : Fst Z h ac ad ln st.1 st.2.1 st.2.2) : ∃ o, S5 Z ac ad ln st o h := by
  obtain ⟨a, d, l, t, u, h1, h2, h3, h4, h5, B⟩ := x
  exact ⟨⟨a, d, l, t, u⟩, ⟨h1, h2, h3, h4, h5⟩, B⟩
theorem S5.keepZ {TO ac ad ln : Addr} {st : FS} {o : O5} {h h' : Heap} (x : S5 [TO] ac ad ln st o h) (k : ∀ q ∈ five ac ad ln o.a o.d o.l o.t o.u, h'.get? q.1 = some q.2)
    (kt : ∀ b o, b ≠ TO → h.get? b = some o → o.cls = .type "tuple" → (∃ v n, o.data = .seq v n) → h'.get? b = some o) (t1 : ∃ o, h'.get? TO = some o ∧ o.cls = .type "tuple") : S5 [TO] ac ad ln st o h' := by
  obtain ⟨-, ⟨⟨items, ep, e, hp⟩, had, hln, htl, hts, ap⟩⟩ := x
  refine ⟨⟨k (ac, _) (.head _), k (ad, _) (.tail _ (.head _)), k (ln, _) (.tail _ (.tail _ (.head _))), k (162, _) (.tail _ (.tail _ (.tail _ (.head _)))), k (169, _) (.tail _ (.tail _ (.tail _ (.tail _ (.head _)))))⟩, ⟨⟨items, ep, e, hp.sz, ⟨hp.sz, fun i p e => ?_⟩, fun z hz => by rw [List.mem_singleton.mp hz]; exact t1⟩, had, hln, htl, hts, ap⟩⟩
  obtain ⟨b, t', u', e', r⟩ := hp.parts.2 i p e
  rcases r with ⟨ob, eo, c, n, hd⟩ | r
  · have hb : b ∉ [TO] := fun q => by rw [hideAll_none _ q] at eo; cases eo
    exact ⟨b, t', u', e', .inl ⟨ob, hideAll_get _ (kt b ob (fun q => hb (List.mem_singleton.mpr q)) (of_hideAll _ eo) c ⟨_, n, hd⟩) hb, c, n, hd⟩⟩
  · cases r
theorem asplit_ok {w : World} {p : Program} {loose mg mb bm ob} {dp un gd fr} {s : Shared} {Q E} {f fd ln ac ad : Addr} {κ : FK} {n : Nat} {ps : List (Str × Str)} {kx ky kw ks kz : Tok} {W : Nat} {z z' : Str}
   (C : Tx (Mine.hd.heap_1 w.params) p loose mg mb bm ob (FP ac ad ln) s.heap) (hd : dp + 24 < recursionLimit) (hu : un + 70 < cLine)
   (hf : s.heap.get? f = some (fmO fd)) (hfd : s.heap.get? fd = some (fdO κ ln ac)) (hW : κ.v1 = .int (W : Nat) kw) (hz : κ.v4 = .str z ks) (S : Fst [] s.heap ac ad ln [] n [])
   (hw : WhiteW ps) (hne : ps ≠ []) (hlen : ps.length ≤ 40) (hb : n + sumLen ps ≤ 1000)
   (hQ : ∀ s', Sm s s' → KB (FP ac ad ln) s.heap s'.heap → (∃ Z, Fst Z s'.heap ac ad ln (chunksS (sg z) W n ps).1 (chunksS (sg z) W n ps).2.1 (chunksS (sg z) W n ps).2.2) → Q .none s') :
   wpAny (model PySem.Challenge.pw_pe0168_01 w) (aT dp un gd fr) (call (.ref 106) [.ref f, .str (Str.ofString "") kx, .str (tx (partsTx ps)) ky, .str z' kz]) Q E s := by
  w_on
  have n1 : f ∉ FP ac ad ln := S.apart hf (.inl ⟨_, rfl⟩)
  have n2 : fd ∉ FP ac ad ln := S.apart hfd (.inr (.inl ⟨_, _, _, rfl⟩))
  obtain ⟨a, d, l, t, u, h1, h2, h3, h4, h5, B⟩ := S.enter
  k_dflt (refine enterH (binds := [(Str.ofString "self", .ref f), (Str.ofString "fws", .str (Str.ofString "") kx), (Str.ofString "string", .str (tx (partsTx ps)) ky), (Str.ofString "splitchars", .str z' kz)]) (five ac ad ln a d l t u) C.S (by k_is) (by k_is) (by show dp < recursionLimit; (with_reducible exact nnC (by assumption))) (BindsTo.of_eq rfl) (locs rfl) ?hn ?_ rfl rfl rfl (by decide))
  case hn => exact List.forall_mem_cons.mpr ⟨⟨.head _, h1⟩, List.forall_mem_cons.mpr ⟨⟨.tail _ (.head _), h2⟩, List.forall_mem_cons.mpr ⟨⟨.tail _ (.tail _ (.head _)), h3⟩, List.forall_mem_cons.mpr ⟨⟨.tail _ (.tail _ (.tail _ (.head _))), h4⟩, List.forall_mem_cons.mpr ⟨⟨.tail _ (.tail _ (.tail _ (.tail _ (.head _)))), h5⟩, List.forall_mem_nil _⟩⟩⟩⟩⟩
  intro L' h₁ tk F N X T
  change Fr _ _ _ (lmap [(Str.ofString "splitchars", some (.str z' kz)), (Str.ofString "string", some (.str (tx (partsTx ps)) ky)), (Str.ofString "fws", some (.str (Str.ofString "") kx)), (Str.ofString "self", some (.ref f))]) at F
  have gf := hid_get hf n1
  have gfd := hid_get hfd n2
  have CM := C.M
  have kbF : ∀ {h2 m}, Fr (hideAll s.heap (FP ac ad ln)) L' h2 m → KB (FP ac ad ln) s.heap h2 := fun F => kb_of F
  generalize hG : hideAll s.heap (FP ac ad ln) = g0 at F N X T gf gfd CM B kbF
  clear hf hfd h1 h2 h3 h4 h5 C n1 n2 S hG
  (repeat' ((fail_if_success (with_reducible show wpAny _ _ (getAttr (Value.ref _) _ _) _ _ _)); (fail_if_success (with_reducible show wpAny _ _ (getMethod (Value.ref _) _ _) _ _ _)); (fail_if_success (with_reducible show wpAny _ _ (exec (Stmt.For _ _ _ _ _) _) _ _ _)); (fail_if_success (with_reducible show wpAny _ _ (call _ _ _) _ _ _)); (first | walk1 | (dsimp only; walk1)); (try dsimp only)))
  obtain ⟨o43, l43, p0, p1, u2, u6, rfl⟩ := re_at w
  obtain ⟨o42, l42, cv, ep, rfl, hcv⟩ := code_at w
  have g43 := X _ _ l43
  have g42 := X _ _ l42
  clear l43 l42
  refine getMethod_re_split (F.keep _ _ g43) rfl rfl ?_
  dsimp only
  (repeat' ((fail_if_success (with_reducible show wpAny _ _ (getAttr (Value.ref _) _ _) _ _ _)); (fail_if_success (with_reducible show wpAny _ _ (getMethod (Value.ref _) _ _) _ _ _)); (fail_if_success (with_reducible show wpAny _ _ (exec (Stmt.For _ _ _ _ _) _) _ _ _)); (fail_if_success (with_reducible show wpAny _ _ (call _ _ _) _ _ _)); (first | walk1 | (dsimp only; walk1)); (try dsimp only)))
  have hlt : (tx (partsTx ps)).length = sumLen ps := by rw [tx_len, partsTx_len]
  refine add_str (fun t1 tk1 => ?_) (by rw [sizeLine_eq, hlt]; show 0 + sumLen ps ≤ _; lia)
  have e0 : Str.ofString "" ++ tx (partsTx ps) = tx (partsTx ps) := tx_inj (by rw [sg_append]; rfl)
  rw [e0]
  (repeat' ((fail_if_success (with_reducible show wpAny _ _ (getAttr (Value.ref _) _ _) _ _ _)); (fail_if_success (with_reducible show wpAny _ _ (getMethod (Value.ref _) _ _) _ _ _)); (fail_if_success (with_reducible show wpAny _ _ (exec (Stmt.For _ _ _ _ _) _) _ _ _)); (fail_if_success (with_reducible show wpAny _ _ (call _ _ _) _ _ _)); (first | walk1 | (dsimp only; walk1)); (try dsimp only)))
  refine call_re_split ⟨_, F.keep _ _ g43, rfl⟩ (split_body (F.keep _ _ g43) (F.keep _ _ g42) hcv hw hne (by lia) ?_)
  intro D h2 tk2 ys k2 nD eD hys
  refine ⟨_, rfl, ?_⟩
  have F2 := fr_keeps F k2
  have N2 : News g0 L' h2 ((D, liO ys 0) :: five ac ad ln a d l t u) := fun q hq => by
    rcases List.mem_cons.mp hq with rfl | hq
    · exact ⟨eD, fresh_of F nD⟩
    · exact news_keeps N k2 q hq
  have neD : ∀ q ∈ five ac ad ln a d l t u, q.1 ≠ D := fun q hq e => by rw [← e, (N q hq).1] at nD; cases nD
  clear F N k2 nD eD
  obtain ⟨t0, rest, rfl, hrest⟩ : ∃ t0 rest, ys = (.str Str.empty t0 :: rest).toArray ∧ StrsAre rest (ps.flatMap fun p => [p.1, p.2]) := by
    obtain ⟨l⟩ := ys
    change StrsAre l _ at hys
    cases hys with
    | cons y t h => exact ⟨t, _, rfl, h⟩
  clear hys
  dsimp only
  (repeat' ((fail_if_success (with_reducible show wpAny _ _ (getAttr (Value.ref _) _ _) _ _ _)); (fail_if_success (with_reducible show wpAny _ _ (getMethod (Value.ref _) _ _) _ _ _)); (fail_if_success (with_reducible show wpAny _ _ (exec (Stmt.For _ _ _ _ _) _) _ _ _)); (fail_if_success (with_reducible show wpAny _ _ (call _ _ _) _ _ _)); (first | walk1 | (dsimp only; walk1)); (try dsimp only)))
  walk1
  (repeat' ((fail_if_success (with_reducible show wpAny _ _ (getAttr (Value.ref _) _ _) _ _ _)); (fail_if_success (with_reducible show wpAny _ _ (getMethod (Value.ref _) _ _) _ _ _)); (fail_if_success (with_reducible show wpAny _ _ (exec (Stmt.For _ _ _ _ _) _) _ _ _)); (fail_if_success (with_reducible show wpAny _ _ (call _ _ _) _ _ _)); (first | walk1 | (dsimp only; walk1)); (try dsimp only)))
  rename Fr _ _ _ _ => F3
  rename News _ _ _ _ => N3
  have hflat := flat_of hrest
  have hrl : (Value.str Str.empty t0 :: rest).length ≤ 81 := by
    have := hflat.1
    simp only [List.size_toArray] at this
    rw [List.length_cons]; lia
  refine pop_first F3 N3 neD (by rw [sizeLine_eq]; (with_reducible exact nnD (by assumption) (by decide))) ?_
  intro h4 ep4 F4 N4
  clear F3 N3
  (repeat' ((fail_if_success (with_reducible show wpAny _ _ (getAttr (Value.ref _) _ _) _ _ _)); (fail_if_success (with_reducible show wpAny _ _ (getMethod (Value.ref _) _ _) _ _ _)); (fail_if_success (with_reducible show wpAny _ _ (exec (Stmt.For _ _ _ _ _) _) _ _ _)); (fail_if_success (with_reducible show wpAny _ _ (call _ _ _) _ _ _)); (first | walk1 | (dsimp only; walk1)); (try dsimp only)))
  refine wpAny_For ?_ (by intro _; rfl)
  (repeat' ((fail_if_success (with_reducible show wpAny _ _ (getAttr (Value.ref _) _ _) _ _ _)); (fail_if_success (with_reducible show wpAny _ _ (getMethod (Value.ref _) _ _) _ _ _)); (fail_if_success (with_reducible show wpAny _ _ (exec (Stmt.For _ _ _ _ _) _) _ _ _)); (fail_if_success (with_reducible show wpAny _ _ (call _ _ _) _ _ _)); (first | walk1 | (dsimp only; walk1)); (try dsimp only)))
  refine star_type ?_
  (repeat' ((fail_if_success (with_reducible show wpAny _ _ (getAttr (Value.ref _) _ _) _ _ _)); (fail_if_success (with_reducible show wpAny _ _ (getMethod (Value.ref _) _ _) _ _ _)); (fail_if_success (with_reducible show wpAny _ _ (exec (Stmt.For _ _ _ _ _) _) _ _ _)); (fail_if_success (with_reducible show wpAny _ _ (call _ _ _) _ _ _)); (first | walk1 | (dsimp only; walk1)); (try dsimp only)))
  refine iter_call F4 N4 (N4 (D, _) (.head _)).1 ?_
  intro I h5 hI F5 N5
  have nI : ∀ q ∈ (D, liO rest.toArray ep4) :: five ac ad ln a d l t u, q.1 ≠ I := fun q hq e => by
    have := Heap.lt_size (N4 q hq).1
    rw [e, hI] at this
    exact absurd this (Nat.lt_irrefl _)
  clear F4 N4 hI
  (repeat' ((fail_if_success (with_reducible show wpAny _ _ (getAttr (Value.ref _) _ _) _ _ _)); (fail_if_success (with_reducible show wpAny _ _ (getMethod (Value.ref _) _ _) _ _ _)); (fail_if_success (with_reducible show wpAny _ _ (exec (Stmt.For _ _ _ _ _) _) _ _ _)); (fail_if_success (with_reducible show wpAny _ _ (call _ _ _) _ _ _)); (first | walk1 | (dsimp only; walk1)); (try dsimp only)))
  rename Fr _ _ _ _ => F7
  rename News _ _ _ _ => N7
  refine Hold.mk ⟨_, _, _, _, rfl, (N7 _ (.head _)).1, fun h8 k8 => ?_⟩
  have F8 := fr_keeps F7 k8
  have N8 := news_keeps N7 k8
  clear F7 N7 k8
  have gI := (N8 (I, _) (.tail _ (.tail _ (.head _)))).1
  refine call_zip_same ⟨_, gI, rfl, rfl⟩ ?_
  show ∀ h', IsZip h' (h8.objs.size + 2) h8.objs.size (h8.objs.size + 1) .none → IsPair h' h8.objs.size (.ref I) (.ref I) → IsPair h' (h8.objs.size + 1) .none .none → (∀ c o, h8.get? c = some o → h'.get? c = some o) → _
  intro h9 z1 z2 z3 k9
  show wpAny _ _ (pyIter (.ref (h8.objs.size + 2))) _ _ _
  have F9 := fr_keeps F8 k9
  have N9 := news_keeps N8 k9
  have nz := fresh_of F8 (above_none (h := h8) (Nat.le_refl _))
  have nz1 := fresh_of F8 (above_none (h := h8) (Nat.le_add_right _ 1))
  have nz2 := fresh_of F8 (above_none (h := h8) (Nat.le_add_right _ 2))
  have up : ∀ q ∈ (I, _) :: (D, liO rest.toArray ep4) :: five ac ad ln a d l t u, q.1 < h8.objs.size := fun q hq => Heap.lt_size (N8 q (.tail _ (.tail _ hq))).1
  generalize hsz : h8.objs.size = SZ at *
  have fI := (N9 (I, _) (.tail _ (.tail _ (.head _)))).2
  have fD := N9 (D, _) (.tail _ (.tail _ (.tail _ (.head _))))
  have uI : I < SZ := up _ (.head _)
  have uD : D < SZ := up _ (.tail _ (.head _))
  have DI : D ≠ I := nI (D, _) (.head _)
  have N9' : News g0 L' h9 (five ac ad ln a d l t u) := fun q hq => N9 q (.tail _ (.tail _ (.tail _ (.tail _ hq))))
  have hnw : ∀ b ∈ FP ac ad ln, b ∉ [SZ + 2, SZ, SZ + 1, I, D] := fun b hb => by
    obtain ⟨o, ho⟩ : ∃ o, (b, o) ∈ five ac ad ln a d l t u := by
      simp only [List.mem_cons, List.not_mem_nil, or_false] at hb
      rcases hb with rfl | rfl | rfl | rfl | rfl
      · exact ⟨_, .head _⟩
      · exact ⟨_, .tail _ (.head _)⟩
      · exact ⟨_, .tail _ (.tail _ (.head _))⟩
      · exact ⟨_, .tail _ (.tail _ (.tail _ (.head _)))⟩
      · exact ⟨_, .tail _ (.tail _ (.tail _ (.tail _ (.head _))))⟩
    have u1 : b < SZ := up _ (.tail _ (.tail _ ho))
    have u2 : b ≠ I := nI (b, o) (.tail _ ho)
    have u3 : b ≠ D := neD (b, o) ho
    simp only [List.mem_cons, List.not_mem_nil, or_false, not_or]
    exact ⟨Nat.ne_of_lt (Nat.lt_add_right 2 u1), Nat.ne_of_lt u1, Nat.ne_of_lt (Nat.lt_add_right 1 u1), u2, u3⟩
  have hZ : ∀ z ∈ [SZ + 1], ∃ o, h9.get? z = some o ∧ o.cls = .type "tuple" := fun z hz => by
    rw [List.mem_singleton.mp hz]; exact ⟨_, z3, rfl⟩
  obtain ⟨⟨items0, ep0, rfl, hp0⟩, ⟨hs0, kt0, k0, rfl⟩, ⟨vs0, el0, rfl, hv0⟩, hl0, hu0, -⟩ := B
  have S9 : S5 [SZ + 1] ac ad ln ([], n, []) ⟨_, _, _, t, u⟩ h9 := ⟨⟨(f1 (more := []) N9').1, (f2 (more := []) N9').1, (f3 (more := []) N9').1, (f4 (more := []) N9').1, (f5 (more := []) N9').1⟩, ⟨⟨items0, ep0, rfl, PZ.empty hp0.sz hZ⟩, ⟨_, _, _, rfl⟩, ⟨_, _, rfl, hv0⟩, hl0, hu0, fun z hz => by cases hz⟩⟩
  refine iter_zip (σ := O5) (pa := .none) (pb := .none) (fun _ _ => [(Str.ofString "parts", some (.ref D)), (Str.ofString "splitchars", some (.str z' kz)), (Str.ofString "string", some (.str (tx (partsTx ps)) ky)), (Str.ofString "self", some (.ref f))])
    (fun _ o => five ac ad ln o.a o.d o.l o.t o.u) (fun i o h => S5 [SZ + 1] ac ad ln (chunksS (sg z) W n (ps.take i)) o h) ⟨_, _, _, t, u⟩
    (fun k o h h' S k1 k2 k3 => S.keepZ k1 k2 k3) rfl
    ⟨Nat.ne_of_lt (Nat.lt_add_of_pos_right (by decide)), Nat.ne_of_lt (Nat.lt_succ_self _), Nat.ne_of_lt (Nat.lt_add_right 2 uI), Nat.ne_of_lt (Nat.lt_succ_self _), Nat.ne_of_gt uI, Nat.ne_of_gt (Nat.lt_add_right 1 uI), Nat.ne_of_lt (Nat.lt_add_right 2 uD), Nat.ne_of_lt (Nat.lt_add_right 1 uD), DI⟩
    z1 z2 z3 ⟨_, k9 _ _ gI, rfl, rfl⟩ fD.1 hflat ?hfr (fun k o q hq => hnw q.1 ?hq) F9 ?hm N9' S9 ?turn ?done (by rfl) (by rfl) (by decide) (by rfl)
  case hfr =>
    intro q hq
    simp only [List.mem_cons, List.not_mem_nil, or_false] at hq
    rcases hq with rfl | rfl | rfl | rfl | rfl
    · exact nz2
    · exact nz
    · exact nz1
    · exact fI
    · exact fD.2
  case hq =>
    simp only [List.mem_cons, List.not_mem_nil, or_false] at hq ⊢
    rcases hq with rfl | rfl | rfl | rfl | rfl <;> simp
  case hm =>
    intro y h1 h2
    simp only [lmap, if_neg h1]
  case turn =>
    intro k pr tx1 tx2 o s1 oi hpk S1 sm1 coi F1 N1
    change Fr g0 L' _ _ at F1
    change News g0 L' _ _ at N1
    clear F8 N8 F9 N9 N9' S9 z1 z2 z3 k9 nz nz1 nz2 up fI fD uI uD DI hZ neD nI gI hl0 hu0 hp0 hv0
    have J := chunks_inv (sg z) W n ps k (Nat.le_of_lt (List.getElem?_eq_some_iff.mp hpk).1)
    have hpm := sumLen_mem (List.mem_of_getElem? hpk)
    have hst : sumLen (ps.take k) + (pr.1.length + pr.2.length) ≤ sumLen ps := by
      have h1 := sumLen_take_le ps (k + 1)
      rw [List.take_add_one, hpk, sumLen_append] at h1
      simp only [Option.toList_some, sumLen] at h1
      lia
    have ltk : (ps.take k).length ≤ 40 := by rw [List.length_take]; (with_reducible exact nnH (by assumption))
    obtain ⟨J1, J2, J3, J4, J5, J6⟩ := J
    have ctk := chunksS_take (sg z) W n hpk
    have hpos : ∀ p ∈ (chunksS (sg z) W n (ps.take k)).1, 0 < p.1.length ∧ 0 < p.2.length := fun p hp => hw.pos p (List.mem_of_mem_take (J1 p hp))
    rw [ctk]
    generalize chunksS (sg z) W n (ps.take k) = st at *
    refine turn_abs fun R hR => ?_
    (repeat' ((fail_if_success (with_reducible show wpAny _ _ (getAttr (Value.ref _) _ _) _ _ _)); (fail_if_success (with_reducible show wpAny _ _ (getMethod (Value.ref _) _ _) _ _ _)); (fail_if_success (with_reducible show wpAny _ _ (exec (Stmt.For _ _ _ _ _) _) _ _ _)); (fail_if_success (with_reducible show wpAny _ _ (call _ _ _) _ _ _)); (first | walk1 | (dsimp only; walk1)); (try dsimp only)))
    refine vf_meth (X.keeps F1.keep) (F1.keep _ _ gf) (F1.keep _ _ gfd) (g := 113) (by k_is) (by k_is) (by rfl) ?_
    dsimp only
    (repeat' ((fail_if_success (with_reducible show wpAny _ _ (getAttr (Value.ref _) _ _) _ _ _)); (fail_if_success (with_reducible show wpAny _ _ (getMethod (Value.ref _) _ _) _ _ _)); (fail_if_success (with_reducible show wpAny _ _ (exec (Stmt.For _ _ _ _ _) _) _ _ _)); (fail_if_success (with_reducible show wpAny _ _ (call _ _ _) _ _ _)); (first | walk1 | (dsimp only; walk1)); (try dsimp only)))
    show wpAny _ _ (call (.ref 113) [.ref f, .str pr.1 _, .str pr.2 _]) _ _ _
    refine chunk_ok (dp := dp + 1) (f_tx X T CM F1 N1 (fun b hb => hb)) (by (with_reducible exact nnA (by assumption) (by decide))) (by show un + 3 + 60 < cLine; (with_reducible exact nnA (by assumption) (by decide))) (F1.keep _ _ gf) (F1.keep _ _ gfd) hW hz S1.fst (by lia) (by lia) (by lia) (fun q hq => ?_) ?_
    · rcases List.mem_append.mp hq with hq | hq
      · exact hpos q hq
      · rw [List.mem_singleton.mp hq]; exact hw.pos _ (List.mem_of_getElem? hpk)
    intro s5 sm5 kb5 S5'
    obtain ⟨o5, S5'⟩ := S5.of S5'
    have F5 : Fr g0 L' s5.heap _ := f_fr F1 N1 kb5
    have N5 : News g0 L' s5.heap ([(SZ + 2, zipO SZ (SZ + 1)), (SZ, pairO (.ref I) (.ref I)), (SZ + 1, pairO (.str pr.1 tx1) (.str pr.2 tx2)), (I, oi), (D, liO rest.toArray ep4)] ++ five ac ad ln o5.a o5.d o5.l o5.t o5.u) := fun q hq => by
      rcases List.mem_append.mp hq with hq | hq
      · have h1 := N1 q (List.mem_append_left _ hq)
        refine ⟨kb5 _ _ (fun hb => hnw _ hb ?_) h1.1, h1.2⟩
        simp only [List.mem_cons, List.not_mem_nil, or_false] at hq ⊢
        rcases hq with rfl | rfl | rfl | rfl | rfl <;> simp
      · simp only [List.mem_cons, List.not_mem_nil, or_false] at hq
        rcases hq with rfl | rfl | rfl | rfl | rfl
        · exact ⟨S5'.1.1, (f1 N1).2⟩
        · exact ⟨S5'.1.2.1, (f2 N1).2⟩
        · exact ⟨S5'.1.2.2.1, (f3 N1).2⟩
        · exact ⟨S5'.1.2.2.2.1, (f4 N1).2⟩
        · exact ⟨S5'.1.2.2.2.2, (f5 N1).2⟩
    clear F1 N1 S1
    (repeat' ((fail_if_success (with_reducible show wpAny _ _ (getAttr (Value.ref _) _ _) _ _ _)); (fail_if_success (with_reducible show wpAny _ _ (getMethod (Value.ref _) _ _) _ _ _)); (fail_if_success (with_reducible show wpAny _ _ (exec (Stmt.For _ _ _ _ _) _) _ _ _)); (fail_if_success (with_reducible show wpAny _ _ (call _ _ _) _ _ _)); (first | walk1 | (dsimp only; walk1)); (try dsimp only)))
    refine hR _ _ ?_
    refine ⟨_, o5, sm1.trans ⟨sm5.1, sm5.2.1, sm5.2.2⟩, F5, N5, fun y h1 h2 => ?_, S5'⟩
    simp only [lmap, if_neg h1, if_neg h2]
  case done =>
    intro o u1 u2 s1 S1 sm1 F1 N1
    rw [List.take_length] at S1
    dsimp only
    (repeat' ((fail_if_success (with_reducible show wpAny _ _ (getAttr (Value.ref _) _ _) _ _ _)); (fail_if_success (with_reducible show wpAny _ _ (getMethod (Value.ref _) _ _) _ _ _)); (fail_if_success (with_reducible show wpAny _ _ (exec (Stmt.For _ _ _ _ _) _) _ _ _)); (fail_if_success (with_reducible show wpAny _ _ (call _ _ _) _ _ _)); (first | walk1 | (dsimp only; walk1)); (try dsimp only)))
    exact hQ _ ⟨sm1.1, sm1.2.1, sm1.2.2⟩ (kbF F1) ⟨_, S1.fst⟩
end
section
open PySem PySem.W PyProof.Rows PySem.Calls
set_option Elab.async false
set_option maxRecDepth 100000
set_option maxHeartbeats 1000000
variable {Z : List Addr}

theorem fillRw : PySem.Challenge.rw_pe0168_01 = PySem.Challenge.rw_pe0168_01 → Mine.hd.heap_1 = Mine.hd.heap_1 := by
  k_fill
  intro _; rfl


theorem vfstr_ok {w : World} {p : Program} {loose mg mb bm ob} {dp un gd fr} {s : Shared} {Q E} {f fd ln ac ad : Addr} {κ : FK} {n : Nat} {ps : List (Str × Str)} {ls : List Str} {c : Str} {kc : Tok}
   (C : Tx (Mine.hd.heap_1 w.params) p loose mg mb bm ob (FP ac ad ln) s.heap) (hd : dp + 12 < recursionLimit) (hu : un + 50 < cLine)
   (hf : s.heap.get? f = some (fmO fd)) (hfd : s.heap.get? fd = some (fdO κ ln ac)) (S : Fst Z s.heap ac ad ln ps n ls)
   (hl : ps.length ≤ 100) (hls : ls.length ≤ 100) (hb : n + sumLen ps ≤ 1000000) (hno : n ≠ 0 ∨ (0 < sumLen ps ∧ (Txt.isspace (tx (partsTx ps))) = false)) (hne : lastOr ps ≠ (Str.ofString " ", Str.ofString ""))
   (hc : c.length ≤ 1) (htot : (ls.map (·.length)).sum ≤ 1000000)
   (hQ : ∀ s' k, Sm s s' → KB (FP ac ad ln) s.heap s'.heap → Fst Z s'.heap ac ad ln [] 0 (ls ++ [tx (partsTx ps)]) → Q (.str (Txt.join c (ls ++ [tx (partsTx ps)])) k) s') :
   wpAny (model PySem.Challenge.pw_pe0168_01 w) (aT dp un gd fr) (call (.ref 64) [.ref f, .str c kc]) Q E s := by
  w_on
  have n1 : f ∉ FP ac ad ln := S.apart hf (.inl ⟨_, rfl⟩)
  have n2 : fd ∉ FP ac ad ln := S.apart hfd (.inr (.inl ⟨_, _, _, rfl⟩))
  obtain ⟨a, d, l, t, u, h1, h2, h3, h4, h5, B⟩ := S.enter
  k_dflt (refine enterH (binds := [(Str.ofString "self", .ref f), (Str.ofString "linesep", .str c kc)]) (five ac ad ln a d l t u) C.S (by k_is) (by k_is) (by show dp < recursionLimit; (with_reducible exact nnC (by assumption))) (BindsTo.of_eq rfl) (locs rfl) ?hn ?_ rfl rfl rfl (by decide))
  case hn => exact List.forall_mem_cons.mpr ⟨⟨.head _, h1⟩, List.forall_mem_cons.mpr ⟨⟨.tail _ (.head _), h2⟩, List.forall_mem_cons.mpr ⟨⟨.tail _ (.tail _ (.head _)), h3⟩, List.forall_mem_cons.mpr ⟨⟨.tail _ (.tail _ (.tail _ (.head _))), h4⟩, List.forall_mem_cons.mpr ⟨⟨.tail _ (.tail _ (.tail _ (.tail _ (.head _)))), h5⟩, List.forall_mem_nil _⟩⟩⟩⟩⟩
  intro L' h₁ tk F N X T
  change Fr _ _ _ (lmap [(Str.ofString "linesep", some (.str c kc)), (Str.ofString "self", some (.ref f))]) at F
  have gf := hid_get hf n1
  have gfd := hid_get hfd n2
  have CM := C.M
  have kbF : ∀ {h2 m}, Fr (hideAll s.heap (FP ac ad ln)) L' h2 m → KB (FP ac ad ln) s.heap h2 := fun F => kb_of F
  generalize hG : hideAll s.heap (FP ac ad ln) = g0 at F N X T gf gfd CM B kbF
  clear hf hfd h1 h2 h3 h4 h5 C n1 n2 S hG
  (repeat' ((fail_if_success (with_reducible show wpAny _ _ (getAttr (Value.ref _) _ _) _ _ _)); (fail_if_success (with_reducible show wpAny _ _ (getMethod (Value.ref _) _ _) _ _ _)); (fail_if_success (with_reducible show wpAny _ _ (exec (Stmt.For _ _ _ _ _) _) _ _ _)); (fail_if_success (with_reducible show wpAny _ _ (call _ _ _) _ _ _)); (first | walk1 | (dsimp only; walk1)); (try dsimp only)))
  refine vf_meth (X.keeps F.keep) (F.keep _ _ gf) (F.keep _ _ gfd) (g := 78) (by k_is) (by k_is) (by rfl) ?_
  dsimp only
  (repeat' ((fail_if_success (with_reducible show wpAny _ _ (getAttr (Value.ref _) _ _) _ _ _)); (fail_if_success (with_reducible show wpAny _ _ (getMethod (Value.ref _) _ _) _ _ _)); (fail_if_success (with_reducible show wpAny _ _ (exec (Stmt.For _ _ _ _ _) _) _ _ _)); (fail_if_success (with_reducible show wpAny _ _ (call _ _ _) _ _ _)); (first | walk1 | (dsimp only; walk1)); (try dsimp only)))
  show wpAny _ _ (call (.ref 78) [.ref f]) _ _ _
  refine newline_ok (dp := dp + 1) (f_tx (more := []) X T CM F N (fun b hb => hb)) (by (with_reducible exact nnA (by assumption) (by decide))) (by show un + 3 + 40 < cLine; (with_reducible exact nnA (by assumption) (by decide))) (F.keep _ _ gf) (F.keep _ _ gfd) (Fst.exit (more := []) F N B) hl hls hb hno hne ?_
  intro s8 sm8 kb8 S8
  obtain ⟨a8, d8, l8, t8, u8, F8, N8, B8⟩ := Fst.back (more := []) F N B kb8 S8
  clear F N B S8 kb8
  (repeat' ((fail_if_success (with_reducible show wpAny _ _ (getAttr (Value.ref _) _ _) _ _ _)); (fail_if_success (with_reducible show wpAny _ _ (getMethod (Value.ref _) _ _) _ _ _)); (fail_if_success (with_reducible show wpAny _ _ (exec (Stmt.For _ _ _ _ _) _) _ _ _)); (fail_if_success (with_reducible show wpAny _ _ (call _ _ _) _ _ _)); (first | walk1 | (dsimp only; walk1)); (try dsimp only)))
  refine get_value (X.keeps F8.keep) (fmI (F8.keep _ _ gf) (F8.keep _ _ gfd)) (vf_ga w) (vf_ln w κ ln ac) rfl ?_
  (repeat' ((fail_if_success (with_reducible show wpAny _ _ (getAttr (Value.ref _) _ _) _ _ _)); (fail_if_success (with_reducible show wpAny _ _ (getMethod (Value.ref _) _ _) _ _ _)); (fail_if_success (with_reducible show wpAny _ _ (exec (Stmt.For _ _ _ _ _) _) _ _ _)); (fail_if_success (with_reducible show wpAny _ _ (call _ _ _) _ _ _)); (first | walk1 | (dsimp only; walk1)); (try dsimp only)))
  obtain ⟨vs, el, rfl, hvs⟩ := id B8.oln
  show wpAny _ _ (call (.builtin "str.join") [.str c _, .ref ln]) _ _ _
  refine join_list (items := vs) ⟨_, (f3 N8).1, rfl, _, rfl⟩ hvs ?_ ?_
  · have e1 : ∀ z : Str, (ls ++ [z]).length ≤ 101 := fun z => by rw [List.length_append]; simp; (with_reducible exact nnD (by assumption) (by decide))
    have e2 : (tx (partsTx ps)).length = sumLen ps := by rw [← sg_len, sg_tx, partsTx_len]
    have e3 : ((ls ++ [tx (partsTx ps)]).map (·.length)).sum ≤ 2000000 := by rw [List.map_append, List.sum_append]; simp [e2]; lia
    have := Nat.mul_le_mul (e1 (tx (partsTx ps))) hc
    lia
  · intro k9 t9
    (repeat' ((fail_if_success (with_reducible show wpAny _ _ (getAttr (Value.ref _) _ _) _ _ _)); (fail_if_success (with_reducible show wpAny _ _ (getMethod (Value.ref _) _ _) _ _ _)); (fail_if_success (with_reducible show wpAny _ _ (exec (Stmt.For _ _ _ _ _) _) _ _ _)); (fail_if_success (with_reducible show wpAny _ _ (call _ _ _) _ _ _)); (first | walk1 | (dsimp only; walk1)); (try dsimp only)))
    exact hQ _ _ ⟨sm8.1, sm8.2.1, sm8.2.2⟩ (kbF F8) (Fst.exit F8 N8 B8)

theorem law_rows_ok {w : World} {p : Program} {loose mg mb bm ob} {dp un gd fr} {s : Shared} {Q E} {ps : List (Str × Str)} {room W : Nat} {kl kr kw kz : Tok} {z : Str} {tl ts : Array Value}
    (C : Tx (Mine.hd.heap_1 w.params) p loose mg mb bm ob [162, 169] s.heap) (hd : dp + 30 < recursionLimit) (hu : un + 80 < cLine)
    (hPl : s.heap.get? 162 = some (tabObj tl)) (htl : TriplesOk tl.toList) (hPs : s.heap.get? 169 = some (tabObj ts)) (hts : TriplesOk ts.toList)
    (hw : WhiteW ps) (hwd : Wordy ps) (hne : ps ≠ []) (hlen : ps.length ≤ 40) (hb : room + sumLen ps ≤ 1000)
    (hsp : Txt.split (Txt.join (Str.ofString "\n") (rowsS (sg z) W room ps)) (Str.ofString "\n") = rowsS (sg z) W room ps)
    (hQ : ∀ s' D vs tl' ts', Sm s s' → KB [162, 169] s.heap s'.heap → s'.heap.get? 162 = some (tabObj tl') → TriplesOk tl'.toList → s'.heap.get? 169 = some (tabObj ts') → TriplesOk ts'.toList →
       s'.heap.get? D = some (liO vs 0) → s.heap.get? D = none → StrsAre vs.toList (rowsS (sg z) W room ps) → Q (.ref D) s') :
    wpAny (model PySem.Challenge.pw_pe0168_01 w) (aT dp un gd fr) (call (.ref 246) [.str (tx (partsTx ps)) kl, .int (room : Nat) kr, .int (W : Nat) kw, .str z kz]) Q E s := by
  w_on
  k_dflt (refine enterH (binds := [(Str.ofString "line", .str (tx (partsTx ps)) kl), (Str.ofString "room", .int (room : Nat) kr), (Str.ofString "width", .int (W : Nat) kw), (Str.ofString "preferred", .str z kz)]) [(162, tabObj tl), (169, tabObj ts)] C.S (by k_is) (by k_is) (by show dp < recursionLimit; (with_reducible exact nnC (by assumption))) (BindsTo.of_eq rfl) (locs rfl) ?hn ?_ rfl rfl rfl (by decide))
  case hn => exact List.forall_mem_cons.mpr ⟨⟨.head _, hPl⟩, List.forall_mem_cons.mpr ⟨⟨.tail _ (.head _), hPs⟩, List.forall_mem_nil _⟩⟩
  intro L' h₁ tk F N X T
  change Fr _ _ _ (lmap [(Str.ofString "preferred", some (.str z kz)), (Str.ofString "width", some (.int (W : Nat) kw)), (Str.ofString "room", some (.int (room : Nat) kr)), (Str.ofString "line", some (.str (tx (partsTx ps)) kl))]) at F
  have CM := C.M
  have kbF : ∀ {h2 m}, Fr (hideAll s.heap [162, 169]) L' h2 m → KB [162, 169] s.heap h2 := fun F => kb_of F
  generalize hG : hideAll s.heap [162, 169] = g0 at F N X T CM kbF
  (repeat' ((fail_if_success (with_reducible show wpAny _ _ (getAttr (Value.ref _) _ _) _ _ _)); (fail_if_success (with_reducible show wpAny _ _ (getMethod (Value.ref _) _ _) _ _ _)); (fail_if_success (with_reducible show wpAny _ _ (exec (Stmt.For _ _ _ _ _) _) _ _ _)); (fail_if_success (with_reducible show wpAny _ _ (call _ _ _) _ _ _)); (first | walk1 | (dsimp only; walk1)); (try dsimp only)))
  refine vf_make_ok (dp := dp + 1) ⟨X.keeps F.keep, T.keeps F.keep⟩ (by (with_reducible exact nnA (by assumption) (by decide))) ?_
  intro f fd ln ac ad h2 tk2 κ ep2 el2 hs2 kt2 k2 nf nfd nln nac nad gf gfd e1 e4 gln gac gad
  have F2 := fr_keeps F k2
  have N2 : News g0 L' h2 ([(f, fmO fd), (fd, fdO κ ln ac)] ++ five ac ad ln (accO ad #[] ep2) (adO hs2 kt2 (.int (room : Nat) kr)) (lnO #[] el2) (tabObj tl) (tabObj ts)) := fun q hq => by
    have N0 := news_keeps N k2
    simp only [List.mem_append, List.mem_cons, List.not_mem_nil, or_false] at hq
    rcases hq with (rfl | rfl) | rfl | rfl | rfl | rfl | rfl
    · exact ⟨gf, fresh_of F nf⟩
    · exact ⟨gfd, fresh_of F nfd⟩
    · exact ⟨gac, fresh_of F nac⟩
    · exact ⟨gad, fresh_of F nad⟩
    · exact ⟨gln, fresh_of F nln⟩
    · exact N0 _ (.head _)
    · exact N0 _ (.tail _ (.head _))
  clear F N k2 nf nfd nln nac nad gf gfd gln gac gad
  (repeat' ((fail_if_success (with_reducible show wpAny _ _ (getAttr (Value.ref _) _ _) _ _ _)); (fail_if_success (with_reducible show wpAny _ _ (getMethod (Value.ref _) _ _) _ _ _)); (fail_if_success (with_reducible show wpAny _ _ (exec (Stmt.For _ _ _ _ _) _) _ _ _)); (fail_if_success (with_reducible show wpAny _ _ (call _ _ _) _ _ _)); (first | walk1 | (dsimp only; walk1)); (try dsimp only)))
  rename Fr _ _ _ _ => F3
  rename News _ _ _ _ => N3
  have gf := (N3 (f, _) (.head _)).1
  have gfd := (N3 (fd, _) (.tail _ (.head _))).1
  have N3' : News g0 L' _ ([(f, fmO fd), (fd, fdO κ ln ac)] ++ five ac ad ln (accO ad #[] ep2) (adO hs2 kt2 (.int (room : Nat) kr)) (lnO #[] el2) (tabObj tl) (tabObj ts)) := N3
  have S3 : Fst [] _ ac ad ln [] room [] := ⟨_, _, _, _, _, (f1 N3').1, (f2 N3').1, (f3 N3').1, (f4 N3').1, (f5 N3').1, ⟨⟨#[], ep2, rfl, PZ.nil (fun z hz => by cases hz)⟩, ⟨_, _, _, rfl⟩, ⟨#[], el2, rfl, .nil⟩, ⟨_, rfl, htl⟩, ⟨_, rfl, hts⟩, fun z hz => by cases hz⟩⟩
  refine vf_meth (X.keeps F3.keep) gf gfd (g := 106) (by k_is) (by k_is) (by rfl) ?_
  dsimp only
  (repeat' ((fail_if_success (with_reducible show wpAny _ _ (getAttr (Value.ref _) _ _) _ _ _)); (fail_if_success (with_reducible show wpAny _ _ (getMethod (Value.ref _) _ _) _ _ _)); (fail_if_success (with_reducible show wpAny _ _ (exec (Stmt.For _ _ _ _ _) _) _ _ _)); (fail_if_success (with_reducible show wpAny _ _ (call _ _ _) _ _ _)); (first | walk1 | (dsimp only; walk1)); (try dsimp only)))
  show wpAny _ _ (call (.ref 106) [.ref f, .str (Str.ofString "") _, .str (tx (partsTx ps)) _, .str z _]) _ _ _
  refine asplit_ok (dp := dp + 1) (f_tx X T CM F3 N3' (fun b hb => hb)) (by (with_reducible exact nnA (by assumption) (by decide))) (by show un + 3 + 70 < cLine; (with_reducible exact nnA (by assumption) (by decide))) gf gfd e1 e4 S3 hw hne hlen hb ?_
  rintro s4 sm4 kb4 ⟨Z, S4⟩
  obtain ⟨o, S4⟩ := S5.of S4
  have F4 : Fr g0 L' s4.heap _ := f_fr F3 N3' kb4
  have N4' : News g0 L' s4.heap ([(f, fmO fd), (fd, fdO κ ln ac)] ++ five ac ad ln o.a o.d o.l o.t o.u) := fun q hq => by
    simp only [List.mem_append, List.mem_cons, List.not_mem_nil, or_false] at hq
    rcases hq with (rfl | rfl) | rfl | rfl | rfl | rfl | rfl
    · exact ⟨kb4 _ _ (S3.apart gf (.inl ⟨_, rfl⟩)) gf, (N3 (f, _) (.head _)).2⟩
    · exact ⟨kb4 _ _ (S3.apart gfd (.inr (.inl ⟨_, _, _, rfl⟩))) gfd, (N3 (fd, _) (.tail _ (.head _))).2⟩
    · exact ⟨S4.1.1, (f1 N3').2⟩
    · exact ⟨S4.1.2.1, (f2 N3').2⟩
    · exact ⟨S4.1.2.2.1, (f3 N3').2⟩
    · exact ⟨S4.1.2.2.2.1, (f4 N3').2⟩
    · exact ⟨S4.1.2.2.2.2, (f5 N3').2⟩
  clear F3 N3 N3' S3 gf gfd
  have gf := (N4' (f, _) (.head _)).1
  have gfd := (N4' (fd, _) (.tail _ (.head _))).1
  have J := chunks_inv (sg z) W room ps ps.length (Nat.le_refl _)
  rw [List.take_length] at J
  unfold rowsS at hsp hQ
  generalize chunksS (sg z) W room ps = st at *
  obtain ⟨J1, J2, J3, J4, J5, J6⟩ := J
  have hws : Wordy st.1 := fun p hp => hwd p (J1 p hp)
  (repeat' ((fail_if_success (with_reducible show wpAny _ _ (getAttr (Value.ref _) _ _) _ _ _)); (fail_if_success (with_reducible show wpAny _ _ (getMethod (Value.ref _) _ _) _ _ _)); (fail_if_success (with_reducible show wpAny _ _ (exec (Stmt.For _ _ _ _ _) _) _ _ _)); (fail_if_success (with_reducible show wpAny _ _ (call _ _ _) _ _ _)); (first | walk1 | (dsimp only; walk1)); (try dsimp only)))
  refine vf_meth (X.keeps F4.keep) gf gfd (g := 64) (by k_is) (by k_is) (by rfl) ?_
  dsimp only
  (repeat' ((fail_if_success (with_reducible show wpAny _ _ (getAttr (Value.ref _) _ _) _ _ _)); (fail_if_success (with_reducible show wpAny _ _ (getMethod (Value.ref _) _ _) _ _ _)); (fail_if_success (with_reducible show wpAny _ _ (exec (Stmt.For _ _ _ _ _) _) _ _ _)); (fail_if_success (with_reducible show wpAny _ _ (call _ _ _) _ _ _)); (first | walk1 | (dsimp only; walk1)); (try dsimp only)))
  show wpAny _ _ (call (.ref 64) [.ref f, .str (Str.ofString "\n") _]) _ _ _
  refine vfstr_ok (dp := dp + 1) (f_tx X T CM F4 N4' (fun b hb => hb)) (by (with_reducible exact nnA (by assumption) (by decide))) (by show un + 3 + 50 < cLine; (with_reducible exact nnA (by assumption) (by decide))) gf gfd S4.fst (by lia) (by lia) (by lia) (.inr (hws.no (J6 hne))) (lastOr_ne fun p hp => (hws.pos hp).2) (by decide) (by lia) ?_
  intro s5 k5 sm5 kb5 S5'
  obtain ⟨o5, S5'⟩ := S5.of (st := ([], 0, st.2.2 ++ [tx (partsTx st.1)])) S5'
  have F5 : Fr g0 L' s5.heap _ := f_fr F4 N4' kb5
  have N5 : News g0 L' s5.heap [(162, o5.t), (169, o5.u)] := fun q hq => by
    simp only [List.mem_cons, List.not_mem_nil, or_false] at hq
    rcases hq with rfl | rfl
    · exact ⟨S5'.1.2.2.2.1, (f4 N4').2⟩
    · exact ⟨S5'.1.2.2.2.2, (f5 N4').2⟩
  obtain ⟨v1, e6, hv1⟩ := S5'.2.otl
  obtain ⟨v2, e7, hv2⟩ := S5'.2.ots
  rw [e6, e7] at N5
  clear F4 N4' S4 S5'
  (repeat' ((fail_if_success (with_reducible show wpAny _ _ (getAttr (Value.ref _) _ _) _ _ _)); (fail_if_success (with_reducible show wpAny _ _ (getMethod (Value.ref _) _ _) _ _ _)); (fail_if_success (with_reducible show wpAny _ _ (exec (Stmt.For _ _ _ _ _) _) _ _ _)); (fail_if_success (with_reducible show wpAny _ _ (call _ _ _) _ _ _)); (first | walk1 | (dsimp only; walk1)); (try dsimp only)))
  have hjl := join_len_le (Str.ofString "\n") (st.2.2 ++ [tx (partsTx st.1)])
  rw [List.map_append, List.sum_append, List.length_append, show (Str.ofString "\n").length = 1 from rfl] at hjl
  simp only [List.map_cons, List.map_nil, List.sum_cons, List.sum_nil, tx_len, partsTx_len, List.length_singleton] at hjl
  refine KSpl.split1 F5 N5 (by decide) ?_ (by rw [sizeLine_eq]; lia)
  intro D l h6 k6 hl hv F6 N6 _
  rw [hl, hsp] at hv
  have o6 := N6 _ (.head _)
  have hq : D ∉ [162, 169] := by
    have a1 := ne_of_cls o6.1 (N6 (162, _) (.tail _ (.head _))).1 (by intro q; cases q)
    have a2 := ne_of_cls o6.1 (N6 (169, _) (.tail _ (.tail _ (.head _)))).1 (by intro q; cases q)
    simp [a1, a2]
  refine hQ _ D (strValues l).toArray v1 v2 ?_ (kbF F6) (N6 (162, _) (.tail _ (.head _))).1 hv1 (N6 (169, _) (.tail _ (.tail _ (.head _)))).1 hv2 o6.1 (new_of (hG ▸ o6.2.2) hq) hv
  exact Sm.trans (s' := s4) ⟨sm4.1, sm4.2.1, sm4.2.2⟩ ⟨sm5.1, sm5.2.1, sm5.2.2⟩
end
section
open PySem PySem.W PyProof.Rows PySem.Calls
set_option Elab.async false
set_option maxRecDepth 100000
set_option maxHeartbeats 1000000

theorem fillWd : PySem.Challenge.rw_pe0168_01 = PySem.Challenge.rw_pe0168_01 → Mine.hd.heap_1 = Mine.hd.heap_1 := by
  k_fill
  intro _; rfl


noncomputable def whiteB (n : Nat) : List Nat := if n % 3 = 0 then [] else if n % 3 = 1 then [32] else [9]
noncomputable def signOf (n : Nat) : Nat := 33 + n / 27 % 94
noncomputable def timesOf (n : Nat) : Nat := n / 9 % 3
noncomputable def endOf (n : Nat) : Nat := if n / 3 % 3 = 0 then signOf n else if n / 3 % 3 = 1 then 44 else 59
noncomputable def wordOf (d n : Nat) : Str × Str := (tx (d :: whiteB n), tx (List.replicate (timesOf n) (signOf n) ++ [endOf n]))
theorem tx_len' (l : List Nat) : (tx l).length = l.length := by rw [← sg_len, sg_tx]
theorem int_div (n k : Nat) : (Int.ofNat n).fdiv (k : Int) = ((n / k : Nat) : Int) := by
  rw [Int.fdiv_eq_ediv_of_nonneg _ (Int.natCast_nonneg k)]; rfl
theorem int_mod (n k : Nat) : (n : Int).fmod (k : Int) = ((n % k : Nat) : Int) := by
  rw [Int.fmod_eq_emod_of_nonneg _ (Int.natCast_nonneg k)]; rfl
theorem sign_eq (n : Nat) : (33 + ((Int.ofNat n).fdiv 27).fmod 94).toNat = signOf n := by
  have h1 := int_div n 27
  have h2 := int_mod (n / 27) 94
  rw [show ((Int.ofNat n).fdiv 27) = ((n / 27 : Nat) : Int) from h1, show (((n / 27 : Nat) : Int).fmod 94) = ((n / 27 % 94 : Nat) : Int) from h2]
  rfl
theorem times_eq' (n : Nat) : ((Int.ofNat n).fdiv 9).fmod 3 = ((timesOf n : Nat) : Int) := by
  have h1 := int_div n 9
  have h2 := int_mod (n / 9) 3
  rw [show ((Int.ofNat n).fdiv 9) = ((n / 9 : Nat) : Int) from h1, show (((n / 9 : Nat) : Int).fmod 3) = ((n / 9 % 3 : Nat) : Int) from h2]
  rfl
theorem end_eq (n : Nat) : ((Int.ofNat n).fdiv 3).fmod 3 = ((n / 3 % 3 : Nat) : Int) := by
  have h1 := int_div n 3
  have h2 := int_mod (n / 3) 3
  rw [show ((Int.ofNat n).fdiv 3) = ((n / 3 : Nat) : Int) from h1, show (((n / 3 : Nat) : Int).fmod 3) = ((n / 3 % 3 : Nat) : Int) from h2]
theorem end_pick (n : Nat) : [⟨#[signOf n]⟩, Str.ofString ",", Str.ofString ";"].getD (((n / 3 % 3 : Nat) : Int)).toNat Str.empty = ⟨#[endOf n]⟩ := by
  rw [Int.toNat_natCast]
  unfold endOf
  have : n / 3 % 3 = 0 ∨ n / 3 % 3 = 1 ∨ n / 3 % 3 = 2 := by lia
  rcases this with h | h | h <;> rw [h] <;> rfl
theorem white_pick (n : Nat) : [Str.ofString "", Str.ofString " ", Str.ofString "\t"].getD ((Int.ofNat n).fmod 3).toNat Str.empty = tx (whiteB n) := by
  have h := int_mod n 3
  have e : ((Int.ofNat n).fmod 3).toNat = n % 3 := by
    show ((n : Int).fmod ((3 : Nat) : Int)).toNat = _
    rw [h]; rfl
  rw [e]
  unfold whiteB
  have : n % 3 = 0 ∨ n % 3 = 1 ∨ n % 3 = 2 := by lia
  rcases this with h | h | h <;> rw [h] <;> rfl
theorem news_words {h₀ h8 h9 : Heap} {L q8 I D D' q4 : Addr} {oI o8 o1 o2 : Obj} {more : List (Addr × Obj)} {items items' : Array Value} {ep ep' : Nat} (N8 : News h₀ L h8 ((q8, o8) :: (D', o1) :: (q4, o2) :: (I, oI) :: (D, liO items ep) :: more)) (sb : Heap.SameBut D h8 h9) (hD9 : h9.get? D = some (liO items' ep'))
    (hq : q8 ≠ D) (hI : I ≠ D) (hm : ∀ q ∈ more, q.1 ≠ D) : News h₀ L h9 ((I, oI) :: (D, liO items' ep') :: (q8, o8) :: more) := fun z hz => by
  rcases List.mem_cons.mp hz with rfl | hz
  · exact ⟨sb.extBut _ _ hI (N8 (I, oI) (.tail _ (.tail _ (.tail _ (.head _))))).1, (N8 (I, oI) (.tail _ (.tail _ (.tail _ (.head _))))).2⟩
  rcases List.mem_cons.mp hz with rfl | hz
  · exact ⟨hD9, (N8 (D, liO items ep) (.tail _ (.tail _ (.tail _ (.tail _ (.head _)))))).2⟩
  rcases List.mem_cons.mp hz with rfl | hz
  · exact ⟨sb.extBut _ _ hq (N8 (q8, o8) (.head _)).1, (N8 (q8, o8) (.head _)).2⟩
  · have := N8 z (.tail _ (.tail _ (.tail _ (.tail _ (.tail _ hz)))))
    exact ⟨sb.extBut _ _ (hm z hz) this.1, this.2⟩
theorem law_words_ok {w : World} {p : Program} {loose mg mb} {dp un gd fr} {s : Shared} {Q E} {nl : Addr} {vs : Array Value} {ep : Nat} {ns : List Nat} {d : Nat} {kd : Tok}
   (C : Cx (Mine.hd.heap_1 w.params) p loose mg mb s.heap) (hd : dp + 2 < recursionLimit) (hnl : s.heap.get? nl = some (liO vs ep)) (hv : IntsAre vs.toList (ns.map Int.ofNat)) (hlen : ns.length ≤ 100) (hns : ∀ n ∈ ns, n < 1000000)
   (hQ : ∀ s' D items ep', Sm s s' → Kp s.heap s'.heap → s.heap.get? D = none → s'.heap.get? D = some (liO items ep') → PartsAt s'.heap items (ns.map (wordOf d)) → Q (.ref D) s') :
   wpAny (model PySem.Challenge.pw_pe0168_01 w) (aT dp un gd fr) (call (.ref 239) [.ref nl, .str ⟨#[d]⟩ kd]) Q E s := by
  w_on
  k_dflt (refine enter0 (binds := [(Str.ofString "numbers", .ref nl), (Str.ofString "first", .str ⟨#[d]⟩ kd)]) C (by k_is) (by k_is) (by show dp < recursionLimit; (with_reducible exact nnC (by assumption))) (BindsTo.of_eq rfl) (locs rfl) ?_ rfl rfl rfl (by decide))
  intro L' h₁ tk F N X T
  change Fr _ _ _ (lmap [(Str.ofString "first", some (.str ⟨#[d]⟩ kd)), (Str.ofString "numbers", some (.ref nl))]) at F
  (repeat' ((fail_if_success (with_reducible show wpAny _ _ (subscriptTail _ _ _ _) _ _ _)); (fail_if_success (with_reducible show wpAny _ _ (exec (Stmt.For _ _ _ _ _) _) _ _ _)); (fail_if_success (with_reducible show wpAny _ _ (pyIter _) _ _ _)); (fail_if_success (with_reducible show wpAny _ _ (call (Value.builtin "list.append") _) _ _ _)); (first | walk1 | (dsimp only; walk1)); (try dsimp only)))
  refine wpAny_For ?_ (by intro _; rfl)
  (repeat' ((fail_if_success (with_reducible show wpAny _ _ (subscriptTail _ _ _ _) _ _ _)); (fail_if_success (with_reducible show wpAny _ _ (exec (Stmt.For _ _ _ _ _) _) _ _ _)); (fail_if_success (with_reducible show wpAny _ _ (pyIter _) _ _ _)); (fail_if_success (with_reducible show wpAny _ _ (call (Value.builtin "list.append") _) _ _ _)); (first | walk1 | (dsimp only; walk1)); (try dsimp only)))
  rename_i D _ _ _ F2 N2
  refine iter_one (σ := Array Value × Nat × List (Addr × Obj) × Option Value × Option Value) (fun _ a => [(Str.ofString "words", some (.ref D)), (Str.ofString "sign", a.2.2.2.1), (Str.ofString "white", a.2.2.2.2), (Str.ofString "first", some (.str ⟨#[d]⟩ kd)), (Str.ofString "numbers", some (.ref nl))])
    (fun _ a => (D, liO a.1 a.2.1) :: a.2.2.1) (fun i a _ => PartsIn s.heap a.2.2.1 a.1 ((ns.take i).map (wordOf d)) ∧ ∀ q ∈ a.2.2.1, q.1 ≠ D) (#[], 0, [], none, none) (fun _ _ _ _ x _ _ => x) (by rfl) hnl F2 (lmap_agree [Str.ofString "words", Str.ofString "sign", Str.ofString "white", Str.ofString "first", Str.ofString "numbers"] ?h1 ?h2 ?hv) N2 ⟨⟨rfl, fun i p e => by simp at e⟩, fun q hq => by cases hq⟩ ?_ ?_
  case h1 => rfl
  case h2 => rfl
  case hv => exact List.forall_mem_cons.mpr ⟨rfl, List.forall_mem_cons.mpr ⟨rfl, List.forall_mem_cons.mpr ⟨rfl, List.forall_mem_cons.mpr ⟨rfl, List.forall_mem_cons.mpr ⟨rfl, List.forall_mem_nil _⟩⟩⟩⟩⟩
  · intro i v a s3 I oI hvi hs sm3 hne3 cI F3 N3
    obtain ⟨x, t, ex, rfl⟩ := ints_get hv (show vs.toList[i]? = some v by rw [Array.getElem?_toList]; exact hvi)
    rw [List.getElem?_map] at ex
    obtain ⟨n, en, rfl⟩ := Option.map_eq_some_iff.mp ex
    have hn := hns n (List.mem_of_getElem? en)
    obtain ⟨items, epw, more, sg1, wh1⟩ := a
    obtain ⟨hs, hmD⟩ := hs
    dsimp only at hs hmD F3 N3
    clear F2 N2
    refine turn_abs fun R hR => ?_
    (repeat' ((fail_if_success (with_reducible show wpAny _ _ (subscriptTail _ _ _ _) _ _ _)); (fail_if_success (with_reducible show wpAny _ _ (exec (Stmt.For _ _ _ _ _) _) _ _ _)); (fail_if_success (with_reducible show wpAny _ _ (pyIter _) _ _ _)); (fail_if_success (with_reducible show wpAny _ _ (call (Value.builtin "list.append") _) _ _ _)); (first | walk1 | (dsimp only; walk1)); (try dsimp only)))
    rename_i q4 h4 F4 N4 _
    have hm3 : 0 ≤ (Int.ofNat n).fmod 3 ∧ (Int.ofNat n).fmod 3 < 3 := by
      have h := int_mod n 3
      rw [show (Int.ofNat n).fmod 3 = ((n % 3 : Nat) : Int) from h]; lia
    refine item_strsTT (ys := [Str.ofString "", Str.ofString " ", Str.ofString "\t"]) (l := [_, _, _]) ⟨_, (N4 _ (.head _)).1, rfl, _, rfl⟩ (.cons _ _ (.cons _ _ (.cons _ _ .nil))) hm3.1 hm3.2 (by lia) ?_
    intro t5
    rw [white_pick]
    have hwl : (tx (whiteB n)).length ≤ 1 := by
      rw [tx_len']; unfold whiteB; split <;> (try split) <;> simp
    (repeat' ((fail_if_success (with_reducible show wpAny _ _ (subscriptTail _ _ _ _) _ _ _)); (fail_if_success (with_reducible show wpAny _ _ (exec (Stmt.For _ _ _ _ _) _) _ _ _)); (fail_if_success (with_reducible show wpAny _ _ (pyIter _) _ _ _)); (fail_if_success (with_reducible show wpAny _ _ (call (Value.builtin "list.append") _) _ _ _)); (first | walk1 | (dsimp only; walk1)); (try dsimp only)))
    rename Fr _ _ _ _ => F5
    rename News _ _ _ _ => N5
    rename_i tW kW aW hW
    rw [sign_eq] at *
    rw [times_eq']
    refine PySem.SB.mul ?_ ?_
    · exact mul_ok _ _ (by unfold timesOf; lia)
    intro t6 k6
    rw [mul_sign]
    have hml : (tx (List.replicate (timesOf n) (signOf n))).length ≤ 2 := by
      rw [tx_len', List.length_replicate]; unfold timesOf; lia
    (repeat' ((fail_if_success (with_reducible show wpAny _ _ (subscriptTail _ _ _ _) _ _ _)); (fail_if_success (with_reducible show wpAny _ _ (exec (Stmt.For _ _ _ _ _) _) _ _ _)); (fail_if_success (with_reducible show wpAny _ _ (pyIter _) _ _ _)); (fail_if_success (with_reducible show wpAny _ _ (call (Value.builtin "list.append") _) _ _ _)); (first | walk1 | (dsimp only; walk1)); (try dsimp only)))
    rename News _ _ _ _ => N6
    rw [end_eq]
    refine item_strsTT (ys := [⟨#[signOf n]⟩, Str.ofString ",", Str.ofString ";"]) (l := [_, _, _]) ⟨_, (N6 _ (.head _)).1, rfl, _, rfl⟩ (.cons _ _ (.cons _ _ (.cons _ _ .nil))) (by lia) (by simp; lia) (by lia) ?_
    intro t7
    rw [end_pick]
    have hel : (⟨#[endOf n]⟩ : Str).length = 1 := rfl
    (repeat' ((fail_if_success (with_reducible show wpAny _ _ (subscriptTail _ _ _ _) _ _ _)); (fail_if_success (with_reducible show wpAny _ _ (exec (Stmt.For _ _ _ _ _) _) _ _ _)); (fail_if_success (with_reducible show wpAny _ _ (pyIter _) _ _ _)); (fail_if_success (with_reducible show wpAny _ _ (call (Value.builtin "list.append") _) _ _ _)); (first | walk1 | (dsimp only; walk1)); (try dsimp only)))
    rename_i q8 h8 F8 N8 l8
    refine list_append_at (N8 (D, _) (.tail _ (.tail _ (.tail _ (.tail _ (.head _)))))).1 (by rw [hs.1, List.length_map, List.length_take, sizeLine_eq]; lia) ?_
    intro h9 hD9 sb9
    have oD := N8 (D, _) (.tail _ (.tail _ (.tail _ (.tail _ (.head _)))))
    have F9 := fr_but F8 (kb_same (KB.refl [D] _) sb9 (.head _)) (fun b hb => by rw [List.mem_singleton.mp hb]; exact oD.2)
    have o8 := N8 (q8, _) (.head _)
    have hqD : q8 ≠ D := Nat.ne_of_gt (show D < q8 from l8.2.2.2.1)
    have hIq : q8 ≠ I := Nat.ne_of_gt (show I < q8 from l8.2.2.1)
    have N9 := news_words N8 sb9 hD9 hqD (Ne.symm (hne3 (D, _) (.head _))) hmD
    clear N8 F8
    try clear N3
    try clear F3
    (repeat' ((fail_if_success (with_reducible show wpAny _ _ (subscriptTail _ _ _ _) _ _ _)); (fail_if_success (with_reducible show wpAny _ _ (exec (Stmt.For _ _ _ _ _) _) _ _ _)); (fail_if_success (with_reducible show wpAny _ _ (pyIter _) _ _ _)); (fail_if_success (with_reducible show wpAny _ _ (call (Value.builtin "list.append") _) _ _ _)); (first | walk1 | (dsimp only; walk1)); (try dsimp only)))
    refine hR _ _ ?_
    refine ⟨_, (items.push (.ref q8), epw + 1, (q8, _) :: more, some (.str ⟨#[signOf n]⟩ (s3.toks + 6)), some (.str (⟨#[d]⟩ ++ tx (whiteB n)) tW)), ⟨sm3.1, sm3.2.1, sm3.2.2⟩, F9, N9, ?_, ?_, ?_, ?_⟩
    · intro q hq
      rcases List.mem_cons.mp hq with rfl | hq
      · exact hne3 (D, liO items epw) (.head _)
      rcases List.mem_cons.mp hq with rfl | hq
      · exact hIq
      · exact hne3 q (.tail _ hq)
    · intro y hy _
      refine lmap_agree [Str.ofString "words", Str.ofString "sign", Str.ofString "white", Str.ofString "first", Str.ofString "numbers"] ?g1 ?g2 ?gv y hy
      case g1 => rfl
      case g2 => rfl
      case gv => exact List.forall_mem_cons.mpr ⟨rfl, List.forall_mem_cons.mpr ⟨rfl, List.forall_mem_cons.mpr ⟨rfl, List.forall_mem_cons.mpr ⟨rfl, List.forall_mem_cons.mpr ⟨rfl, List.forall_mem_nil _⟩⟩⟩⟩⟩
    · have e : wordOf d n = (⟨#[d]⟩ ++ tx (whiteB n), tx (List.replicate (timesOf n) (signOf n)) ++ ⟨#[endOf n]⟩) := by
        unfold wordOf
        congr 1
        · apply tx_inj; rw [sg_tx, sg_append, sg_tx]; rfl
        · apply tx_inj; rw [sg_tx, sg_append, sg_tx]
      rw [List.take_add_one, en]
      simp only [Option.toList_some, List.map_append, List.map_cons, List.map_nil]
      rw [e]
      exact hs.push
    · intro q hq
      rcases List.mem_cons.mp hq with rfl | hq
      · exact hqD
      · exact hmD q hq
  · intro a u s3 hs sm3 F3 N3
    obtain ⟨hs, -⟩ := hs
    (repeat' ((fail_if_success (with_reducible show wpAny _ _ (subscriptTail _ _ _ _) _ _ _)); (fail_if_success (with_reducible show wpAny _ _ (exec (Stmt.For _ _ _ _ _) _) _ _ _)); (fail_if_success (with_reducible show wpAny _ _ (pyIter _) _ _ _)); (fail_if_success (with_reducible show wpAny _ _ (call (Value.builtin "list.append") _) _ _ _)); (first | walk1 | (dsimp only; walk1)); (try dsimp only)))
    rw [List.take_of_length_le (by have := hv.length; rw [Array.length_toList, List.length_map] at this; lia)] at hs
    exact hQ _ D a.1 a.2.1 ⟨sm3.1, sm3.2.1, sm3.2.2⟩ F3.keep (N3 _ (.head _)).2.2 (N3 _ (.head _)).1 (hs.at F3.keep fun z hz => (N3 z (.tail _ hz)).1)
end
section
set_option Elab.async false
set_option maxRecDepth 100000
open PySem PySem.W PyProof.Rows
theorem item_zero {x : Str} (h : 0 < x.length) : Txt.item x 0 = ⟨#[(sg x).headD 0]⟩ := by
  have h2 : 0 < x.cps.size := h
  have h3 : (sg x).headD 0 = x.cps.getD 0 0 := by
    cases x with | mk a => cases a with | mk l => cases l with
      | nil => exact absurd h2 (Nat.lt_irrefl 0)
      | cons c r => rfl
  rw [h3]
  have h4 : (0 : Int) < x.length := by lia
  simp [Txt.item, Txt.charAt, seqIndex?, h, h2]
section
variable {ps : List (Str × Str)} (hp : ∀ p ∈ ps, 0 < p.1.length ∧ 0 < p.2.length)
include hp
end
theorem cut_inj {c : Nat} : ∀ {a b r q : List Nat}, c ∉ a → c ∉ b → a ++ c :: r = b ++ c :: q → a = b ∧ r = q
  | [], [], _, _, _, _, h => ⟨rfl, (List.cons.inj h).2⟩
  | [], y :: b, _, _, _, hb, h => absurd (List.mem_cons.mpr (.inl (List.cons.inj h).1)) hb
  | x :: a, [], _, _, ha, _, h => absurd (List.mem_cons.mpr (.inl (List.cons.inj h).1.symm)) ha
  | x :: a, y :: b, _, _, ha, hb, h => by
    obtain ⟨e1, e2⟩ := List.cons.inj h
    obtain ⟨e3, e4⟩ := cut_inj (fun q => ha (List.mem_cons_of_mem _ q)) (fun q => hb (List.mem_cons_of_mem _ q)) e2
    exact ⟨by rw [e1, e3], e4⟩
theorem sg_join2 (c : Nat) (a b : Str) (r : List Str) : sg (Str.join ⟨#[c]⟩ (a :: b :: r)) = sg a ++ c :: sg (Str.join ⟨#[c]⟩ (b :: r)) := by
  show sg (a ++ ⟨#[c]⟩ ++ Str.join ⟨#[c]⟩ (b :: r)) = _
  rw [sg_append, sg_append, List.append_assoc]; rfl
theorem join_inj (c : Nat) : ∀ {A B : List Str}, A ≠ [] → B ≠ [] → (∀ z ∈ A, c ∉ sg z) → (∀ z ∈ B, c ∉ sg z) → sg (Str.join ⟨#[c]⟩ A) = sg (Str.join ⟨#[c]⟩ B) → A = B
  | [], _, h, _, _, _, _ => absurd rfl h
  | _ :: _, [], _, h, _, _, _ => absurd rfl h
  | [a], [b], _, _, _, _, h => by rw [show a = b from tx_inj h]
  | [a], b :: b' :: r, _, _, ha, _, h => by
    rw [sg_join2] at h
    exact absurd (show c ∈ sg a by rw [show sg a = _ from h]; exact List.mem_append_right _ (.head _)) (ha a (.head _))
  | a :: a' :: r, [b], _, _, _, hb, h => by
    rw [sg_join2] at h
    exact absurd (show c ∈ sg b by rw [show sg b = _ from h.symm]; exact List.mem_append_right _ (.head _)) (hb b (.head _))
  | a :: a' :: r, b :: b' :: q, _, _, ha, hb, h => by
    rw [sg_join2, sg_join2] at h
    obtain ⟨e1, e2⟩ := cut_inj (ha a (.head _)) (hb b (.head _)) h
    rw [tx_inj e1, join_inj c (by simp) (by simp) (fun z hz => ha z (List.mem_cons_of_mem _ hz)) (fun z hz => hb z (List.mem_cons_of_mem _ hz)) e2]
theorem split_ne (x y : Str) : Txt.split x y ≠ [] := by
  unfold Txt.split
  split
  · simp
  · split
    · simp
    · intro q
      have := congrArg List.length q
      rw [len_partsBetween] at this
      cases this
theorem split_join {c : Nat} {rows : List Str} (hne : rows ≠ []) (h : ∀ r ∈ rows, c ∉ sg r) : Txt.split (Txt.join ⟨#[c]⟩ rows) ⟨#[c]⟩ = rows := by
  rw [txt_join]
  exact join_inj c (split_ne _ _) hne (fun z hz => PySem.StrLaws.split_free _ c z hz) h (by rw [PySem.StrLaws.join_split])
end
section
open PySem PySem.W PyProof.Rows PySem.Calls
set_option Elab.async false
set_option maxRecDepth 100000
theorem sign_lt (n : Nat) : 33 ≤ signOf n ∧ signOf n < 127 := by unfold signOf; lia
theorem end_lt (n : Nat) : 33 ≤ endOf n ∧ endOf n < 127 := by
  have := sign_lt n
  unfold endOf
  split
  · exact this
  · split <;> lia
theorem space_no {c : Nat} (h : 33 ≤ c ∧ c < 127) : Unicode.isSpace c = false := by
  have key : ∀ k, k < 94 → Unicode.isSpace (33 + k) = false := by decide +kernel
  have := key (c - 33) (by lia)
  rwa [show 33 + (c - 33) = c by lia] at this
theorem word_signs {d n c : Nat} (hd : d = 32 ∨ d = 9) (h : c ∈ sg (wordOf d n).1 ∨ c ∈ sg (wordOf d n).2) : (c = 32 ∨ c = 9) ∨ 33 ≤ c ∧ c < 127 := by
  have h1 := sign_lt n
  have h2 := end_lt n
  unfold wordOf at h
  dsimp only at h
  rw [sg_tx, sg_tx] at h
  rcases h with h | h
  · rcases List.mem_cons.mp h with rfl | h
    · exact .inl hd
    · unfold whiteB at h
      split at h
      · cases h
      · split at h
        · rw [List.mem_singleton.mp h]; exact .inl (.inl rfl)
        · rw [List.mem_singleton.mp h]; exact .inl (.inr rfl)
  · rcases List.mem_append.mp h with h | h
    · rw [List.eq_of_mem_replicate h]; exact .inr h1
    · rw [List.mem_singleton.mp h]; exact .inr h2
theorem white_len (n : Nat) : (whiteB n).length ≤ 1 := by
  unfold whiteB
  split
  · decide
  · split <;> decide
theorem word_len (d n : Nat) : (wordOf d n).1.length + (wordOf d n).2.length ≤ 6 ∧ 0 < (wordOf d n).1.length ∧ 0 < (wordOf d n).2.length := by
  have h1 : (wordOf d n).1.length = (whiteB n).length + 1 := by unfold wordOf; rw [tx_len]; rfl
  have h2 : (wordOf d n).2.length = timesOf n + 1 := by unfold wordOf; rw [tx_len]; simp
  have h3 := white_len n
  have h4 : timesOf n ≤ 2 := by unfold timesOf; lia
  lia
theorem words_sum (d : Nat) : ∀ ns : List Nat, sumLen (ns.map (wordOf d)) ≤ 6 * ns.length
  | [] => Nat.le_refl _
  | n :: r => by
    have := words_sum d r
    have := (word_len d n).1
    rw [List.map_cons, List.length_cons]
    simp only [sumLen]
    lia
structure WordsOk (d : Nat) (ps : List (Str × Str)) : Prop where
  hd : d = 32 ∨ d = 9
  sum : sumLen ps ≤ 6 * ps.length
  pos : ∀ p ∈ ps, 0 < p.1.length ∧ 0 < p.2.length
  wordy : Wordy ps
  head : ∀ p ∈ ps, ∃ t, sg p.1 = d :: t
  white : ∀ p ∈ ps, Txt.isspace (Txt.item p.1 0) = true
  sign : ∀ c ∈ partsTx ps, c < 256 ∧ c ≠ 10
theorem words_ok {d : Nat} (hd : d = 32 ∨ d = 9) (ns : List Nat) : WordsOk d (ns.map (wordOf d)) := by
  have pos : ∀ p ∈ ns.map (wordOf d), 0 < p.1.length ∧ 0 < p.2.length := fun p hp => by
    obtain ⟨n, hn, rfl⟩ := List.mem_map.mp hp
    exact (word_len d n).2
  have hh : ∀ p ∈ ns.map (wordOf d), ∃ t, sg p.1 = d :: t := fun p hp => by
    obtain ⟨n, hn, rfl⟩ := List.mem_map.mp hp
    exact ⟨whiteB n, by unfold wordOf; rw [sg_tx]⟩
  refine ⟨hd, ?_, pos, ?_, hh, ?_, ?_⟩
  · have := words_sum d ns
    rwa [List.length_map]
  · intro p hp
    refine ⟨(pos p hp).1, ?_⟩
    obtain ⟨n, hn, rfl⟩ := List.mem_map.mp hp
    refine ⟨endOf n, ?_, space_no (end_lt n)⟩
    unfold wordOf
    rw [sg_tx]
    exact List.mem_append_right _ (.head _)
  · intro p hp
    rw [item_zero (pos p hp).1]
    obtain ⟨t, ht⟩ := hh p hp
    rw [ht]
    show Txt.isspace ⟨#[d]⟩ = true
    rcases hd with rfl | rfl <;> decide +kernel
  · intro c hc
    obtain ⟨p, hp, hc⟩ := List.mem_flatMap.mp hc
    obtain ⟨n, hn, rfl⟩ := List.mem_map.mp hp
    have := word_signs hd (List.mem_append.mp hc)
    lia
theorem rows_split {ps : List (Str × Str)} {z : Str} {W room : Nat} (hw : ∀ p ∈ ps, Txt.isspace (Txt.item p.1 0) = true) (hpos : ∀ p ∈ ps, 0 < p.1.length ∧ 0 < p.2.length) (hne : ps ≠ []) (hs : ∀ c ∈ partsTx ps, c ≠ 10) :
    Txt.split (Txt.join (Str.ofString "\n") (rowsS (sg z) W room ps)) (Str.ofString "\n") = rowsS (sg z) W room ps := by
  have e : Str.ofString "\n" = ⟨#[10]⟩ := rfl
  rw [e]
  refine split_join (by unfold rowsS; simp) fun r hr q => ?_
  have h2 := (rows_page (z := z) (W := W) (room := room) hw (fun p hp => (hpos p hp).1) hne).2.1
  exact hs 10 (by rw [← h2]; exact List.mem_flatMap.mpr ⟨r, hr, q⟩) rfl
theorem rows_join {ps : List (Str × Str)} {z : Str} {W room : Nat} (hw : ∀ p ∈ ps, Txt.isspace (Txt.item p.1 0) = true) (hpos : ∀ p ∈ ps, 0 < p.1.length ∧ 0 < p.2.length) (hne : ps ≠ []) :
    Txt.join (Str.ofString "") (rowsS (sg z) W room ps) = tx (partsTx ps) := by
  apply tx_inj
  rw [sg_join _ (by decide), sg_tx]
  exact (rows_page (z := z) (W := W) (room := room) hw (fun p hp => (hpos p hp).1) hne).2.1
theorem flat_len : ∀ rs : List Str, (rs.map (·.length)).sum = (rs.flatMap sg).length
  | [] => rfl
  | r :: rs => by rw [List.map_cons, List.sum_cons, flat_len rs, List.flatMap_cons, List.length_append, sg_len]
theorem rows_len {ps : List (Str × Str)} {z : Str} {W room : Nat} (hw : ∀ p ∈ ps, Txt.isspace (Txt.item p.1 0) = true) (hpos : ∀ p ∈ ps, 0 < p.1.length ∧ 0 < p.2.length) (hne : ps ≠ []) :
    ((rowsS (sg z) W room ps).map (·.length)).sum = sumLen ps ∧ (rowsS (sg z) W room ps).length ≤ ps.length + 1 ∧ rowsS (sg z) W room ps ≠ [] := by
  refine ⟨?_, ?_, by unfold rowsS; simp⟩
  · rw [flat_len, (rows_page (z := z) (W := W) (room := room) hw (fun p hp => (hpos p hp).1) hne).2.1, partsTx_len]
  · have := (chunks_inv (sg z) W room ps ps.length (Nat.le_refl _)).lls
    rw [List.take_length] at this
    unfold rowsS
    rw [List.length_append, List.length_singleton]
    lia
end
section
open PySem PySem.W PyProof.Rows PySem.Calls
set_option Elab.async false
set_option maxRecDepth 100000
section
variable {prog : Program} {w : World} {A : Around} {s : Shared} {K : Frag} {p : Program} {loose : List Str} {mg mb : Str → Option Value}
theorem enterCellsH {Q : Value → Shared → Prop} {E : Value → Shared → Prop} {name qual : Str} {params : Arguments} {body : List Stmt} {scope : Scope} {dV kV doc pm cdv ct oc : Value} {an od : Option Addr} {osl : Array (Option Value)} {f : Addr} {vs : List Value} {binds : List (Str × Value)}
    {fp : List Addr} (news : List (Addr × Obj))
    (C : Sx K p loose mg mb fp s.heap)
    (ho : K.lookup f = some ⟨oc, od, .func (fnX name qual params body scope [] dV kV doc pm an cdv ct), osl⟩) (hcd : codeIn K cdv qual = true) (hroom : A.depth < recursionLimit)
    (hbind : BindsTo s (fnX name qual params body scope [] dV kV doc pm an cdv ct) ⟨vs, []⟩ binds)
    (hkind : ∀ n, ∀ x ∈ binds, scope.names.lookup x.1 = some .local ∨ (scope.names.lookup x.1 = some .cell ∧ ((cellsFrom n scope.names []).lookup x.1).isSome = true))
    (hnd : ((cellsFrom 0 scope.names []).map (·.1)).Nodup)
    (hn : ∀ q ∈ news, q.1 ∈ fp ∧ s.heap.get? q.1 = some q.2)
    (h : ∀ L' h₁ tk cells, Fr (hideAll s.heap fp) L' h₁ (bindL (envOfC qual scope L' f cdv).kindOf binds fun _ => none) → News (hideAll s.heap fp) L' h₁ (news ++ cells) →
      CellsAre (bindC (envOfC qual scope L' f cdv).kindOf binds fun _ => none) (cellsFrom (L' + 1) scope.names []) cells → K.In (hideAll s.heap fp) → TopRead p loose mg mb (hideAll s.heap fp) →
      wpAny (model prog w) (A.deeper (envOfC qual scope L' f cdv)) (execs body (envOfC qual scope L' f cdv))
        (fun fl s' => Q (match fl with | .ret v => v | _ => .none) s') NoE { s with heap := h₁, toks := tk })
    (hco : scope.isCoroutine = false) (hgen : scope.isGenerator = false) (hk : scope.kind = .function) : wpAny (model prog w) A (call (.ref f) vs) Q E s := by
  refine enterCells C.cx ho hcd hroom hbind hkind hnd (fun L' h₁ tk cells F N Y _ _ => ?_) hco hgen hk
  have hs : (hideAll s.heap fp).objs.size = s.heap.objs.size := hideAll_size _ _
  refine h L' h₁ tk cells ⟨F.ns, fun b o e => F.keep b o (of_hideAll _ e), by rw [hs]; exact F.above⟩ (fun q hq => ?_) Y C.X C.T
  rcases List.mem_append.mp hq with hq | hq
  · obtain ⟨a, e⟩ := hn q hq
    have hlt : q.1 < s.heap.objs.size := Heap.lt_size e
    exact ⟨F.keep _ _ e, Nat.ne_of_lt (Nat.lt_of_lt_of_le hlt F.above), hideAll_none _ a⟩
  · have := N q hq
    refine ⟨this.1, this.2.1, ?_⟩
    cases z : (hideAll s.heap fp).get? q.1 with
    | none => rfl
    | some o => rw [of_hideAll _ z] at this; cases this.2.2
end
end
section
open PySem PySem.W PyProof.Rows PySem.Calls PySem.Spec
set_option Elab.async false
set_option maxRecDepth 100000
set_option linter.unusedVariables false
noncomputable abbrev tupN (items : Array Value) (ep : Nat) : Obj := { cls := .type "tuple", data := .seq items ep }
section
variable {prog : Program} {w : World} {A : Around} {s : Shared} {env : Env} {h₀ : Heap}
theorem iter_tup {σ : Type} {Q : Flow → Shared → Prop} {x : Str} {px : Pos} {body : List Stmt} {l : Addr} {items : Array Value} {ep : Nat} {m₀ : Str → Option Value}
    (mk : Nat → σ → List (Str × Option Value)) (nw : Nat → σ → List (Addr × Obj)) (side : Nat → σ → Heap → Prop) (a₀ : σ) (hst : ∀ i a h h', side i a h → (∀ q ∈ nw i a, h'.get? q.1 = some q.2) → KT h h' → side i a h')
    (hh : A.handled = none) (hl : ∀ i a, (l, tupN items ep) ∈ nw i a)
    (F : Fr h₀ env.locals s.heap m₀) (hm : ∀ y, y ≠ x → m₀ y = lmap (mk 0 a₀) y) (N : News h₀ env.locals s.heap (nw 0 a₀)) (h0 : side 0 a₀ s.heap)
    (turn : ∀ i v a (s₁ : Shared) I oI, items[i]? = some v → side i a s₁.heap → Sm s s₁ → (∀ q ∈ nw i a, q.1 ≠ I) → oI.cls = .type "tuple_iterator" → Fr h₀ env.locals s₁.heap (lmap ((x, some v) :: mk i a)) → News h₀ env.locals s₁.heap ((I, oI) :: nw i a) →
      wpAny (model prog w) A (execs body env) (TurnS h₀ env.locals x x I oI (mk (i + 1)) (nw (i + 1)) (side (i + 1)) s Q) NoE s₁)
    (done : ∀ a u1 (s₁ : Shared), side items.size a s₁.heap → Sm s s₁ → Fr h₀ env.locals s₁.heap (lmap ((x, u1) :: mk items.size a)) → News h₀ env.locals s₁.heap (nw items.size a) → Q .next s₁)
    (hx : env.kindOf x = some .local := by rfl)
    (hpp : (env.scope.kind == .class || (env.scope.kind == .module && env.locals != env.globals)) = false := by rfl) :
    wpAny (model prog w) A (pyIter (.ref l)) (fun it s₂ => codeAny (model prog w) A (.forLoop (.Name x px) it body [] env) (fun r s' => match r with | .ok f => Q f s' | .error e => cameBackBy (model prog w) A env NoE e s') s₂) NoE s := by
  refine wpAny_pyIter_tuple ⟨_, (N _ (hl 0 a₀)).1, rfl, _, rfl⟩ ?_
  have hI0 : h₀.get? s.heap.objs.size = none := fr_new F
  have hIL : s.heap.objs.size ≠ env.locals := Nat.ne_of_gt F.ns.lt
  have F1 := F.push { cls := .type "tuple_iterator", data := .fields #[.ref l, .int 0 0] }
  have N1 := news_push N { cls := .type "tuple_iterator", data := .fields #[.ref l, .int 0 0] }
  have hne1 : ∀ q ∈ nw 0 a₀, q.1 ≠ s.heap.objs.size := fun q hq => Nat.ne_of_lt (Heap.lt_size (N q hq).1)
  have s1 := hst 0 a₀ _ _ h0 (fun q hq => (N1 q hq).1) (Kp.kt fun b o e => Heap.get?_push_of_some _ e)
  have i1 : (s.heap.push { cls := .type "tuple_iterator", data := .fields #[.ref l, .int 0 0] }).IsTupleIter s.heap.objs.size l 0 := ⟨_, Heap.get?_push_size _ rfl, rfl, rfl⟩
  generalize s.heap.objs.size = I at *
  generalize s.heap.push { cls := .type "tuple_iterator", data := .fields #[.ref l, .int 0 0] } = g1 at *
  obtain ⟨P, hI, hE⟩ : ∃ P : Nat → Shared → Prop, (∀ (s' : Shared) m' a i, Sm s s' → s'.heap.IsTupleIter I l i → Fr h₀ env.locals s'.heap m' → News h₀ env.locals s'.heap (nw i a) → (∀ q ∈ nw i a, q.1 ≠ I) → (∀ y, y ≠ x → m' y = lmap (mk i a) y) → side i a s'.heap → i ≤ items.size → P (items.size + 1 - i) s') ∧ ∀ kk s' (G : Prop), P kk s' → (∀ m' a i, Sm s s' → s'.heap.IsTupleIter I l i → Fr h₀ env.locals s'.heap m' → News h₀ env.locals s'.heap (nw i a) → (∀ q ∈ nw i a, q.1 ≠ I) → (∀ y, y ≠ x → m' y = lmap (mk i a) y) → side i a s'.heap → i ≤ items.size → kk = items.size + 1 - i → G) → G :=
    ⟨fun kk s' => ∀ G : Prop, _ → G, fun s' m' a i y0 y1 y2 y3 y4 y5 y6 y7 G f => f m' a i y0 y1 y2 y3 y4 y5 y6 y7 rfl, fun _ _ _ x f => x _ f⟩
  refine loop_abs fun R hR => ?_
  refine codeAny_forLoop_any P ?_ (items.size + 1) (hI _ m₀ a₀ 0 ⟨rfl, rfl, fun x => x⟩ i1 F1 N1 hne1 hm s1 (Nat.zero_le _))
  intro kk s' hk'
  refine hE kk s' _ hk' ?_
  clear hE hk'
  rintro m' a i sm hit F' N' hne hm' hs' hi rfl
  have hseq : s'.heap.IsTuple l items := ⟨_, (N' _ (hl i a)).1, rfl, _, rfl⟩
  have fr1 : ∀ h1 : Heap, (∀ b o, b ≠ I → s'.heap.get? b = some o → h1.get? b = some o) → Fr h₀ env.locals h1 m' ∧ News h₀ env.locals h1 (nw i a) := fun h1 k1 =>
    ⟨⟨F'.ns.at' fun o e => k1 _ o (Ne.symm hIL) e, fun b o e => k1 b o (fun z => by rw [z, hI0] at e; cases e) (F'.keep b o e), F'.above⟩, fun q hq => ⟨k1 _ _ (hne q hq) (N' q hq).1, (N' q hq).2⟩⟩
  by_cases hlt : i < items.size
  · obtain ⟨v, e1⟩ : ∃ v, items[i]? = some v := ⟨_, Array.getElem?_eq_getElem hlt⟩
    refine wpAny_pyNext_tuple_item hit hseq e1 fun h1 hit1 sb1 => ?_
    obtain ⟨oI, eI, cI, dI⟩ := id hit
    have kt1 : KT s'.heap h1 := KT.but sb1.extBut eI (by rw [cI]; simp)
    obtain ⟨F1', N1'⟩ := fr1 h1 sb1.extBut
    dsimp only
    refine wpAny_of_eq (a := ()) rfl ?_
    refine wpAny_assign_Name (wpAny_storeName_local hx F1'.ns (fun h2 hn2 sb2 => ?_) hpp)
    have k2 := sb2.extBut
    have F2 : Fr h₀ env.locals h2 (lmap ((x, some v) :: mk i a)) := by
      have F2' := F1'.set hn2 sb2
      have e : (fun y => if y = x then some v else m' y) = lmap ((x, some v) :: mk i a) := by
        funext y
        show _ = if y = x then some v else lmap (mk i a) y
        by_cases hy : y = x
        · simp [hy]
        · simp only [if_neg hy]; exact hm' y hy
      rw [e] at F2'; exact F2'
    have hit2 : h2.IsTupleIter I l (i + 1) := hit1.at fun o e => k2 _ o hIL e
    obtain ⟨o2, eo2, co2, do2⟩ := id hit2
    have N2 : News h₀ env.locals h2 ((I, o2) :: nw i a) := fun q hq => by
      rcases List.mem_cons.mp hq with rfl | hq
      · exact ⟨eo2, hIL, hI0⟩
      · exact ⟨k2 _ _ (N1' q hq).2.1 (N1' q hq).1, (N1' q hq).2⟩
    have hs2 := hst i a _ _ hs' (fun q hq => (N2 q (.tail _ hq)).1) (kt1.trans (KT.ns k2 F1'.ns))
    refine wpAny_mono (turn i v a _ I o2 e1 hs2 ⟨sm.1, sm.2.1, sm.2.2⟩ hne co2 F2 N2) (fun f s₃ h₃ => ?_) fun _ _ x => x.elim
    have fin : TurnS h₀ env.locals x x I o2 (mk (i + 1)) (nw (i + 1)) (side (i + 1)) s Q .next s₃ → ∃ kk, kk < items.size + 1 - i ∧ P kk s₃ := by
      rintro ⟨m2, a', sm3, F3, N3, hne3, hm3, hs3⟩
      exact ⟨items.size + 1 - (i + 1), by (with_reducible exact nnF (by assumption)), hI _ m2 a' (i + 1) sm3 ⟨o2, (N3 _ (.head _)).1, co2, do2⟩ F3 (fun q hq => N3 q (List.mem_cons_of_mem _ hq)) hne3 (fun y hy => hm3 y hy hy) hs3 hlt⟩
    cases f with
    | brk => exact hR _ _ h₃
    | ret v => exact hR _ _ h₃
    | next => exact fin h₃
    | cont => exact fin h₃
  · have hin : i = items.size := by (with_reducible exact nnG (by assumption) (by assumption))
    subst hin
    refine wpAny_pyNext_tuple_end hh hit hseq (Array.getElem?_eq_none (Nat.le_refl _)) fun h1 hk1 => ?_
    obtain ⟨F1', N1'⟩ := fr1 h1 hk1
    have e : lmap ((x, m' x) :: mk items.size a) = m' := by
      funext y
      show (if y = x then m' x else lmap (mk items.size a) y) = _
      by_cases hy : y = x
      · simp [hy]
      · simp only [if_neg hy]; exact (hm' y hy).symm
    refine wpAny_of_eq (a := Flow.next) rfl ?_
    obtain ⟨oI, eI, cI, dI⟩ := id hit
    have hs2 := hst _ a _ _ hs' (fun q hq => (N1' q hq).1) (KT.but hk1 eI (by rw [cI]; simp))
    exact hR _ _ (done a (m' x) _ hs2 ⟨sm.1, sm.2.1, sm.2.2⟩ (by rw [e]; exact F1') N1')
end
section
variable {M : Model} {A : Around} {E : Value → Shared → Prop} {s : Shared} {h₀ : Heap} {L : Addr} {m : Str → Option Value} {env : Env}
theorem store_cell {x : Str} {v : Value} {v₀ : Option Value} {c : Addr} {o : Obj} {pre rest : List (Addr × Obj)} {Q : Unit → Shared → Prop} (F : Fr h₀ L s.heap m) (N : News h₀ L s.heap (pre ++ (c, o) :: rest)) (h1 : ∀ z ∈ pre, z.1 ≠ c ∨ ∀ u, z.2.data ≠ .cell u) (h2 : ∀ z ∈ rest, z.1 ≠ c ∨ ∀ u, z.2.data ≠ .cell u) (hd : o.data = .cell v₀)
    (hk : env.scope.kind = .function) (hx : env.kindOf x = some .cell) (hc : env.cells.lookup x = some c)
    (h : ∀ h' o', Fr h₀ L h' m → News h₀ L h' (pre ++ (c, o') :: rest) → o'.data = .cell (some v) → Q () { s with heap := h' }) : wpAny M A (storeName env x v) Q E s := by
  have hm := N (c, o) (List.mem_append_right _ (.head _))
  refine wpAny_storeName_cell hk hx hc ⟨o, hm.1, hd⟩ fun h' hv hs => ?_
  obtain ⟨o', ho', hd'⟩ := hv
  have ap : ∀ z : Addr × Obj, s.heap.get? z.1 = some z.2 → (z.1 ≠ c ∨ ∀ u, z.2.data ≠ .cell u) → z.1 ≠ c := fun z e q r => by
    rcases q with q | q
    · exact q r
    · rw [r, hm.1] at e
      exact q v₀ (by rw [← Option.some.inj e]; exact hd)
  have k := hs.extBut
  refine h h' o' ⟨F.ns.sameBut hs (Ne.symm hm.2.1), fun b ob e => k b ob (fun q => ?_) (F.keep b ob e), F.above⟩ (fun q hq => ?_) hd'
  · rw [q, hm.2.2] at e; cases e
  · rcases List.mem_append.mp hq with hq | hq
    · have := N q (List.mem_append_left _ hq)
      exact ⟨k _ _ (ap q this.1 (h1 q hq)) this.1, this.2⟩
    · rcases List.mem_cons.mp hq with rfl | hq
      · exact ⟨ho', hm.2⟩
      · have := N q (List.mem_append_right _ (.tail _ hq))
        exact ⟨k _ _ (ap q this.1 (h2 q hq)) this.1, this.2⟩
end
end
section
open PySem PySem.W PyProof.Rows PySem.Calls
set_option Elab.async false
set_option maxRecDepth 100000
noncomputable def PartsL (g : Heap) (T : List (Addr × Obj)) (items : Array Value) (ps : List (Str × Str)) : Prop :=
  items.size = ps.length ∧ ∀ (i : Nat) (p : Str × Str), ps[i]? = some p → ∃ a t u o, items[i]? = some (.ref a) ∧ (o.cls = .type "tuple" ∧ ∃ n, o.data = .seq #[.str p.1 t, .str p.2 u] n) ∧ (g.get? a = some o ∨ (a, o) ∈ T)
theorem PartsL.at {g h : Heap} {T : List (Addr × Obj)} {items : Array Value} {ps : List (Str × Str)} (x : PartsL g T items ps) (k : ∀ b o, g.get? b = some o → h.get? b = some o) (n : ∀ z ∈ T, h.get? z.1 = some z.2) : PartsAt h items ps :=
  ⟨x.1, fun i p e => by
    obtain ⟨a, t, u, o, e1, ⟨c, d⟩, r⟩ := x.2 i p e
    have e2 := tsOf_of e1
    refine ⟨by rw [e2]; exact e1, t, u, o, ?_, c, d⟩
    rw [e2]
    rcases r with r | r
    · exact k _ _ r
    · exact n _ r⟩
theorem parts_ledger {g h : Heap} {items : Array Value} {ps : List (Str × Str)} (k : ∀ b o, g.get? b = some o → h.get? b = some o) (x : PartsAt h items ps) :
    ∃ T : List (Addr × Obj), (∀ q ∈ T, h.get? q.1 = some q.2 ∧ g.get? q.1 = none ∧ q.2.cls = .type "tuple" ∧ ∃ v n, q.2.data = .seq v n) ∧ PartsL g T items ps := by
  have key : ∀ n, ∃ T : List (Addr × Obj), (∀ q ∈ T, h.get? q.1 = some q.2 ∧ g.get? q.1 = none ∧ q.2.cls = .type "tuple" ∧ ∃ v n, q.2.data = .seq v n) ∧
      ∀ (i : Nat) (p : Str × Str), i < n → ps[i]? = some p → ∃ a t u o, items[i]? = some (.ref a) ∧ (o.cls = .type "tuple" ∧ ∃ n, o.data = .seq #[.str p.1 t, .str p.2 u] n) ∧ (g.get? a = some o ∨ (a, o) ∈ T) := by
    intro n
    induction n with
    | zero => exact ⟨[], (fun q hq => by cases hq), fun i p hi => absurd hi (Nat.not_lt_zero _)⟩
    | succ n ih =>
      obtain ⟨T, hT, hP⟩ := ih
      cases hr : ps[n]? with
      | none =>
        refine ⟨T, hT, fun i p hi e => ?_⟩
        by_cases q : i < n
        · exact hP i p q e
        · rw [show i = n by (with_reducible exact nnP (by assumption) (by assumption)), hr] at e; cases e
      | some p0 =>
        obtain ⟨e1, t, u, o, eo, c, m, d⟩ := x.2 n p0 hr
        cases hg : g.get? (tsOf items n) with
        | some o' =>
          refine ⟨T, hT, fun i p hi e => ?_⟩
          by_cases q : i < n
          · exact hP i p q e
          · have hin : i = n := by (with_reducible exact nnP (by assumption) (by assumption))
            subst hin
            rw [hr] at e
            cases e
            have := k _ _ hg
            rw [eo] at this
            cases this
            exact ⟨_, t, u, o, e1, ⟨c, m, d⟩, .inl hg⟩
        | none =>
          refine ⟨(tsOf items n, o) :: T, fun q hq => ?_, fun i p hi e => ?_⟩
          · rcases List.mem_cons.mp hq with rfl | hq
            · exact ⟨eo, hg, c, _, m, d⟩
            · exact hT q hq
          · by_cases q : i < n
            · obtain ⟨a', t', u', o', f1, f2, f3⟩ := hP i p q e
              exact ⟨a', t', u', o', f1, f2, f3.imp id (List.mem_cons_of_mem _)⟩
            · have hin : i = n := by (with_reducible exact nnP (by assumption) (by assumption))
              subst hin
              rw [hr] at e
              cases e
              exact ⟨_, t, u, o, e1, ⟨c, m, d⟩, .inr (.head _)⟩
  obtain ⟨T, hT, hP⟩ := key ps.length
  exact ⟨T, hT, x.1, fun i p e => hP i p (List.getElem?_eq_some_iff.mp e).1 e⟩
end
section
open PySem PySem.W PyProof.Rows PySem.Calls
set_option Elab.async false
set_option maxRecDepth 100000
section
variable {prog : Program} {w : World} {A : Around} {E : Value → Shared → Prop} {s : Shared} {env : Env} {mg m : Str → Option Value} {xa : Str}
end
end
section
open PySem PySem.W PyProof.Rows PySem.Calls
set_option Elab.async false
set_option maxRecDepth 100000
set_option maxHeartbeats 8000000

theorem fillLw : PySem.Challenge.rw_pe0168_01 = PySem.Challenge.rw_pe0168_01 → Mine.hd.heap_1 = Mine.hd.heap_1 := by
  k_fill
  intro _; rfl


theorem ints_drop : ∀ {vs : List Value} {xs : List Int}, IntsAre vs xs → ∀ k, IntsAre (vs.drop k) (xs.drop k)
  | _, _, h, 0 => h
  | _, _, .nil, _ + 1 => .nil
  | _, _, .cons _ _ r, k + 1 => ints_drop r k
theorem five_nums {ds : List Int} (hds : ∀ d ∈ ds, 0 ≤ d ∧ d < 1000000) (hdl : ds.length ≤ 6) : ∃ ns : List Nat, ds ++ List.drop ds.length [1743, 1755, 1794, 1819, 1853, 1863] = ns.map Int.ofNat ∧ ns.length = 6 ∧ ∀ n ∈ ns, n < 1000000 := by
  have e : ∀ d ∈ ds ++ List.drop ds.length [1743, 1755, 1794, 1819, 1853, 1863], 0 ≤ d ∧ d < 1000000 := fun d hd => by
    rcases List.mem_append.mp hd with h | h
    · exact hds d h
    · have := List.mem_of_mem_drop h
      simp only [List.mem_cons, List.not_mem_nil, or_false] at this
      lia
  refine ⟨(ds ++ List.drop ds.length [1743, 1755, 1794, 1819, 1853, 1863]).map Int.toNat, ?_, ?_, fun n hn => ?_⟩
  · rw [List.map_map]
    conv => lhs; rw [← List.map_id (ds ++ List.drop ds.length [1743, 1755, 1794, 1819, 1853, 1863])]
    refine List.map_congr_left fun d hd => ?_
    have := e d hd
    show d = ((d.toNat : Nat) : Int)
    lia
  · rw [List.length_map, List.length_append, List.length_drop]; simp; lia
  · obtain ⟨d, hd, rfl⟩ := List.mem_map.mp hn
    have := e d hd
    lia
theorem sum_nat : ∀ ns : List Nat, ∃ S : Nat, (List.map Int.ofNat ns).sum = (S : Int)
  | [] => ⟨0, rfl⟩
  | n :: r => by
    obtain ⟨S, h⟩ := sum_nat r
    exact ⟨n + S, by rw [List.map_cons, List.sum_cons, h]; show (n : Int) + S = _; lia⟩
theorem menu_len (i : Nat) : (List.getD [Str.ofString ";, \t", Str.ofString ",;", Str.ofString "\t;,", Str.ofString ";", Str.ofString ", ", Str.ofString ""] i Str.empty).length ≤ 4 := by
  match i with
  | 0 => decide
  | 1 => decide
  | 2 => decide
  | 3 => decide
  | 4 => decide
  | 5 => decide
  | k + 6 => exact Nat.zero_le _
theorem rooms (i : Nat) : ∃ r : Nat, List.getD [0, 4, 9] i (0 : Int) = (r : Int) ∧ r ≤ 9 := by
  match i with
  | 0 => exact ⟨0, rfl, by decide⟩
  | 1 => exact ⟨4, rfl, by decide⟩
  | 2 => exact ⟨9, rfl, by decide⟩
  | k + 3 => exact ⟨0, rfl, by decide⟩
theorem first_sign (S : Nat) : ∃ d : Nat, Txt.item (Str.ofString " \t") (Int.fmod (S : Int) 2) = ⟨#[d]⟩ ∧ (d = 32 ∨ d = 9) := by
  have h : 0 ≤ Int.fmod (S : Int) 2 ∧ Int.fmod (S : Int) 2 < 2 := ⟨Int.fmod_nonneg_of_pos _ (by decide), Int.fmod_lt_of_pos _ (by decide)⟩
  generalize Int.fmod (S : Int) 2 = k at h
  rcases (show k = 0 ∨ k = 1 by lia) with rfl | rfl
  · exact ⟨32, by decide, .inl rfl⟩
  · exact ⟨9, by decide, .inr rfl⟩
noncomputable def catAt (ps : List (Str × Str)) (i : Nat) : Str := match ps[i]? with | some p => p.1 ++ p.2 | none => Str.empty
theorem strs_at : ∀ (l : List Value) (f : Nat → Str), (∀ (i : Nat) (v : Value), l[i]? = some v → ∃ t, v = .str (f i) t) → StrsAre l ((List.range l.length).map f)
  | [], _, _ => .nil
  | v :: r, f, h => by
    obtain ⟨t, rfl⟩ := h 0 v rfl
    rw [List.length_cons, List.range_succ_eq_map, List.map_cons, List.map_map]
    exact .cons _ _ (strs_at r (f ∘ Nat.succ) fun i v e => h (i + 1) v e)
theorem cat_map (ps : List (Str × Str)) : (List.range ps.length).map (catAt ps) = ps.map fun p => p.1 ++ p.2 := by
  apply List.ext_getElem?
  intro j
  by_cases hj : j < ps.length
  · simp [hj, catAt]
  · rw [List.getElem?_eq_none (by simpa using Nat.le_of_not_lt hj), List.getElem?_eq_none (by simpa using Nat.le_of_not_lt hj)]
theorem cat_len (ps : List (Str × Str)) : (((List.range ps.length).map (catAt ps)).map (·.length)).sum = sumLen ps := by
  rw [cat_map, List.map_map]
  induction ps with
  | nil => rfl
  | cons p r ih => simp only [List.map_cons, List.sum_cons, ih, sumLen, Function.comp_apply, Str.length_append]
theorem join_cat (ps : List (Str × Str)) : Txt.join (Str.ofString "") ((List.range ps.length).map (catAt ps)) = tx (partsTx ps) := by
  apply tx_inj
  rw [sg_join _ (by decide), sg_tx, cat_map, List.flatMap_map]
  show _ = List.flatMap _ _
  congr 1
  funext p
  rw [sg_append]
theorem news_tabs {g h h' : Heap} {L : Addr} {pre T : List (Addr × Obj)} {tl ts tl' ts' : Array Value} (N : News g L h (pre ++ (162, tabObj tl) :: (169, tabObj ts) :: T)) (hp : ∀ q ∈ pre, ∀ t, q.2 ≠ tabObj t) (hT : ∀ q ∈ T, ∀ t, q.2 ≠ tabObj t)
    (kb : KB [162, 169] h h') (hl : h'.get? 162 = some (tabObj tl')) (hs : h'.get? 169 = some (tabObj ts')) : News g L h' (pre ++ (162, tabObj tl') :: (169, tabObj ts') :: T) := by
  have nl := N (162, tabObj tl) (List.mem_append_right _ (.head _))
  have ns := N (169, tabObj ts) (List.mem_append_right _ (.tail _ (.head _)))
  have key : ∀ q : Addr × Obj, h.get? q.1 = some q.2 → (∀ t, q.2 ≠ tabObj t) → h'.get? q.1 = some q.2 := fun q e hc => by
    refine kb _ _ (fun hb => ?_) e
    simp only [List.mem_cons, List.not_mem_nil, or_false] at hb
    rcases hb with hb | hb
    · rw [hb, nl.1] at e; exact hc _ (Option.some.inj e).symm
    · rw [hb, ns.1] at e; exact hc _ (Option.some.inj e).symm
  intro q hq
  rcases List.mem_append.mp hq with hq | hq
  · have := N q (List.mem_append_left _ hq)
    exact ⟨key q this.1 (hp q hq), this.2⟩
  · rcases List.mem_cons.mp hq with rfl | hq
    · exact ⟨hl, nl.2⟩
    · rcases List.mem_cons.mp hq with rfl | hq
      · exact ⟨hs, ns.2⟩
      · have := N q (List.mem_append_right _ (.tail _ (.tail _ hq)))
        exact ⟨key q this.1 (hT q hq), this.2⟩
theorem len_mem_sum {z : Str} : ∀ {l : List Str}, z ∈ l → z.length ≤ (l.map (·.length)).sum
  | y :: r, h => by
    rw [List.map_cons, List.sum_cons]
    rcases List.mem_cons.mp h with rfl | h
    · lia
    · have := len_mem_sum h; lia
set_option genInjectivity false in
set_option genSizeOf false in
structure LawS where
  p : Option Value
  w : Option Value
  r : Option Value
  rs : Option Value
  pg : Option Value
  tl : Array Value
  ts : Array Value
  oc : Obj
theorem word_len5 (d n : Nat) : (wordOf d n).1.length + (wordOf d n).2.length ≤ 5 := by
  have h1 : (wordOf d n).1.length = (whiteB n).length + 1 := by unfold wordOf; rw [tx_len]; rfl
  have h2 : (wordOf d n).2.length = timesOf n + 1 := by unfold wordOf; rw [tx_len]; simp
  have h3 := white_len n
  have h4 : timesOf n ≤ 2 := by unfold timesOf; lia
  lia
theorem words_sum5 (d : Nat) : ∀ ns : List Nat, sumLen (ns.map (wordOf d)) ≤ 5 * ns.length
  | [] => Nat.le_refl _
  | n :: r => by
    have := words_sum5 d r
    have := word_len5 d n
    simp only [List.map_cons, sumLen, List.length_cons]
    lia
theorem words_white {d : Nat} (hd : d = 32 ∨ d = 9) (ns : List Nat) : WhiteW (ns.map (wordOf d)) := by
  have wb : ∀ n c, c ∈ whiteB n → c = 32 ∨ c = 9 := fun n c h => by
    unfold whiteB at h
    split at h
    · cases h
    · split at h
      · rw [List.mem_singleton.mp h]; exact .inl rfl
      · rw [List.mem_singleton.mp h]; exact .inr rfl
  refine ⟨fun p hp c hc => ?_, fun p hp c hc => ?_, fun p hp => ?_⟩
  · obtain ⟨n, -, rfl⟩ := List.mem_map.mp hp
    unfold wordOf at hc
    dsimp only at hc
    rw [sg_tx] at hc
    have h : c = 32 ∨ c = 9 := by
      rcases List.mem_cons.mp hc with rfl | hc
      · exact hd
      · exact wb n c hc
    rcases h with rfl | rfl <;> rfl
  · obtain ⟨n, -, rfl⟩ := List.mem_map.mp hp
    have h1 := sign_lt n
    have h2 := end_lt n
    unfold wordOf at hc
    dsimp only at hc
    rw [sg_tx] at hc
    have h : 33 ≤ c := by
      rcases List.mem_append.mp hc with h | h
      · rw [List.eq_of_mem_replicate h]; exact h1.1
      · rw [List.mem_singleton.mp h]; exact h2.1
    unfold isW
    have e1 : c ≠ 32 := by lia
    have e2 : c ≠ 9 := by lia
    simp [e1, e2]
  · obtain ⟨n, -, rfl⟩ := List.mem_map.mp hp
    exact (word_len d n).2
theorem ints_nat : ∀ {vs : List Value} {ns : List Nat}, IntsAre vs (ns.map Int.ofNat) → ∀ {k : Nat}, k < ns.length → ∃ t, vs[k]? = some (.int ((ns.getD k 0 : Nat) : Int) t)
  | _, [], _, _, h => absurd h (Nat.not_lt_zero _)
  | _, _ :: _, .cons _ t _, 0, _ => ⟨t, rfl⟩
  | _, _ :: _, .cons _ _ r, _ + 1, h => ints_nat r (Nat.lt_of_succ_lt_succ h)
theorem nat_beq (a b : Nat) : ((a : Int) == (b : Int)) = (a == b) := by
  rw [Bool.eq_iff_iff, beq_iff_eq, beq_iff_eq]; lia
theorem ints_one {vs : List Value} {n : Int} (h : IntsAre vs [n]) : ∃ t, vs = [.int n t] := by
  cases h with
  | cons _ t r => cases r; exact ⟨t, rfl⟩
theorem law_ok {w : World} {p : Program} {loose mg mb bm ob} {dp un gd fr} {s : Shared} {Q E} {sl : Addr} {vs : Array Value} {ep : Nat} {ol : Obj} {xs : List Int} {tl ts : Array Value}
    (C : Tx (Mine.hd.heap_1 w.params) p loose mg mb bm ob [162, 169] s.heap) (hd : dp + 40 < recursionLimit) (hu : un + 100 < cLine)
    (hPl : s.heap.get? 162 = some (tabObj tl)) (htl : TriplesOk tl.toList) (hPs : s.heap.get? 169 = some (tabObj ts)) (hts : TriplesOk ts.toList)
    (hsl : s.heap.get? sl = some ol) (hcl : ol.cls = .type "list") (hdl : ol.data = .seq vs ep) (hxs : IntsAre vs.toList xs) (hlen : xs.length ≤ 63)
    (hQ : ∀ s' tl' ts', Sm s s' → KB [162, 169] s.heap s'.heap → s'.heap.get? 162 = some (tabObj tl') → s'.heap.get? 169 = some (tabObj ts') → Q (.bool true) s') :
    wpAny (model PySem.Challenge.pw_pe0168_01 w) (aT dp un gd fr) (call (.ref 268) [.ref sl]) Q E s := by
  w_on
  k_dflt (refine enterCellsH (binds := [(Str.ofString "script", .ref sl)]) [(162, tabObj tl), (169, tabObj ts)] C.S (by k_is) (by k_is) (by show dp < recursionLimit; (with_reducible exact nnC (by assumption))) (BindsTo.of_eq rfl) ?hk (by decide) ?hn ?_ rfl rfl rfl)
  case hk => intro n; exact List.forall_mem_cons.mpr ⟨.inl rfl, List.forall_mem_nil _⟩
  case hn => exact List.forall_mem_cons.mpr ⟨⟨.head _, hPl⟩, List.forall_mem_cons.mpr ⟨⟨.tail _ (.head _), hPs⟩, List.forall_mem_nil _⟩⟩
  intro L' h₁ tk cells F N Y X T
  change Fr _ _ _ (lmap [(Str.ofString "script", some (.ref sl))]) at F
  obtain ⟨oc1, oc2, rfl, hc1, hc2⟩ := CellsAre.two Y
  clear Y
  have n1 : sl ∉ [162, 169] := by
    have a1 := ne_of_cls hsl hPl (by rw [hcl]; intro q; cases q)
    have a2 := ne_of_cls hsl hPs (by rw [hcl]; intro q; cases q)
    simp [a1, a2]
  have gsl := hid_get hsl n1
  have CM := C.M
  have kbF : ∀ {h2 m}, Fr (hideAll s.heap [162, 169]) L' h2 m → KB [162, 169] s.heap h2 := fun F => kb_of F
  generalize hG : hideAll s.heap [162, 169] = g0 at F N X T gsl CM kbF
  have hIs : g0.IsList sl vs.toList.toArray := ⟨_, gsl, hcl, _, hdl⟩
  (repeat' ((fail_if_success (with_reducible show wpAny _ _ (call (Value.ref _) _) _ _ _)); (fail_if_success (with_reducible show wpAny _ _ (eval (Expr.ListComp _ _ _ _) _) _ _ _)); (fail_if_success (with_reducible show wpAny _ _ (exec (Stmt.Assign _ (Expr.ListComp (Expr.Tuple _ _ _) _ _ _) _) _) _ _ _)); (fail_if_success (with_reducible show wpAny _ _ (exec (Stmt.For _ _ _ _ _) _) _ _ _)); (fail_if_success (with_reducible show wpAny _ _ (subscriptTail _ _ (Value.ref _) (Value.int _ _)) _ _ _)); (first | walk1 | (dsimp only; walk1)); (try dsimp only)))
  rename IntsAre _ (List.map _ _) => hI8
  rename Fr _ _ _ _ => Fa
  rename News _ _ _ _ => Na
  have hds : ∀ d ∈ List.map (fun k' => Int.fmod k' 1000000) (List.take 6 xs), 0 ≤ d ∧ d < 1000000 := fun d hd => by
    obtain ⟨y, -, rfl⟩ := List.mem_map.mp hd
    exact ⟨Int.fmod_nonneg_of_pos y (by decide), Int.fmod_lt_of_pos y (by decide)⟩
  have hdl : (List.map (fun k' => Int.fmod k' 1000000) (List.take 6 xs)).length ≤ 6 := by rw [List.length_map, List.length_take]; lia
  generalize (List.map (fun k' => Int.fmod k' 1000000) (List.take 6 xs)) = ds at *
  refine slice_list (s := ⟨_, s.gens, s.drawn, _, s.os⟩) (lo := some (ds.length : Int)) (hi := none) Fa Na (items := #[_, _, _, _, _, _]) ⟨_, (Na _ (.head _)).1, rfl, _, rfl⟩ (.int _ _) .none ?_ (by with_unfolding_all rfl) (by intro _; with_unfolding_all rfl) (by rw [sizeLine_eq]; simp)
  intro hb Fb Nb
  rw [kmk_pick_nat (a := ds.length) (b := 6) _ (by simp only [sliceBounds, Option.getD_none, show (1 : Int) > 0 by decide, if_true, if_neg (show ¬ ((ds.length : Int) < 0) by lia)]; congr 1; (try congr 1) <;> simp <;> lia)] at Nb
  rw [List.take_of_length_le (by simp)] at Nb
  refine add_lists_ints (s := ⟨_, s.gens, s.drawn, _, s.os⟩) Fb Nb ⟨_, (Nb _ (.tail _ (.tail _ (.head _)))).1, rfl, _, rfl⟩ ⟨_, (Nb _ (.head _)).1, rfl, _, rfl⟩ hI8 (ints_drop (.cons _ _ (.cons _ _ (.cons _ _ (.cons _ _ (.cons _ _ (.cons _ _ .nil)))))) ds.length) ?_ (by simp only [List.length_drop, List.length_cons, List.length_nil]; rw [sizeLine_eq]; lia)
  intro hc Fc Nc hI
  obtain ⟨ns, hns, hn5, hnl⟩ := five_nums hds hdl
  rw [hns] at hI
  have Nd : News g0 L' hc [(_, _), (162, tabObj tl), (169, tabObj ts), (L' + 1 + 1, oc1), (L' + 1, oc2)] := fun q hq => by
    simp only [List.mem_cons, List.not_mem_nil, or_false] at hq
    rcases hq with rfl | rfl | rfl | rfl | rfl
    · exact Nc _ (.head _)
    · exact Nc _ (.tail _ (.tail _ (.tail _ (.tail _ (.tail _ (.head _))))))
    · exact Nc _ (.tail _ (.tail _ (.tail _ (.tail _ (.tail _ (.tail _ (.head _)))))))
    · exact Nc _ (.tail _ (.tail _ (.tail _ (.tail _ (.tail _ (.tail _ (.tail _ (.head _))))))))
    · exact Nc _ (.tail _ (.tail _ (.tail _ (.tail _ (.tail _ (.tail _ (.tail _ (.tail _ (.head _)))))))))
  clear Fa Na Fb Nb Nc hns hds hdl hI8
  (repeat' ((fail_if_success (with_reducible show wpAny _ _ (call (Value.ref _) _) _ _ _)); (fail_if_success (with_reducible show wpAny _ _ (eval (Expr.ListComp _ _ _ _) _) _ _ _)); (fail_if_success (with_reducible show wpAny _ _ (exec (Stmt.Assign _ (Expr.ListComp (Expr.Tuple _ _ _) _ _ _) _) _) _ _ _)); (fail_if_success (with_reducible show wpAny _ _ (exec (Stmt.For _ _ _ _ _) _) _ _ _)); (fail_if_success (with_reducible show wpAny _ _ (subscriptTail _ _ (Value.ref _) (Value.int _ _)) _ _ _)); (first | walk1 | (dsimp only; walk1)); (try dsimp only)))
  obtain ⟨S, hS⟩ : ∃ S : Nat, (List.map Int.ofNat ns).sum = (S : Int) := sum_nat ns
  generalize (List.map Int.ofNat ns).sum = TS at *
  subst hS
  obtain ⟨d, hd0, hd9⟩ : ∃ d : Nat, Txt.item (Str.ofString " \t") (Int.fmod (S : Int) 2) = ⟨#[d]⟩ ∧ (d = 32 ∨ d = 9) := first_sign S
  generalize Txt.item (Str.ofString " \t") (Int.fmod (S : Int) 2) = TF at *
  subst hd0
  rename Fr _ _ _ _ => Fg
  rename News _ _ _ _ => Ng
  refine law_words_ok (dp := dp + 1) (ns := ns) (d := d) ⟨X.keeps Fg.keep, T.keeps Fg.keep⟩ (by (with_reducible exact nnA (by assumption) (by decide))) (Ng _ (.head _)).1 hI (by (with_reducible exact nnE (by assumption) (by decide))) hnl ?_
  intro s1 D items epw sm1 kp1 nD gD pD
  obtain ⟨r1, r3, g1, g2, F1⟩ : ∃ (r1 r3 : Tok) (g1 g2 : Option Value), Fr g0 L' s1.heap (lmap [(Str.ofString "first", some (.str ⟨#[d]⟩ r3)), (Str.ofString "total", some (.int (S : Int) r1)), (Str.ofString "numbers", g1), (Str.ofString "drawn", g2), (Str.ofString "script", some (.ref sl))]) := ⟨_, _, some _, some _, fr_keeps Fg kp1⟩
  obtain ⟨TT, hTT, hPP⟩ := parts_ledger F1.keep pD
  have hTL : ∀ q ∈ TT, q.1 ≠ L' := fun q hq e => by
    obtain ⟨e1, e2, e3, v, k, e4⟩ := hTT q hq
    obtain ⟨o', es, k', eo, ed, -⟩ := F1.ns
    rw [e, eo] at e1
    cases e1
    rw [ed] at e4
    cases e4
  have N1 : News g0 L' s1.heap ((D, liO items epw) :: (162, tabObj tl) :: (169, tabObj ts) :: (L' + 1 + 1, oc1) :: (L' + 1, oc2) :: TT) := fun q hq => by
    have N0 := news_keeps Ng kp1
    rcases List.mem_cons.mp hq with rfl | hq
    · exact ⟨gD, fresh_of Fg nD⟩
    · rcases List.mem_cons.mp hq with rfl | hq
      · exact N0 _ (.tail _ (.head _))
      · rcases List.mem_cons.mp hq with rfl | hq
        · exact N0 _ (.tail _ (.tail _ (.head _)))
        · rcases List.mem_cons.mp hq with rfl | hq
          · exact N0 _ (.tail _ (.tail _ (.tail _ (.head _))))
          · rcases List.mem_cons.mp hq with rfl | hq
            · exact N0 _ (.tail _ (.tail _ (.tail _ (.tail _ (.head _)))))
            · exact ⟨(hTT q hq).1, hTL q hq, (hTT q hq).2.1⟩
  clear Fg Ng kp1
  have hpl : (ns.map (wordOf d)).length = 6 := by rw [List.length_map]; exact hn5
  have wok := words_ok hd9 ns
  have hsum : sumLen (ns.map (wordOf d)) ≤ 30 := by have := words_sum5 d ns; lia
  have hwh : WhiteW (ns.map (wordOf d)) := words_white hd9 ns
  generalize hps : ns.map (wordOf d) = ps at *
  have hne : ps ≠ [] := fun q => by rw [q] at hpl; cases hpl
  (repeat' ((fail_if_success (with_reducible show wpAny _ _ (call (Value.ref _) _) _ _ _)); (fail_if_success (with_reducible show wpAny _ _ (eval (Expr.ListComp _ _ _ _) _) _ _ _)); (fail_if_success (with_reducible show wpAny _ _ (exec (Stmt.Assign _ (Expr.ListComp (Expr.Tuple _ _ _) _ _ _) _) _) _ _ _)); (fail_if_success (with_reducible show wpAny _ _ (exec (Stmt.For _ _ _ _ _) _) _ _ _)); (fail_if_success (with_reducible show wpAny _ _ (subscriptTail _ _ (Value.ref _) (Value.int _ _)) _ _ _)); (first | walk1 | (dsimp only; walk1)); (try dsimp only)))
  refine comp_pairs (ps := ps) (fun j v _ => ∃ t, v = .str (catAt ps j) t) (fun _ _ _ _ x _ => x) (by rfl) (by decide) (by rfl) (by decide) (by rfl) (by rfl) (by decide) (by rfl) ?_
  walk1
  (try dsimp only)
  rename Fr _ _ _ _ => F2
  rename News _ _ _ _ => N2
  refine ⟨_, _, _, rfl, (N2 _ (.head _)).1, ?_, by (with_reducible exact nnE (by assumption) (by decide)), ?_, ?_⟩
  · exact hPP.at F2.keep fun q hq => (N2 q (.tail _ (.tail _ (.tail _ (.tail _ (.tail _ hq)))))).1
  · intro C h2 tk2 m2 j pr t1 t2 E' hpj kp2 hC2 hn2 hm1 hm2
    have hpl2 := sumLen_mem (List.mem_of_getElem? hpj)
    refine wpAny_BinOp (elt_name rfl rfl hn2 hm1 (elt_name rfl rfl hn2 hm2 ?_ (by decide)) (by decide))
    refine PyProof.Rows.add_str (fun t' k => ?_) (by rw [sizeLine_eq]; lia)
    exact ⟨h2, _, rfl, Kp.refl _, t', by unfold catAt; rw [hpj]⟩
  · intro D2 h3 tk3 ys e3 kp3 nD3 gD3 hsz3 hF3
    have F3 := fr_keeps F2 kp3
    have N3 := news_keeps N2 kp3
    have hst := strs_at ys.toList (catAt ps) (fun j v h => hF3 j v (by rw [Array.getElem?_toList] at h; exact h))
    rw [Array.length_toList, hsz3] at hst
    clear F2 N2
    walk1
    (try dsimp only)
    have hcl := cat_len ps
    refine join_list (items := ys) ⟨_, gD3, rfl, _, rfl⟩ hst (by rw [show (Str.ofString "").length = 0 from rfl, Nat.mul_zero]; lia) ?_
    intro kl tkl
    rw [join_cat]
    (repeat' ((fail_if_success (with_reducible show wpAny _ _ (call (Value.ref _) _) _ _ _)); (fail_if_success (with_reducible show wpAny _ _ (eval (Expr.ListComp _ _ _ _) _) _ _ _)); (fail_if_success (with_reducible show wpAny _ _ (exec (Stmt.Assign _ (Expr.ListComp (Expr.Tuple _ _ _) _ _ _) _) _) _ _ _)); (fail_if_success (with_reducible show wpAny _ _ (exec (Stmt.For _ _ _ _ _) _) _ _ _)); (fail_if_success (with_reducible show wpAny _ _ (subscriptTail _ _ (Value.ref _) (Value.int _ _)) _ _ _)); (first | walk1 | (dsimp only; walk1)); (try dsimp only)))
    rename Fr _ _ _ _ => F4
    rename News _ _ _ _ => N4
    have hs1 : ∀ c ∈ partsTx ps, c < 256 := fun c hc => (wok.sign c hc).1
    refine law_rest_ok (dp := dp + 1) ⟨X.keeps F4.keep, T.keeps F4.keep⟩ (by (with_reducible exact nnA (by assumption) (by decide))) (by rw [tx_len, partsTx_len]; (with_reducible exact nnD (by assumption) (by decide))) (fun c hc => hs1 c (by rwa [show ∀ l, (tx l).cps.toList = l from sg_tx] at hc)) ?_
    intro t5 h5 tk5 kp5
    rw [show ∀ l, (tx l).cps.toList = l from sg_tx]
    have F5 := fr_keeps F4 kp5
    have N5 := news_keeps N4 kp5
    clear F4 N4 kp5
    (repeat' ((fail_if_success (with_reducible show wpAny _ _ (call (Value.ref _) _) _ _ _)); (fail_if_success (with_reducible show wpAny _ _ (eval (Expr.ListComp _ _ _ _) _) _ _ _)); (fail_if_success (with_reducible show wpAny _ _ (exec (Stmt.Assign _ (Expr.ListComp (Expr.Tuple _ _ _) _ _ _) _) _) _ _ _)); (fail_if_success (with_reducible show wpAny _ _ (exec (Stmt.For _ _ _ _ _) _) _ _ _)); (fail_if_success (with_reducible show wpAny _ _ (subscriptTail _ _ (Value.ref _) (Value.int _ _)) _ _ _)); (first | walk1 | (dsimp only; walk1)); (try dsimp only)))
    rename Fr _ _ _ _ => F6
    rename News _ _ _ _ => N6
    refine law_polynomial_ok (dp := dp + 1) (x := d ^^^ 10) ⟨X.keeps F6.keep, T.keeps F6.keep⟩ (by (with_reducible exact nnA (by assumption) (by decide))) (by exact bitXor_nat d 10) ?_
    intro t7 h7 tk7 kp7
    have F7 := fr_keeps F6 kp7
    have N7 := news_keeps N6 kp7
    clear F6 N6 kp7
    have la : polyN 32 (d ^^^ 10) < 2 ^ 32 := rev_lt (lt_of_xor (by lia) (by decide))
    (repeat' ((fail_if_success (with_reducible show wpAny _ _ (call (Value.ref _) _) _ _ _)); (fail_if_success (with_reducible show wpAny _ _ (eval (Expr.ListComp _ _ _ _) _) _ _ _)); (fail_if_success (with_reducible show wpAny _ _ (exec (Stmt.Assign _ (Expr.ListComp (Expr.Tuple _ _ _) _ _ _) _) _) _ _ _)); (fail_if_success (with_reducible show wpAny _ _ (exec (Stmt.For _ _ _ _ _) _) _ _ _)); (fail_if_success (with_reducible show wpAny _ _ (subscriptTail _ _ (Value.ref _) (Value.int _ _)) _ _ _)); (first | walk1 | (dsimp only; walk1)); (try dsimp only)))
    refine law_changes_ok (dp := dp + 1) (ps := ps) (c := polyN 32 (d ^^^ 10)) ⟨X.keeps F7.keep, T.keeps F7.keep⟩ (by (with_reducible exact nnA (by assumption) (by decide))) (N7 (D, _) (.head _)).1 (hPP.at F7.keep fun q hq => (N7 q (.tail _ (.tail _ (.tail _ (.tail _ (.tail _ hq)))))).1) (by (with_reducible exact nnE (by assumption) (by decide))) (by (with_reducible exact nnD (by assumption) (by decide))) la rfl ?_
    intro s8 D8 vs8 ep8 sm8 kp8 nD8 gD8 hI8
    have F8 := fr_keeps F7 kp8
    have N8 := news_keeps N7 kp8
    clear F7 N7 kp8
    (repeat' ((fail_if_success (with_reducible show wpAny _ _ (call (Value.ref _) _) _ _ _)); (fail_if_success (with_reducible show wpAny _ _ (eval (Expr.ListComp _ _ _ _) _) _ _ _)); (fail_if_success (with_reducible show wpAny _ _ (exec (Stmt.Assign _ (Expr.ListComp (Expr.Tuple _ _ _) _ _ _) _) _) _ _ _)); (fail_if_success (with_reducible show wpAny _ _ (exec (Stmt.For _ _ _ _ _) _) _ _ _)); (fail_if_success (with_reducible show wpAny _ _ (subscriptTail _ _ (Value.ref _) (Value.int _ _)) _ _ _)); (first | walk1 | (dsimp only; walk1)); (try dsimp only)))
    refine law_ways_ok (dp := dp + 1) (cs := chgsL (polyN 32 (d ^^^ 10)) ps) ⟨X.keeps F8.keep, T.keeps F8.keep⟩ (by (with_reducible exact nnA (by assumption) (by decide))) gD8 hI8 (by rw [chgs_len]; (with_reducible exact nnE (by assumption) (by decide))) ?_
    intro s9 D9 vs9 ep9 sm9 kp9 nD9 gD9 hI9
    have F9 := fr_keeps F8 kp9
    have N9 := news_keeps N8 kp9
    have nD9' := fresh_of F8 nD9
    clear F8 N8 kp9 gD8 hI8
    have hTs : ∀ q ∈ TT, ∀ u, q.2.data ≠ .cell u := fun q hq u e => by
      obtain ⟨-, -, -, v, k, e4⟩ := hTT q hq
      rw [e4] at e; cases e
    have hTc : ∀ q ∈ TT, ∀ t, q.2 ≠ tabObj t := fun q hq t e => by
      have := (hTT q hq).2.2.1
      rw [e] at this; cases this
    have N9' : News g0 L' s9.heap ([(D9, liO vs9 ep9), (D, liO items epw), (162, tabObj tl), (169, tabObj ts), (L' + 1 + 1, oc1)] ++ (L' + 1, oc2) :: TT) := fun q hq => by
      rcases List.mem_cons.mp hq with rfl | hq
      · exact ⟨gD9, nD9'⟩
      · exact N9 q hq
    clear N9 nD9' gD9
    refine store_cell F9 N9' ?h1 (fun q hq => .inr (hTs q hq)) hc2 (by rfl) (by rfl) (by rfl) ?_
    case h1 =>
      refine List.forall_mem_cons.mpr ⟨.inr ?_, List.forall_mem_cons.mpr ⟨.inr ?_, List.forall_mem_cons.mpr ⟨.inr ?_, List.forall_mem_cons.mpr ⟨.inr ?_, List.forall_mem_cons.mpr ⟨.inl (Nat.ne_of_gt (Nat.lt_succ_self _)), List.forall_mem_nil _⟩⟩⟩⟩⟩
      all_goals (intro u q; cases q)
    intro h10 oc3 F10 N10 hc3
    clear F9 N9' hc2
    (repeat' ((fail_if_success (with_reducible show wpAny _ _ (call (Value.ref _) _) _ _ _)); (fail_if_success (with_reducible show wpAny _ _ (eval (Expr.ListComp _ _ _ _) _) _ _ _)); (fail_if_success (with_reducible show wpAny _ _ (exec (Stmt.Assign _ (Expr.ListComp (Expr.Tuple _ _ _) _ _ _) _) _) _ _ _)); (fail_if_success (with_reducible show wpAny _ _ (exec (Stmt.For _ _ _ _ _) _) _ _ _)); (fail_if_success (with_reducible show wpAny _ _ (subscriptTail _ _ (Value.ref _) (Value.int _ _)) _ _ _)); (first | walk1 | (dsimp only; walk1)); (try dsimp only)))
    refine wpAny_For ?_ (by intro _; rfl)
    (repeat' ((fail_if_success (with_reducible show wpAny _ _ (call (Value.ref _) _) _ _ _)); (fail_if_success (with_reducible show wpAny _ _ (eval (Expr.ListComp _ _ _ _) _) _ _ _)); (fail_if_success (with_reducible show wpAny _ _ (exec (Stmt.Assign _ (Expr.ListComp (Expr.Tuple _ _ _) _ _ _) _) _) _ _ _)); (fail_if_success (with_reducible show wpAny _ _ (exec (Stmt.For _ _ _ _ _) _) _ _ _)); (fail_if_success (with_reducible show wpAny _ _ (subscriptTail _ _ (Value.ref _) (Value.int _ _)) _ _ _)); (first | walk1 | (dsimp only; walk1)); (try dsimp only)))
    rename_i DT h11 F11 N11 l11
    obtain ⟨items2, hit2, N11'⟩ : ∃ items2 : Array Value, (∀ (i : Nat) (v : Value), items2[i]? = some v → ∃ (P : Nat) (t : Tok), v = Value.int (P : Nat) t) ∧ News g0 L' _ ((DT, tupN items2 0) :: ([(D9, liO vs9 ep9), (D, liO items epw), (162, tabObj tl), (169, tabObj ts), (L' + 1 + 1, oc1)] ++ (L' + 1, oc3) :: TT)) := ⟨#[.int (Int.fdiv (S : Int) 2) _, .int (Int.fdiv (S : Int) 576) _], fun i v e => by
      have d1 : Int.fdiv (S : Int) 2 = ((S / 2 : Nat) : Int) := int_div S 2
      have d2 : Int.fdiv (S : Int) 576 = ((S / 576 : Nat) : Int) := int_div S 576
      rw [d1, d2] at e
      match i, e with
      | 0, e => exact ⟨_, _, (Option.some.inj e).symm⟩
      | 1, e => exact ⟨_, _, (Option.some.inj e).symm⟩
      | k + 2, e => simp at e, N11⟩
    clear N11 l11
    refine iter_tup (σ := LawS) (fun _ a => [(Str.ofString "preferred", a.p), (Str.ofString "width", a.w), (Str.ofString "room", a.r), (Str.ofString "rows", a.rs), (Str.ofString "page", a.pg), (Str.ofString "whole", some (.int (crcS (partsTx ps) : Nat) t5)), (Str.ofString "line", some (.str (tx (partsTx ps)) kl)), (Str.ofString "words", some (.ref D)), (Str.ofString "first", some (.str ⟨#[d]⟩ r3)), (Str.ofString "total", some (.int (S : Int) r1)), (Str.ofString "numbers", g1), (Str.ofString "drawn", g2), (Str.ofString "script", some (.ref sl))])
      (fun _ a => [(DT, tupN items2 0), (D9, liO vs9 ep9), (D, liO items epw)] ++ (162, tabObj a.tl) :: (169, tabObj a.ts) :: (L' + 1 + 1, a.oc) :: (L' + 1, oc3) :: TT) (fun _ a _ => TriplesOk a.tl.toList ∧ TriplesOk a.ts.toList ∧ ∃ v, a.oc.data = .cell v) ⟨none, none, none, none, none, tl, ts, oc1⟩
      (fun _ _ _ _ x _ _ => x) (by rfl) (fun _ _ => .head _) F11 (lmap_agree [Str.ofString "preferred", Str.ofString "width", Str.ofString "room", Str.ofString "rows", Str.ofString "page", Str.ofString "whole", Str.ofString "line", Str.ofString "words", Str.ofString "first", Str.ofString "total", Str.ofString "numbers", Str.ofString "drawn", Str.ofString "script"] ?g1 ?g2 ?gv) (fun q hq => N11' q (by simpa using hq)) ⟨htl, hts, _, hc1⟩ ?turn ?done
    case g1 => rfl
    case g2 => rfl
    case gv => exact List.forall_mem_cons.mpr ⟨rfl, List.forall_mem_cons.mpr ⟨rfl, List.forall_mem_cons.mpr ⟨rfl, List.forall_mem_cons.mpr ⟨rfl, List.forall_mem_cons.mpr ⟨rfl, List.forall_mem_cons.mpr ⟨rfl, List.forall_mem_cons.mpr ⟨rfl, List.forall_mem_cons.mpr ⟨rfl, List.forall_mem_cons.mpr ⟨rfl, List.forall_mem_cons.mpr ⟨rfl, List.forall_mem_cons.mpr ⟨rfl, List.forall_mem_cons.mpr ⟨rfl, List.forall_mem_cons.mpr ⟨rfl, List.forall_mem_nil _⟩⟩⟩⟩⟩⟩⟩⟩⟩⟩⟩⟩⟩
    case done =>
      intro a u1 s12 S12 sm12 F12 N12
      dsimp only
      (repeat' ((fail_if_success (with_reducible show wpAny _ _ (call (Value.ref _) _) _ _ _)); (fail_if_success (with_reducible show wpAny _ _ (eval (Expr.ListComp _ _ _ _) _) _ _ _)); (fail_if_success (with_reducible show wpAny _ _ (exec (Stmt.Assign _ (Expr.ListComp (Expr.Tuple _ _ _) _ _ _) _) _) _ _ _)); (fail_if_success (with_reducible show wpAny _ _ (exec (Stmt.For _ _ _ _ _) _) _ _ _)); (fail_if_success (with_reducible show wpAny _ _ (subscriptTail _ _ (Value.ref _) (Value.int _ _)) _ _ _)); (first | walk1 | (dsimp only; walk1)); (try dsimp only)))
      refine hQ _ a.tl a.ts ?_ (kbF F12) (N12 (162, _) (.tail _ (.tail _ (.tail _ (.head _))))).1 (N12 (169, _) (.tail _ (.tail _ (.tail _ (.tail _ (.head _)))))).1
      have a1 : Sm s s1 := ⟨sm1.1, sm1.2.1, sm1.2.2⟩
      have a2 : Sm s1 s8 := ⟨sm8.1, sm8.2.1, sm8.2.2⟩
      have a3 : Sm s8 s9 := ⟨sm9.1, sm9.2.1, sm9.2.2⟩
      have a5 : Sm s9 s12 := ⟨sm12.1, sm12.2.1, sm12.2.2⟩
      have a4 := ((a1.trans a2).trans a3).trans a5
      exact ⟨a4.1, a4.2.1, a4.2.2⟩
    case turn =>
      intro i v a s12 I oI hiv S12 sm12 hne12 cI F12 N12
      refine turn_abs fun R hR => ?_
      obtain ⟨P, tP, rfl⟩ := hit2 i v hiv
      change Fr g0 L' _ _ at F12
      change News g0 L' _ _ at N12
      clear F11 N11'
      (repeat' ((fail_if_success (with_reducible show wpAny _ _ (call (Value.ref _) _) _ _ _)); (fail_if_success (with_reducible show wpAny _ _ (eval (Expr.ListComp _ _ _ _) _) _ _ _)); (fail_if_success (with_reducible show wpAny _ _ (exec (Stmt.Assign _ (Expr.ListComp (Expr.Tuple _ _ _) _ _ _) _) _) _ _ _)); (fail_if_success (with_reducible show wpAny _ _ (exec (Stmt.For _ _ _ _ _) _) _ _ _)); (fail_if_success (with_reducible show wpAny _ _ (subscriptTail _ _ (Value.ref _) (Value.int _ _)) _ _ _)); (first | walk1 | (dsimp only; walk1)); (try dsimp only)))
      rename News _ _ _ _ => Nd
      have b6 : 0 ≤ Int.fmod (P : Int) 6 ∧ Int.fmod (P : Int) 6 < 6 := ⟨Int.fmod_nonneg_of_pos _ (by decide), Int.fmod_lt_of_pos _ (by decide)⟩
      refine item_strsTT (ys := [Str.ofString ";, \t", Str.ofString ",;", Str.ofString "\t;,", Str.ofString ";", Str.ofString ", ", Str.ofString ""]) (l := [_, _, _, _, _, _]) ⟨_, (Nd _ (.head _)).1, rfl, _, rfl⟩ (.cons _ _ (.cons _ _ (.cons _ _ (.cons _ _ (.cons _ _ (.cons _ _ .nil)))))) b6.1 b6.2 (by lia) ?_
      intro kz
      obtain ⟨z, hz, hz4⟩ : ∃ z, List.getD [Str.ofString ";, \t", Str.ofString ",;", Str.ofString "\t;,", Str.ofString ";", Str.ofString ", ", Str.ofString ""] (Int.fmod (P : Int) 6).toNat Str.empty = z ∧ z.length ≤ 4 := ⟨_, rfl, menu_len _⟩
      rw [hz]
      (repeat' ((fail_if_success (with_reducible show wpAny _ _ (call (Value.ref _) _) _ _ _)); (fail_if_success (with_reducible show wpAny _ _ (eval (Expr.ListComp _ _ _ _) _) _ _ _)); (fail_if_success (with_reducible show wpAny _ _ (exec (Stmt.Assign _ (Expr.ListComp (Expr.Tuple _ _ _) _ _ _) _) _) _ _ _)); (fail_if_success (with_reducible show wpAny _ _ (exec (Stmt.For _ _ _ _ _) _) _ _ _)); (fail_if_success (with_reducible show wpAny _ _ (subscriptTail _ _ (Value.ref _) (Value.int _ _)) _ _ _)); (first | walk1 | (dsimp only; walk1)); (try dsimp only)))
      rename News _ _ _ _ => Ne
      have b3 : 0 ≤ Int.fmod (Int.fdiv (P : Int) 96) 3 ∧ Int.fmod (Int.fdiv (P : Int) 96) 3 < 3 := ⟨Int.fmod_nonneg_of_pos _ (by decide), Int.fmod_lt_of_pos _ (by decide)⟩
      refine item_anyT (vs := [_, _, _]) (ns := [0, 4, 9]) ⟨_, (Ne _ (.head _)).1, rfl, _, rfl⟩ (.cons _ _ (.cons _ _ (.cons _ _ .nil))) b3.1 b3.2 (by lia) ?_
      intro kr
      obtain ⟨room, hroom, hroom5⟩ : ∃ r : Nat, List.getD [0, 4, 9] (Int.fmod (Int.fdiv (P : Int) 96) 3).toNat (0 : Int) = (r : Int) ∧ r ≤ 9 := rooms _
      rw [hroom]
      have b12 : 0 ≤ Int.fmod (Int.fdiv (P : Int) 6) 16 ∧ Int.fmod (Int.fdiv (P : Int) 6) 16 < 16 := ⟨Int.fmod_nonneg_of_pos _ (by decide), Int.fmod_lt_of_pos _ (by decide)⟩
      obtain ⟨W, hW, hW13⟩ : ∃ W : Nat, 3 + Int.fmod (Int.fdiv (P : Int) 6) 16 = (W : Int) ∧ W ≤ 18 := ⟨(3 + Int.fmod (Int.fdiv (P : Int) 6) 16).toNat, by lia, by lia⟩
      generalize 3 + Int.fmod (Int.fdiv (P : Int) 6) 16 = TW at *
      subst hW
      (repeat' ((fail_if_success (with_reducible show wpAny _ _ (call (Value.ref _) _) _ _ _)); (fail_if_success (with_reducible show wpAny _ _ (eval (Expr.ListComp _ _ _ _) _) _ _ _)); (fail_if_success (with_reducible show wpAny _ _ (exec (Stmt.Assign _ (Expr.ListComp (Expr.Tuple _ _ _) _ _ _) _) _) _ _ _)); (fail_if_success (with_reducible show wpAny _ _ (exec (Stmt.For _ _ _ _ _) _) _ _ _)); (fail_if_success (with_reducible show wpAny _ _ (subscriptTail _ _ (Value.ref _) (Value.int _ _)) _ _ _)); (first | walk1 | (dsimp only; walk1)); (try dsimp only)))
      rename Fr _ _ _ _ => F14
      rename News _ _ _ _ => N14
      obtain ⟨f1, F14⟩ : ∃ (f1 : Tok), Fr g0 L' _ (lmap [(Str.ofString "room", some (.int (room : Nat) kr)), (Str.ofString "width", some (.int (W : Nat) f1)), (Str.ofString "preferred", some (.str z kz)), (Str.ofString "part", some (.int (P : Nat) tP)), (Str.ofString "preferred", a.p), (Str.ofString "width", a.w), (Str.ofString "room", a.r), (Str.ofString "rows", a.rs), (Str.ofString "page", a.pg), (Str.ofString "whole", some (.int (crcS (partsTx ps) : Nat) t5)), (Str.ofString "line", some (.str (tx (partsTx ps)) kl)), (Str.ofString "words", some (.ref D)), (Str.ofString "first", some (.str ⟨#[d]⟩ r3)), (Str.ofString "total", some (.int (S : Int) r1)), (Str.ofString "numbers", g1), (Str.ofString "drawn", g2), (Str.ofString "script", some (.ref sl))]) := ⟨_, F14⟩
      have N15 : News g0 L' _ ([(I, oI), (DT, tupN items2 0), (D9, liO vs9 ep9), (D, liO items epw)] ++ (162, tabObj a.tl) :: (169, tabObj a.ts) :: (L' + 1 + 1, a.oc) :: (L' + 1, oc3) :: TT) := fun q hq => N14 q (.tail _ (.tail _ hq))
      clear N14
      obtain ⟨htl2, hts2, ov, hov⟩ := S12
      have tnone : ∀ b ∈ [162, 169], g0.get? b = none := fun b hb => by rw [← hG]; exact hideAll_none _ hb
      have nfT : ∀ {h : Heap} {l1 : List (Addr × Obj)} {tl' ts' : Array Value} {l2 : List (Addr × Obj)}, News g0 L' h (l1 ++ (162, tabObj tl') :: (169, tabObj ts') :: l2) → ∀ b ∈ [162, 169], b ≠ L' ∧ g0.get? b = none := fun N => nf_of N (fun b hb => by
        simp only [List.mem_cons, List.not_mem_nil, or_false] at hb
        rcases hb with rfl | rfl <;> simp)
      refine law_rows_ok (dp := dp + 1) (ps := ps) (z := z) (W := W) (room := room) (Tx.of X T CM F14.keep tnone) (by (with_reducible exact nnA (by assumption) (by decide))) (by show un + 3 + 80 < cLine; (with_reducible exact nnA (by assumption) (by decide))) (N15 (162, _) (List.mem_append_right _ (.head _))).1 htl2 (N15 (169, _) (List.mem_append_right _ (.tail _ (.head _)))).1 hts2
        hwh wok.wordy hne (by (with_reducible exact nnE (by assumption) (by decide))) (by lia) (rows_split wok.white wok.pos hne fun c hc => (wok.sign c hc).2) ?_
      intro s16 R1 rv1 tl1 ts1 sm16 kb16 hPl1 htl1 hPs1 hts1 hR1 nR1 hrv1
      have hpre : ∀ q ∈ [(I, oI), (DT, tupN items2 0), (D9, liO vs9 ep9), (D, liO items epw)], ∀ t, q.2 ≠ tabObj t := by
        refine List.forall_mem_cons.mpr ⟨fun t e => ?_, List.forall_mem_cons.mpr ⟨fun t e => ?_, List.forall_mem_cons.mpr ⟨fun t e => ?_, List.forall_mem_cons.mpr ⟨fun t e => ?_, List.forall_mem_nil _⟩⟩⟩⟩
        · rw [show oI = tabObj t from e] at cI; cases cI
        · cases e
        · cases e
        · cases e
      have hpost : ∀ q ∈ (L' + 1 + 1, a.oc) :: (L' + 1, oc3) :: TT, ∀ t, q.2 ≠ tabObj t := by
        refine List.forall_mem_cons.mpr ⟨fun t e => ?_, List.forall_mem_cons.mpr ⟨fun t e => ?_, hTc⟩⟩
        · rw [show a.oc = tabObj t from e] at hov; cases hov
        · rw [show oc3 = tabObj t from e] at hc3; cases hc3
      have N16 : News g0 L' s16.heap ([(R1, liO rv1 0), (I, oI), (DT, tupN items2 0), (D9, liO vs9 ep9), (D, liO items epw)] ++ (162, tabObj tl1) :: (169, tabObj ts1) :: (L' + 1 + 1, a.oc) :: (L' + 1, oc3) :: TT) := fun q hq => by
        rcases List.mem_cons.mp hq with rfl | hq
        · exact ⟨hR1, fresh_of F14 nR1⟩
        · exact news_tabs N15 hpre hpost kb16 hPl1 hPs1 q hq
      have F16 := fr_but F14 kb16 (nfT N15)
      clear F14 N15 kb16 nR1 hR1 hPl1 hPs1
      have hr1 := rows_len (ps := ps) (z := z) (W := W) (room := room) wok.white wok.pos hne
      have hpg1 := rows_page (ps := ps) (z := z) (W := W) (room := room) wok.white (fun p hp => (wok.pos p hp).1) hne
      (repeat' ((fail_if_success (with_reducible show wpAny _ _ (call (Value.ref _) _) _ _ _)); (fail_if_success (with_reducible show wpAny _ _ (eval (Expr.ListComp _ _ _ _) _) _ _ _)); (fail_if_success (with_reducible show wpAny _ _ (exec (Stmt.For _ _ _ _ _) _) _ _ _)); (fail_if_success (with_reducible show wpAny _ _ (subscriptTail _ _ (Value.ref _) (Value.int _ _)) _ _ _)); (fail_if_success (with_reducible show wpAny _ _ (call (Value.builtin "str.join") _) _ _ _)); (fail_if_success (with_reducible show wpAny _ _ (compareOp _ _ _) _ _ _)); (first | walk1 | (dsimp only; walk1)); (try dsimp only)))
      rename Fr _ _ _ _ => F17
      rename News _ _ _ _ => N17
      refine join_list (items := rv1) ⟨_, (N17 (R1, _) (.head _)).1, rfl, _, rfl⟩ hrv1 (by rw [show (Str.ofString "").length = 0 from rfl, Nat.mul_zero]; lia) ?_
      intro k10 t10
      rw [rows_join wok.white wok.pos hne]
      (repeat' ((fail_if_success (with_reducible show wpAny _ _ (call (Value.ref _) _) _ _ _)); (fail_if_success (with_reducible show wpAny _ _ (eval (Expr.ListComp _ _ _ _) _) _ _ _)); (fail_if_success (with_reducible show wpAny _ _ (exec (Stmt.For _ _ _ _ _) _) _ _ _)); (fail_if_success (with_reducible show wpAny _ _ (subscriptTail _ _ (Value.ref _) (Value.int _ _)) _ _ _)); (fail_if_success (with_reducible show wpAny _ _ (call (Value.builtin "str.join") _) _ _ _)); (fail_if_success (with_reducible show wpAny _ _ (compareOp _ _ _) _ _ _)); (first | walk1 | (dsimp only; walk1)); (try dsimp only)))
      refine PyProof.Rows.ne_str ?_
      rw [bne_self_eq_false]
      (repeat' ((fail_if_success (with_reducible show wpAny _ _ (call (Value.ref _) _) _ _ _)); (fail_if_success (with_reducible show wpAny _ _ (eval (Expr.ListComp _ _ _ _) _) _ _ _)); (fail_if_success (with_reducible show wpAny _ _ (exec (Stmt.For _ _ _ _ _) _) _ _ _)); (fail_if_success (with_reducible show wpAny _ _ (subscriptTail _ _ (Value.ref _) (Value.int _ _)) _ _ _)); (fail_if_success (with_reducible show wpAny _ _ (call (Value.builtin "str.join") _) _ _ _)); (fail_if_success (with_reducible show wpAny _ _ (compareOp _ _ _) _ _ _)); (first | walk1 | (dsimp only; walk1)); (try dsimp only)))
      have hne1 := hr1.2.2
      have hln1 : (rowsS (sg z) W room ps).length ≤ 1000 := by lia
      have htot : ((rowsS (sg z) W room ps).map (·.length)).sum ≤ 100000 := by lia
      have hpos1 := hpg1.2.2
      have hrd := hpg1.1
      obtain ⟨r0, rs', hrw⟩ : ∃ r0 rs', rowsS (sg z) W room ps = r0 :: rs' := by
        cases e : rowsS (sg z) W room ps with
        | nil => exact absurd e hne1
        | cons a b => exact ⟨a, b, rfl⟩
      rw [hrw] at hrv1 hln1 htot hpos1 hrd
      clear hr1 hpg1 hne1
      have hrl2 : rs'.length ≤ 999 := by simp only [List.length_cons] at hln1; lia
      have hvs : rv1.size = rs'.length + 1 := by have := hrv1.length; rw [Array.length_toList] at this; rw [this]; rfl
      refine item_strsA (l := rv1.toList) (ys := r0 :: rs') ⟨_, (N17 (R1, _) (.head _)).1, rfl, _, rfl⟩ hrv1 (by decide) (by simp only [List.length_cons]; lia) (by decide) ?_
      intro t18
      (try dsimp only)
      (repeat' ((fail_if_success (with_reducible show wpAny _ _ (call (Value.ref _) _) _ _ _)); (fail_if_success (with_reducible show wpAny _ _ (eval (Expr.ListComp _ _ _ _) _) _ _ _)); (fail_if_success (with_reducible show wpAny _ _ (exec (Stmt.For _ _ _ _ _) _) _ _ _)); (fail_if_success (with_reducible show wpAny _ _ (subscriptTail _ _ (Value.ref _) (Value.int _ _)) _ _ _)); (fail_if_success (with_reducible show wpAny _ _ (call (Value.builtin "str.join") _) _ _ _)); (fail_if_success (with_reducible show wpAny _ _ (compareOp _ _ _) _ _ _)); (first | walk1 | (dsimp only; walk1)); (try dsimp only)))
      refine comp_strs (fun z => tx (10 :: (sg z).tail)) (by rfl) (by decide) (by rfl) (by decide) (by rfl) (by rfl) ?_
      (repeat' ((fail_if_success (with_reducible show wpAny _ _ (eval (Expr.ListComp _ _ _ _) _) _ _ _)); (fail_if_success (with_reducible show wpAny _ _ (call _ _ _) _ _ _)); (fail_if_success (with_reducible show wpAny _ _ (subscriptTail _ _ _ _) _ _ _)); (first | walk1 | (dsimp only; walk1)); (try dsimp only)))
      refine slice_list (s := ⟨_, s16.gens, s16.drawn, _, s16.os⟩) (lo := some 1) (hi := none) F17 N17 (items := rv1) ⟨_, (N17 (R1, _) (.head _)).1, rfl, _, rfl⟩ (.int _ _) .none ?_ (by with_unfolding_all rfl) (by intro _; with_unfolding_all rfl) (by rw [sizeLine_eq]; (with_reducible exact nnU (by assumption) (by assumption) (by decide)))
      intro h19 F19 N19
      have hpk : slicePick rv1 (some 1) none none = (rv1.toList.drop 1).toArray := by
        rw [kmk_pick_nat (a := 1) (b := rv1.size) rv1 (by simp only [sliceBounds, Option.getD_none, show (1 : Int) > 0 by decide, if_true, if_neg (show ¬ ((1 : Int) < 0) by decide)]; congr 1; lia)]
        rw [List.take_of_length_le (by rw [List.length_drop, Array.length_toList]; lia)]
      rw [hpk] at N19
      have hv2 : StrsAre (rv1.toList.drop 1) rs' := by
        generalize rv1.toList = l at hrv1
        cases hrv1 with
        | cons y t r => exact r
      refine ⟨_, _, rs', _, rfl, (N19 _ (.head _)).1, hv2, by simp; (with_reducible exact nnU (by assumption) (by assumption) (by decide)), ?_, ?_⟩
      · intro C s₃ m₂ y u E' hy k3 hC hn hm
        have F3 : Fr g0 C s₃.heap m₂ := ⟨hn, fun b o e => k3 _ _ (F19.keep b o e), Nat.le_trans F19.above (Nat.le_trans (Nat.le_of_lt F19.ns.lt) hC)⟩
        have N3 : News g0 C s₃.heap [] := News.nil
        have hzl : y.length ≤ 100000 := by
          have := len_mem_sum hy
          simp only [List.map_cons, List.sum_cons] at htot
          lia
        refine wpAny_BinOp ?_
        walk1
        walk1
        refine elt_name rfl rfl hn hm ?_ rfl
        walk1
        walk1
        walk1
        walk1
        walk1
        refine slice_kp (s := ⟨s₃.heap, s₃.gens, s₃.drawn, _, s₃.os⟩) (fun h4 t4 k4 kp4 => ?_) (by with_unfolding_all rfl) (by intro _; with_unfolding_all rfl) (by rw [sizeLine_eq]; (with_reducible exact nnD (by assumption) (by decide)))
        rw [slice_tail (hpos1 y hy)]
        refine PyProof.Rows.add_str (fun t' k => ?_) (by rw [tx_len, List.length_tail, sg_len, sizeLine_eq, show (Str.ofString "\n").length = 1 from rfl]; lia)
        exact ⟨h4, k, t', rfl, kp4, by congr 1; apply tx_inj; rw [sg_append, sg_tx, sg_tx]; rfl⟩
      · intro D20 h20 tk20 ys20 n20 kp20 hD20 hys20 hst20
        have hsum20 : ((rs'.map fun z => tx (10 :: (sg z).tail)).map (·.length)).sum ≤ (rs'.map (·.length)).sum := by
          have : ∀ l : List Str, (∀ z ∈ l, 0 < z.length) → ((l.map fun z => tx (10 :: (sg z).tail)).map (·.length)).sum ≤ (l.map (·.length)).sum := by
            intro l hl
            induction l with
            | nil => simp
            | cons z l ih =>
              have h1 := hl z List.mem_cons_self
              have h2 := ih fun y hy => hl y (List.mem_cons_of_mem _ hy)
              simp only [List.map_cons, List.sum_cons, tx_len, List.length_cons, List.length_tail, sg_len] at h2 ⊢
              lia
          exact this _ hpos1
        have hr0 : r0.length + (rs'.map (·.length)).sum ≤ 100000 := by simpa using htot
        have F20 := fr_keeps F19 kp20
        have N20 : News g0 L' h20 ([(R1, liO rv1 0), (I, oI), (DT, tupN items2 0), (D9, liO vs9 ep9), (D, liO items epw)] ++ (162, tabObj tl1) :: (169, tabObj ts1) :: (L' + 1 + 1, a.oc) :: (L' + 1, oc3) :: TT) := fun q hq => news_keeps N19 kp20 q (.tail _ hq)
        clear F17 N17 F19 N19 kp20
        (repeat' ((fail_if_success (with_reducible show wpAny _ _ (call (Value.ref _) _) _ _ _)); (fail_if_success (with_reducible show wpAny _ _ (eval (Expr.ListComp _ _ _ _) _) _ _ _)); (fail_if_success (with_reducible show wpAny _ _ (exec (Stmt.For _ _ _ _ _) _) _ _ _)); (fail_if_success (with_reducible show wpAny _ _ (subscriptTail _ _ (Value.ref _) (Value.int _ _)) _ _ _)); (fail_if_success (with_reducible show wpAny _ _ (call (Value.builtin "str.join") _) _ _ _)); (fail_if_success (with_reducible show wpAny _ _ (compareOp _ _ _) _ _ _)); (first | walk1 | (dsimp only; walk1)); (try dsimp only)))
        refine join_list (items := ys20) ⟨_, hys20, rfl, _, rfl⟩ hst20 ?_ ?_
        · rw [show (Str.ofString "").length = 0 from rfl, Nat.mul_zero]; lia
        intro t21 k21
        have e : Txt.join (Str.ofString "") (rs'.map fun z => tx (10 :: (sg z).tail)) = tx (rs'.flatMap fun z => 10 :: (sg z).tail) := by
          apply tx_inj
          rw [sg_join _ (by decide), sg_tx, List.flatMap_map]
          congr 1
        have hjl := join_len_le (Str.ofString "") (rs'.map fun z => tx (10 :: (sg z).tail))
        rw [show (Str.ofString "").length = 0 from rfl, Nat.mul_zero] at hjl
        show wpAny _ _ (binaryOp .Add (.str r0 _) (.str _ t21)) _ _ _
        refine PyProof.Rows.add_str (fun t' k => ?_) (by rw [sizeLine_eq]; lia)
        have e2 : r0 ++ Txt.join (Str.ofString "") (rs'.map fun z => tx (10 :: (sg z).tail)) = tx (readTx (r0 :: rs')) := by
          apply tx_inj
          rw [sg_append, e, sg_tx, sg_tx]
          rfl
        rw [e2, hrd]
        clear e e2 hjl hsum20 hr0 hst20 hys20 hv2 hpk
        (repeat' ((fail_if_success (with_reducible show wpAny _ _ (call (Value.ref _) _) _ _ _)); (fail_if_success (with_reducible show wpAny _ _ (eval (Expr.ListComp _ _ _ _) _) _ _ _)); (fail_if_success (with_reducible show wpAny _ _ (exec (Stmt.For _ _ _ _ _) _) _ _ _)); (fail_if_success (with_reducible show wpAny _ _ (subscriptTail _ _ (Value.ref _) (Value.int _ _)) _ _ _)); (fail_if_success (with_reducible show wpAny _ _ (call (Value.builtin "str.join") _) _ _ _)); (fail_if_success (with_reducible show wpAny _ _ (compareOp _ _ _) _ _ _)); (first | walk1 | (dsimp only; walk1)); (try dsimp only)))
        rename Fr _ _ _ _ => F22
        rename News _ _ _ _ => N22
        refine law_crc_ok (dp := dp + 1) ⟨X.keeps F22.keep, T.keeps F22.keep⟩ (by (with_reducible exact nnA (by assumption) (by decide))) ?_
        intro t23 h23 tk23 kp23
        rw [show ∀ l, (tx l).cps.toList = l from sg_tx]
        have F23 := fr_keeps F22 kp23
        have N23 := news_keeps N22 kp23
        clear F22 N22 kp23
        (repeat' ((fail_if_success (with_reducible show wpAny _ _ (call (Value.ref _) _) _ _ _)); (fail_if_success (with_reducible show wpAny _ _ (eval (Expr.ListComp _ _ _ _) _) _ _ _)); (fail_if_success (with_reducible show wpAny _ _ (exec (Stmt.For _ _ _ _ _) _) _ _ _)); (fail_if_success (with_reducible show wpAny _ _ (subscriptTail _ _ (Value.ref _) (Value.int _ _)) _ _ _)); (fail_if_success (with_reducible show wpAny _ _ (call (Value.builtin "str.join") _) _ _ _)); (fail_if_success (with_reducible show wpAny _ _ (compareOp _ _ _) _ _ _)); (first | walk1 | (dsimp only; walk1)); (try dsimp only)))
        refine law_polynomial_ok (dp := dp + 1) (x := crcS (pgTx (fun k => decide (k ∈ (foldsS ps z W room ps.length).2.2)) 0 ps) ^^^ crcS (partsTx ps)) ⟨X.keeps F23.keep, T.keeps F23.keep⟩ (by (with_reducible exact nnA (by assumption) (by decide))) (by exact bitXor_nat _ _) ?_
        intro t25 h25 tk25 kp25
        have F25 := fr_keeps F23 kp25
        have N25 : News g0 L' h25 ([(R1, liO rv1 0), (I, oI), (DT, tupN items2 0), (D9, liO vs9 ep9), (D, liO items epw), (162, tabObj tl1), (169, tabObj ts1)] ++ (L' + 1 + 1, a.oc) :: ((L' + 1, oc3) :: TT)) := news_keeps N23 kp25
        clear F23 N23 kp25
        refine store_cell F25 N25 ?h1 ?h2 hov (by rfl) (by rfl) (by rfl) ?_
        case h1 =>
          refine List.forall_mem_cons.mpr ⟨.inr ?_, List.forall_mem_cons.mpr ⟨.inl (hne12 (L' + 1 + 1, a.oc) (by simp)).symm, List.forall_mem_cons.mpr ⟨.inr ?_, List.forall_mem_cons.mpr ⟨.inr ?_, List.forall_mem_cons.mpr ⟨.inr ?_, List.forall_mem_cons.mpr ⟨.inr ?_, List.forall_mem_cons.mpr ⟨.inr ?_, List.forall_mem_nil _⟩⟩⟩⟩⟩⟩⟩
          all_goals (intro u q; cases q)
        case h2 =>
          refine List.forall_mem_cons.mpr ⟨.inl (Nat.ne_of_lt (Nat.lt_succ_self _)), fun q hq => .inr (hTs q hq)⟩
        intro h26 oc4 F26 N26 hc4
        clear F25 N25
        (repeat' ((fail_if_success (with_reducible show wpAny _ _ (call (Value.ref _) _) _ _ _)); (fail_if_success (with_reducible show wpAny _ _ (eval (Expr.ListComp _ _ _ _) _) _ _ _)); (fail_if_success (with_reducible show wpAny _ _ (exec (Stmt.For _ _ _ _ _) _) _ _ _)); (fail_if_success (with_reducible show wpAny _ _ (subscriptTail _ _ (Value.ref _) (Value.int _ _)) _ _ _)); (fail_if_success (with_reducible show wpAny _ _ (call (Value.builtin "str.join") _) _ _ _)); (fail_if_success (with_reducible show wpAny _ _ (compareOp _ _ _) _ _ _)); (first | walk1 | (dsimp only; walk1)); (try dsimp only)))
        have hwl : (waysOf (chgsL (polyN 32 (d ^^^ 10)) ps)).length = 64 := by rw [ways_len, chgs_len, hpl]
        have hend := law1_end hd9 wok.head hs1 (fun p hp => (wok.pos p hp).1) hsum z W room
        rw [show 2 ^ ps.length = 64 by rw [hpl]] at hend
        refine comp_range_if (fun k => (waysOf (chgsL (polyN 32 (d ^^^ 10)) ps)).getD k 0 == polyN 32 (crcS (pgTx (fun k => decide (k ∈ (foldsS ps z W room ps.length).2.2)) 0 ps) ^^^ crcS (partsTx ps))) (by rfl) (by decide) (by rfl) (by decide) (by rfl) (by rfl) ?_
        walk1
        (repeat' ((fail_if_success (with_reducible show wpAny _ _ (eval (Expr.ListComp _ _ _ _) _) _ _ _)); (fail_if_success (with_reducible show wpAny _ _ (call _ _ _) _ _ _)); (fail_if_success (with_reducible show wpAny _ _ (subscriptTail _ _ _ _) _ _ _)); (first | walk1 | (dsimp only; walk1)); (try dsimp only)))
        walk1
        (try dsimp only)
        rename IsRange _ _ _ _ _ _ _ _ => hr27
        rename Fr _ _ _ _ => F27
        rename News _ _ _ _ => N27
        have o3 := N27 (L' + 1, oc3) (List.mem_append_right _ (.tail _ (.head _)))
        have o4 := N27 (L' + 1 + 1, oc4) (List.mem_append_right _ (.head _))
        have oW := N27 (D9, liO vs9 ep9) (.tail _ (.tail _ (.tail _ (.head _))))
        refine ⟨_, 64, _, _, _, rfl, hr27, by decide, ?_, ?_, ?_⟩
        · intro C s5 m5 k u E' hk kp5 hC5 hn5 hm5
          refine wpAny_isTrue_Compare1 ?_
          refine Subscript_ ?_
          refine wpAny_Name (wpAny_loadName_cell (c := L' + 1) rfl rfl rfl ⟨oc3, kp5 _ _ o3.1, hc3⟩ ?_) (by decide)
          refine elt_name rfl rfl hn5 hm5 ?_ rfl
          obtain ⟨t28, e28⟩ := ints_nat hI9 (show k < (waysOf (chgsL (polyN 32 (d ^^^ 10)) ps)).length by rw [hwl]; exact hk)
          refine item_listL (l := vs9.toList) ⟨_, kp5 _ _ oW.1, rfl, _, rfl⟩ (Int.natCast_nonneg _) (by lia) (by rw [Int.toNat_natCast]; exact e28) ?_
          refine wpAny_Name (wpAny_loadName_cell (c := L' + 1 + 1) rfl rfl rfl ⟨oc4, kp5 _ _ o4.1, hc4⟩ ?_) (by decide)
          refine eq_int ?_
          walk1
          exact ⟨s5.heap, s5.toks, rfl, Kp.refl _, nat_beq _ _⟩
        · intro C s5 m5 k u E' hk kp5 hC5 hn5 hm5
          exact elt_name rfl rfl hn5 hm5 ⟨s5.heap, s5.toks, u, rfl, Kp.refl _, rfl⟩ rfl
        · intro D28 h28 tk28 ys28 e28 kp28 nD28 gD28 hI28
          rw [hend] at hI28
          obtain ⟨t28, hy28⟩ := ints_one hI28
          obtain rfl : ys28 = #[.int (foldN (foldsS ps z W room ps.length).2.2 : Nat) t28] := Array.toList_inj.mp hy28
          clear hI28 hend hy28
          have F28 := fr_keeps F27 kp28
          have N28 : News g0 L' h28 ([(D28, liO #[.int (foldN (foldsS ps z W room ps.length).2.2 : Nat) t28] e28), (I, oI), (DT, tupN items2 0), (D9, liO vs9 ep9), (D, liO items epw), (162, tabObj tl1), (169, tabObj ts1)] ++ (L' + 1 + 1, oc4) :: (L' + 1, oc3) :: TT) := fun q hq => by
            rcases List.mem_cons.mp hq with rfl | hq
            · exact ⟨gD28, fresh_of F27 nD28⟩
            · exact news_keeps N27 kp28 q (.tail _ hq)
          clear F27 N27 kp28 nD28 gD28 o3 o4 oW hr27
          (repeat' ((fail_if_success (with_reducible show wpAny _ _ (call (Value.ref _) _) _ _ _)); (fail_if_success (with_reducible show wpAny _ _ (eval (Expr.ListComp _ _ _ _) _) _ _ _)); (fail_if_success (with_reducible show wpAny _ _ (exec (Stmt.For _ _ _ _ _) _) _ _ _)); (fail_if_success (with_reducible show wpAny _ _ (subscriptTail _ _ (Value.ref _) (Value.int _ _)) _ _ _)); (fail_if_success (with_reducible show wpAny _ _ (call (Value.builtin "str.join") _) _ _ _)); (fail_if_success (with_reducible show wpAny _ _ (compareOp _ _ _) _ _ _)); (first | walk1 | (dsimp only; walk1)); (try dsimp only)))
          refine law_folds_ok (dp := dp + 1) (ps := ps) (W := W) (room := room) (z := z) ⟨X.keeps F28.keep, T.keeps F28.keep⟩ (by (with_reducible exact nnA (by assumption) (by decide))) (by show un + 3 + 20 < cLine; (with_reducible exact nnA (by assumption) (by decide))) (N28 (D, liO items epw) (.tail _ (.tail _ (.tail _ (.tail _ (.head _)))))).1
            (hPP.at F28.keep fun q hq => (N28 q (List.mem_append_right _ (.tail _ (.tail _ hq)))).1) (by (with_reducible exact nnE (by assumption) (by decide))) (by lia) wok.pos (by (with_reducible exact nnD (by assumption) (by decide))) ?_
          intro t29 h29 tk29 kp29
          have F29 := fr_keeps F28 kp29
          have N29 := news_keeps N28 kp29
          clear F28 N28 kp29
          (repeat' ((fail_if_success (with_reducible show wpAny _ _ (call (Value.ref _) _) _ _ _)); (fail_if_success (with_reducible show wpAny _ _ (eval (Expr.ListComp _ _ _ _) _) _ _ _)); (fail_if_success (with_reducible show wpAny _ _ (exec (Stmt.For _ _ _ _ _) _) _ _ _)); (fail_if_success (with_reducible show wpAny _ _ (subscriptTail _ _ (Value.ref _) (Value.int _ _)) _ _ _)); (fail_if_success (with_reducible show wpAny _ _ (call (Value.builtin "str.join") _) _ _ _)); (fail_if_success (with_reducible show wpAny _ _ (compareOp _ _ _) _ _ _)); (first | walk1 | (dsimp only; walk1)); (try dsimp only)))
          rename Fr _ _ _ _ => F30
          rename News _ _ _ _ => N30
          refine rcne_of (SeqAt.RcNeAt.lists (e := fun _ => true) ⟨_, (N30 (D28, _) (.tail _ (.head _))).1, rfl, _, rfl⟩ ⟨_, (N30 _ (.head _)).1, rfl, _, rfl⟩ rfl (by show un + 3 < cLine; (with_reducible exact nnB (by assumption) (by decide))) (fun j h1 h2 => ?he)) ?_
          case he =>
            match j, h1 with
            | 0, _ =>
              have e := fun (A : Around) (s : Shared) => SeqAt.EqAt.int_int (A := A) (s := s) (foldN (foldsS ps z W room ps.length).2.2 : Nat) t28 (foldN (foldsS ps z W room ps.length).2.2 : Nat) t29
              simp only [beq_self_eq_true] at e
              exact e _ _
          show wpAny _ _ (truthy (.bool false)) _ _ _
          (repeat' ((fail_if_success (with_reducible show wpAny _ _ (call (Value.ref _) _) _ _ _)); (fail_if_success (with_reducible show wpAny _ _ (eval (Expr.ListComp _ _ _ _) _) _ _ _)); (fail_if_success (with_reducible show wpAny _ _ (exec (Stmt.For _ _ _ _ _) _) _ _ _)); (fail_if_success (with_reducible show wpAny _ _ (subscriptTail _ _ (Value.ref _) (Value.int _ _)) _ _ _)); (fail_if_success (with_reducible show wpAny _ _ (call (Value.builtin "str.join") _) _ _ _)); (fail_if_success (with_reducible show wpAny _ _ (compareOp _ _ _) _ _ _)); (first | walk1 | (dsimp only; walk1)); (try dsimp only)))
          have b1 : Sm s12 s16 := ⟨sm16.1, sm16.2.1, sm16.2.2⟩
          have b2 := sm12.trans b1
          refine hR _ _ ?_
          refine ⟨_, ⟨some (.str z kz), some (.int (W : Nat) f1), some (.int (room : Nat) kr), some (.ref R1), some (.str (tx (pgTx (fun k => decide (k ∈ (foldsS ps z W room ps.length).2.2)) 0 ps)) t'), tl1, ts1, oc4⟩, ⟨b2.1, b2.2.1, b2.2.2⟩, F30, fun q hq => N30 q (.tail _ (.tail _ hq)), fun q hq => ?qn, ?ag, htl1, hts1, _, hc4⟩
          case ag =>
            intro y h1 _
            refine lmap_agree [Str.ofString "preferred", Str.ofString "width", Str.ofString "room", Str.ofString "rows", Str.ofString "page", Str.ofString "whole", Str.ofString "line", Str.ofString "words", Str.ofString "first", Str.ofString "total", Str.ofString "numbers", Str.ofString "drawn", Str.ofString "script"] ?_ ?_ ?_ y h1
            · rfl
            · rfl
            · exact List.forall_mem_cons.mpr ⟨rfl, List.forall_mem_cons.mpr ⟨rfl, List.forall_mem_cons.mpr ⟨rfl, List.forall_mem_cons.mpr ⟨rfl, List.forall_mem_cons.mpr ⟨rfl, List.forall_mem_cons.mpr ⟨rfl, List.forall_mem_cons.mpr ⟨rfl, List.forall_mem_cons.mpr ⟨rfl, List.forall_mem_cons.mpr ⟨rfl, List.forall_mem_cons.mpr ⟨rfl, List.forall_mem_cons.mpr ⟨rfl, List.forall_mem_cons.mpr ⟨rfl, List.forall_mem_cons.mpr ⟨rfl, List.forall_mem_nil _⟩⟩⟩⟩⟩⟩⟩⟩⟩⟩⟩⟩⟩
          case qn =>
            rcases List.mem_cons.mp hq with rfl | hq
            · exact hne12 (DT, tupN items2 0) (.head _)
            rcases List.mem_cons.mp hq with rfl | hq
            · exact hne12 (D9, liO vs9 ep9) (.tail _ (.head _))
            rcases List.mem_cons.mp hq with rfl | hq
            · exact hne12 (D, liO items epw) (.tail _ (.tail _ (.head _)))
            rcases List.mem_cons.mp hq with rfl | hq
            · exact hne12 (162, tabObj a.tl) (.tail _ (.tail _ (.tail _ (.head _))))
            rcases List.mem_cons.mp hq with rfl | hq
            · exact hne12 (169, tabObj a.ts) (.tail _ (.tail _ (.tail _ (.tail _ (.head _)))))
            rcases List.mem_cons.mp hq with rfl | hq
            · exact hne12 (L' + 1 + 1, a.oc) (.tail _ (.tail _ (.tail _ (.tail _ (.tail _ (.head _))))))
            · exact hne12 q (.tail _ (.tail _ (.tail _ (.tail _ (.tail _ (.tail _ hq))))))
end
section
open PySem PySem.W PyProof.Rows PySem.Calls
set_option Elab.async false
set_option maxRecDepth 100000
set_option maxHeartbeats 8000000
theorem fillTop : PySem.Challenge.rw_pe0168_01 = PySem.Challenge.rw_pe0168_01 → Mine.hd.heap_1 = Mine.hd.heap_1 := by
  k_fill
  intro _; rfl
theorem no_tab (P : Params) : (Mine.hd.heap_1 P).lookup 162 = none ∧ (Mine.hd.heap_1 P).lookup 169 = none := ⟨by kernel_rfl, by kernel_rfl⟩
theorem ktab_in {P : Params} {h : Heap} (x : (Mine.hd.heap_1 P).In h) : (Mine.hd.heap_1 P).In (hideAll h [162, 169]) := fun a o e => by
  have n1 : a ≠ 162 := fun q => by rw [q, (no_tab P).1] at e; cases e
  have n2 : a ≠ 169 := fun q => by rw [q, (no_tab P).2] at e; cases e
  exact hideAll_get _ (x a o e) (by simp [n1, n2])
theorem ns_hide {h : Heap} {fp : List Addr} {a : Addr} {m : Str → Option Value} (n : h.Ns a m) (ha : a ∉ fp) : (hideAll h fp).Ns a m :=
  let ⟨o, es, ep, e, r⟩ := n
  ⟨o, es, ep, hideAll_get _ e ha, r⟩
theorem tr_hide {p : Program} {loose : List Str} {mg mb : Str → Option Value} {h : Heap} {fp : List Addr} (T : TopRead p loose mg mb h) (h1 : mainGlobals ∉ fp) (h2 : builtinsNs ∉ fp) (h3 : cStatics ∉ fp) : TopRead p loose mg mb (hideAll h fp) :=
  ⟨ns_hide T.g h1, ns_hide T.b h2, let ⟨mc, n, e⟩ := T.nolimit; ⟨mc, ns_hide n h3, e⟩, T.builtins, T.free⟩
theorem bm_hide {h : Heap} {mg : Str → Option Value} {bm : Addr} {ob : Obj} {fp : List Addr} (M : BMod h mainGlobals mg bm ob) (h1 : mainGlobals ∉ fp) (h2 : ∀ b ∈ fp, ∀ o, h.get? b = some o → o.cls = .none) : BMod (hideAll h fp) mainGlobals mg bm ob :=
  ⟨ns_hide M.ns h1, M.name, M.ne, hideAll_get _ M.obj (fun hb => by have := h2 _ hb _ M.obj; rw [M.cls] at this; cases this), M.cls, M.dict, M.data⟩
noncomputable def fieldsIn (o : Obj) : Array Value := match o.data with | .fields vs => vs | _ => #[]
theorem code_of {K : Frag} {h : Heap} (x : K.In h) {c a : Addr} (h1 : (K.lookup c).isSome = true) (h2 : ((K.lookup c).get h1).cls = .type "code") (h3 : ((K.lookup c).get h1).data = .fields (fieldsIn ((K.lookup c).get h1))) (h4 : (fieldsIn ((K.lookup c).get h1))[11]? = some (.ref a)) : isCodeTable h a :=
  ⟨c, _, _, x c _ (Option.some_get h1).symm, h2, h3, h4⟩
theorem codes {P : Params} {h : Heap} (x : (Mine.hd.heap_1 P).In h) : isCodeTable h 162 ∧ isCodeTable h 169 :=
  ⟨code_of x (c := 166) (by kernel_rfl) (by kernel_rfl) (by kernel_rfl) (by kernel_rfl), code_of x (c := 173) (by kernel_rfl) (by kernel_rfl) (by kernel_rfl) (by kernel_rfl)⟩
theorem top : PySem.Challenge.rw_pe0168_01.Holds := by
  refine hd ?_
  intro w s0 s1 mg mb G Y fa o pm cd doc dV kV ho hd hcd hD hmg hg args vals as hpre hlay hrd hwl hlo
  have XK := km_in_of Y
  have XH := ktab_in XK
  have hl0 := km_tabs_of Y 162 (.head _)
  have hs0 := km_tabs_of Y 169 (.tail _ (.head _))
  have X := (Ground.X G).1
  have V := (Ground.X G).2
  refine Ground.open G ?_
  intro T B D TE TW
  obtain ⟨bm, ob, M⟩ := bmod_of_top T
  obtain ⟨bo, be, he, B0⟩ := based_of_top T rfl hmg ho hd
  have TR := topRead_of T
  have hfa : fa = 268 := by
    have e : mg (Str.ofString "law") = some (.ref 268) := mg_of XK TR.g (by k_is)
    have e2 := hmg.symm.trans e
    cases e2; rfl
  have CT := codes XK
  clear T B D TE TW X V G Y hD hcd hmg he B0 ho hd
  wrow_args hpre hlay hrd hwl hlo
  rename IntsAre _ _ => hI
  rename Heap.IsList _ _ _ => hL
  rename ¬ _ => hn
  subst hfa
  obtain ⟨ol, eol, hcl, epl, hdl⟩ := id hL
  change wpAny (model PySem.Challenge.pw_pe0168_01 w) (aT (1 + claimMargin) 4 (some []) (some [])) (call (.ref 268) [.ref _]) _ _ _
  have hfp : ∀ b ∈ [162, 169], ∀ o, s1.heap.get? b = some o → o.cls = .none := fun b hb o e => by
    simp only [List.mem_cons, List.not_mem_nil, or_false] at hb
    rcases hb with rfl | rfl
    · rw [hl0] at e; cases e; rfl
    · rw [hs0] at e; cases e; rfl
  refine law_ok ⟨⟨XH, tr_hide TR (by decide) (by decide) (by decide)⟩, bm_hide M (by decide) hfp⟩ (by decide) (by decide) hl0 trivial hs0 trivial eol hcl hdl hI (by omega) ?_
  intro s' tl' ts' sm kb hl1 hs1
  refine ⟨.inl ⟨.bool true, .bool true, [], rfl, fun _ => rfl, .bool true, (by with_unfolding_all rfl), fun _ => ⟨List.nodup_nil, fun a ha => by cases ha⟩⟩, ⟨fun b o e => ?_, fun b o e => ?_⟩, sm.1, sm.2.2 (by rw [hg]; exact AllBare.empty)⟩
  · by_cases hb : b ∈ [162, 169]
    · simp only [List.mem_cons, List.not_mem_nil, or_false] at hb
      rcases hb with rfl | rfl
      · rw [hl0] at e; cases e
        exact .inr (.inl ⟨CT.1, rfl, #[], tl', rfl, by rw [hl1]; simp⟩)
      · rw [hs0] at e; cases e
        exact .inr (.inl ⟨CT.2, rfl, #[], ts', rfl, by rw [hs1]; simp⟩)
    · exact .inl (kb b o hb e)
  · by_cases hb : b ∈ [162, 169]
    · simp only [List.mem_cons, List.not_mem_nil, or_false] at hb
      rcases hb with rfl | rfl
      · exact ⟨_, hl1⟩
      · exact ⟨_, hs1⟩
    · exact ⟨o, kb b o hb e⟩
end
end Mine
theorem PySem.Challenge.cw_pe0168_01_holds : PySem.Challenge.rw_pe0168_01.Holds := by
  exact Mine.top
