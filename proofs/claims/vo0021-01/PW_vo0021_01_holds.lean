import PyProof.Rows.All
import Wide.All
import OpenK.AllK
import Wide.FinOn
import PySem.Challenge.RW_vo0021_01
open PySem PySem.W PySem.Spec PySem.Calls PyProof.Rows
set_option Elab.async false
set_option maxRecDepth 100000
set_option rowWalk.seconds 0
set_option linter.all false
namespace Mine
section
local macro_rules | `(tactic| o_head $_) => `(tactic| assumption)
theorem frag (h : PySem.Challenge.rw_vo0021_01.row.Holds) : PySem.Challenge.rw_vo0021_01.row.Holds := by km_head
end
section
/-- entering a def from nothing but facts of the heap: the base h₀, a ledger -/
theorem enterM {w : World} {A : Around} {s : Shared} {R : Result → Shared → Prop} {K : Frag} {p : Program} {loose : List Str} {mean : ExcName → Option Value} {mg mb : Str → Option Value} {h₀ : Heap} {news : List (Addr × Obj)}
    {name qual : Str} {params : Arguments} {body : List Stmt} {scope : Scope} {dV kV doc pm cdv ct oc : Value} {an od : Option Addr} {osl : Array (Option Value)} {f : Addr} {args : Args} {binds : List (Str × Value)} {prog : Program}
    (X : K.In h₀) (T : Top p loose mean mg mb h₀) (st : ∀ b o, h₀.get? b = some o → s.heap.get? b = some o) (hz : h₀.objs.size ≤ s.heap.objs.size)
    (N : ∀ q ∈ news, s.heap.get? q.1 = some q.2 ∧ h₀.get? q.1 = none)
    (ho : K.lookup f = some ⟨oc, od, .func (fnOf name qual params body scope dV kV doc pm an cdv ct), osl⟩) (hcd : codeIn K cdv qual = true) (hroom : A.depth < recursionLimit)
    (hbind : BindsTo s (fnOf name qual params body scope dV kV doc pm an cdv ct) args binds) (hloc : ∀ y ∈ binds, scope.names.lookup y.1 = some .local)
    (h : ∀ L' h₁, Fr h₀ L' h₁ (fun y => binds.reverse.lookup y) → News h₀ L' h₁ news → (∀ q ∈ news, q.1 < L') → s.heap.objs.size ≤ L' → (∀ b o, s.heap.get? b = some o → h₁.get? b = some o) →
      wpAny (model prog w) (A.deeper (envOf qual scope L' f cdv)) (execs body (envOf qual scope L' f cdv))
        (fun fl s' => R (.ok (.ret (match fl with | .ret v => v | _ => .none))) s') (fun _ _ => False)
        { s with heap := h₁, toks := s.toks + binds.length })
    (hco : scope.isCoroutine = false) (hgen : scope.isGenerator = false) (hk : scope.kind = .function)
    (hcell : ∀ x ∈ scope.names, x.2 ≠ .cell) : codeAny (model prog w) A (.call (.ref f) args) R s := by
  refine codeAny_call_def (fd := fnOf name qual params body scope dV kV doc pm an cdv ct) (body := body) (binds := binds) hroom ((X.keeps st) _ _ ho) rfl (T.nolimit.keeps st) (codeRec_of (X.keeps st) hcd) rfl hbind hcell hloc (fun h₁ hns hk₁ => ?_) hco hgen hk
  exact wpAny_mono (h s.heap.objs.size h₁ ⟨hns, fun b o e => hk₁ b o (st b o e), hz⟩ (fun q hq => ⟨hk₁ _ _ (N q hq).1, Nat.ne_of_lt (Heap.lt_size (N q hq).1), (N q hq).2⟩) (fun q hq => Heap.lt_size (N q hq).1) (Nat.le_refl _) hk₁) (fun _ _ y => y) fun _ _ y => False.elim y

/-- a call within a walk, its frame's ledger handed down -/
theorem callM {w : World} {A : Around} {s : Shared} {R : Result → Shared → Prop} {K : Frag} {p : Program} {loose : List Str} {mean : ExcName → Option Value} {mg mb : Str → Option Value} {h₀ : Heap} {L : Addr} {m : Str → Option Value} {news : List (Addr × Obj)}
    {name qual : Str} {params : Arguments} {body : List Stmt} {scope : Scope} {dV kV doc pm cdv ct oc : Value} {an od : Option Addr} {osl : Array (Option Value)} {f : Addr} {args : Args} {binds : List (Str × Value)} {prog : Program}
    (F : Fr h₀ L s.heap m) (X : K.In h₀) (N : News h₀ L s.heap news) (T : Top p loose mean mg mb h₀)
    (ho : K.lookup f = some ⟨oc, od, .func (fnOf name qual params body scope dV kV doc pm an cdv ct), osl⟩) (hcd : codeIn K cdv qual = true) (hroom : A.depth < recursionLimit)
    (hbind : BindsTo s (fnOf name qual params body scope dV kV doc pm an cdv ct) args binds) (hloc : ∀ y ∈ binds, scope.names.lookup y.1 = some .local)
    (h : ∀ g L' h₁, Fr h₀ L g m → Fr g L' h₁ (fun y => binds.reverse.lookup y) → News g L' h₁ news → K.In g → Top p loose mean mg mb g → (∀ q ∈ news, q.1 < L') →
      wpAny (model prog w) (A.deeper (envOf qual scope L' f cdv)) (execs body (envOf qual scope L' f cdv))
        (fun fl s' => LeaveK h₀ L m g R (match fl with | .ret v => v | _ => .none) s') (fun _ _ => False)
        { s with heap := h₁, toks := s.toks + binds.length })
    (hco : scope.isCoroutine = false) (hgen : scope.isGenerator = false) (hk : scope.kind = .function)
    (hcell : ∀ x ∈ scope.names, x.2 ≠ .cell) : codeAny (model prog w) A (.call (.ref f) args) R s := by
  have nm : ∀ b o, h₀.get? b = some o → b ∉ news.map (·.1) := fun b o e q => by
    obtain ⟨r, hr, rfl⟩ := List.mem_map.mp q
    rw [(N r hr).2.2] at e; cases e
  have st : h₀.StaysIn (hideAll s.heap (news.map (·.1))) := fun b o e => hideAll_get _ (F.keep b o e) (nm b o e)
  obtain ⟨oL, es, ep, hL, hLd, hLk, hLf⟩ := F.ns
  have nL : L ∉ news.map (·.1) := fun q => by
    obtain ⟨r, hr, e⟩ := List.mem_map.mp q
    exact (N r hr).2.1 e
  have hLg := hideAll_get (news.map (·.1)) hL nL
  have FG : Fr h₀ L (hideAll s.heap (news.map (·.1))) m := ⟨⟨oL, es, ep, hLg, hLd, hLk, hLf⟩, st, F.above⟩
  refine enterM (X.keeps st) (T.keeps st) (fun b o e => of_hideAll _ e) (Nat.le_of_eq (hideAll_size _ _)) (fun q hq => ⟨(N q hq).1, hideAll_none _ (List.mem_map_of_mem hq)⟩) ho hcd hroom hbind hloc (fun L' h₁ F' N' l _ _ => ?_) hco hgen hk hcell
  refine wpAny_mono (h _ L' h₁ FG F' N' (X.keeps st) (T.keeps st) l) (fun fl s' hl => ?_) fun _ _ y => y
  obtain ⟨L'', m', news', F', N', k⟩ := hl
  refine k ⟨⟨oL, es, ep, F'.keep L oL hLg, hLd, hLk, hLf⟩, fun b o e => F'.keep b o (st b o e), F.above⟩ fun r hr => ⟨(N' r hr).1, fun q => ?_, ?_⟩
  · have := (N' r hr).2.2; rw [q, hLg] at this; cases this
  · cases q : h₀.get? r.1 with
    | none => rfl
    | some o => have := (N' r hr).2.2; rw [st _ _ q] at this; cases this

section
variable {prog : Program} {w : World} {A : Around} {E : Value → Shared → Prop} {s : Shared} {Q : Value → Shared → Prop} {a b : Int} {t u : Tok}
theorem mod_gen (hb : 0 < b) (h : ∀ k, 0 ≤ k → k < b → k = Int.fmod a b → Q (.int k s.toks) { s with toks := s.toks + 1 }) : wpAny (model prog w) A (binaryOp .Mod (.int a t) (.int b u)) Q E s :=
  mod_int' (Int.ne_of_gt hb) (h _ (Int.fmod_nonneg_of_pos _ hb) (Int.fmod_lt_of_pos _ hb) rfl)
theorem fmod_small (h0 : 0 ≤ a) (h1 : a < b) (h : Q (.int a s.toks) { s with toks := s.toks + 1 }) : wpAny (model prog w) A (binaryOp .Mod (.int a t) (.int b u)) Q E s :=
  mod_int' (Int.ne_of_gt (Int.lt_of_le_of_lt h0 h1)) (by rw [Int.fmod_eq_emod_of_nonneg _ (Int.le_of_lt (Int.lt_of_le_of_lt h0 h1)), Int.emod_eq_of_lt h0 h1]; exact h)
theorem fdiv_small (h0 : 0 ≤ a) (h1 : a < b) (hs : b < 1000) (h : Q (.int 0 s.toks) { s with toks := s.toks + 1 }) : wpAny (model prog w) A (binaryOp .FloorDiv (.int a t) (.int b u)) Q E s :=
  floordiv_int (Int.ne_of_gt (Int.lt_of_le_of_lt h0 h1)) (by rw [Int.fdiv_eq_ediv_of_nonneg _ (Int.le_of_lt (Int.lt_of_le_of_lt h0 h1)), Int.ediv_eq_zero_of_lt h0 h1]; exact h)
    (Or.inl (PyProof.noPylong_small (by omega)))
end

abbrev Pg : Program := PySem.Challenge.rw_vo0021_01.row.prog
abbrev MM (w : World) : Model := model PySem.Challenge.rw_vo0021_01.row.prog w
abbrev aM (d u : Nat) : Around := { handled := none, depth := d + 300, frames := none, guards := none, units := u }
structure Rm (A : Around) (d u : Nat) : Prop where
  h : A.handled = none
  d : A.depth ≤ d + 300
  u : A.units ≤ u
theorem wpAny_aM {α : Type} {M : Model} {A : Around} {d u : Nat} {t : Sem α} {Q : α → Shared → Prop} {E : Value → Shared → Prop} {s : Shared} (r : Rm A d u) (h : wpAny M (aM d u) t Q E s) : wpAny M A t Q E s :=
  fun Γ p hΓ => h Γ p ⟨hΓ.1.trans r.h, Nat.le_trans hΓ.2.1 r.d, (fun _ e => by cases e), (fun _ e => by cases e), Nat.le_trans hΓ.2.2.2.2 r.u⟩
theorem codeAny_aM {M : Model} {A : Around} {d u : Nat} {c : Code} {R : Result → Shared → Prop} {s : Shared} (r : Rm A d u) (h : codeAny M (aM d u) c R s) : codeAny M A c R s :=
  fun Γ p hc hΓ => h Γ p hc ⟨hΓ.1.trans r.h, Nat.le_trans hΓ.2.1 r.d, (fun _ e => by cases e), (fun _ e => by cases e), Nat.le_trans hΓ.2.2.2.2 r.u⟩

/-- what stands at the top, in a heap -/
structure Cx (w : World) (g : Heap) : Prop where
  K : (frag.heap_1 w.params).In g
  T : ∃ loose mean mg mb, Top topProg loose mean mg mb g
theorem Cx.keeps {w : World} {g h : Heap} (c : Cx w g) (k : ∀ b o, g.get? b = some o → h.get? b = some o) : Cx w h :=
  ⟨c.K.keeps k, let ⟨a, b, x, y, T⟩ := c.T; ⟨a, b, x, y, T.keeps k⟩⟩

/-- an object of the call's own -/
structure Own (g h : Heap) (a : Addr) (o : Obj) : Prop where
  at_ : h.get? a = some o
  new : g.get? a = none

/-- what a call leaves: all that stood stands, but for the named -/
structure Af (ch : List Addr) (s s' : Shared) : Prop where
  keep : ∀ b o, s.heap.get? b = some o → b ∉ ch → s'.heap.get? b = some o
  os : s'.os = s.os
  gens : AllBare s.gens → AllBare s'.gens
theorem Af.refl (s : Shared) : Af [] s s := ⟨fun _ _ e _ => e, rfl, id⟩
theorem Af.toks {s : Shared} {t : Nat} : Af [] s { s with toks := t } := ⟨fun _ _ e _ => e, rfl, id⟩
theorem Af.trans {c d e : List Addr} {s s' s'' : Shared} (x : Af c s s') (y : Af d s' s'') (hc : ∀ a ∈ c, a ∈ e) (hd : ∀ a ∈ d, a ∈ e ∨ s.heap.get? a = none) : Af e s s'' :=
  ⟨fun b o h n => y.keep b o (x.keep b o h fun q => n (hc b q)) fun q => (hd b q).elim n (fun z => by rw [z] at h; cases h), y.os.trans x.os, fun g => y.gens (x.gens g)⟩
theorem Af.mono {c e : List Addr} {s s' : Shared} (x : Af c s s') (hc : ∀ a ∈ c, a ∈ e) : Af e s s' := ⟨fun b o h n => x.keep b o h fun q => n (hc b q), x.os, x.gens⟩
theorem Own.af {g : Heap} {c : List Addr} {s s' : Shared} {a : Addr} {o : Obj} (x : Own g s.heap a o) (f : Af c s s') (n : a ∉ c) : Own g s'.heap a o := ⟨f.keep _ _ x.at_ n, x.new⟩

/-- the base of a contract's walk: what the contract's own objects are not -/
abbrev hid (s : Shared) (news : List (Addr × Obj)) : Heap := hideAll s.heap (news.map (·.1))
theorem Cx.hid {w : World} {g : Heap} {s : Shared} {news : List (Addr × Obj)} (c : Cx w g) (st : ∀ b o, g.get? b = some o → s.heap.get? b = some o) (N : ∀ q ∈ news, Own g s.heap q.1 q.2) : Cx w (Mine.hid s news) :=
  c.keeps fun b o e => hideAll_get _ (st b o e) fun q => by
    obtain ⟨r, hr, rfl⟩ := List.mem_map.mp q
    rw [(N r hr).new] at e; cases e
theorem hid_news {g : Heap} {s : Shared} {news : List (Addr × Obj)} (N : ∀ q ∈ news, Own g s.heap q.1 q.2) : ∀ q ∈ news, s.heap.get? q.1 = some q.2 ∧ (hid s news).get? q.1 = none :=
  fun q hq => ⟨(N q hq).at_, hideAll_none _ (List.mem_map_of_mem hq)⟩
/-- the end of a contract's walk -/
theorem af_end {s : Shared} {news news' : List (Addr × Obj)} {ch : List Addr} {L : Addr} {h' : Heap} {m' : Str → Option Value} {gs : Array GenState} {d : Drawn} {t : Nat} (N : ∀ q ∈ news, s.heap.get? q.1 = some q.2)
    (F' : Fr (hid s news) L h' m') (N' : News (hid s news) L h' news') (sub : ∀ q ∈ news, q.1 ∈ ch ∨ q ∈ news') (hg : AllBare s.gens → AllBare gs) : Af ch s ⟨h', gs, d, t, s.os⟩ := by
  refine ⟨fun b o e n => ?_, rfl, hg⟩
  by_cases hb : b ∈ news.map (·.1)
  · obtain ⟨q, hq, rfl⟩ := List.mem_map.mp hb
    rcases sub q hq with h | h
    · exact absurd h n
    · have := (N' q h).1
      rw [N q hq] at e; cases e; exact this
  · exact F'.keep b o (hideAll_get _ e hb)
theorem af_new {s : Shared} {news news' : List (Addr × Obj)} {L : Addr} {h' : Heap} {a : Addr} {o : Obj} (N' : News (hid s news) L h' news') (hm : (a, o) ∈ news') : h'.get? a = some o := (N' _ hm).1

abbrev kh (P : Params) (x : String) : Int := PyData.keyHash P (Str.ofString x)
abbrev en (P : Params) (x : String) (t : Tok) (v : Value) : DictEntry := ⟨kh P x, .str (Str.ofString x) t, v⟩
/-- a plain filter's dict -/
def bfEs (P : Params) (t : Nat → Tok) (e b z : Int) (sp l : Addr) (k : Int) : List DictEntry :=
  [en P "_on_disk" (t 0) (.bool false), en P "_type" (t 1) (.str (Str.ofString "regular") (t 2)), en P "_typecode" (t 3) (.str (Str.ofString "B") (t 4)), en P "_bloom_length" (t 5) (.int 1 (t 6)),
   en P "_est_elements" (t 7) (.int e (t 8)), en P "_els_added" (t 9) (.int k (t 10)), en P "_number_hashes" (t 11) (.int z (t 12)), en P "_num_bits" (t 13) (.int b (t 14)), en P "_fpr" (t 15) (.int b (t 16)),
   en P "_hash_func" (t 17) (.ref sp), en P "_bloom" (t 18) (.ref l)]
/-- a growing filter's -/
def ebEs (P : Params) (t : Nat → Tok) (e b : Int) (sp l : Addr) (k : Int) : List DictEntry :=
  [en P "_blooms" (t 0) (.ref l), en P "_ExpandingBloomFilter__fpr" (t 1) (.int b (t 2)), en P "_ExpandingBloomFilter__est_elements" (t 3) (.int e (t 4)), en P "_added_elements" (t 5) (.int k (t 6)), en P "_ExpandingBloomFilter__hash_func" (t 7) (.ref sp)]
/-- a counting filter's -/
def cbEs (P : Params) (t : Nat → Tok) (e b z : Int) (sp l : Addr) (k : Int) : List DictEntry :=
  [en P "_filepath" (t 0) .none, en P "_on_disk" (t 1) (.bool false), en P "_type" (t 2) (.str (Str.ofString "counting") (t 3)), en P "_typecode" (t 4) (.str (Str.ofString "I") (t 5)), en P "_bloom_length" (t 6) (.int b (t 7)),
   en P "_est_elements" (t 8) (.int e (t 9)), en P "_els_added" (t 10) (.int k (t 11)), en P "_number_hashes" (t 12) (.int z (t 13)), en P "_num_bits" (t 14) (.int b (t 15)), en P "_fpr" (t 16) (.int b (t 17)),
   en P "_hash_func" (t 18) (.ref sp), en P "_bloom" (t 19) (.ref l)]

/-- the four shapes -/
def Sz (e b z : Int) : Prop := (e = 2 ∧ b = 5 ∧ z = 2) ∨ (e = 1 ∧ b = 3 ∧ z = 2) ∨ (e = 3 ∧ b = 4 ∧ z = 1) ∨ (e = 5 ∧ b = 7 ∧ z = 1)
theorem Sz.b {e b z : Int} (h : Sz e b z) : 3 ≤ b ∧ b ≤ 7 := by unfold Sz at h; omega
theorem Sz.e {e b z : Int} (h : Sz e b z) : 1 ≤ e ∧ e ≤ 5 := by unfold Sz at h; omega
theorem Sz.z {e b z : Int} (h : Sz e b z) : z = 1 ∨ z = 2 := by unfold Sz at h; omega

/-- where a filter lies: the instance, its dict, its list -/
structure Fa where
  x : Addr
  d : Addr
  l : Addr
structure BF (w : World) (e b z : Int) (sp : Addr) (g h : Heap) (a : Fa) (m k : Int) : Prop where
  x : Own g h a.x (instObj 337 a.d)
  d : ∃ t, Own g h a.d (dictOf (bfEs w.params t e b z sp a.l k) 11)
  l : ∃ t n, Own g h a.l (listOf [.int m t].toArray n)
/-- a list of ints -/
structure Li (g h : Heap) (a : Addr) (ns : List Int) : Prop where
  l : ∃ vs n, Own g h a (listOf vs.toArray n) ∧ IntsAre vs ns

section
variable {prog : Program} {w : World} {A : Around} {E : Value → Shared → Prop} {s : Shared} {h₀ : Heap} {L : Addr} {news : List (Addr × Obj)}
theorem m_list {a : Addr} {vs : List Value} {n : Nat} (N : News h₀ L s.heap news) (hm : (a, listOf vs.toArray n) ∈ news) : s.heap.IsList a vs.toArray := News.isList N hm
theorem m_item {value slice : PySem.Expr} {l : Addr} {vs : List Value} {k : Int} {u : Tok} {v : Value} {Q : Value → Shared → Prop} (hl : s.heap.IsList l vs.toArray) (h0 : 0 ≤ k) (hhi : k < 1000) (hx : vs[k.toNat]? = some v) (h : Q v s)
    (hs : subscripted slice false (.ref l) (.int k u) = operate [.ref l, .int k u] (getItem (.ref l) (.int k u)) := by exact rfl) :
    wpAny (model prog w) A (subscriptTail value slice (.ref l) (.int k u)) Q E s := item_litK hl h0 (by omega) hx h hs
end

section
variable {M : Model} {A : Around} {E : Value → Shared → Prop} {s : Shared} {env : Env}
theorem m_callName {id : Str} {p pos : Pos} {args : List PySem.Expr} {Q : Value → Shared → Prop}
    (h : wpAny M A (eval (.Name id p) env) (fun f s₁ => wpAny M A (callWith pos f [] (backTo pos (starEach args env)) []) Q E s₁) E s) :
    wpAny M A (eval (.Call (.Name id p) args [] pos) env) Q E s := by
  rw [arm_eval_Call_Name']; exact wpAny_bind h
end

/-- entering a def whose scope has cells -/
theorem enterMC {w : World} {A : Around} {s : Shared} {R : Result → Shared → Prop} {K : Frag} {p : Program} {loose : List Str} {mean : ExcName → Option Value} {mg mb : Str → Option Value} {h₀ : Heap} {news : List (Addr × Obj)}
    {name qual : Str} {params : Arguments} {body : List Stmt} {scope : Scope} {dV kV doc pm cdv ct oc : Value} {an od : Option Addr} {osl : Array (Option Value)} {f : Addr} {args : Args} {binds : List (Str × Value)} {prog : Program}
    (X : K.In h₀) (T : Top p loose mean mg mb h₀) (st : ∀ b o, h₀.get? b = some o → s.heap.get? b = some o) (hz : h₀.objs.size ≤ s.heap.objs.size)
    (N : ∀ q ∈ news, s.heap.get? q.1 = some q.2 ∧ h₀.get? q.1 = none)
    (ho : K.lookup f = some ⟨oc, od, .func (fnOf name qual params body scope dV kV doc pm an cdv ct), osl⟩) (hcd : codeIn K cdv qual = true) (hroom : A.depth < recursionLimit)
    (hbind : BindsTo s (fnOf name qual params body scope dV kV doc pm an cdv ct) args binds)
    (hkind : (binds.all fun y => scope.names.lookup y.1 == some .local || scope.names.lookup y.1 == some .cell) = true)
    (hnd : ((cellsFrom 0 scope.names []).map (·.1)).Nodup)
    (h : ∀ L' h₁ tk cells, Fr h₀ L' h₁ (bindL (envOfC qual scope L' f cdv).kindOf binds fun _ => none) → News h₀ L' h₁ (cells ++ news) →
      CellsAre (bindC (envOfC qual scope L' f cdv).kindOf binds fun _ => none) (cellsFrom (L' + 1) scope.names []) cells → (∀ q ∈ news, q.1 < L') → s.heap.objs.size ≤ L' →
      wpAny (model prog w) (A.deeper (envOfC qual scope L' f cdv)) (execs body (envOfC qual scope L' f cdv))
        (fun fl s' => R (.ok (.ret (match fl with | .ret v => v | _ => .none))) s') (fun _ _ => False)
        { s with heap := h₁, toks := tk })
    (hco : scope.isCoroutine = false) (hgen : scope.isGenerator = false) (hk : scope.kind = .function) : codeAny (model prog w) A (.call (.ref f) args) R s := by
  refine codeAny_call_function hroom ((X.keeps st) _ _ ho) rfl hco hgen rfl (codeRec_of (X.keeps st) hcd) (hbind _ _ _ _ ?_)
  refine wpAny_newFunctionEnv_cells hk (kindsX hkind _) fun env' he s' x => ?_
  subst he
  refine ⟨(T.nolimit.keeps st).keeps x.toInCall.keep, codeAny_func ?_⟩
  obtain ⟨h₁, tk, rfl, _⟩ := x.done
  have hk₁ := x.toInCall.keep
  obtain ⟨cells, NC, Y⟩ := Cl.news (h₀ := s.heap) (Nat.le_refl _) fun n c hm => ⟨x.cell n c (lookup_of_mem_nodup (cellsFrom_names scope.names 0 (s.heap.objs.size + 1) [] [] rfl ▸ hnd) hm), x.above n c hm⟩
  refine wpAny_mono (h s.heap.objs.size h₁ tk cells ⟨x.toInCall.ns, fun b o e => hk₁ b o (st b o e), hz⟩ (fun q hq => ?_) Y (fun q hq => Heap.lt_size (N q hq).1) (Nat.le_refl _)) (fun _ _ y => y) fun _ _ y => False.elim y
  rcases List.mem_append.mp hq with hq | hq
  · refine ⟨(NC q hq).1, (NC q hq).2.1, ?_⟩
    cases e : h₀.get? q.1 with
    | none => rfl
    | some o => have := st _ _ e; rw [(NC q hq).2.2] at this; cases this
  · exact ⟨hk₁ _ _ (N q hq).1, Nat.ne_of_lt (Heap.lt_size (N q hq).1), (N q hq).2⟩

/-- entering a def that the heap bears, with a closure -/
theorem enterX {w : World} {A : Around} {s : Shared} {R : Result → Shared → Prop} {p : Program} {loose : List Str} {mean : ExcName → Option Value} {mg mb : Str → Option Value} {h₀ : Heap} {news : List (Addr × Obj)}
    {name qual : Str} {params : Arguments} {body : List Stmt} {scope : Scope} {cl : List (Str × Addr)} {dV kV doc pm cdv ct : Value} {an : Option Addr} {fo : Obj} {f : Addr} {args : Args} {binds : List (Str × Value)} {prog : Program}
    (T : Top p loose mean mg mb h₀) (st : ∀ b o, h₀.get? b = some o → s.heap.get? b = some o) (hz : h₀.objs.size ≤ s.heap.objs.size)
    (N : ∀ q ∈ news, s.heap.get? q.1 = some q.2 ∧ h₀.get? q.1 = none)
    (ho : s.heap.get? f = some fo) (hd : fo.data = .func (fnX name qual params body scope cl dV kV doc pm an cdv ct)) (hcd : s.heap.CodeRec cdv qual) (hroom : A.depth < recursionLimit)
    (hbind : BindsTo s (fnX name qual params body scope cl dV kV doc pm an cdv ct) args binds) (hloc : ∀ y ∈ binds, scope.names.lookup y.1 = some .local)
    (h : ∀ L' h₁, Fr h₀ L' h₁ (fun y => binds.reverse.lookup y) → News h₀ L' h₁ news → (∀ q ∈ news, q.1 < L') → s.heap.objs.size ≤ L' → (∀ b o, s.heap.get? b = some o → h₁.get? b = some o) →
      wpAny (model prog w) (A.deeper (envX qual scope L' f cdv cl)) (execs body (envX qual scope L' f cdv cl))
        (fun fl s' => R (.ok (.ret (match fl with | .ret v => v | _ => .none))) s') (fun _ _ => False)
        { s with heap := h₁, toks := s.toks + binds.length })
    (hco : scope.isCoroutine = false) (hgen : scope.isGenerator = false) (hk : scope.kind = .function)
    (hcell : ∀ x ∈ scope.names, x.2 ≠ .cell) : codeAny (model prog w) A (.call (.ref f) args) R s := by
  refine codeAny_call_def (fd := fnX name qual params body scope cl dV kV doc pm an cdv ct) (body := body) (binds := binds) hroom ho hd (T.nolimit.keeps st) hcd rfl hbind hcell hloc (fun h₁ hns hk₁ => ?_) hco hgen hk
  exact wpAny_mono (h s.heap.objs.size h₁ ⟨hns, fun b o e => hk₁ b o (st b o e), hz⟩ (fun q hq => ⟨hk₁ _ _ (N q hq).1, Nat.ne_of_lt (Heap.lt_size (N q hq).1), (N q hq).2⟩) (fun q hq => Heap.lt_size (N q hq).1) (Nat.le_refl _) hk₁) (fun _ _ y => y) fun _ _ y => False.elim y
section
variable {M : Model} {A : Around} {E : Value → Shared → Prop} {s : Shared} {h₀ : Heap} {C c : Addr} {scope : Scope} {cl : List (Str × Addr)} {env : Env} {x : Str} {pos : Pos} {v : Value} {m : Str → Option Value} {Q : Value → Shared → Prop}
theorem nm_L (F : Fr h₀ C s.heap m) (hv : m x = some v) (h : Q v s) (hk : (compEnvC scope cl C env).scope.kind = .function) (hx : (compEnvC scope cl C env).kindOf x = some .local) (hb : (x == ("__debug__" : Str)) = false := by decide) :
    wpAny M A (eval (.Name x pos) (compEnvC scope cl C env)) Q E s := wpAny_Name (wpAny_loadName_local hk hx F.ns hv h) hb
theorem cell_keep {h h' : Heap} {v : Option Value} (k : ∀ b o, h.get? b = some o → h'.get? b = some o) (x : h.IsCell c v) : h'.IsCell c v := let ⟨o, e, d⟩ := x; ⟨o, k _ _ e, d⟩
theorem nm_C (F : Fr h₀ C s.heap m) (hc : cl.lookup x = some c) (hv : h₀.IsCell c (some v)) (h : Q v s) (hk : (compEnvC scope cl C env).scope.kind = .function) (hx : (compEnvC scope cl C env).kindOf x = some .cell) (hb : (x == ("__debug__" : Str)) = false := by decide) :
    wpAny M A (eval (.Name x pos) (compEnvC scope cl C env)) Q E s := wpAny_Name (wpAny_loadName_cell hk hx hc (cell_keep F.keep hv) h) hb
theorem nm_B (F : Fr h₀ C s.heap m) (hc : cl.lookup x = some c) (hv : h₀.IsCell c (some v)) (h : Q v s) (hk : (compEnvC scope cl C env).scope.kind = .function) (hx : (compEnvC scope cl C env).kindOf x = some .free) (hb : (x == ("__debug__" : Str)) = false := by decide) (hn : (x == ("__classdict__" : Str)) = false := by decide) :
    wpAny M A (eval (.Name x pos) (compEnvC scope cl C env)) Q E s := wpAny_Name (wpAny_loadName_free hk hx hc (cell_keep F.keep hv) h hn) hb
end
theorem news_own {h₀ : Heap} {L : Addr} {h h' : Heap} {m : Str → Option Value} {news : List (Addr × Obj)} {a : Addr} {o : Obj} (F : Fr h₀ L h m) (N : News h₀ L h' news) (x : Own h h' a o) : News h₀ L h' ((a, o) :: news) := by
  intro q hq
  rcases List.mem_cons.mp hq with rfl | hq
  · refine ⟨x.at_, fun e => ?_, ?_⟩
    · obtain ⟨o', _, _, e', _⟩ := F.ns
      have := x.new
      rw [show a = L from e, e'] at this; cases this
    · cases e : h₀.get? a with
      | none => rfl
      | some o' => have := F.keep a o' e; rw [x.new] at this; cases this
  · exact N q hq
theorem own_back {ch : List Addr} {s : Shared} {h h' : Heap} {a : Addr} {o : Obj} (k : ∀ b o, s.heap.get? b = some o → b ∉ ch → h.get? b = some o) (ch' : ∀ b ∈ ch, h.get? b ≠ none) (x : Own h h' a o) : Own s.heap h' a o :=
  ⟨x.at_, by
    cases e : s.heap.get? a with
    | none => rfl
    | some o' =>
      by_cases hb : a ∈ ch
      · exact absurd x.new (ch' a hb)
      · have := k a o' e hb; rw [x.new] at this; cases this⟩
theorem own_news {h₀ : Heap} {L : Addr} {h : Heap} {news : List (Addr × Obj)} {a : Addr} {o : Obj} (N : News h₀ L h news) (hm : (a, o) ∈ news) : Own h₀ h a o := ⟨(N _ hm).1, (N _ hm).2.2⟩
theorem Own.back {g h h' : Heap} {a : Addr} {o : Obj} (x : Own h h' a o) (k : ∀ b o, g.get? b = some o → h.get? b = some o) : Own g h' a o := ⟨x.at_, by
  cases e : g.get? a with
  | none => rfl
  | some o' => have := k a o' e; rw [x.new] at this; cases this⟩
theorem Li.back {g h h' : Heap} {a : Addr} {ns : List Int} (x : Li h h' a ns) (k : ∀ b o, g.get? b = some o → h.get? b = some o) : Li g h' a ns := let ⟨vs, n, o, i⟩ := x.l; ⟨vs, n, o.back k, i⟩
theorem BF.back {w : World} {e b z : Int} {sp : Addr} {g h h' : Heap} {a : Fa} {m n : Int} (x : BF w e b z sp h h' a m n) (k : ∀ b o, g.get? b = some o → h.get? b = some o) : BF w e b z sp g h' a m n :=
  ⟨x.x.back k, let ⟨t, o⟩ := x.d; ⟨t, o.back k⟩, let ⟨t, n, o⟩ := x.l; ⟨t, n, o.back k⟩⟩
theorem rm_deep {d u d' u' : Nat} {env : Env} (h1 : d + 1 ≤ d') (h2 : u + 3 ≤ u') : Rm ((aM d u).deeper env) d' u' := ⟨rfl, show d + 300 + 1 ≤ d' + 300 by omega, h2⟩
theorem own_ne {g h : Heap} {a b : Addr} {o p : Obj} (x : Own g h a o) (y : Own g h b p) (n : o ≠ p) : @Ne Nat a b := fun e => by
  have e' : a = b := e
  subst e'
  exact n (Option.some.inj (x.at_.symm.trans y.at_))
theorem obj_xd {c d : Addr} {es : List DictEntry} {n : Nat} : instObj c d ≠ dictOf es n := fun h => by injection h with _ _ h3; cases h3
theorem obj_xl {c d : Addr} {vs : Array Value} {n : Nat} : instObj c d ≠ listOf vs n := fun h => by injection h with _ _ h3; cases h3
theorem obj_dl {es : List DictEntry} {k : Nat} {vs : Array Value} {n : Nat} : dictOf es k ≠ listOf vs n := fun h => by injection h with _ _ h3; cases h3
theorem bf_d {w : World} {e b z : Int} {sp l : Addr} {g h : Heap} {a : Addr} {k : Int} {n : Nat} {t0 t1 t2 t3 t4 t5 t6 t7 t8 t9 t10 t11 t12 t13 t14 t15 t16 t17 t18 : Tok}
    (x : Own g h a (dictOf [en w.params "_on_disk" t0 (.bool false), en w.params "_type" t1 (.str (Str.ofString "regular") t2), en w.params "_typecode" t3 (.str (Str.ofString "B") t4), en w.params "_bloom_length" t5 (.int 1 t6),
      en w.params "_est_elements" t7 (.int e t8), en w.params "_els_added" t9 (.int k t10), en w.params "_number_hashes" t11 (.int z t12), en w.params "_num_bits" t13 (.int b t14), en w.params "_fpr" t15 (.int b t16),
      en w.params "_hash_func" t17 (.ref sp), en w.params "_bloom" t18 (.ref l)] n)) : ∃ t, Own g h a (dictOf (bfEs w.params t e b z sp l k) n) :=
  ⟨fun i => [t0, t1, t2, t3, t4, t5, t6, t7, t8, t9, t10, t11, t12, t13, t14, t15, t16, t17, t18].getD i 0, x⟩
/-- what a told row makes of a mask -/
def addm (b m : Int) (ns : List Int) : Int := ns.foldl (fun m x => Builtin.bitOr m (1 * 2 ^ (Int.fmod x b).toNat)) m
theorem bf_l {g h : Heap} {a : Addr} {m m' : Int} {u : Tok} {n : Nat} (x : Own g h a (listOf [.int m u].toArray n)) (e : m = m') : ∃ t n, Own g h a (listOf [.int m' t].toArray n) := e ▸ ⟨_, _, x⟩
theorem BF.news {w : World} {e b z : Int} {sp : Addr} {h₀ h : Heap} {L : Addr} {news : List (Addr × Obj)} {a : Fa} {m k : Int} {t : Nat → Tok} {u : Tok} {n : Nat} (N : News h₀ L h news) (h1 : (a.x, instObj 337 a.d) ∈ news) (h2 : (a.d, dictOf (bfEs w.params t e b z sp a.l k) 11) ∈ news) (h3 : (a.l, listOf [.int m u].toArray n) ∈ news) :
    BF w e b z sp h₀ h a m k := ⟨own_news N h1, ⟨t, own_news N h2⟩, ⟨u, n, own_news N h3⟩⟩
theorem Li.news {h₀ h : Heap} {L : Addr} {news : List (Addr × Obj)} {a : Addr} {ns : List Int} {vs : List Value} {n : Nat} (N : News h₀ L h news) (hm : (a, listOf vs.toArray n) ∈ news) (i : IntsAre vs ns) : Li h₀ h a ns := ⟨vs, n, own_news N hm, i⟩
theorem BF.re {w : World} {e b z : Int} {sp : Addr} {g g' h h' : Heap} {a : Fa} {m k m' k' : Int} (x : BF w e b z sp g' h' a m' k') (B : BF w e b z sp g h a m k) : BF w e b z sp g h' a m' k' :=
  ⟨⟨x.x.at_, B.x.new⟩, let ⟨t, o⟩ := x.d; let ⟨_, p⟩ := B.d; ⟨t, o.at_, p.new⟩, let ⟨t, n, o⟩ := x.l; let ⟨_, _, p⟩ := B.l; ⟨t, n, o.at_, p.new⟩⟩
theorem make_M {prog : Program} {w : World} {A : Around} {K : Frag} {C : Addr} {s : Shared} {R : Result → Shared → Prop} {rest : List Value} {kw : List (Str × Value)} {fI : Addr} (X : K.In s.heap) (hm : makesIn K C = true)
    (hi : findIn K (.ref C) "__init__" = some (some (.ref fI))) (hf : isFn K (.ref fI) = true)
    (h : ∀ x dx h', (∀ b o, s.heap.get? b = some o → h'.get? b = some o) → Own s.heap h' x (instObj C dx) → Own s.heap h' dx (dictOf [] 0) → @Ne Nat x dx →
      codeAny (model prog w) (A.under (.builtin "type.__call__" ⟨.ref C :: rest, kw⟩)) (.call (.ref fI) ⟨.ref x :: rest, kw⟩) (InitBack x R) { s with heap := h' }) :
    codeAny (model prog w) A (.call (.ref C) ⟨rest, kw⟩) R s := by
  obtain ⟨hh, g, d, t, os⟩ := s
  have no : ∀ a, hh.objs.size ≤ a → hh.get? a = none := fun a ha => Heap.get?_none_of_le ha
  have hx : ((hh.push emptyDict).push (instObj C hh.objs.size)).get? (hh.objs.size + 1) = some (instObj C hh.objs.size) := by heap_get
  have hd : ((hh.push emptyDict).push (instObj C hh.objs.size)).get? hh.objs.size = some emptyDict := Heap.get?_push_of_some _ (Heap.get?_push_size _ rfl)
  exact make_core (makes_of X hm) (looks_findIn X hi) (fun self => bind_fn X self (beq_iff_eq.mp hf)) (.inl rfl) (h _ hh.objs.size _ (fun b o e => Heap.get?_push_of_some _ (Heap.get?_push_of_some _ e)) ⟨hx, no _ (Nat.le_succ _)⟩ ⟨hd, no _ (Nat.le_refl _)⟩ (Nat.ne_of_gt (Nat.lt_succ_self _)))
theorem rm_under {A : Around} {d u d' u' : Nat} {c : Code} (r : Rm A d u) (h1 : d + c.weight ≤ d') (h2 : u + c.cUnits ≤ u') : Rm (A.under c) d' u' := ⟨r.h, Nat.le_trans (Nat.add_le_add_right r.d _) (show d + 300 + c.weight ≤ d' + 300 by omega), Nat.le_trans (Nat.add_le_add_right r.u _) h2⟩
theorem fdiv_neg {prog : Program} {w : World} {A : Around} {E : Value → Shared → Prop} {s : Shared} {Q : Value → Shared → Prop} {a b : Int} {t u : Tok} (h0 : a < 0) (h1 : 0 ≤ a + b) (hs : b < 1000) (h : Q (.int (-1) s.toks) { s with toks := s.toks + 1 }) : wpAny (model prog w) A (binaryOp .FloorDiv (.int a t) (.int b u)) Q E s :=
  floordiv_int (by omega) (by
    have e : Int.fdiv a b = -1 := by
      rw [Int.fdiv_eq_ediv_of_nonneg _ (by omega)]
      have h2 : a / b < 0 := Int.ediv_neg_of_neg_of_pos h0 (by omega)
      have h3 : -1 ≤ a / b := Int.le_ediv_of_mul_le (by omega) (by omega)
      omega
    rw [e]; exact h) (Or.inl (PyProof.noPylong_small (by omega)))
theorem pow_16 {prog : Program} {w : World} {A : Around} {E : Value → Shared → Prop} {s : Shared} {Q : Value → Shared → Prop} {t u : Tok} (h : Q (.int 10000000000000000 s.toks) { s with toks := s.toks + 1 }) : wpAny (model prog w) A (binaryOp .Pow (.int 10 t) (.int 16 u)) Q E s :=
  PyProof.Rows.pow_int_small (by decide) (by decide) (by decide) h
theorem fdiv_big {prog : Program} {w : World} {A : Around} {E : Value → Shared → Prop} {s : Shared} {Q : Value → Shared → Prop} {a : Int} {t u : Tok} (h : Q (.int (a.fdiv 20000000000000000) s.toks) { s with toks := s.toks + 1 }) : wpAny (model prog w) A (binaryOp .FloorDiv (.int a t) (.int (2 * 10000000000000000) u)) Q E s :=
  PyProof.Rows.floordiv_int (by decide) h (Or.inl (PyProof.noPylong_of_log2 (by decide +kernel)))
theorem fdiv_z {prog : Program} {w : World} {A : Around} {E : Value → Shared → Prop} {s : Shared} {Q : Value → Shared → Prop} {a z : Int} {t u : Tok} (e : a.fdiv 20000000000000000 = z) (h : Q (.int z s.toks) { s with toks := s.toks + 1 }) : wpAny (model prog w) A (binaryOp .FloorDiv (.int a t) (.int (2 * 10000000000000000) u)) Q E s :=
  fdiv_big (by rw [e]; exact h)
theorem eq_ne {prog : Program} {w : World} {A : Around} {E : Value → Shared → Prop} {s : Shared} {Q : Value → Shared → Prop} {a b : Int} {t u : Tok} (e : a ≠ b) (h : Q (.bool false) s) : wpAny (model prog w) A (compareOp .Eq (.int a t) (.int b u)) Q E s :=
  PyProof.Rows.eq_int (by rw [beq_false_of_ne e]; exact h)
theorem new_hid {s : Shared} {news : List (Addr × Obj)} {a : Addr} (h : (hid s news).get? a = none) (n : a ∉ news.map (·.1)) : s.heap.get? a = none := by
  cases e : s.heap.get? a with
  | none => rfl
  | some o => have := hideAll_get _ e n; rw [show (hideAll s.heap (news.map (·.1))).get? a = _ from h] at this; cases this
theorem rm_deep2 {d u d' u' : Nat} {env env' : Env} (h1 : d + 2 ≤ d') (h2 : u + 6 ≤ u') : Rm (((aM d u).deeper env).deeper env') d' u' := ⟨rfl, show d + 300 + 1 + 1 ≤ d' + 300 by omega, h2⟩
theorem ne_new {h₀ : Heap} {L : Addr} {h h' : Heap} {news : List (Addr × Obj)} {d a : Addr} {o p : Obj} (N : News h₀ L h news) (hm : (d, o) ∈ news) (x : Own h h' a p) : @Ne Nat d a := fun e => by
  have e' : d = a := e
  subst e'
  have := x.new
  rw [N.get hm] at this; cases this
theorem new_hid2 {s1 : Shared} {h h₀ : Heap} {news : List (Addr × Obj)} {a : Addr} (k : ∀ b o, h.get? b = some o → s1.heap.get? b = some o) (N : ∀ q ∈ news, Own h h₀ q.1 q.2) (e : (hid s1 news).get? a = none) : h.get? a = none := by
  cases q : h.get? a with
  | none => rfl
  | some o =>
    have := hideAll_get (news.map (·.1)) (k _ _ q) fun hm => by
      obtain ⟨r, hr, rfl⟩ := List.mem_map.mp hm
      rw [(N r hr).new] at q; cases q
    rw [show (hideAll s1.heap (news.map (·.1))).get? a = _ from e] at this; cases this
/-- where a walk is to stop -/
def Stopped (P : Prop) : Prop := P
theorem stop_here {P : Prop} (h : Stopped P) : P := h
theorem wpAny_no {α : Type} {M : Model} {A : Around} {t : Sem α} {Q : α → Shared → Prop} {E : Value → Shared → Prop} {s : Shared} (h : wpAny M A t Q (fun _ _ => False) s) : wpAny M A t Q E s := wpAny_mono h (fun _ _ y => y) fun _ _ y => y.elim
theorem fr_af {h₀ : Heap} {L : Addr} {s s' : Shared} {m : Str → Option Value} (F : Fr h₀ L s.heap m) (a : Af [] s s') : Fr h₀ L s'.heap m := ⟨F.ns.at' fun o e => a.keep _ _ e (by simp), fun b o e => a.keep _ _ (F.keep b o e) (by simp), F.above⟩
theorem news_af {h₀ : Heap} {L : Addr} {s s' : Shared} {news : List (Addr × Obj)} (N : News h₀ L s.heap news) (a : Af [] s s') : News h₀ L s'.heap news := fun q hq => ⟨a.keep _ _ (N q hq).1 (by simp), (N q hq).2⟩
end
example (w : World) (h : Heap) : (frag.heap_1 w.params).In h → PySem.Challenge.rw_vo0021_01 = PySem.Challenge.rw_vo0021_01 → True := by k_fill; intros; trivial
local macro_rules | `(tactic| walk_at "binaryOp Mod int int") => `(tactic| first | (refine fmod_small (by omega) (by omega) ?_) | (refine mod_gen (by omega) ?_; intro k hk1 hk2 hk3))
local macro_rules | `(tactic| walk_at "binaryOp FloorDiv int int") => `(tactic| (first | (refine fdiv_small (by omega) (by omega) (by omega) ?_) | (refine fdiv_neg (by omega) (by omega) (by omega) ?_)))
local macro_rules | `(tactic| walk_at "execs cons") => `(tactic| ((with_reducible refine wpAny_execs_cons ?_); try dsimp only))
local macro_rules | `(tactic| walk_at "execs nil") => `(tactic| ((with_reducible refine wpAny_execs_nil ?_); try dsimp only))
local macro_rules | `(tactic| walk_at "m:enter") => `(tactic| ((case k6 => k_is); (case k7 => k_is); (case k8 => decide); (case k9 => first | exact BindsTo.of_eq rfl | exact binds_K (Frag.In.keeps (by assumption) fun b o e => of_hideAll _ e) rfl (by k_is) rfl rfl rfl); (case c5 => decide); (case kB => exact locs rfl); (case c2 => exact rfl); (case c3 => exact rfl); (case c4 => exact rfl)))
local macro_rules | `(tactic| walk_at "m:steps") => `(tactic| repeat' (first | (k_unfold; (try dsimp only)) | walk1 | (dsimp only; walk1) | fail "no step"))
local macro_rules | `(tactic| walk_at "m:item") => `(tactic| ((with_reducible show wpAny _ _ (subscriptTail _ _ (Value.ref _) (Value.int _ _)) _ _ _); k_dflt (refine' m_item (m_list (by k_asm) ?k1) ?k2 ?k3 ?k4 ?_; (case k1 => k_mem); (case k2 => decide); (case k3 => decide); (case k4 => exact rfl); k_whole)))
local macro_rules | `(tactic| walk_at "binaryOp LShift int int") => `(tactic| (refine PyProof.Rows.lshift_int_small (by omega) (by omega) (by decide) ?_))
local macro_rules | `(tactic| walk_at "m:sub") => `(tactic| (intro q hq; right; (repeat (first | exact hq | refine List.mem_cons_of_mem _ ?_))))
local macro_rules | `(tactic| walk_at "m:af") => `(tactic| (refine af_end (fun q hq => (by assumption : ∀ q ∈ _, Own _ _ q.1 q.2) q hq |>.at_) (by assumption) (by assumption) ?_ id; walk_at "m:sub"))
local macro_rules | `(tactic| walk_at "subscriptTail Attribute Name BinOp ref int") => `(tactic| walk_at "m:item")
local macro_rules | `(tactic| walk_at "subscriptTail Attribute Name Name ref int") => `(tactic| walk_at "m:item")
local macro_rules | `(tactic| walk_at "eval Call Name cons nil") => `(tactic| (with_reducible refine m_callName ?_))
local macro_rules | `(tactic| walk_at "eval Name") => `(tactic| first | ((with_reducible show wpAny _ _ (eval (Expr.Name _ _) (genEnv _ _ _ _ _ _)) _ _ _); first | (refine gm_L (by assumption) (by assumption) ?_ rfl rfl) | (refine gm_B (by assumption) rfl (by assumption) ?_ rfl rfl)) | ((with_reducible show wpAny _ _ (eval (Expr.Name _ _) (compEnvC _ _ _ _)) _ _ _); first | (refine nm_L (by assumption) (by assumption) ?_ rfl rfl) | (refine nm_C (by assumption) rfl (by assumption) ?_ rfl rfl) | (refine nm_B (by assumption) rfl (by assumption) ?_ rfl rfl)))
local macro_rules | `(tactic| walk_at "getMethod ref") => `(tactic| first
  | ((with_reducible show wpAny _ _ (getMethod _ (PySem.Str.ofString "_hash_func") _) _ _ _); (refine' kmu_own ?k1 ?k2 ?k3 ?k4 ?k5 ?_; (case k1 => k_asm); (case k2 => k_asm); (case k3 => k_inst); (case k4 => k_is); (case k5 => k_is); k_whole))
  | ((with_reducible show wpAny _ _ (getMethod _ (PySem.Str.ofString "_get_optimized_params") _) _ _ _); k_dflt (refine' kmu_cm ?k1 ?k2 ?k3 ?k4 ?k5 ?k6 ?k7 ?k8 ?k9 ?k10 ?k11 ?k12 ?k13 ?_; (case k1 => k_asm); (case k2 => k_asm); (case k3 => k_asm); (case k4 => k_inst); (case k5 => k_is); (case k6 => k_is); (case k7 => k_is); (case k8 => k_is); (case k9 => k_is); (case k10 => k_is); (case k11 => decide +kernel); (case k12 => k_get); (case k13 => k_is); k_whole); intro q' h' F' N' l1; (try k_lt l1); (try k_sweep))
  | ((with_reducible show wpAny _ _ (getMethod _ (PySem.Str.ofString "append") _) _ _ _); k_dflt (refine' listMethod_K ?N ?m PySem.F.slot_list_append PySem.F.type_list_append ?_; (case N => k_asm); (case m => k_mem)))
  | (refine' method_inst ?k1 ?k2 ?k3 ?k4 ?k5 ?k6 ?k7 ?_; (case k1 => k_asm); (case k2 => k_asm); (case k3 => k_inst); (case k4 => k_is); (case k5 => k_is); (case k6 => k_is); (case k7 => k_get); k_whole))
local macro_rules | `(tactic| walk_at "callWith ref nil nil") => `(tactic| first
  | (refine' callWith_K ?k1 ?k2 ?_; (case k1 => k_asm); (case k2 => k_is); k_whole)
  | (refine' callWith_F ?k1 ?_; (case k1 => exact FnAt.of (by k_asm) (by k_mem)); k_whole))
local macro_rules | `(tactic| walk_at "call ref") => `(tactic| first
  | ((refine call_meth (by k_asm) (by first | exact List.Mem.head _ | k_mem) ?_); (with_reducible refine stop_here ?_))
  | ((with_reducible refine wpAny_call ?_); (with_reducible refine stop_here ?_)))
local macro_rules | `(tactic| walk_at "setItem ref int int") => `(tactic| ((refine' ksa_set ?k1 ?k2 ?k3 ?k4 ?k5 ?k6 ?k7 ?_; (case k1 => k_asm); (case k2 => k_asm); (case k3 => k_upd); (case k4 => with_reducible assumption); (case k5 => first | decide | omega); (case k6 => first | (show (0 : Int) < 1; decide) | omega); (case k7 => first | decide | omega); k_whole); intro h' F' N' hi' _ _; (try k_sweep)))
local macro_rules | `(tactic| walk_at "m:chg") => `(tactic| (repeat' (first | exact List.forall_mem_nil _ | refine List.forall_mem_cons.mpr ⟨?_, ?_⟩ | (left; first | exact List.Mem.head _ | exact List.Mem.tail _ (List.Mem.head _) | exact List.Mem.tail _ (List.Mem.tail _ (List.Mem.head _))) | (right; k_mem))))
local macro_rules | `(tactic| walk_at "m:inline") => `(tactic| ((refine' callM ?F ?X ?N ?T ?k6 ?k7 ?k8 ?k9 ?kB ?_ ?c2 ?c3 ?c4 ?c5; (case F => k_asm); (case X => k_asm); (case N => k_asm); (case T => k_asm); (case k6 => k_is); (case k7 => k_is); (case k8 => exact Nat.le_of_ble_eq_true rfl); (case k9 => first | exact BindsTo.of_eq rfl | exact binds_K (by k_in) rfl (by k_is) rfl rfl rfl); (case kB => exact locs rfl); (case c2 => exact rfl); (case c3 => exact rfl); (case c4 => exact rfl); (case c5 => decide)); intro g' L' h' FG' F' N' X' T' l'; (try dsimp only); (try k_unmd); (try k_fold)))
local macro_rules | `(tactic| walk_at "m:prop") => `(tactic| (refine' get_prop ?k1 ?k2 ?k3 ?k4 ?k5 ?k6 ?k7 ?k8 ?k9 ?_; (case k1 => k_asm); (case k2 => k_asm); (case k3 => k_inst); (case k4 => k_is); (case k5 => k_is); (case k6 => k_is); (case k7 => k_is); (case k8 => k_is); (case k9 => k_is); k_whole; walk_at "m:inline"))
local macro_rules | `(tactic| walk_at "getAttr ref true") => `(tactic| first
  | ((with_reducible show wpAny _ _ (getAttr _ (PySem.Str.ofString "elements_added") _) _ _ _); walk_at "m:prop")
  | ((with_reducible show wpAny _ _ (getAttr _ (PySem.Str.ofString "bloom_length") _) _ _ _); walk_at "m:prop")
  | ((with_reducible show wpAny _ _ (getAttr _ (PySem.Str.ofString "number_bits") _) _ _ _); walk_at "m:prop")
  | ((with_reducible show wpAny _ _ (getAttr _ (PySem.Str.ofString "number_hashes") _) _ _ _); walk_at "m:prop")
  | ((with_reducible show wpAny _ _ (getAttr _ (PySem.Str.ofString "estimated_elements") _) _ _ _); walk_at "m:prop")
  | ((with_reducible show wpAny _ _ (getAttr _ (PySem.Str.ofString "false_positive_rate") _) _ _ _); walk_at "m:prop")
  | ((with_reducible show wpAny _ _ (getAttr _ (PySem.Str.ofString "hash_function") _) _ _ _); walk_at "m:prop")
  | ((with_reducible show wpAny _ _ (getAttr _ (PySem.Str.ofString "bloom") _) _ _ _); walk_at "m:prop")
  | ((with_reducible show wpAny _ _ (getAttr _ (PySem.Str.ofString "expansions") _) _ _ _); walk_at "m:prop"))
local macro_rules | `(tactic| walk_at "callWith ref cons nil") => `(tactic| ((with_reducible show wpAny _ _ (callWith _ (Value.ref _) _ (backTo _ (starEach [] _)) []) _ _ _); (refine' callWith_K0 ?k1 ?k2 ?_; (case k1 => exact Frag.In.keeps (by k_asm) (Fr.keep (by k_asm))); (case k2 => k_is)); try dsimp only [List.nil_append, List.cons_append]))
local macro_rules | `(tactic| walk_at "m:last") => `(tactic| ((with_reducible show wpAny _ _ (subscriptTail _ _ (Value.ref _) (Value.int _ _)) _ _ _); refine m_last (m_list (by k_asm) (by k_mem)) ?_))
local macro_rules | `(tactic| walk_at "subscriptTail Attribute Name UnaryOp ref int") => `(tactic| walk_at "m:last")
local macro_rules | `(tactic| walk_at "subscriptTail Attribute Name Constant ref int") => `(tactic| walk_at "m:item")
local macro_rules | `(tactic| walk_at "call builtin:isinstance cons nil") => `(tactic| ((with_reducible show wpAny _ _ (call _ [Value.ref _, Value.ref _]) _ _ _); (refine' isi_call ?k1 ?k2 ?k3 ?k4 ?_; (case k1 => exact Frag.In.keeps (by k_asm) (Fr.keep (by k_asm))); (case k2 => k_types); (case k3 => k_is); (case k4 => intro e; cases e); k_whole)))
local macro_rules | `(tactic| walk_at "setAttr ref int") => `(tactic| ((with_reducible show wpAny _ _ (setAttr _ (PySem.Str.ofString "elements_added") _) _ _ _); (refine' set_prop ?k1 ?k2 ?k3 ?k4 ?k5 ?k6 ?k7 ?k8 ?_; (case k1 => k_asm); (case k2 => k_asm); (case k3 => k_inst); (case k4 => k_is); (case k5 => k_is); (case k6 => k_is); (case k7 => k_is); (case k8 => k_is); k_whole; walk_at "m:inline")))
/-- a name of a builtin that no global hides -/
structure Bn (K : Frag) (x : Str) (v : Value) : Prop where
  no : nsIn K mainGlobals x = some none
  is : bootBuiltins x = some v
  nn : x ≠ "__name__"
theorem nameX_N {M : Model} {A : Around} {E : Value → Shared → Prop} {s : Shared} {K : Frag} {h₀ : Heap} {L a : Addr} {m mg mb : Str → Option Value} {cn : Str} {cs : Scope} {ccd : Value} {cl : List (Str × Addr)} {p : Program} {loose : List Str} {x : Str} {pos : Pos} {v : Value} {Q : Value → Shared → Prop}
    (b : Bn K x v) (hk : cs.kind = .function) (hx : (envX cn cs L a ccd cl).kindOf x = some .globalImplicit) (F : Fr h₀ L s.heap m) (X : K.In h₀) (T : TopRead p loose mg mb h₀) (h : Q v s) (hd : (x == ("__debug__" : Str)) = false := by decide) :
    wpAny M A (eval (.Name x pos) (envX cn cs L a ccd cl)) Q E s := nameX_B F X T b.no b.is b.nn h hk hx hd
theorem bn_len {P : Params} : Bn (frag.heap_1 P) (PySem.Str.ofString "len") (Value.builtin "len") := ⟨by k_is, by first | boot_fast | boot_by_name, by decide⟩
theorem bn_range {P : Params} : Bn (frag.heap_1 P) (PySem.Str.ofString "range") (Value.type "range") := ⟨by k_is, by first | boot_fast | boot_by_name, by decide⟩
theorem bn_sum {P : Params} : Bn (frag.heap_1 P) (PySem.Str.ofString "sum") (Value.builtin "sum") := ⟨by k_is, by first | boot_fast | boot_by_name, by decide⟩
theorem bn_set {P : Params} : Bn (frag.heap_1 P) (PySem.Str.ofString "set") (Value.type "set") := ⟨by k_is, by first | boot_fast | boot_by_name, by decide⟩
theorem bn_zip {P : Params} : Bn (frag.heap_1 P) (PySem.Str.ofString "zip") (Value.type "zip") := ⟨by k_is, by first | boot_fast | boot_by_name, by decide⟩
theorem bn_list {P : Params} : Bn (frag.heap_1 P) (PySem.Str.ofString "list") (Value.type "list") := ⟨by k_is, by first | boot_fast | boot_by_name, by decide⟩
theorem bn_min {P : Params} : Bn (frag.heap_1 P) (PySem.Str.ofString "min") (Value.builtin "min") := ⟨by k_is, by first | boot_fast | boot_by_name, by decide⟩
theorem bn_enumerate {P : Params} : Bn (frag.heap_1 P) (PySem.Str.ofString "enumerate") (Value.type "enumerate") := ⟨by k_is, by first | boot_fast | boot_by_name, by decide⟩
theorem bn_ord {P : Params} : Bn (frag.heap_1 P) (PySem.Str.ofString "ord") (Value.builtin "ord") := ⟨by k_is, by first | boot_fast | boot_by_name, by decide⟩
theorem bn_bin {P : Params} : Bn (frag.heap_1 P) (PySem.Str.ofString "bin") (Value.builtin "bin") := ⟨by k_is, by first | boot_fast | boot_by_name, by decide⟩
theorem bn_int {P : Params} : Bn (frag.heap_1 P) (PySem.Str.ofString "int") (Value.type "int") := ⟨by k_is, by first | boot_fast | boot_by_name, by decide⟩
theorem bn_float {P : Params} : Bn (frag.heap_1 P) (PySem.Str.ofString "float") (Value.type "float") := ⟨by k_is, by first | boot_fast | boot_by_name, by decide⟩
theorem bn_complex {P : Params} : Bn (frag.heap_1 P) (PySem.Str.ofString "complex") (Value.type "complex") := ⟨by k_is, by first | boot_fast | boot_by_name, by decide⟩
theorem bn_isinstance {P : Params} : Bn (frag.heap_1 P) (PySem.Str.ofString "isinstance") (Value.builtin "isinstance") := ⟨by k_is, by first | boot_fast | boot_by_name, by decide⟩
theorem bn_sorted {P : Params} : Bn (frag.heap_1 P) (PySem.Str.ofString "sorted") (Value.builtin "sorted") := ⟨by k_is, by first | boot_fast | boot_by_name, by decide⟩
theorem bn_any {P : Params} : Bn (frag.heap_1 P) (PySem.Str.ofString "any") (Value.builtin "any") := ⟨by k_is, by first | boot_fast | boot_by_name, by decide⟩
theorem bn_chr {P : Params} : Bn (frag.heap_1 P) (PySem.Str.ofString "chr") (Value.builtin "chr") := ⟨by k_is, by first | boot_fast | boot_by_name, by decide⟩
local macro_rules | `(tactic| walk_at "m:bn") => `(tactic| with_reducible first | exact bn_len | exact bn_range | exact bn_sum | exact bn_set | exact bn_zip | exact bn_list | exact bn_min | exact bn_enumerate | exact bn_ord | exact bn_bin | exact bn_int | exact bn_float | exact bn_complex | exact bn_isinstance | exact bn_sorted | exact bn_any | exact bn_chr)
local macro_rules | `(tactic| walk_at "m:has") => `(tactic| ((repeat' (first | with_reducible assumption | exact if_pos rfl | refine (if_neg (by decide)).trans ?_)); done))
local macro_rules | `(tactic| walk_at "eval Name") => `(tactic| k_dflt ((fail_if_success (with_reducible show wpAny _ _ (eval (Expr.Name _ _) (compEnvC _ _ _ _)) _ _ _)); (fail_if_success (with_reducible show wpAny _ _ (eval (Expr.Name _ _) (genEnv _ _ _ _ _ _)) _ _ _)); first
  | (name_kind "local"; refine' nameX_L ?k1 ?k2 ?_ ?k4 ?k5 ?k6; (case k6 => decide); (case k5 => kernel_rfl!); (case k4 => rfl); (case k1 => k_asm); (case k2 => first | with_reducible assumption | rfl | walk_at "m:has"); k_whole)
  | (name_kind "globalImplicit"; refine' nameX_N ?k1 ?k2 ?k3 ?k4 ?k5 ?k6 ?_ ?k7; (case k7 => decide); (case k4 => k_asm); (case k5 => k_asm); (case k1 => walk_at "m:bn"); (case k2 => rfl); (case k3 => kernel_rfl!); (case k6 => k_asm); k_whole)
  | (name_kind "globalImplicit"; refine' nameX_K ?F ?X ?T ?e ?_ ?a ?b ?d; (case d => decide); (case F => k_asm); (case X => k_asm); (case T => k_asm); (case b => kernel_rfl!); (case a => rfl); (case e => k_is); k_whole)
  | (name_kind "cell"; refine' nameX_C ?N ?c ?m ?d ?_ ?a ?b ?hb; (case hb => decide); (case b => kernel_rfl!); (case a => rfl); (case N => k_asm); (case c => rfl); (case m => k_mem); (case d => k_asm); k_whole)))
local macro_rules | `(tactic| walk_at "eval Name") => `(tactic| first
  | ((with_reducible show wpAny _ _ (eval (Expr.Name _ _) (compEnvC _ _ _ _)) _ _ _); first | (refine nm_L (by assumption) (by assumption) ?_ rfl rfl) | (refine nm_C (by assumption) rfl (by assumption) ?_ rfl rfl) | (refine nm_B (by assumption) rfl (by assumption) ?_ rfl rfl) | k_dflt (refine kcf_cell (by k_asm) (by rfl) (by k_mem) (by k_asm) ?_)))
local macro_rules | `(tactic| walk_at "getMethod ref") => `(tactic| k_dflt (first
  | ((with_reducible show wpAny _ _ (getMethod _ (PySem.Str.ofString "_hash_func") _) _ _ _); ((with_reducible refine' kmu_own ?k1 ?k2 ?k3 ?k4 ?k5 ?_); (case k1 => k_asm); (case k2 => k_asm); (case k3 => k_inst); (case k4 => k_is); (case k5 => k_is); k_whole))
  | ((with_reducible show wpAny _ _ (getMethod _ (PySem.Str.ofString "_get_optimized_params") _) _ _ _); k_dflt (refine' kmu_cm ?k1 ?k2 ?k3 ?k4 ?k5 ?k6 ?k7 ?k8 ?k9 ?k10 ?k11 ?k12 ?k13 ?_; (case k1 => k_asm); (case k2 => k_asm); (case k3 => k_asm); (case k4 => k_inst); (case k5 => k_is); (case k6 => k_is); (case k7 => k_is); (case k8 => k_is); (case k9 => k_is); (case k10 => k_is); (case k11 => decide +kernel); (case k12 => k_get); (case k13 => k_is); k_whole); intro q' h' F' N' l1; (try k_lt l1); (try k_sweep))
  | ((with_reducible show wpAny _ _ (getMethod _ (PySem.Str.ofString "append") _) _ _ _); k_dflt (refine' listMethod_K ?N ?m PySem.F.slot_list_append PySem.F.type_list_append ?_; (case N => k_asm); (case m => k_mem)))
  | ((with_reducible show wpAny _ _ (getMethod _ (PySem.Str.ofString "count") _) _ _ _); k_dflt (refine' listMethod_K ?N ?m PySem.F.slot_list_count PySem.F.type_list_count ?_; (case N => k_asm); (case m => k_mem)))
  | ((with_reducible refine' method_inst ?k1 ?k2 ?k3 ?k4 ?k5 ?k6 ?k7 ?_); (case k1 => k_asm); (case k2 => k_asm); (case k3 => k_inst); (case k4 => k_is); (case k5 => k_is); (case k6 => k_is); (case k7 => k_get); k_whole)))
local macro_rules | `(tactic| walk_at "callWith ref nil nil") => `(tactic| k_dflt (first
  | ((with_reducible refine' callWith_K ?k1 ?k2 ?_ ?he ?hp); (case he => exact rfl); (case hp => exact rfl); (case k1 => k_asm); (case k2 => k_is); k_whole)
  | ((with_reducible refine' callWith_F ?k1 ?_ ?he ?hp); (case he => exact rfl); (case hp => exact rfl); (case k1 => exact FnAt.of (by k_asm) (by k_mem)); k_whole)
  | ((with_reducible refine' callWith_M ?k1 ?k2 ?k3 ?k4 ?_ ?he ?hp); (case he => exact rfl); (case hp => exact rfl); (case k1 => k_asm); (case k2 => k_asm); (case k3 => k_mem); (case k4 => k_is); k_whole)))
local macro_rules | `(tactic| walk_at "callWith ref nil") => `(tactic| k_dflt (first
  | ((with_reducible refine' callWith_KW ?k1 ?k2 ?k3 ?_ ?hp ?he); (case he => exact rfl); (case hp => exact rfl); (case k1 => k_asm); (case k2 => k_is); (case k3 => exact rfl); k_whole)
  | ((with_reducible refine' callWith_KW0 ?k1 ?k2 ?k3 ?_ ?hp); (case hp => exact rfl); (case k1 => k_asm); (case k2 => k_is); (case k3 => exact rfl); k_whole)))
local macro_rules | `(tactic| walk_at "callWith ref cons nil") => `(tactic| k_dflt (first
  | ((with_reducible show wpAny _ _ (callWith _ (Value.ref _) _ (backTo _ (starEach [] _)) []) _ _ _); (refine' callWith_K0 ?k1 ?k2 ?_; (case k1 => exact Frag.In.keeps (by k_asm) (Fr.keep (by k_asm))); (case k2 => k_is)); try dsimp only [List.nil_append, List.cons_append])
  | ((with_reducible show wpAny _ _ (callWith _ (Value.ref _) _ (backTo _ (starEach (_ :: _) _)) []) _ _ _); (with_reducible refine' callWith_K ?k1 ?k2 ?_ ?he ?hp); (case he => exact rfl); (case hp => exact rfl); (case k1 => k_asm); (case k2 => k_is); k_whole)))
local macro_rules | `(tactic| walk_at "compareOp In str ref") => `(tactic| k_dflt (refine' in_K ?k1 ?k2 ?k3 ?k4 ?k5 ?_; (case k1 => k_asm); (case k2 => k_asm); (case k3 => k_inst); (case k4 => k_is); (case k5 => k_is); k_whole))
local macro_rules | `(tactic| walk_at "eval Call Attribute cons nil") => `(tactic| ((with_reducible refine' MethodCall_ ?_ ?he); (case he => k_dflt (exact rfl))))
local macro_rules | `(tactic| walk_at "eval Call Attribute nil nil") => `(tactic| ((with_reducible refine' MethodCall_ ?_ ?he); (case he => k_dflt (exact rfl))))
local macro_rules | `(tactic| walk_at "spliced") => `(tactic| first | ((with_reducible refine' args_cons ?_ ?he); (case he => k_dflt (exact rfl))) | ((with_reducible refine args_nil ?_); try simp only [List.cons_append, List.nil_append]))
local macro_rules | `(tactic| walk_at "exec Assign cons ListComp") => `(tactic| ((with_reducible refine' wpAny_Assign_Name ?_ ?hs); (case hs => k_dflt (exact rfl))))
local macro_rules | `(tactic| walk_at "exec Assign cons Call") => `(tactic| ((with_reducible refine' wpAny_Assign_Name ?_ ?hs); (case hs => k_dflt (exact rfl))))
local macro_rules | `(tactic| walk_at "getAttr ref true") => `(tactic| k_dflt (first
  | ((with_reducible show wpAny _ _ (getAttr _ (PySem.Str.ofString "elements_added") _) _ _ _); walk_at "m:prop")
  | ((with_reducible show wpAny _ _ (getAttr _ (PySem.Str.ofString "bloom_length") _) _ _ _); walk_at "m:prop")
  | ((with_reducible show wpAny _ _ (getAttr _ (PySem.Str.ofString "number_bits") _) _ _ _); walk_at "m:prop")
  | ((with_reducible show wpAny _ _ (getAttr _ (PySem.Str.ofString "number_hashes") _) _ _ _); walk_at "m:prop")
  | ((with_reducible show wpAny _ _ (getAttr _ (PySem.Str.ofString "estimated_elements") _) _ _ _); walk_at "m:prop")
  | ((with_reducible show wpAny _ _ (getAttr _ (PySem.Str.ofString "false_positive_rate") _) _ _ _); walk_at "m:prop")
  | ((with_reducible show wpAny _ _ (getAttr _ (PySem.Str.ofString "hash_function") _) _ _ _); walk_at "m:prop")
  | ((with_reducible show wpAny _ _ (getAttr _ (PySem.Str.ofString "bloom") _) _ _ _); walk_at "m:prop")
  | ((with_reducible show wpAny _ _ (getAttr _ (PySem.Str.ofString "expansions") _) _ _ _); walk_at "m:prop")
  | ((with_reducible refine' get_own ?k1 ?k2 ?k3 ?k4 ?k5 ?k6 ?k7 ?k8 ?k9 ?_); (case k1 => k_asm); (case k2 => k_asm); (case k3 => k_inst); (case k4 => k_is); (case k5 => k_is); (case k6 => k_is); (case k7 => k_is); (case k8 => k_get); (case k9 => k_handed); k_whole)))
local macro_rules | `(tactic| walk_at "setAttr ref") => `(tactic| k_dflt ((with_reducible refine' set_dict ?k1 ?k2 ?k3 ?k4 ?k5 ?k6 ?k7 ?k8 ?k9 ?k10 ?k11 ?k12 ?k13 ?_); (case k1 => k_asm); (case k2 => k_asm); (case k3 => k_asm); (case k4 => k_inst); (case k5 => exact rfl); (case k6 => k_is); (case k7 => k_is); (case k8 => k_is); (case k9 => k_is); (case k10 => k_get); (case k11 => k_put); (case k12 => k_upd); (case k13 => exact Nat.le_of_ble_eq_true rfl); k_whole; intro h' F' N'; (try k_sweep)))
local macro_rules | `(tactic| walk_at "setItem ref int int") => `(tactic| k_dflt (((refine' ksa_set ?k1 ?k2 ?k3 ?k4 ?k5 ?k6 ?k7 ?_; (case k1 => k_asm); (case k2 => k_asm); (case k3 => k_upd); (case k4 => with_reducible assumption); (case k5 => first | decide | omega); (case k6 => first | (show (0 : Int) < 1; decide) | omega); (case k7 => first | decide | omega); k_whole); intro h' F' N' hi' _ _; (try k_sweep))))
local macro_rules | `(tactic| walk_at "setAttr ref int") => `(tactic| k_dflt (((with_reducible show wpAny _ _ (setAttr _ (PySem.Str.ofString "elements_added") _) _ _ _); (refine' set_prop ?k1 ?k2 ?k3 ?k4 ?k5 ?k6 ?k7 ?k8 ?_; (case k1 => k_asm); (case k2 => k_asm); (case k3 => k_inst); (case k4 => k_is); (case k5 => k_is); (case k6 => k_is); (case k7 => k_is); (case k8 => k_is); k_whole; walk_at "m:inline"))))
example : True ∧ True := by walk1 <;> trivial
section
local macro_rules | `(tactic| walk_at "m:flush") => `(tactic| trivial)
example : True ∧ True := by walk1 <;> trivial
end
section
section
variable {prog : Program} {w : World} {A : Around} {R : Result → Shared → Prop} {s : Shared}
theorem codeAny_comp_turns {elt target iter : PySem.Expr} {ifs : List PySem.Expr} {scope : Scope} {pos : Pos} {it acc : Value} {env : Env} (I : Nat → Shared → Prop)
    (turn : ∀ n s, I n s → wpAny (model prog w) A (pyNext it) (fun r s₁ => match r with
      | none => R (.ok .next) s₁
      | some v => wpAny (model prog w) A (letOwnedTupleGo target it v) (fun _ s₁' => wpAny (model prog w) A (assign target env v) (fun _ s₂ =>
          wpAny (model prog w) A (forIn ifs true fun c r => if r = true then do let ok ← isTrue c env (eval c env); pure (ForInStep.yield ok) else pure (ForInStep.yield r)) (fun ok s₃ =>
            if ok = true then wpAny (model prog w) A (eval elt env) (fun x s₄ =>
              wpAny (model prog w) A (call (.builtin "list.append") [acc, x]) (fun _ s₅ => ∃ m, m < n ∧ I m s₅) (notedBy (model prog w) A env fun e s' => R (.error e) s') s₄) (notedBy (model prog w) A env fun e s' => R (.error e) s') s₃
            else ∃ m, m < n ∧ I m s₃) (notedBy (model prog w) A env fun e s' => R (.error e) s') s₂) (notedBy (model prog w) A env fun e s' => R (.error e) s') s₁') (notedBy (model prog w) A env fun e s' => R (.error e) s') s₁) (notedBy (model prog w) A env fun e s' => R (.error e) s') s)
    (n : Nat) (h : I n s) :
    codeAny (model prog w) A (.compLoop (.ListComp elt [⟨target, iter, ifs, 0⟩] scope pos) 0 it acc env) R s := by
  refine codeAny_loop rfl I (fun n s hI => ?_) n h
  show wpAny _ A ((compTurn (.ListComp elt [⟨target, iter, ifs, 0⟩] scope pos) 0 it acc env).onRaise (fun x => do noteFrame x env; theTreesLotGoes x)) _ _ s
  refine wpAny_noted ?_
  rw [compTurn_list]
  refine wpAny_bind (wpAny_standAt (wpAny_bind (wpAny_mono (turn n s hI) (fun r s₁ h₁ => ?_) fun _ _ h' => h')))
  cases r with
  | none => exact wpAny_pure h₁
  | some v =>
    refine wpAny_bind (wpAny_mono h₁ (fun _ s₁' h₁' => ?_) fun _ _ h' => h')
    refine wpAny_bind (wpAny_mono h₁' (fun _ s₂ h₂ => wpAny_bind (wpAny_mono h₂ (fun ok s₃ h₃ => ?_) fun _ _ h' => h')) fun _ _ h' => h')
    cases ok with
    | false => exact wpAny_pure ⟨rfl, h₃⟩
    | true =>
      exact wpAny_bind (wpAny_bind (wpAny_mono h₃ (fun x s₄ h₄ => wpAny_bind (wpAny_mono h₄ (fun _ s₅ h₅ => wpAny_pure (wpAny_pure ⟨rfl, h₅⟩)) fun _ _ h' => h')) fun _ _ h' => h'))
end

abbrev lst (ys : List Value) : Obj := LCg.lst ys
abbrev testsOf (ifs : List PySem.Expr) (cenv : Env) : Sem Bool := forIn ifs true fun c r => if r = true then do let ok ← isTrue c cenv (eval c cenv); pure (ForInStep.yield ok) else pure (ForInStep.yield r)
abbrev NoE : Value → Shared → Prop := fun _ _ => False
def Kp (fp : List Addr) (h h' : Heap) : Prop := ∀ b ∈ fp, ∀ o, h.get? b = some o → h'.get? b = some o
def Kb (wr : List Addr) (h h' : Heap) : Prop := ∀ b o, b ∉ wr → h.get? b = some o → h'.get? b = some o

/-- objects that a loop of its own changes: no code objects, no tables -/
def Lp (o : Obj) : Prop := (∃ es ep, o.data = .dict es ep) ∨ (∃ v, o.data = .cell v) ∨ ∃ c, o.cls = .type c ∧ c ≠ "code"
/-- tables that an element may change, and what holds of them -/
structure Tb (tb : List Addr) (Inv : Shared → Prop) : Prop where
  stable : ∀ s s', Inv s → (∀ b o, s.heap.get? b = some o → s'.heap.get? b = some o ∨ Lp o) → (AllBare s.gens → AllBare s'.gens) → Inv s'
  not : ∀ s, Inv s → ∀ b ∈ tb, ∃ o, s.heap.get? b = some o ∧ ¬ Lp o
/-- a comprehension's source together with its target -/
structure Src {ι : Type} (w : World) (A : Around) (it : Value) (target : PySem.Expr) (cenv : Env) (fp wr : List Addr) (n : Nat) (P : Nat → ι → Prop) (St : Nat → Heap → Prop) (Bd : ι → Heap → Prop) (Fin : Heap → Prop) : Prop where
  sub : ∀ b ∈ wr, b ∈ fp
  frame : ∀ i h h', St i h → Kp fp h h' → St i h'
  bd : ∀ x h h', Bd x h → Kp fp h h' → Bd x h'
  there : ∀ i h, St i h → ∀ b ∈ fp, ∃ o, h.get? b = some o ∧ Lp o
  item : ∀ i (s : Shared) (Q : Shared → Prop) (E : Value → Shared → Prop), i < n → St i s.heap → (∀ x h' tk, P i x → St (i + 1) h' → Bd x h' → Kb wr s.heap h' → Q { s with heap := h', toks := tk }) →
    wpAny (MM w) A (pyNext it) (fun r s₁ => ∃ v, r = some v ∧ wpAny (MM w) A (letOwnedTupleGo target it v) (fun _ s₂ => wpAny (MM w) A (assign target cenv v) (fun _ s₃ => Q s₃) E s₂) E s₁) E s
  done : ∀ (s : Shared) (Q : Option Value → Shared → Prop) (E : Value → Shared → Prop), St n s.heap → (∀ h' tk, Kb wr s.heap h' → Fin h' → Q none { s with heap := h', toks := tk }) → wpAny (MM w) A (pyNext it) Q E s
  self : ∀ i (s : Shared) (Q : Value → Shared → Prop) (E : Value → Shared → Prop), St i s.heap → Q it s → wpAny (MM w) A (pyIter it) Q E s

theorem paired_imp {α β : Type} {F G : α → β → Prop} (h : ∀ a b, F a b → G a b) : ∀ {l₁ : List α} {l₂ : List β}, Paired F l₁ l₂ → Paired G l₁ l₂
  | _, _, .nil => .nil
  | _, _, .cons a t => .cons (h _ _ a) (paired_imp h t)
theorem Af.kb {ch : List Addr} {s s' : Shared} (x : Af ch s s') : Kb ch s.heap s'.heap := fun b o n e => x.keep b o e n
theorem Af.kp {ch fp : List Addr} {s s' : Shared} (x : Af ch s s') (d : ∀ b ∈ fp, b ∉ ch) : Kp fp s.heap s'.heap := fun b hb o e => x.keep b o e (d b hb)
theorem Kb.ne {wr : List Addr} {h h' : Heap} (x : Kb wr h h') (d : ∀ b ∈ wr, h'.get? b ≠ none) : ∀ b, h'.get? b = none → h.get? b = none := fun b e => by
  cases q : h.get? b with
  | none => rfl
  | some o =>
    by_cases hb : b ∈ wr
    · exact absurd e (d b hb)
    · rw [x b o hb q] at e; cases e

section
variable {w : World} {A : Around} {R : Result → Shared → Prop} {s : Shared} {ι : Type}
theorem Src.item' {it : Value} {target : PySem.Expr} {cenv : Env} {fp wr : List Addr} {n : Nat} {P : Nat → ι → Prop} {St : Nat → Heap → Prop} {Bd : ι → Heap → Prop} {Fin : Heap → Prop} (W : Src w A it target cenv fp wr n P St Bd Fin) {i : Nat} {E : Value → Shared → Prop} {Q : Shared → Prop} {G : Option Value → Shared → Prop}
    (hi : i < n) (st : St i s.heap) (hG : ∀ v s₁, wpAny (MM w) A (letOwnedTupleGo target it v) (fun _ s₂ => wpAny (MM w) A (assign target cenv v) (fun _ s₃ => Q s₃) E s₂) E s₁ → G (some v) s₁)
    (h : ∀ x h' tk, P i x → St (i + 1) h' → Bd x h' → Kb wr s.heap h' → Q { s with heap := h', toks := tk }) : wpAny (MM w) A (pyNext it) G E s :=
  wpAny_mono (W.item i s Q E hi st h) (fun _ _ ⟨v, e, z⟩ => by subst e; exact hG v _ z) fun _ _ e => e
theorem src_loop {elt target iter : PySem.Expr} {ifs : List PySem.Expr} {scope : Scope} {pos : Pos} {it : Value} {D : Addr} {cenv : Env} {fp wr tb : List Addr} {Inv : Shared → Prop} {n : Nat} {P : Nat → ι → Prop} {St : Nat → Heap → Prop} {Bd : ι → Heap → Prop} {Fin : Heap → Prop}
    (W : Src w A it target cenv fp wr n P St Bd Fin) (T : Tb tb Inv) (p : ι → Bool) (F : Heap → Heap → ι → Value → Prop)
    (hF : ∀ g h h' x y, F g h x y → (∀ b o, g.get? b = none → h.get? b = some o → h'.get? b = some o) → F g h' x y) (hsz : n ≤ sizeLine) (hDf : D ∉ fp) (hst : St 0 s.heap) (hD : s.heap.get? D = some (lst [])) (hI : Inv s)
    (tests : ∀ i x s₃, i < n → P i x → Bd x s₃.heap → Af (tb ++ D :: wr) s s₃ → Inv s₃ → wpAny (MM w) A (testsOf ifs cenv) (fun ok s₄ => ok = p x ∧ Af tb s₃ s₄ ∧ Inv s₄) NoE s₃)
    (elts : ∀ i x s₃, i < n → P i x → p x = true → Bd x s₃.heap → Af (tb ++ D :: wr) s s₃ → Inv s₃ → wpAny (MM w) A (eval elt cenv) (fun y s₄ => F s₃.heap s₄.heap x y ∧ Af tb s₃ s₄ ∧ Inv s₄) NoE s₃)
    (hR : ∀ s' (xs : List ι) ys, Af (tb ++ D :: wr) s s' → Inv s' → Fin s'.heap → s'.heap.get? D = some (lst ys) → xs.length = n → (∀ j x, xs[j]? = some x → P j x) →
      Paired (fun x y => ∃ g, (∀ b, g.get? b = none → s.heap.get? b = none) ∧ F g s'.heap x y) (xs.filter p) ys → R (.ok .next) s') :
    codeAny (MM w) A (.compLoop (.ListComp elt [⟨target, iter, ifs, 0⟩] scope pos) 0 it (.ref D) cenv) R s := by
  have hDw : D ∉ wr := fun h => hDf (W.sub _ h)
  have lpD : ∀ ys, Lp (lst ys) := fun ys => .inr (.inr ⟨"list", rfl, by decide⟩)
  -- what the loop changes is none of the tables
  have apart : ∀ i s₃ (ys : List Value), St i s₃.heap → s₃.heap.get? D = some (lst ys) → Inv s₃ → ∀ b ∈ tb, b ∉ D :: fp := fun i s₃ ys st hD h b hb hm => by
    obtain ⟨o, e, nl⟩ := T.not _ h b hb
    rcases List.mem_cons.mp hm with q | q
    · rw [q, hD] at e; cases e; exact nl (lpD ys)
    · obtain ⟨o', e', l'⟩ := W.there _ _ st b q
      rw [e] at e'; cases e'; exact nl l'
  refine codeAny_comp_turns (prog := Pg)
    (fun k s' => ∃ xs : List ι, ∃ ys, Af (tb ++ D :: wr) s s' ∧ St xs.length s'.heap ∧ s'.heap.get? D = some (lst ys) ∧ ys.length ≤ xs.length ∧ (∀ j x, xs[j]? = some x → P j x) ∧ Inv s' ∧
      Paired (fun x y => ∃ g, (∀ b, g.get? b = none → s.heap.get? b = none) ∧ (∀ b ∈ tb ++ D :: wr, g.get? b ≠ none) ∧ F g s'.heap x y) (xs.filter p) ys ∧ xs.length ≤ n ∧ k = n + 1 - xs.length) ?_ (n + 1)
    ⟨[], [], (Af.refl s).mono (by simp), hst, hD, Nat.le_refl _, by simp, hI, by simpa using Paired.nil, Nat.zero_le _, rfl⟩
  rintro k s' ⟨xs, ys, af, st', hD', hyl, hP, hI', hPF, hi, rfl⟩
  have some_of : ∀ {h : Heap} {b : Addr} {o : Obj}, h.get? b = some o → h.get? b ≠ none := fun e => by rw [e]; exact nofun
  have neAt : ∀ i s₃ (ys : List Value), St i s₃.heap → s₃.heap.get? D = some (lst ys) → Inv s₃ → ∀ b ∈ tb ++ D :: wr, s₃.heap.get? b ≠ none := fun i s₃ ys st hD h b hb => by
    rcases List.mem_append.mp hb with hb | hb
    · obtain ⟨o, e, _⟩ := T.not _ h b hb; exact some_of e
    · rcases List.mem_cons.mp hb with rfl | hb
      · exact some_of hD
      · obtain ⟨o, e, _⟩ := W.there _ _ st b (W.sub _ hb); exact some_of e
  have up : ∀ b, s'.heap.get? b = none → s.heap.get? b = none := af.kb.ne (neAt _ _ _ st' hD' hI')
  by_cases hlt : xs.length < n
  · refine W.item' hlt st' (fun v s₁ h => h) fun x h₁ tk₁ hPx st₁ hb₁ hk₁ => ?_
    have hP' : ∀ j y, (xs ++ [x])[j]? = some y → P j y := fun j y hj => by
      by_cases hjl : j < xs.length
      · rw [List.getElem?_append_left hjl] at hj; exact hP j y hj
      · have hje : j = xs.length := by
          have := (List.getElem?_eq_some_iff.mp hj).1
          rw [List.length_append, List.length_singleton] at this; omega
        subst hje; rw [List.getElem?_concat_length] at hj; cases hj; exact hPx
    have wr_in : ∀ a ∈ wr, a ∈ tb ++ D :: wr := fun a ha => List.mem_append_right _ (List.mem_cons_of_mem _ ha)
    have af₁ : Af (tb ++ D :: wr) s { s' with heap := h₁, toks := tk₁ } := af.trans (d := wr) ⟨fun b o e n => hk₁ b o n e, rfl, id⟩ (fun _ h => h) fun a ha => .inl (wr_in a ha)
    have hD₁ : h₁.get? D = some (lst ys) := hk₁ _ _ hDw hD'
    have hI₁ : Inv { s' with heap := h₁, toks := tk₁ } := T.stable s' _ hI' (fun b o e => by
      by_cases hb : b ∈ wr
      · obtain ⟨o', e', l⟩ := W.there _ _ st' b (W.sub _ hb)
        rw [e] at e'; cases e'; exact .inr l
      · exact .inl (hk₁ b o hb e)) id
    refine wpAny_mono (tests xs.length x _ hlt hPx hb₁ af₁ hI₁) (fun ok s₄ h₄ => ?_) fun _ _ e => e.elim
    obtain ⟨rfl, af₄, hI₄⟩ := h₄
    have ap₁ := apart _ { s' with heap := h₁, toks := tk₁ } _ st₁ hD₁ hI₁
    have k4 : ∀ b o, b ∉ tb → h₁.get? b = some o → s₄.heap.get? b = some o := fun b o n e => af₄.keep b o e n
    have kp4 : Kp fp h₁ s₄.heap := fun b hb o e => k4 b o (fun q => ap₁ b q (List.mem_cons_of_mem _ hb)) e
    have hD₄ := k4 _ _ (fun q => ap₁ D q (.head _)) hD₁
    have st₄ := W.frame _ _ _ st₁ kp4
    have F₄ : ∀ x y, (∃ g, (∀ b, g.get? b = none → s.heap.get? b = none) ∧ (∀ b ∈ tb ++ D :: wr, g.get? b ≠ none) ∧ F g s'.heap x y) → ∃ g, (∀ b, g.get? b = none → s.heap.get? b = none) ∧ (∀ b ∈ tb ++ D :: wr, g.get? b ≠ none) ∧ F g s₄.heap x y := by
      rintro x y ⟨g, h1, h2, h3⟩
      exact ⟨g, h1, h2, hF _ _ _ _ _ h3 fun b o hg e => k4 _ _ (fun q => h2 b (List.mem_append_left _ q) hg) (hk₁ b o (fun q => h2 b (wr_in b q) hg) e)⟩
    have af₅ : Af (tb ++ D :: wr) s s₄ := af₁.trans af₄ (fun _ h => h) fun a ha => .inl (List.mem_append_left _ ha)
    cases hp : p x with
    | false =>
      rw [if_neg Bool.false_ne_true]
      refine ⟨n + 1 - (xs ++ [x]).length, by rw [List.length_append, List.length_singleton]; omega, xs ++ [x], ys, af₅, by rw [List.length_append, List.length_singleton]; exact st₄, hD₄, by rw [List.length_append]; omega, hP', hI₄, ?_, by rw [List.length_append, List.length_singleton]; omega, rfl⟩
      rw [List.filter_append, List.filter_cons_of_neg (by rw [hp]; exact Bool.false_ne_true), List.filter_nil, List.append_nil]
      exact paired_imp F₄ hPF
    | true =>
      rw [if_pos rfl]
      refine wpAny_mono (elts xs.length x s₄ hlt hPx hp (W.bd _ _ _ hb₁ kp4) af₅ hI₄) (fun y s₆ h₆ => ?_) fun _ _ e => e.elim
      obtain ⟨hFy, af₆, hI₆⟩ := h₆
      have ap₄ := apart _ s₄ _ st₄ hD₄ hI₄
      have k6 : ∀ b o, b ∉ tb → s₄.heap.get? b = some o → s₆.heap.get? b = some o := fun b o n e => af₆.keep b o e n
      have hD₆ := k6 _ _ (fun q => ap₄ D q (.head _)) hD₄
      refine append_at (hsz := by show ys.toArray.size ≤ sizeLine; rw [List.size_toArray]; omega) hD₆ fun h₇ hs₇ hD₇ => ?_
      have af₆' : Af (tb ++ D :: wr) s s₆ := af₅.trans af₆ (fun _ h => h) fun a ha => .inl (List.mem_append_left _ ha)
      have af₇ : Af (tb ++ D :: wr) s { s₆ with heap := h₇ } := af₆'.trans (d := [D]) ⟨fun b o e n => hs₇.extBut b o (by simpa using n) e, rfl, id⟩ (fun _ h => h) (fun a ha => by rw [List.mem_singleton.mp ha]; exact .inl (List.mem_append_right _ (.head _)))
      have hI₇ : Inv { s₆ with heap := h₇ } := T.stable s₆ _ hI₆ (fun b o e => by
        by_cases hb : b = D
        · subst hb; rw [hD₆] at e; cases e; exact .inr (lpD ys)
        · exact .inl (hs₇.extBut b o hb e)) id
      refine ⟨n + 1 - (xs ++ [x]).length, by rw [List.length_append, List.length_singleton]; omega, xs ++ [x], ys ++ [y], af₇, ?_, hD₇.trans (congrArg some (LCg.lst_snoc ys y)), by rw [List.length_append, List.length_append, List.length_singleton, List.length_singleton]; omega, hP', hI₇, ?_, by rw [List.length_append, List.length_singleton]; omega, rfl⟩
      · rw [List.length_append, List.length_singleton]
        exact W.frame _ _ _ st₄ fun b hb o e => hs₇.extBut b o (fun q => hDf (q ▸ hb)) (k6 _ _ (fun q => ap₄ b q (List.mem_cons_of_mem _ hb)) e)
      · rw [List.filter_append, List.filter_cons_of_pos hp, List.filter_nil]
        have g4 : ∀ b, s₄.heap.get? b = none → s.heap.get? b = none := af₅.kb.ne (neAt _ _ _ st₄ hD₄ hI₄)
        have n4 := neAt _ _ _ st₄ hD₄ hI₄
        have inD : D ∈ tb ++ D :: wr := List.mem_append_right _ (.head _)
        refine Paired.snoc (paired_imp (fun x y h => ?_) hPF) ⟨s₄.heap, g4, n4, hF _ _ _ _ _ hFy fun b o hg e => hs₇.extBut b o (fun q => n4 D inD (q ▸ hg)) e⟩
        obtain ⟨g, h1, h2, h3⟩ := F₄ x y h
        exact ⟨g, h1, h2, hF _ _ _ _ _ h3 fun b o hg e => hs₇.extBut b o (fun q => h2 D inD (q ▸ hg)) (k6 _ _ (fun q => h2 b (List.mem_append_left _ q) hg) e)⟩
  · have hn : xs.length = n := Nat.le_antisymm hi (Nat.not_lt.mp hlt)
    rw [hn] at st'
    have wr_in : ∀ a ∈ wr, a ∈ tb ++ D :: wr := fun a ha => List.mem_append_right _ (List.mem_cons_of_mem _ ha)
    refine W.done s' _ _ st' fun h₁ tk₁ hk₁ fin => ?_
    refine hR _ xs ys (af.trans (d := wr) ⟨fun b o e n => hk₁ b o n e, rfl, id⟩ (fun _ h => h) fun a ha => .inl (wr_in a ha)) (T.stable s' _ hI' (fun b o e => by
      by_cases hb : b ∈ wr
      · obtain ⟨o', e', l⟩ := W.there _ _ st' b (W.sub _ hb)
        rw [e] at e'; cases e'; exact .inr l
      · exact .inl (hk₁ b o hb e)) id) fin (hk₁ _ _ hDw hD') hn hP (paired_imp ?_ hPF)
    rintro x y ⟨g, h1, h2, h3⟩
    exact ⟨g, h1, hF _ _ _ _ _ h3 fun b o hg e => hk₁ b o (fun q => h2 b (wr_in b q) hg) e⟩
end

abbrev cenvOf (scope : Scope) (cl : List (Str × Addr)) (C : Addr) (env : Env) : Env :=
  { scope := relabel scope env, locals := C, globals := env.globals, cells := cellsFrom (C + 1) scope.names cl, qual := env.qual, func := none, code := env.code, frame := env.frame, builtins := env.builtins }
abbrev dct : Obj := { cls := .type "dict", data := .dict #[] }
theorem nfe {M : Model} {A : Around} {E : Value → Shared → Prop} {s : Shared} {scope : Scope} {cl : List (Str × Addr)} {env : Env} {Q : Env → Shared → Prop}
    (h : Q { scope, locals := s.heap.objs.size, globals := env.globals, cells := cellsFrom (s.heap.objs.size + 1) scope.names cl, qual := env.qual, func := none, code := env.code, frame := env.frame, builtins := env.builtins }
      { s with heap := pushCells (s.heap.push dct) scope.names }) : wpAny M A (newFunctionEnv scope env.globals cl [] env.qual none .none (some env)) Q E s := by
  simp only [newFunctionEnv, Option.isSome_some, if_true]
  refine wpAny_bind (wpAny_alloc ?_)
  refine wpAny_bind (wpAny_layCells _ (fun name kind cells => by cases hkc : kind == NameKind.cell <;> simp [hkc]) _ _ _ _ ?_)
  rw [show ({ s with heap := s.heap.push { cls := .type "dict", data := .dict #[] } } : Shared).heap.objs.size = s.heap.objs.size + 1 from Heap.size_push ..]
  rw [List.forIn_nil]
  exact wpAny_bind (wpAny_pure (wpAny_pure h))

/-- what a comprehension needs: its source, its tests, its element -/
structure CompOk {ι : Type} (w : World) (A : Around) (elt target : PySem.Expr) (ifs : List PySem.Expr) (scope : Scope) (cl : List (Str × Addr)) (env : Env) (n : Nat) (P : Nat → ι → Prop) (Bd : Addr → ι → Heap → Prop) (p : ι → Bool) (F : Heap → Heap → ι → Value → Prop)
    (tb : List Addr) (Inv : Shared → Prop) (xv : Value) (s₁ s₀ : Shared) : Prop where
  tabs : Tb tb Inv
  inv : Inv s₁
  hit : ∀ Q' : Value → Shared → Prop, (∀ it s₂, Af [] s₁ s₂ → s₁.heap.objs.size ≤ s₂.heap.objs.size → (∀ D C h', D = s₂.heap.objs.size → C = D + 1 → h' = pushCells ((s₂.heap.push (lst [])).push dct) scope.names →
      ∃ fp wr St, Src w A it target (cenvOf scope cl C env) fp wr n P St (Bd C) (fun h => ∃ m, h.Ns C m) ∧ D ∉ fp ∧ St 0 h' ∧ ∀ b ∈ wr, s₁.heap.get? b = none) → Q' it s₂) → wpAny (MM w) A (pyIter xv) Q' NoE s₀
  tests : ∀ C i x s₃, i < n → P i x → Bd C x s₃.heap → s₁.heap.objs.size ≤ C → Af tb s₁ s₃ → Inv s₃ → wpAny (MM w) A (testsOf ifs (cenvOf scope cl C env)) (fun ok s₄ => ok = p x ∧ Af tb s₃ s₄ ∧ Inv s₄) NoE s₃
  elts : ∀ C i x s₃, i < n → P i x → p x = true → Bd C x s₃.heap → s₁.heap.objs.size ≤ C → Af tb s₁ s₃ → Inv s₃ → wpAny (MM w) A (eval elt (cenvOf scope cl C env)) (fun y s₄ => F s₃.heap s₄.heap x y ∧ Af tb s₃ s₄ ∧ Inv s₄) NoE s₃
/-- what it leaves -/
structure CompEnd {ι : Type} (n : Nat) (P : Nat → ι → Prop) (p : ι → Bool) (F : Heap → Heap → ι → Value → Prop) (tb : List Addr) (Inv : Shared → Prop) (ch : List Addr) (s₁ s' : Shared) (D : Addr) (xs : List ι) (ys : List Value) : Prop where
  inv : Inv s'
  new : s₁.heap.get? D = none
  af : Af (tb ++ ch) s₁ s'
  at_ : s'.heap.get? D = some (lst ys)
  len : xs.length = n
  src : ∀ j x, xs[j]? = some x → P j x
  out : Paired (fun x y => ∃ g, (∀ b, g.get? b = none → s₁.heap.get? b = none) ∧ F g s'.heap x y) (xs.filter p) ys
section
variable {w : World} {A : Around} {E : Value → Shared → Prop} {ι : Type}
theorem comp_core {elt target iter : PySem.Expr} {ifs : List PySem.Expr} {scope : Scope} {cl : List (Str × Addr)} {pos pos2 : Pos} {env : Env} {use : Option (Value → Sem Unit)} {Q : Value → Shared → Prop} {n : Nat} {P : Nat → ι → Prop} {Bd : Addr → ι → Heap → Prop} {tb : List Addr} {Inv : Shared → Prop} {s : Shared}
    (hs : ∀ x, foldedSetIterable iter env x = pure x) (hclos : closureFor scope env = pure cl) (hkind : scope.kind = .function) (hnames : ∀ x ∈ scope.names, x.2 = .local → scope.names.lookup x.1 = some .local)
    (hsz : n ≤ sizeLine) (p : ι → Bool) (F : Heap → Heap → ι → Value → Prop) (hF : ∀ g h h' x y, F g h x y → (∀ b o, g.get? b = none → h.get? b = some o → h'.get? b = some o) → F g h' x y)
    (h : wpAny (MM w) A (eval iter env) (fun xv s₀ => ∃ s₁ : Shared, CompOk w A elt target ifs scope cl env n P Bd p F tb Inv xv s₁ s₀ ∧
      (∀ D C s' (xs : List ι) ys m, s'.heap.Ns C m → s₁.heap.get? C = none → D ≠ C → CompEnd n P p (fun (g : Heap) h x y => g.get? C ≠ none ∧ F g h x y) tb Inv [] s₁ s' D xs ys → compPost (MM w) A E use Q (.ref D) C (.ok .next) s')) E s) :
    wpAny (MM w) A (comprehension (.ListComp elt [⟨target, iter, ifs, 0⟩] scope pos) scope env pos2 (newList []) false (eval iter env) use) Q E s := by
  refine wpAny_comprehension_free (use := use) rfl hs hclos hkind hnames (wpAny_mono h (fun xv s₀ h₁ => ?_) fun _ _ e => e)
  obtain ⟨s₁, ⟨T, hI, hit, tests, elts⟩, fin⟩ := h₁
  refine wpAny_mono (hit _ fun it s₂ a₂ hsz12 src => ?_) (fun _ _ y => y) fun _ _ e => e.elim
  refine wpAny_newObj_type (nfe ?_)
  have hC : (s₂.heap.push (lst [])).objs.size = s₂.heap.objs.size + 1 := by rw [Heap.size_push]
  obtain ⟨fp, wr, St, W, hDf, hst, hwr⟩ := src _ _ _ rfl rfl rfl
  have k0 : ∀ b o, s₂.heap.get? b = some o → (pushCells ((s₂.heap.push (lst [])).push dct) scope.names).get? b = some o := fun b o e => pushCells_keeps _ _ b o (Heap.get?_push_of_some _ (Heap.get?_push_of_some _ e))
  have fresh : ∀ a, s₂.heap.objs.size ≤ a → s₁.heap.get? a = none := fun a ha => by
    cases e : s₁.heap.get? a with
    | none => rfl
    | some o' => exact absurd (Heap.lt_size (a₂.keep _ _ e (by simp))) (Nat.not_lt.mpr ha)
  have aux : ∀ t, Af [] s₁ { s₂ with heap := pushCells ((s₂.heap.push (lst [])).push dct) scope.names, toks := t } := fun t => a₂.trans (d := []) ⟨fun b o e _ => k0 b o e, rfl, id⟩ (by simp) (by simp)
  have chn : ∀ a ∈ s₂.heap.objs.size :: wr, s₁.heap.get? a = none := fun a ha => by
    rcases List.mem_cons.mp ha with rfl | ha
    · exact fresh _ (Nat.le_refl _)
    · exact hwr a ha
  have up : ∀ t s₄, Af (tb ++ s₂.heap.objs.size :: wr) { s₂ with heap := pushCells ((s₂.heap.push (lst [])).push dct) scope.names, toks := t } s₄ → Af tb s₁ s₄ := fun t s₄ y =>
    ⟨fun b o e n => y.keep b o ((aux t).keep b o e (by simp)) (fun hb => by
      rcases List.mem_append.mp hb with hb | hb
      · exact n hb
      · rw [chn b hb] at e; cases e), y.os.trans (aux t).os, fun g => y.gens ((aux t).gens g)⟩
  have hI₂ : ∀ t, Inv { s₂ with heap := pushCells ((s₂.heap.push (lst [])).push dct) scope.names, toks := t } := fun t => T.stable s₁ _ hI (fun b o e => .inl ((aux t).keep b o e (by simp))) (aux t).gens
  have hC₁ : s₁.heap.get? (s₂.heap.objs.size + 1) = none := fresh _ (Nat.le_succ _)
  have hC₂ : s₁.heap.objs.size ≤ s₂.heap.objs.size + 1 := Nat.le_succ_of_le hsz12
  have hD' : (pushCells ((s₂.heap.push (lst [])).push dct) scope.names).get? s₂.heap.objs.size = some (lst []) := pushCells_keeps _ _ _ _ (Heap.get?_push_of_some _ (Heap.get?_push_size _ rfl))
  have hCs : (pushCells ((s₂.heap.push (lst [])).push dct) scope.names).get? (s₂.heap.objs.size + 1) = some dct := pushCells_keeps _ _ _ _ (by rw [← hC]; exact Heap.get?_push_size _ rfl)
  have loop : ∀ C t, C = (s₂.heap.push (lst [])).objs.size → codeAny (MM w) A (.compLoop (.ListComp elt [⟨target, iter, ifs, 0⟩] scope pos) 0 it (.ref s₂.heap.objs.size) (cenvOf scope cl C env))
      (compPost (MM w) A E use Q (.ref s₂.heap.objs.size) C) { s₂ with heap := pushCells ((s₂.heap.push (lst [])).push dct) scope.names, toks := t } := by
    intro C t hCe
    rw [hC] at hCe
    subst hCe
    refine src_loop W T p F hF hsz hDf hst hD' (hI₂ t) (fun i x s₃ hi hP hb a I => tests _ i x s₃ hi hP hb hC₂ (up t s₃ a) I) (fun i x s₃ hi hP hp hb a I => elts _ i x s₃ hi hP hp hb hC₂ (up t s₃ a) I) ?_
    intro s' xs ys a I ⟨m, hn⟩ hl hlen hP hPF
    refine fin _ _ s' xs ys m hn hC₁ (Nat.ne_of_lt (Nat.lt_succ_self _)) ⟨I, fresh _ (Nat.le_refl _), by rw [List.append_nil]; exact up t s' a, hl, hlen, hP, paired_imp ?_ hPF⟩
    rintro x y ⟨g, h1, h2⟩
    have hgC : g.get? (s₂.heap.objs.size + 1) ≠ none := fun q => by
      have := h1 _ q
      rw [hCs] at this; cases this
    refine ⟨g, fun b e => ?_, hgC, h2⟩
    have z := h1 b e
    cases q : s₁.heap.get? b with
    | none => rfl
    | some o => rw [(aux t).keep b o q (by simp)] at z; cases z
  exact codeAny_compStart_list (loop _ _ rfl) (W.self 0 _ _ _ hst (loop _ _ rfl))
theorem CompEnd.after {n : Nat} {P : Nat → ι → Prop} {p : ι → Bool} {F : Heap → Heap → ι → Value → Prop} (hF : ∀ g h h' x y, F g h x y → (∀ b o, g.get? b = none → h.get? b = some o → h'.get? b = some o) → F g h' x y) {s₁ s' : Shared} {h'' : Heap} {t : Nat} {D C : Addr} {tb ch : List Addr} {Inv : Shared → Prop} {m : Str → Option Value} {xs : List ι} {ys : List Value}
    (e : CompEnd n P p (fun (g : Heap) h x y => g.get? C ≠ none ∧ F g h x y) tb Inv [] s₁ s' D xs ys) (T : Tb tb Inv) (hn : s'.heap.Ns C m) (hC : s₁.heap.get? C = none) (hDC : D ≠ C) (hk : ∀ b o, b ≠ C → b ∉ ch → s'.heap.get? b = some o → h''.get? b = some o) (hch : ∀ b ∈ ch, s₁.heap.get? b ≠ none ∧ ∃ m, s'.heap.Ns b m) :
    CompEnd n P p F tb Inv ch s₁ { s' with heap := h'', toks := t } D xs ys := by
  have lpN : ∀ {b o m}, s'.heap.Ns b m → s'.heap.get? b = some o → Lp o := fun {b o m} ⟨o', es, ep, q, d, _⟩ e => by rw [q] at e; cases e; exact .inl ⟨_, _, d⟩
  refine ⟨T.stable _ _ e.inv (fun b o q => ?_) id, e.new, ⟨fun b o q n => hk b o (fun z => by rw [z, hC] at q; cases q) (fun z => n (List.mem_append_right _ z)) (e.af.keep b o q (by rw [List.append_nil]; exact fun z => n (List.mem_append_left _ z))), e.af.os, e.af.gens⟩, hk _ _ hDC (fun q => (hch _ q).1 e.new) e.at_, e.len, e.src, paired_imp ?_ e.out⟩
  · by_cases h1 : b = C
    · subst h1; exact .inr (lpN hn q)
    · by_cases h2 : b ∈ ch
      · exact .inr (lpN (hch b h2).2.choose_spec q)
      · exact .inl (hk b o h1 h2 q)
  · rintro x y ⟨g, h1, h2, h3⟩
    exact ⟨g, h1, hF _ _ _ _ _ h3 fun b o q z => hk b o (fun r => h2 (r ▸ q)) (fun r => (hch b r).1 (h1 b q)) z⟩
theorem comp_gen {elt target iter : PySem.Expr} {ifs : List PySem.Expr} {scope : Scope} {cl : List (Str × Addr)} {pos : Pos} {env : Env} {Q : Value → Shared → Prop} {n : Nat} {P : Nat → ι → Prop} {Bd : Addr → ι → Heap → Prop} {tb : List Addr} {Inv : Shared → Prop} {s : Shared}
    (hs : ∀ x, foldedSetIterable iter env x = pure x) (hclos : closureFor scope env = pure cl) (hkind : scope.kind = .function) (hnames : ∀ x ∈ scope.names, x.2 = .local → scope.names.lookup x.1 = some .local)
    (hsz : n ≤ sizeLine) (p : ι → Bool) (F : Heap → Heap → ι → Value → Prop) (hF : ∀ g h h' x y, F g h x y → (∀ b o, g.get? b = none → h.get? b = some o → h'.get? b = some o) → F g h' x y)
    (h : wpAny (MM w) A (eval iter env) (fun xv s₀ => Stopped (∃ s₁ : Shared, CompOk w A elt target ifs scope cl env n P Bd p F tb Inv xv s₁ s₀ ∧ ∀ D s' (xs : List ι) ys, CompEnd n P p F tb Inv [] s₁ s' D xs ys → Q (.ref D) s')) E s) :
    wpAny (MM w) A (eval (.ListComp elt [⟨target, iter, ifs, 0⟩] scope pos) env) Q E s := by
  rw [eval_ListComp]
  refine comp_core (use := none) (Q := Q) hs hclos hkind hnames hsz p F hF (wpAny_mono h (fun xv s₀ ⟨s₁, ok, fin⟩ => ⟨s₁, ok, fun D C s' xs ys m hn hC hDC e => ⟨m, hn, fun h'' hs'' => fin D _ xs ys ?_⟩⟩) fun _ _ e => e)
  exact e.after hF ok.tabs hn hC hDC (fun b o h _ z => hs''.extBut b o h z) (by simp)
theorem comp_use {elt target iter : PySem.Expr} {ifs : List PySem.Expr} {scope : Scope} {cl : List (Str × Addr)} {pos spos : Pos} {env : Env} {y : Str} {py : Pos} {Q : Flow → Shared → Prop} {n : Nat} {P : Nat → ι → Prop} {Bd : Addr → ι → Heap → Prop} {tb : List Addr} {Inv : Shared → Prop} {s : Shared}
    (hsw : swapsWith (.ListComp elt [⟨target, iter, ifs, 0⟩] scope pos) (some (.Name y py)) spos.line env = pure true)
    (hs : ∀ x, foldedSetIterable iter env x = pure x) (hclos : closureFor scope env = pure cl) (hkind : scope.kind = .function) (hnames : ∀ x ∈ scope.names, x.2 = .local → scope.names.lookup x.1 = some .local)
    (hy : env.kindOf y = some .local) (hp : (env.scope.kind == .class || (env.scope.kind == .module && env.locals != env.globals)) = false)
    (hsz : n ≤ sizeLine) (p : ι → Bool) (F : Heap → Heap → ι → Value → Prop) (hF : ∀ g h h' x y, F g h x y → (∀ b o, g.get? b = none → h.get? b = some o → h'.get? b = some o) → F g h' x y)
    (h : wpAny (MM w) A (eval iter env) (fun xv s₀ => Stopped (∃ s₁ : Shared, CompOk w A elt target ifs scope cl env n P Bd p F tb Inv xv s₁ s₀ ∧ ∃ m, s₁.heap.Ns env.locals m ∧
      ∀ D s' (xs : List ι) ys, CompEnd n P p F tb Inv [env.locals] s₁ s' D xs ys → s'.heap.Ns env.locals (fun z => if z = y then some (.ref D) else m z) → Q .next s')) E s) :
    wpAny (MM w) A (exec (.Assign [.Name y py] (.ListComp elt [⟨target, iter, ifs, 0⟩] scope pos) spos) env) Q E s := by
  rw [exec_Assign_Name_used _ _ _ _ hsw]
  refine wpAny_bind (wpAny_standAt (wpAny_bind ?_))
  show wpAny _ A (do let _ ← comprehension (.ListComp elt [⟨target, iter, ifs, 0⟩] scope pos) scope env _ (newList []) false (eval iter env) (some (assign (.Name y py) env))) _ _ s
  refine wpAny_bind (wpAny_mono (comp_core (use := some (assign (.Name y py) env)) (Q := fun _ s' => Q .next s') hs hclos hkind hnames hsz p F hF
    (wpAny_mono h (fun xv s₀ ⟨s₁, ok, m, hn, fin⟩ => ⟨s₁, ok, fun D C s' xs ys mC hnC hC hDC e => ?_⟩) fun _ _ e => e)) (fun _ s' hq => wpAny_pure (wpAny_pure hq)) fun _ _ e => e)
  have hLC : env.locals ≠ C := by rintro rfl; obtain ⟨o, _, _, ho, _⟩ := hn; rw [hC] at ho; cases ho
  show wpAny _ A (assign (.Name y py) env (.ref D)) _ _ _
  have hLt : env.locals ∉ tb := fun q => by
    obtain ⟨o, _, _, ho, d, _⟩ := hn
    obtain ⟨o', ho', nl⟩ := ok.tabs.not _ ok.inv _ q
    rw [ho] at ho'; cases ho'; exact nl (.inl ⟨_, _, d⟩)
  have hnL := hn.at' fun o q => e.af.keep _ _ q (by rw [List.append_nil]; exact hLt)
  refine wpAny_assign_Name (wpAny_storeName_local hy hnL (fun h₂ hn₂ hs₂ => ?_) hp)
  refine ⟨mC, hnC.sameBut hs₂ (Ne.symm hLC), fun h₃ hs₃ => ?_⟩
  refine fin D _ xs ys (e.after hF ok.tabs hnC hC hDC (fun b o h1 h2 z => hs₃.extBut b o h1 (hs₂.extBut b o (fun q => h2 (by rw [q]; exact .head _)) z)) ?_) (hn₂.sameBut hs₃ hLC)
  intro b hb
  rw [List.mem_singleton.mp hb]
  exact ⟨by obtain ⟨o, _, _, ho, _⟩ := hn; rw [ho]; exact nofun, _, hnL⟩
end

def It (w : World) (A : Around) (xv : Value) (n : Nat) (P : Nat → Value → Prop) (s₁ s₀ : Shared) : Prop :=
  ∀ Q' : Value → Shared → Prop, (∀ I fp wr St s₂, Af [] s₁ s₂ → s₁.heap.objs.size ≤ s₂.heap.objs.size → Walks Pg w A I fp wr n P St → St 0 s₂.heap → (∀ b ∈ fp, b < s₂.heap.objs.size) → (∀ b ∈ wr, s₁.heap.get? b = none) → (∀ i h, St i h → ∀ b ∈ fp, ∃ o, h.get? b = some o ∧ Lp o) → Q' (.ref I) s₂) →
    wpAny (MM w) A (pyIter xv) Q' NoE s₀
def ItU (w : World) (A : Around) (xv : Value) (n : Nat) (P : Nat → Array Value → Prop) (s₁ s₀ : Shared) : Prop :=
  ∀ Q' : Value → Shared → Prop, (∀ I fp wr St Mid s₂, Af [] s₁ s₂ → s₁.heap.objs.size ≤ s₂.heap.objs.size → WalksU Pg w A I fp wr n P St Mid → St 0 s₂.heap → (∀ b ∈ fp, b < s₂.heap.objs.size) → (∀ b ∈ wr, s₁.heap.get? b = none) → (∀ i h, St i h → ∀ b ∈ fp, ∃ o, h.get? b = some o ∧ Lp o) → Q' (.ref I) s₂) →
    wpAny (MM w) A (pyIter xv) Q' NoE s₀
section
variable {w : World} {A : Around} {s : Shared}
theorem ns_kp {h h' : Heap} {C : Addr} {fp : List Addr} (hm : C ∈ fp) (k : Kp fp h h') : (∃ m, h.Ns C m) → ∃ m, h'.Ns C m := fun ⟨m, hn⟩ => ⟨m, hn.at' fun o e => k C hm o e⟩
theorem src_name {I : Addr} {fp wr : List Addr} {n : Nat} {P : Nat → Value → Prop} {St : Nat → Heap → Prop} {cenv : Env} {x : Str} {px : Pos} (W : Walks Pg w A I fp wr n P St) (th : ∀ i h, St i h → ∀ b ∈ fp, ∃ o, h.get? b = some o ∧ Lp o)
    (hx : cenv.kindOf x = some .local) (hp : (cenv.scope.kind == .class || (cenv.scope.kind == .module && cenv.locals != cenv.globals)) = false) (hC : cenv.locals ∉ fp) :
    Src w A (.ref I) (.Name x px) cenv (cenv.locals :: fp) (cenv.locals :: wr) n P (fun i h => St i h ∧ ∃ m, h.Ns cenv.locals m) (fun v h => ∃ m, h.Ns cenv.locals m ∧ m x = some v) (fun h => ∃ m, h.Ns cenv.locals m) where
  sub := fun b hb => by
    rcases List.mem_cons.mp hb with rfl | hb
    · exact .head _
    · exact .tail _ (W.sub b hb)
  frame := fun i h h' st k => ⟨W.frame i h h' st.1 fun b hb o e => k b (.tail _ hb) o e, ns_kp (.head _) k st.2⟩
  bd := fun v h h' ⟨m, hn, hv⟩ k => ⟨m, hn.at' fun o e => k _ (.head _) o e, hv⟩
  there := fun i h st b hb => by
    rcases List.mem_cons.mp hb with rfl | hb
    · obtain ⟨m, o, _, _, e, d, _⟩ := st.2
      exact ⟨o, e, .inl ⟨_, _, d⟩⟩
    · exact th i h st.1 b hb
  item := fun i s Q E hi st hQ => by
    refine wpAny_mono (W.item i s (fun r s₁ => ∃ v, r = some v ∧ wpAny (MM w) A (assign (.Name x px) cenv v) (fun _ s₃ => Q s₃) E s₁) E hi st.1 fun v h₁ tk hP st₁ hk => ⟨v, rfl, ?_⟩) (fun r s₁ ⟨v, e, z⟩ => ⟨v, e, wpAny_pure z⟩) fun _ _ e => e
    obtain ⟨m, hn⟩ := st.2
    have hCw : cenv.locals ∉ wr := fun q => hC (W.sub _ q)
    refine wpAny_assign_Name (wpAny_storeName_local hx (hn.at' fun o e => hk _ o hCw e) (fun h₃ hn₃ hs₃ => ?_) hp)
    refine hQ v h₃ _ hP ⟨W.frame _ _ _ st₁ fun b hb o e => hs₃.extBut b o (fun q => hC (q ▸ hb)) e, _, hn₃⟩ ⟨_, hn₃, by simp⟩ fun b o hb e => ?_
    exact hs₃.extBut b o (fun q => hb (q ▸ .head _)) (hk b o (fun q => hb (.tail _ q)) e)
  done := fun s Q E st hQ => W.done s Q E st.1 fun h' tk hk => by
    obtain ⟨m, hn⟩ := st.2
    exact hQ h' tk (fun b o hb e => hk b o (fun q => hb (.tail _ q)) e) ⟨m, hn.at' fun o e => hk _ o (fun q => hC (W.sub _ q)) e⟩
  self := fun i s Q E st hQ => W.self i s Q E st.1 hQ
theorem src_cell {I c : Addr} {fp wr : List Addr} {n : Nat} {P : Nat → Value → Prop} {St : Nat → Heap → Prop} {cenv : Env} {x : Str} {px : Pos} (W : Walks Pg w A I fp wr n P St) (th : ∀ i h, St i h → ∀ b ∈ fp, ∃ o, h.get? b = some o ∧ Lp o)
    (hx : cenv.kindOf x = some .cell) (hp : cenv.scope.kind = .function) (hl : cenv.cells.lookup x = some c) (hC : cenv.locals ∉ fp) (hc : c ∉ fp) (hcC : cenv.locals ≠ c) :
    Src w A (.ref I) (.Name x px) cenv (cenv.locals :: c :: fp) (c :: wr) n P (fun i h => St i h ∧ (∃ m, h.Ns cenv.locals m) ∧ ∃ v, h.IsCell c v) (fun v h => h.IsCell c (some v)) (fun h => ∃ m, h.Ns cenv.locals m) where
  sub := fun b hb => by
    rcases List.mem_cons.mp hb with rfl | hb
    · exact .tail _ (.head _)
    · exact .tail _ (.tail _ (W.sub b hb))
  frame := fun i h h' st k => ⟨W.frame i h h' st.1 fun b hb o e => k b (.tail _ (.tail _ hb)) o e, ns_kp (.head _) k st.2.1, let ⟨v, o, e, d⟩ := st.2.2; ⟨v, o, k _ (.tail _ (.head _)) o e, d⟩⟩
  bd := fun v h h' ⟨o, e, d⟩ k => ⟨o, k _ (.tail _ (.head _)) o e, d⟩
  there := fun i h st b hb => by
    rcases List.mem_cons.mp hb with rfl | hb
    · obtain ⟨m, o, _, _, e, d, _⟩ := st.2.1
      exact ⟨o, e, .inl ⟨_, _, d⟩⟩
    rcases List.mem_cons.mp hb with rfl | hb
    · obtain ⟨v, o, e, d⟩ := st.2.2
      exact ⟨o, e, .inr (.inl ⟨_, d⟩)⟩
    · exact th i h st.1 b hb
  item := fun i s Q E hi st hQ => by
    refine wpAny_mono (W.item i s (fun r s₁ => ∃ v, r = some v ∧ wpAny (MM w) A (assign (.Name x px) cenv v) (fun _ s₃ => Q s₃) E s₁) E hi st.1 fun v h₁ tk hP st₁ hk => ⟨v, rfl, ?_⟩) (fun r s₁ ⟨v, e, z⟩ => ⟨v, e, wpAny_pure z⟩) fun _ _ e => e
    obtain ⟨m, hn⟩ := st.2.1
    obtain ⟨v₀, o, e, d⟩ := st.2.2
    have hCw : cenv.locals ∉ wr := fun q => hC (W.sub _ q)
    have hcw : c ∉ wr := fun q => hc (W.sub _ q)
    refine wpAny_assign_Name (wpAny_storeName_cell hp hx hl ⟨o, hk _ o hcw e, d⟩ fun h₃ hn₃ hs₃ => ?_)
    refine hQ v h₃ _ hP ⟨W.frame _ _ _ st₁ fun b hb o e => hs₃.extBut b o (fun q => hc (q ▸ hb)) e, ⟨m, (hn.at' fun o e => hk _ o hCw e).sameBut hs₃ hcC⟩, _, hn₃⟩ hn₃ fun b o hb e => ?_
    exact hs₃.extBut b o (fun q => hb (q ▸ .head _)) (hk b o (fun q => hb (.tail _ q)) e)
  done := fun s Q E st hQ => W.done s Q E st.1 fun h' tk hk => by
    obtain ⟨m, hn⟩ := st.2.1
    exact hQ h' tk (fun b o hb e => hk b o (fun q => hb (.tail _ q)) e) ⟨m, hn.at' fun o e => hk _ o (fun q => hC (W.sub _ q)) e⟩
  self := fun i s Q E st hQ => W.self i s Q E st.1 hQ
theorem src_pair (hh : A.handled = none) {I : Addr} {fp wr : List Addr} {n : Nat} {P : Nat → Array Value → Prop} {St : Nat → Heap → Prop} {Mid : Nat → Addr → Heap → Prop} {cenv : Env} {x y : Str} {px py tp : Pos} {k0 : Nat} (W : WalksU Pg w A I fp wr n P St Mid) (th : ∀ i h, St i h → ∀ b ∈ fp, ∃ o, h.get? b = some o ∧ Lp o)
    (hP : ∀ i vs, P i vs → ∃ a b, vs = #[a, b])
    (hx : cenv.kindOf x = some .local) (hy : cenv.kindOf y = some .local) (hxy : x ≠ y) (hp : (cenv.scope.kind == .class || (cenv.scope.kind == .module && cenv.locals != cenv.globals)) = false) (hC : cenv.locals ∉ fp) :
    Src w A (.ref I) (.Tuple [.Name x px, .Name y py] k0 tp) cenv (cenv.locals :: fp) (cenv.locals :: wr) n P (fun i h => St i h ∧ ∃ m, h.Ns cenv.locals m) (fun vs h => ∃ m a b, h.Ns cenv.locals m ∧ vs = #[a, b] ∧ m x = some a ∧ m y = some b) (fun h => ∃ m, h.Ns cenv.locals m) where
  sub := fun b hb => by
    rcases List.mem_cons.mp hb with rfl | hb
    · exact .head _
    · exact .tail _ (W.sub b hb)
  frame := fun i h h' st k => ⟨W.frame i h h' st.1 fun b hb o e => k b (.tail _ hb) o e, ns_kp (.head _) k st.2⟩
  bd := fun v h h' ⟨m, a, b, hn, hv⟩ k => ⟨m, a, b, hn.at' fun o e => k _ (.head _) o e, hv⟩
  there := fun i h st b hb => by
    rcases List.mem_cons.mp hb with rfl | hb
    · obtain ⟨m, o, _, _, e, d, _⟩ := st.2
      exact ⟨o, e, .inl ⟨_, _, d⟩⟩
    · exact th i h st.1 b hb
  item := fun i s Q E hi st hQ => by
    refine wpAny_mono (W.item i s (fun r s₁ => ∃ v, r = some v ∧ wpAny (MM w) A (letOwnedTupleGo (.Tuple [.Name x px, .Name y py] k0 tp) (.ref I) v) (fun _ s₂ => wpAny (MM w) A (assign (.Tuple [.Name x px, .Name y py] k0 tp) cenv v) (fun _ s₃ => Q s₃) E s₂) E s₁) E hi st.1
      fun T vs h₁ tk hPv hT hM hk => ⟨_, rfl, ?_⟩) (fun r s₁ z => z) fun _ _ e => e
    obtain ⟨m, hn⟩ := st.2
    obtain ⟨a, b, rfl⟩ := hP _ _ hPv
    have hCw : cenv.locals ∉ wr := fun q => hC (W.sub _ q)
    have hTw := W.apart _ _ _ hM
    refine W.go _ _ _ i T _ _ _ hM fun h₂ st₂ hk₂ => ?_
    have hT₂ : h₂.IsTuple T #[a, b] := hT.at fun o e => hk₂ _ o hTw e
    obtain ⟨ot, et, ct, nt, dt⟩ := hT₂
    refine assign_Tuple_tuple hh ⟨ot, et, ct, nt, dt⟩ rfl rfl fun h₅ he => ?_
    have he' : ∀ b o, h₂.get? b = some o → h₅.get? b = some o := fun b o e => he b o (Nat.ne_of_lt (Heap.lt_size e)) e
    have hn₅ : h₅.Ns cenv.locals m := ((hn.at' fun o e => hk _ o hCw e).at' fun o e => hk₂ _ o hCw e).at' fun o e => he' _ o e
    refine assignInOrder_cons (wpAny_assign_Name (wpAny_storeName_local hx hn₅ (fun h₆ hn₆ hs₆ => ?_) hp))
    refine assignInOrder_cons (wpAny_assign_Name (wpAny_storeName_local hy hn₆ (fun h₃ hn₃ hs₃ => ?_) hp))
    refine assignInOrder_nil ?_
    have old3 : ∀ b o, b ≠ cenv.locals → h₂.get? b = some o → h₃.get? b = some o := fun b o hb e => hs₃.extBut b o hb (hs₆.extBut b o hb (he' b o e))
    refine hQ _ h₃ _ hPv ⟨W.frame _ _ _ st₂ fun b hb o e => old3 b o (fun q => hC (q ▸ hb)) e, _, hn₃⟩ ⟨_, a, b, hn₃, rfl, by simp [hxy], by simp⟩ fun b o hb e => ?_
    exact old3 b o (fun q => hb (q ▸ .head _)) (hk₂ b o (fun q => hb (.tail _ q)) (hk b o (fun q => hb (.tail _ q)) e))
  done := fun s Q E st hQ => W.done s Q E st.1 fun h' tk hk => by
    obtain ⟨m, hn⟩ := st.2
    exact hQ h' tk (fun b o hb e => hk b o (fun q => hb (.tail _ q)) e) ⟨m, hn.at' fun o e => hk _ o (fun q => hC (W.sub _ q)) e⟩
  self := fun i s Q E st hQ => W.self i s Q E st.1 hQ
end
theorem af_none {s₁ s₂ : Shared} (a : Af [] s₁ s₂) {b : Addr} (h : s₂.heap.objs.size ≤ b) : s₁.heap.get? b = none := by
  cases e : s₁.heap.get? b with
  | none => rfl
  | some o => exact absurd (Heap.lt_size (a.keep _ _ e (by simp))) (Nat.not_lt.mpr h)
theorem cells_none {C : Addr} {cl : List (Str × Addr)} : ∀ {names : List (Str × NameKind)}, (∀ y ∈ names, y.2 ≠ .cell) → cellsFrom C names cl = cl
  | [], _ => rfl
  | (a, k) :: r, h => by
    unfold cellsFrom
    rw [if_neg (by have := h _ (.head _); simpa using this)]
    exact cells_none fun y hy => h y (.tail _ hy)
theorem push_none {h₀ : Heap} : ∀ {names : List (Str × NameKind)}, (∀ y ∈ names, y.2 ≠ .cell) → pushCells h₀ names = h₀
  | [], _ => rfl
  | (a, k) :: r, h => by
    unfold pushCells
    rw [if_neg (by have := h _ (.head _); simpa using this)]
    exact push_none fun y hy => h y (.tail _ hy)
theorem cenvOf_none {scope : Scope} {cl : List (Str × Addr)} {C : Addr} {env : Env} (h : ∀ y ∈ scope.names, y.2 ≠ .cell) : cenvOf scope cl C env = compEnvC scope cl C env := by
  unfold cenvOf compEnvC; rw [cells_none h]
section
variable {w : World} {A : Around}
abbrev bdN (x : Str) : Addr → Value → Heap → Prop := fun C v h => ∃ m, h.Ns C m ∧ m x = some v
abbrev bdP (x y : Str) : Addr → Array Value → Heap → Prop := fun C vs h => ∃ m a b, h.Ns C m ∧ vs = #[a, b] ∧ m x = some a ∧ m y = some b
abbrev bdC : Addr → Value → Heap → Prop := fun C v h => h.IsCell (C + 1) (some v)
theorem lp_cls {o : Obj} {c : String} (h : o.cls = .type c) (n : c ≠ "code") : Lp o := .inr (.inr ⟨c, h, n⟩)
theorem tb_nil : Tb [] (fun _ => True) := ⟨fun _ _ _ _ _ => trivial, fun _ _ _ h => absurd h List.not_mem_nil⟩
theorem ok_name {elt : PySem.Expr} {x : Str} {px : Pos} {ifs : List PySem.Expr} {scope : Scope} {cl : List (Str × Addr)} {env : Env} {n : Nat} {P : Nat → Value → Prop} {p : Value → Bool} {F : Heap → Heap → Value → Value → Prop} {xv : Value} {tb : List Addr} {Inv : Shared → Prop} {s₁ s₀ : Shared}
    (TI : Tb tb Inv) (hI : Inv s₁) (hit : It w A xv n P s₁ s₀) (hcell : ∀ y ∈ scope.names, y.2 ≠ .cell) (hkind : scope.kind = .function) (hx : scope.names.lookup x = some .local)
    (tests : ∀ C i v m s₃, i < n → P i v → s₃.heap.Ns C m → m x = some v → s₁.heap.objs.size ≤ C → Af tb s₁ s₃ → Inv s₃ → wpAny (MM w) A (testsOf ifs (compEnvC scope cl C env)) (fun ok s₄ => ok = p v ∧ Af tb s₃ s₄ ∧ Inv s₄) NoE s₃)
    (elts : ∀ C i v m s₃, i < n → P i v → p v = true → s₃.heap.Ns C m → m x = some v → s₁.heap.objs.size ≤ C → Af tb s₁ s₃ → Inv s₃ → wpAny (MM w) A (eval elt (compEnvC scope cl C env)) (fun y s₄ => F s₃.heap s₄.heap v y ∧ Af tb s₃ s₄ ∧ Inv s₄) NoE s₃) :
    CompOk w A elt (.Name x px) ifs scope cl env n P (bdN x) p F tb Inv xv s₁ s₀ := by
  refine ⟨TI, hI, fun Q' src => ?_, ?_, ?_⟩
  · refine hit Q' fun I fp wr St s₂ a₂ hz W st hfp hwr th => src _ _ a₂ hz fun D C h' hD hC hh' => ?_
    have lt : ∀ b ∈ fp, b ≠ D ∧ b ≠ C := fun b hb => by have := hfp b hb; subst hD hC; exact ⟨Nat.ne_of_lt this, Nat.ne_of_lt (Nat.lt_succ_of_lt this)⟩
    have hN : (cenvOf scope cl C env).kindOf x = some .local := lookup_relabel_local hx
    refine ⟨_, _, _, src_name (cenv := cenvOf scope cl C env) W th hN (by simp [relabel, hkind]) (fun q => (lt C q).2 rfl), ?_, ⟨?_, ?_⟩, ?_⟩
    · intro q
      rcases List.mem_cons.mp q with q | q
      · subst hD hC; exact absurd q (Nat.ne_of_lt (Nat.lt_succ_self _))
      · exact (lt D q).1 rfl
    · rw [hh', push_none hcell]
      exact W.frame _ _ _ st fun b _ o e => Heap.get?_push_of_some _ (Heap.get?_push_of_some _ e)
    · rw [hh', push_none hcell]
      subst hD hC
      have := Heap.Ns.new (s₂.heap.push (lst [])) (.type "dict")
      rw [Heap.size_push] at this
      exact ⟨_, this⟩
    · intro b hb
      rcases List.mem_cons.mp hb with rfl | hb
      · subst hD hC
        exact af_none a₂ (Nat.le_succ _)
      · exact hwr b hb
  · rintro C i v s₃ hi hP ⟨m, hn, hm⟩ hC a I
    rw [cenvOf_none hcell]
    exact tests C i v m s₃ hi hP hn hm hC a I
  · rintro C i v s₃ hi hP hp ⟨m, hn, hm⟩ hC a I
    rw [cenvOf_none hcell]
    exact elts C i v m s₃ hi hP hp hn hm hC a I
theorem ok_pair (hh : A.handled = none) {elt : PySem.Expr} {x y : Str} {px py tp : Pos} {k0 : Nat} {ifs : List PySem.Expr} {scope : Scope} {cl : List (Str × Addr)} {env : Env} {n : Nat} {P : Nat → Array Value → Prop} {p : Array Value → Bool} {F : Heap → Heap → Array Value → Value → Prop} {xv : Value} {tb : List Addr} {Inv : Shared → Prop} {s₁ s₀ : Shared}
    (TI : Tb tb Inv) (hI : Inv s₁) (hit : ItU w A xv n P s₁ s₀) (hPv : ∀ i vs, P i vs → ∃ a b, vs = #[a, b]) (hcell : ∀ y ∈ scope.names, y.2 ≠ .cell) (hkind : scope.kind = .function) (hx : scope.names.lookup x = some .local) (hy : scope.names.lookup y = some .local) (hxy : x ≠ y)
    (tests : ∀ C i a b m s₃, i < n → P i #[a, b] → s₃.heap.Ns C m → m x = some a → m y = some b → s₁.heap.objs.size ≤ C → Af tb s₁ s₃ → Inv s₃ → wpAny (MM w) A (testsOf ifs (compEnvC scope cl C env)) (fun ok s₄ => ok = p #[a, b] ∧ Af tb s₃ s₄ ∧ Inv s₄) NoE s₃)
    (elts : ∀ C i a b m s₃, i < n → P i #[a, b] → p #[a, b] = true → s₃.heap.Ns C m → m x = some a → m y = some b → s₁.heap.objs.size ≤ C → Af tb s₁ s₃ → Inv s₃ → wpAny (MM w) A (eval elt (compEnvC scope cl C env)) (fun y s₄ => F s₃.heap s₄.heap #[a, b] y ∧ Af tb s₃ s₄ ∧ Inv s₄) NoE s₃) :
    CompOk w A elt (.Tuple [.Name x px, .Name y py] k0 tp) ifs scope cl env n P (bdP x y) p F tb Inv xv s₁ s₀ := by
  refine ⟨TI, hI, fun Q' src => ?_, ?_, ?_⟩
  · refine hit Q' fun I fp wr St Mid s₂ a₂ hz W st hfp hwr th => src _ _ a₂ hz fun D C h' hD hC hh' => ?_
    have lt : ∀ b ∈ fp, b ≠ D ∧ b ≠ C := fun b hb => by have := hfp b hb; subst hD hC; exact ⟨Nat.ne_of_lt this, Nat.ne_of_lt (Nat.lt_succ_of_lt this)⟩
    have hN : (cenvOf scope cl C env).kindOf x = some .local := lookup_relabel_local hx
    have hN2 : (cenvOf scope cl C env).kindOf y = some .local := lookup_relabel_local hy
    refine ⟨_, _, _, src_pair (cenv := cenvOf scope cl C env) hh W th hPv hN hN2 hxy (by simp [relabel, hkind]) (fun q => (lt C q).2 rfl), ?_, ⟨?_, ?_⟩, ?_⟩
    · intro q
      rcases List.mem_cons.mp q with q | q
      · subst hD hC; exact absurd q (Nat.ne_of_lt (Nat.lt_succ_self _))
      · exact (lt D q).1 rfl
    · rw [hh', push_none hcell]
      exact W.frame _ _ _ st fun b _ o e => Heap.get?_push_of_some _ (Heap.get?_push_of_some _ e)
    · rw [hh', push_none hcell]
      subst hD hC
      have := Heap.Ns.new (s₂.heap.push (lst [])) (.type "dict")
      rw [Heap.size_push] at this
      exact ⟨_, this⟩
    · intro b hb
      rcases List.mem_cons.mp hb with rfl | hb
      · subst hD hC
        exact af_none a₂ (Nat.le_succ _)
      · exact hwr b hb
  · rintro C i v s₃ hi hP ⟨m, a, b, hn, rfl, hm, hm2⟩ hC af I
    rw [cenvOf_none hcell]
    exact tests C i a b m s₃ hi hP hn hm hm2 hC af I
  · rintro C i v s₃ hi hP hp ⟨m, a, b, hn, rfl, hm, hm2⟩ hC af I
    rw [cenvOf_none hcell]
    exact elts C i a b m s₃ hi hP hp hn hm hm2 hC af I
/-- the target is the only cell of the comprehension's own -/
theorem ok_cell {elt : PySem.Expr} {x : Str} {px : Pos} {ifs : List PySem.Expr} {scope : Scope} {cl : List (Str × Addr)} {env : Env} {n : Nat} {P : Nat → Value → Prop} {p : Value → Bool} {F : Heap → Heap → Value → Value → Prop} {xv : Value} {tb : List Addr} {Inv : Shared → Prop} {s₁ s₀ : Shared}
    (TI : Tb tb Inv) (hI : Inv s₁) (hit : It w A xv n P s₁ s₀) (hcf : ∀ C, cellsFrom C scope.names cl = (x, C) :: cl) (hpc : ∀ h, pushCells h scope.names = h.push { cls := .type "cell", data := .cell none })
    (hkind : scope.kind = .function) (hx : ∀ C, (cenvOf scope cl C env).kindOf x = some .cell)
    (tests : ∀ C i v s₃, i < n → P i v → s₃.heap.IsCell (C + 1) (some v) → s₁.heap.objs.size ≤ C → Af tb s₁ s₃ → Inv s₃ → wpAny (MM w) A (testsOf ifs (cenvOf scope cl C env)) (fun ok s₄ => ok = p v ∧ Af tb s₃ s₄ ∧ Inv s₄) NoE s₃)
    (elts : ∀ C i v s₃, i < n → P i v → p v = true → s₃.heap.IsCell (C + 1) (some v) → s₁.heap.objs.size ≤ C → Af tb s₁ s₃ → Inv s₃ → wpAny (MM w) A (eval elt (cenvOf scope cl C env)) (fun y s₄ => F s₃.heap s₄.heap v y ∧ Af tb s₃ s₄ ∧ Inv s₄) NoE s₃) :
    CompOk w A elt (.Name x px) ifs scope cl env n P bdC p F tb Inv xv s₁ s₀ := by
  refine ⟨TI, hI, fun Q' src => ?_, tests, elts⟩
  refine hit Q' fun I fp wr St s₂ a₂ hz W st hfp hwr th => src _ _ a₂ hz fun D C h' hD hC hh' => ?_
  have lt : ∀ b ∈ fp, b ≠ D ∧ b ≠ C ∧ b ≠ C + 1 := fun b hb => by have := hfp b hb; subst hD hC; exact ⟨Nat.ne_of_lt this, Nat.ne_of_lt (Nat.lt_succ_of_lt this), Nat.ne_of_lt (Nat.lt_succ_of_lt (Nat.lt_succ_of_lt this))⟩
  have hsz2 : ((s₂.heap.push (lst [])).push dct).objs.size = C + 1 := by subst hD hC; rw [Heap.size_push, Heap.size_push]
  have hn1 : s₁.heap.get? (C + 1) = none := by
    subst hD hC
    exact af_none a₂ (Nat.le_succ_of_le (Nat.le_succ _))
  refine ⟨_, _, _, src_cell (cenv := cenvOf scope cl C env) (c := C + 1) W th (hx C) (by simp [relabel, hkind]) (by show List.lookup x (cellsFrom (C + 1) scope.names cl) = _; rw [hcf]; simp) (fun q => (lt C q).2.1 rfl) (fun q => (lt _ q).2.2 rfl) (Nat.ne_of_lt (Nat.lt_succ_self _)), ?_, ⟨?_, ?_, ?_⟩, ?_⟩
  · intro q
    rcases List.mem_cons.mp q with q | q
    · subst hD hC; exact absurd q (Nat.ne_of_lt (Nat.lt_succ_self _))
    rcases List.mem_cons.mp q with q | q
    · subst hD hC; exact absurd q (Nat.ne_of_lt (Nat.lt_succ_of_lt (Nat.lt_succ_self _)))
    · exact (lt D q).1 rfl
  · rw [hh', hpc]
    exact W.frame _ _ _ st fun b _ o e => Heap.get?_push_of_some _ (Heap.get?_push_of_some _ (Heap.get?_push_of_some _ e))
  · rw [hh', hpc]
    have := Heap.Ns.new (s₂.heap.push (lst [])) (.type "dict")
    rw [Heap.size_push] at this
    subst hD hC
    exact ⟨_, this.keeps fun b o e => Heap.get?_push_of_some _ e⟩
  · rw [hh', hpc, ← hsz2]
    exact ⟨none, _, Heap.get?_push_size _ rfl, rfl⟩
  · intro b hb
    rcases List.mem_cons.mp hb with rfl | hb
    · exact hn1
    · exact hwr b hb
end
section
variable {w : World} {A : Around} {s : Shared}
theorem it_list (hh : A.handled = none) {l : Addr} {items : Array Value} (hl : s.heap.IsList l items) : It w A (.ref l) items.size (fun i v => items[i]? = some v) s s := by
  intro Q' h
  have hl' : l < s.heap.objs.size := by obtain ⟨o, e, _⟩ := hl; exact Heap.lt_size e
  refine wpAny_pyIter_list hl ?_
  refine h s.heap.objs.size _ _ _ _ ⟨fun b o e _ => Heap.get?_push_of_some _ e, rfl, id⟩ (by rw [Heap.size_push]; exact Nat.le_succ _) (Walks.list hh _ l (Nat.ne_of_lt hl') items) ⟨⟨_, Heap.get?_push_size _ rfl, rfl, rfl⟩, let ⟨o, e, r⟩ := hl; ⟨o, Heap.get?_push_of_some _ e, r⟩⟩ ?_ ?_ ?_
  · intro b hb
    rw [Heap.size_push]
    simp only [List.mem_cons, List.not_mem_nil, or_false] at hb
    rcases hb with rfl | rfl
    · exact Nat.lt_succ_self _
    · exact Nat.lt_succ_of_lt hl'
  · intro b hb; rw [List.mem_singleton.mp hb]; exact af_none (Af.refl s) (Nat.le_refl _)
  · intro i h ⟨⟨o, e, c, _⟩, ⟨o2, e2, c2, _⟩⟩ b hb
    simp only [List.mem_cons, List.not_mem_nil, or_false] at hb
    rcases hb with rfl | rfl
    · exact ⟨_, e, lp_cls c (by decide)⟩
    · exact ⟨_, e2, lp_cls c2 (by decide)⟩
theorem it_str (hh : A.handled = none) {x : Str} {t : Tok} : It w A (.str x t) x.cps.size (SignAt x) s s := by
  intro Q' h
  cases ha : x.cps.all (· < 128)
  · refine wpAny_pyIter_wide ha (h _ _ _ _ _ ⟨fun b o e _ => Heap.get?_push_of_some _ e, rfl, id⟩ (by rw [Heap.size_push]; exact Nat.le_succ _) (Walks.strWide hh s.heap.objs.size x t) ⟨_, Heap.get?_push_size _ rfl, rfl, rfl⟩ ?_ ?_ ?_)
    · intro b hb; rw [List.mem_singleton.mp hb, Heap.size_push]; exact Nat.lt_succ_self _
    · intro b hb; rw [List.mem_singleton.mp hb]; exact af_none (Af.refl s) (Nat.le_refl _)
    · intro i h ⟨o, e, c, _⟩ b hb; rw [List.mem_singleton.mp hb]; exact ⟨_, e, lp_cls c (by decide)⟩
  · refine wpAny_pyIter_ascii ha (h _ _ _ _ _ ⟨fun b o e _ => Heap.get?_push_of_some _ e, rfl, id⟩ (by rw [Heap.size_push]; exact Nat.le_succ _) (Walks.strAscii hh s.heap.objs.size x t) ⟨_, Heap.get?_push_size _ rfl, rfl, rfl⟩ ?_ ?_ ?_)
    · intro b hb; rw [List.mem_singleton.mp hb, Heap.size_push]; exact Nat.lt_succ_self _
    · intro b hb; rw [List.mem_singleton.mp hb]; exact af_none (Af.refl s) (Nat.le_refl _)
    · intro i h ⟨o, e, c, _⟩ b hb; rw [List.mem_singleton.mp hb]; exact ⟨_, e, lp_cls c (by decide)⟩
theorem rangeSize_0 (n : Nat) : Builtin.Range.rangeSize 0 n 1 = n := by
  unfold Builtin.Range.rangeSize
  rw [if_pos (by decide)]
  split
  · rw [Int.ediv_one]; omega
  · omega
theorem it_range (hh : A.handled = none) {r : Addr} {n : Nat} {t u v : Tok} (hr : IsRange s.heap r 0 n 1 t u v) (hn : n < 2 ^ 31) : It w A (.ref r) n (fun i v => ∃ t, v = .int (0 + i * 1) t) s s := by
  intro Q' h
  refine wpAny_pyIter_range hr ?_ ?_
  · unfold Builtin.Range.small Builtin.Range.rangeFitsLong
    rw [rangeSize_0]
    simp only [Bool.and_eq_true, decide_eq_true_eq, Bool.or_eq_true, if_pos (show (1 : Int) > 0 by decide)]
    refine ⟨⟨⟨⟨?_, ?_⟩, ?_⟩, ?_⟩, .inr ?_⟩ <;> constructor <;> omega
  · rw [rangeSize_0]
    refine h s.heap.objs.size _ _ _ _ ⟨fun b o e _ => Heap.get?_push_of_some _ e, rfl, id⟩ (by rw [Heap.size_push]; exact Nat.le_succ _) (Walks.range hh s.heap.objs.size 0 1 n) ?_ ?_ ?_ ?_
    · show IsRangeIter _ _ _ _ _
      refine (Heap.get?_push_size _ rfl).trans ?_
      simp
    · intro b hb; rw [List.mem_singleton.mp hb, Heap.size_push]; exact Nat.lt_succ_self _
    · intro b hb; rw [List.mem_singleton.mp hb]; exact af_none (Af.refl s) (Nat.le_refl _)
    · intro i h e b hb; rw [List.mem_singleton.mp hb]; exact ⟨_, e, lp_cls rfl (by decide)⟩
theorem itu_enum (hh : A.handled = none) {s₁ : Shared} {e it l : Addr} {items : Array Value} (he : IsEnum s.heap e it 0 .none) (hit : s.heap.IsListIter it l 0) (hl : s.heap.IsList l items) (a : Af [] s₁ s) (ne : s₁.heap.get? e = none) (ni : s₁.heap.get? it = none) (hz : s₁.heap.objs.size ≤ s.heap.objs.size) (hei : e ≠ it) (hle : l ≠ e) (hli : l ≠ it) :
    ItU w A (.ref e) items.size (fun i vals => ∃ t x, items[i]? = some x ∧ vals = #[.int i t, x]) s₁ s := by
  intro Q' h
  refine wpAny_pyIter_enum he (h e _ _ _ _ _ a hz (WalksT.enumerate hh e it l hei hle hli items).toU ⟨⟨_, he⟩, hit, hl⟩ ?_ ?_ ?_)
  · intro b hb
    simp only [List.mem_cons, List.not_mem_nil, or_false] at hb
    rcases hb with rfl | rfl | rfl
    · exact Heap.lt_size he
    · obtain ⟨o, q, _⟩ := hit; exact Heap.lt_size q
    · obtain ⟨o, q, _⟩ := hl; exact Heap.lt_size q
  · intro b hb
    simp only [List.mem_cons, List.not_mem_nil, or_false] at hb
    rcases hb with rfl | rfl <;> assumption
  · intro i h ⟨⟨old, q⟩, ⟨o, q2, c2, _⟩, ⟨o3, q3, c3, _⟩⟩ b hb
    simp only [List.mem_cons, List.not_mem_nil, or_false] at hb
    rcases hb with rfl | rfl | rfl
    · exact ⟨_, q, lp_cls rfl (by decide)⟩
    · exact ⟨_, q2, lp_cls c2 (by decide)⟩
    · exact ⟨_, q3, lp_cls c3 (by decide)⟩
theorem itu_zip (hh : A.handled = none) {s₁ : Shared} {z TI TO i1 i2 l1 l2 : Addr} {xs ys : Array Value} (D : ZipApart z TI TO i1 i2 l1 l2) (hz : IsZip s.heap z TI TO .none) (hTI : IsPair s.heap TI (.ref i1) (.ref i2)) {a b : Value} (hTO : IsPair s.heap TO a b)
    (h1 : s.heap.IsListIter i1 l1 0) (h2 : s.heap.IsListIter i2 l2 0) (hl1 : s.heap.IsList l1 xs) (hl2 : s.heap.IsList l2 ys) (af : Af [] s₁ s) (hsz : s₁.heap.objs.size ≤ s.heap.objs.size) (nz : s₁.heap.get? z = none) (nT : s₁.heap.get? TO = none) (n1 : s₁.heap.get? i1 = none) (n2 : s₁.heap.get? i2 = none) :
    ItU w A (.ref z) (min xs.size ys.size) (fun i vals => ∃ x y, xs[i]? = some x ∧ ys[i]? = some y ∧ vals = #[x, y]) s₁ s := by
  intro Q' h
  refine wpAny_pyIter_zip hz (h z _ _ _ _ _ af hsz (WalksT.zip2 hh z TI TO i1 i2 l1 l2 D xs ys).toU ⟨hz, hTI, ⟨_, _, hTO⟩, h1, h2, hl1, hl2⟩ ?_ ?_ ?_)
  · intro b hb
    simp only [List.mem_cons, List.not_mem_nil, or_false] at hb
    rcases hb with rfl | rfl | rfl | rfl | rfl | rfl | rfl
    · exact Heap.lt_size hz
    · exact Heap.lt_size hTI
    · exact Heap.lt_size hTO
    · obtain ⟨o, q, _⟩ := h1; exact Heap.lt_size q
    · obtain ⟨o, q, _⟩ := h2; exact Heap.lt_size q
    · obtain ⟨o, q, _⟩ := hl1; exact Heap.lt_size q
    · obtain ⟨o, q, _⟩ := hl2; exact Heap.lt_size q
  · intro b hb
    simp only [List.mem_cons, List.not_mem_nil, or_false] at hb
    rcases hb with rfl | rfl | rfl | rfl <;> assumption
  · intro i h ⟨q, q1, ⟨_, _, q2⟩, ⟨_, q3, c3, _⟩, ⟨_, q4, c4, _⟩, ⟨_, q5, c5, _⟩, ⟨_, q6, c6, _⟩⟩ b hb
    simp only [List.mem_cons, List.not_mem_nil, or_false] at hb
    rcases hb with rfl | rfl | rfl | rfl | rfl | rfl | rfl
    · exact ⟨_, q, lp_cls rfl (by decide)⟩
    · exact ⟨_, q1, lp_cls rfl (by decide)⟩
    · exact ⟨_, q2, lp_cls rfl (by decide)⟩
    · exact ⟨_, q3, lp_cls c3 (by decide)⟩
    · exact ⟨_, q4, lp_cls c4 (by decide)⟩
    · exact ⟨_, q5, lp_cls c5 (by decide)⟩
    · exact ⟨_, q6, lp_cls c6 (by decide)⟩
end
end
example : True ∧ True := by walk1 <;> trivial
section
local macro_rules | `(tactic| walk_at "m:flush") => `(tactic| trivial)
example : True ∧ True := by walk1 <;> trivial
end
section
/-- the def that _law_spelled makes, out of the written part -/
noncomputable def spOf (P : Params) : Option (Arguments × List Stmt × Scope) := match (frag.heap_1 P).lookup 576 with
  | some ⟨_, _, .func fd, _⟩ => (match fd.body with
    | .stmts (.FunctionDef _ a b _ _ _ sc _ _ _ :: _) => some (a, b, sc)
    | _ => none)
  | _ => none
noncomputable def spPar (P : Params) : Arguments := match spOf P with | some x => x.1 | none => ⟨[], [], none, [], [], none, []⟩
noncomputable def spBody (P : Params) : List Stmt := match spOf P with | some x => x.2.1 | none => []
noncomputable def spScope (P : Params) : Scope := match spOf P with | some x => x.2.2 | none => { kind := .function, names := [], isGenerator := false, isCoroutine := false }
/-- a def «spelled» at sp, its far -/
structure Sp (w : World) (g h : Heap) (sp : Addr) (far : Int) : Prop where
  it : ∃ c co dc pm ct oc vs t oo tk, Own g h sp (fnMade (Str.ofString "spelled") (Str.ofString "_law_spelled.<locals>.spelled") (spPar w.params) (spBody w.params) (spScope w.params) [(Str.ofString "far", co)] dc pm c ct) ∧
    Own g h c oc ∧ oc.data = .fields vs ∧ vs[1]? = some (.str (Str.ofString "_law_spelled.<locals>.spelled") t) ∧ Own g h co oo ∧ oo.data = .cell (some (.int far tk))

theorem own1 {g h : Heap} {a : Addr} {o : Obj} (x : Own g h a o) : ∀ q ∈ [(a, o)], Own g h q.1 q.2 := by
  intro q hq; rw [List.mem_singleton.mp hq]; exact x
theorem codeHd_hid {g : Heap} {s : Shared} {news : List (Addr × Obj)} {c P : Addr} (st : ∀ b o, g.get? b = some o → s.heap.get? b = some o) (N : ∀ q ∈ news, Own g s.heap q.1 q.2) (h : CodeHd g c P) : CodeHd (hid s news) c P :=
  h.keeps fun b o e => hideAll_get _ (st b o e) fun q => by
    obtain ⟨r, hr, rfl⟩ := List.mem_map.mp q
    rw [(N r hr).new] at e; cases e
set_option maxHeartbeats 4000000 in
theorem c_spelled0 {w : World} {g : Heap} {A : Around} {s : Shared} {R : Result → Shared → Prop} {far : Int} {tf : Tok} (cx : Cx w g) (st : ∀ b o, g.get? b = some o → s.heap.get? b = some o)
    (r : Rm A 100 100) (hc : CodeHd g 575 571) (ht : Own g s.heap 571 (tabObj #[]))
    (hR : ∀ sp s', Af [571] s s' → (∃ more, s'.heap.get? 571 = some (tabObj more)) → Sp w g s'.heap sp far → R (.ok (.ret (.ref sp))) s') : codeAny (MM w) A (.call (.ref 576) ⟨[.int far tf], []⟩) R s := by
  refine codeAny_aM r ?_
  have N := own1 ht
  have CX := cx.hid st N
  have X := CX.K
  have C9 := codeHd_hid st N hc
  obtain ⟨loose, mean, mg, mb, T⟩ := CX.T
  refine' enterMC (K := frag.heap_1 w.params) (binds := [(Str.ofString "far", Value.int far tf)]) X T (fun b o e => of_hideAll _ e) (Nat.le_of_eq (hideAll_size _ _)) (hid_news N) ?k6 ?k7 ?k8 ?k9 ?kB ?kD ?_ ?c2 ?c3 ?c4
  (case k6 => k_is); (case k7 => k_is); (case k8 => decide); (case k9 => exact BindsTo.of_eq rfl); (case kB => exact rfl); (case kD => decide +kernel); (case c2 => exact rfl); (case c3 => exact rfl); (case c4 => exact rfl)
  intro L h₁ tk cells F N' Y l1 l2
  k_lt l1
  k_cells Y
  simp only [List.cons_append, List.nil_append] at N'
  try dsimp only
  (try k_unmd)
  (try k_fold)
  walk_at "m:steps"
  try dsimp only
  rename_i o1 ho1 f' c' oc vs t ct dc _ _ hd1 hd2 hl1 hl2 h' F' N'
  have new : ∀ a o, h'.get? a = some o → s.heap.objs.size ≤ a → g.get? a = none := fun a o e q => by
    cases z : g.get? a with
    | none => rfl
    | some o' => exact absurd (Heap.lt_size (st _ _ z)) (Nat.not_lt.mpr q)
  have e1 := (N' _ (.head _)).1
  have e2 := (N' _ (.tail _ (.head _))).1
  have e3 := (N' _ (.tail _ (.tail _ (.head _)))).1
  have e4 := (N' _ (.tail _ (.tail _ (.tail _ (.head _))))).1
  refine hR _ _ (af_end (fun q hq => (N q hq).at_) F' N' (fun q hq => .inl (by rw [List.mem_singleton.mp hq]; exact .head _)) id) ⟨_, e4⟩ ⟨c', L + 1, dc, (mg (Str.ofString "__name__")).getD .none, ct, oc, vs, t, o1, tf, ⟨?_, new _ _ e1 (by omega)⟩, ⟨e2, new _ _ e2 (by omega)⟩, hd1, ?_, ⟨e3, new _ _ e3 (by omega)⟩, ?_⟩
  · refine e1.trans ?_
    kernel_rfl
  · refine hd2.trans ?_
    kernel_rfl
  · refine ho1.trans ?_
    kernel_rfl

theorem own3 {g h : Heap} {a b c : Addr} {oa ob oc : Obj} (xa : Own g h a oa) (xb : Own g h b ob) (xc : Own g h c oc) : ∀ q ∈ [(a, oa), (b, ob), (c, oc)], Own g h q.1 q.2 := by
  intro q hq
  simp only [List.mem_cons, List.not_mem_nil, or_false] at hq
  rcases hq with rfl | rfl | rfl <;> assumption
noncomputable def spell (far z : Int) (key : Str) : List Int := (Txt.slice key none (some z)).cps.toList.map fun (c : Nat) => (c : Int) + far
theorem spell_ints {far : Int} : ∀ {cs : List Nat} {xs ys : List Value}, (∀ (j : Nat) (v : Value), xs[j]? = some v → ∃ (c : Nat) (u : Tok), cs[j]? = some c ∧ v = .str ⟨#[c]⟩ u) → xs.length = cs.length →
    Paired (fun v y => ∃ (c : Nat) (t u : Tok), v = .str ⟨#[c]⟩ u ∧ y = .int (c + far) t) xs ys → IntsAre ys (cs.map fun (c : Nat) => (c : Int) + far)
  | [], [], _, _, _, .nil => .nil
  | c :: cs, x :: xs, _, h, hl, .cons ⟨c', t, u, e1, e2⟩ p => by
    obtain ⟨c2, u2, h1, h2⟩ := h 0 x rfl
    cases h1
    rw [e1] at h2
    cases h2
    subst e2
    exact .cons _ _ (spell_ints (fun j v hj => h (j + 1) v hj) (Nat.succ.inj hl) p)
local macro_rules | `(tactic| walk_at "eval ListComp BinOp cons") => `(tactic| (with_reducible refine stop_here ?_))
local macro_rules | `(tactic| walk_at "subscriptTail Name Slice str ref") => `(tactic| ((with_reducible show wpAny _ _ (subscriptTail _ (Expr.Slice none (some _) none _) _ _) _ _ _); (refine slice_strN_ns (hsz := ?hsz) (s := ⟨_, _, _, _, _⟩) (by assumption) (by assumption) ?_); (case hsz => assumption); intro _ _ _ _ _))
set_option maxHeartbeats 4000000 in
theorem c_spelled {w : World} {g : Heap} {A : Around} {s : Shared} {R : Result → Shared → Prop} {far : Int} {sp : Addr} {key : Str} {tk td : Tok} {z : Int} (cx : Cx w g) (st : ∀ b o, g.get? b = some o → s.heap.get? b = some o)
    (r : Rm A 100 100) (S : Sp w g s.heap sp far) (hz : z = 1 ∨ z = 2) (hk : key.length ≤ sizeLine)
    (hR : ∀ a s', Af [] s s' → Li s.heap s'.heap a (spell far z key) → R (.ok (.ret (.ref a))) s') : codeAny (MM w) A (.call (.ref sp) ⟨[.str key tk, .int z td], []⟩) R s := by
  refine codeAny_aM r ?_
  obtain ⟨c, co, dc, pm, ct, oc, vs, t, oo, tkf, O1, O2, hoc, hvs, O3, hoo⟩ := S.it
  have N := own3 O1 O2 O3
  have CX := cx.hid st N
  have X := CX.K
  obtain ⟨loose, mean, mg, mb, T⟩ := CX.T
  generalize hp : spPar w.params = pa at *
  generalize hb : spBody w.params = bo at *
  generalize hs : spScope w.params = sc at *
  unfold spPar spOf at hp
  unfold spBody spOf at hb
  unfold spScope spOf at hs
  conv at hp => lhs; whnf
  conv at hb => lhs; whnf
  conv at hs => lhs; whnf
  subst hp hb hs
  refine' enterX (binds := [(Str.ofString "key", Value.str key tk), (Str.ofString "depth", Value.int z td)]) T (fun b o e => of_hideAll _ e) (Nat.le_of_eq (hideAll_size _ _)) (hid_news N) O1.at_ rfl ⟨c, oc, vs, t, rfl, O2.at_, hoc, hvs⟩ ?k8 ?k9 ?kB ?_ ?c2 ?c3 ?c4 ?c5
  (case k8 => decide); (case k9 => exact BindsTo.of_eq rfl); (case c5 => decide); (case kB => exact locs rfl); (case c2 => exact rfl); (case c3 => exact rfl); (case c4 => exact rfl)
  intro L h₁ F N' l1 l2 l3
  try dsimp only
  (try k_unmd)
  (try k_fold)
  walk_at "m:steps"
  unfold Stopped
  have hlen : (Txt.slice key none (some z)).cps.size ≤ sizeLine := Nat.le_trans (PyProof.Txt.length_slice_le key _ _) hk
  have hcell : h₁.IsCell co (some (.int far tkf)) := ⟨oo, l3 _ _ O3.at_, hoo⟩
  refine comp_gen (tb := []) (Inv := fun _ => True) (Bd := bdN (Str.ofString "letter")) (P := SignAt (Txt.slice key none (some z))) (n := (Txt.slice key none (some z)).cps.size) (cl := [(Str.ofString "far", co)]) (fun _ => rfl) rfl rfl (by decide) hlen (fun _ => true) (fun _ _ v y => ∃ (c : Nat) (t u : Tok), v = .str ⟨#[c]⟩ u ∧ y = .int (c + far) t) (fun _ _ _ _ _ h _ => h) ?_
  walk_at "m:steps"
  unfold Stopped
  rename_i h₂ _ _ F₂ N₂
  have X₂ := X.keeps F₂.keep
  have T₂ := T.keeps F₂.keep
  have hcell₂ : h₂.IsCell co (some (.int far tkf)) := ⟨oo, (N₂ (co, oo) (by simp)).1, hoo⟩
  refine ⟨_, ok_name tb_nil trivial (it_str rfl) (by decide) rfl rfl (fun _ _ _ _ _ _ _ _ _ _ _ _ => wpAny_tests_nil ⟨rfl, Af.refl _, trivial⟩) ?_, ?_⟩
  · rintro C i v m s₃ hi ⟨c', u, hc', rfl⟩ _ hn hm hC a _
    have F₃ : Fr h₂ C s₃.heap m := ⟨hn, fun b o e => a.keep b o e (by simp), hC⟩
    have N₃ : News h₂ C s₃.heap [] := News.nil
    clear F N N₂ F₂ N' CX T X
    obtain ⟨h₃, gs₃, d₃, t₃, os₃⟩ := s₃
    walk_at "m:steps"
    all_goals first | exact ⟨fun _ _ e _ => e, rfl, id⟩ | trivial
  · intro D s' xs ys e
    have a₂ := af_end (s := s) (ch := []) (t := 0) (gs := s.gens) (d := s.drawn) (fun q hq => (N q hq).at_) F₂ N₂ (fun q hq => .inr hq) id
    dsimp only
    walk_at "m:steps"
    refine hR D _ ⟨fun b o q _ => e.af.keep b o (a₂.keep b o q (by simp)) (by simp), e.af.os, e.af.gens⟩ ⟨_, _, ⟨e.at_, ?_⟩, ?_⟩
    · cases q : s.heap.get? D with
      | none => rfl
      | some o => have := a₂.keep D o q (by simp); have z := e.new; rw [this] at z; cases z
    · have z := e.out
      rw [List.filter_eq_self.mpr (fun _ _ => rfl)] at z
      exact spell_ints (fun j v h => let ⟨c, u, h1, h2⟩ := e.src j v h; ⟨c, u, (Array.getElem?_toList ..).trans h1, h2⟩) (by rw [e.len]; exact Array.length_toList.symm) (paired_imp (fun _ _ ⟨_, _, h⟩ => h) z)
end
example : True ∧ True := by walk1 <;> trivial
section
local macro_rules | `(tactic| walk_at "m:flush") => `(tactic| trivial)
example : True ∧ True := by walk1 <;> trivial
end
section
def chk (b m : Int) (ns : List Int) : Bool := ns.all fun x => decide (Builtin.bitAnd m (1 * 2 ^ (Int.fmod x b).toNat) ≠ 0)
theorem ints_one {vs : List Value} {x : Int} (h : IntsAre vs [x]) : ∃ t, vs = [.int x t] := by cases h with | cons _ t h => cases h; exact ⟨t, rfl⟩
theorem ints_two {vs : List Value} {x y : Int} (h : IntsAre vs [x, y]) : ∃ t u, vs = [.int x t, .int y u] := by cases h with | cons _ t h => cases h with | cons _ u h => cases h; exact ⟨t, u, rfl⟩
theorem len_one {ns : List Int} (h : (ns.length : Int) = 1) : ∃ x, ns = [x] := by
  match ns, h with
  | [x], _ => exact ⟨x, rfl⟩
  | [], h => simp at h
  | _ :: _ :: _, h => simp at h; omega
theorem len_two {ns : List Int} (h : (ns.length : Int) = 2) : ∃ x y, ns = [x, y] := by
  match ns, h with
  | [x, y], _ => exact ⟨x, y, rfl⟩
  | [], h => simp at h
  | [_], h => simp at h
  | _ :: _ :: _ :: _, h => simp at h; omega
theorem own4 {g h : Heap} {a b c d : Addr} {oa ob oc od : Obj} (xa : Own g h a oa) (xb : Own g h b ob) (xc : Own g h c oc) (xd : Own g h d od) : ∀ q ∈ [(a, oa), (b, ob), (c, oc), (d, od)], Own g h q.1 q.2 := by
  intro q hq
  simp only [List.mem_cons, List.not_mem_nil, or_false] at hq
  rcases hq with rfl | rfl | rfl | rfl <;> assumption


theorem chk_no {b m x k : Int} {r : List Int} (hk : k = Int.fmod x b) (h : Builtin.bitAnd m (1 * 2 ^ k.toNat) = 0) : chk b m (x :: r) = false := by subst hk; unfold chk; rw [List.all_cons, h]; rfl
theorem chk_on {b m x k : Int} {r : List Int} (hk : k = Int.fmod x b) (h : Builtin.bitAnd m (1 * 2 ^ k.toNat) ≠ 0) : chk b m (x :: r) = chk b m r := by subst hk; unfold chk; rw [List.all_cons, decide_eq_true h, Bool.true_and]
theorem chk_f1 {b m x k : Int} {r : List Int} (hk : k = Int.fmod x b) (h : Builtin.bitAnd m (1 * 2 ^ k.toNat) = 0) : false = chk b m (x :: r) := (chk_no hk h).symm
theorem chk_f2 {b m x y k l : Int} {r : List Int} (hk : k = Int.fmod x b) (h : Builtin.bitAnd m (1 * 2 ^ k.toNat) ≠ 0) (hl : l = Int.fmod y b) (h' : Builtin.bitAnd m (1 * 2 ^ l.toNat) = 0) : false = chk b m (x :: y :: r) := ((chk_on hk h).trans (chk_no hl h')).symm
theorem chk_t1 {b m x k : Int} (hk : k = Int.fmod x b) (h : Builtin.bitAnd m (1 * 2 ^ k.toNat) ≠ 0) : true = chk b m [x] := (chk_on (r := []) hk h).symm
theorem chk_t2 {b m x y k l : Int} (hk : k = Int.fmod x b) (h : Builtin.bitAnd m (1 * 2 ^ k.toNat) ≠ 0) (hl : l = Int.fmod y b) (h' : Builtin.bitAnd m (1 * 2 ^ l.toNat) ≠ 0) : true = chk b m [x, y] := ((chk_on hk h).trans (chk_on (r := []) hl h')).symm
local macro_rules | `(tactic| walk_at "m:chk") => `(tactic| (first
  | exact chk_f1 (by assumption) (by assumption)
  | exact chk_f2 (by assumption) (by assumption) (by assumption) (by assumption)
  | exact chk_t1 (by assumption) (by assumption)
  | exact chk_t2 (by assumption) (by assumption) (by assumption) (by assumption)))
theorem keeps_of {s : Shared} {h' : Heap} {t : Nat} (a : Af [] s ⟨h', s.gens, s.drawn, t, s.os⟩) : Keeps s ⟨h', s.gens, s.drawn, t, s.os⟩ := ⟨h', t, rfl, fun b o e => a.keep b o e (by simp)⟩
theorem af_keeps {s s' : Shared} (k : Keeps s s') : Af [] s s' := by obtain ⟨h', t, rfl, k⟩ := k; exact ⟨fun b o e _ => k b o e, rfl, id⟩
set_option maxHeartbeats 4000000 in
theorem c_check_altK {w : World} {g : Heap} {A : Around} {s : Shared} {R : Result → Shared → Prop} {e b z : Int} {sp : Addr} {a : Fa} {m k : Int} {xh : Addr} {ns : List Int} (cx : Cx w g) (st : ∀ b o, g.get? b = some o → s.heap.get? b = some o)
    (r : Rm A 100 100) (hS : Sz e b z) (B : BF w e b z sp g s.heap a m k) (H : Li g s.heap xh ns) (hn : (ns.length : Int) = z)
    (hR : ∀ bb s', bb = chk b m ns → Keeps s s' → R (.ok (.ret (.bool bb))) s') : codeAny (MM w) A (.call (.ref 275) ⟨[.ref a.x, .ref xh], []⟩) R s := by
  refine codeAny_aM r ?_
  obtain ⟨Bx, ⟨t, Bd⟩, ⟨tm, nm, Bl⟩⟩ := B
  obtain ⟨vs, nv, Hl, Hi⟩ := H
  have hb := hS.b
  have N := own4 Bx Bd Bl Hl
  have CX := cx.hid st N
  have X := CX.K
  obtain ⟨loose, mean, mg, mb, T⟩ := CX.T
  rcases hS.z with rfl | rfl
  · obtain ⟨x, rfl⟩ := len_one hn
    refine' enterM (K := frag.heap_1 w.params) (binds := [(Str.ofString "self", Value.ref a.x), (Str.ofString "hashes", Value.ref xh)]) X T (fun b o e => of_hideAll _ e) (Nat.le_of_eq (hideAll_size _ _)) (hid_news N) ?k6 ?k7 ?k8 ?k9 ?kB ?_ ?c2 ?c3 ?c4 ?c5
    walk_at "m:enter"
    intro L h₁ F N' l1 l2 l3
    try dsimp only
    k_fold
    walk_at "m:steps"
    all_goals (try dsimp only)
    all_goals (refine hR _ _ ?_ ?_; walk_at "m:chk"; refine keeps_of ?_; walk_at "m:af")
  · obtain ⟨x, y, rfl⟩ := len_two hn
    refine' enterM (K := frag.heap_1 w.params) (binds := [(Str.ofString "self", Value.ref a.x), (Str.ofString "hashes", Value.ref xh)]) X T (fun b o e => of_hideAll _ e) (Nat.le_of_eq (hideAll_size _ _)) (hid_news N) ?k6 ?k7 ?k8 ?k9 ?kB ?_ ?c2 ?c3 ?c4 ?c5
    walk_at "m:enter"
    intro L h₁ F N' l1 l2 l3
    try dsimp only
    k_fold
    walk_at "m:steps"
    all_goals (try dsimp only)
    all_goals (refine hR _ _ ?_ ?_; walk_at "m:chk"; refine keeps_of ?_; walk_at "m:af")
theorem c_check_alt {w : World} {g : Heap} {A : Around} {s : Shared} {R : Result → Shared → Prop} {e b z : Int} {sp : Addr} {a : Fa} {m k : Int} {xh : Addr} {ns : List Int} (cx : Cx w g) (st : ∀ b o, g.get? b = some o → s.heap.get? b = some o)
    (r : Rm A 100 100) (hS : Sz e b z) (B : BF w e b z sp g s.heap a m k) (H : Li g s.heap xh ns) (hn : (ns.length : Int) = z)
    (hR : ∀ bb s', bb = chk b m ns → Af [] s s' → R (.ok (.ret (.bool bb))) s') : codeAny (MM w) A (.call (.ref 275) ⟨[.ref a.x, .ref xh], []⟩) R s :=
  c_check_altK cx st r hS B H hn fun bb s' e k => hR bb s' e (af_keeps k)
end
example : True ∧ True := by walk1 <;> trivial
section
local macro_rules | `(tactic| walk_at "m:flush") => `(tactic| trivial)
example : True ∧ True := by walk1 <;> trivial
end
section
theorem own6 {g h : Heap} {a b c d e f : Addr} {oa ob oc od oe of : Obj} (xa : Own g h a oa) (xb : Own g h b ob) (xc : Own g h c oc) (xd : Own g h d od) (xe : Own g h e oe) (xf : Own g h f of) : ∀ q ∈ [(a, oa), (b, ob), (c, oc), (d, od), (e, oe), (f, of)], Own g h q.1 q.2 := by
  intro q hq
  simp only [List.mem_cons, List.not_mem_nil, or_false] at hq
  rcases hq with rfl | rfl | rfl | rfl | rfl | rfl <;> assumption
set_option maxHeartbeats 4000000 in
theorem c_hashes {w : World} {g : Heap} {A : Around} {s : Shared} {R : Result → Shared → Prop} {e b z far : Int} {sp : Addr} {a : Fa} {m k : Int} {key : Str} {tk : Tok} (cx : Cx w g) (st : ∀ b o, g.get? b = some o → s.heap.get? b = some o)
    (r : Rm A 90 90) (hS : Sz e b z) (B : BF w e b z sp g s.heap a m k) (S : Sp w g s.heap sp far) (hk : key.length ≤ sizeLine)
    (hR : ∀ l s', Af [] s s' → Li s.heap s'.heap l (spell far z key) → R (.ok (.ret (.ref l))) s') : codeAny (MM w) A (.call (.ref 247) ⟨[.ref a.x, .str key tk], []⟩) R s := by
  refine codeAny_aM r ?_
  obtain ⟨Bx, ⟨t, Bd⟩, ⟨tm, nm, Bl⟩⟩ := B
  obtain ⟨c, co, dc, pm, ct, oc, vs, t9, oo, tkf, O1, O2, hoc, hvs, O3, hoo⟩ := S.it
  have N := own6 Bx Bd Bl O1 O2 O3
  have CX := cx.hid st N
  have X := CX.K
  obtain ⟨loose, mean, mg, mb, T⟩ := CX.T
  refine' enterM (K := frag.heap_1 w.params) (binds := [(Str.ofString "self", Value.ref a.x), (Str.ofString "key", Value.str key tk), (Str.ofString "depth", Value.none)]) X T (fun b o e => of_hideAll _ e) (Nat.le_of_eq (hideAll_size _ _)) (hid_news N) ?k6 ?k7 ?k8 ?k9 ?kB ?_ ?c2 ?c3 ?c4 ?c5
  walk_at "m:enter"
  intro L h₁ F N' l1 l2 l3
  try dsimp only
  (try k_unmd)
  (try k_fold)
  walk_at "m:steps"
  unfold Stopped
  rename_i h₂ F₂ N₂
  have a₂ := af_end (s := s) (ch := []) (t := 0) (gs := s.gens) (d := s.drawn) (fun q hq => (N q hq).at_) F₂ N₂ (fun q hq => .inr hq) id
  refine c_spelled CX F₂.keep (rm_deep (by decide) (by decide)) ⟨c, co, dc, pm, ct, oc, vs, t9, oo, tkf, own_news N₂ (by k_mem), own_news N₂ (by k_mem), hoc, hvs, own_news N₂ (by k_mem), hoo⟩ hS.z hk ?_
  intro l s' af Hl
  dsimp only
  walk_at "m:steps"
  exact hR l s' ⟨fun b o q n => af.keep b o (a₂.keep b o q n) (by simp), af.os, af.gens⟩ (Hl.back fun b o q => a₂.keep b o q (by simp))
end
example : True ∧ True := by walk1 <;> trivial
section
local macro_rules | `(tactic| walk_at "m:flush") => `(tactic| trivial)
example : True ∧ True := by walk1 <;> trivial
end
section
set_option maxHeartbeats 4000000 in
theorem c_add_alt {w : World} {g : Heap} {A : Around} {s : Shared} {R : Result → Shared → Prop} {e b z : Int} {sp : Addr} {a : Fa} {m k : Int} {xh : Addr} {ns : List Int} (cx : Cx w g) (st : ∀ b o, g.get? b = some o → s.heap.get? b = some o)
    (r : Rm A 100 100) (hS : Sz e b z) (B : BF w e b z sp g s.heap a m k) (H : Li g s.heap xh ns) (hn : (ns.length : Int) = z) (hx : xh ≠ a.l)
    (hR : ∀ s', Af [a.l, a.d] s s' → BF w e b z sp g s'.heap a (addm b m ns) (k + 1) → R (.ok (.ret .none)) s') : codeAny (MM w) A (.call (.ref 261) ⟨[.ref a.x, .ref xh], []⟩) R s := by
  refine codeAny_aM r ?_
  obtain ⟨Bx, ⟨t, Bd⟩, ⟨tm, nm, Bl⟩⟩ := B
  obtain ⟨vs, nv, Hl, Hi⟩ := H
  have hb := hS.b
  have e1 := own_ne Bx Bd obj_xd
  have e2 := own_ne Bx Bl obj_xl
  have e3 := own_ne Bd Bl obj_dl
  have e4 := own_ne Bx Hl obj_xl
  have e5 := own_ne Bd Hl obj_dl
  have e6 : @Ne Nat xh a.l := hx
  have hBi : IntsAre [.int m tm] [m] := .cons _ _ .nil
  have N := own4 Bx Bd Bl Hl
  have CX := cx.hid st N
  have X := CX.K
  obtain ⟨loose, mean, mg, mb, T⟩ := CX.T
  rcases hS.z with rfl | rfl
  · obtain ⟨x, rfl⟩ := len_one hn
    obtain ⟨tx, rfl⟩ := ints_one Hi
    refine' enterM (K := frag.heap_1 w.params) (binds := [(Str.ofString "self", Value.ref a.x), (Str.ofString "hashes", Value.ref xh)]) X T (fun b o e => of_hideAll _ e) (Nat.le_of_eq (hideAll_size _ _)) (hid_news N) ?k6 ?k7 ?k8 ?k9 ?kB ?_ ?c2 ?c3 ?c4 ?c5
    walk_at "m:enter"
    intro L h₁ F N' l1 l2 l3
    try dsimp only
    k_fold
    walk_at "m:steps"
    try dsimp only
    (rename Fr _ _ _ _ => F9); (rename News _ _ _ _ => N9)
    refine hR _ (af_end (fun q hq => (N q hq).at_) F9 N9 ?_ id) ⟨⟨News.get N9 (by k_mem), Bx.new⟩, bf_d (n := 11) ⟨News.get N9 (by k_mem), Bd.new⟩, bf_l ⟨News.get N9 (by k_mem), Bl.new⟩ ?_⟩
    · walk_at "m:chg"
    · subst_vars; rfl
  · obtain ⟨x, y, rfl⟩ := len_two hn
    obtain ⟨tx, ty, rfl⟩ := ints_two Hi
    refine' enterM (K := frag.heap_1 w.params) (binds := [(Str.ofString "self", Value.ref a.x), (Str.ofString "hashes", Value.ref xh)]) X T (fun b o e => of_hideAll _ e) (Nat.le_of_eq (hideAll_size _ _)) (hid_news N) ?k6 ?k7 ?k8 ?k9 ?kB ?_ ?c2 ?c3 ?c4 ?c5
    walk_at "m:enter"
    intro L h₁ F N' l1 l2 l3
    try dsimp only
    k_fold
    walk_at "m:steps"
    try dsimp only
    (rename Fr _ _ _ _ => F9); (rename News _ _ _ _ => N9)
    refine hR _ (af_end (fun q hq => (N q hq).at_) F9 N9 ?_ id) ⟨⟨News.get N9 (by k_mem), Bx.new⟩, bf_d (n := 11) ⟨News.get N9 (by k_mem), Bd.new⟩, bf_l ⟨News.get N9 (by k_mem), Bl.new⟩ ?_⟩
    · walk_at "m:chg"
    · subst_vars; rfl
end
example : True ∧ True := by walk1 <;> trivial
section
local macro_rules | `(tactic| walk_at "m:flush") => `(tactic| trivial)
example : True ∧ True := by walk1 <;> trivial
end
section
theorem slice_full {x : Str} {z : Int} (h : (x.length : Int) = z) : Txt.slice x none (some z) = x := by
  unfold Txt.slice
  rw [if_pos]
  subst h
  unfold PySem.Builtin.Str.strSliceIndices sliceRange
  simp only [show (1 : Int) > 0 by decide, if_true, List.length_map, List.length_range]
  have h0 : ¬ (x.length : Int) < 0 := by omega
  rw [if_neg h0]
  have h1 : max 0 (min (x.length : Int) x.length) = x.length := by omega
  rw [h1]
  split
  · rw [Int.ediv_one]; simp
  · have : x.length = 0 := by omega
    simp [this]
theorem spell_full {far z : Int} {key : Str} (h : (key.length : Int) = z) : spell far z key = key.cps.toList.map fun (c : Nat) => (c : Int) + far := by
  unfold spell; rw [slice_full h]
theorem spell_len {far z : Int} {key : Str} (h : (key.length : Int) = z) : ((spell far z key).length : Int) = z := by
  rw [spell_full h, List.length_map, Array.length_toList]; exact h
set_option maxHeartbeats 4000000 in
theorem c_check {w : World} {g : Heap} {A : Around} {s : Shared} {R : Result → Shared → Prop} {e b z far : Int} {sp : Addr} {a : Fa} {m k : Int} {key : Str} {tk : Tok} (cx : Cx w g) (st : ∀ b o, g.get? b = some o → s.heap.get? b = some o)
    (r : Rm A 80 80) (hS : Sz e b z) (B : BF w e b z sp g s.heap a m k) (S : Sp w g s.heap sp far) (hk : key.length ≤ sizeLine) (hkz : (key.length : Int) = z)
    (hR : ∀ bb s', bb = chk b m (spell far z key) → Af [] s s' → R (.ok (.ret (.bool bb))) s') : codeAny (MM w) A (.call (.ref 268) ⟨[.ref a.x, .str key tk], []⟩) R s := by
  refine codeAny_aM r ?_
  obtain ⟨Bx, ⟨t, Bd⟩, ⟨tm, nm, Bl⟩⟩ := B
  obtain ⟨c, co, dc, pm, ct, oc, vs, t9, oo, tkf, O1, O2, hoc, hvs, O3, hoo⟩ := S.it
  have N := own6 Bx Bd Bl O1 O2 O3
  have CX := cx.hid st N
  have X := CX.K
  obtain ⟨loose, mean, mg, mb, T⟩ := CX.T
  refine' enterM (K := frag.heap_1 w.params) (binds := [(Str.ofString "self", Value.ref a.x), (Str.ofString "key", Value.str key tk)]) X T (fun b o e => of_hideAll _ e) (Nat.le_of_eq (hideAll_size _ _)) (hid_news N) ?k6 ?k7 ?k8 ?k9 ?kB ?_ ?c2 ?c3 ?c4 ?c5
  walk_at "m:enter"
  intro L h₁ F N1 l1 l2 l3
  try dsimp only
  (try k_unmd)
  (try k_fold)
  walk_at "m:steps"
  unfold Stopped
  (rename Fr _ _ _ _ => F2); (rename News _ _ _ _ => N2)
  refine c_hashes CX F2.keep (rm_deep (by decide) (by decide)) hS (BF.news N2 (by k_mem) (by k_mem) (by k_mem)) ⟨c, co, dc, pm, ct, oc, vs, t9, oo, tkf, own_news N2 (by k_mem), own_news N2 (by k_mem), hoc, hvs, own_news N2 (by k_mem), hoo⟩ hk ?_
  intro l s' af Hl
  obtain ⟨vs3, n3, Ol, Il⟩ := Hl.l
  have F3 := fr_af F2 af
  have N3 := news_af N2 af
  obtain ⟨hF3, gsF3, dF3, tF3, osF3⟩ := s'
  have hosF3 := af.os
  dsimp only at F3 N3 hosF3
  subst hosF3
  have hgF3 := af.gens
  dsimp only at hgF3
  have N4 := news_own F2 N3 Ol
  clear N3
  clear F2 N2
  dsimp only
  walk_at "m:steps"
  unfold Stopped
  (rename Fr _ _ _ _ => F5); (rename News _ _ _ _ => N5)
  refine c_check_alt CX F5.keep (rm_deep (by decide) (by decide)) hS (BF.news N5 (by k_mem) (by k_mem) (by k_mem)) (Li.news N5 (by k_mem) Il) (spell_len hkz) ?_
  intro bb s' hbb af
  have F6 := fr_af F5 af
  have N6 := news_af N5 af
  obtain ⟨hF6, gsF6, dF6, tF6, osF6⟩ := s'
  have hosF6 := af.os
  dsimp only at F6 N6 hosF6
  subst hosF6
  have hgF6 := af.gens
  dsimp only at hgF6
  clear F5 N5
  dsimp only
  walk_at "m:steps"
  exact hR bb _ hbb (af_end (fun q hq => (N q hq).at_) F6 N6 (fun q hq => .inr (List.mem_cons_of_mem _ hq)) fun x => hgF6 (hgF3 x))
set_option maxHeartbeats 4000000 in
theorem c_contains {w : World} {g : Heap} {A : Around} {s : Shared} {R : Result → Shared → Prop} {e b z far : Int} {sp : Addr} {a : Fa} {m k : Int} {key : Str} {tk : Tok} (cx : Cx w g) (st : ∀ b o, g.get? b = some o → s.heap.get? b = some o)
    (r : Rm A 70 70) (hS : Sz e b z) (B : BF w e b z sp g s.heap a m k) (S : Sp w g s.heap sp far) (hk : key.length ≤ sizeLine) (hkz : (key.length : Int) = z)
    (hR : ∀ bb s', bb = chk b m (spell far z key) → Af [] s s' → R (.ok (.ret (.bool bb))) s') : codeAny (MM w) A (.call (.ref 151) ⟨[.ref a.x, .str key tk], []⟩) R s := by
  refine codeAny_aM r ?_
  obtain ⟨Bx, ⟨t, Bd⟩, ⟨tm, nm, Bl⟩⟩ := B
  obtain ⟨c, co, dc, pm, ct, oc, vs, t9, oo, tkf, O1, O2, hoc, hvs, O3, hoo⟩ := S.it
  have N := own6 Bx Bd Bl O1 O2 O3
  have CX := cx.hid st N
  have X := CX.K
  obtain ⟨loose, mean, mg, mb, T⟩ := CX.T
  refine' enterM (K := frag.heap_1 w.params) (binds := [(Str.ofString "self", Value.ref a.x), (Str.ofString "key", Value.str key tk)]) X T (fun b o e => of_hideAll _ e) (Nat.le_of_eq (hideAll_size _ _)) (hid_news N) ?k6 ?k7 ?k8 ?k9 ?kB ?_ ?c2 ?c3 ?c4 ?c5
  walk_at "m:enter"
  intro L h₁ F N1 l1 l2 l3
  try dsimp only
  (try k_unmd)
  (try k_fold)
  walk_at "m:steps"
  unfold Stopped
  (rename Fr _ _ _ _ => F2); (rename News _ _ _ _ => N2)
  refine c_check CX F2.keep (rm_deep (by decide) (by decide)) hS (BF.news N2 (by k_mem) (by k_mem) (by k_mem)) ⟨c, co, dc, pm, ct, oc, vs, t9, oo, tkf, own_news N2 (by k_mem), own_news N2 (by k_mem), hoc, hvs, own_news N2 (by k_mem), hoo⟩ hk hkz ?_
  intro bb s' hbb af
  have F6 := fr_af F2 af
  have N6 := news_af N2 af
  obtain ⟨hF6, gsF6, dF6, tF6, osF6⟩ := s'
  have hosF6 := af.os
  dsimp only at F6 N6 hosF6
  subst hosF6
  have hgF6 := af.gens
  dsimp only at hgF6
  clear F2 N2
  dsimp only
  walk_at "m:steps"
  exact hR bb _ hbb (af_end (fun q hq => (N q hq).at_) F6 N6 (fun q hq => .inr hq) fun x => hgF6 x)
set_option maxHeartbeats 4000000 in
theorem c_add {w : World} {g : Heap} {A : Around} {s : Shared} {R : Result → Shared → Prop} {e b z far : Int} {sp : Addr} {a : Fa} {m k : Int} {key : Str} {tk : Tok} (cx : Cx w g) (st : ∀ b o, g.get? b = some o → s.heap.get? b = some o)
    (r : Rm A 80 80) (hS : Sz e b z) (B : BF w e b z sp g s.heap a m k) (S : Sp w g s.heap sp far) (hk : key.length ≤ sizeLine) (hkz : (key.length : Int) = z)
    (hR : ∀ s', Af [a.l, a.d] s s' → BF w e b z sp g s'.heap a (addm b m (spell far z key)) (k + 1) → R (.ok (.ret .none)) s') : codeAny (MM w) A (.call (.ref 254) ⟨[.ref a.x, .str key tk], []⟩) R s := by
  refine codeAny_aM r ?_
  have B0 := B
  obtain ⟨Bx, ⟨t, Bd⟩, ⟨tm, nm, Bl⟩⟩ := B
  obtain ⟨c, co, dc, pm, ct, oc, vs, t9, oo, tkf, O1, O2, hoc, hvs, O3, hoo⟩ := S.it
  have N := own6 Bx Bd Bl O1 O2 O3
  have CX := cx.hid st N
  have X := CX.K
  obtain ⟨loose, mean, mg, mb, T⟩ := CX.T
  refine' enterM (K := frag.heap_1 w.params) (binds := [(Str.ofString "self", Value.ref a.x), (Str.ofString "key", Value.str key tk)]) X T (fun b o e => of_hideAll _ e) (Nat.le_of_eq (hideAll_size _ _)) (hid_news N) ?k6 ?k7 ?k8 ?k9 ?kB ?_ ?c2 ?c3 ?c4 ?c5
  walk_at "m:enter"
  intro L h₁ F N1 l1 l2 l3
  try dsimp only
  (try k_unmd)
  (try k_fold)
  walk_at "m:steps"
  unfold Stopped
  (rename Fr _ _ _ _ => F2); (rename News _ _ _ _ => N2)
  refine c_hashes CX F2.keep (rm_deep (by decide) (by decide)) hS (BF.news N2 (by k_mem) (by k_mem) (by k_mem)) ⟨c, co, dc, pm, ct, oc, vs, t9, oo, tkf, own_news N2 (by k_mem), own_news N2 (by k_mem), hoc, hvs, own_news N2 (by k_mem), hoo⟩ hk ?_
  intro l s' af Hl
  obtain ⟨vs3, n3, Ol, Il⟩ := Hl.l
  have hla : l ≠ a.l := fun q => by have := Ol.new; rw [q, News.get N2 (by k_mem : (a.l, listOf _ nm) ∈ _)] at this; cases this
  have F3 := fr_af F2 af
  have N3 := news_af N2 af
  obtain ⟨hF3, gsF3, dF3, tF3, osF3⟩ := s'
  have hosF3 := af.os
  dsimp only at F3 N3 hosF3
  subst hosF3
  have hgF3 := af.gens
  dsimp only at hgF3
  have N4 := news_own F2 N3 Ol
  clear N3
  clear F2 N2
  dsimp only
  walk_at "m:steps"
  unfold Stopped
  (rename Fr _ _ _ _ => F5); (rename News _ _ _ _ => N5)
  have a5 := af_end (s := s) (ch := []) (t := tF3) (gs := gsF3) (d := dF3) (fun q hq => (N q hq).at_) F5 N5 (fun q hq => .inr (List.mem_cons_of_mem _ hq)) hgF3
  refine c_add_alt CX F5.keep (rm_deep (by decide) (by decide)) hS (BF.news N5 (by k_mem) (by k_mem) (by k_mem)) (Li.news N5 (by k_mem) Il) (spell_len hkz) hla ?_
  intro s' af B'
  dsimp only
  walk_at "m:steps"
  exact hR s' (a5.trans af (by simp) (fun _ h => .inl h)) (B'.re B0)
end
example : True ∧ True := by walk1 <;> trivial
section
local macro_rules | `(tactic| walk_at "m:flush") => `(tactic| trivial)
example : True ∧ True := by walk1 <;> trivial
end
section
theorem own2 {g h : Heap} {a b : Addr} {oa ob : Obj} (xa : Own g h a oa) (xb : Own g h b ob) : ∀ q ∈ [(a, oa), (b, ob)], Own g h q.1 q.2 := by
  intro q hq
  simp only [List.mem_cons, List.not_mem_nil, or_false] at hq
  rcases hq with rfl | rfl <;> assumption
theorem sz_hashes {e b z : Int} (h : Sz e b z) : Int.fdiv (Int.fdiv (13862943611198906 * b) e + 10000000000000000) 20000000000000000 = z := by
  rcases h with ⟨rfl, rfl, rfl⟩ | ⟨rfl, rfl, rfl⟩ | ⟨rfl, rfl, rfl⟩ | ⟨rfl, rfl, rfl⟩ <;> decide
local macro_rules | `(tactic| walk_at "binaryOp Pow int int") => `(tactic| (with_reducible refine pow_16 ?_))
local macro_rules | `(tactic| walk_at "binaryOp FloorDiv int int") => `(tactic| (refine fdiv_z (sz_hashes (by assumption)) ?_))
local macro_rules | `(tactic| walk_at "compareOp Eq int int") => `(tactic| (refine eq_ne (by omega) ?_))
theorem own0 {g h : Heap} : ∀ q ∈ ([] : List (Addr × Obj)), Own g h q.1 q.2 := fun _ h => nomatch h
set_option maxHeartbeats 4000000 in
theorem c_params {w : World} {g : Heap} {A : Around} {s : Shared} {R : Result → Shared → Prop} {C : Addr} {e b z : Int} {te tb : Tok} (cx : Cx w g) (st : ∀ b o, g.get? b = some o → s.heap.get? b = some o) (r : Rm A 80 80) (hS : Sz e b z)
    (hR : ∀ t s' t1 t2 t3 n, Af [] s s' → Own s.heap s'.heap t { cls := .type "tuple", data := .seq #[.int b t1, .int z t2, .int b t3] n } → R (.ok (.ret (.ref t))) s') : codeAny (MM w) A (.call (.ref 303) ⟨[.ref C, .int e te, .int b tb], []⟩) R s := by
  refine codeAny_aM r ?_
  have N := own0 (g := g) (h := s.heap)
  have hb := hS.b
  have he := hS.e
  have hz : 1 ≤ z := by have := hS.z; omega
  have CX := cx.hid st N
  have X := CX.K
  obtain ⟨loose, mean, mg, mb, T⟩ := CX.T
  refine' enterM (K := frag.heap_1 w.params) (binds := [(Str.ofString "cls", Value.ref C), (Str.ofString "estimated_elements", Value.int e te), (Str.ofString "false_positive_rate", Value.int b tb)]) X T (fun b o e => of_hideAll _ e) (Nat.le_of_eq (hideAll_size _ _)) (hid_news N) ?k6 ?k7 ?k8 ?k9 ?kB ?_ ?c2 ?c3 ?c4 ?c5
  walk_at "m:enter"
  intro L h₁ F N1 l1 l2 l3
  try dsimp only
  (try k_unmd)
  (try k_fold)
  walk_at "m:steps"
  try dsimp only
  (rename Fr _ _ _ _ => F9); (rename News _ _ _ _ => N9)
  refine hR _ _ _ _ _ _ (af_end (fun q hq => (N q hq).at_) F9 N9 (fun q hq => nomatch hq) id) ⟨News.get N9 (by k_mem), new_hid (News.fresh N9 (.head _)) (by simp)⟩
end
example : True ∧ True := by walk1 <;> trivial
section
local macro_rules | `(tactic| walk_at "m:flush") => `(tactic| trivial)
example : True ∧ True := by walk1 <;> trivial
end
section
theorem at_of {K : Frag} {a : Addr} {o : Obj} {P : Obj → Prop} (h : K.lookup a = some o) (p : P o) : ∀ o', K.lookup a = some o' → P o' := fun o' e => by rw [h] at e; cases e; exact p
/-- the arguments bind the maker's names -/
structure InitBinds (w : World) (e b : Int) (te tb : Tok) (sp : Addr) (rest : List Value) (kw : List (Str × Value)) : Prop where
  go : ∀ o, (frag.heap_1 w.params).lookup 137 = some o → ∀ fd, o.data = .func fd → ∀ (s' : Shared) (x : Addr), (frag.heap_1 w.params).In s'.heap → BindsTo s' fd ⟨.ref x :: rest, kw⟩ [(Str.ofString "self", Value.ref x), (Str.ofString "est_elements", Value.int e te), (Str.ofString "false_positive_rate", Value.int b tb), (Str.ofString "filepath", Value.none), (Str.ofString "hex_string", Value.none), (Str.ofString "hash_function", Value.ref sp)]
local macro_rules | `(tactic| walk_at "m:enter") => `(tactic| ((case k6 => k_is); (case k7 => k_is); (case k8 => decide); (case k9 => exact InitBinds.go (by assumption) _ (by k_is) _ rfl _ _ (Frag.In.keeps (by assumption) fun b o e => of_hideAll _ e)); (case c5 => decide); (case kB => exact locs rfl); (case c2 => exact rfl); (case c3 => exact rfl); (case c4 => exact rfl)))
set_option maxHeartbeats 4000000 in
theorem c_newA {w : World} {g : Heap} {A : Around} {s : Shared} {R : Result → Shared → Prop} {e b z : Int} {sp : Addr} {te tb : Tok} {rest : List Value} {kw : List (Str × Value)} (ib : InitBinds w e b te tb sp rest kw) (cx : Cx w g) (st : ∀ b o, g.get? b = some o → s.heap.get? b = some o)
    (r : Rm A 60 60) (hS : Sz e b z)
    (hR : ∀ a s', Af [] s s' → BF w e b z sp s.heap s'.heap a 0 0 → R (.ok (.ret (.ref a.x))) s') : codeAny (MM w) A (.call (.ref 337) ⟨rest, kw⟩) R s := by
  have cs : Cx w s.heap := cx.keeps st
  refine make_M (K := frag.heap_1 w.params) (fI := 137) cs.K (by k_is) (by k_is) (by k_is) ?_
  intro x dx h0 kh0 Ox Od hxd
  refine codeAny_aM (rm_under r (d' := 70) (u' := 70) (Nat.le_of_ble_eq_true rfl) (Nat.le_of_ble_eq_true rfl)) ?_
  obtain ⟨s1, hs1⟩ : ∃ s1 : Shared, s1 = { s with heap := h0 } := ⟨_, rfl⟩
  rw [← hs1]
  have hos1 : s1.os = s.os := by rw [hs1]
  have hgs1 : s1.gens = s.gens := by rw [hs1]
  have hh1 : h0 = s1.heap := by rw [hs1]
  clear hs1
  subst hh1
  have N := own2 Ox Od
  have CX := Cx.hid cs kh0 N
  have X := CX.K
  obtain ⟨loose, mean, mg, mb, T⟩ := CX.T
  have hb := hS.b
  have he := hS.e
  refine' enterM (K := frag.heap_1 w.params) (binds := [(Str.ofString "self", Value.ref x), (Str.ofString "est_elements", Value.int e te), (Str.ofString "false_positive_rate", Value.int b tb), (Str.ofString "filepath", Value.none), (Str.ofString "hex_string", Value.none), (Str.ofString "hash_function", Value.ref sp)]) X T (fun b o e => of_hideAll _ e) (Nat.le_of_eq (hideAll_size _ _)) (hid_news N) ?k6 ?k7 ?k8 ?k9 ?kB ?_ ?c2 ?c3 ?c4 ?c5
  walk_at "m:enter"
  intro L h₁ F N1 l1 l2 l3
  try dsimp only
  (try k_unmd)
  (try k_fold)
  walk_at "m:steps"
  unfold Stopped
  walk_at "m:inline"
  walk_at "m:steps"
  unfold Stopped
  (rename Fr _ _ _ _ => F2); (rename News _ _ _ _ => N2)
  refine method_call (News.get N2 (List.Mem.head _)) ?_
  (rename Frag.In _ _ => X9); (rename Top _ _ _ _ _ _ => T9)
  refine c_params (Cx.mk X9 ⟨_, _, _, _, T9⟩) F2.keep (rm_deep2 (by decide) (by decide)) hS ?_
  intro t s' t1 t2 t3 n af Ot
  have F3 := fr_af F2 af
  have N3 := news_af N2 af
  obtain ⟨hF3, gsF3, dF3, tF3, osF3⟩ := s'
  have hosF3 := af.os
  dsimp only at F3 N3 hosF3
  subst hosF3
  have hgF3 := af.gens
  dsimp only at hgF3
  have N4 := news_own F2 N3 Ot
  clear N3
  have n1 := ne_new N2 (List.Mem.tail _ (List.Mem.tail _ (List.Mem.head _))) Ot
  have n2 := ne_new N2 (List.Mem.tail _ (List.Mem.head _)) Ot
  clear F2 N2
  dsimp only
  walk_at "m:steps"
  unfold Stopped
  walk_at "m:inline"
  walk_at "m:steps"
  (rename Fr _ _ _ _ => F9); (rename News _ _ _ _ => N9)
  have a9 := af_end (s := s1) (ch := [dx]) (t := 0) (gs := gsF3) (d := dF3) (fun q hq => (N q hq).at_) F9 N9 (by walk_at "m:chg") hgF3
  refine ⟨rfl, hR ⟨x, dx, _⟩ _ ⟨fun b o e _ => a9.keep b o (kh0 b o e) (fun q => by rw [List.mem_singleton.mp q, Od.new] at e; cases e), hos1, fun gb => a9.gens (by rw [hgs1]; exact gb)⟩ ⟨⟨News.get N9 (by k_mem), Ox.new⟩, bf_d (n := 11) ⟨News.get N9 (by k_mem), Od.new⟩, ?_⟩⟩
  exact bf_l ⟨News.get N9 (List.Mem.head _), new_hid2 kh0 N (News.fresh N9 (List.Mem.head _))⟩ rfl
theorem c_new {w : World} {g : Heap} {A : Around} {s : Shared} {R : Result → Shared → Prop} {e b z : Int} {sp : Addr} {te tb : Tok} (cx : Cx w g) (st : ∀ b o, g.get? b = some o → s.heap.get? b = some o)
    (r : Rm A 60 60) (hS : Sz e b z)
    (hR : ∀ a s', Af [] s s' → BF w e b z sp s.heap s'.heap a 0 0 → R (.ok (.ret (.ref a.x))) s') : codeAny (MM w) A (.call (.ref 337) ⟨[.int e te, .int b tb], [(Str.ofString "hash_function", .ref sp)]⟩) R s := by
  refine c_newA (e := e) (b := b) (te := te) (tb := tb) (sp := sp) ⟨?_⟩ cx st r hS hR
  refine' at_of ?k1 ?p
  case k1 => k_is
  case p =>
    intro fd hfd s' x X
    cases hfd
    first | exact BindsTo.of_eq rfl | exact binds_K X rfl (by k_is) rfl rfl rfl
theorem c_newK {w : World} {g : Heap} {A : Around} {s : Shared} {R : Result → Shared → Prop} {e b z : Int} {sp : Addr} {te tb : Tok} (cx : Cx w g) (st : ∀ b o, g.get? b = some o → s.heap.get? b = some o)
    (r : Rm A 60 60) (hS : Sz e b z)
    (hR : ∀ a s', Af [] s s' → BF w e b z sp s.heap s'.heap a 0 0 → R (.ok (.ret (.ref a.x))) s') : codeAny (MM w) A (.call (.ref 337) ⟨[], [(Str.ofString "est_elements", .int e te), (Str.ofString "false_positive_rate", .int b tb), (Str.ofString "hash_function", .ref sp)]⟩) R s := by
  refine c_newA (e := e) (b := b) (te := te) (tb := tb) (sp := sp) ⟨?_⟩ cx st r hS hR
  refine' at_of ?k1 ?p
  case k1 => k_is
  case p =>
    intro fd hfd s' x X
    cases hfd
    first | exact BindsTo.of_eq rfl | exact binds_K X rfl (by k_is) rfl rfl rfl
end
example : True ∧ True := by walk1 <;> trivial
section
local macro_rules | `(tactic| walk_at "m:flush") => `(tactic| trivial)
example : True ∧ True := by walk1 <;> trivial
end
section
section
variable {prog : Program} {w : World} {A : Around} {E : Value → Shared → Prop} {s : Shared} {c P : Addr} {ps : Array Value} {mg : Str → Option Value} {bm : Addr} {ob : Obj}
/-- a generator over a list, its code object found or made -/
theorem gen_list {env : Env} {elt iter : PySem.Expr} {x : Str} {px : Pos} {ifs : List PySem.Expr} {scope : Scope} {cl : List (Str × Addr)} {pos : Pos} {Q : Value → Shared → Prop}
    (hcode : env.code = .ref c) (hh : A.handled = none) (hco : scope.isCoroutine = false) (hclos : closureFor scope env = pure cl) (hcell : ∀ y ∈ scope.names, y.2 ≠ .cell) (h0 : scope.names.lookup (".0" : Str) = some NameKind.local)
    (hx : scope.names.lookup x = some .local) (hkind : scope.kind = .function) (hroom : A.depth < recursionLimit)
    (h : wpAny (model prog w) A (eval iter env) (fun xv s₁ => ∃ l items, xv = .ref l ∧ s₁.heap.IsList l items ∧ s₁.heap.IsCode c P ps ∧ s₁.heap.TableAt c P ps ∧ (codeAmong pos ps.toList = none ∨ ∃ c', codeAmong pos ps.toList = some (.ref c')) ∧ BMod s₁.heap env.globals mg bm ob ∧ s₁.heap.NoLimit ∧
        ∃ (pz : Nat → Bool) (F : Nat → Value → Prop),
        (∀ (c' C : Addr) (A' : Around) E' i v (t : Shared) m₂, A'.handled = none → A'.depth ≤ A.depth + 1 → A'.units ≤ A.units + 8 → items[i]? = some v → t.heap.Ns C m₂ → m₂ x = some v → s₁.heap.objs.size ≤ C →
          (∀ b o, b ≠ P → s₁.heap.get? b = some o → t.heap.get? b = some o) →
          wpAny (model prog w) A' (forIn ifs true fun c r => if r = true then do let ok ← isTrue c (genEnv scope cl C (.ref c') builtinsNs env) (eval c (genEnv scope cl C (.ref c') builtinsNs env)); pure (ForInStep.yield ok) else pure (ForInStep.yield r))
            (fun ok s₃ => ok = pz i ∧ Keeps t s₃) E' t) ∧
        (∀ (c' C : Addr) (A' : Around) E' i v (t : Shared) m₂, A'.handled = none → A'.depth ≤ A.depth + 1 → A'.units ≤ A.units + 8 → items[i]? = some v → pz i = true → t.heap.Ns C m₂ → m₂ x = some v → s₁.heap.objs.size ≤ C →
          (∀ b o, b ≠ P → s₁.heap.get? b = some o → t.heap.get? b = some o) →
          wpAny (model prog w) A' (eval elt (genEnv scope cl C (.ref c') builtinsNs env)) (fun y s₃ => F i y ∧ Keeps t s₃) E' t) ∧
        (∀ (c' a : Addr) (ps' : Array Value) (s₅ : Shared), (ps' = ps ∧ codeAmong pos ps.toList = some (.ref c') ∨ codeAmong pos ps.toList = none ∧ ps' = ps ++ #[rawInt pos.line, rawInt pos.col, .ref c']) → s₅.heap.get? P = some (PySem.W.tabObj ps') → s₅.os = s₁.os → (AllBare s₁.gens → AllBare s₅.gens) →
          (∀ b o, b ≠ P → s₁.heap.get? b = some o → s₅.heap.get? b = some o) →
          Gen prog w A (s₁.heap.objs.size - 1) a (passing pz items.size 0).length (fun j y => ∃ i, (passing pz items.size 0)[j]? = some i ∧ F i y) s₅ → Q (.ref a) s₅)) E s)
    (hs : ∀ x, genFold iter env x = pure x) :
    wpAny (model prog w) A (eval (.GeneratorExp elt [⟨.Name x px, iter, ifs, 0⟩] scope pos) env) Q E s := by
  refine wpAny_GeneratorExp_walksQD hh hco hclos hcell h0 hx hkind hroom (wpAny_mono h (fun xv s₁ h₁ => ?_) fun _ _ e => e) hs
  obtain ⟨l, items, rfl, hl, hC, hT, hco2, M, hlim, pz, F, hq1, hq2, hQ⟩ := h₁
  have hlt : l < s₁.heap.objs.size := by obtain ⟨_, e, _⟩ := hl; exact Heap.lt_size e
  have hPlt : P < s₁.heap.objs.size := Heap.lt_size hT.2
  have hlP : l ≠ P := fun e => by
    obtain ⟨o, ho, hc, _⟩ := hl
    rw [e, hT.2] at ho; cases ho; exact absurd hc (by simp)
  refine wpAny_pyIter_list hl ⟨hlim.push _, ?_⟩
  -- from the code object on
  have main : ∀ (c' : Addr) (ps' : Array Value) (h₃ : Heap) (tk₃ : Nat), Heap.ExtBut P (s₁.heap.push { cls := .type "list_iterator", data := .fields #[.ref l, .int 0 0] }) h₃ → s₁.heap.objs.size + 1 ≤ h₃.objs.size → h₃.get? P = some (PySem.W.tabObj ps') →
      (ps' = ps ∧ codeAmong pos ps.toList = some (.ref c') ∨ codeAmong pos ps.toList = none ∧ ps' = ps ++ #[rawInt pos.line, rawInt pos.col, .ref c']) →
      wpAny (model prog w) A (builtinsFor env.globals env.builtins) (fun bi s₄ =>
        ∃ I fp wr n₀ P St₀ pz F, Value.ref s₁.heap.objs.size = .ref I ∧ (∀ A' : Around, A'.handled = none → Walks prog w A' I fp wr n₀ P St₀) ∧ St₀ 0 s₄.heap ∧ (∀ b ∈ fp, b < s₄.heap.objs.size) ∧ s₄.heap.NoLimit ∧ cStatics ∉ wr ∧
          (∀ href : Heap, (∀ b o, s₄.heap.get? b = some o → href.get? b = some o) →
            QuietGenD prog w (genEnv scope cl s₄.heap.objs.size (.ref c') bi env) x ifs elt (List.range s₄.heap.objs.size) wr P pz F href (A.depth + 1) (A.units + 8)) ∧
          (∀ a h₅ tk gs, gs.bare = true → s₄.heap.objs.size < a → h₅.objs.size = a + 1 → (∀ b o, s₄.heap.get? b = some o → h₅.get? b = some o) →
            WalksS prog w A.in4 a (a :: s₄.heap.objs.size :: List.range s₄.heap.objs.size) (s₄.heap.objs.size :: wr) (GenOnlyQ s₄.gens.size) (passing pz n₀ 0).length
              (fun j y => ∃ i, (passing pz n₀ 0)[j]? = some i ∧ F i y) (GenAt prog w A.in4 a s₄.gens.size s₄.heap.objs.size (List.range s₄.heap.objs.size) wr pz n₀ F) →
            GenAt prog w A.in4 a s₄.gens.size s₄.heap.objs.size (List.range s₄.heap.objs.size) wr pz n₀ F 0 { s₄ with gens := s₄.gens.push gs, toks := tk, heap := h₅ } →
            Q (.ref a) { s₄ with gens := s₄.gens.push gs, toks := tk, heap := h₅ })) E { s₁ with heap := h₃, toks := tk₃ } := by
    intro c' ps' h₃ tk₃ hx₃ hsz hP₃ hps
    have hx1 : ∀ b o, b ≠ P → s₁.heap.get? b = some o → h₃.get? b = some o := fun b o hb e => hx₃ b o hb (Heap.get?_push_of_some _ e)
    have M₃ : BMod h₃ env.globals mg bm ob := M.extBut hT hx1
    have hcP : cStatics ≠ P := fun e => by
      obtain ⟨_, hns, _⟩ := hlim
      obtain ⟨o, es, ep, ho, hd, _⟩ := hns
      rw [e, hT.2] at ho; cases ho; cases hd
    have hclt : cStatics < s₁.heap.objs.size := let ⟨_, hn, _⟩ := hlim; hn.lt
    refine wpAny_builtinsFor M₃.ns M₃.name M₃.ne M₃.obj M₃.cls M₃.dict M₃.data ?_
    refine ⟨s₁.heap.objs.size, [s₁.heap.objs.size, l], [s₁.heap.objs.size], items.size, _, _, pz, F, rfl, (fun A' hA => Walks.list hA _ _ (Nat.ne_of_lt hlt) items),
      ⟨⟨_, hx₃ _ _ (Nat.ne_of_gt hPlt) (Heap.get?_push_size _ rfl), rfl, rfl⟩, let ⟨o, e, r⟩ := hl; ⟨o, hx1 _ _ hlP e, r⟩⟩, ?_, hlim.extBut hx1 hcP, ?_, (fun href hhref => ?_), fun a h₅ tk gs hgb hag hsz₅ hk₅ W hat => ?_⟩
    · intro b hb
      show b < h₃.objs.size
      simp only [List.mem_cons, List.not_mem_nil, or_false] at hb
      rcases hb with rfl | rfl
      · exact hsz
      · exact Nat.lt_of_lt_of_le (Nat.lt_succ_of_lt hlt) hsz
    · intro hm
      rw [List.mem_singleton.mp hm] at hclt
      exact Nat.lt_irrefl _ hclt
    · have hwr : ∀ b o, s₁.heap.get? b = some o → b ∉ [s₁.heap.objs.size] := fun b o e hm => by
        rw [List.mem_singleton.mp hm] at e; exact Nat.lt_irrefl _ (Heap.lt_size e)
      have inB : ∀ (t : Shared), (∀ b ∈ List.range h₃.objs.size, b ∉ [s₁.heap.objs.size] → ∀ o, href.get? b = some o → t.heap.get? b = some o) →
          ∀ b o, b ≠ P → s₁.heap.get? b = some o → t.heap.get? b = some o := fun t hkp b o hbP e =>
        hkp b (List.mem_range.mpr (Heap.lt_size (hx1 b o hbP e))) (hwr b o e) o (hhref b o (hx1 b o hbP e))
      exact ⟨fun A' E' i v t m₂ hA hD hU hPi hn hm hkp => hq1 c' _ A' E' i v t m₂ hA hD hU hPi hn hm (Nat.le_trans (Nat.le_succ _) hsz) (inB t hkp),
        fun A' E' i v t m₂ hA hD hU hPi hp hn hm hkp => hq2 c' _ A' E' i v t m₂ hA hD hU hPi hp hn hm (Nat.le_trans (Nat.le_succ _) hsz) (inB t hkp)⟩
    refine hQ c' a ps' _ hps (hk₅ _ _ hP₃) rfl (fun G => G.push hgb) (fun b o hb e => hk₅ b o (hx1 b o hb e)) ⟨_, _, _, _, W, hat, (fun i s' st => st.1.typeIs), List.mem_cons_self, ?_, ?_⟩
    · intro b hb
      show b < h₅.objs.size
      rw [hsz₅]
      rcases List.mem_cons.mp hb with rfl | hb
      · exact Nat.lt_succ_self _
      · rcases List.mem_cons.mp hb with rfl | hb
        · exact Nat.lt_succ_of_lt hag
        · exact Nat.lt_succ_of_lt (Nat.lt_trans (List.mem_range.mp hb) hag)
    · intro b hb
      rcases List.mem_cons.mp hb with rfl | hb
      · show s₁.heap.objs.size - 1 < h₃.objs.size
        omega
      · rw [List.mem_singleton.mp hb]
        exact Nat.pred_lt (Nat.ne_of_gt (Nat.lt_of_le_of_lt (Nat.zero_le _) hlt))
  have hC' : (s₁.heap.push { cls := .type "list_iterator", data := .fields #[.ref l, .int 0 0] }).IsCode c P ps := hC.keeps fun _ _ e => Heap.get?_push_of_some _ e
  have hT' := hT.push { cls := .type "list_iterator", data := .fields #[.ref l, .int 0 0] }
  rcases hco2 with hn | ⟨c', hy⟩
  · exact wpAny_genexprCodeX hcode hC' hT' hn fun c' h₃ tk₃ hx₃ hge hlt3 _ _ htab₃ _ => main c' _ h₃ tk₃ hx₃ (by rw [Heap.size_push] at hge; exact Nat.le_of_lt (Nat.lt_of_le_of_lt hge hlt3)) htab₃.2 (.inr ⟨hn, rfl⟩)
  · exact wpAny_genexprCode_hit hcode hC' hy (main c' ps _ _ (fun b o _ e => e) (by rw [Heap.size_push]; exact Nat.le_refl _) hT'.2 (.inl ⟨rfl, hy⟩))
theorem passing_all (n : Nat) : passing (fun _ => true) n 0 = List.range n := by unfold passing; simp
/-- the same without tests -/
theorem gen_map {env : Env} {elt iter : PySem.Expr} {x : Str} {px : Pos} {scope : Scope} {cl : List (Str × Addr)} {pos : Pos} {Q : Value → Shared → Prop}
    (hcode : env.code = .ref c) (hh : A.handled = none) (hco : scope.isCoroutine = false) (hclos : closureFor scope env = pure cl) (hcell : ∀ y ∈ scope.names, y.2 ≠ .cell) (h0 : scope.names.lookup (".0" : Str) = some NameKind.local)
    (hx : scope.names.lookup x = some .local) (hkind : scope.kind = .function) (hroom : A.depth < recursionLimit)
    (h : wpAny (model prog w) A (eval iter env) (fun xv s₁ => Stopped (∃ l items, xv = .ref l ∧ s₁.heap.IsList l items ∧ s₁.heap.IsCode c P ps ∧ s₁.heap.TableAt c P ps ∧ (codeAmong pos ps.toList = none ∨ ∃ c', codeAmong pos ps.toList = some (.ref c')) ∧ BMod s₁.heap env.globals mg bm ob ∧ s₁.heap.NoLimit ∧
        ∃ (F : Nat → Value → Prop),
        (∀ (c' C : Addr) (A' : Around) i v (t : Shared) m₂, A'.handled = none → A'.depth ≤ A.depth + 1 → A'.units ≤ A.units + 8 → items[i]? = some v → t.heap.Ns C m₂ → m₂ x = some v → s₁.heap.objs.size ≤ C →
          (∀ b o, b ≠ P → s₁.heap.get? b = some o → t.heap.get? b = some o) →
          wpAny (model prog w) A' (eval elt (genEnv scope cl C (.ref c') builtinsNs env)) (fun y s₃ => F i y ∧ Keeps t s₃) NoE t) ∧
        (∀ (c' a : Addr) (ps' : Array Value) (s₅ : Shared), (ps' = ps ∧ codeAmong pos ps.toList = some (.ref c') ∨ codeAmong pos ps.toList = none ∧ ps' = ps ++ #[rawInt pos.line, rawInt pos.col, .ref c']) → s₅.heap.get? P = some (PySem.W.tabObj ps') → s₅.os = s₁.os → (AllBare s₁.gens → AllBare s₅.gens) →
          (∀ b o, b ≠ P → s₁.heap.get? b = some o → s₅.heap.get? b = some o) →
          Gen prog w A (s₁.heap.objs.size - 1) a items.size F s₅ → Q (.ref a) s₅))) E s)
    (hs : ∀ x, genFold iter env x = pure x) :
    wpAny (model prog w) A (eval (.GeneratorExp elt [⟨.Name x px, iter, [], 0⟩] scope pos) env) Q E s := by
  refine gen_list (c := c) (P := P) (ps := ps) (mg := mg) (bm := bm) (ob := ob) hcode hh hco hclos hcell h0 hx hkind hroom (wpAny_mono h (fun xv s₁ h₁ => ?_) fun _ _ e => e) hs
  obtain ⟨l, items, e, hl, hC, hT, hc2, M, hlim, F, hq, hQ⟩ := h₁
  refine ⟨l, items, e, hl, hC, hT, hc2, M, hlim, fun _ => true, F, fun _ _ _ _ _ _ t _ _ _ _ _ _ _ _ _ => wpAny_tests_nil ⟨rfl, t.heap, t.toks, rfl, fun _ _ e => e⟩, fun c' C A' E' i v t m₂ hA hD hU hi _ hn hm hC hk => wpAny_mono (hq c' C A' i v t m₂ hA hD hU hi hn hm hC hk) (fun _ _ r => r) fun _ _ e => e.elim, fun c' a ps' s₅ h1 h2 h3 h4 h5 G => hQ c' a ps' s₅ h1 h2 h3 h4 h5 ?_⟩
  rw [passing_all, List.length_range] at G
  refine G.imp fun j y ⟨i, hi, hF⟩ => ?_
  obtain ⟨hj, e⟩ := List.getElem?_eq_some_iff.mp hi
  rw [List.getElem_range] at e
  exact e ▸ hF
end
section
variable {M : Model} {A : Around} {E : Value → Shared → Prop} {s : Shared} {h₀ : Heap} {C c : Addr} {scope : Scope} {cl : List (Str × Addr)} {env : Env} {cd : Value} {bi : Addr} {x : Str} {pos : Pos} {v : Value} {m : Str → Option Value} {Q : Value → Shared → Prop}
theorem gm_L (F : Fr h₀ C s.heap m) (hv : m x = some v) (h : Q v s) (hk : (genEnv scope cl C cd bi env).scope.kind = .function) (hx : (genEnv scope cl C cd bi env).kindOf x = some .local) (hb : (x == ("__debug__" : Str)) = false := by decide) :
    wpAny M A (eval (.Name x pos) (genEnv scope cl C cd bi env)) Q E s := wpAny_Name (wpAny_loadName_local hk hx F.ns hv h) hb
theorem gm_B (F : Fr h₀ C s.heap m) (hc : cl.lookup x = some c) (hv : h₀.IsCell c (some v)) (h : Q v s) (hk : (genEnv scope cl C cd bi env).scope.kind = .function) (hx : (genEnv scope cl C cd bi env).kindOf x = some .free) (hb : (x == ("__debug__" : Str)) = false := by decide) (hn : (x == ("__classdict__" : Str)) = false := by decide) :
    wpAny M A (eval (.Name x pos) (genEnv scope cl C cd bi env)) Q E s := wpAny_Name (wpAny_loadName_free hk hx hc (cell_keep F.keep hv) h hn) hb
end
/-- a code table: empty, or with one code object for this place -/
def TabOk (l c : Int) (ps : Array Value) : Prop := ps = #[] ∨ ∃ c', ps = #[rawInt l, rawInt c, .ref c']
theorem TabOk.triples {l c : Int} {ps : Array Value} (h : TabOk l c ps) : TriplesOk ps.toList := by
  rcases h with rfl | ⟨c', rfl⟩ <;> simp [TriplesOk, rawInt]
theorem TabOk.among {l c : Int} {ps : Array Value} {pos : Pos} (h : TabOk l c ps) (hl : l = pos.line) (hc : c = pos.col) : codeAmong pos ps.toList = none ∨ ∃ c', codeAmong pos ps.toList = some (.ref c') := by
  subst hl hc
  rcases h with rfl | ⟨c', rfl⟩
  · left; rfl
  · right; exact ⟨c', by simp [codeAmong, rawInt]⟩
theorem TabOk.next {l c : Int} {ps ps' : Array Value} {pos : Pos} {c' : Addr} (h : TabOk l c ps) (hl : l = pos.line) (hc : c = pos.col)
    (n : ps' = ps ∧ codeAmong pos ps.toList = some (.ref c') ∨ codeAmong pos ps.toList = none ∧ ps' = ps ++ #[rawInt pos.line, rawInt pos.col, .ref c']) : TabOk l c ps' := by
  subst hl hc
  rcases h with rfl | ⟨c2, rfl⟩
  · rcases n with ⟨rfl, q⟩ | ⟨_, rfl⟩
    · exact .inl rfl
    · exact .inr ⟨c', by simp⟩
  · rcases n with ⟨rfl, q⟩ | ⟨q, rfl⟩
    · exact .inr ⟨c2, rfl⟩
    · simp [codeAmong, rawInt] at q
end
local macro_rules | `(tactic| walk_at "eval Name") => `(tactic| first
  | ((with_reducible show wpAny _ _ (eval (Expr.Name _ _) (genEnv _ _ _ _ _ _)) _ _ _); first | (refine gm_L (by assumption) (by assumption) ?_ rfl rfl) | (refine gm_B (by assumption) rfl (by assumption) ?_ rfl rfl)) | ((with_reducible show wpAny _ _ (eval (Expr.Name _ _) (compEnvC _ _ _ _)) _ _ _); first | (refine nm_L (by assumption) (by assumption) ?_ rfl rfl) | (refine nm_C (by assumption) rfl (by assumption) ?_ rfl rfl) | (refine nm_B (by assumption) rfl (by assumption) ?_ rfl rfl) | k_dflt (refine kcf_cell (by k_asm) (by rfl) (by k_mem) (by k_asm) ?_)))
example : True ∧ True := by walk1 <;> trivial
section
local macro_rules | `(tactic| walk_at "m:flush") => `(tactic| trivial)
example : True ∧ True := by walk1 <;> trivial
end
section
theorem keep_all {s : Shared} {news news' : List (Addr × Obj)} {L : Addr} {h' : Heap} {m' : Str → Option Value} (N : ∀ q ∈ news, s.heap.get? q.1 = some q.2)
    (F' : Fr (hid s news) L h' m') (N' : News (hid s news) L h' news') (sub : ∀ q ∈ news, q ∈ news') : ∀ b o, s.heap.get? b = some o → h'.get? b = some o :=
  fun b o e => (af_end (ch := []) (t := 0) (gs := s.gens) (d := s.drawn) N F' N' (fun q hq => .inr (sub q hq)) id).keep b o e (by simp)
theorem Own.kp {g h h' : Heap} {a : Addr} {o : Obj} (x : Own g h a o) (k : ∀ b o, h.get? b = some o → h'.get? b = some o) : Own g h' a o := ⟨k _ _ x.at_, x.new⟩
theorem BF.kp {w : World} {e b z : Int} {sp : Addr} {g h h' : Heap} {a : Fa} {m n : Int} (x : BF w e b z sp g h a m n) (k : ∀ b o, b = a.x ∨ b = a.d ∨ b = a.l → h.get? b = some o → h'.get? b = some o) : BF w e b z sp g h' a m n :=
  ⟨⟨k _ _ (.inl rfl) x.x.at_, x.x.new⟩, let ⟨t, o⟩ := x.d; ⟨t, k _ _ (.inr (.inl rfl)) o.at_, o.new⟩, let ⟨t, n, o⟩ := x.l; ⟨t, n, k _ _ (.inr (.inr rfl)) o.at_, o.new⟩⟩
theorem news_tab {h₀ h h' : Heap} {L P : Addr} {news : List (Addr × Obj)} {ps : Array Value} (N : News h₀ L h news) (hm : (P, PySem.W.tabObj ps) ∈ news) (hk : ∀ b o, b ≠ P → h.get? b = some o → h'.get? b = some o) :
    ∀ r ∈ news, r.2.cls ≠ .none → h'.get? r.1 = some r.2 ∧ @Ne Nat r.1 L ∧ h₀.get? r.1 = none :=
  fun r m zc => ⟨hk _ _ (fun q => by have := (N r m).1; rw [q, (N _ hm).1] at this; rw [← Option.some.inj this] at zc; exact zc rfl) (N r m).1, (N r m).2⟩
structure EF (w : World) (e b z : Int) (sp : Addr) (g h : Heap) (a : Fa) (bs : List (Fa × Int × Int)) (k : Int) : Prop where
  x : Own g h a.x (instObj 457 a.d)
  d : ∃ t, Own g h a.d (dictOf (ebEs w.params t e b sp a.l k) 5)
  l : ∃ n, Own g h a.l (listOf (bs.map fun q => Value.ref q.1.x).toArray n)
  all : ∀ q ∈ bs, BF w e b z sp g h q.1 q.2.1 q.2.2
local macro_rules | `(tactic| walk_at "call builtin:any") => `(tactic| (with_reducible refine stop_here ?_))
local macro_rules | `(tactic| walk_at "eval GeneratorExp") => `(tactic| (with_reducible refine stop_here ?_))
set_option maxHeartbeats 4000000 in
theorem c_e_check_alt {w : World} {g : Heap} {A : Around} {s : Shared} {R : Result → Shared → Prop} {e b z : Int} {sp : Addr} {a : Fa} {bs : List (Fa × Int × Int)} {k : Int} {xh : Addr} {ns : List Int} {ps : Array Value} (cx : Cx w g) (st : ∀ b o, g.get? b = some o → s.heap.get? b = some o)
    (r : Rm A 60 60) (hS : Sz e b z) (B : EF w e b z sp g s.heap a bs k) (H : Li g s.heap xh ns) (hn : (ns.length : Int) = z) (hc : CodeHd g 423 419) (ht : Own g s.heap 419 (PySem.W.tabObj ps)) (hps : TabOk 262 19 ps) (hg : AllBare s.gens)
    (hR : ∀ bb s', bb = bs.any (fun q => chk b q.2.1 ns) → Af [419] s s' → (∃ ps', TabOk 262 19 ps' ∧ s'.heap.get? 419 = some (PySem.W.tabObj ps')) → R (.ok (.ret (.bool bb))) s') : codeAny (MM w) A (.call (.ref 424) ⟨[.ref a.x, .ref xh], []⟩) R s := by
  refine codeAny_aM r ?_
  obtain ⟨Bx, ⟨t, Bd⟩, ⟨nl, Bl⟩, Ba⟩ := B
  obtain ⟨vs, nv, Hl, Hi⟩ := H
  have N := own4 Bx Bd Bl ht
  have CX := cx.hid st N
  have X := CX.K
  obtain ⟨loose, mean, mg, mb, T⟩ := CX.T
  refine' enterMC (K := frag.heap_1 w.params) (binds := [(Str.ofString "self", Value.ref a.x), (Str.ofString "hashes", Value.ref xh)]) X T (fun b o e => of_hideAll _ e) (Nat.le_of_eq (hideAll_size _ _)) (hid_news N) ?k6 ?k7 ?k8 ?k9 ?kB ?kD ?_ ?c2 ?c3 ?c4
  (case k6 => k_is); (case k7 => k_is); (case k8 => decide); (case k9 => exact BindsTo.of_eq rfl); (case kB => exact rfl); (case kD => decide +kernel); (case c2 => exact rfl); (case c3 => exact rfl); (case c4 => exact rfl)
  intro L h₁ tk cells F N' Y l1 l2
  k_lt l1
  k_cells Y
  simp only [List.cons_append, List.nil_append] at N'
  try dsimp only
  (try k_unmd)
  (try k_fold)
  walk_at "m:steps"
  unfold Stopped
  have C9 := codeHd_hid st N hc
  rename_i oc hoc
  (rename Fr _ _ _ _ => F2); (rename News _ _ _ _ => N2)
  have k1 := keep_all (fun q hq => (N q hq).at_) F2 N2 (fun q hq => List.mem_cons_of_mem _ hq)
  obtain ⟨bm, ob, b1, b2, b3, b4, b5, b6⟩ := T.bmain
  refine gen_map (c := 423) (P := 419) (ps := ps) (mg := mg) (bm := bm) (ob := ob) rfl rfl rfl rfl (by decide) rfl rfl rfl (Nat.le_of_ble_eq_true rfl) ?_ (fun _ => rfl)
  walk_at "m:steps"
  unfold Stopped
  dsimp only
  have hP1 := (N2 (419, PySem.W.tabObj ps) (by k_mem)).1
  refine ⟨a.l, _, rfl, News.isList N2 (by k_mem), (C9.keeps F2.keep).code hP1 hps.triples, (C9.keeps F2.keep).tab hP1, hps.among rfl rfl, ⟨T.g.keeps F2.keep, b1, b2, F2.keep _ _ b3, b4, b5, b6⟩, T.nolimit.keeps F2.keep,
    fun i y => ∃ q, bs[i]? = some q ∧ y = .bool (chk b q.2.1 ns), ?_, ?_⟩
  · intro c' C A' i v u m₂ hA hD hU hi hn2 hm hC hk
    obtain ⟨q, hq, rfl⟩ : ∃ q, bs[i]? = some q ∧ v = Value.ref q.1.x := by
      rw [List.getElem?_toArray, List.getElem?_map] at hi
      cases e : bs[i]? with
      | none => rw [e] at hi; cases hi
      | some q => rw [e] at hi; cases hi; exact ⟨q, rfl, rfl⟩
    have B := Ba q (List.mem_of_getElem? hq)
    obtain ⟨Qx, ⟨tq, Qd⟩, ⟨tl, nq, Ql⟩⟩ := id B
    have Nn := own3 (ht.kp k1) (Qx.kp k1) (Qd.kp k1)
    obtain ⟨h₃, gs₃, d₃, t₃, os₃⟩ := u
    dsimp only at hk hn2 hC
    have hn419 : ∀ {bb oo}, g.get? bb = some oo → bb ≠ 419 := fun e q => by rw [q, ht.new] at e; cases e
    have st₃ : ∀ b o, g.get? b = some o → h₃.get? b = some o := fun b o e => hk b o (hn419 e) (k1 _ _ (st _ _ e))
    have ne4 : ∀ {bb oo}, s.heap.get? bb = some oo → oo.cls ≠ .none → bb ≠ 419 := fun e hne q => by rw [q, ht.at_] at e; cases e; exact hne rfl
    have B₃ : BF w e b z sp g h₃ q.1 q.2.1 q.2.2 := by
      exact ⟨⟨hk _ _ (ne4 Qx.at_ nofun) (k1 _ _ Qx.at_), Qx.new⟩, ⟨tq, hk _ _ (ne4 Qd.at_ nofun) (k1 _ _ Qd.at_), Qd.new⟩, ⟨tl, nq, hk _ _ (ne4 Ql.at_ nofun) (k1 _ _ Ql.at_), Ql.new⟩⟩
    have H₃ : Li g h₃ xh ns := ⟨vs, nv, ⟨hk _ _ (ne4 Hl.at_ nofun) (k1 _ _ Hl.at_), Hl.new⟩, Hi⟩
    have CX₃ := cx.hid (s := ⟨h₁, s.gens, s.drawn, 0, s.os⟩) (fun b o e => k1 _ _ (st b o e)) Nn
    have hb3 : ∀ bb oo, (hid ⟨h₁, s.gens, s.drawn, 0, s.os⟩ [((419 : Addr), PySem.W.tabObj ps), (q.1.x, instObj 337 q.1.d), (q.1.d, dictOf (bfEs w.params tq e b z sp q.1.l q.2.2) 11)]).get? bb = some oo → h₃.get? bb = some oo := fun bb oo ee =>
      hk bb oo (fun zz => by
        have := (hid_news (s := ⟨h₁, s.gens, s.drawn, 0, s.os⟩) Nn _ (.head _)).2
        rw [zz, show (hid _ _).get? 419 = _ from this] at ee; cases ee) (of_hideAll _ ee)
    have F₃ : Fr (hid ⟨h₁, s.gens, s.drawn, 0, s.os⟩ [((419 : Addr), PySem.W.tabObj ps), (q.1.x, instObj 337 q.1.d), (q.1.d, dictOf (bfEs w.params tq e b z sp q.1.l q.2.2) 11)]) C h₃ m₂ := ⟨hn2, hb3, Nat.le_trans (Nat.le_of_eq (hideAll_size _ _)) hC⟩
    have hxC : @Ne Nat q.1.x C := Nat.ne_of_lt (Nat.lt_of_lt_of_le (Heap.lt_size (B.x.kp k1).at_) hC)
    have N₃ : News (hid ⟨h₁, s.gens, s.drawn, 0, s.os⟩ [((419 : Addr), PySem.W.tabObj ps), (q.1.x, instObj 337 q.1.d), (q.1.d, dictOf (bfEs w.params tq e b z sp q.1.l q.2.2) 11)]) C h₃ [(q.1.x, instObj 337 q.1.d), (q.1.d, dictOf (bfEs w.params tq e b z sp q.1.l q.2.2) 11)] := fun r hr => by
      have hh := fun z => (hid_news (s := ⟨h₁, s.gens, s.drawn, 0, s.os⟩) Nn r (.tail _ z)).2
      simp only [List.mem_cons, List.not_mem_nil, or_false] at hr
      rcases hr with rfl | rfl
      · exact ⟨B₃.x.at_, hxC, hh (.head _)⟩
      · exact ⟨hk _ _ (ne4 Qd.at_ nofun) (k1 _ _ Qd.at_), Nat.ne_of_lt (Nat.lt_of_lt_of_le (Heap.lt_size (Qd.kp k1).at_) hC), hh (.tail _ (.head _))⟩
    have hcell : (hid ⟨h₁, s.gens, s.drawn, 0, s.os⟩ [((419 : Addr), PySem.W.tabObj ps), (q.1.x, instObj 337 q.1.d), (q.1.d, dictOf (bfEs w.params tq e b z sp q.1.l q.2.2) 11)]).IsCell (L + 1) (some (.ref xh)) := by
      refine ⟨oc, hideAll_get _ (N2 (L + 1, oc) (by k_mem)).1 ?_, hoc.trans (by kernel_rfl)⟩
      intro hm'
      have h1 := Heap.lt_size B.x.at_
      have h2 := Heap.lt_size ht.at_
      simp only [List.map_cons, List.map_nil, List.mem_cons, List.not_mem_nil, or_false] at hm'
      have h3 := Heap.lt_size Qd.at_
      rcases hm' with z | z | z
      · rw [← z] at h2; exact absurd (Nat.lt_of_lt_of_le h2 l2) (Nat.not_lt.mpr (Nat.le_succ _))
      · rw [← z] at h1; exact absurd (Nat.lt_of_lt_of_le h1 l2) (Nat.not_lt.mpr (Nat.le_succ _))
      · rw [← z] at h3; exact absurd (Nat.lt_of_lt_of_le h3 l2) (Nat.not_lt.mpr (Nat.le_succ _))
    clear F2 N2 CX X T C9
    have X := CX₃.K
    obtain ⟨loose, mean, mg, mb, T⟩ := CX₃.T
    refine wpAny_aM (d := 70) (u := 80) ⟨hA, Nat.le_trans hD (Nat.le_of_ble_eq_true rfl), Nat.le_trans hU (Nat.le_of_ble_eq_true rfl)⟩ ?_
    walk_at "m:steps"
    unfold Stopped
    refine c_check_altK cx st₃ ⟨rfl, by decide, by decide⟩ hS B₃ H₃ hn ?_
    intro bb s' hbb kp
    dsimp only
    obtain ⟨h', tk', rfl, kk⟩ := kp
    exact ⟨⟨q, hq, by rw [hbb]⟩, h', tk', rfl, kk⟩
  · intro c' ga ps' s₅ hps' ht5 hos5 hgs5 hk5 G5
    obtain ⟨h₅, gs₅, d₅, t₅, os₅⟩ := s₅
    dsimp only at hos5 hgs5 hk5 ht5
    subst hos5
    have n4 := N2 (419, PySem.W.tabObj ps) (by k_mem)
    have F₅ : Fr (hid s _) L h₅ _ := ⟨F2.ns.at' fun o e => hk5 _ _ (fun q => n4.2.1 q.symm) e, fun b o e => hk5 _ _ (fun q => by rw [q, n4.2.2] at e; cases e) (F2.keep _ _ e), F2.above⟩
    have N₅ : News _ L h₅ [(a.x, instObj 457 a.d), (a.d, dictOf (ebEs w.params t e b sp a.l k) 5), (a.l, PySem.W.listOf (bs.map fun q => Value.ref q.1.x).toArray nl), (419, PySem.W.tabObj ps')] := fun r hr => by
      simp only [List.mem_cons, List.not_mem_nil, or_false] at hr
      rcases hr with rfl | rfl | rfl | rfl
      · exact news_tab N2 (P := 419) (ps := ps) (by k_mem) hk5 _ (by k_mem) nofun
      · exact news_tab N2 (P := 419) (ps := ps) (by k_mem) hk5 _ (by k_mem) nofun
      · exact news_tab N2 (P := 419) (ps := ps) (by k_mem) hk5 _ (by k_mem) nofun
      · exact ⟨ht5, n4.2⟩
    walk_at "m:steps"
    unfold Stopped
    refine any_rowsK F₅ (hgs5 hg) G5 (Nat.le_pred_of_lt F2.ns.lt) (fun j => match bs[j]? with | some q => chk b q.2.1 ns | none => false) ?_ ?_
    · rintro j v s' Q E ⟨q, hq, rfl⟩ hQ
      simp only [hq] at hQ
      exact wpAny_truthy_bool hQ
    · intro s₆ F₆ G₆ hos₆ hk₆
      obtain ⟨h₆, gs₆, d₆, t₆, os₆⟩ := s₆
      dsimp only at hos₆ hk₆ F₆ G₆
      subst hos₆
      have N₆ : News _ L h₆ [(a.x, instObj 457 a.d), (a.d, dictOf (ebEs w.params t e b sp a.l k) 5), (a.l, PySem.W.listOf (bs.map fun q => Value.ref q.1.x).toArray nl), (419, PySem.W.tabObj ps')] := fun r hr => by
        refine ⟨hk₆ _ _ ?_ (N₅ r hr).1, (N₅ r hr).2⟩
        have lt : r.1 < L := by
          simp only [List.mem_cons, List.not_mem_nil, or_false] at hr
          rcases hr with rfl | rfl | rfl | rfl
          · exact l1.1
          · exact l1.2.1
          · exact l1.2.2.1
          · exact l1.2.2.2
        exact Nat.le_pred_of_lt (Nat.lt_trans lt F2.ns.lt)
      (try dsimp only)
      refine hR _ _ ?_ (af_end (fun q hq => (N q hq).at_) F₆ N₆ (fun q hq => ?_) fun _ => G₆) ⟨ps', hps.next rfl rfl hps', (N₆ (419, PySem.W.tabObj ps') (by k_mem)).1⟩
      · have z := any_rangeD bs (fun q => chk b q.2.1 ns)
        rw [List.size_toArray, List.length_map]
        refine Eq.trans (congrArg _ (funext fun j => ?_)) z
        cases bs[j]? <;> rfl
      · simp only [List.mem_cons, List.not_mem_nil, or_false] at hq
        rcases hq with rfl | rfl | rfl | rfl
        · exact .inr (by k_mem)
        · exact .inr (by k_mem)
        · exact .inr (by k_mem)
        · exact .inl (.head _)
end
example : True ∧ True := by walk1 <;> trivial
section
local macro_rules | `(tactic| walk_at "m:flush") => `(tactic| trivial)
example : True ∧ True := by walk1 <;> trivial
end
section
theorem Sp.kp {w : World} {g h h' : Heap} {sp : Addr} {far : Int} (x : Sp w g h sp far) (k : ∀ b o, h.get? b = some o → h'.get? b = some o) : Sp w g h' sp far :=
  let ⟨c, co, dc, pm, ct, oc, vs, t, oo, tk, a1, a2, r1, r2, a3, r3⟩ := x.it; ⟨c, co, dc, pm, ct, oc, vs, t, oo, tk, a1.kp k, a2.kp k, r1, r2, a3.kp k, r3⟩
theorem Li.kp {g h h' : Heap} {a : Addr} {ns : List Int} (x : Li g h a ns) (k : ∀ b o, h.get? b = some o → h'.get? b = some o) : Li g h' a ns := let ⟨vs, n, o, i⟩ := x.l; ⟨vs, n, o.kp k, i⟩
theorem EF.kp {w : World} {e b z : Int} {sp : Addr} {g h h' : Heap} {a : Fa} {bs : List (Fa × Int × Int)} {k : Int} (x : EF w e b z sp g h a bs k) (kk : ∀ b o, h.get? b = some o → h'.get? b = some o) : EF w e b z sp g h' a bs k :=
  ⟨x.x.kp kk, let ⟨t, o⟩ := x.d; ⟨t, o.kp kk⟩, let ⟨n, o⟩ := x.l; ⟨n, o.kp kk⟩, fun q hq => (x.all q hq).kp fun b o _ => kk b o⟩
theorem own6' {g h : Heap} {a b c d e f : Addr} {oa ob oc od oe of : Obj} (xa : Own g h a oa) (xb : Own g h b ob) (xc : Own g h c oc) (xd : Own g h d od) (xe : Own g h e oe) (xf : Own g h f of) : ∀ q ∈ [(a, oa), (b, ob), (c, oc), (d, od), (e, oe), (f, of)], Own g h q.1 q.2 := by
  intro q hq
  simp only [List.mem_cons, List.not_mem_nil, or_false] at hq
  rcases hq with rfl | rfl | rfl | rfl | rfl | rfl <;> assumption
theorem af_tail {ch : List Addr} {s s' : Shared} {h : Heap} {gs : Array GenState} {d : Drawn} {t : Nat} (k : ∀ b o, s.heap.get? b = some o → h.get? b = some o) (af : Af ch ⟨h, gs, d, t, s.os⟩ s') (hg : AllBare s.gens → AllBare gs) : Af ch s s' :=
  ⟨fun b o e n => af.keep b o (k b o e) n, af.os, fun x => af.gens (hg x)⟩
theorem g_hid {g : Heap} {s : Shared} {news : List (Addr × Obj)} (st : ∀ b o, g.get? b = some o → s.heap.get? b = some o) (N : ∀ q ∈ news, Own g s.heap q.1 q.2) : ∀ b o, g.get? b = some o → (hid s news).get? b = some o :=
  fun b o e => hideAll_get _ (st b o e) fun q => by
    obtain ⟨r, hr, rfl⟩ := List.mem_map.mp q
    rw [(N r hr).new] at e; cases e
local macro_rules | `(tactic| walk_at "subscriptTail Attribute Name Constant ref int") => `(tactic| walk_at "m:item")
set_option maxHeartbeats 4000000 in
theorem c_e_check {w : World} {g : Heap} {A : Around} {s : Shared} {R : Result → Shared → Prop} {e b z far : Int} {sp : Addr} {a : Fa} {q0 : Fa × Int × Int} {bs : List (Fa × Int × Int)} {k : Int} {key : Str} {tk : Tok} {ps : Array Value} (cx : Cx w g) (st : ∀ b o, g.get? b = some o → s.heap.get? b = some o)
    (r : Rm A 50 50) (hS : Sz e b z) (B : EF w e b z sp g s.heap a (q0 :: bs) k) (S : Sp w g s.heap sp far) (hk : key.length ≤ sizeLine) (hkz : (key.length : Int) = z) (hc : CodeHd g 423 419) (ht : Own g s.heap 419 (PySem.W.tabObj ps)) (hps : TabOk 262 19 ps) (hg : AllBare s.gens)
    (hR : ∀ bb s', bb = (q0 :: bs).any (fun q => chk b q.2.1 (spell far z key)) → Af [419] s s' → (∃ ps', TabOk 262 19 ps' ∧ s'.heap.get? 419 = some (PySem.W.tabObj ps')) → R (.ok (.ret (.bool bb))) s') : codeAny (MM w) A (.call (.ref 417) ⟨[.ref a.x, .str key tk], []⟩) R s := by
  refine codeAny_aM r ?_
  obtain ⟨Bx, ⟨t, Bd⟩, ⟨nl, Bl⟩, Ba⟩ := id B
  obtain ⟨Qx, ⟨tq, Qd⟩, ⟨tl, nq, Ql⟩⟩ := Ba q0 (.head _)
  have N := own6' Bx Bd Bl Qx Qd ht
  have CX := cx.hid st N
  have X := CX.K
  obtain ⟨loose, mean, mg, mb, T⟩ := CX.T
  refine' enterM (K := frag.heap_1 w.params) (binds := [(Str.ofString "self", Value.ref a.x), (Str.ofString "key", Value.str key tk)]) X T (fun b o e => of_hideAll _ e) (Nat.le_of_eq (hideAll_size _ _)) (hid_news N) ?k6 ?k7 ?k8 ?k9 ?kB ?_ ?c2 ?c3 ?c4 ?c5
  walk_at "m:enter"
  intro L h₁ F N1 l1 l2 l3
  try dsimp only
  (try k_unmd)
  (try k_fold)
  walk_at "m:steps"
  unfold Stopped
  (rename Fr _ _ _ _ => F2); (rename News _ _ _ _ => N2)
  have k2 := keep_all (fun q hq => (N q hq).at_) F2 N2 (fun q hq => hq)
  refine c_hashes cx (fun b o e => k2 _ _ (st b o e)) (rm_deep (by decide) (by decide)) hS ((Ba q0 (.head _)).kp fun b o _ => k2 b o) (S.kp k2) hk ?_
  intro l s' af Hl
  obtain ⟨vs3, n3, Ol, Il⟩ := Hl.l
  have F3 := fr_af F2 af
  have N3 := news_af N2 af
  obtain ⟨hF3, gsF3, dF3, tF3, osF3⟩ := s'
  have hosF3 := af.os
  dsimp only at F3 N3 hosF3
  subst hosF3
  have hgF3 := af.gens
  dsimp only at hgF3
  have N4 := news_own F2 N3 Ol
  clear N3
  clear F2 N2
  dsimp only
  walk_at "m:steps"
  unfold Stopped
  (rename Fr _ _ _ _ => F5); (rename News _ _ _ _ => N5)
  have k5 := keep_all (fun q hq => (N q hq).at_) F5 N5 (fun q hq => List.mem_cons_of_mem _ hq)
  refine c_e_check_alt cx (fun b o e => k5 _ _ (st b o e)) (rm_deep (by decide) (by decide)) hS (B.kp k5) ((Li.news N5 (by k_mem) Il).back (g_hid st N)) (spell_len hkz) hc (ht.kp k5) hps (hgF3 hg) ?_
  rintro bb s' hbb af ⟨ps', hps', ht'⟩
  dsimp only
  walk_at "m:steps"
  exact hR bb _ hbb (af_tail k5 af hgF3) ⟨ps', hps', ht'⟩
set_option maxHeartbeats 4000000 in
theorem c_e_contains {w : World} {g : Heap} {A : Around} {s : Shared} {R : Result → Shared → Prop} {e b z far : Int} {sp : Addr} {a : Fa} {q0 : Fa × Int × Int} {bs : List (Fa × Int × Int)} {k : Int} {key : Str} {tk : Tok} {ps : Array Value} (cx : Cx w g) (st : ∀ b o, g.get? b = some o → s.heap.get? b = some o)
    (r : Rm A 40 40) (hS : Sz e b z) (B : EF w e b z sp g s.heap a (q0 :: bs) k) (S : Sp w g s.heap sp far) (hk : key.length ≤ sizeLine) (hkz : (key.length : Int) = z) (hc : CodeHd g 423 419) (ht : Own g s.heap 419 (PySem.W.tabObj ps)) (hps : TabOk 262 19 ps) (hg : AllBare s.gens)
    (hR : ∀ bb s', bb = (q0 :: bs).any (fun q => chk b q.2.1 (spell far z key)) → Af [419] s s' → (∃ ps', TabOk 262 19 ps' ∧ s'.heap.get? 419 = some (PySem.W.tabObj ps')) → R (.ok (.ret (.bool bb))) s') : codeAny (MM w) A (.call (.ref 363) ⟨[.ref a.x, .str key tk], []⟩) R s := by
  refine codeAny_aM r ?_
  obtain ⟨Bx, ⟨t, Bd⟩, ⟨nl, Bl⟩, Ba⟩ := id B
  have N := own3 Bx Bd ht
  have CX := cx.hid st N
  have X := CX.K
  obtain ⟨loose, mean, mg, mb, T⟩ := CX.T
  refine' enterM (K := frag.heap_1 w.params) (binds := [(Str.ofString "self", Value.ref a.x), (Str.ofString "key", Value.str key tk)]) X T (fun b o e => of_hideAll _ e) (Nat.le_of_eq (hideAll_size _ _)) (hid_news N) ?k6 ?k7 ?k8 ?k9 ?kB ?_ ?c2 ?c3 ?c4 ?c5
  walk_at "m:enter"
  intro L h₁ F N1 l1 l2 l3
  try dsimp only
  (try k_unmd)
  (try k_fold)
  walk_at "m:steps"
  unfold Stopped
  (rename Fr _ _ _ _ => F5); (rename News _ _ _ _ => N5)
  have k5 := keep_all (fun q hq => (N q hq).at_) F5 N5 (fun q hq => hq)
  refine c_e_check cx (fun b o e => k5 _ _ (st b o e)) (rm_deep (by decide) (by decide)) hS (B.kp k5) (S.kp k5) hk hkz hc (ht.kp k5) hps hg ?_
  rintro bb s' hbb af ⟨ps', hps', ht'⟩
  dsimp only
  walk_at "m:steps"
  exact hR bb _ hbb (af_tail k5 af id) ⟨ps', hps', ht'⟩
end
example : True ∧ True := by walk1 <;> trivial
section
local macro_rules | `(tactic| walk_at "m:flush") => `(tactic| trivial)
example : True ∧ True := by walk1 <;> trivial
end
section
local macro_rules | `(tactic| walk_at "m:last") => `(tactic| ((with_reducible show wpAny _ _ (subscriptTail _ _ (Value.ref _) (Value.int _ _)) _ _ _); k_dflt (refine' item_last ?k1 ?_; (case k1 => exact m_list (by k_asm) (by k_mem)); k_whole)))
local macro_rules | `(tactic| walk_at "call builtin:list.append") => `(tactic| ((with_reducible show wpAny _ _ (call (Value.builtin _) [Value.ref _, _]) _ _ _); k_dflt (refine' append_K ?k1 ?k2 ?k3 ?_ ?z; (case k1 => k_asm); (case k2 => k_asm); (case k3 => k_upd); (case z => assumption); k_whole); intro h' F' N'; (try k_sweep)))
theorem obj_ll {bs : List (Fa × Int × Int)} {q : Fa × Int × Int} {i : Int} {u : Tok} {n n' : Nat} (hq : q ∈ bs) : PySem.W.listOf [Value.int i u].toArray n ≠ PySem.W.listOf (bs.map fun q => Value.ref q.1.x).toArray n' := fun h => by
  injection h with _ _ h3
  injection h3 with h4
  cases bs with
  | nil => cases hq
  | cons p r =>
    have := congrArg (fun (x : Array Value) => x.toList.head?) h4
    simp at this
theorem obj_dd {w : World} {e b z e' b' : Int} {sp l sp' l' : Addr} {k k' : Int} {t t' : Nat → Tok} : dictOf (bfEs w.params t e b z sp l k) 11 ≠ dictOf (ebEs w.params t' e' b' sp' l' k') 5 := fun h => by
  injection h with _ _ h3
  injection h3 with h4 h5
  exact absurd h5 (by decide)
theorem BF.off {w : World} {e b z : Int} {sp : Addr} {g : Heap} {s s' : Shared} {a : Fa} {m k : Int} {ch : List Addr} (B : BF w e b z sp g s.heap a m k) (af : Af ch s s') (h : ∀ c ∈ ch, @Ne Nat a.x c ∧ @Ne Nat a.d c ∧ @Ne Nat a.l c) : BF w e b z sp g s'.heap a m k :=
  B.kp fun b o hb e => af.keep b o e fun hm => by
    obtain ⟨h1, h2, h3⟩ := h b hm
    rcases hb with rfl | rfl | rfl
    · exact h1 rfl
    · exact h2 rfl
    · exact h3 rfl
/-- a growing filter's own places are none of its filters' -/
theorem EF.l_ne {w : World} {e b z : Int} {sp : Addr} {g h : Heap} {a : Fa} {bs : List (Fa × Int × Int)} {k : Int} (B : EF w e b z sp g h a bs k) {q : Fa × Int × Int} (hq : q ∈ bs) : @Ne Nat q.1.x a.l ∧ @Ne Nat q.1.d a.l ∧ @Ne Nat q.1.l a.l :=
  let ⟨n, L⟩ := B.l
  have Q := B.all q hq
  ⟨own_ne Q.x L obj_xl, let ⟨t, D⟩ := Q.d; own_ne D L obj_dl, let ⟨t, n, l⟩ := Q.l; own_ne l L (obj_ll hq)⟩
theorem EF.d_ne {w : World} {e b z : Int} {sp : Addr} {g h : Heap} {a : Fa} {bs : List (Fa × Int × Int)} {k : Int} (B : EF w e b z sp g h a bs k) {q : Fa × Int × Int} (hq : q ∈ bs) : @Ne Nat q.1.x a.d ∧ @Ne Nat q.1.d a.d ∧ @Ne Nat q.1.l a.d :=
  let ⟨n, L⟩ := B.d
  have Q := B.all q hq
  ⟨own_ne Q.x L obj_xd, let ⟨t, D⟩ := Q.d; own_ne D L obj_dd, let ⟨t, n, l⟩ := Q.l; (own_ne L l obj_dl).symm⟩
theorem EF.re {w : World} {e b z : Int} {sp : Addr} {g h h' : Heap} {a : Fa} {bs bs' : List (Fa × Int × Int)} {k k' : Int} {t : Nat → Tok} {n : Nat} (x : EF w e b z sp g h a bs k)
    (h1 : h'.get? a.x = some (instObj 457 a.d)) (h2 : h'.get? a.d = some (dictOf (ebEs w.params t e b sp a.l k') 5)) (h3 : h'.get? a.l = some (PySem.W.listOf (bs'.map fun q => Value.ref q.1.x).toArray n)) (h4 : ∀ q ∈ bs', BF w e b z sp g h' q.1 q.2.1 q.2.2) : EF w e b z sp g h' a bs' k' :=
  ⟨⟨h1, x.x.new⟩, ⟨t, h2, let ⟨_, o⟩ := x.d; o.new⟩, ⟨n, h3, let ⟨_, o⟩ := x.l; o.new⟩, h4⟩
set_option maxHeartbeats 4000000 in
theorem c_e_grow {w : World} {g : Heap} {A : Around} {s : Shared} {R : Result → Shared → Prop} {e b z : Int} {sp : Addr} {a : Fa} {bs : List (Fa × Int × Int)} {k : Int} (cx : Cx w g) (st : ∀ b o, g.get? b = some o → s.heap.get? b = some o)
    (r : Rm A 40 40) (hS : Sz e b z) (B : EF w e b z sp g s.heap a bs k) (hlen : bs.length < 100)
    (hR : ∀ f s', Af [a.l] s s' → BF w e b z sp s.heap s'.heap f 0 0 → EF w e b z sp g s'.heap a (bs ++ [(f, 0, 0)]) k → R (.ok (.ret .none)) s') : codeAny (MM w) A (.call (.ref 447) ⟨[.ref a.x], []⟩) R s := by
  refine codeAny_aM r ?_
  obtain ⟨Bx, ⟨t, Bd⟩, ⟨nl, Bl⟩, Ba⟩ := id B
  have N := own3 Bx Bd Bl
  have ne1 := own_ne Bx Bl obj_xl
  have ne2 := own_ne Bd Bl obj_dl
  have hsz : (bs.map fun q => Value.ref q.1.x).toArray.size ≤ sizeLine := by
    rw [List.size_toArray, List.length_map]; exact Nat.le_trans (Nat.le_of_lt hlen) (by decide)
  have CX := cx.hid st N
  have X := CX.K
  obtain ⟨loose, mean, mg, mb, T⟩ := CX.T
  refine' enterM (K := frag.heap_1 w.params) (binds := [(Str.ofString "self", Value.ref a.x)]) X T (fun b o e => of_hideAll _ e) (Nat.le_of_eq (hideAll_size _ _)) (hid_news N) ?k6 ?k7 ?k8 ?k9 ?kB ?_ ?c2 ?c3 ?c4 ?c5
  walk_at "m:enter"
  intro L h₁ F N1 l1 l2 l3
  try dsimp only
  (try k_unmd)
  (try k_fold)
  walk_at "m:steps"
  unfold Stopped
  (rename Fr _ _ _ _ => F2); (rename News _ _ _ _ => N2)
  have k2 := keep_all (fun q hq => (N q hq).at_) F2 N2 (fun q hq => hq)
  refine c_newK cx (fun b o e => k2 _ _ (st b o e)) (rm_deep (by decide) (by decide)) hS ?_
  intro f s' af Bf
  obtain ⟨Fx, ⟨tf, Fd⟩, ⟨tl, nf, Fl⟩⟩ := Bf
  have nx := (ne_new N2 (d := a.l) (by k_mem) Fx).symm
  have nd := (ne_new N2 (d := a.l) (by k_mem) Fd).symm
  have nn := (ne_new N2 (d := a.l) (by k_mem) Fl).symm
  have F3 := fr_af F2 af
  have N3 := news_af N2 af
  obtain ⟨hF3, gsF3, dF3, tF3, osF3⟩ := s'
  have hosF3 := af.os
  dsimp only at F3 N3 hosF3
  subst hosF3
  have hgF3 := af.gens
  dsimp only at hgF3
  have N4 := news_own F2 (news_own F2 (news_own F2 N3 Fl) Fd) Fx
  clear N3
  clear F2 N2
  dsimp only
  walk_at "m:steps"
  (rename Fr _ _ _ _ => F9); (rename News _ _ _ _ => N9)
  have af9 := af_end (s := s) (ch := [a.l]) (t := tF3 + 1 + 1) (gs := gsF3) (d := dF3) (fun q hq => (N q hq).at_) F9 N9 (by walk_at "m:chg") hgF3
  have fresh : ∀ {b o}, Own h₁ hF3 b o → s.heap.get? b = none := fun x => by
    cases q : s.heap.get? _ with
    | none => rfl
    | some o => have := x.new; rw [k2 _ _ q] at this; cases this
  have B9 : BF w e b z sp s.heap _ f 0 0 := ⟨⟨News.get N9 (by k_mem), fresh Fx⟩, ⟨tf, News.get N9 (by k_mem), fresh Fd⟩, ⟨tl, nf, News.get N9 (by k_mem), fresh Fl⟩⟩
  have gn : ∀ {b}, s.heap.get? b = none → g.get? b = none := fun e => by
    cases q : g.get? _ with
    | none => rfl
    | some o => rw [st _ _ q] at e; cases e
  refine hR f _ af9 B9 (EF.re (t := t) (n := nl + 1) B (News.get N9 (by k_mem)) (News.get N9 (by k_mem)) ?_ ?_)
  · have := News.get N9 (a := a.l) (by k_mem)
    rw [this]
    simp
  · intro q hq
    rcases List.mem_append.mp hq with hq | hq
    · refine (Ba q hq).off af9 fun c hc => ?_
      rw [List.mem_singleton.mp hc]
      exact B.l_ne hq
    · rw [List.mem_singleton.mp hq]
      exact ⟨⟨B9.x.at_, gn B9.x.new⟩, let ⟨t, o⟩ := B9.d; ⟨t, o.at_, gn o.new⟩, let ⟨t, n, o⟩ := B9.l; ⟨t, n, o.at_, gn o.new⟩⟩
end
example : True ∧ True := by walk1 <;> trivial
section
local macro_rules | `(tactic| walk_at "m:flush") => `(tactic| trivial)
example : True ∧ True := by walk1 <;> trivial
end
section
theorem own5 {g h : Heap} {a b c d e : Addr} {oa ob oc od oe : Obj} (xa : Own g h a oa) (xb : Own g h b ob) (xc : Own g h c oc) (xd : Own g h d od) (xe : Own g h e oe) : ∀ q ∈ [(a, oa), (b, ob), (c, oc), (d, od), (e, oe)], Own g h q.1 q.2 := by
  intro q hq
  simp only [List.mem_cons, List.not_mem_nil, or_false] at hq
  rcases hq with rfl | rfl | rfl | rfl | rfl <;> assumption
theorem m_last {prog : Program} {w : World} {A : Around} {E : Value → Shared → Prop} {s : Shared} {value slice : PySem.Expr} {l : Addr} {vi : List Value} {v : Value} {u : Tok} {Q : Value → Shared → Prop} (hl : s.heap.IsList l (vi ++ [v]).toArray) (h : Q v s)
    (hs : subscripted slice false (.ref l) (.int (-1) u) = operate [.ref l, .int (-1) u] (getItem (.ref l) (.int (-1) u)) := by exact rfl) :
    wpAny (model prog w) A (subscriptTail value slice (.ref l) (.int (-1) u)) Q E s :=
  tail_any hl.typeIs slot_list_getitem.lookup (wpAny_getItem_list_neg hl (by decide) (by simp; omega) (by decide) (by
    have e : ((-1 : Int) + ((vi ++ [v]).toArray.size : Int)).toNat = vi.length := by simp; omega
    rw [e]; simp) h) hs
local macro_rules | `(tactic| walk_at "m:last") => `(tactic| ((with_reducible show wpAny _ _ (subscriptTail _ _ (Value.ref _) (Value.int _ _)) _ _ _); refine m_last (m_list (by k_asm) (by k_mem)) ?_))
local macro_rules | `(tactic| walk_at "subscriptTail Attribute Name UnaryOp ref int") => `(tactic| walk_at "m:last")
local macro_rules | `(tactic| walk_at "subscriptTail Attribute Name Constant ref int") => `(tactic| walk_at "m:last")
theorem BF.lift {w : World} {e b z : Int} {sp : Addr} {g h h' : Heap} {a : Fa} {m n : Int} (x : BF w e b z sp h h' a m n) (k : ∀ b o, g.get? b = some o → h.get? b = some o) : BF w e b z sp g h' a m n := x.back k
set_option maxHeartbeats 4000000 in
theorem c_e_growth {w : World} {g : Heap} {A : Around} {s : Shared} {R : Result → Shared → Prop} {e b z : Int} {sp : Addr} {a : Fa} {pre : List (Fa × Int × Int)} {ql : Fa × Int × Int} {k : Int} (cx : Cx w g) (st : ∀ b o, g.get? b = some o → s.heap.get? b = some o)
    (r : Rm A 30 30) (hS : Sz e b z) (B : EF w e b z sp g s.heap a (pre ++ [ql]) k) (hlen : (pre ++ [ql]).length < 100)
    (hR1 : ∀ s', ql.2.2 < e → Af [] s s' → R (.ok (.ret .none)) s')
    (hR2 : ∀ f s', e ≤ ql.2.2 → Af [a.l] s s' → BF w e b z sp s.heap s'.heap f 0 0 → EF w e b z sp g s'.heap a ((pre ++ [ql]) ++ [(f, 0, 0)]) k → R (.ok (.ret .none)) s') : codeAny (MM w) A (.call (.ref 454) ⟨[.ref a.x], []⟩) R s := by
  refine codeAny_aM r ?_
  obtain ⟨Bx, ⟨t, Bd⟩, ⟨nl, Bl⟩, Ba⟩ := id B
  have hql : ql ∈ pre ++ [ql] := List.mem_append_right _ (.head _)
  obtain ⟨Qx, ⟨tq, Qd⟩, ⟨tl, nq, Ql⟩⟩ := Ba ql hql
  rw [List.map_append, List.map_singleton] at Bl
  have N := own5 Bx Bd Bl Qx Qd
  have CX := cx.hid st N
  have X := CX.K
  obtain ⟨loose, mean, mg, mb, T⟩ := CX.T
  refine' enterM (K := frag.heap_1 w.params) (binds := [(Str.ofString "self", Value.ref a.x)]) X T (fun b o e => of_hideAll _ e) (Nat.le_of_eq (hideAll_size _ _)) (hid_news N) ?k6 ?k7 ?k8 ?k9 ?kB ?_ ?c2 ?c3 ?c4 ?c5
  walk_at "m:enter"
  intro L h₁ F N1 l1 l2 l3
  try dsimp only
  (try k_unmd)
  (try k_fold)
  walk_at "m:steps"
  · skip
    unfold Stopped
    (rename Fr _ _ _ _ => F2); (rename News _ _ _ _ => N2)
    have k2 := keep_all (fun q hq => (N q hq).at_) F2 N2 (fun q hq => hq)
    refine c_e_grow cx (fun b o e => k2 _ _ (st b o e)) (rm_deep (by decide) (by decide)) hS (B.kp k2) hlen ?_
    intro f s' af Bf Ef
    dsimp only
    walk_at "m:steps"
    refine hR2 f _ (by assumption) (af_tail k2 af id) (Bf.back k2) Ef
  · (rename Fr _ _ _ _ => F2); (rename News _ _ _ _ => N2)
    refine hR1 _ (by first | assumption | omega) (af_end (fun q hq => (N q hq).at_) F2 N2 (fun q hq => .inr hq) id)
end
local macro_rules | `(tactic| walk_at "m:last") => `(tactic| k_dflt (((with_reducible show wpAny _ _ (subscriptTail _ _ (Value.ref _) (Value.int _ _)) _ _ _); refine m_last (m_list (by k_asm) (by k_mem)) ?_)))
example : True ∧ True := by walk1 <;> trivial
section
local macro_rules | `(tactic| walk_at "m:flush") => `(tactic| trivial)
example : True ∧ True := by walk1 <;> trivial
end
section
theorem eb_d {w : World} {e b : Int} {sp l : Addr} {g h : Heap} {a : Addr} {k : Int} {n : Nat} {t0 t1 t2 t3 t4 t5 t6 t7 : Tok}
    (x : Own g h a (dictOf [en w.params "_blooms" t0 (.ref l), en w.params "_ExpandingBloomFilter__fpr" t1 (.int b t2), en w.params "_ExpandingBloomFilter__est_elements" t3 (.int e t4), en w.params "_added_elements" t5 (.int k t6), en w.params "_ExpandingBloomFilter__hash_func" t7 (.ref sp)] n)) :
    ∃ t, Own g h a (dictOf (ebEs w.params t e b sp l k) n) :=
  ⟨fun i => [t0, t1, t2, t3, t4, t5, t6, t7].getD i 0, x⟩
theorem fr_ch {h₀ : Heap} {L : Addr} {s s' : Shared} {m : Str → Option Value} {news : List (Addr × Obj)} {ch : List Addr} (F : Fr h₀ L s.heap m) (N : News h₀ L s.heap news) (af : Af ch s s') (hc : ∀ c ∈ ch, c ∈ news.map (·.1)) : Fr h₀ L s'.heap m :=
  ⟨F.ns.at' fun o e => af.keep _ _ e (fun hm => let ⟨q, hq, e⟩ := List.mem_map.mp (hc _ hm); (N q hq).2.1 e), fun b o e => af.keep _ _ (F.keep b o e) (fun hm => by
    obtain ⟨q, hq, rfl⟩ := List.mem_map.mp (hc _ hm)
    rw [(N q hq).2.2] at e; cases e), F.above⟩
theorem news_ch {h₀ : Heap} {L : Addr} {s s' : Shared} {news news' : List (Addr × Obj)} {ch : List Addr} (N : News h₀ L s.heap news) (af : Af ch s s') (sub : ∀ q ∈ news', q ∈ news ∧ q.1 ∉ ch) : News h₀ L s'.heap news' :=
  fun q hq => ⟨af.keep _ _ (N q (sub q hq).1).1 (sub q hq).2, (N q (sub q hq).1).2⟩
theorem news_put {h₀ h h' : Heap} {L : Addr} {news news' : List (Addr × Obj)} {a : Addr} {o o' : Obj} (N : News h₀ L h news) (hm : (a, o) ∈ news) (N' : News h₀ L h' news') (e : h'.get? a = some o') : News h₀ L h' ((a, o') :: news') := fun q hq => by
  rcases List.mem_cons.mp hq with h | hq
  · subst h; exact ⟨e, (N _ hm).2⟩
  · exact N' q hq
theorem own7 {g h : Heap} {a b c d e f i : Addr} {oa ob oc od oe of oi : Obj} (xa : Own g h a oa) (xb : Own g h b ob) (xc : Own g h c oc) (xd : Own g h d od) (xe : Own g h e oe) (xf : Own g h f of) (xi : Own g h i oi) : ∀ q ∈ [(a, oa), (b, ob), (c, oc), (d, od), (e, oe), (f, of), (i, oi)], Own g h q.1 q.2 := by
  intro q hq
  simp only [List.mem_cons, List.not_mem_nil, or_false] at hq
  rcases hq with rfl | rfl | rfl | rfl | rfl | rfl | rfl <;> assumption
theorem Own.off {g : Heap} {s s' : Shared} {a : Addr} {o : Obj} {ch : List Addr} (x : Own g s.heap a o) (af : Af ch s s') (h : ∀ c ∈ ch, @Ne Nat a c) : Own g s'.heap a o := ⟨af.keep _ _ x.at_ fun hm => h _ hm rfl, x.new⟩
theorem Li.off {g : Heap} {s s' : Shared} {a : Addr} {ns : List Int} {ch : List Addr} (x : Li g s.heap a ns) (af : Af ch s s') (h : ∀ c ∈ ch, @Ne Nat a c) : Li g s'.heap a ns := let ⟨vs, n, o, i⟩ := x.l; ⟨vs, n, o.off af h, i⟩
theorem all1 {P : Addr → Prop} {a : Addr} (h : P a) : ∀ c ∈ [a], P c := fun c hc => by rw [List.mem_singleton.mp hc]; exact h
theorem all2 {P : Addr → Prop} {a b : Addr} (h1 : P a) (h2 : P b) : ∀ c ∈ [a, b], P c := fun c hc => by
  simp only [List.mem_cons, List.not_mem_nil, or_false] at hc
  rcases hc with rfl | rfl <;> assumption
theorem BF.new' {w : World} {e b z : Int} {sp : Addr} {g h h' : Heap} {a : Fa} {m n : Int} (x : BF w e b z sp h h' a m n) (k : ∀ b, h.get? b = none → g.get? b = none) : BF w e b z sp g h' a m n :=
  ⟨⟨x.x.at_, k _ x.x.new⟩, let ⟨t, o⟩ := x.d; ⟨t, o.at_, k _ o.new⟩, let ⟨t, n, o⟩ := x.l; ⟨t, n, o.at_, k _ o.new⟩⟩
theorem all3 {P : Addr → Prop} {a b c : Addr} (h1 : P a) (h2 : P b) (h3 : P c) : ∀ x ∈ [a, b, c], P x := fun x hx => by
  simp only [List.mem_cons, List.not_mem_nil, or_false] at hx
  rcases hx with rfl | rfl | rfl <;> assumption
theorem BF.ne_new {w : World} {e b z e' b' z' : Int} {sp sp' : Addr} {g h h' : Heap} {a f : Fa} {m n m' n' : Int} (x : BF w e b z sp g h a m n) (y : BF w e' b' z' sp' h h' f m' n') : @Ne Nat a.l f.l ∧ @Ne Nat a.d f.d :=
by
  obtain ⟨_, _, l⟩ := x.l; obtain ⟨_, _, l'⟩ := y.l
  obtain ⟨_, d⟩ := x.d; obtain ⟨_, d'⟩ := y.d
  refine ⟨fun q => ?_, fun q => ?_⟩
  · have := l'.new; rw [← show a.l = f.l from q, l.at_] at this; cases this
  · have := d'.new; rw [← show a.d = f.d from q, d.at_] at this; cases this
theorem Af.tr {c d e : List Addr} {s s1 s2 s' : Shared} (x : Af c s s1) (y : Af d s2 s') (hc : ∀ a ∈ c, a ∈ e) (hd : ∀ a ∈ d, a ∈ e ∨ s.heap.get? a = none) (hh : s2.heap = s1.heap := by rfl) (ho : s2.os = s1.os := by rfl) (hg : s2.gens = s1.gens := by rfl) : Af e s s' :=
  ⟨fun b o h n => y.keep b o (by rw [hh]; exact x.keep b o h fun q => n (hc b q)) fun q => (hd b q).elim n (fun z => by rw [z] at h; cases h), y.os.trans (ho.trans x.os), fun g => y.gens (by rw [hg]; exact x.gens g)⟩
theorem map_snoc3 {pre : List (Fa × Int × Int)} {ql f : Fa × Int × Int} : ((pre ++ [ql]) ++ [f]).map (fun q => Value.ref q.1.x) = (pre.map (fun q => Value.ref q.1.x) ++ [Value.ref ql.1.x]) ++ [Value.ref f.1.x] := by simp
/-- the growing filter once its own dict is written anew -/
theorem EF.told {w : World} {e b z : Int} {sp : Addr} {g hh : Heap} {s s' : Shared} {a : Fa} {bs : List (Fa × Int × Int)} {k k' : Int} {t : Nat → Tok} {ch : List Addr} (B : EF w e b z sp g hh a bs k) (af : Af ch s s') (hch : ∀ c ∈ ch, c = a.d ∨ c = 419) (h4 : ∀ q ∈ bs, @Ne Nat q.1.x 419 ∧ @Ne Nat q.1.d 419 ∧ @Ne Nat q.1.l 419) (h5 : @Ne Nat a.x 419 ∧ @Ne Nat a.l 419)
    (h2 : s'.heap.get? a.d = some (dictOf (ebEs w.params t e b sp a.l k') 5)) (he : hh = s.heap := by rfl) : EF w e b z sp g s'.heap a bs k' := by
  subst he
  obtain ⟨n, Bl⟩ := B.l
  obtain ⟨t0, Bd⟩ := B.d
  refine EF.re B (B.x.off af fun c hc => ?_).at_ h2 (Bl.off af fun c hc => ?_).at_ fun q hq => (B.all q hq).off af fun c hc => ?_
  · rcases hch c hc with rfl | rfl
    · exact own_ne B.x Bd obj_xd
    · exact h5.1
  · rcases hch c hc with rfl | rfl
    · exact (own_ne Bd Bl obj_dl).symm
    · exact h5.2
  · rcases hch c hc with rfl | rfl
    · exact B.d_ne hq
    · exact h4 q hq
theorem EF.last {w : World} {e b z : Int} {sp : Addr} {g hh : Heap} {s s' : Shared} {a : Fa} {pre : List (Fa × Int × Int)} {ql : Fa × Int × Int} {m' c' k : Int} (B : EF w e b z sp g hh a (pre ++ [ql]) k) (af : Af [ql.1.l, ql.1.d] s s') (hnd : ∀ q ∈ pre, @Ne Nat q.1.l ql.1.l ∧ @Ne Nat q.1.d ql.1.d)
    (B' : BF w e b z sp g s'.heap ql.1 m' c') (he : hh = s.heap := by rfl) : EF w e b z sp g s'.heap a (pre ++ [(ql.1, m', c')]) k := by
  subst he
  obtain ⟨n, Bl⟩ := B.l
  obtain ⟨t0, Bd⟩ := B.d
  have hql : ql ∈ pre ++ [ql] := List.mem_append_right _ (.head _)
  obtain ⟨Qx, ⟨tq, Qd⟩, ⟨tl, nq, Ql⟩⟩ := B.all ql hql
  refine EF.re (t := t0) (n := n) B (B.x.off af (all2 (own_ne B.x Ql obj_xl) (own_ne B.x Qd obj_xd))).at_ (Bd.off af (all2 (own_ne Bd Ql obj_dl) (B.d_ne hql).2.1.symm)).at_ ?_ fun q hq => ?_
  · have z := (Bl.off af (all2 (B.l_ne hql).2.2.symm (own_ne Qd Bl obj_dl).symm)).at_
    rw [z]; simp
  · rcases List.mem_append.mp hq with hq | hq
    · have Q := B.all q (List.mem_append_left _ hq)
      have Q' := Q
      obtain ⟨Rx, ⟨tr, Rd⟩, ⟨ul, nr, Rl⟩⟩ := Q'
      exact Q.off af (all2 ⟨own_ne Rx Ql obj_xl, own_ne Rd Ql obj_dl, (hnd q hq).1⟩ ⟨own_ne Rx Qd obj_xd, (hnd q hq).2, (own_ne Qd Rl obj_dl).symm⟩)
    · rw [List.mem_singleton.mp hq]; exact B'
theorem bf_419 {w : World} {e b z : Int} {sp : Addr} {g h : Heap} {a : Fa} {m k : Int} {P : Addr} {ps : Array Value} (B : BF w e b z sp g h a m k) (ht : Own g h P (PySem.W.tabObj ps)) : @Ne Nat a.x P ∧ @Ne Nat a.d P ∧ @Ne Nat a.l P :=
  ⟨own_ne B.x ht nofun, let ⟨t, D⟩ := B.d; own_ne D ht nofun, let ⟨t, n, l⟩ := B.l; own_ne l ht nofun⟩
set_option maxHeartbeats 4000000 in
theorem c_e_add_alt {w : World} {g : Heap} {A : Around} {s : Shared} {R : Result → Shared → Prop} {e b z : Int} {sp : Addr} {a : Fa} {pre : List (Fa × Int × Int)} {ql : Fa × Int × Int} {k : Int} {xh : Addr} {ns : List Int} {fo : Bool} {ps : Array Value} (cx : Cx w g) (st : ∀ b o, g.get? b = some o → s.heap.get? b = some o)
    (r : Rm A 25 25) (hS : Sz e b z) (B : EF w e b z sp g s.heap a (pre ++ [ql]) k) (hlen : (pre ++ [ql]).length < 100) (hnd : ∀ q ∈ pre, @Ne Nat q.1.l ql.1.l ∧ @Ne Nat q.1.d ql.1.d)
    (H : Li g s.heap xh ns) (hn : (ns.length : Int) = z) (hx : ∀ q ∈ pre ++ [ql], xh ≠ q.1.l) (hxa : @Ne Nat xh a.l) (hc : CodeHd g 423 419) (ht : Own g s.heap 419 (PySem.W.tabObj ps)) (hps : TabOk 262 19 ps) (hg : AllBare s.gens)
    (hR0 : ∀ s' ps', fo = false → (pre ++ [ql]).any (fun q => chk b q.2.1 ns) = true → Af [a.d, 419] s s' → EF w e b z sp g s'.heap a (pre ++ [ql]) (k + 1) → TabOk 262 19 ps' → s'.heap.get? 419 = some (PySem.W.tabObj ps') → R (.ok (.ret .none)) s')
    (hR1 : ∀ s' ps', (fo = true ∨ (pre ++ [ql]).any (fun q => chk b q.2.1 ns) = false) → ql.2.2 < e → Af [a.d, 419, ql.1.l, ql.1.d] s s' → EF w e b z sp g s'.heap a (pre ++ [(ql.1, addm b ql.2.1 ns, ql.2.2 + 1)]) (k + 1) → TabOk 262 19 ps' → s'.heap.get? 419 = some (PySem.W.tabObj ps') → R (.ok (.ret .none)) s')
    (hR2 : ∀ f s' ps', (fo = true ∨ (pre ++ [ql]).any (fun q => chk b q.2.1 ns) = false) → e ≤ ql.2.2 → Af [a.d, 419, a.l] s s' → BF w e b z sp s.heap s'.heap f (addm b 0 ns) 1 → EF w e b z sp g s'.heap a ((pre ++ [ql]) ++ [(f, addm b 0 ns, 1)]) (k + 1) → TabOk 262 19 ps' → s'.heap.get? 419 = some (PySem.W.tabObj ps') → R (.ok (.ret .none)) s') :
    codeAny (MM w) A (.call (.ref 440) ⟨[.ref a.x, .ref xh, .bool fo], []⟩) R s := by
  refine codeAny_aM r ?_
  obtain ⟨Bx, ⟨t, Bd⟩, ⟨nl, Bl⟩, Ba⟩ := id B
  have hql : ql ∈ pre ++ [ql] := List.mem_append_right _ (.head _)
  obtain ⟨Qx, ⟨tq, Qd⟩, ⟨tl, nq, Ql⟩⟩ := Ba ql hql
  obtain ⟨vh, nh, Hl, Hi⟩ := id H
  rw [List.map_append, List.map_singleton] at Bl
  have N := own7 Bx Bd Bl Qx Qd Ql ht
  have a419 : @Ne Nat a.x 419 ∧ @Ne Nat a.l 419 := ⟨own_ne Bx ht nofun, own_ne Bl ht nofun⟩
  have b419 : ∀ q ∈ pre ++ [ql], @Ne Nat q.1.x 419 ∧ @Ne Nat q.1.d 419 ∧ @Ne Nat q.1.l 419 := fun q hq => bf_419 (Ba q hq) ht
  have ne1 := own_ne Bx Bd obj_xd
  have ne2 : @Ne Nat 419 a.d := own_ne ht Bd nofun
  have ne3 := (own_ne Bd Bl obj_dl).symm
  have ne4 := B.d_ne hql
  obtain ⟨ne41, ne42, ne43⟩ := ne4
  have hxd : @Ne Nat xh a.d := (own_ne Bd Hl obj_dl).symm
  have hx4 : @Ne Nat xh 419 := own_ne Hl ht nofun
  have CX := cx.hid st N
  have X := CX.K
  obtain ⟨loose, mean, mg, mb, T⟩ := CX.T
  cases fo
  · skip
    refine' enterM (K := frag.heap_1 w.params) (binds := [(Str.ofString "self", Value.ref a.x), (Str.ofString "hashes", Value.ref xh), (Str.ofString "force", Value.bool false)]) X T (fun b o e => of_hideAll _ e) (Nat.le_of_eq (hideAll_size _ _)) (hid_news N) ?k6 ?k7 ?k8 ?k9 ?kB ?_ ?c2 ?c3 ?c4 ?c5
    walk_at "m:enter"
    intro L h₁ F N1 l1 l2 l3
    try dsimp only
    (try k_unmd)
    (try k_fold)
    walk_at "m:steps"
    unfold Stopped
    (rename Fr _ _ _ _ => F2); (rename News _ _ _ _ => N2)
    rename_i h2
    have af2 := af_end (s := s) (ch := [a.d]) (gs := s.gens) (d := s.drawn) (t := 0) (fun q hq => (N q hq).at_) F2 N2 (by walk_at "m:chg") id
    obtain ⟨t2, D2⟩ := eb_d (own_news N2 (a := a.d) (by k_mem))
    have E2 := B.told af2 (all1 (.inl rfl)) b419 a419 D2.at_
    have H2 := H.off af2 (all1 hxd)
    have ht2 := ht.off af2 (all1 ne2)
    refine c_e_check_alt cx (fun b o e => af2.keep _ _ (st b o e) (fun q => by rw [List.mem_singleton.mp q, Bd.new] at e; cases e)) (rm_deep (by decide) (by decide)) hS E2 H2 hn hc ht2 hps hg ?_
    rintro bb s' hbb af ⟨ps', hps', ht'⟩
    have D3 := af.keep _ _ D2.at_ (fun q => (all1 (P := fun c => @Ne Nat a.d c) ne2.symm) _ q rfl)
    have F3 := fr_ch F2 N2 af (all1 (P := fun c => c ∈ List.map _ _) (List.mem_map_of_mem (f := Prod.fst) (a := ((419 : Addr), PySem.W.tabObj ps)) (by k_mem)))
    have Nx : News _ L s'.heap [(a.x, instObj 457 a.d), (a.l, PySem.W.listOf (pre.map (fun q => Value.ref q.1.x) ++ [Value.ref ql.1.x]).toArray nl), (ql.1.x, instObj 337 ql.1.d), (ql.1.d, dictOf (bfEs w.params tq e b z sp ql.1.l ql.2.2) 11), (ql.1.l, PySem.W.listOf [Value.int ql.2.1 tl].toArray nq)] := news_ch N2 af fun q hq => by
      obtain ⟨b1, b2, b3⟩ := b419 ql hql
      simp only [List.mem_cons, List.not_mem_nil, or_false] at hq
      rcases hq with rfl | rfl | rfl | rfl | rfl
      · exact ⟨by k_mem, fun q => a419.1 (List.mem_singleton.mp q)⟩
      · exact ⟨by k_mem, fun q => a419.2 (List.mem_singleton.mp q)⟩
      · exact ⟨by k_mem, fun q => b1 (List.mem_singleton.mp q)⟩
      · exact ⟨by k_mem, fun q => b2 (List.mem_singleton.mp q)⟩
      · exact ⟨by k_mem, fun q => b3 (List.mem_singleton.mp q)⟩
    have N3 := news_put N2 (a := a.d) (by k_mem) (news_put N2 (a := 419) (by k_mem) Nx ht') D3
    have af3 : Af [a.d, 419] s s' := af2.tr af (by simp) (by simp)
    have E3 := EF.told (t := t2) (k' := k + 1) E2 af (all1 (.inr rfl)) b419 a419 D3
    have hg3 := af.gens
    clear F2 N2 Nx D2 E2 H2 af2 ht2
    obtain ⟨h3, gs3, d3, t3, os3⟩ := s'
    have hos3 := af.os
    dsimp only at hos3 F3 N3 hg3 E3 af3 ht' D3
    subst hos3
    clear af
    dsimp only
    cases bb
    · walk_at "m:steps"
      unfold Stopped
      (rename Fr _ _ _ _ => F2); (rename News _ _ _ _ => N2)
      have af2' := af3
      have E2 := E3
      have D2 : Own g h3 a.d _ := ⟨D3, Bd.new⟩
      have gn : ∀ {b o}, g.get? b = some o → b ∉ [a.d, 419] := fun e q => by
        simp only [List.mem_cons, List.not_mem_nil, or_false] at q
        rcases q with rfl | rfl
        · rw [Bd.new] at e; cases e
        · rw [ht.new] at e; cases e
      have T2 := (N2 (419, PySem.W.tabObj ps') (by k_mem)).1
      refine c_e_growth cx (fun b o e => af2'.keep _ _ (st b o e) (gn e)) (rm_deep (by decide) (by decide)) hS E2 hlen ?_ ?_
      · intro s' hlt af
        have af3 := af2'.tr (e := [a.d, 419]) af (fun _ h => h) (fun _ h => absurd h List.not_mem_nil)
        have E3 := E2.kp (fun b o e => af.keep b o e (by simp))
        have T3 := af.keep _ _ T2 (by simp)
        have F3 := fr_af F2 af
        have N3 := news_af N2 af
        obtain ⟨hF3, gsF3, dF3, tF3, osF3⟩ := s'
        have hosF3 := af.os
        dsimp only at F3 N3 hosF3
        subst hosF3
        have hgF3 := af.gens
        dsimp only at hgF3
        clear F2 N2
        dsimp only
        walk_at "m:steps"
        unfold Stopped
        (rename Fr _ _ _ _ => F4); (rename News _ _ _ _ => N4)
        have H3 := H.off af3 (all2 hxd hx4)
        refine c_add_alt cx (fun b o e => af3.keep _ _ (st b o e) (gn e)) (rm_deep (by decide) (by decide)) hS (E3.all ql hql) H3 hn (hx ql hql) ?_
        intro s' af B5
        have af5 : Af [a.d, 419, ql.1.l, ql.1.d] s s' := af3.tr af (by simp) (by simp)
        have E5 := E3.last af hnd B5
        have T5 := af.keep _ _ T3 (fun q => (all2 (P := fun c => @Ne Nat 419 c) (b419 ql hql).2.2.symm (b419 ql hql).2.1.symm) _ q rfl)
        obtain ⟨h5, gs5, d5, t5, os5⟩ := s'
        dsimp only
        walk_at "m:steps"
        exact hR1 _ ps' (.inr hbb.symm) hlt af5 E5 hps' T5
      · intro f s' hge af Bf Ef
        have af3 : Af [a.d, 419, a.l] s s' := af2'.tr af (by simp) (by simp)
        have T3 := af.keep _ _ T2 (fun q => (all1 (P := fun c => @Ne Nat 419 c) a419.2.symm) _ q rfl)
        obtain ⟨Fx, ⟨tf, Fd⟩, ⟨ul, nf, Fl⟩⟩ := id Bf
        obtain ⟨n3, L3⟩ := Ef.l
        rw [map_snoc3] at L3
        have D3 := af.keep _ _ D2.at_ (fun q => (all1 (P := fun c => @Ne Nat a.d c) ne3.symm) _ q rfl)
        have F3 := fr_ch F2 N2 af (all1 (P := fun c => c ∈ List.map _ _) (List.mem_map_of_mem (f := Prod.fst) (a := (a.l, PySem.W.listOf (pre.map (fun q => Value.ref q.1.x) ++ [Value.ref ql.1.x]).toArray nl)) (by k_mem)))
        have Nx : News _ L s'.heap [(a.x, instObj 457 a.d)] := news_ch N2 af fun q hq => by
          rw [List.mem_singleton.mp hq]; exact ⟨by k_mem, fun q => (all1 (P := fun c => @Ne Nat a.x c) (own_ne Bx Bl obj_xl)) _ q rfl⟩
        have N3 := news_own F2 (news_own F2 (news_put N2 (a := a.d) (by k_mem) (news_put N2 (a := a.l) (by k_mem) Nx L3.at_) D3) Fd) Fx
        have hg3 := af.gens
        have bl := E2.all
        have g2 : ∀ b o, g.get? b = some o → h3.get? b = some o := fun b o e => af2'.keep _ _ (st b o e) (gn e)
        have old2 := af2'.kb.ne (all2 (P := fun c => h3.get? c ≠ none) (by rw [D2.at_]; exact nofun) (by rw [T2]; exact nofun))
        clear F2 N2 Nx
        obtain ⟨h3, gs3, d3, t3, os3⟩ := s'
        have hos3 := af.os
        dsimp only at hos3 F3 N3 hg3
        subst hos3
        dsimp only
        walk_at "m:steps"
        unfold Stopped
        (rename Fr _ _ _ _ => F4); (rename News _ _ _ _ => N4)
        have H3 := H.off af3 (all3 hxd hx4 hxa)
        refine c_add_alt cx (fun b o e => af3.keep _ _ (st b o e) (fun q => ?_)) (rm_deep (by decide) (by decide)) hS (Bf.back g2) H3 hn ?_ ?_
        · rcases List.mem_cons.mp q with rfl | q
          · exact gn e (.head _)
          · rcases List.mem_cons.mp q with rfl | q
            · exact gn e (.tail _ (.head _))
            · rw [List.mem_singleton.mp q, Bl.new] at e; cases e
        · intro q
          have := (H.off af2' (all2 hxd hx4)).l
          obtain ⟨_, _, o, _⟩ := this
          have := Fl.new; rw [← q, o.at_] at this; cases this
        · intro s' af B5
          have af5 : Af [a.d, 419, a.l] s s' := af3.tr af (fun _ h => h) (all2 (P := fun c => c ∈ [a.d, 419, a.l] ∨ s.heap.get? c = none) (.inr (old2 _ Fl.new)) (.inr (old2 _ Fd.new)))
          have E5 := Ef.last (ql := (f, 0, 0)) af (fun q hq => (bl q hq).ne_new Bf) B5
          have ff : @Ne Nat 419 f.l ∧ @Ne Nat 419 f.d := ⟨(fun q => by
            have := Fl.new; rw [← show 419 = f.l from q, T2] at this; cases this), (fun q => by
            have := Fd.new; rw [← show 419 = f.d from q, T2] at this; cases this)⟩
          have T5 := af.keep _ _ T3 (fun q => (all2 (P := fun c => @Ne Nat 419 c) ff.1 ff.2) _ q rfl)
          have Bn := B5.re (Bf.new' old2)
          obtain ⟨h5, gs5, d5, t5, os5⟩ := s'
          dsimp only
          walk_at "m:steps"
          exact hR2 f _ ps' (.inr hbb.symm) hge af5 Bn E5 hps' T5
    · walk_at "m:steps"
      (rename News _ _ _ _ => N9)
      exact hR0 _ ps' rfl hbb.symm ⟨af3.keep, af3.os, af3.gens⟩ E3 hps' ht'
  · skip
    refine' enterM (K := frag.heap_1 w.params) (binds := [(Str.ofString "self", Value.ref a.x), (Str.ofString "hashes", Value.ref xh), (Str.ofString "force", Value.bool true)]) X T (fun b o e => of_hideAll _ e) (Nat.le_of_eq (hideAll_size _ _)) (hid_news N) ?k6 ?k7 ?k8 ?k9 ?kB ?_ ?c2 ?c3 ?c4 ?c5
    walk_at "m:enter"
    intro L h₁ F N1 l1 l2 l3
    try dsimp only
    (try k_unmd)
    (try k_fold)
    walk_at "m:steps"
    unfold Stopped
    (rename Fr _ _ _ _ => F2); (rename News _ _ _ _ => N2)
    rename_i h2
    have af2 := af_end (s := s) (ch := [a.d]) (gs := s.gens) (d := s.drawn) (t := 0) (fun q hq => (N q hq).at_) F2 N2 (by walk_at "m:chg") id
    obtain ⟨t2, D2⟩ := eb_d (own_news N2 (a := a.d) (by k_mem))
    have E2 := B.told af2 (all1 (.inl rfl)) b419 a419 D2.at_
    have af2' : Af [a.d, 419] s _ := af2.mono (by simp)
    have gn : ∀ {b o}, g.get? b = some o → b ∉ [a.d, 419] := fun e q => by
      simp only [List.mem_cons, List.not_mem_nil, or_false] at q
      rcases q with rfl | rfl
      · rw [Bd.new] at e; cases e
      · rw [ht.new] at e; cases e
    have T2 := (N2 (419, PySem.W.tabObj ps) (by k_mem)).1
    refine c_e_growth cx (fun b o e => af2'.keep _ _ (st b o e) (gn e)) (rm_deep (by decide) (by decide)) hS E2 hlen ?_ ?_
    · intro s' hlt af
      have af3 := af2'.tr (e := [a.d, 419]) af (fun _ h => h) (fun _ h => absurd h List.not_mem_nil)
      have E3 := E2.kp (fun b o e => af.keep b o e (by simp))
      have T3 := af.keep _ _ T2 (by simp)
      have F3 := fr_af F2 af
      have N3 := news_af N2 af
      obtain ⟨hF3, gsF3, dF3, tF3, osF3⟩ := s'
      have hosF3 := af.os
      dsimp only at F3 N3 hosF3
      subst hosF3
      have hgF3 := af.gens
      dsimp only at hgF3
      clear F2 N2
      dsimp only
      walk_at "m:steps"
      unfold Stopped
      (rename Fr _ _ _ _ => F4); (rename News _ _ _ _ => N4)
      have H3 := H.off af3 (all2 hxd hx4)
      refine c_add_alt cx (fun b o e => af3.keep _ _ (st b o e) (gn e)) (rm_deep (by decide) (by decide)) hS (E3.all ql hql) H3 hn (hx ql hql) ?_
      intro s' af B5
      have af5 : Af [a.d, 419, ql.1.l, ql.1.d] s s' := af3.tr af (by simp) (by simp)
      have E5 := E3.last af hnd B5
      have T5 := af.keep _ _ T3 (fun q => (all2 (P := fun c => @Ne Nat 419 c) (b419 ql hql).2.2.symm (b419 ql hql).2.1.symm) _ q rfl)
      obtain ⟨h5, gs5, d5, t5, os5⟩ := s'
      dsimp only
      walk_at "m:steps"
      exact hR1 _ ps (.inl rfl) hlt af5 E5 hps T5
    · intro f s' hge af Bf Ef
      have af3 : Af [a.d, 419, a.l] s s' := af2'.tr af (by simp) (by simp)
      have T3 := af.keep _ _ T2 (fun q => (all1 (P := fun c => @Ne Nat 419 c) a419.2.symm) _ q rfl)
      obtain ⟨Fx, ⟨tf, Fd⟩, ⟨ul, nf, Fl⟩⟩ := id Bf
      obtain ⟨n3, L3⟩ := Ef.l
      rw [map_snoc3] at L3
      have D3 := af.keep _ _ D2.at_ (fun q => (all1 (P := fun c => @Ne Nat a.d c) ne3.symm) _ q rfl)
      have F3 := fr_ch F2 N2 af (all1 (P := fun c => c ∈ List.map _ _) (List.mem_map_of_mem (f := Prod.fst) (a := (a.l, PySem.W.listOf (pre.map (fun q => Value.ref q.1.x) ++ [Value.ref ql.1.x]).toArray nl)) (by k_mem)))
      have Nx : News _ L s'.heap [(a.x, instObj 457 a.d)] := news_ch N2 af fun q hq => by
        rw [List.mem_singleton.mp hq]; exact ⟨by k_mem, fun q => (all1 (P := fun c => @Ne Nat a.x c) (own_ne Bx Bl obj_xl)) _ q rfl⟩
      have N3 := news_own F2 (news_own F2 (news_put N2 (a := a.d) (by k_mem) (news_put N2 (a := a.l) (by k_mem) Nx L3.at_) D3) Fd) Fx
      have hg3 := af.gens
      have bl := E2.all
      have g2 : ∀ b o, g.get? b = some o → h2.get? b = some o := fun b o e => af2'.keep _ _ (st b o e) (gn e)
      have old2 := af2'.kb.ne (all2 (P := fun c => h2.get? c ≠ none) (by rw [D2.at_]; exact nofun) (by rw [T2]; exact nofun))
      clear F2 N2 Nx
      obtain ⟨h3, gs3, d3, t3, os3⟩ := s'
      have hos3 := af.os
      dsimp only at hos3 F3 N3 hg3
      subst hos3
      dsimp only
      walk_at "m:steps"
      unfold Stopped
      (rename Fr _ _ _ _ => F4); (rename News _ _ _ _ => N4)
      have H3 := H.off af3 (all3 hxd hx4 hxa)
      refine c_add_alt cx (fun b o e => af3.keep _ _ (st b o e) (fun q => ?_)) (rm_deep (by decide) (by decide)) hS (Bf.back g2) H3 hn ?_ ?_
      · rcases List.mem_cons.mp q with rfl | q
        · exact gn e (.head _)
        · rcases List.mem_cons.mp q with rfl | q
          · exact gn e (.tail _ (.head _))
          · rw [List.mem_singleton.mp q, Bl.new] at e; cases e
      · intro q
        have := (H.off af2' (all2 hxd hx4)).l
        obtain ⟨_, _, o, _⟩ := this
        have := Fl.new; rw [← q, o.at_] at this; cases this
      · intro s' af B5
        have af5 : Af [a.d, 419, a.l] s s' := af3.tr af (fun _ h => h) (all2 (P := fun c => c ∈ [a.d, 419, a.l] ∨ s.heap.get? c = none) (.inr (old2 _ Fl.new)) (.inr (old2 _ Fd.new)))
        have E5 := Ef.last (ql := (f, 0, 0)) af (fun q hq => (bl q hq).ne_new Bf) B5
        have ff : @Ne Nat 419 f.l ∧ @Ne Nat 419 f.d := ⟨(fun q => by
          have := Fl.new; rw [← show 419 = f.l from q, T2] at this; cases this), (fun q => by
          have := Fd.new; rw [← show 419 = f.d from q, T2] at this; cases this)⟩
        have T5 := af.keep _ _ T3 (fun q => (all2 (P := fun c => @Ne Nat 419 c) ff.1 ff.2) _ q rfl)
        have Bn := B5.re (Bf.new' old2)
        obtain ⟨h5, gs5, d5, t5, os5⟩ := s'
        dsimp only
        walk_at "m:steps"
        exact hR2 f _ ps (.inl rfl) hge af5 Bn E5 hps T5
end
example : True ∧ True := by walk1 <;> trivial
section
local macro_rules | `(tactic| walk_at "m:flush") => `(tactic| trivial)
example : True ∧ True := by walk1 <;> trivial
end
section
set_option maxHeartbeats 4000000 in
theorem c_e_add {w : World} {g : Heap} {A : Around} {s : Shared} {R : Result → Shared → Prop} {e b z far : Int} {sp : Addr} {a : Fa} {q0 : Fa × Int × Int} {pre : List (Fa × Int × Int)} {ql : Fa × Int × Int} {bs : List (Fa × Int × Int)} {k : Int} {key : Str} {tk : Tok} {fo : Bool} {ps : Array Value} (cx : Cx w g) (st : ∀ b o, g.get? b = some o → s.heap.get? b = some o)
    (r : Rm A 20 20) (hS : Sz e b z) (hbs : bs = pre ++ [ql]) (B : EF w e b z sp g s.heap a bs k) (hlen : bs.length < 100) (hnd : ∀ q ∈ pre, @Ne Nat q.1.l ql.1.l ∧ @Ne Nat q.1.d ql.1.d)
    (S : Sp w g s.heap sp far) (hk : key.length ≤ sizeLine) (hkz : (key.length : Int) = z) (hc : CodeHd g 423 419) (ht : Own g s.heap 419 (PySem.W.tabObj ps)) (hps : TabOk 262 19 ps) (hg : AllBare s.gens)
    (hR0 : ∀ s' ps', fo = false → bs.any (fun q => chk b q.2.1 (spell far z key)) = true → Af [a.d, 419] s s' → EF w e b z sp g s'.heap a bs (k + 1) → TabOk 262 19 ps' → s'.heap.get? 419 = some (PySem.W.tabObj ps') → R (.ok (.ret .none)) s')
    (hR1 : ∀ s' ps', (fo = true ∨ bs.any (fun q => chk b q.2.1 (spell far z key)) = false) → ql.2.2 < e → Af [a.d, 419, ql.1.l, ql.1.d] s s' → EF w e b z sp g s'.heap a (pre ++ [(ql.1, addm b ql.2.1 (spell far z key), ql.2.2 + 1)]) (k + 1) → TabOk 262 19 ps' → s'.heap.get? 419 = some (PySem.W.tabObj ps') → R (.ok (.ret .none)) s')
    (hR2 : ∀ f s' ps', (fo = true ∨ bs.any (fun q => chk b q.2.1 (spell far z key)) = false) → e ≤ ql.2.2 → Af [a.d, 419, a.l] s s' → BF w e b z sp s.heap s'.heap f (addm b 0 (spell far z key)) 1 → EF w e b z sp g s'.heap a ((pre ++ [ql]) ++ [(f, addm b 0 (spell far z key), 1)]) (k + 1) → TabOk 262 19 ps' → s'.heap.get? 419 = some (PySem.W.tabObj ps') → R (.ok (.ret .none)) s') :
    codeAny (MM w) A (.call (.ref 432) ⟨[.ref a.x, .str key tk, .bool fo], []⟩) R s := by
  obtain ⟨q0, rest, hq0⟩ : ∃ q0 rest, bs = q0 :: rest := by cases bs with
    | nil => cases pre <;> cases hbs
    | cons q r => exact ⟨q, r, rfl⟩
  refine codeAny_aM r ?_
  obtain ⟨Bx, ⟨t, Bd⟩, ⟨nl, Bl⟩, Ba⟩ := id B
  have hm0 : q0 ∈ bs := by rw [hq0]; exact .head _
  obtain ⟨Qx, ⟨tq, Qd⟩, ⟨tl, nq, Ql⟩⟩ := Ba q0 hm0
  rw [show bs.map (fun q => Value.ref q.1.x) = Value.ref q0.1.x :: rest.map (fun q => Value.ref q.1.x) from by rw [hq0]; rfl] at Bl
  have N := own5 Bx Bd Bl Qx Qd
  have CX := cx.hid st N
  have X := CX.K
  obtain ⟨loose, mean, mg, mb, T⟩ := CX.T
  refine' enterM (K := frag.heap_1 w.params) (binds := [(Str.ofString "self", Value.ref a.x), (Str.ofString "key", Value.str key tk), (Str.ofString "force", Value.bool fo)]) X T (fun b o e => of_hideAll _ e) (Nat.le_of_eq (hideAll_size _ _)) (hid_news N) ?k6 ?k7 ?k8 ?k9 ?kB ?_ ?c2 ?c3 ?c4 ?c5
  walk_at "m:enter"
  intro L h₁ F N1 l1 l2 l3
  try dsimp only
  (try k_unmd)
  (try k_fold)
  walk_at "m:steps"
  unfold Stopped
  (rename Fr _ _ _ _ => F2); (rename News _ _ _ _ => N2)
  have k2 := keep_all (fun q hq => (N q hq).at_) F2 N2 (fun q hq => hq)
  refine c_hashes cx (fun b o e => k2 _ _ (st b o e)) (rm_deep (by decide) (by decide)) hS ((Ba q0 hm0).kp fun b o _ => k2 b o) (S.kp k2) hk ?_
  intro l s' af Hl
  obtain ⟨vs3, n3, Ol, Il⟩ := Hl.l
  have F3 := fr_af F2 af
  have N3 := news_af N2 af
  obtain ⟨hF3, gsF3, dF3, tF3, osF3⟩ := s'
  have hosF3 := af.os
  dsimp only at F3 N3 hosF3
  subst hosF3
  have hgF3 := af.gens
  dsimp only at hgF3
  have N4 := news_own F2 N3 Ol
  clear N3
  clear F2 N2
  dsimp only
  walk_at "m:steps"
  unfold Stopped
  (rename Fr _ _ _ _ => F5); (rename News _ _ _ _ => N5)
  have k5 := keep_all (fun q hq => (N q hq).at_) F5 N5 (fun q hq => List.mem_cons_of_mem _ hq)
  subst hbs
  have hgn : ∀ {b}, h₁.get? b = none → g.get? b = none := fun e => by
    cases q : g.get? _ with
    | none => rfl
    | some o => rw [k2 _ _ (st _ _ q)] at e; cases e
  have lnew : ∀ {b o}, s.heap.get? b = some o → @Ne Nat l b := fun e q => by
    have := Ol.new; rw [show l = _ from q, k2 _ _ e] at this; cases this
  refine c_e_add_alt cx (fun b o e => k5 _ _ (st b o e)) (rm_deep (by decide) (by decide)) hS (B.kp k5) hlen hnd ((Li.news N5 (by k_mem) Il).back (g_hid st N)) (spell_len hkz) (fun q hq => let ⟨_, _, o⟩ := (Ba q hq).l; lnew o.at_) (lnew Bl.at_) hc (ht.kp k5) hps (hgF3 hg) ?_ ?_ ?_
  · intro s' ps' h1 h2 af E5 hps' ht'
    obtain ⟨h5, gs5, d5, t5, os5⟩ := s'
    dsimp only
    walk_at "m:steps"
    exact hR0 _ ps' h1 h2 (af_tail k5 af hgF3) E5 hps' ht'
  · intro s' ps' h1 h2 af E5 hps' ht'
    obtain ⟨h5, gs5, d5, t5, os5⟩ := s'
    dsimp only
    walk_at "m:steps"
    exact hR1 _ ps' h1 h2 (af_tail k5 af hgF3) E5 hps' ht'
  · intro f s' ps' h1 h2 af Bf E5 hps' ht'
    obtain ⟨h5, gs5, d5, t5, os5⟩ := s'
    dsimp only
    walk_at "m:steps"
    exact hR2 f _ ps' h1 h2 (af_tail k5 af hgF3) (Bf.back k5) E5 hps' ht'
end
example : True ∧ True := by walk1 <;> trivial
section
local macro_rules | `(tactic| walk_at "m:flush") => `(tactic| trivial)
example : True ∧ True := by walk1 <;> trivial
end
section
set_option maxHeartbeats 4000000 in
theorem c_push {w : World} {g : Heap} {A : Around} {s : Shared} {R : Result → Shared → Prop} {e b z : Int} {sp : Addr} {a : Fa} {bs : List (Fa × Int × Int)} {k : Int} (cx : Cx w g) (st : ∀ b o, g.get? b = some o → s.heap.get? b = some o)
    (r : Rm A 30 30) (hS : Sz e b z) (B : EF w e b z sp g s.heap a bs k) (hlen : bs.length < 100)
    (hR : ∀ f s', Af [a.l] s s' → BF w e b z sp s.heap s'.heap f 0 0 → EF w e b z sp g s'.heap a (bs ++ [(f, 0, 0)]) k → R (.ok (.ret .none)) s') : codeAny (MM w) A (.call (.ref 410) ⟨[.ref a.x], []⟩) R s := by
  refine codeAny_aM r ?_
  obtain ⟨Bx, ⟨t, Bd⟩, ⟨nl, Bl⟩, Ba⟩ := id B
  have N := own2 Bx Bd
  have CX := cx.hid st N
  have X := CX.K
  obtain ⟨loose, mean, mg, mb, T⟩ := CX.T
  refine' enterM (K := frag.heap_1 w.params) (binds := [(Str.ofString "self", Value.ref a.x)]) X T (fun b o e => of_hideAll _ e) (Nat.le_of_eq (hideAll_size _ _)) (hid_news N) ?k6 ?k7 ?k8 ?k9 ?kB ?_ ?c2 ?c3 ?c4 ?c5
  walk_at "m:enter"
  intro L h₁ F N1 l1 l2 l3
  try dsimp only
  (try k_unmd)
  (try k_fold)
  walk_at "m:steps"
  unfold Stopped
  (rename Fr _ _ _ _ => F2); (rename News _ _ _ _ => N2)
  have k2 := keep_all (fun q hq => (N q hq).at_) F2 N2 (fun q hq => hq)
  refine c_e_grow cx (fun b o e => k2 _ _ (st b o e)) (rm_deep (by decide) (by decide)) hS (B.kp k2) hlen ?_
  intro f s' af Bf Ef
  obtain ⟨h5, gs5, d5, t5, os5⟩ := s'
  dsimp only
  walk_at "m:steps"
  exact hR f _ (af_tail k2 af id) (Bf.back k2) Ef
set_option maxHeartbeats 4000000 in
theorem c_e_new {w : World} {g : Heap} {A : Around} {s : Shared} {R : Result → Shared → Prop} {e b z : Int} {sp : Addr} {te tb : Tok} (cx : Cx w g) (st : ∀ b o, g.get? b = some o → s.heap.get? b = some o)
    (r : Rm A 20 20) (hS : Sz e b z)
    (hR : ∀ a f s', Af [] s s' → EF w e b z sp s.heap s'.heap a [(f, 0, 0)] 0 → R (.ok (.ret (.ref a.x))) s') : codeAny (MM w) A (.call (.ref 457) ⟨[.int e te, .int b tb, .ref sp], []⟩) R s := by
  have cs := cx.keeps st
  refine make_M cs.K (fI := 356) (by k_is) (by k_is) (by k_is) ?_
  intro x dx h0 kh0 Ox Od hxd
  refine codeAny_aM (rm_under r (d' := 25) (u' := 25) (Nat.le_of_ble_eq_true rfl) (Nat.le_of_ble_eq_true rfl)) ?_
  generalize hs1 : ({ s with heap := h0 } : Shared) = s1
  have hos1 : s1.os = s.os := by rw [← hs1]
  have hgs1 : s1.gens = s.gens := by rw [← hs1]
  have hh1 : h0 = s1.heap := by rw [← hs1]
  clear hs1
  subst hh1
  have N := own2 Ox Od
  have CX := Cx.hid cs kh0 N
  have X := CX.K
  obtain ⟨loose, mean, mg, mb, T⟩ := CX.T
  refine' enterM (K := frag.heap_1 w.params) (binds := [(Str.ofString "self", Value.ref x), (Str.ofString "est_elements", Value.int e te), (Str.ofString "false_positive_rate", Value.int b tb), (Str.ofString "hash_function", Value.ref sp)]) X T (fun b o e => of_hideAll _ e) (Nat.le_of_eq (hideAll_size _ _)) (hid_news N) ?k6 ?k7 ?k8 ?k9 ?kB ?_ ?c2 ?c3 ?c4 ?c5
  walk_at "m:enter"
  intro L h₁ F N1 l1 l2 l3
  try dsimp only
  (try k_unmd)
  (try k_fold)
  walk_at "m:steps"
  unfold Stopped
  (rename Fr _ _ _ _ => F2); (rename News _ _ _ _ => N2)
  rename_i h2
  have a9 := af_end (s := s1) (ch := [dx]) (t := 0) (gs := s1.gens) (d := s1.drawn) (fun q hq => (N q hq).at_) F2 N2 (by walk_at "m:chg") id
  have kall : ∀ b o, s.heap.get? b = some o → h2.get? b = some o := fun b o e => a9.keep b o (kh0 b o e) (fun q => by rw [List.mem_singleton.mp q, Od.new] at e; cases e)
  obtain ⟨t2, D2⟩ := eb_d (g := s.heap) ⟨News.get N2 (a := dx) (by k_mem), Od.new⟩
  have E2 : EF w e b z sp s.heap h2 ⟨x, dx, _⟩ [] 0 := ⟨⟨News.get N2 (by k_mem), Ox.new⟩, ⟨t2, D2⟩, ⟨0, ⟨News.get N2 (List.Mem.head _), new_hid2 kh0 N (News.fresh N2 (List.Mem.head _))⟩⟩, nofun⟩
  refine c_e_grow (a := ⟨x, dx, _⟩) cs (fun b o e => kall b o e) (rm_deep (by decide) (by decide)) hS E2 (by decide) ?_
  intro f s' af Bf Ef
  have af9 : Af [] s s' := ⟨fun b o e _ => af.keep b o (kall b o e) (fun q => by
    have := E2.l.choose_spec.new
    rw [← List.mem_singleton.mp q, e] at this; cases this), af.os.trans hos1, fun gb => af.gens (by rw [show Shared.gens _ = s1.gens from rfl, hgs1]; exact gb)⟩
  obtain ⟨h5, gs5, d5, t5, os5⟩ := s'
  dsimp only
  walk_at "m:steps"
  exact ⟨rfl, hR _ f _ af9 Ef⟩
end
example : True ∧ True := by walk1 <;> trivial
section
local macro_rules | `(tactic| walk_at "m:flush") => `(tactic| trivial)
example : True ∧ True := by walk1 <;> trivial
end
section
theorem if_m {m : Str → Option Value} {x y : Str} {v v' : Option Value} (n : x ≠ y) (h : m x = v') : (if x = y then v else m x) = v' := (if_neg n).trans h
theorem bits64 {a : Int} (h : a.natAbs < 2 ^ 64) : Builtin.Int.intBits a ≤ 64 := by
  unfold Builtin.Int.intBits
  split
  · exact Nat.zero_le _
  · rename_i hn
    have : a.natAbs ≠ 0 := fun q => hn (by rw [Int.natAbs_eq_zero.mp q]; rfl)
    exact (Nat.log2_lt this).mpr h
theorem fdivT {w : World} {A : Around} {E : Value → Shared → Prop} {s : Shared} {Q : Value → Shared → Prop} {a b : Int} {t u : Tok} (hb : 0 < b) (h2 : b < 2 ^ 100) (h : Q (.int (a.fdiv b) s.toks) { s with toks := s.toks + 1 }) : wpAny (MM w) A (binaryOp .FloorDiv (.int a t) (.int b u)) Q E s :=
  floordiv_int (Int.ne_of_gt hb) h (.inl (PyProof.noPylong_of_log2 (by
    have h3 : b.natAbs < 2 ^ 100 := by omega
    exact Nat.lt_trans ((Nat.log2_lt (by omega)).mpr h3) (by decide))))
theorem z_pos {z : Int} (h : z = 1 ∨ z = 2) : 0 < z * 2 ^ Int.toNat 64 := by rcases h with rfl | rfl <;> decide
theorem z_big {z : Int} (h : z = 1 ∨ z = 2) : z * 2 ^ Int.toNat 64 < 2 ^ 100 := by rcases h with rfl | rfl <;> decide
def HasI (m : Str → Option Value) (x : String) (v : Int) : Prop := ∃ t, m (Str.ofString x) = some (.int v t)
theorem pw_ok {b rr pw : Int} (h : Int.fdiv ((b - rr) * 2 ^ Int.toNat 64) (b + rr) = pw) (h1 : 1 ≤ rr) (h2 : rr ≤ b) (h3 : b < 2 * rr) : 0 ≤ pw ∧ pw < 2 ^ 64 := by
  rw [Int.fdiv_eq_ediv_of_nonneg _ (by omega)] at h
  subst h
  refine ⟨Int.ediv_nonneg (Int.mul_nonneg (by omega) (by decide)) (by omega), Int.ediv_lt_of_lt_mul (by omega) ?_⟩
  show (b - rr) * 18446744073709551616 < 18446744073709551616 * (b + rr)
  omega
theorem sq_ok {pw sq : Int} (h : Int.fdiv (pw * pw) (2 ^ Int.toNat 64) = sq) (h1 : 0 ≤ pw) (h2 : pw < 2 ^ 64) : 0 ≤ sq ∧ sq < 2 ^ 64 := by
  rw [Int.fdiv_eq_ediv_of_nonneg _ (by decide)] at h
  subst h
  refine ⟨Int.ediv_nonneg (Int.mul_nonneg h1 h1) (by decide), Int.ediv_lt_of_lt_mul (by decide) ?_⟩
  exact Int.lt_of_le_of_lt (Int.mul_le_mul_of_nonneg_left (Int.le_of_lt h2) h1) (Int.mul_lt_mul_of_pos_right h2 (by decide))
theorem next_ok {pp sq pn : Int} (h : Int.fdiv (pp * sq) (2 ^ Int.toNat 64) = pn) (h1 : 0 < pp) (h2 : 0 ≤ sq) (h3 : sq < 2 ^ 64) : 0 ≤ pn ∧ pn < pp := by
  rw [Int.fdiv_eq_ediv_of_nonneg _ (by decide)] at h
  subst h
  exact ⟨Int.ediv_nonneg (Int.mul_nonneg (Int.le_of_lt h1) h2) (by decide), Int.ediv_lt_of_lt_mul (by decide) (Int.mul_lt_mul_of_pos_left h3 h1)⟩
local macro_rules | `(tactic| walk_at "exec While") => `(tactic| (with_reducible refine stop_here ?_))
local macro_rules | `(tactic| walk_at "m:has") => `(tactic| first | assumption | exact if_pos rfl | (refine (if_neg (by decide)).trans ?_; walk_at "m:has"))
local macro_rules | `(tactic| walk_at "binaryOp Mult int int") => `(tactic| first | (refine mul_int ?_ (IntMulOk.of_left (by decide))) | (refine mul_int ?_ (IntMulOk.of_left (by walk_at "m:bits"))) | (refine mul_int ?_ (IntMulOk.of_right (by walk_at "m:bits"))))
local macro_rules | `(tactic| walk_at "m:bits") => `(tactic| (refine bits64 ?_; omega))
local macro_rules | `(tactic| walk_at "binaryOp FloorDiv int int") => `(tactic| first | (refine fdivT (by omega) (by omega) ?_) | (refine fdivT (z_pos (by assumption)) (z_big (by assumption)) ?_))
local macro_rules | `(tactic| walk_at "binaryOp LShift int int") => `(tactic| (refine lshift_int_small (by decide) (by decide) (by omega) ?_))
local macro_rules | `(tactic| walk_at "binaryOp RShift int int") => `(tactic| (refine rshift_int (by decide) ?_))
set_option maxHeartbeats 4000000 in
theorem c_estimate {w : World} {g : Heap} {A : Around} {s : Shared} {R : Result → Shared → Prop} {sb b z : Int} {t1 t2 t3 : Tok} (cx : Cx w g) (st : ∀ b o, g.get? b = some o → s.heap.get? b = some o)
    (r : Rm A 100 100) (h0 : 0 ≤ sb) (h1 : sb < b) (hb : b ≤ 7) (hz : z = 1 ∨ z = 2)
    (hR : ∀ v t s', Af [] s s' → R (.ok (.ret (.int v t))) s') : codeAny (MM w) A (.call (.ref 115) ⟨[.int sb t1, .int b t2, .int z t3], []⟩) R s := by
  refine codeAny_aM r ?_
  have CX := cx.keeps st
  have X := CX.K
  obtain ⟨loose, mean, mg, mb, T⟩ := CX.T
  refine' enterM (K := frag.heap_1 w.params) (binds := [(Str.ofString "set_bits", Value.int sb t1), (Str.ofString "number_bits", Value.int b t2), (Str.ofString "number_hashes", Value.int z t3)]) (news := []) X T (fun _ _ e => e) (Nat.le_refl _) (fun q hq => absurd hq List.not_mem_nil) ?k6 ?k7 ?k8 ?k9 ?kB ?_ ?c2 ?c3 ?c4 ?c5
  walk_at "m:enter"
  intro L h₁ F N1 l1 l2 l3
  try dsimp only
  (try k_unmd)
  (try k_fold)
  walk_at "m:steps"
  (rename Fr _ _ _ _ => F2)
  unfold Stopped
  refine While_inv (news := []) (n₀ := (8 - (b - sb)).toNat) (fun n m ns => ns = [] ∧ ∃ rr lg, HasI m "number_bits" b ∧ HasI m "number_hashes" z ∧ HasI m "whole" b ∧ HasI m "rest" rr ∧ HasI m "log" lg ∧ HasI m "n" 1 ∧ 1 ≤ rr ∧ rr ≤ b ∧ n = (8 - rr).toNat) F2 (News.nil) ⟨rfl, b - sb, 0, ⟨_, rfl⟩, ⟨_, rfl⟩, ⟨_, rfl⟩, ⟨_, rfl⟩, ⟨_, rfl⟩, ⟨_, rfl⟩, by omega, by omega, rfl⟩ ?_
  rintro n m₁ news₁ h₂ tk₁ F₂ N₂ ⟨rfl, rr, lg, ⟨u1, e1⟩, ⟨u2, e2⟩, ⟨u3, e3⟩, ⟨u4, e4⟩, ⟨u5, e5⟩, ⟨u6, e6⟩, hr1, hr2, hn⟩
  walk_at "m:steps"
  · (rename Fr _ _ _ _ => F9)
    refine WhileStep.intro (n' := (8 - 2 * rr).toNat) F9 News.nil (by omega) ⟨rfl, 2 * rr, lg + 12786308645202655660, ?_, ?_, ?_, ?_, ?_, ?_, ?_, ?_, rfl⟩
    rotate_left 6
    · omega
    · omega
    all_goals (exact ⟨_, by walk_at "m:has"⟩)
  · unfold Stopped
    (rename Fr _ _ _ _ => F9)
    have hlt : b < 2 * rr := by omega
    generalize hpw : Int.fdiv ((b - rr) * 2 ^ Int.toNat 64) (b + rr) = pw
    generalize hsq : Int.fdiv (pw * pw) (2 ^ Int.toNat 64) = sq
    have hp0 : 0 ≤ pw ∧ pw < 2 ^ 64 := pw_ok hpw (by omega) (by omega) (by omega)
    have hs0 : 0 ≤ sq ∧ sq < 2 ^ 64 := sq_ok hsq hp0.1 hp0.2
    rw [hpw, hsq] at F9
    refine While_inv (news := []) (n₀ := pw.toNat) (fun n m ns => ns = [] ∧ ∃ pp lg nn, HasI m "number_bits" b ∧ HasI m "number_hashes" z ∧ HasI m "power" pp ∧ HasI m "square" sq ∧ HasI m "log" lg ∧ HasI m "n" nn ∧ 0 ≤ pp ∧ pp < 2 ^ 64 ∧ 1 ≤ nn ∧ nn + 2 * pp ≤ 2 ^ 66 ∧ n = pp.toNat) F9 (News.nil) ⟨rfl, pw, lg, 1, ?_, ?_, ?_, ?_, ?_, ?_, hp0.1, hp0.2, by decide, by omega, rfl⟩ ?_
    rotate_left 6
    rotate_right 1
    all_goals (try (exact ⟨_, by walk_at "m:has"⟩))
    rintro n m₃ news₃ h₃ tk₃ F₃ N₃ ⟨rfl, pp, lg3, nn, ⟨v1, d1⟩, ⟨v2, d2⟩, ⟨v3, d3⟩, ⟨v4, d4⟩, ⟨v5, d5⟩, ⟨v6, d6⟩, hq1, hq2, hq3, hq4, hn3⟩
    walk_at "m:steps"
    · (rename Fr _ _ _ _ => F8)
      generalize hpn : Int.fdiv (pp * sq) (2 ^ Int.toNat 64) = pn at F8
      have hd := next_ok hpn (by omega) hs0.1 hs0.2
      refine WhileStep.intro (n' := pn.toNat) F8 News.nil (by omega) ⟨rfl, pn, lg3 + Int.fdiv (2 * pp) nn, nn + 2, ?_, ?_, ?_, ?_, ?_, ?_, hd.1, by omega, by omega, by omega, rfl⟩
      all_goals (exact ⟨_, by walk_at "m:has"⟩)
    · (rename Fr _ _ _ _ => F8)
      dsimp only
      refine hR _ _ _ ⟨fun b o e _ => F8.keep b o e, rfl, id⟩
end
example : True ∧ True := by walk1 <;> trivial
section
local macro_rules | `(tactic| walk_at "m:flush") => `(tactic| trivial)
example : True ∧ True := by walk1 <;> trivial
end
section
set_option maxHeartbeats 4000000 in
theorem c_est_elems {w : World} {g : Heap} {A : Around} {s : Shared} {R : Result → Shared → Prop} {e b z : Int} {sp : Addr} {a : Fa} {m k : Int} (cx : Cx w g) (st : ∀ b o, g.get? b = some o → s.heap.get? b = some o)
    (r : Rm A 90 90) (hS : Sz e b z) (B : BF w e b z sp g s.heap a m k) (hm : 0 ≤ m ∧ m < 128)
    (hR : ∀ v t s', Af [] s s' → R (.ok (.ret (.int v t))) s') : codeAny (MM w) A (.call (.ref 282) ⟨[.ref a.x], []⟩) R s := by
  refine codeAny_aM r ?_
  obtain ⟨Bx, ⟨t, Bd⟩, ⟨tm, nm, Bl⟩⟩ := B
  have hb := hS.b
  have N := own3 Bx Bd Bl
  have CX := cx.hid st N
  have X := CX.K
  obtain ⟨loose, mean, mg, mb, T⟩ := CX.T
  refine' enterM (K := frag.heap_1 w.params) (binds := [(Str.ofString "self", Value.ref a.x)]) X T (fun b o e => of_hideAll _ e) (Nat.le_of_eq (hideAll_size _ _)) (hid_news N) ?k6 ?k7 ?k8 ?k9 ?kB ?_ ?c2 ?c3 ?c4 ?c5
  walk_at "m:enter"
  intro L h₁ F N1 l1 l2 l3
  try dsimp only
  (try k_unmd)
  (try k_fold)
  walk_at "m:steps"
  unfold Stopped
  walk_at "m:inline"
  walk_at "m:steps"
  · dsimp only
    (rename Fr _ _ _ _ => F9); (rename News _ _ _ _ => N9)
    exact hR _ _ _ (af_end (fun q hq => (N q hq).at_) F9 N9 (fun q hq => .inr hq) id)
  · skip
    unfold Stopped
    (rename Fr _ _ _ _ => F9); (rename News _ _ _ _ => N9)
    have k9 := keep_all (fun q hq => (N q hq).at_) F9 N9 (fun q hq => hq)
    refine c_estimate cx (fun b o e => k9 _ _ (st b o e)) (rm_deep (by decide) (by decide)) (by rw [Int.zero_add]; exact Int.natCast_nonneg _) (by omega) hb.2 hS.z ?_
    intro v t' s' af
    obtain ⟨h5, gs5, d5, t5, os5⟩ := s'
    dsimp only
    walk_at "m:steps"
    exact hR _ _ _ (af_tail k9 af id)
end
example : True ∧ True := by walk1 <;> trivial
section
local macro_rules | `(tactic| walk_at "m:flush") => `(tactic| trivial)
example : True ∧ True := by walk1 <;> trivial
end
section
set_option maxHeartbeats 4000000 in
theorem c_similar {w : World} {g : Heap} {A : Around} {s : Shared} {R : Result → Shared → Prop} {e b z far : Int} {sp : Addr} {a c : Fa} {m k m' k' : Int} (cx : Cx w g) (st : ∀ b o, g.get? b = some o → s.heap.get? b = some o)
    (r : Rm A 60 60) (hS : Sz e b z) (B : BF w e b z sp g s.heap a m k) (B' : BF w e b z sp g s.heap c m' k') (S : Sp w g s.heap sp far)
    (hR : ∀ s', Af [] s s' → R (.ok (.ret (.bool true))) s') : codeAny (MM w) A (.call (.ref 334) ⟨[.ref a.x, .ref c.x], []⟩) R s := by
  refine codeAny_aM r ?_
  obtain ⟨Bx, ⟨t, Bd⟩, ⟨tm, nm, Bl⟩⟩ := id B
  obtain ⟨Cx', ⟨t', Cd⟩, ⟨tm', nm', Cl⟩⟩ := id B'
  have N := own4 Bx Bd Cx' Cd
  have CX := cx.hid st N
  have X := CX.K
  obtain ⟨loose, mean, mg, mb, T⟩ := CX.T
  refine' enterM (K := frag.heap_1 w.params) (binds := [(Str.ofString "self", Value.ref a.x), (Str.ofString "second", Value.ref c.x)]) X T (fun b o e => of_hideAll _ e) (Nat.le_of_eq (hideAll_size _ _)) (hid_news N) ?k6 ?k7 ?k8 ?k9 ?kB ?_ ?c2 ?c3 ?c4 ?c5
  walk_at "m:enter"
  intro L h₁ F N1 l1 l2 l3
  try dsimp only
  (try k_unmd)
  (try k_fold)
  walk_at "m:steps"
  unfold Stopped
  (rename Fr _ _ _ _ => F2); (rename News _ _ _ _ => N2)
  have k2 := keep_all (fun q hq => (N q hq).at_) F2 N2 (fun q hq => hq)
  refine c_hashes cx (fun b o e => k2 _ _ (st b o e)) (rm_deep (by decide) (by decide)) hS (B.kp fun b o _ => k2 b o) (S.kp k2) (by decide) ?_
  intro l s' af Hl
  obtain ⟨vs3, n3, Ol, Il⟩ := Hl.l
  have F3 := fr_af F2 af
  have N3 := news_af N2 af
  obtain ⟨hF3, gsF3, dF3, tF3, osF3⟩ := s'
  have hosF3 := af.os
  dsimp only at F3 N3 hosF3
  subst hosF3
  have hgF3 := af.gens
  dsimp only at hgF3
  have N4 := news_own F2 N3 Ol
  clear N3
  clear F2 N2
  dsimp only
  walk_at "m:steps"
  unfold Stopped
  (rename Fr _ _ _ _ => F5); (rename News _ _ _ _ => N5)
  have k5 := keep_all (fun q hq => (N q hq).at_) F5 N5 (fun q hq => List.mem_cons_of_mem _ hq)
  refine c_hashes cx (fun b o e => k5 _ _ (st b o e)) (rm_deep (by decide) (by decide)) hS (B'.kp fun b o _ => k5 b o) (S.kp k5) (by decide) ?_
  intro l' s' af Hl'
  obtain ⟨vs4, n4, Ol', Il'⟩ := Hl'.l
  have F6 := fr_af F5 af
  have N6 := news_af N5 af
  obtain ⟨hF6, gsF6, dF6, tF6, osF6⟩ := s'
  have hosF6 := af.os
  dsimp only at F6 N6 hosF6
  subst hosF6
  have hgF6 := af.gens
  dsimp only at hgF6
  have N7 := news_own F5 N6 Ol'
  clear N6
  clear F5 N5
  dsimp only
  walk_at "m:steps"
  · exact absurd rfl (by assumption)
  · exact absurd rfl (by assumption)
  · dsimp only
    (rename Fr _ _ _ _ => F9); (rename News _ _ _ _ => N9)
    exact hR _ (af_end (fun q hq => (N q hq).at_) F9 N9 (fun q hq => .inr (List.mem_cons_of_mem _ (List.mem_cons_of_mem _ hq))) fun x => hgF6 (hgF3 x))
end
example : True ∧ True := by walk1 <;> trivial
section
local macro_rules | `(tactic| walk_at "m:flush") => `(tactic| trivial)
example : True ∧ True := by walk1 <;> trivial
end
section
theorem none_back {g h : Heap} {b : Addr} (k : ∀ b o, g.get? b = some o → h.get? b = some o) (e : h.get? b = none) : g.get? b = none := by
  cases q : g.get? b with
  | none => rfl
  | some o => rw [k _ _ q] at e; cases e
theorem sub3 {α : Type} {q a b c : α} {l : List α} (h : q ∈ l) : q ∈ a :: b :: c :: l := .tail _ (.tail _ (.tail _ h))
theorem and_small {a b : Int} (ha : 0 ≤ a ∧ a < 128) (hb : 0 ≤ b ∧ b < 128) : 0 ≤ Builtin.bitAnd a b ∧ Builtin.bitAnd a b < 128 := by
  obtain ⟨a', rfl⟩ := Int.eq_ofNat_of_zero_le ha.1
  obtain ⟨b', rfl⟩ := Int.eq_ofNat_of_zero_le hb.1
  show 0 ≤ ((a' &&& b' : Nat) : Int) ∧ ((a' &&& b' : Nat) : Int) < 128
  have := Nat.and_le_left (n := a') (m := b')
  omega
set_option maxHeartbeats 4000000 in
theorem c_inter {w : World} {g : Heap} {A : Around} {s : Shared} {R : Result → Shared → Prop} {e b z far : Int} {sp : Addr} {a c : Fa} {m k m' k' : Int} (cx : Cx w g) (st : ∀ b o, g.get? b = some o → s.heap.get? b = some o)
    (r : Rm A 40 40) (hS : Sz e b z) (B : BF w e b z sp g s.heap a m k) (B' : BF w e b z sp g s.heap c m' k') (S : Sp w g s.heap sp far) (hm : 0 ≤ m ∧ m < 128) (hm' : 0 ≤ m' ∧ m' < 128)
    (hR : ∀ f s' j, Af [] s s' → BF w e b z sp s.heap s'.heap f (Builtin.bitAnd m m') j → R (.ok (.ret (.ref f.x))) s') : codeAny (MM w) A (.call (.ref 289) ⟨[.ref a.x, .ref c.x], []⟩) R s := by
  refine codeAny_aM r ?_
  obtain ⟨Bx, ⟨t, Bd⟩, ⟨tm, nm, Bl⟩⟩ := id B
  obtain ⟨Cx', ⟨t', Cd⟩, ⟨tm', nm', Cl⟩⟩ := id B'
  have N := own6' Bx Bd Bl Cx' Cd Cl
  have CX := cx.hid st N
  have X := CX.K
  obtain ⟨loose, mean, mg, mb, T⟩ := CX.T
  refine' enterM (K := frag.heap_1 w.params) (binds := [(Str.ofString "self", Value.ref a.x), (Str.ofString "second", Value.ref c.x)]) X T (fun b o e => of_hideAll _ e) (Nat.le_of_eq (hideAll_size _ _)) (hid_news N) ?k6 ?k7 ?k8 ?k9 ?kB ?_ ?c2 ?c3 ?c4 ?c5
  walk_at "m:enter"
  intro L h₁ F N1 l1 l2 l3
  try dsimp only
  (try k_unmd)
  (try k_fold)
  walk_at "m:steps"
  unfold Stopped
  walk_at "m:inline"
  walk_at "m:steps"
  unfold Stopped
  (rename Fr _ _ _ _ => F2); (rename News _ _ _ _ => N2)
  have k2 := keep_all (fun q hq => (N q hq).at_) F2 N2 (fun q hq => hq)
  refine c_similar cx (fun b o e => k2 _ _ (st b o e)) (rm_deep (by decide) (by decide)) hS (B.kp fun b o _ => k2 b o) (B'.kp fun b o _ => k2 b o) (S.kp k2) ?_
  intro s' af
  have F3 := fr_af F2 af
  have N3 := news_af N2 af
  obtain ⟨hF3, gsF3, dF3, tF3, osF3⟩ := s'
  have hosF3 := af.os
  dsimp only at F3 N3 hosF3
  subst hosF3
  have hgF3 := af.gens
  dsimp only at hgF3
  clear F2 N2
  dsimp only
  walk_at "m:steps"
  unfold Stopped
  (rename Fr _ _ _ _ => F4); (rename News _ _ _ _ => N4)
  have k4 := keep_all (fun q hq => (N q hq).at_) F4 N4 (fun q hq => hq)
  refine c_new cx (fun b o e => k4 _ _ (st b o e)) (rm_deep (by decide) (by decide)) hS ?_
  intro f s' af Bf
  obtain ⟨Fx, ⟨tf, Fd⟩, ⟨ul, nf, Fl⟩⟩ := id Bf
  have nx := none_back k4 Fx.new
  have nd := none_back k4 Fd.new
  have nl := none_back k4 Fl.new
  have q1 := ne_new N4 (d := a.x) (by k_mem) Fl
  have q2 := ne_new N4 (d := a.d) (by k_mem) Fl
  have q3 := ne_new N4 (d := a.l) (by k_mem) Fl
  have q4 := ne_new N4 (d := c.x) (by k_mem) Fl
  have q5 := ne_new N4 (d := c.d) (by k_mem) Fl
  have q6 := ne_new N4 (d := c.l) (by k_mem) Fl
  have p1 := ne_new N4 (d := a.x) (by k_mem) Fd
  have p2 := ne_new N4 (d := a.d) (by k_mem) Fd
  have p3 := ne_new N4 (d := a.l) (by k_mem) Fd
  have p4 := ne_new N4 (d := c.x) (by k_mem) Fd
  have p5 := ne_new N4 (d := c.d) (by k_mem) Fd
  have p6 := ne_new N4 (d := c.l) (by k_mem) Fd
  have fxl := own_ne Fx Fl obj_xl
  have fxd := own_ne Fx Fd obj_xd
  have fdl := own_ne Fd Fl obj_dl
  have fld := fdl.symm
  have F5 := fr_af F4 af
  have N5 := news_af N4 af
  obtain ⟨hF5, gsF5, dF5, tF5, osF5⟩ := s'
  have hosF5 := af.os
  dsimp only at F5 N5 hosF5
  subst hosF5
  have hgF5 := af.gens
  dsimp only at hgF5
  have N6 := news_own F4 (news_own F4 (news_own F4 N5 Fl) Fd) Fx
  clear N5
  clear F4 N4
  dsimp only
  walk_at "m:steps"
  unfold Stopped
  walk_at "m:inline"
  walk_at "m:steps"
  unfold Stopped
  walk_at "m:inline"
  walk_at "m:steps"
  unfold Stopped
  (rename Fr _ _ _ _ => F9); (rename News _ _ _ _ => N9)
  refine c_est_elems (a := f) (m := Builtin.bitAnd m m') CX F9.keep (rm_deep (by decide) (by decide)) hS (BF.news N9 (by k_mem) (by k_mem) (by k_mem)) (and_small hm hm') ?_
  intro v tv s' af
  have F10 := fr_af F9 af
  have N10 := news_af N9 af
  obtain ⟨hF10, gsF10, dF10, tF10, osF10⟩ := s'
  have hosF10 := af.os
  dsimp only at F10 N10 hosF10
  subst hosF10
  have hgF10 := af.gens
  dsimp only at hgF10
  clear F9 N9
  dsimp only
  walk_at "m:steps"
  dsimp only
  (rename Fr _ _ _ _ => F99); (rename News _ _ _ _ => N99)
  exact hR f _ v (af_end (fun q hq => (N q hq).at_) F99 N99 (fun q hq => .inr (sub3 hq)) fun x => hgF10 (hgF5 (hgF3 x))) ⟨⟨News.get N99 (by k_mem), nx⟩, bf_d (n := 11) ⟨News.get N99 (a := f.d) (by k_mem), nd⟩, bf_l ⟨News.get N99 (a := f.l) (by k_mem), nl⟩ rfl⟩
end
example : True ∧ True := by walk1 <;> trivial
section
local macro_rules | `(tactic| walk_at "m:flush") => `(tactic| trivial)
example : True ∧ True := by walk1 <;> trivial
end
section
theorem rm_deep3 {d u d' u' : Nat} {env env' env'' : Env} (h1 : d + 3 ≤ d') (h2 : u + 9 ≤ u') : Rm ((((aM d u).deeper env).deeper env').deeper env'') d' u' := ⟨rfl, show d + 300 + 1 + 1 + 1 ≤ d' + 300 by omega, h2⟩
/-- entering a def of the written part that closes over __class__ -/
theorem enterMS {w : World} {A : Around} {s : Shared} {R : Result → Shared → Prop} {K : Frag} {p : Program} {loose : List Str} {mean : ExcName → Option Value} {mg mb : Str → Option Value} {h₀ : Heap} {news : List (Addr × Obj)}
    {name qual : Str} {params : Arguments} {body : List Stmt} {scope : Scope} {dV kV doc pm cdv ct oc : Value} {an od : Option Addr} {osl : Array (Option Value)} {f cc : Addr} {args : Args} {binds : List (Str × Value)} {prog : Program}
    (X : K.In h₀) (T : Top p loose mean mg mb h₀) (st : ∀ b o, h₀.get? b = some o → s.heap.get? b = some o) (hz : h₀.objs.size ≤ s.heap.objs.size)
    (N : ∀ q ∈ news, s.heap.get? q.1 = some q.2 ∧ h₀.get? q.1 = none)
    (ho : K.lookup f = some ⟨oc, od, .func (ksFn name qual params body scope dV kV doc pm an cdv ct cc), osl⟩) (hcd : codeIn K cdv qual = true) (hroom : A.depth < recursionLimit)
    (hbind : BindsTo s (ksFn name qual params body scope dV kV doc pm an cdv ct cc) args binds) (hloc : ∀ y ∈ binds, scope.names.lookup y.1 = some .local)
    (h : ∀ L' h₁, Fr h₀ L' h₁ (fun y => binds.reverse.lookup y) → News h₀ L' h₁ news → (∀ q ∈ news, q.1 < L') → s.heap.objs.size ≤ L' → (∀ b o, s.heap.get? b = some o → h₁.get? b = some o) →
      _root_.PySem.wpAt (model prog w) (A.deeper (ksEnv qual scope L' f cdv cc)) (.func body (ksEnv qual scope L' f cdv cc)) (execs body (ksEnv qual scope L' f cdv cc))
        (fun fl s' => R (.ok (.ret (match fl with | .ret v => v | _ => .none))) s') (fun _ _ => False)
        { s with heap := h₁, toks := s.toks + binds.length })
    (hco : scope.isCoroutine = false) (hgen : scope.isGenerator = false) (hk : scope.kind = .function)
    (hcell : ∀ x ∈ scope.names, x.2 ≠ .cell) : codeAny (model prog w) A (.call (.ref f) args) R s := by
  refine ks_codeAny_call_defAt (fd := ksFn name qual params body scope dV kV doc pm an cdv ct cc) (body := body) (binds := binds) hroom ((X.keeps st) _ _ ho) rfl (T.nolimit.keeps st) (codeRec_of (X.keeps st) hcd) rfl hbind hcell hloc (fun h₁ hns hk₁ => ?_) hco hgen hk
  exact ks_wpAt_mono (h s.heap.objs.size h₁ ⟨hns, fun b o e => hk₁ b o (st b o e), hz⟩ (fun q hq => ⟨hk₁ _ _ (N q hq).1, Nat.ne_of_lt (Heap.lt_size (N q hq).1), (N q hq).2⟩) (fun q hq => Heap.lt_size (N q hq).1) (Nat.le_refl _) hk₁) (fun _ _ y => y) fun _ _ y => False.elim y
local macro_rules | `(tactic| walk_at "wpAt func") => `(tactic| first
  | (ks_step "execs cons"; k_dflt (refine ks_wpAt_execs_cons ?_))
  | (ks_step "exec Expr"; k_dflt (refine ks_wpAt_Expr_any ?_))
  | (ks_step "eval Call"; k_dflt (refine ks_wpAt_MethodCall ?_))
  | (ks_step "attributeBase Call"; k_dflt (refine ks_node (by k_asm) (by k_asm) (by k_asm) (by k_asm) (by k_is) (by rfl) (by rfl) (by k_inst) (by k_is) (by rfl) (by first | rfl | decide +kernel) (by k_is) (by k_is) (by k_is) (by k_is) (by decide) (by rfl) (by rfl) (by rfl) (by rfl) (by decide +kernel) (by first | boot_by_name | rfl | kernel_rfl) ?_; intro so' h' F' N' l1; (try k_lt l1)))
  | (dsimp only; walk_at "wpAt func"))
local macro_rules | `(tactic| walk_at "getMethod ref") => `(tactic| (k_dflt (refine' ks_method ?k1 ?k2 ?k3 ?k4 ?k5 ?k6 ?k7 ?k8 ?k9 ?_; (case k1 => k_asm); (case k2 => k_asm); (case k3 => k_asm); (case k4 => k_mem); (case k5 => k_inst); (case k6 => k_is); (case k7 => ks_is); (case k8 => k_is); (case k9 => decide); intro q' h' F' N' l1; (try k_lt l1))))
/-- a counting filter -/
structure CB (w : World) (e b z : Int) (sp : Addr) (g h : Heap) (a : Fa) (cs : List Int) (k : Int) : Prop where
  x : Own g h a.x (instObj 560 a.d)
  d : ∃ t, Own g h a.d (dictOf (cbEs w.params t e b z sp a.l k) 12)
  l : Li g h a.l cs
  len : (cs.length : Int) = b
theorem cb_d {w : World} {e b z : Int} {sp l : Addr} {g h : Heap} {a : Addr} {k : Int} {n : Nat} {t0 t1 t2 t3 t4 t5 t6 t7 t8 t9 t10 t11 t12 t13 t14 t15 t16 t17 t18 t19 : Tok}
    (x : Own g h a (dictOf [en w.params "_filepath" t0 .none, en w.params "_on_disk" t1 (.bool false), en w.params "_type" t2 (.str (Str.ofString "counting") t3), en w.params "_typecode" t4 (.str (Str.ofString "I") t5), en w.params "_bloom_length" t6 (.int b t7),
      en w.params "_est_elements" t8 (.int e t9), en w.params "_els_added" t10 (.int k t11), en w.params "_number_hashes" t12 (.int z t13), en w.params "_num_bits" t14 (.int b t15), en w.params "_fpr" t16 (.int b t17),
      en w.params "_hash_func" t18 (.ref sp), en w.params "_bloom" t19 (.ref l)] n)) : ∃ t, Own g h a (dictOf (cbEs w.params t e b z sp l k) n) :=
  ⟨fun i => [t0, t1, t2, t3, t4, t5, t6, t7, t8, t9, t10, t11, t12, t13, t14, t15, t16, t17, t18, t19].getD i 0, x⟩
theorem ints_rep {u : Tok} : ∀ {n : Nat}, IntsAre (List.replicate n [Value.int 0 u]).flatten (List.replicate n 0)
  | 0 => .nil
  | n + 1 => by
    rw [List.replicate_succ, List.flatten_cons, List.replicate_succ]
    exact .cons _ _ ints_rep
set_option maxHeartbeats 4000000 in
theorem c_c_new {w : World} {g : Heap} {A : Around} {s : Shared} {R : Result → Shared → Prop} {e b z : Int} {sp : Addr} {te tb : Tok} (cx : Cx w g) (st : ∀ b o, g.get? b = some o → s.heap.get? b = some o)
    (r : Rm A 40 40) (hS : Sz e b z)
    (hR : ∀ a s', Af [] s s' → CB w e b z sp s.heap s'.heap a (List.replicate b.toNat 0) 0 → R (.ok (.ret (.ref a.x))) s') : codeAny (MM w) A (.call (.ref 560) ⟨[.int e te, .int b tb], [(Str.ofString "hash_function", .ref sp)]⟩) R s := by
  have cs := cx.keeps st
  refine make_M (K := frag.heap_1 w.params) (fI := 485) cs.K (by k_is) (by k_is) (by k_is) ?_
  intro x dx h0 kh0 Ox Od hxd
  refine codeAny_aM (rm_under r (d' := 50) (u' := 50) (Nat.le_of_ble_eq_true rfl) (Nat.le_of_ble_eq_true rfl)) ?_
  obtain ⟨s1, hs1⟩ : ∃ s1 : Shared, s1 = { s with heap := h0 } := ⟨_, rfl⟩
  rw [← hs1]
  have hos1 : s1.os = s.os := by rw [hs1]
  have hgs1 : s1.gens = s.gens := by rw [hs1]
  have hh1 : h0 = s1.heap := by rw [hs1]
  clear hs1
  subst hh1
  have N := own2 Ox Od
  have CX := Cx.hid cs kh0 N
  have X := CX.K
  obtain ⟨loose, mean, mg, mb, T⟩ := CX.T
  have hb := hS.b
  have he := hS.e
  refine' enterMS (K := frag.heap_1 w.params) (binds := [(Str.ofString "self", Value.ref x), (Str.ofString "est_elements", Value.int e te), (Str.ofString "false_positive_rate", Value.int b tb), (Str.ofString "filepath", Value.none), (Str.ofString "hex_string", Value.none), (Str.ofString "hash_function", Value.ref sp)]) X T (fun b o e => of_hideAll _ e) (Nat.le_of_eq (hideAll_size _ _)) (hid_news N) ?k6 ?k7 ?k8 ?k9 ?kB ?_ ?c2 ?c3 ?c4 ?c5
  walk_at "m:enter"
  intro L h₁ F N1 l1 l2 l3
  try dsimp only
  (try k_unmd)
  (try k_fold)
  walk_at "m:steps"
  unfold Stopped
  (rename Fr _ _ _ _ => F2); (rename News _ _ _ _ => N2)
  refine method_call (News.get N2 (List.Mem.head _)) ?_
  walk_at "m:inline"
  walk_at "m:steps"
  unfold Stopped
  walk_at "m:inline"
  walk_at "m:steps"
  unfold Stopped
  (rename Fr _ _ _ _ => F3); (rename News _ _ _ _ => N3)
  refine method_call (News.get N3 (List.Mem.head _)) ?_
  (rename Frag.In _ _ => X9); (rename Top _ _ _ _ _ _ => T9)
  refine c_params (Cx.mk X9 ⟨_, _, _, _, T9⟩) (fun b o e => F3.keep b o e) (rm_deep3 (by decide) (by decide)) hS ?_
  intro t s' t1 t2 t3 n af Ot
  have F4 := fr_af F3 af
  have N4 := news_af N3 af
  obtain ⟨hF4, gsF4, dF4, tF4, osF4⟩ := s'
  have hosF4 := af.os
  dsimp only at F4 N4 hosF4
  subst hosF4
  have hgF4 := af.gens
  dsimp only at hgF4
  have N5 := news_own F3 N4 Ot
  clear N4
  have n1 := ne_new N3 (d := x) (by k_mem) Ot
  have n2 := ne_new N3 (d := dx) (by k_mem) Ot
  clear F3 N3
  dsimp only
  walk_at "m:steps"
  unfold Stopped
  walk_at "m:inline"
  walk_at "m:steps"
  (rename Fr _ _ _ _ => F9); (rename News _ _ _ _ => N9)
  have a9 := af_end (s := s1) (ch := [dx]) (t := 0) (gs := gsF4) (d := dF4) (fun q hq => (N q hq).at_) F9 N9 (by walk_at "m:chg") hgF4
  refine hR ⟨x, dx, _⟩ _ ⟨fun b o e _ => a9.keep b o (kh0 b o e) (fun q => by rw [List.mem_singleton.mp q, Od.new] at e; cases e), hos1, fun gb => a9.gens (by rw [hgs1]; exact gb)⟩ ⟨⟨News.get N9 (by k_mem), Ox.new⟩, cb_d (n := 12) ⟨News.get N9 (by k_mem), Od.new⟩, ⟨_, _, ⟨News.get N9 (List.Mem.head _), new_hid2 kh0 N (News.fresh N9 (List.Mem.head _))⟩, ints_rep⟩, ?_⟩
  rw [List.length_replicate]
  omega
end
example : True ∧ True := by walk1 <;> trivial
section
local macro_rules | `(tactic| walk_at "m:flush") => `(tactic| trivial)
example : True ∧ True := by walk1 <;> trivial
end
section
local macro_rules | `(tactic| walk_at "call builtin:min") => `(tactic| (with_reducible refine stop_here ?_))
local macro_rules | `(tactic| walk_at "eval GeneratorExp") => `(tactic| (with_reducible refine stop_here ?_))
local macro_rules | `(tactic| walk_at "m:itemI") => `(tactic| ((with_reducible show wpAny _ _ (subscriptTail _ _ (Value.ref _) (Value.int _ _)) _ _ _); (refine item_list_intsR (m_list (by k_asm) (by k_mem)) (by assumption) (by omega) (by omega) (by omega) ?_ (by exact rfl)); intro t'))
local macro_rules | `(tactic| walk_at "subscriptTail Attribute Name BinOp ref int") => `(tactic| walk_at "m:itemI")
set_option maxHeartbeats 4000000 in
theorem c_numbits {w : World} {g : Heap} {A : Around} {s : Shared} {R : Result → Shared → Prop} {e b z : Int} {sp : Addr} {a : Fa} {cs : List Int} {k : Int} (cx : Cx w g) (st : ∀ b o, g.get? b = some o → s.heap.get? b = some o)
    (r : Rm A 90 90) (B : CB w e b z sp g s.heap a cs k)
    (hR : ∀ t s', Keeps s s' → R (.ok (.ret (.int b t))) s') : codeAny (MM w) A (.call (.ref 182) ⟨[.ref a.x], []⟩) R s := by
  refine codeAny_aM r ?_
  obtain ⟨Bx, ⟨t, Bd⟩, _, _⟩ := B
  have N := own2 Bx Bd
  have CX := cx.hid st N
  have X := CX.K
  obtain ⟨loose, mean, mg, mb, T⟩ := CX.T
  refine' enterM (K := frag.heap_1 w.params) (binds := [(Str.ofString "self", Value.ref a.x)]) X T (fun b o e => of_hideAll _ e) (Nat.le_of_eq (hideAll_size _ _)) (hid_news N) ?k6 ?k7 ?k8 ?k9 ?kB ?_ ?c2 ?c3 ?c4 ?c5
  walk_at "m:enter"
  intro L h₁ F N1 l1 l2 l3
  try dsimp only
  (try k_unmd)
  (try k_fold)
  walk_at "m:steps"
  dsimp only
  (rename Fr _ _ _ _ => F9); (rename News _ _ _ _ => N9)
  exact hR _ _ (keeps_of (af_end (fun q hq => (N q hq).at_) F9 N9 (fun q hq => .inr hq) id))
local macro_rules | `(tactic| walk_at "getAttr ref true") => `(tactic| k_dflt (((with_reducible show wpAny _ _ (getAttr _ (PySem.Str.ofString "number_bits") _) _ _ _); (refine' get_prop ?k1 ?k2 ?k3 ?k4 ?k5 ?k6 ?k7 ?k8 ?k9 ?_; (case k1 => k_asm); (case k2 => k_asm); (case k3 => k_inst); (case k4 => k_is); (case k5 => k_is); (case k6 => k_is); (case k7 => k_is); (case k8 => k_is); (case k9 => k_is); k_whole; (with_reducible refine stop_here ?_)))))
structure Stp (P : Prop) : Prop where
  p : P
def cnt (b : Int) (cs : List Int) (x : Int) : Int := cs.getD (Int.fmod x b).toNat 0
theorem cnt_eq {b k x : Int} {cs : List Int} {u : Tok} (h : k = Int.fmod x b) : Value.int (cs.getD k.toNat 0) u = Value.int (cnt b cs x) u := by unfold cnt; rw [← h]
def IsMin (v : Int) (l : List Int) : Prop := v ∈ l ∧ ∀ x ∈ l, v ≤ x
set_option maxHeartbeats 4000000 in
theorem c_c_check_alt {w : World} {g : Heap} {A : Around} {s : Shared} {R : Result → Shared → Prop} {e b z : Int} {sp : Addr} {a : Fa} {cs : List Int} {k : Int} {xh : Addr} {ns : List Int} {ps : Array Value} (cx : Cx w g) (st : ∀ b o, g.get? b = some o → s.heap.get? b = some o)
    (r : Rm A 60 60) (hS : Sz e b z) (B : CB w e b z sp g s.heap a cs k) (H : Li g s.heap xh ns) (hn : (ns.length : Int) = z) (hc : CodeHd g 519 515) (ht : Own g s.heap 515 (PySem.W.tabObj ps)) (hps : TabOk 324 19 ps) (hg : AllBare s.gens)
    (hR : ∀ v t s', IsMin v (ns.map (cnt b cs)) → Af [515] s s' → (∃ ps', TabOk 324 19 ps' ∧ s'.heap.get? 515 = some (PySem.W.tabObj ps')) → R (.ok (.ret (.int v t))) s') : codeAny (MM w) A (.call (.ref 520) ⟨[.ref a.x, .ref xh], []⟩) R s := by
  refine codeAny_aM r ?_
  obtain ⟨Bx, ⟨t, Bd⟩, ⟨vc, nl, Bl, Bi⟩, hlen⟩ := B
  obtain ⟨vs, nv, Hl, Hi⟩ := H
  have hb := hS.b
  have N := own5 Bx Bd Bl Hl ht
  have CX := cx.hid st N
  have X := CX.K
  obtain ⟨loose, mean, mg, mb, T⟩ := CX.T
  refine' enterMC (K := frag.heap_1 w.params) (binds := [(Str.ofString "self", Value.ref a.x), (Str.ofString "hashes", Value.ref xh)]) X T (fun b o e => of_hideAll _ e) (Nat.le_of_eq (hideAll_size _ _)) (hid_news N) ?k6 ?k7 ?k8 ?k9 ?kB ?kD ?_ ?c2 ?c3 ?c4
  (case k6 => k_is); (case k7 => k_is); (case k8 => decide); (case k9 => exact BindsTo.of_eq rfl); (case kB => exact rfl); (case kD => decide +kernel); (case c2 => exact rfl); (case c3 => exact rfl); (case c4 => exact rfl)
  intro L h₁ tk cells F N' Y l1 l2
  k_lt l1
  k_cells Y
  simp only [List.cons_append, List.nil_append] at N'
  try dsimp only
  (try k_unmd)
  (try k_fold)
  walk_at "m:steps"
  unfold Stopped
  have C9 := codeHd_hid st N hc
  rename_i oc hoc
  (rename Fr _ _ _ _ => F2); (rename News _ _ _ _ => N2)
  have k1 := keep_all (fun q hq => (N q hq).at_) F2 N2 (fun q hq => List.mem_cons_of_mem _ hq)
  obtain ⟨bm, ob, b1, b2, b3, b4, b5, b6⟩ := T.bmain
  refine gen_map (c := 519) (P := 515) (ps := ps) (mg := mg) (bm := bm) (ob := ob) rfl rfl rfl rfl (by decide) rfl rfl rfl (Nat.le_of_ble_eq_true rfl) ?_ (fun _ => rfl)
  walk_at "m:steps"
  unfold Stopped
  dsimp only
  have hP1 := (N2 (515, PySem.W.tabObj ps) (by k_mem)).1
  refine ⟨xh, _, rfl, News.isList N2 (by k_mem), (C9.keeps F2.keep).code hP1 hps.triples, (C9.keeps F2.keep).tab hP1, hps.among rfl rfl, ⟨T.g.keeps F2.keep, b1, b2, F2.keep _ _ b3, b4, b5, b6⟩, T.nolimit.keeps F2.keep,
    fun i y => Stp (∃ x, ns[i]? = some x ∧ ∃ t, y = .int (cnt b cs x) t), ?_, ?_⟩
  · intro c' C A' i v u m₂ hA hD hU hi hn2 hm hC hk
    rw [List.getElem?_toArray] at hi
    have hlt : i < ns.length := by rw [← Hi.length]; exact (List.getElem?_eq_some_iff.mp hi).1
    obtain ⟨tx, htx⟩ := Hi.get i ns[i] (List.getElem?_eq_getElem hlt)
    rw [hi] at htx
    cases htx
    have hxi : ns[i]? = some ns[i] := List.getElem?_eq_getElem hlt
    generalize ns[i] = x at *
    have Nn := own4 (ht.kp k1) (Bx.kp k1) (Bd.kp k1) (Bl.kp k1)
    obtain ⟨h₃, gs₃, d₃, t₃, os₃⟩ := u
    dsimp only at hk hn2 hC
    have ne4 : ∀ {bb oo}, s.heap.get? bb = some oo → oo.cls ≠ .none → bb ≠ 515 := fun e hne q => by rw [q, ht.at_] at e; cases e; exact hne rfl
    have CX₃ := cx.hid (s := ⟨h₁, s.gens, s.drawn, 0, s.os⟩) (fun b o e => k1 _ _ (st b o e)) Nn
    have hb3 : ∀ bb oo, (hid ⟨h₁, s.gens, s.drawn, 0, s.os⟩ [((515 : Addr), PySem.W.tabObj ps), (a.x, instObj 560 a.d), (a.d, dictOf (cbEs w.params t e b z sp a.l k) 12), (a.l, PySem.W.listOf vc.toArray nl)]).get? bb = some oo → h₃.get? bb = some oo := fun bb oo ee =>
      hk bb oo (fun zz => by
        have := (hid_news (s := ⟨h₁, s.gens, s.drawn, 0, s.os⟩) Nn _ (.head _)).2
        rw [zz, show (hid _ _).get? 515 = _ from this] at ee; cases ee) (of_hideAll _ ee)
    have F₃ : Fr (hid ⟨h₁, s.gens, s.drawn, 0, s.os⟩ [((515 : Addr), PySem.W.tabObj ps), (a.x, instObj 560 a.d), (a.d, dictOf (cbEs w.params t e b z sp a.l k) 12), (a.l, PySem.W.listOf vc.toArray nl)]) C h₃ m₂ := ⟨hn2, hb3, Nat.le_trans (Nat.le_of_eq (hideAll_size _ _)) hC⟩
    have ltC : ∀ {bb oo}, s.heap.get? bb = some oo → @Ne Nat bb C := fun e => Nat.ne_of_lt (Nat.lt_of_lt_of_le (Heap.lt_size (k1 _ _ e)) hC)
    have N₃ : News (hid ⟨h₁, s.gens, s.drawn, 0, s.os⟩ [((515 : Addr), PySem.W.tabObj ps), (a.x, instObj 560 a.d), (a.d, dictOf (cbEs w.params t e b z sp a.l k) 12), (a.l, PySem.W.listOf vc.toArray nl)]) C h₃ [(a.x, instObj 560 a.d), (a.d, dictOf (cbEs w.params t e b z sp a.l k) 12), (a.l, PySem.W.listOf vc.toArray nl)] := fun r hr => by
      have hh := fun z => (hid_news (s := ⟨h₁, s.gens, s.drawn, 0, s.os⟩) Nn r (.tail _ z)).2
      simp only [List.mem_cons, List.not_mem_nil, or_false] at hr
      rcases hr with rfl | rfl | rfl
      · exact ⟨hk _ _ (ne4 Bx.at_ nofun) (k1 _ _ Bx.at_), ltC Bx.at_, hh (.head _)⟩
      · exact ⟨hk _ _ (ne4 Bd.at_ nofun) (k1 _ _ Bd.at_), ltC Bd.at_, hh (.tail _ (.head _))⟩
      · exact ⟨hk _ _ (ne4 Bl.at_ nofun) (k1 _ _ Bl.at_), ltC Bl.at_, hh (.tail _ (.tail _ (.head _)))⟩
    have hcell : (hid ⟨h₁, s.gens, s.drawn, 0, s.os⟩ [((515 : Addr), PySem.W.tabObj ps), (a.x, instObj 560 a.d), (a.d, dictOf (cbEs w.params t e b z sp a.l k) 12), (a.l, PySem.W.listOf vc.toArray nl)]).IsCell (L + 1) (some (.ref a.x)) := by
      refine ⟨oc, hideAll_get _ (N2 (L + 1, oc) (by k_mem)).1 ?_, hoc.trans (by kernel_rfl)⟩
      intro hm'
      have lt : ∀ {bb oo}, s.heap.get? bb = some oo → L + 1 ≠ bb := fun {bb oo} e q => by
        have h1 := Heap.lt_size e
        rw [← q] at h1; exact absurd (Nat.lt_of_lt_of_le h1 l2) (Nat.not_lt.mpr (Nat.le_succ _))
      simp only [List.map_cons, List.map_nil, List.mem_cons, List.not_mem_nil, or_false] at hm'
      rcases hm' with z | z | z | z
      · exact lt ht.at_ z
      · exact lt Bx.at_ z
      · exact lt Bd.at_ z
      · exact lt Bl.at_ z
    clear F2 N2 CX X T C9
    have X := CX₃.K
    obtain ⟨loose, mean, mg, mb, T⟩ := CX₃.T
    refine wpAny_aM (d := 70) (u := 80) ⟨hA, Nat.le_trans hD (Nat.le_of_ble_eq_true rfl), Nat.le_trans hU (Nat.le_of_ble_eq_true rfl)⟩ ?_
    walk_at "m:steps"
    unfold Stopped
    (rename Fr _ _ _ _ => F4); (rename News _ _ _ _ => N4)
    have B₃ : CB w e b z sp g h₃ a cs k := ⟨⟨News.get N4 (by k_mem), Bx.new⟩, ⟨t, News.get N4 (by k_mem), Bd.new⟩, ⟨vc, nl, ⟨News.get N4 (by k_mem), Bl.new⟩, Bi⟩, hlen⟩
    have st₃ : ∀ b o, g.get? b = some o → h₃.get? b = some o := fun b o e => hk b o (fun q => by rw [q, ht.new] at e; cases e) (k1 _ _ (st _ _ e))
    refine c_numbits cx st₃ ⟨rfl, by decide, by decide⟩ B₃ ?_
    intro tb s' kp
    have af := af_keeps kp
    obtain ⟨h', tk', rfl, kk⟩ := kp
    have F5 := fr_af F4 af
    have N5 := news_af N4 af
    clear F4 N4 af
    dsimp only at F5 N5 ⊢
    rw [handedOut_of (show handedIn (Value.int b tb) = true from rfl)]
    refine wpAny_pure ?_
    walk_at "m:steps"
    · exact ⟨⟨x, hxi, _, cnt_eq (by assumption)⟩⟩
    · exact ⟨_, _, rfl, kk⟩
  · intro c' ga ps' s₅ hps' ht5 hos5 hgs5 hk5 G5
    obtain ⟨h₅, gs₅, d₅, t₅, os₅⟩ := s₅
    dsimp only at hos5 hgs5 hk5 ht5
    subst hos5
    have n4 := N2 (515, PySem.W.tabObj ps) (by k_mem)
    have F₅ : Fr (hid s _) L h₅ _ := ⟨F2.ns.at' fun o e => hk5 _ _ (fun q => n4.2.1 q.symm) e, fun b o e => hk5 _ _ (fun q => by rw [q, n4.2.2] at e; cases e) (F2.keep _ _ e), F2.above⟩
    have N₅ : News _ L h₅ [(a.x, instObj 560 a.d), (a.d, dictOf (cbEs w.params t e b z sp a.l k) 12), (a.l, PySem.W.listOf vc.toArray nl), (xh, PySem.W.listOf vs.toArray nv), (515, PySem.W.tabObj ps')] := fun r hr => by
      simp only [List.mem_cons, List.not_mem_nil, or_false] at hr
      rcases hr with rfl | rfl | rfl | rfl | rfl
      · exact news_tab N2 (P := 515) (ps := ps) (by k_mem) hk5 _ (by k_mem) nofun
      · exact news_tab N2 (P := 515) (ps := ps) (by k_mem) hk5 _ (by k_mem) nofun
      · exact news_tab N2 (P := 515) (ps := ps) (by k_mem) hk5 _ (by k_mem) nofun
      · exact news_tab N2 (P := 515) (ps := ps) (by k_mem) hk5 _ (by k_mem) nofun
      · exact ⟨ht5, n4.2⟩
    walk_at "m:steps"
    unfold Stopped
    have hsz : vs.toArray.size = ns.length := by rw [List.size_toArray]; exact Hi.length
    rw [hsz] at G5
    refine min_rowsK F₅ (hgs5 hg) G5 (Nat.le_pred_of_lt F2.ns.lt) (by rcases hS.z with h | h <;> omega) (fun j => match ns[j]? with | some x => cnt b cs x | none => 0) ?_ ?_
    · rintro j v ⟨x, hx, tt, rfl⟩
      simp only [hx]
      exact ⟨_, rfl⟩
    · intro s₆ j tj F₆ G₆ hos₆ hk₆ hj hall
      obtain ⟨h₆, gs₆, d₆, t₆, os₆⟩ := s₆
      dsimp only at hos₆ hk₆ F₆ G₆
      subst hos₆
      have N₆ : News _ L h₆ [(a.x, instObj 560 a.d), (a.d, dictOf (cbEs w.params t e b z sp a.l k) 12), (a.l, PySem.W.listOf vc.toArray nl), (xh, PySem.W.listOf vs.toArray nv), (515, PySem.W.tabObj ps')] := fun r hr => by
        refine ⟨hk₆ _ _ ?_ (N₅ r hr).1, (N₅ r hr).2⟩
        have lt : r.1 < L := by
          simp only [List.mem_cons, List.not_mem_nil, or_false] at hr
          rcases hr with rfl | rfl | rfl | rfl | rfl
          · exact l1.1
          · exact l1.2.1
          · exact l1.2.2.1
          · exact l1.2.2.2.1
          · exact l1.2.2.2.2
        exact Nat.le_pred_of_lt (Nat.lt_trans lt F2.ns.lt)
      (try dsimp only)
      refine hR _ _ _ ?_ (af_end (fun q hq => (N q hq).at_) F₆ N₆ (fun q hq => ?_) fun _ => G₆) ⟨ps', hps.next rfl rfl hps', (N₆ (515, PySem.W.tabObj ps') (by k_mem)).1⟩
      · have hjn : ns[j]? = some ns[j] := List.getElem?_eq_getElem hj
        simp only [hjn]
        refine ⟨List.mem_map_of_mem (List.getElem_mem hj), fun y hy => ?_⟩
        obtain ⟨q, hq, rfl⟩ := List.mem_map.mp hy
        obtain ⟨i, hi, rfl⟩ := List.getElem_of_mem hq
        have := hall i hi
        simp only [hjn, List.getElem?_eq_getElem hi] at this
        exact this
      · simp only [List.mem_cons, List.not_mem_nil, or_false] at hq
        rcases hq with rfl | rfl | rfl | rfl | rfl
        · exact .inr (by k_mem)
        · exact .inr (by k_mem)
        · exact .inr (by k_mem)
        · exact .inr (by k_mem)
        · exact .inl (.head _)
end
example : True ∧ True := by walk1 <;> trivial
section
local macro_rules | `(tactic| walk_at "m:flush") => `(tactic| trivial)
example : True ∧ True := by walk1 <;> trivial
end
section
set_option maxHeartbeats 4000000 in
theorem c_hashesC {w : World} {g : Heap} {A : Around} {s : Shared} {R : Result → Shared → Prop} {e b z far : Int} {sp : Addr} {a : Fa} {cs : List Int} {k : Int} {key : Str} {tk : Tok} (cx : Cx w g) (st : ∀ b o, g.get? b = some o → s.heap.get? b = some o)
    (r : Rm A 90 90) (hS : Sz e b z) (B : CB w e b z sp g s.heap a cs k) (S : Sp w g s.heap sp far) (hk : key.length ≤ sizeLine)
    (hR : ∀ l s', Af [] s s' → Li s.heap s'.heap l (spell far z key) → R (.ok (.ret (.ref l))) s') : codeAny (MM w) A (.call (.ref 247) ⟨[.ref a.x, .str key tk], []⟩) R s := by
  refine codeAny_aM r ?_
  obtain ⟨Bx, ⟨t, Bd⟩, _, _⟩ := B
  obtain ⟨c, co, dc, pm, ct, oc, vs, t9, oo, tkf, O1, O2, hoc, hvs, O3, hoo⟩ := S.it
  have N := own5 Bx Bd O1 O2 O3
  have CX := cx.hid st N
  have X := CX.K
  obtain ⟨loose, mean, mg, mb, T⟩ := CX.T
  refine' enterM (K := frag.heap_1 w.params) (binds := [(Str.ofString "self", Value.ref a.x), (Str.ofString "key", Value.str key tk), (Str.ofString "depth", Value.none)]) X T (fun b o e => of_hideAll _ e) (Nat.le_of_eq (hideAll_size _ _)) (hid_news N) ?k6 ?k7 ?k8 ?k9 ?kB ?_ ?c2 ?c3 ?c4 ?c5
  walk_at "m:enter"
  intro L h₁ F N' l1 l2 l3
  try dsimp only
  (try k_unmd)
  (try k_fold)
  walk_at "m:steps"
  unfold Stopped
  rename_i h₂ F₂ N₂
  have a₂ := af_end (s := s) (ch := []) (t := 0) (gs := s.gens) (d := s.drawn) (fun q hq => (N q hq).at_) F₂ N₂ (fun q hq => .inr hq) id
  refine c_spelled CX F₂.keep (rm_deep (by decide) (by decide)) ⟨c, co, dc, pm, ct, oc, vs, t9, oo, tkf, own_news N₂ (by k_mem), own_news N₂ (by k_mem), hoc, hvs, own_news N₂ (by k_mem), hoo⟩ hS.z hk ?_
  intro l s' af Hl
  dsimp only
  walk_at "m:steps"
  exact hR l s' ⟨fun b o q n => af.keep b o (a₂.keep b o q n) (by simp), af.os, af.gens⟩ (Hl.back fun b o q => a₂.keep b o q (by simp))

theorem CB.kp {w : World} {e b z : Int} {sp : Addr} {g h h' : Heap} {a : Fa} {cs : List Int} {n : Int} (x : CB w e b z sp g h a cs n) (k : ∀ b o, h.get? b = some o → h'.get? b = some o) : CB w e b z sp g h' a cs n :=
  ⟨x.x.kp k, let ⟨t, o⟩ := x.d; ⟨t, o.kp k⟩, x.l.kp k, x.len⟩
set_option maxHeartbeats 4000000 in
theorem c_c_check {w : World} {g : Heap} {A : Around} {s : Shared} {R : Result → Shared → Prop} {e b z far : Int} {sp : Addr} {a : Fa} {cs : List Int} {k : Int} {key : Str} {tk : Tok} {ps : Array Value} (cx : Cx w g) (st : ∀ b o, g.get? b = some o → s.heap.get? b = some o)
    (r : Rm A 50 50) (hS : Sz e b z) (B : CB w e b z sp g s.heap a cs k) (S : Sp w g s.heap sp far) (hk : key.length ≤ sizeLine) (hkz : (key.length : Int) = z) (hc : CodeHd g 519 515) (ht : Own g s.heap 515 (PySem.W.tabObj ps)) (hps : TabOk 324 19 ps) (hg : AllBare s.gens)
    (hR : ∀ v t s', IsMin v ((spell far z key).map (cnt b cs)) → Af [515] s s' → (∃ ps', TabOk 324 19 ps' ∧ s'.heap.get? 515 = some (PySem.W.tabObj ps')) → R (.ok (.ret (.int v t))) s') : codeAny (MM w) A (.call (.ref 513) ⟨[.ref a.x, .str key tk], []⟩) R s := by
  refine codeAny_aM r ?_
  obtain ⟨Bx, ⟨t, Bd⟩, _, _⟩ := id B
  have N := own3 Bx Bd ht
  have CX := cx.hid st N
  have X := CX.K
  obtain ⟨loose, mean, mg, mb, T⟩ := CX.T
  refine' enterM (K := frag.heap_1 w.params) (binds := [(Str.ofString "self", Value.ref a.x), (Str.ofString "key", Value.str key tk)]) X T (fun b o e => of_hideAll _ e) (Nat.le_of_eq (hideAll_size _ _)) (hid_news N) ?k6 ?k7 ?k8 ?k9 ?kB ?_ ?c2 ?c3 ?c4 ?c5
  walk_at "m:enter"
  intro L h₁ F N1 l1 l2 l3
  try dsimp only
  (try k_unmd)
  (try k_fold)
  walk_at "m:steps"
  unfold Stopped
  (rename Fr _ _ _ _ => F2); (rename News _ _ _ _ => N2)
  have k2 := keep_all (fun q hq => (N q hq).at_) F2 N2 (fun q hq => hq)
  refine c_hashesC cx (fun b o e => k2 _ _ (st b o e)) (rm_deep (by decide) (by decide)) hS (B.kp k2) (S.kp k2) hk ?_
  intro l s' af Hl
  obtain ⟨vs3, n3, Ol, Il⟩ := Hl.l
  have F3 := fr_af F2 af
  have N3 := news_af N2 af
  obtain ⟨hF3, gsF3, dF3, tF3, osF3⟩ := s'
  have hosF3 := af.os
  dsimp only at F3 N3 hosF3
  subst hosF3
  have hgF3 := af.gens
  dsimp only at hgF3
  have N4 := news_own F2 N3 Ol
  clear N3
  clear F2 N2
  dsimp only
  walk_at "m:steps"
  unfold Stopped
  (rename Fr _ _ _ _ => F5); (rename News _ _ _ _ => N5)
  have k5 := keep_all (fun q hq => (N q hq).at_) F5 N5 (fun q hq => List.mem_cons_of_mem _ hq)
  refine c_c_check_alt cx (fun b o e => k5 _ _ (st b o e)) (rm_deep (by decide) (by decide)) hS (B.kp k5) ((Li.news N5 (by k_mem) Il).back (g_hid st N)) (spell_len hkz) hc (ht.kp k5) hps (hgF3 hg) ?_
  rintro v tv s' hv af ⟨ps', hps', ht'⟩
  dsimp only
  walk_at "m:steps"
  exact hR v tv _ hv (af_tail k5 af hgF3) ⟨ps', hps', ht'⟩
end
example : True ∧ True := by walk1 <;> trivial
section
local macro_rules | `(tactic| walk_at "m:flush") => `(tactic| trivial)
example : True ∧ True := by walk1 <;> trivial
end
section
local macro_rules | `(tactic| walk_at "m:itemI") => `(tactic| ((with_reducible show wpAny _ _ (subscriptTail _ _ (Value.ref _) (Value.int _ _)) _ _ _); (refine item_list_intsR (m_list (by k_asm) (by k_mem)) (by assumption) (by omega) (by omega) (by omega) ?_ (by exact rfl)); intro t'))
local macro_rules | `(tactic| walk_at "exec Assign cons ListComp") => `(tactic| (with_reducible refine stop_here ?_))
theorem elt_base {h₀ h₂ h₃ : Heap} {L C : Addr} {m2 m : Str → Option Value} {news : List (Addr × Obj)} (F : Fr h₀ L h₂ m2) (N : News h₀ L h₂ news) (hC : h₂.objs.size ≤ C) (hn : h₃.Ns C m) (a : ∀ b o, h₂.get? b = some o → h₃.get? b = some o) : Fr h₀ C h₃ m ∧ News h₀ C h₃ news :=
  ⟨⟨hn, fun b o e => a b o (F.keep b o e), Nat.le_trans F.above (Nat.le_trans (Nat.le_of_lt F.ns.lt) hC)⟩, fun q hq => ⟨a _ _ (N q hq).1, Nat.ne_of_lt (Nat.lt_of_lt_of_le (Heap.lt_size (N q hq).1) hC), (N q hq).2.2⟩⟩
theorem after_use {h₀ : Heap} {L D : Addr} {s₁ s' : Shared} {m m' : Str → Option Value} {news : List (Addr × Obj)} {o : Obj} (F : Fr h₀ L s₁.heap m) (N : News h₀ L s₁.heap news) (af : Af ([] ++ [L]) s₁ s') (new : s₁.heap.get? D = none) (at_ : s'.heap.get? D = some o) (hns : s'.heap.Ns L m') :
    Fr h₀ L s'.heap m' ∧ News h₀ L s'.heap ((D, o) :: news) := by
  have k : ∀ b o, @Ne Nat b L → s₁.heap.get? b = some o → s'.heap.get? b = some o := fun b o n e => af.keep b o e (fun q => n (List.mem_singleton.mp q))
  refine ⟨⟨hns, fun b o e => k b o (Nat.ne_of_lt (Nat.lt_of_lt_of_le (Heap.lt_size e) F.above)) (F.keep b o e), F.above⟩, fun q hq => ?_⟩
  rcases List.mem_cons.mp hq with h | hq
  · subst h
    refine ⟨at_, fun e => ?_, none_back F.keep new⟩
    obtain ⟨oL, _, _, e', _⟩ := F.ns
    rw [show D = L from e, e'] at new; cases new
  · exact ⟨k _ _ (N q hq).2.1 (N q hq).1, (N q hq).2⟩
theorem ints_range {f : Nat → Int} : ∀ {n k : Nat} {xs ys : List Value}, xs.length = n → (∀ (j : Nat) (v : Value), xs[j]? = some v → ∃ t, v = .int (0 + ((j + k : Nat) : Int) * 1) t) → Paired (fun v y => ∃ (j : Nat) (t u : Tok), v = .int (0 + (j : Int) * 1) u ∧ y = .int (f j) t) xs ys → IntsAre ys ((List.range n).map fun j => f (j + k))
  | 0, k, [], _, _, _, .nil => .nil
  | n + 1, k, x :: xs, _, hl, hs, .cons ⟨j, t, u, e1, e2⟩ p => by
    obtain ⟨t0, e0⟩ := hs 0 x rfl
    rw [e0] at e1
    injection e1 with h1 h2
    have hj : j = k := by omega
    subst hj e2
    rw [List.range_succ_eq_map, List.map_cons, List.map_map, Nat.zero_add]
    have := ints_range (f := f) (n := n) (k := j + 1) (Nat.succ.inj hl) (fun i v hv => by
      obtain ⟨t, e⟩ := hs (i + 1) v hv
      exact ⟨t, by rw [e]; congr 3; omega⟩) p
    refine .cons _ _ ?_
    have e : (fun i => f (i + (j + 1))) = ((fun i => f (i + j)) ∘ Nat.succ) := by funext i; simp [Nat.succ_eq_add_one, Nat.add_assoc, Nat.add_comm 1]
    rw [← e]; exact this
theorem getD_set_ok {cs : List Int} {i j : Nat} {v : Int} (h : 0 ≤ v ∧ v < 1002) (h' : 0 ≤ cs.getD j 0 ∧ cs.getD j 0 < 1002) : 0 ≤ (cs.set i v).getD j 0 ∧ (cs.set i v).getD j 0 < 1002 := by
  rw [List.getD_eq_getElem?_getD] at *
  rw [List.getElem?_set]
  split
  · split
    · exact h
    · simp
  · exact h'
theorem none_ne {h₀ h : Heap} {L D a : Addr} {news : List (Addr × Obj)} {o : Obj} (N : News h₀ L h news) (e : h.get? D = none) (hm : (a, o) ∈ news) : @Ne Nat D a := fun q => by
  rw [show D = a from q, (N _ hm).1] at e; cases e
theorem ints_map {f : Int → Int} : ∀ {xs ys : List Value} {ms : List Int}, IntsAre xs ms → Paired (fun v y => ∃ (x : Int) (t u : Tok), v = .int x u ∧ y = .int (f x) t) xs ys → IntsAre ys (ms.map f)
  | [], _, _, .nil, .nil => .nil
  | _ :: _, _, _, .cons a u h, .cons ⟨x, t, u', e1, e2⟩ p => by
    injection e1 with h1 h2
    subst h1 e2
    exact .cons _ _ (ints_map h p)
theorem src_all {xs ys : List Value} (hl : xs.length = ys.toArray.size) (hs : ∀ (j : Nat) (v : Value), xs[j]? = some v → ys.toArray[j]? = some v) : xs = ys := by
  apply List.ext_getElem?
  intro j
  cases e : xs[j]? with
  | some v =>
    have := hs j v e
    rw [List.getElem?_toArray] at this
    exact this.symm
  | none =>
    rw [List.getElem?_eq_none_iff] at e
    rw [hl, List.size_toArray] at e
    exact (List.getElem?_eq_none e).symm
theorem range_getD {α : Type} (ns : List α) (d : α) {β : Type} (f : α → β) : (List.range ns.length).map (fun j => f (ns.getD (j + 0) d)) = ns.map f := by
  apply List.ext_getElem
  · simp
  · intro i h1 h2
    simp at h1 h2
    simp [List.getD_eq_getElem?_getD, h1]
theorem elt_i {k b : Int} {ns : List Int} {i : Nat} {u : Tok} (h : k = Int.fmod (ns.getD (0 + (i : Int) * 1).toNat 0) b) : Value.int k u = Value.int (Int.fmod (ns.getD i 0) b) u := by
  rw [h]; congr 3; omega
section
variable {M : Model} {A : Around} {E : Value → Shared → Prop} {s : Shared} {h₀ : Heap} {C c : Addr} {scope : Scope} {cl : List (Str × Addr)} {env : Env} {x : Str} {pos : Pos} {v : Value} {o : Obj} {news : List (Addr × Obj)} {Q : Value → Shared → Prop}
theorem nm_F (N : News h₀ C s.heap news) (hc : cl.lookup x = some c) (hm : (c, o) ∈ news) (hd : o.data = .cell (some v)) (h : Q v s) (hk : (compEnvC scope cl C env).scope.kind = .function) (hx : (compEnvC scope cl C env).kindOf x = some .free) (hb : (x == ("__debug__" : Str)) = false := by decide) (hn : (x == ("__classdict__" : Str)) = false := by decide) :
    wpAny M A (eval (.Name x pos) (compEnvC scope cl C env)) Q E s := wpAny_Name (wpAny_loadName_free hk hx hc ⟨o, N.get hm, hd⟩ h hn) hb
end
local macro_rules | `(tactic| walk_at "eval Name") => `(tactic| ((with_reducible show wpAny _ _ (eval (Expr.Name _ _) (compEnvC _ _ _ _)) _ _ _); first | (refine nm_L (by assumption) (by assumption) ?_ rfl rfl) | (refine nm_F (by k_asm) rfl (by k_mem) (by k_asm) ?_ rfl rfl)))
local macro_rules | `(tactic| walk_at "subscriptTail Attribute Name Name ref int") => `(tactic| walk_at "m:itemI")
local macro_rules | `(tactic| walk_at "subscriptTail Name Name ref int") => `(tactic| first | walk_at "m:item" | walk_at "m:itemI")
/-- the counters after a told row -/
def told1 (b : Int) (cs : List Int) (x : Int) : List Int := cs.set (Int.fmod x b).toNat (cnt b cs x + 1)
def told (b : Int) (cs : List Int) (ns : List Int) : List Int := ns.foldl (told1 b) cs
set_option maxHeartbeats 4000000 in
theorem c_c_add_alt {w : World} {g : Heap} {A : Around} {s : Shared} {R : Result → Shared → Prop} {e b z : Int} {sp : Addr} {a : Fa} {cs : List Int} {k : Int} {xh : Addr} {ns : List Int} {tn : Tok} (cx : Cx w g) (st : ∀ b o, g.get? b = some o → s.heap.get? b = some o)
    (r : Rm A 60 60) (hS : Sz e b z) (B : CB w e b z sp g s.heap a cs k) (H : Li g s.heap xh ns) (hn : (ns.length : Int) = z) (hsm : ∀ x ∈ cs, 0 ≤ x ∧ x < 1000) (hk : 0 ≤ k ∧ k < 1000) (hxa : @Ne Nat xh a.l)
    (hR : ∀ v t s', Af [a.l, a.d] s s' → CB w e b z sp g s'.heap a (told b cs ns) (k + 1) → R (.ok (.ret (.int v t))) s') : codeAny (MM w) A (.call (.ref 506) ⟨[.ref a.x, .ref xh, .int 1 tn], []⟩) R s := by
  refine codeAny_aM r ?_
  obtain ⟨Bx, ⟨t, Bd⟩, ⟨vc, nl, Bl, Bi⟩, hlen⟩ := id B
  obtain ⟨vs, nv, Hl, Hi⟩ := H
  have hb := hS.b
  have N := own4 Bx Bd Bl Hl
  have e1 := own_ne Bx Bl obj_xl
  have e2 := own_ne Bx Bd obj_xd
  have e3 := own_ne Bd Bl obj_dl
  have e4 := e3.symm
  have e5 : @Ne Nat xh a.d := (own_ne Bd Hl obj_dl).symm
  have CX := cx.hid st N
  have X := CX.K
  obtain ⟨loose, mean, mg, mb, T⟩ := CX.T
  refine' enterMC (K := frag.heap_1 w.params) (binds := [(Str.ofString "self", Value.ref a.x), (Str.ofString "hashes", Value.ref xh), (Str.ofString "num_els", Value.int 1 tn)]) X T (fun b o e => of_hideAll _ e) (Nat.le_of_eq (hideAll_size _ _)) (hid_news N) ?k6 ?k7 ?k8 ?k9 ?kB ?kD ?_ ?c2 ?c3 ?c4
  (case k6 => k_is); (case k7 => k_is); (case k8 => decide); (case k9 => exact binds_K (Frag.In.keeps (by assumption) fun b o e => of_hideAll _ e) rfl (by k_is) rfl rfl rfl); (case kB => exact rfl); (case kD => decide +kernel); (case c2 => exact rfl); (case c3 => exact rfl); (case c4 => exact rfl)
  intro L h₁ tk cells F N' Y l1 l2
  k_lt l1
  k_cells Y
  simp only [List.cons_append, List.nil_append] at N'
  try dsimp only
  (try k_unmd)
  (try k_fold)
  have hz2 : z = 1 ∨ z = 2 := hS.z
  have hszl : ns.length ≤ sizeLine := Nat.le_trans (show ns.length ≤ 2 by omega) (by decide)
  subst hn
  walk_at "m:steps"
  unfold Stopped
  refine comp_use (tb := []) (Inv := fun _ => True) (Bd := bdN (Str.ofString "i")) (n := ns.length) (P := fun i v => ∃ t, v = .int (0 + i * 1) t) rfl (fun _ => rfl) rfl rfl (by decide) rfl rfl hszl (fun _ => true) (fun _ _ v y => Stp (∃ (j : Nat) (t u : Tok), v = .int (0 + j * 1) u ∧ y = .int (Int.fmod (ns.getD j 0) b) t)) (fun _ _ _ _ _ h _ => h) ?_
  walk_at "m:steps"
  unfold Stopped
  (rename Fr _ _ _ _ => F2); (rename News _ _ _ _ => N2)
  refine ⟨_, ok_name tb_nil trivial (it_range rfl (by assumption) (by omega)) (by decide) rfl rfl (fun _ _ _ _ _ _ _ _ _ _ _ _ => wpAny_tests_nil ⟨rfl, Af.refl _, trivial⟩) ?_, _, F2.ns, ?_⟩
  · rintro C i v m s₃ hi ⟨ti, rfl⟩ _ hn3 hm hC a _
    obtain ⟨F3, N3⟩ := elt_base F2 N2 hC hn3 (fun b o e => a.keep b o e (by simp))
    clear F2 N2
    obtain ⟨h₃, gs₃, d₃, t₃, os₃⟩ := s₃
    walk_at "m:steps"
    · exact ⟨i, _, _, rfl, elt_i (by assumption)⟩
    · exact ⟨fun _ _ e _ => e, rfl, id⟩
    · trivial
  · intro D s' xs ys ce hns
    have ci : IntsAre ys (ns.map fun x => Int.fmod x b) := by
      have z := ce.out
      rw [List.filter_eq_self.mpr (fun _ _ => rfl)] at z
      have := ints_range (f := fun j => Int.fmod (ns.getD j 0) b) (k := 0) ce.len ce.src (paired_imp (fun _ _ ⟨_, _, h⟩ => h.p) z)
      rw [range_getD ns 0 (fun x => Int.fmod x b)] at this
      exact this
    obtain ⟨F3, N3⟩ := after_use F2 N2 ce.af ce.new ce.at_ hns
    have nD1 := none_ne N2 ce.new (a := a.l) (by k_mem)
    have nD2 := none_ne N2 ce.new (a := a.d) (by k_mem)
    have hos3 := ce.af.os
    have hgs3 := ce.af.gens
    clear F2 N2 ce
    obtain ⟨h3, gs3, d3, t3, os3⟩ := s'
    dsimp only at hos3 hgs3 F3 N3 ⊢
    subst hos3
    walk_at "m:steps"
    unfold Stopped
    refine comp_use (tb := []) (Inv := fun _ => True) (Bd := bdN (Str.ofString "k")) (n := ys.toArray.size) (P := fun i v => ys.toArray[i]? = some v) rfl (fun _ => rfl) rfl rfl (by decide) rfl rfl (by rw [List.size_toArray, ci.length, List.length_map]; exact hszl) (fun _ => true) (fun _ _ v y => Stp (∃ (x : Int) (t u : Tok), v = .int x u ∧ y = .int (cs.getD x.toNat 0 + 1) t)) (fun _ _ _ _ _ h _ => h) ?_
    walk_at "m:steps"
    unfold Stopped
    (rename Fr _ _ _ _ => F5); (rename News _ _ _ _ => N5)
    refine ⟨_, ok_name tb_nil trivial (it_list rfl (News.isList N5 (by k_mem))) (by decide) rfl rfl (fun _ _ _ _ _ _ _ _ _ _ _ _ => wpAny_tests_nil ⟨rfl, Af.refl _, trivial⟩) ?_, _, F5.ns, ?_⟩
    · rintro C i v m s₃ hi hv _ hn3 hm hC a _
      obtain ⟨F6, N6⟩ := elt_base F5 N5 hC hn3 (fun b o e => a.keep b o e (by simp))
      rw [List.getElem?_toArray] at hv
      obtain ⟨x, tx, rfl, hx1, hx2⟩ : ∃ x tx, v = Value.int x tx ∧ 0 ≤ x ∧ x < b := by
        have hlt : i < (ns.map fun x => Int.fmod x b).length := by rw [← ci.length]; exact (List.getElem?_eq_some_iff.mp hv).1
        obtain ⟨tx, htx⟩ := ci.get i _ (List.getElem?_eq_getElem hlt)
        rw [hv] at htx
        cases htx
        refine ⟨_, tx, rfl, ?_, ?_⟩
        · rw [List.getElem_map]; exact Int.fmod_nonneg_of_pos _ (by omega)
        · rw [List.getElem_map]; exact Int.fmod_lt_of_pos _ (by omega)
      clear F5 N5
      obtain ⟨h₃, gs₃, d₃, t₃, os₃⟩ := s₃
      walk_at "m:steps"
      · exact ⟨x, _, _, rfl, rfl⟩
      · exact ⟨fun _ _ e _ => e, rfl, id⟩
      · trivial
    · intro D' s' xs' ys' ce hns
      have cv : IntsAre ys' ((ns.map fun x => Int.fmod x b).map fun x => cs.getD x.toNat 0 + 1) := by
        have z := ce.out
        rw [List.filter_eq_self.mpr (fun _ _ => rfl), src_all ce.len ce.src] at z
        exact ints_map (f := fun x => cs.getD x.toNat 0 + 1) ci (paired_imp (fun _ _ ⟨_, _, h⟩ => h.p) z)
      obtain ⟨F6, N6⟩ := after_use F5 N5 ce.af ce.new ce.at_ hns
      have nD3 := none_ne N5 ce.new (a := a.l) (by k_mem)
      have nD4 := none_ne N5 ce.new (a := a.d) (by k_mem)
      have hos6 := ce.af.os
      have hgs6 := ce.af.gens
      clear F5 N5 ce
      obtain ⟨h6, gs6, d6, t6, os6⟩ := s'
      dsimp only at hos6 hgs6 F6 N6 ⊢
      subst hos6
      have gx : ∀ x, 0 ≤ Int.fmod x b ∧ Int.fmod x b < b := fun x => ⟨Int.fmod_nonneg_of_pos _ (by omega), Int.fmod_lt_of_pos _ (by omega)⟩
      have gc : ∀ x, 0 ≤ cs.getD (Int.fmod x b).toNat 0 ∧ cs.getD (Int.fmod x b).toNat 0 < 1000 := fun x => by
        have hx := gx x
        have hlt : (Int.fmod x b).toNat < cs.length := by omega
        rw [List.getD_eq_getElem?_getD, List.getElem?_eq_getElem hlt, Option.getD_some]
        exact hsm _ (List.getElem_mem hlt)
      rcases hz2 with hz2 | hz2
      · obtain ⟨x, rfl⟩ := len_one hz2
        have gx1 := gx x
        have gc1 := gc x
        obtain ⟨k1, hk1⟩ : ∃ k1, k1 = Int.fmod x b := ⟨_, rfl⟩
        simp only [List.map_cons, List.map_nil, ← hk1] at ci cv gx1 gc1
        obtain ⟨v1, rfl⟩ := ints_one ci
        obtain ⟨v2, rfl⟩ := ints_one cv
        walk_at "m:steps"
        (rename Fr _ _ _ _ => F9); (rename News _ _ _ _ => N9)
        have a9 := af_end (s := s) (ch := [a.l, a.d]) (t := 0) (gs := gs6) (d := d6) (fun q hq => (N q hq).at_) F9 N9 (by walk_at "m:chg") (fun g => hgs6 (hgs3 g))
        obtain ⟨t9, D9⟩ := cb_d (own_news N9 (a := a.d) (by k_mem))
        rw [if_neg (by omega)] at D9
        refine hR _ _ _ ⟨a9.keep, a9.os, a9.gens⟩ ⟨⟨News.get N9 (by k_mem), Bx.new⟩, ⟨t9, D9.at_, Bd.new⟩, ⟨_, nl, ⟨News.get N9 (a := a.l) (by k_mem), Bl.new⟩, ?_⟩, ?_⟩
        · show IntsAre _ (told1 b cs x)
          unfold told1 cnt
          rw [← hk1]
          assumption
        · show ((told1 b cs x).length : Int) = b
          unfold told1
          rw [List.length_set]; exact hlen
      · obtain ⟨x, y, rfl⟩ := len_two hz2
        have gx1 := gx x
        have gc1 := gc x
        have gx2 := gx y
        have gc2 := gc y
        obtain ⟨k1, hk1⟩ : ∃ k1, k1 = Int.fmod x b := ⟨_, rfl⟩
        obtain ⟨k2, hk2⟩ : ∃ k2, k2 = Int.fmod y b := ⟨_, rfl⟩
        simp only [List.map_cons, List.map_nil, ← hk1, ← hk2] at ci cv gx1 gc1 gx2 gc2
        obtain ⟨v1, w1, rfl⟩ := ints_two ci
        obtain ⟨v2, w2, rfl⟩ := ints_two cv
        have gs2 : 0 ≤ (cs.set k1.toNat (cs.getD k1.toNat 0 + 1)).getD k2.toNat 0 ∧ (cs.set k1.toNat (cs.getD k1.toNat 0 + 1)).getD k2.toNat 0 < 1002 := getD_set_ok (by omega) (by omega)
        walk_at "m:steps"
        (rename Fr _ _ _ _ => F9); (rename News _ _ _ _ => N9)
        have a9 := af_end (s := s) (ch := [a.l, a.d]) (t := 0) (gs := gs6) (d := d6) (fun q hq => (N q hq).at_) F9 N9 (by walk_at "m:chg") (fun g => hgs6 (hgs3 g))
        obtain ⟨t9, D9⟩ := cb_d (own_news N9 (a := a.d) (by k_mem))
        rw [if_neg (by omega)] at D9
        refine hR _ _ _ ⟨a9.keep, a9.os, a9.gens⟩ ⟨⟨News.get N9 (by k_mem), Bx.new⟩, ⟨t9, D9.at_, Bd.new⟩, ⟨_, nl, ⟨News.get N9 (a := a.l) (by k_mem), Bl.new⟩, ?_⟩, ?_⟩
        · show IntsAre _ (told1 b (told1 b cs x) y)
          unfold told1 cnt
          rw [← hk1, ← hk2]
          assumption
        · show ((told1 b (told1 b cs x) y).length : Int) = b
          unfold told1
          rw [List.length_set, List.length_set]; exact hlen
end
example : True ∧ True := by walk1 <;> trivial
section
local macro_rules | `(tactic| walk_at "m:flush") => `(tactic| trivial)
example : True ∧ True := by walk1 <;> trivial
end
section
set_option maxHeartbeats 4000000 in
theorem c_c_add {w : World} {g : Heap} {A : Around} {s : Shared} {R : Result → Shared → Prop} {e b z far : Int} {sp : Addr} {a : Fa} {cs : List Int} {k : Int} {key : Str} {tk : Tok} (cx : Cx w g) (st : ∀ b o, g.get? b = some o → s.heap.get? b = some o)
    (r : Rm A 50 50) (hS : Sz e b z) (B : CB w e b z sp g s.heap a cs k) (S : Sp w g s.heap sp far) (hkl : key.length ≤ sizeLine) (hkz : (key.length : Int) = z) (hsm : ∀ x ∈ cs, 0 ≤ x ∧ x < 1000) (hk : 0 ≤ k ∧ k < 1000)
    (hR : ∀ v t s', Af [a.l, a.d] s s' → CB w e b z sp g s'.heap a (told b cs (spell far z key)) (k + 1) → R (.ok (.ret (.int v t))) s') : codeAny (MM w) A (.call (.ref 500) ⟨[.ref a.x, .str key tk], []⟩) R s := by
  refine codeAny_aM r ?_
  obtain ⟨Bx, ⟨t, Bd⟩, ⟨vc, nl, Bl, Bi⟩, _⟩ := id B
  have N := own2 Bx Bd
  have CX := cx.hid st N
  have X := CX.K
  obtain ⟨loose, mean, mg, mb, T⟩ := CX.T
  refine' enterM (K := frag.heap_1 w.params) (binds := [(Str.ofString "self", Value.ref a.x), (Str.ofString "key", Value.str key tk), (Str.ofString "num_els", Value.int 1 839)]) X T (fun b o e => of_hideAll _ e) (Nat.le_of_eq (hideAll_size _ _)) (hid_news N) ?k6 ?k7 ?k8 ?k9 ?kB ?_ ?c2 ?c3 ?c4 ?c5
  walk_at "m:enter"
  intro L h₁ F N1 l1 l2 l3
  try dsimp only
  (try k_unmd)
  (try k_fold)
  walk_at "m:steps"
  unfold Stopped
  (rename Fr _ _ _ _ => F2); (rename News _ _ _ _ => N2)
  have k2 := keep_all (fun q hq => (N q hq).at_) F2 N2 (fun q hq => hq)
  refine c_hashesC cx (fun b o e => k2 _ _ (st b o e)) (rm_deep (by decide) (by decide)) hS (B.kp k2) (S.kp k2) hkl ?_
  intro l s' af Hl
  obtain ⟨vs3, n3, Ol, Il⟩ := Hl.l
  have nl1 : @Ne Nat l a.l := fun q => by have := Ol.new; rw [show l = a.l from q, k2 _ _ Bl.at_] at this; cases this
  have F3 := fr_af F2 af
  have N3 := news_af N2 af
  obtain ⟨hF3, gsF3, dF3, tF3, osF3⟩ := s'
  have hosF3 := af.os
  dsimp only at F3 N3 hosF3
  subst hosF3
  have hgF3 := af.gens
  dsimp only at hgF3
  have N4 := news_own F2 N3 Ol
  clear N3
  clear F2 N2
  dsimp only
  walk_at "m:steps"
  unfold Stopped
  (rename Fr _ _ _ _ => F5); (rename News _ _ _ _ => N5)
  have k5 := keep_all (fun q hq => (N q hq).at_) F5 N5 (fun q hq => List.mem_cons_of_mem _ hq)
  refine c_c_add_alt cx (fun b o e => k5 _ _ (st b o e)) (rm_deep (by decide) (by decide)) hS (B.kp k5) ((Li.news N5 (by k_mem) Il).back (g_hid st N)) (spell_len hkz) hsm hk nl1 ?_
  intro v tv s' af C5
  obtain ⟨h5, gs5, d5, t5, os5⟩ := s'
  dsimp only
  walk_at "m:steps"
  exact hR v tv _ (af_tail k5 af hgF3) C5
end
example : True ∧ True := by walk1 <;> trivial
section
local macro_rules | `(tactic| walk_at "m:flush") => `(tactic| trivial)
example : True ∧ True := by walk1 <;> trivial
end
section
local macro_rules | `(tactic| walk_at "eval ListComp") => `(tactic| (with_reducible refine stop_here ?_))
local macro_rules | `(tactic| walk_at "eval ListComp Call cons") => `(tactic| (with_reducible refine stop_here ?_))
theorem fdivP {w : World} {A : Around} {E : Value → Shared → Prop} {s : Shared} {Q : Value → Shared → Prop} {a b : Int} {i : Nat} {t u : Tok} (hb : 3 ≤ b ∧ b ≤ 7) (hi : i ≤ 1) (h : Q (.int (a.fdiv (b ^ i)) s.toks) { s with toks := s.toks + 1 }) : wpAny (MM w) A (binaryOp .FloorDiv (.int a t) (.int (b ^ i) u)) Q E s := by
  have h1 : 0 < b ^ i ∧ b ^ i < 2 ^ 100 := by
    rcases (show i = 0 ∨ i = 1 by omega) with rfl | rfl
    · rw [Int.pow_zero]; exact ⟨by decide, by decide⟩
    · rw [Int.pow_succ, Int.pow_zero, Int.one_mul]; omega
  exact fdivT h1.1 h1.2 h
local macro_rules | `(tactic| walk_at "binaryOp FloorDiv int int") => `(tactic| (refine fdivP (by assumption) (by decide) ?_))
/-- a word's letters -/
def lett (b n : Int) (i : Nat) : Nat := (97 + Int.fmod (Int.fdiv n (b ^ i)) b).toNat
def wd (b z n : Int) : Str := ⟨((List.range z.toNat).map (lett b n)).toArray⟩
theorem after_gen {h₀ : Heap} {L D : Addr} {s₁ s' : Shared} {m : Str → Option Value} {news : List (Addr × Obj)} {o : Obj} (F : Fr h₀ L s₁.heap m) (N : News h₀ L s₁.heap news) (af : Af ([] ++ []) s₁ s') (new : s₁.heap.get? D = none) (at_ : s'.heap.get? D = some o) :
    Fr h₀ L s'.heap m ∧ News h₀ L s'.heap ((D, o) :: news) := by
  refine ⟨fr_af F af, fun q hq => ?_⟩
  rcases List.mem_cons.mp hq with h | hq
  · subst h
    refine ⟨at_, fun e => ?_, none_back F.keep new⟩
    obtain ⟨oL, _, _, e', _⟩ := F.ns
    rw [show D = L from e, e'] at new; cases new
  · exact news_af N af q hq
theorem strs_range {f : Nat → Str} : ∀ {n k : Nat} {xs ys : List Value}, xs.length = n → (∀ (j : Nat) (v : Value), xs[j]? = some v → ∃ t, v = .int (0 + ((j + k : Nat) : Int) * 1) t) → Paired (fun v y => ∃ (j : Nat) (t u : Tok), v = .int (0 + (j : Int) * 1) u ∧ y = .str (f j) t) xs ys → StrsAre ys ((List.range n).map fun j => f (j + k))
  | 0, k, [], _, _, _, .nil => .nil
  | n + 1, k, x :: xs, _, hl, hs, .cons ⟨j, t, u, e1, e2⟩ p => by
    obtain ⟨t0, e0⟩ := hs 0 x rfl
    rw [e0] at e1
    injection e1 with h1 h2
    have hj : j = k := by omega
    subst hj e2
    rw [List.range_succ_eq_map, List.map_cons, List.map_map, Nat.zero_add]
    have := strs_range (f := f) (n := n) (k := j + 1) (Nat.succ.inj hl) (fun i v hv => by
      obtain ⟨t, e⟩ := hs (i + 1) v hv
      exact ⟨t, by rw [e]; congr 3; omega⟩) p
    refine .cons _ _ ?_
    have e : (fun i => f (i + (j + 1))) = ((fun i => f (i + j)) ∘ Nat.succ) := by funext i; simp [Nat.succ_eq_add_one, Nat.add_assoc, Nat.add_comm 1]
    rw [← e]; exact this
theorem join_wd {b n : Int} {zn : Nat} (h : zn = 1 ∨ zn = 2) : Txt.join (Str.ofString "") ((List.range zn).map fun j => (⟨#[lett b n (j + 0)]⟩ : Str)) = wd b zn n := by
  rcases h with rfl | rfl <;> rfl
local macro_rules | `(tactic| walk_at "call builtin:str.join") => `(tactic| (with_reducible refine stop_here ?_))
theorem lett_eq {b n k : Int} {i : Nat} {u : Tok} (h : k = Int.fmod (Int.fdiv n (b ^ i)) b) : Value.str ⟨#[(97 + k).toNat]⟩ u = Value.str ⟨#[lett b n i]⟩ u := by subst h; rfl
set_option maxHeartbeats 4000000 in
theorem c_word {w : World} {g : Heap} {A : Around} {s : Shared} {R : Result → Shared → Prop} {e b z n : Int} {t1 t2 t3 : Tok} (cx : Cx w g) (st : ∀ b o, g.get? b = some o → s.heap.get? b = some o)
    (r : Rm A 60 60) (hS : Sz e b z)
    (hR : ∀ t s', Af [] s s' → R (.ok (.ret (.str (wd b z n) t))) s') : codeAny (MM w) A (.call (.ref 581) ⟨[.int n t1, .int b t2, .int z t3], []⟩) R s := by
  refine codeAny_aM r ?_
  have hb := hS.b
  obtain ⟨zn, rfl⟩ : ∃ zn : Nat, z = zn := ⟨z.toNat, by rcases hS.z with h | h <;> omega⟩
  have hzn : zn = 1 ∨ zn = 2 := by rcases hS.z with h | h <;> omega
  have hzsl : zn ≤ sizeLine := Nat.le_trans (show zn ≤ 2 by omega) (by decide)
  have CX := cx.keeps st
  have X := CX.K
  obtain ⟨loose, mean, mg, mb, T⟩ := CX.T
  refine' enterMC (K := frag.heap_1 w.params) (news := []) (binds := [(Str.ofString "number", Value.int n t1), (Str.ofString "bits", Value.int b t2), (Str.ofString "size", Value.int zn t3)]) X T (fun _ _ e => e) (Nat.le_refl _) (fun q hq => absurd hq List.not_mem_nil) ?k6 ?k7 ?k8 ?k9 ?kB ?kD ?_ ?c2 ?c3 ?c4
  (case k6 => k_is); (case k7 => k_is); (case k8 => decide); (case k9 => exact BindsTo.of_eq rfl); (case kB => exact rfl); (case kD => decide +kernel); (case c2 => exact rfl); (case c3 => exact rfl); (case c4 => exact rfl)
  intro L h₁ tk cells F N' Y l1 l2
  k_cells Y
  simp only [List.cons_append, List.nil_append] at N'
  try dsimp only
  (try k_unmd)
  (try k_fold)
  walk_at "m:steps"
  unfold Stopped
  refine comp_gen (tb := []) (Inv := fun _ => True) (Bd := bdN (Str.ofString "place")) (n := zn) (P := fun i v => ∃ t, v = .int (0 + i * 1) t) (fun _ => rfl) rfl rfl (by decide) hzsl (fun _ => true) (fun _ _ v y => Stp (∃ (j : Nat) (t u : Tok), v = .int (0 + j * 1) u ∧ y = .str ⟨#[lett b n j]⟩ t)) (fun _ _ _ _ _ h _ => h) ?_
  walk_at "m:steps"
  unfold Stopped
  (rename Fr _ _ _ _ => F2); (rename News _ _ _ _ => N2)
  refine ⟨_, ok_name tb_nil trivial (it_range rfl (by assumption) (by omega)) (by decide) rfl rfl (fun _ _ _ _ _ _ _ _ _ _ _ _ => wpAny_tests_nil ⟨rfl, Af.refl _, trivial⟩) ?_, ?_⟩
  · rintro C i v m s₃ hi ⟨ti, rfl⟩ _ hn3 hm hC a _
    obtain ⟨F3, N3⟩ := elt_base F2 N2 hC hn3 (fun b o e => a.keep b o e (by simp))
    clear F2 N2
    obtain ⟨h₃, gs₃, d₃, t₃, os₃⟩ := s₃
    rcases (show i = 0 ∨ i = 1 by omega) with rfl | rfl
    · have hm : m (Str.ofString "place") = some (.int 0 ti) := hm
      walk_at "m:steps"
      · exact ⟨0, _, _, rfl, lett_eq (by assumption)⟩
      · exact ⟨fun b o e _ => by assumption, rfl, id⟩
      · trivial
    · have hm : m (Str.ofString "place") = some (.int 1 ti) := hm
      walk_at "m:steps"
      · exact ⟨1, _, _, rfl, lett_eq (by assumption)⟩
      · exact ⟨fun b o e _ => by assumption, rfl, id⟩
      · trivial
  · intro D s' xs ys ce
    have cy : StrsAre ys ((List.range zn).map fun j => (⟨#[lett b n (j + 0)]⟩ : Str)) := by
      have z := ce.out
      rw [List.filter_eq_self.mpr (fun _ _ => rfl)] at z
      exact strs_range (f := fun j => ⟨#[lett b n j]⟩) (k := 0) ce.len ce.src (paired_imp (fun _ _ ⟨_, _, h⟩ => h.p) z)
    obtain ⟨F3, N3⟩ := after_gen F2 N2 ce.af ce.new ce.at_
    have hos3 := ce.af.os
    have hgs3 := ce.af.gens
    clear F2 N2 ce
    obtain ⟨h3, gs3, d3, t3, os3⟩ := s'
    dsimp only at hos3 hgs3 F3 N3 ⊢
    subst hos3
    walk_at "m:steps"
    unfold Stopped
    refine join_list (News.isList N3 (by k_mem)) cy ?_ ?_
    · rcases hzn with rfl | rfl <;> exact Nat.le_of_ble_eq_true rfl
    · intro t' k'
      rw [join_wd hzn]
      (try dsimp only)
      refine hR _ _ ⟨fun b o e _ => F3.keep b o e, rfl, hgs3⟩
end
example : True ∧ True := by walk1 <;> trivial
section
local macro_rules | `(tactic| walk_at "m:flush") => `(tactic| trivial)
example : True ∧ True := by walk1 <;> trivial
end
section
local macro_rules | `(tactic| walk_at "eval ListComp") => `(tactic| (with_reducible refine stop_here ?_))
local macro_rules | `(tactic| walk_at "eval ListComp Call cons") => `(tactic| (with_reducible refine stop_here ?_))
theorem paired_one {α β : Type} {F : α → β → Prop} : ∀ {xs : List α} {ys : List β}, Paired F xs ys → xs.length = 1 → ∃ x y, xs = [x] ∧ ys = [y] ∧ F x y
  | [x], _, .cons h .nil, _ => ⟨x, _, rfl, rfl, h⟩
/-- the set bits -/
def pop (m : Int) : Nat := ((List.range 7).filter fun i => m.toNat.testBit i).length
theorem pop_text {m : Int} (h : 0 ≤ m ∧ m < 128) : Txt.count (baseText "0b" 2 m) (Str.ofString "1") = (pop m : Int) := by
  have key : ∀ m : Fin 128, Txt.count (baseText "0b" 2 ((m : Nat) : Int)) (Str.ofString "1") = (pop ((m : Nat) : Int) : Int) := by decide +kernel
  have := key ⟨m.toNat, by omega⟩
  rw [show (((⟨m.toNat, by omega⟩ : Fin 128) : Nat) : Int) = m from Int.toNat_of_nonneg h.1] at this
  exact this
set_option maxHeartbeats 4000000 in
theorem c_ones {w : World} {g : Heap} {A : Around} {s : Shared} {R : Result → Shared → Prop} {e b z : Int} {sp : Addr} {a : Fa} {m k : Int} (cx : Cx w g) (st : ∀ b o, g.get? b = some o → s.heap.get? b = some o)
    (r : Rm A 60 60) (hS : Sz e b z) (B : BF w e b z sp g s.heap a m k) (hm : 0 ≤ m ∧ m < 128)
    (hR : ∀ t s', Af [] s s' → R (.ok (.ret (.int (pop m) t))) s') : codeAny (MM w) A (.call (.ref 586) ⟨[.ref a.x], []⟩) R s := by
  refine codeAny_aM r ?_
  obtain ⟨Bx, ⟨t, Bd⟩, ⟨tm, nm, Bl⟩⟩ := B
  have N := own3 Bx Bd Bl
  have CX := cx.hid st N
  have X := CX.K
  obtain ⟨loose, mean, mg, mb, T⟩ := CX.T
  refine' enterM (K := frag.heap_1 w.params) (binds := [(Str.ofString "one", Value.ref a.x)]) X T (fun b o e => of_hideAll _ e) (Nat.le_of_eq (hideAll_size _ _)) (hid_news N) ?k6 ?k7 ?k8 ?k9 ?kB ?_ ?c2 ?c3 ?c4 ?c5
  walk_at "m:enter"
  intro L h₁ F N1 l1 l2 l3
  try dsimp only
  (try k_unmd)
  (try k_fold)
  walk_at "m:steps"
  unfold Stopped
  refine comp_gen (tb := []) (Inv := fun _ => True) (Bd := bdN (Str.ofString "octet")) (n := 1) (P := fun i v => #[Value.int m tm][i]? = some v) (fun _ => rfl) rfl rfl (by decide) (by decide) (fun _ => true) (fun _ _ v y => Stp (∃ t, y = .int (pop m) t)) (fun _ _ _ _ _ h _ => h) ?_
  walk_at "m:steps"
  unfold Stopped
  (rename Fr _ _ _ _ => F2); (rename News _ _ _ _ => N2)
  refine ⟨_, ok_name tb_nil trivial (it_list rfl (News.isList N2 (by k_mem))) (by decide) rfl rfl (fun _ _ _ _ _ _ _ _ _ _ _ _ => wpAny_tests_nil ⟨rfl, Af.refl _, trivial⟩) ?_, ?_⟩
  · rintro C i v mm s₃ hi hv _ hn3 hm3 hC af _
    obtain ⟨F3, N3⟩ := elt_base F2 N2 hC hn3 (fun b o e => af.keep b o e (by simp))
    clear F2 N2
    obtain ⟨h₃, gs₃, d₃, t₃, os₃⟩ := s₃
    obtain rfl : i = 0 := by omega
    have hv : v = Value.int m tm := (Option.some.inj hv).symm
    subst hv
    walk_at "m:steps"
    · exact ⟨⟨_, by rw [pop_text hm]⟩⟩
    · exact ⟨fun _ _ e _ => e, rfl, id⟩
    · trivial
  · intro D s' xs ys ce
    have z := ce.out
    rw [List.filter_eq_self.mpr (fun _ _ => rfl)] at z
    obtain ⟨x, y, rfl, rfl, ⟨gg, hgg, ⟨ty, e⟩⟩⟩ := paired_one z ce.len
    subst e
    clear z
    obtain ⟨F3, N3⟩ := after_gen F2 N2 ce.af ce.new ce.at_
    have hos3 := ce.af.os
    have hgs3 := ce.af.gens
    clear F2 N2 ce
    obtain ⟨h3, gs3, d3, t3, os3⟩ := s'
    dsimp only at hos3 hgs3 F3 N3 ⊢
    subst hos3
    walk_at "m:steps"
    (rename Fr _ _ _ _ => F9); (rename News _ _ _ _ => N9)
    rw [Int.add_zero]
    exact hR _ _ (af_end (fun q hq => (N q hq).at_) F9 N9 (fun q hq => .inr (.tail _ hq)) hgs3)
end
example : True ∧ True := by walk1 <;> trivial
section
local macro_rules | `(tactic| walk_at "m:flush") => `(tactic| trivial)
example : True ∧ True := by walk1 <;> trivial
end
section
section
variable {w : World} {A : Around} {E : Value → Shared → Prop} {s : Shared}
/-- a for statement, by an invariant of one's own -/
theorem for_own {target iter : PySem.Expr} {body : List Stmt} {pos : Pos} {env : Env} {Q : Flow → Shared → Prop}
    (hs : ∀ x, foldedSetIterable iter env x = pure x) (ht : ∀ it v, letOwnedTupleGo target it v = pure ())
    (h : wpAny (MM w) A (eval iter env) (fun xv s₀ => wpAny (MM w) A (pyIter xv) (fun it s₁ => ∃ I fp wr n P St, ∃ J : Nat → Shared → Prop, it = .ref I ∧ Walks Pg w A I fp wr n P St ∧ St 0 s₁.heap ∧ J 0 s₁ ∧
      (∀ i v s h' tk, i < n → St i s.heap → J i s → P i v → St (i + 1) h' → Kb wr s.heap h' →
        wpAny (MM w) A (assign target env v) (fun _ s₃ => wpAny (MM w) A (execs body env) (fun f s₅ => Stp (f = .next ∧ J (i + 1) s₅ ∧ St (i + 1) s₅.heap)) NoE s₃) NoE { s with heap := h', toks := tk }) ∧
      (∀ s h' tk, St n s.heap → J n s → Kb wr s.heap h' → Q .next { s with heap := h', toks := tk })) E s₀) E s) :
    wpAny (MM w) A (exec (.For target iter body [] pos) env) Q E s := by
  refine wpAny_For (wpAny_mono h (fun xv s₀ h₀ => wpAny_mono h₀ (fun it s₁ h₁ => ?_) fun _ _ e => e) fun _ _ e => e) hs
  obtain ⟨I, fp, wr, n, P, St, J, rfl, W, st0, j0, step, fin⟩ := h₁
  refine codeAny_forLoop (fun k s' => ∃ i, i ≤ n ∧ k = n + 1 - i ∧ St i s'.heap ∧ J i s') ?_ (n + 1) ⟨0, Nat.zero_le _, rfl, st0, j0⟩ (ht _)
  rintro k s' ⟨i, hi, rfl, st, j⟩
  by_cases hlt : i < n
  · refine W.item i s' _ _ hlt st fun v h' tk hP st' hk => ?_
    refine wpAny_mono (step i v s' h' tk hlt st j hP st' hk) (fun _ s₃ h₃ => wpAny_mono h₃ (fun f s₅ h₅ => ?_) fun _ _ e => e.elim) fun _ _ e => e.elim
    obtain ⟨rfl, j5, k5⟩ := h₅.p
    exact ⟨n + 1 - (i + 1), by omega, i + 1, hlt, rfl, k5, j5⟩
  · have : i = n := by omega
    subst this
    exact W.done s' _ _ st fun h' tk hk => wpAny_execs_nil (fin s' h' tk st j hk)
/-- what a loop's own iterator is -/
def ItO (o : Obj) : Prop := (o.cls = .type "list_iterator" ∧ ∃ (l : Addr) (i : Int), o.data = .fields #[.ref l, .int i 0]) ∨ (o.cls = .type "range_iterator" ∧ ∃ x y z, o.data = .fields #[rawInt x, rawInt y, rawInt z])
def Stab (h₀ : Heap) (J : Nat → Shared → Prop) : Prop := ∀ i s h' tk, J i s → (∀ b o, s.heap.get? b = some o → ¬ (ItO o ∧ h₀.get? b = none) → h'.get? b = some o) → J i { s with heap := h', toks := tk }
/-- over a list -/
theorem for_list (hh : A.handled = none) {target iter : PySem.Expr} {body : List Stmt} {pos : Pos} {env : Env} {Q : Flow → Shared → Prop}
    (hs : ∀ x, foldedSetIterable iter env x = pure x) (ht : ∀ it v, letOwnedTupleGo target it v = pure ())
    (h : wpAny (MM w) A (eval iter env) (fun xv s₀ => Stopped (∃ l items, ∃ J : Nat → Shared → Prop, xv = .ref l ∧ s₀.heap.IsList l items ∧ Stab s₀.heap J ∧ J 0 s₀ ∧
      (∀ I i v s, items[i]? = some v → J i s → s.heap.IsListIter I l (i + 1) → s.heap.IsList l items →
        wpAny (MM w) A (assign target env v) (fun _ s₃ => wpAny (MM w) A (execs body env) (fun f s₅ => Stp (f = .next ∧ J (i + 1) s₅ ∧ s₅.heap.IsListIter I l (i + 1) ∧ s₅.heap.IsList l items)) NoE s₃) NoE s) ∧
      (∀ s, J items.size s → s.heap.IsList l items → Q .next s))) E s) :
    wpAny (MM w) A (exec (.For target iter body [] pos) env) Q E s := by
  refine for_own hs ht (wpAny_mono h (fun xv s₀ h₀ => ?_) fun _ _ e => e)
  obtain ⟨l, items, J, rfl, hl, stab, j0, step, fin⟩ := h₀
  have hlt : l < s₀.heap.objs.size := by obtain ⟨o, e, _⟩ := hl; exact Heap.lt_size e
  have kI : ∀ {i : Nat} {hp h' : Heap}, hp.IsListIter s₀.heap.objs.size l i → Kb [s₀.heap.objs.size] hp h' → ∀ b o, hp.get? b = some o → ¬ (ItO o ∧ s₀.heap.get? b = none) → h'.get? b = some o := fun {i hp h'} hit hk b o e n => hk b o (fun q => by
    rw [List.mem_singleton.mp q] at e
    obtain ⟨o', e', c, dd⟩ := hit
    rw [e] at e'; cases e'
    exact n ⟨.inl ⟨c, _, _, dd⟩, by rw [List.mem_singleton.mp q]; exact Heap.get?_none_of_le (Nat.le_refl _)⟩) e
  refine wpAny_pyIter_list hl ⟨s₀.heap.objs.size, _, _, _, _, _, J, rfl, Walks.list hh _ l (Nat.ne_of_lt hlt) items, ⟨⟨_, Heap.get?_push_size _ rfl, rfl, rfl⟩, let ⟨o, e, r⟩ := hl; ⟨o, Heap.get?_push_of_some _ e, r⟩⟩,
    stab 0 s₀ _ _ j0 (fun b o e _ => Heap.get?_push_of_some _ e), ?_, ?_⟩
  · rintro i v s h' tk hi ⟨it, il⟩ j hv ⟨it', il'⟩ hk
    exact step _ i v { s with heap := h', toks := tk } hv (stab i s h' tk j (kI it hk)) it' il'
  · rintro s h' tk ⟨it, il⟩ j hk
    exact fin _ (stab _ s h' tk j (kI it hk)) (il.at fun o e => hk _ _ (fun q => Nat.ne_of_lt hlt (List.mem_singleton.mp q)) e)
/-- over a range from 0 -/
theorem for_range (hh : A.handled = none) {target iter : PySem.Expr} {body : List Stmt} {pos : Pos} {env : Env} {Q : Flow → Shared → Prop}
    (hs : ∀ x, foldedSetIterable iter env x = pure x) (ht : ∀ it v, letOwnedTupleGo target it v = pure ())
    (h : wpAny (MM w) A (eval iter env) (fun xv s₀ => Stopped (∃ r a n t u v, ∃ J : Nat → Shared → Prop, xv = .ref r ∧ IsRange s₀.heap r a (a + (n : Nat)) 1 t u v ∧ 0 ≤ a ∧ a + (n : Int) < 2 ^ 31 ∧ Stab s₀.heap J ∧ J 0 s₀ ∧
      (∀ I (i : Nat) t s, i < n → J i s → IsRangeIter s.heap I (a + ((i + 1 : Nat) : Int) * 1) ((n : Int) - ((i + 1 : Nat) : Int)) 1 →
        wpAny (MM w) A (assign target env (.int (a + (i : Int) * 1) t)) (fun _ s₃ => wpAny (MM w) A (execs body env) (fun f s₅ => Stp (f = .next ∧ J (i + 1) s₅ ∧ IsRangeIter s₅.heap I (a + ((i + 1 : Nat) : Int) * 1) ((n : Int) - ((i + 1 : Nat) : Int)) 1)) NoE s₃) NoE s) ∧
      (∀ s, J n s → Q .next s))) E s) :
    wpAny (MM w) A (exec (.For target iter body [] pos) env) Q E s := by
  refine for_own hs ht (wpAny_mono h (fun xv s₀ h₀ => ?_) fun _ _ e => e)
  obtain ⟨r, a, n, t, u, v, J, rfl, hr, ha, hn, stab, j0, step, fin⟩ := h₀
  have hsize : Builtin.Range.rangeSize a (a + (n : Nat)) 1 = n := by
    unfold Builtin.Range.rangeSize
    rw [if_pos (by decide)]
    split
    · rw [Int.ediv_one]; omega
    · omega
  have kI : ∀ {x y : Int} {hp h' : Heap}, IsRangeIter hp s₀.heap.objs.size x y 1 → Kb [s₀.heap.objs.size] hp h' → ∀ b o, hp.get? b = some o → ¬ (ItO o ∧ s₀.heap.get? b = none) → h'.get? b = some o := fun {x y hp h'} hit hk b o e n => hk b o (fun q => by
    rw [List.mem_singleton.mp q] at e
    have hit' : hp.get? s₀.heap.objs.size = _ := hit
    rw [e] at hit'; cases hit'
    exact n ⟨.inr ⟨rfl, _, _, _, rfl⟩, by rw [List.mem_singleton.mp q]; exact Heap.get?_none_of_le (Nat.le_refl _)⟩) e
  refine wpAny_pyIter_range hr ?_ ?_
  · unfold Builtin.Range.small Builtin.Range.rangeFitsLong
    rw [hsize]
    simp only [Bool.and_eq_true, decide_eq_true_eq, Bool.or_eq_true, if_pos (show (1 : Int) > 0 by decide)]
    refine ⟨⟨⟨⟨?_, ?_⟩, ?_⟩, ?_⟩, .inr ?_⟩ <;> constructor <;> omega
  · rw [hsize]
    refine ⟨s₀.heap.objs.size, _, _, _, _, _, J, rfl, Walks.range hh s₀.heap.objs.size a 1 n, ?_, stab 0 s₀ _ _ j0 (fun b o e _ => Heap.get?_push_of_some _ e), ?_, ?_⟩
    · show IsRangeIter _ _ _ _ _
      refine (Heap.get?_push_size _ rfl).trans ?_
      simp
    · rintro i v s h' tk hi it j ⟨ti, rfl⟩ it' hk
      exact step _ i ti { s with heap := h', toks := tk } hi (stab i s h' tk j (kI it hk)) it'
    · rintro s h' tk it j hk
      exact fin _ (stab _ s h' tk j (kI it hk))
end
/-- g, at the size of a heap that bears it: the base of a walk whose ledger is all the rest -/
def gz (g h : Heap) : Heap := hideAll h ((List.range h.objs.size).filter fun a => (g.get? a).isNone)
theorem gz_none {g h : Heap} {a : Addr} (e : g.get? a = none) : (gz g h).get? a = none := by
  by_cases hl : a < h.objs.size
  · exact hideAll_none _ (List.mem_filter.mpr ⟨List.mem_range.mpr hl, by rw [e]; rfl⟩)
  · cases q : (gz g h).get? a with
    | none => rfl
    | some o => exact absurd (Heap.lt_size (of_hideAll _ q)) hl
theorem gz_some {g h : Heap} (st : ∀ b o, g.get? b = some o → h.get? b = some o) : ∀ b o, g.get? b = some o → (gz g h).get? b = some o := fun b o e =>
  hideAll_get _ (st b o e) fun q => by
    have := (List.mem_filter.mp q).2
    rw [e] at this; cases this
theorem gz_keep {g h : Heap} : ∀ b o, (gz g h).get? b = some o → h.get? b = some o := fun b o e => of_hideAll _ e
theorem gz_size {g h : Heap} : (gz g h).objs.size ≤ h.objs.size := Nat.le_of_eq (hideAll_size _ _)
/-- an object that g does not bear is none of the base's -/
theorem Own.gz {g h h' : Heap} {a : Addr} {o : Obj} (x : Own g h' a o) : Own (gz g h) h' a o := ⟨x.at_, gz_none x.new⟩
/-- all that a heap bears beside a base and a frame -/
def restOf (h₀ : Heap) (L : Addr) (h : Heap) : List (Addr × Obj) := (List.range h.objs.size).filterMap fun a => if (h₀.get? a).isNone && a != L then (h.get? a).map fun o => (a, o) else none
theorem restOf_mem {h₀ h : Heap} {L a : Addr} {o : Obj} (e : h.get? a = some o) (e0 : h₀.get? a = none) (n : @Ne Nat a L) : (a, o) ∈ restOf h₀ L h := by
  refine List.mem_filterMap.mpr ⟨a, List.mem_range.mpr (Heap.lt_size e), ?_⟩
  rw [if_pos (by rw [e0]; simpa using n), e]; rfl
theorem restOf_of {h₀ h : Heap} {L : Addr} {q : Addr × Obj} (hm : q ∈ restOf h₀ L h) : h.get? q.1 = some q.2 ∧ @Ne Nat q.1 L ∧ h₀.get? q.1 = none := by
  obtain ⟨a, _, e⟩ := List.mem_filterMap.mp hm
  split at e
  · rename_i hc
    cases q2 : h.get? a with
    | none => rw [q2] at e; cases e
    | some o =>
      rw [q2] at e
      cases e
      simp only [Bool.and_eq_true, Option.isNone_iff_eq_none, bne_iff_ne, ne_eq] at hc
      exact ⟨q2, hc.2, hc.1⟩
  · cases e
theorem news_all {h₀ h : Heap} {L : Addr} {conc : List (Addr × Obj)} (hc : ∀ q ∈ conc, h.get? q.1 = some q.2 ∧ @Ne Nat q.1 L ∧ h₀.get? q.1 = none) : News h₀ L h (conc ++ restOf h₀ L h) := fun q hq => by
  rcases List.mem_append.mp hq with hq | hq
  · exact hc q hq
  · exact restOf_of hq
/-- a walk whose ledger bears all the rest keeps all that was -/
theorem keep_rest {h₀ h h' : Heap} {L : Addr} {m' : Str → Option Value} {news : List (Addr × Obj)} (F : Fr h₀ L h' m') (N : News h₀ L h' news) (hold : ∀ b o, h₀.get? b = some o → h.get? b = some o) (sub : ∀ q ∈ restOf h₀ L h, q ∈ news) :
    ∀ b o, @Ne Nat b L → h.get? b = some o → h'.get? b = some o := fun b o n e => by
  cases q : h₀.get? b with
  | some o' =>
    have := hold _ _ q
    rw [e] at this; cases this
    exact F.keep _ _ q
  | none => exact (N (b, o) (sub _ (restOf_mem e q n))).1
theorem conc2 {h₀ h : Heap} {L a b : Addr} {oa ob : Obj} (xa : h.get? a = some oa ∧ @Ne Nat a L ∧ h₀.get? a = none) (xb : h.get? b = some ob ∧ @Ne Nat b L ∧ h₀.get? b = none) : ∀ q ∈ [(a, oa), (b, ob)], h.get? q.1 = some q.2 ∧ @Ne Nat q.1 L ∧ h₀.get? q.1 = none := by
  intro q hq
  simp only [List.mem_cons, List.not_mem_nil, or_false] at hq
  rcases hq with rfl | rfl <;> assumption
theorem ns_ne {h : Heap} {L a : Addr} {m : Str → Option Value} {o : Obj} (hn : h.Ns L m) (e : h.get? a = some o) (hd : ∀ es ep, o.data ≠ .dict es ep) : @Ne Nat a L := fun q => by
  obtain ⟨o', es, ep, e', d, _⟩ := hn
  rw [show a = L from q, e'] at e; cases e
  exact hd _ _ d
theorem it_no {o : Obj} {c : String} (h : o.cls = .type c) (n1 : c ≠ "list_iterator") (n2 : c ≠ "range_iterator") : ¬ ItO o := fun q => by
  rcases q with ⟨q, _⟩ | ⟨q, _⟩ <;> (rw [h] at q; injection q with q)
  · exact n1 q
  · exact n2 q
theorem BF.notIt {w : World} {e b z : Int} {sp : Addr} {g h : Heap} {a : Fa} {m k : Int} (B : BF w e b z sp g h a m k) : ∀ b o, b = a.x ∨ b = a.d ∨ b = a.l → h.get? b = some o → ¬ ItO o := fun b o hb e => by
  rcases hb with rfl | rfl | rfl
  · rw [B.x.at_] at e; cases e
    rintro (⟨q, _⟩ | ⟨q, _⟩) <;> cases q
  · obtain ⟨t, D⟩ := B.d
    rw [D.at_] at e; cases e
    exact it_no rfl (by decide) (by decide)
  · obtain ⟨t, n, D⟩ := B.l
    rw [D.at_] at e; cases e
    exact it_no rfl (by decide) (by decide)
theorem keep_rest0 {h₀ h h' : Heap} {L : Addr} {m' : Str → Option Value} {news : List (Addr × Obj)} (F : Fr h₀ L h' m') (N : News h₀ L h' news) (hold : ∀ b o, h₀.get? b = some o → h.get? b = some o) (sub : ∀ q ∈ restOf h₀ h.objs.size h, q ∈ news) :
    ∀ b o, h.get? b = some o → h'.get? b = some o := fun b o e => by
  cases q : h₀.get? b with
  | some o' =>
    have := hold _ _ q
    rw [e] at this; cases this
    exact F.keep _ _ q
  | none => exact (N (b, o) (sub _ (restOf_mem e q (Nat.ne_of_lt (Heap.lt_size e))))).1
theorem no_both {α : Type} {x : Option α} {o : α} (h : x = some o) (h' : x = none) : False := by rw [h] at h'; cases h'
theorem list_ne {h : Heap} {L a : Addr} {m : Str → Option Value} {items : Array Value} (hn : h.Ns L m) (hl : h.IsList a items) : @Ne Nat a L := by
  obtain ⟨o, e, c, n, d⟩ := hl
  exact ns_ne hn e (by rw [d]; nofun)
theorem iter_ne {h : Heap} {L a l : Addr} {i : Nat} {m : Str → Option Value} (hn : h.Ns L m) (hl : h.IsListIter a l i) : @Ne Nat a L := by
  obtain ⟨o, e, c, d⟩ := hl
  exact ns_ne hn e (by rw [d]; nofun)
end
example : True ∧ True := by walk1 <;> trivial
section
local macro_rules | `(tactic| walk_at "m:flush") => `(tactic| trivial)
example : True ∧ True := by walk1 <;> trivial
end
section
local macro_rules | `(tactic| walk_at "subscriptTail Name Constant ref int") => `(tactic| walk_at "m:item")
local macro_rules | `(tactic| walk_at "exec For Name Subscript cons nil") => `(tactic| (with_reducible refine stop_here ?_))
local macro_rules | `(tactic| walk_at "m:has") => `(tactic| first | assumption | exact if_pos rfl | (refine (if_neg (by decide)).trans ?_; walk_at "m:has"))
theorem pick1 {x : Value} {xs : List Value} : kms_pick (x :: xs).toArray.toList (some 1) none = xs := by
  have h : min (1 : Int).toNat (xs.length + 1) = 1 := by
    show min 1 (xs.length + 1) = 1
    omega
  simp [kms_pick, kms_lo, kms_hi]
local macro_rules | `(tactic| walk_at "subscriptTail Name Slice ref ref") => `(tactic| ((with_reducible show wpAny _ _ (subscriptTail _ (PySem.Expr.Slice _ _ none _) (Value.ref _) (Value.ref _)) _ _ _); k_dflt (refine' kms_slice_lit ?F ?N ?l ?p ?q ?e ?_ ?s ?t ?z; (case F => k_asm); (case N => k_asm); (case l => exact m_list (by k_asm) (by k_mem)); (case p => kmk_part); (case q => kmk_part); (case e => exact pick1); (case s => with_unfolding_all rfl); (case t => kmk_pure); (case z => assumption)); intro D' h' F' N' l1; (try k_lt l1); (try k_sweep)))
theorem and_fold {m : Int} {bs : List (Fa × Int × Int)} (h : 0 ≤ m ∧ m < 128) (hb : ∀ p ∈ bs, 0 ≤ p.2.1 ∧ p.2.1 < 128) : 0 ≤ bs.foldl (fun m q => Builtin.bitAnd m q.2.1) m ∧ bs.foldl (fun m q => Builtin.bitAnd m q.2.1) m < 128 := by
  induction bs generalizing m with
  | nil => exact h
  | cons q r ih => exact ih (and_small h (hb q (.head _))) fun p hp => hb p (.tail _ hp)
theorem fold_take {bs : List (Fa × Int × Int)} {i : Nat} {q : Fa × Int × Int} {m : Int} (h : bs[i]? = some q) : (bs.take (i + 1)).foldl (fun m q => Builtin.bitAnd m q.2.1) m = Builtin.bitAnd ((bs.take i).foldl (fun m q => Builtin.bitAnd m q.2.1) m) q.2.1 := by
  rw [List.take_add_one, h]
  simp
theorem BF.ne_L {w : World} {e b z : Int} {sp : Addr} {h h' : Heap} {f : Fa} {m k : Int} {L : Addr} {mm : Str → Option Value} (B : BF w e b z sp h h' f m k) (hn : h.Ns L mm) : @Ne Nat f.x L ∧ @Ne Nat f.d L ∧ @Ne Nat f.l L := by
  obtain ⟨oL, _, _, eL, _⟩ := hn
  obtain ⟨_, d⟩ := B.d
  obtain ⟨_, _, l⟩ := B.l
  refine ⟨fun q => ?_, fun q => ?_, fun q => ?_⟩
  · have := B.x.new; rw [show f.x = L from q, eL] at this; cases this
  · have := d.new; rw [show f.d = L from q, eL] at this; cases this
  · have := l.new; rw [show f.l = L from q, eL] at this; cases this
set_option maxHeartbeats 4000000 in
theorem c_met {w : World} {g : Heap} {A : Around} {s : Shared} {R : Result → Shared → Prop} {e b z far : Int} {sp rl : Addr} {q0 : Fa × Int × Int} {bs : List (Fa × Int × Int)} {n : Nat} (cx : Cx w g) (st : ∀ b o, g.get? b = some o → s.heap.get? b = some o)
    (r : Rm A 30 30) (hS : Sz e b z) (S : Sp w g s.heap sp far) (L1 : Own g s.heap rl (PySem.W.listOf ((q0 :: bs).map fun q => Value.ref q.1.x).toArray n)) (Ba : ∀ q ∈ q0 :: bs, BF w e b z sp g s.heap q.1 q.2.1 q.2.2) (hlen : bs.length < 10) (hm : ∀ q ∈ q0 :: bs, 0 ≤ q.2.1 ∧ q.2.1 < 128)
    (hR : ∀ f j s', Af [] s s' → (f = q0.1 ∨ s.heap.get? f.d = none) → BF w e b z sp g s'.heap f (bs.foldl (fun m q => Builtin.bitAnd m q.2.1) q0.2.1) j → R (.ok (.ret (.ref f.x))) s') : codeAny (MM w) A (.call (.ref 593) ⟨[.ref rl], []⟩) R s := by
  refine codeAny_aM r ?_
  rw [List.map_cons] at L1
  have hsz : (Value.ref q0.1.x :: bs.map fun q => Value.ref q.1.x).toArray.size ≤ sizeLine := by
    rw [List.size_toArray, List.length_cons, List.length_map]; exact Nat.le_trans (show bs.length + 1 ≤ 11 by omega) (by decide)
  have CX := cx.keeps (gz_some st)
  have X := CX.K
  obtain ⟨loose, mean, mg, mb, T⟩ := CX.T
  have N : ∀ q ∈ (rl, PySem.W.listOf (Value.ref q0.1.x :: bs.map fun q => Value.ref q.1.x).toArray n) :: restOf (gz g s.heap) s.heap.objs.size s.heap, s.heap.get? q.1 = some q.2 ∧ (gz g s.heap).get? q.1 = none := fun q hq => by
    rcases List.mem_cons.mp hq with h | hq
    · subst h; exact ⟨L1.at_, gz_none L1.new⟩
    · exact ⟨(restOf_of hq).1, (restOf_of hq).2.2⟩
  refine' enterM (K := frag.heap_1 w.params) (binds := [(Str.ofString "row", Value.ref rl)]) X T gz_keep gz_size N ?k6 ?k7 ?k8 ?k9 ?kB ?_ ?c2 ?c3 ?c4 ?c5
  (case k6 => k_is); (case k7 => k_is); (case k8 => decide); (case k9 => exact BindsTo.of_eq rfl); (case c5 => decide); (case kB => exact locs rfl); (case c2 => exact rfl); (case c3 => exact rfl); (case c4 => exact rfl)
  intro L h₁ F N1 l1 l2 l3
  try dsimp only
  (try k_unmd)
  (try k_fold)
  walk_at "m:steps"
  unfold Stopped
  refine for_list rfl (fun _ => rfl) (fun _ _ => rfl) ?_
  walk_at "m:steps"
  unfold Stopped
  (rename Fr _ _ _ _ => F2); (rename News _ _ _ _ => N2)
  have ltL : ∀ {b o}, s.heap.get? b = some o → @Ne Nat b L := fun e => Nat.ne_of_lt (Nat.lt_of_lt_of_le (Heap.lt_size e) l2)
  have k2 := keep_rest0 F2 N2 gz_keep (fun q hq => .tail _ (.tail _ hq))
  refine ⟨_, _, fun i s' => ∃ (f : Fa) (j : Int) (m' : Str → Option Value), Fr (gz g s.heap) L s'.heap m' ∧ m' (Str.ofString "met") = some (.ref f.x) ∧ BF w e b z sp g s'.heap f ((bs.take i).foldl (fun m q => Builtin.bitAnd m q.2.1) q0.2.1) j ∧
    (@Ne Nat f.x L ∧ @Ne Nat f.d L ∧ @Ne Nat f.l L) ∧ (∀ b o, s.heap.get? b = some o → s'.heap.get? b = some o) ∧ s'.os = s.os ∧ (AllBare s.gens → AllBare s'.gens) ∧ (f = q0.1 ∨ s.heap.get? f.d = none), rfl, News.isList N2 (by k_mem), ?_, ?_, ?_, ?_⟩
  · rintro i s' h' tk ⟨f, j, m', F', hm', B', nL, k', ho, hg, hn⟩ hk
    refine ⟨f, j, m', ⟨F'.ns.at' fun o e => hk _ _ e (fun q => ?_), fun b o e => hk _ _ (F'.keep _ _ e) (fun q => ?_), F'.above⟩, hm', B'.kp (fun b o hb e => hk _ _ e (fun q => B'.notIt b o hb e q.1)), nL, fun b o e => hk _ _ (k' _ _ e) (fun q => ?_), ho, hg, hn⟩
    · obtain ⟨_, _, _, e2, _⟩ := F2.ns
      exact no_both e2 q.2
    · exact no_both (F2.keep _ _ e) q.2
    · exact no_both (k2 _ _ e) q.2
  · have B0 := Ba q0 (.head _)
    exact ⟨q0.1, q0.2.2, _, F2, rfl, B0.kp fun b o _ => k2 b o, ⟨ltL B0.x.at_, let ⟨_, d⟩ := B0.d; ltL d.at_, let ⟨_, _, d⟩ := B0.l; ltL d.at_⟩, k2, rfl, id, .inl rfl⟩
  · rintro I i v sT hv ⟨f, j, m', F', hm', B', nL, k', ho, hg, hn⟩ hI hD
    obtain ⟨q, hq, rfl⟩ : ∃ q, bs[i]? = some q ∧ v = Value.ref q.1.x := by
      rw [List.getElem?_toArray, List.getElem?_map] at hv
      cases e : bs[i]? with
      | none => rw [e] at hv; cases hv
      | some q => rw [e] at hv; cases hv; exact ⟨q, rfl, rfl⟩
    obtain ⟨fx, ⟨tf, fd⟩, fl⟩ := id B'
    obtain ⟨hT, gsT, dT, tT, osT⟩ := sT
    dsimp only at *
    subst ho
    have N' := news_all (h₀ := gz g s.heap) (conc := [(f.x, instObj 337 f.d), (f.d, dictOf (bfEs w.params tf e b z sp f.l j) 11)]) (conc2 ⟨fx.at_, nL.1, gz_none fx.new⟩ ⟨fd.at_, nL.2.1, gz_none fd.new⟩)
    simp only [List.cons_append, List.nil_append] at N'
    have hold := F'.keep
    have nI := iter_ne F'.ns hI
    have nD := list_ne F'.ns hD
    clear F2 N2
    walk_at "m:steps"
    unfold Stopped
    (rename Fr _ _ _ _ => F4); (rename News _ _ _ _ => N4)
    have k4 := keep_rest F4 N4 (fun b o e => hold b o e) (fun q hq => .tail _ (.tail _ hq))
    have kk : ∀ b o, s.heap.get? b = some o → _ := fun b o e => k4 b o (ltL e) (k' b o e)
    have hq' : q ∈ q0 :: bs := .tail _ (List.mem_of_getElem? hq)
    have Bq := (Ba q hq').kp fun b o _ => kk b o
    have Bf := B'.kp fun b o hb => k4 b o (by rcases hb with rfl | rfl | rfl; (first | exact nL.1); (first | exact nL.2.1); (first | exact nL.2.2))
    refine c_inter cx (fun b o e => kk b o (st b o e)) (rm_deep (by decide) (by decide)) hS Bf Bq (S.kp kk) (and_fold (hm q0 (.head _)) fun p hp => hm p (.tail _ (List.mem_of_mem_take hp))) (hm q hq') ?_
    intro f2 s5 j2 af Bf2
    have hI5 := (hI.at fun o e => k4 _ o nI e).at fun o e => af.keep _ _ e (by simp)
    have hD5 := (hD.at fun o e => k4 _ o nD e).at fun o e => af.keep _ _ e (by simp)
    have kk5 : ∀ b o, s.heap.get? b = some o → s5.heap.get? b = some o := fun b o e => af.keep _ _ (kk b o e) (by simp)
    have F5 := fr_af F4 af
    have hold5 := F5.keep
    have nf2 := Bf2.ne_L F4.ns
    have nf3 : s.heap.get? f2.d = none := by obtain ⟨_, d2⟩ := Bf2.d; exact none_back kk d2.new
    have Bg := Bf2.back (fun b o e => kk b o (st b o e))
    have N5 := news_all (h₀ := gz g s.heap) (L := L) (h := s5.heap) (conc := []) (fun q hq => absurd hq List.not_mem_nil)
    simp only [List.nil_append] at N5
    have hos5 := af.os
    have hgs5 := af.gens
    clear F4 N4 af Bf2
    obtain ⟨h5, gs5, d5, t5, os5⟩ := s5
    dsimp only at hos5 hgs5 F5 N5 kk5 hI5 hD5 Bg hold5 ⊢
    subst hos5
    walk_at "m:steps"
    (rename Fr _ _ _ _ => F9); (rename News _ _ _ _ => N9)
    have k9 := keep_rest F9 N9 hold5 (fun q hq => hq)
    have Bg9 := Bg.kp fun b o hb => k9 b o (by rcases hb with rfl | rfl | rfl; (first | exact nf2.1); (first | exact nf2.2.1); (first | exact nf2.2.2))
    rw [← fold_take hq] at Bg9
    exact ⟨rfl, ⟨f2, j2, _, F9, by walk_at "m:has", Bg9, nf2, fun b o e => k9 b o (ltL e) (kk5 b o e), rfl, fun x => hgs5 (hg x), .inr nf3⟩, hI5.at fun o e => k9 _ o nI e, hD5.at fun o e => k9 _ o nD e⟩
  · rintro sE ⟨f, j, m', F', hm', B', nL, k', ho, hg, hn⟩ hD
    have N' := news_all (h₀ := gz g s.heap) (L := L) (h := sE.heap) (conc := []) (fun q hq => absurd hq List.not_mem_nil)
    simp only [List.nil_append] at N'
    obtain ⟨h5, gs5, d5, t5, os5⟩ := sE
    dsimp only at *
    subst ho
    clear F2 N2
    walk_at "m:steps"
    rw [List.size_toArray, List.length_map, List.take_length] at B'
    exact hR f j _ ⟨fun b o e _ => k' b o e, rfl, hg⟩ hn B'
end
example : True ∧ True := by walk1 <;> trivial
section
local macro_rules | `(tactic| walk_at "m:flush") => `(tactic| trivial)
example : True ∧ True := by walk1 <;> trivial
end
section
theorem kc_13 {cm : Str → Option Value} {n1 n2 n3 n4 n5 n6 n7 n8 n9 n10 n11 n12 n13 : Str} {c1 c2 c3 c4 c5 c6 c7 c8 c9 c10 c11 c12 c13 : Addr} {cells : List (Addr × Obj)} (x : CellsAre cm [(n1, c1), (n2, c2), (n3, c3), (n4, c4), (n5, c5), (n6, c6), (n7, c7), (n8, c8), (n9, c9), (n10, c10), (n11, c11), (n12, c12), (n13, c13)] cells) :
    ∃ o1 o2 o3 o4 o5 o6 o7 o8 o9 o10 o11 o12 o13, cells = [(c1, o1), (c2, o2), (c3, o3), (c4, o4), (c5, o5), (c6, o6), (c7, o7), (c8, o8), (c9, o9), (c10, o10), (c11, o11), (c12, o12), (c13, o13)] ∧ o1.data = .cell (cm n1) ∧ o2.data = .cell (cm n2) ∧ o3.data = .cell (cm n3) ∧ o4.data = .cell (cm n4) ∧ o5.data = .cell (cm n5) ∧ o6.data = .cell (cm n6) ∧ o7.data = .cell (cm n7) ∧ o8.data = .cell (cm n8) ∧ o9.data = .cell (cm n9) ∧ o10.data = .cell (cm n10) ∧ o11.data = .cell (cm n11) ∧ o12.data = .cell (cm n12) ∧ o13.data = .cell (cm n13) := by
  obtain _ | ⟨h1, x⟩ := x
  obtain _ | ⟨h2, x⟩ := x
  obtain _ | ⟨h3, x⟩ := x
  obtain _ | ⟨h4, x⟩ := x
  obtain _ | ⟨h5, x⟩ := x
  obtain _ | ⟨h6, x⟩ := x
  obtain _ | ⟨h7, x⟩ := x
  obtain _ | ⟨h8, x⟩ := x
  obtain _ | ⟨h9, x⟩ := x
  obtain _ | ⟨h10, x⟩ := x
  obtain _ | ⟨h11, x⟩ := x
  obtain _ | ⟨h12, x⟩ := x
  obtain _ | ⟨h13, x⟩ := x
  cases x
  exact ⟨_, _, _, _, _, _, _, _, _, _, _, _, _, rfl, h1, h2, h3, h4, h5, h6, h7, h8, h9, h10, h11, h12, h13⟩
theorem truthy_cons {w : World} {A : Around} {E : Value → Shared → Prop} {s : Shared} {l : Addr} {x : Value} {xs : List Value} {Q : Bool → Shared → Prop} (hl : s.heap.IsList l (x :: xs).toArray) (hfit : ((x :: xs).toArray.size : Int) < 2 ^ 63)
    (h : Q true { s with toks := s.toks + 1 + 1 }) : wpAny (MM w) A (truthy (.ref l)) Q E s := wpAny_truthy_list hl hfit (by simpa using h)
local macro_rules | `(tactic| walk_at "subscriptTail Call Name nil nil BinOp ref int") => `(tactic| walk_at "m:item")
local macro_rules | `(tactic| walk_at "m:has") => `(tactic| first | assumption | exact if_pos rfl | (refine (if_neg (by decide)).trans ?_; walk_at "m:has"))
local macro_rules | `(tactic| walk_at "exec Assign cons IfExp") => `(tactic| (with_reducible refine stop_here ?_))
local macro_rules | `(tactic| walk_at "exec Assign cons Subscript") => `(tactic| (with_reducible refine stop_here ?_))
local macro_rules | `(tactic| walk_at "truthy ref") => `(tactic| ((with_reducible show wpAny _ _ (truthy (Value.ref _)) _ _ _); first | (refine truthy_cons (Fr.lst (by k_asm) (by assumption)) (by assumption) ?_) | (refine wpAny_truthy_list (Fr.lst (by k_asm) (by assumption)) ?_ ?_)))
/-- the law's def, out of the written part -/
noncomputable def lawOf (P : Params) : Option (List Stmt × Scope) := match (frag.heap_1 P).lookup 598 with
  | some ⟨_, _, .func fd, _⟩ => (match fd.body with
    | .stmts b => some (b, fd.scope)
    | _ => none)
  | _ => none
noncomputable def lawBody (P : Params) : List Stmt := match lawOf P with | some x => x.1 | none => []
noncomputable def lawScope (P : Params) : Scope := match lawOf P with | some x => x.2 | none => { kind := .function, names := [], isGenerator := false, isCoroutine := false }
noncomputable abbrev lawEnv (P : Params) (L : Addr) : Env := envOfC (Str.ofString "law") (lawScope P) L 598 (.ref 597)
abbrev lawPost (R : Result → Shared → Prop) : Flow → Shared → Prop := fun fl s' => R (.ok (.ret (match fl with | .ret v => v | _ => .none))) s'
/-- the addresses of the law's cells -/
abbrev lawCells (L : Addr) (o1 o2 o3 o4 o5 o6 o7 o8 o9 o10 o11 o12 o13 : Obj) : List (Addr × Obj) := [(L + 1 + 1 + 1 + 1 + 1 + 1 + 1 + 1 + 1 + 1 + 1 + 1 + 1, o1), (L + 1 + 1 + 1 + 1 + 1 + 1 + 1 + 1 + 1 + 1 + 1 + 1, o2), (L + 1 + 1 + 1 + 1 + 1 + 1 + 1 + 1 + 1 + 1 + 1, o3), (L + 1 + 1 + 1 + 1 + 1 + 1 + 1 + 1 + 1 + 1, o4), (L + 1 + 1 + 1 + 1 + 1 + 1 + 1 + 1 + 1, o5), (L + 1 + 1 + 1 + 1 + 1 + 1 + 1 + 1, o6), (L + 1 + 1 + 1 + 1 + 1 + 1 + 1, o7), (L + 1 + 1 + 1 + 1 + 1 + 1, o8), (L + 1 + 1 + 1 + 1 + 1, o9), (L + 1 + 1 + 1 + 1, o10), (L + 1 + 1 + 1, o11), (L + 1 + 1, o12), (L + 1, o13)]
/-- the law's entry -/
structure LawIn (w : World) (g : Heap) (s : Shared) (script : Addr) (ns : List Int) : Prop where
  cx : Cx w g
  st : ∀ b o, g.get? b = some o → s.heap.get? b = some o
  c1 : CodeHd g 575 571
  c2 : CodeHd g 423 419
  c3 : CodeHd g 519 515
  t1 : Own g s.heap 571 (PySem.W.tabObj #[])
  t2 : Own g s.heap 419 (PySem.W.tabObj #[])
  t3 : Own g s.heap 515 (PySem.W.tabObj #[])
  sc : ∃ vs, g.IsList script vs.toArray ∧ IntsAre vs ns
  len : ns.length ≤ 63
  bare : AllBare s.gens
  all : ∀ b o, s.heap.get? b = some o → g.get? b = some o ∨ b ∈ [571, 419, 515]
set_option maxHeartbeats 4000000 in
theorem c_law1 {w : World} {g : Heap} {A : Around} {s : Shared} {R : Result → Shared → Prop} {script : Addr} {ns : List Int} (I : LawIn w g s script ns)
    (r : Rm A 10 10)
    (next : ∀ L hd th e b z te tb tz m' o1 o2 o3 o4 o5 o6 o7 o8 o9 o10 o11 o12 o13 h' tk', s.heap.objs.size ≤ L → Sz e b z → m' (Str.ofString "head") = some (.int hd th) → m' (Str.ofString "script") = some (.ref script) → m' (Str.ofString "elements") = some (.int e te) →
      o13.data = .cell (some (.int b tb)) → o12.data = .cell (some (.int z tz)) → o1.data = .cell none → o2.data = .cell none → o3.data = .cell none → o4.data = .cell none → o5.data = .cell none → o6.data = .cell none → o7.data = .cell none → o8.data = .cell none → o9.data = .cell none → o10.data = .cell none → o11.data = .cell none →
      Fr (gz g s.heap) L h' m' → News (gz g s.heap) L h' (lawCells L o1 o2 o3 o4 o5 o6 o7 o8 o9 o10 o11 o12 o13 ++ [(571, PySem.W.tabObj #[]), (419, PySem.W.tabObj #[]), (515, PySem.W.tabObj #[])]) →
      Stp (wpAny (MM w) ((aM 10 10).deeper (lawEnv w.params L)) (execs ((lawBody w.params).drop 2) (lawEnv w.params L)) (lawPost R) (fun _ _ => False) { s with heap := h', toks := tk' })) :
    codeAny (MM w) A (.call (.ref 598) ⟨[.ref script], []⟩) R s := by
  refine codeAny_aM r ?_
  have st := I.st
  have CX := I.cx.keeps (gz_some st)
  have X := CX.K
  obtain ⟨loose, mean, mg, mb, T⟩ := CX.T
  obtain ⟨vs, hsl0, hsi⟩ := I.sc
  have hsl : (gz g s.heap).IsList script vs.toArray := hsl0.at fun o e => gz_some st _ _ e
  have N : ∀ q ∈ [((571 : Addr), PySem.W.tabObj #[]), (419, PySem.W.tabObj #[]), (515, PySem.W.tabObj #[])], s.heap.get? q.1 = some q.2 ∧ (gz g s.heap).get? q.1 = none := fun q hq => by
    simp only [List.mem_cons, List.not_mem_nil, or_false] at hq
    rcases hq with rfl | rfl | rfl
    · exact ⟨I.t1.at_, gz_none I.t1.new⟩
    · exact ⟨I.t2.at_, gz_none I.t2.new⟩
    · exact ⟨I.t3.at_, gz_none I.t3.new⟩
  refine' enterMC (K := frag.heap_1 w.params) (binds := [(Str.ofString "script", Value.ref script)]) X T gz_keep gz_size N ?k6 ?k7 ?k8 ?k9 ?kB ?kD ?_ ?c2 ?c3 ?c4
  (case k6 => k_is); (case k7 => k_is); (case k8 => decide); (case k9 => exact BindsTo.of_eq rfl); (case kB => exact rfl); (case kD => decide +kernel); (case c2 => exact rfl); (case c3 => exact rfl); (case c4 => exact rfl)
  intro L h₁ tk cells F N' Y l1 l2
  k_lt l1
  obtain ⟨o1, o2, o3, o4, o5, o6, o7, o8, o9, o10, o11, o12, o13, hE, d1, d2, d3, d4, d5, d6, d7, d8, d9, d10, d11, d12, d13⟩ := kc_13 Y
  subst hE
  clear Y
  simp only [List.cons_append, List.nil_append] at N'
  try dsimp only
  (try k_unmd)
  (try k_fold)
  walk_at "m:steps"
  unfold Stopped
  refine wpAny_mono (Q := fun fl s' => Stp (fl = .next ∧ ∃ hd th m' h' tk', s' = { s with heap := h', toks := tk' } ∧ m' (Str.ofString "head") = some (.int hd th) ∧ m' (Str.ofString "script") = some (.ref script) ∧ Fr (gz g s.heap) L h' m' ∧ News (gz g s.heap) L h' [(L + 1 + 1 + 1 + 1 + 1 + 1 + 1 + 1 + 1 + 1 + 1 + 1 + 1, o1), (L + 1 + 1 + 1 + 1 + 1 + 1 + 1 + 1 + 1 + 1 + 1 + 1, o2), (L + 1 + 1 + 1 + 1 + 1 + 1 + 1 + 1 + 1 + 1 + 1, o3), (L + 1 + 1 + 1 + 1 + 1 + 1 + 1 + 1 + 1 + 1, o4), (L + 1 + 1 + 1 + 1 + 1 + 1 + 1 + 1 + 1, o5), (L + 1 + 1 + 1 + 1 + 1 + 1 + 1 + 1, o6), (L + 1 + 1 + 1 + 1 + 1 + 1 + 1, o7), (L + 1 + 1 + 1 + 1 + 1 + 1, o8), (L + 1 + 1 + 1 + 1 + 1, o9), (L + 1 + 1 + 1 + 1, o10), (L + 1 + 1 + 1, o11), (L + 1 + 1, o12), (L + 1, o13), (571, PySem.W.tabObj #[]), (419, PySem.W.tabObj #[]), (515, PySem.W.tabObj #[])])) ?_ ?_ (fun _ _ e => e)
  · have hvl : vs.length ≤ 63 := by rw [hsi.length]; exact I.len
    cases hsi with
    | nil =>
      refine wpAny_Assign_Name ?_
      walk_at "m:steps"
      (rename Fr _ _ _ _ => F9); (rename News _ _ _ _ => N9)
      exact ⟨⟨rfl, 0, _, _, _, _, rfl, if_pos rfl, rfl, F9, N9⟩⟩
    | cons hd th hr =>
      rename_i vs' _
      have hfit : ((Value.int hd th :: vs').toArray.size : Int) < 2 ^ 63 := by rw [List.size_toArray]; omega
      refine wpAny_Assign_Name ?_
      walk_at "m:steps"
      (rename Fr _ _ _ _ => F9); (rename News _ _ _ _ => N9)
      exact ⟨⟨rfl, _, _, _, _, _, rfl, if_pos rfl, rfl, F9, N9⟩⟩
  rintro fl s' ⟨⟨rfl, hd, th, m1, h2, tk2, rfl, a1, a2, F2, N2⟩⟩
  clear F N'
  dsimp only
  walk_at "m:steps"
  unfold Stopped
  refine wpAny_mono (Q := fun fl s' => Stp (fl = .next ∧ ∃ e b z te tb tz m' o1' o2' h' tk', Sz e b z ∧ s' = { s with heap := h', toks := tk' } ∧ m' (Str.ofString "head") = some (.int hd th) ∧ m' (Str.ofString "script") = some (.ref script) ∧ m' (Str.ofString "elements") = some (.int e te) ∧ o1'.data = .cell (some (.int b tb)) ∧ o2'.data = .cell (some (.int z tz)) ∧ Fr (gz g s.heap) L h' m' ∧ News (gz g s.heap) L h' [(L + 1 + 1 + 1 + 1 + 1 + 1 + 1 + 1 + 1 + 1 + 1 + 1 + 1, o1), (L + 1 + 1 + 1 + 1 + 1 + 1 + 1 + 1 + 1 + 1 + 1 + 1, o2), (L + 1 + 1 + 1 + 1 + 1 + 1 + 1 + 1 + 1 + 1 + 1, o3), (L + 1 + 1 + 1 + 1 + 1 + 1 + 1 + 1 + 1 + 1, o4), (L + 1 + 1 + 1 + 1 + 1 + 1 + 1 + 1 + 1, o5), (L + 1 + 1 + 1 + 1 + 1 + 1 + 1 + 1, o6), (L + 1 + 1 + 1 + 1 + 1 + 1 + 1, o7), (L + 1 + 1 + 1 + 1 + 1 + 1, o8), (L + 1 + 1 + 1 + 1 + 1, o9), (L + 1 + 1 + 1 + 1, o10), (L + 1 + 1 + 1, o11), (L + 1 + 1, o2'), (L + 1, o1'), (571, PySem.W.tabObj #[]), (419, PySem.W.tabObj #[]), (515, PySem.W.tabObj #[])])) ?_ ?_ (fun _ _ e => e)
  · refine PyProof.Rows.Assign_Tuple ?_
    walk_at "m:steps"
    unfold Stopped
    walk_at "m:inline"
    walk_at "m:steps"
    all_goals ((rename Fr _ _ _ _ => F9); (rename News _ _ _ _ => N9))
    · exact ⟨⟨rfl, _, _, _, _, _, _, _, _, _, _, _, .inl ⟨rfl, rfl, rfl⟩, rfl, by walk_at "m:has", by walk_at "m:has", by walk_at "m:has", by assumption, by assumption, F9, fun q hq => N9 q (by repeat (first | exact hq | refine List.mem_cons_of_mem _ ?_))⟩⟩
    · exact ⟨⟨rfl, _, _, _, _, _, _, _, _, _, _, _, .inr (.inl ⟨rfl, rfl, rfl⟩), rfl, by walk_at "m:has", by walk_at "m:has", by walk_at "m:has", by assumption, by assumption, F9, fun q hq => N9 q (by repeat (first | exact hq | refine List.mem_cons_of_mem _ ?_))⟩⟩
    · exact ⟨⟨rfl, _, _, _, _, _, _, _, _, _, _, _, .inr (.inr (.inl ⟨rfl, rfl, rfl⟩)), rfl, by walk_at "m:has", by walk_at "m:has", by walk_at "m:has", by assumption, by assumption, F9, fun q hq => N9 q (by repeat (first | exact hq | refine List.mem_cons_of_mem _ ?_))⟩⟩
    · exact ⟨⟨rfl, _, _, _, _, _, _, _, _, _, _, _, .inr (.inr (.inr ⟨rfl, rfl, rfl⟩)), rfl, by walk_at "m:has", by walk_at "m:has", by walk_at "m:has", by assumption, by assumption, F9, fun q hq => N9 q (by repeat (first | exact hq | refine List.mem_cons_of_mem _ ?_))⟩⟩
  rintro fl s' ⟨⟨rfl, e, b, z, te, tb, tz, m2, q1, q2, h3, tk3, hS, rfl, b1, b2, b3, c1, c2, F3, N3⟩⟩
  dsimp only
  have nx := next L hd th e b z te tb tz m2 o1 o2 o3 o4 o5 o6 o7 o8 o9 o10 o11 q2 q1 h3 tk3 l2 hS b1 b2 b3 c1 c2 d1 d2 d3 d4 d5 d6 d7 d8 d9 d10 d11 F3 N3
  exact nx.p
end
example : True ∧ True := by walk1 <;> trivial
section
local macro_rules | `(tactic| walk_at "m:flush") => `(tactic| trivial)
example : True ∧ True := by walk1 <;> trivial
end
section
local macro_rules | `(tactic| walk_at "binaryOp Pow int int") => `(tactic| (with_reducible refine pow_int_small (by decide) (by decide) (by decide) ?_))
local macro_rules | `(tactic| walk_at "m:has") => `(tactic| first | assumption | exact if_pos rfl | (refine (if_neg (by decide)).trans ?_; walk_at "m:has"))
theorem own_gz {g h₁ h : Heap} {L : Addr} {news : List (Addr × Obj)} {a : Addr} {o : Obj} (st : ∀ b o, g.get? b = some o → h₁.get? b = some o) (N : News (gz g h₁) L h news) (hm : (a, o) ∈ news) : Own g h a o := ⟨(N _ hm).1, none_back (gz_some st) (N _ hm).2.2⟩
abbrev B3 := Fa × Int × Int
abbrev refsOf (rs : List B3) : List Value := rs.map fun q => Value.ref q.1.x
/-- the def «spelled», its far's cell named -/
structure SpA (w : World) (g h : Heap) (sp : Addr) (far : Int) (co : Addr) : Prop where
  it : ∃ c dc pm ct oc vs t oo tk, Own g h sp (fnMade (Str.ofString "spelled") (Str.ofString "_law_spelled.<locals>.spelled") (spPar w.params) (spBody w.params) (spScope w.params) [(Str.ofString "far", co)] dc pm c ct) ∧
    Own g h c oc ∧ oc.data = .fields vs ∧ vs[1]? = some (.str (Str.ofString "_law_spelled.<locals>.spelled") t) ∧ Own g h co oo ∧ oo.data = .cell (some (.int far tk))
theorem SpA.sp {w : World} {g h : Heap} {sp : Addr} {far : Int} {co : Addr} (x : SpA w g h sp far co) : Sp w g h sp far := let ⟨c, r⟩ := x.it; ⟨c, co, r⟩
/-- the law's cells -/
structure LC (h : Heap) (L : Addr) (b z : Int) (Gx Wx Cx pl : Addr) : Prop where
  cb : ∃ t, h.IsCell (L + 1) (some (.int b t))
  cz : ∃ t, h.IsCell (L + 2) (some (.int z t))
  cg : h.IsCell (L + 3) (some (.ref Gx))
  cw : h.IsCell (L + 4) (some (.ref Wx))
  cc : h.IsCell (L + 5) (some (.ref Cx))
  cp : h.IsCell (L + 6) (some (.ref pl))
  ce : ∀ k : Nat, 7 ≤ k → k ≤ 13 → ∃ v, h.IsCell (L + k) v
theorem LC.kp {h h' : Heap} {L : Addr} {b z : Int} {Gx Wx Cx pl : Addr} (x : LC h L b z Gx Wx Cx pl) (k : ∀ a o v, o.data = .cell v → h.get? a = some o → h'.get? a = some o) : LC h' L b z Gx Wx Cx pl := by
  have kk : ∀ {a v}, h.IsCell a v → h'.IsCell a v := fun ⟨o, e, d⟩ => ⟨o, k _ o _ d e, d⟩
  exact ⟨let ⟨t, c⟩ := x.cb; ⟨t, kk c⟩, let ⟨t, c⟩ := x.cz; ⟨t, kk c⟩, kk x.cg, kk x.cw, kk x.cc, kk x.cp, fun i h1 h2 => let ⟨v, c⟩ := x.ce i h1 h2; ⟨v, kk c⟩⟩
/-- that the parts lie apart -/
structure Ap (f : Fa → Nat) (hs : List Nat) (gs rs : List Fa) : Prop where
  hh : hs.Nodup
  g : ∀ q ∈ gs, f q ∉ hs
  r : ∀ q ∈ rs, f q ∉ hs
  gr : ∀ q ∈ gs, ∀ r ∈ rs, f q ≠ f r
  gg : (gs.map f).Nodup
  rr : (rs.map f).Nodup
/-- the law's state -/
structure LS (w : World) (g h : Heap) (L : Addr) (e b z far : Int) (sp : Addr) (G : Fa) (gs : List B3) (kg : Int) (W : B3) (C : Fa) (cs : List Int) (kc : Int) (rs : List B3) (rl pl : Addr) (put : List Str) (ex : List (Addr × Obj)) : Prop where
  hS : Sz e b z
  S : ∃ co, (∀ k : Nat, k ≤ 13 → @Ne Nat co (L + k)) ∧ SpA w g h sp far co
  E : EF w e b z sp g h G gs kg
  WB : BF w e b z sp g h W.1 W.2.1 W.2.2
  CC : CB w e b z sp g h C cs kc
  RB : ∀ q ∈ rs, BF w e b z sp g h q.1 q.2.1 q.2.2
  hrl : ∃ n, Own g h rl (PySem.W.listOf (refsOf rs).toArray n)
  hpl : ∃ vs n, Own g h pl (PySem.W.listOf vs.toArray n) ∧ StrsAre vs put
  cells : LC h L b z G.x W.1.x C.x pl
  t1 : ∃ ps, Own g h 571 (PySem.W.tabObj ps)
  t2 : ∃ ps, TabOk 262 19 ps ∧ Own g h 419 (PySem.W.tabObj ps)
  t3 : ∃ ps, TabOk 324 19 ps ∧ Own g h 515 (PySem.W.tabObj ps)
  xs : ∀ q ∈ ex, h.get? q.1 = some q.2 ∧ (ItO q.2 ∨ ∃ vs n, q.2 = PySem.W.listOf vs n)
  al : Ap Fa.l (G.l :: rl :: pl :: C.l :: W.1.l :: ex.map (·.1)) (gs.map (·.1)) (rs.map (·.1))
  ad : Ap Fa.d [G.d, C.d, W.1.d, L] (gs.map (·.1)) (rs.map (·.1))
theorem nodup_cons' {a : Nat} {l : List Nat} (h : ∀ c ∈ l, a ≠ c) (n : l.Nodup) : (a :: l).Nodup := List.nodup_cons.mpr ⟨fun hm => h a hm rfl, n⟩
structure NewOk (B : Heap) (L a : Addr) : Prop where
  l : @Ne Nat a L
  b : B.get? a = none
  c3 : @Ne Nat a (L + 1 + 1 + 1)
  c4 : @Ne Nat a (L + 1 + 1 + 1 + 1)
  c5 : @Ne Nat a (L + 1 + 1 + 1 + 1 + 1)
  c6 : @Ne Nat a (L + 1 + 1 + 1 + 1 + 1 + 1)
theorem new_ok {B h : Heap} {L a : Addr} (hB : ∀ b o, B.get? b = some o → h.get? b = some o) (hL : h.get? L ≠ none) (h3 : h.get? (L + 1 + 1 + 1) ≠ none) (h4 : h.get? (L + 1 + 1 + 1 + 1) ≠ none) (h5 : h.get? (L + 1 + 1 + 1 + 1 + 1) ≠ none) (h6 : h.get? (L + 1 + 1 + 1 + 1 + 1 + 1) ≠ none) (e : h.get? a = none) : NewOk B L a :=
  ⟨fun q => hL ((congrArg h.get? (show L = a from q.symm)).trans e), none_back hB e, fun q => h3 ((congrArg h.get? q.symm).trans e), fun q => h4 ((congrArg h.get? q.symm).trans e), fun q => h5 ((congrArg h.get? q.symm).trans e), fun q => h6 ((congrArg h.get? q.symm).trans e)⟩
theorem news_add {B h : Heap} {L a : Addr} {o : Obj} {news : List (Addr × Obj)} (N : News B L h news) (e : h.get? a = some o) (k : NewOk B L a) : News B L h ((a, o) :: news) := fun q hq => by
  rcases List.mem_cons.mp hq with hh | hq
  · subst hh; exact ⟨e, k.l, k.b⟩
  · exact N q hq
local macro_rules | `(tactic| k_ne) => `(tactic| first | exact NewOk.c3 (by assumption) | exact NewOk.c4 (by assumption) | exact NewOk.c5 (by assumption) | exact NewOk.c6 (by assumption))
theorem news_mid {B h : Heap} {L a : Addr} {o : Obj} {l r : List (Addr × Obj)} (N : News B L h (l ++ r)) (e : h.get? a = some o ∧ @Ne Nat a L ∧ B.get? a = none) : News B L h (l ++ (a, o) :: r) := fun q hq => by
  rcases List.mem_append.mp hq with hq | hq
  · exact N q (List.mem_append_left _ hq)
  · rcases List.mem_cons.mp hq with hh | hq
    · subst hh; exact e
    · exact N q (List.mem_append_right _ hq)
theorem cells_ge {L : Addr} {o1 o2 o3 o4 o5 o6 o7 o8 o9 o10 o11 o12 o13 : Obj} {q : Addr × Obj} (h : q ∈ lawCells L o1 o2 o3 o4 o5 o6 o7 o8 o9 o10 o11 o12 o13) : ∃ k : Nat, q.1 = L + k := by
  simp only [lawCells, List.mem_cons, List.not_mem_nil, or_false] at h
  rcases h with h | h | h | h | h | h | h | h | h | h | h | h | h <;> subst h
  · exact ⟨13, rfl⟩
  · exact ⟨12, rfl⟩
  · exact ⟨11, rfl⟩
  · exact ⟨10, rfl⟩
  · exact ⟨9, rfl⟩
  · exact ⟨8, rfl⟩
  · exact ⟨7, rfl⟩
  · exact ⟨6, rfl⟩
  · exact ⟨5, rfl⟩
  · exact ⟨4, rfl⟩
  · exact ⟨3, rfl⟩
  · exact ⟨2, rfl⟩
  · exact ⟨1, rfl⟩
theorem cells_all {L : Addr} {o1 o2 o3 o4 o5 o6 o7 o8 o9 o10 o11 o12 o13 : Obj} {k : Nat} (h1 : 1 ≤ k) (h2 : k ≤ 13) : ∃ o, (L + k, o) ∈ lawCells L o1 o2 o3 o4 o5 o6 o7 o8 o9 o10 o11 o12 o13 := by
  rcases (show k = 1 ∨ k = 2 ∨ k = 3 ∨ k = 4 ∨ k = 5 ∨ k = 6 ∨ k = 7 ∨ k = 8 ∨ k = 9 ∨ k = 10 ∨ k = 11 ∨ k = 12 ∨ k = 13 by omega) with rfl | rfl | rfl | rfl | rfl | rfl | rfl | rfl | rfl | rfl | rfl | rfl | rfl
  · exact ⟨o13, by k_mem⟩
  · exact ⟨o12, by k_mem⟩
  · exact ⟨o11, by k_mem⟩
  · exact ⟨o10, by k_mem⟩
  · exact ⟨o9, by k_mem⟩
  · exact ⟨o8, by k_mem⟩
  · exact ⟨o7, by k_mem⟩
  · exact ⟨o6, by k_mem⟩
  · exact ⟨o5, by k_mem⟩
  · exact ⟨o4, by k_mem⟩
  · exact ⟨o3, by k_mem⟩
  · exact ⟨o2, by k_mem⟩
  · exact ⟨o1, by k_mem⟩
theorem news_ne {B h : Heap} {L c : Addr} {o : Obj} {news : List (Addr × Obj)} (N : News B L h news) (hm : (c, o) ∈ news) : h.get? c ≠ none := by rw [(N _ hm).1]; exact nofun
theorem ok_all {B h : Heap} {L : Addr} {m : Str → Option Value} {news : List (Addr × Obj)} {p3 p4 p5 p6 : Obj} (F : Fr B L h m) (N : News B L h news) (h3 : (L + 1 + 1 + 1, p3) ∈ news) (h4 : (L + 1 + 1 + 1 + 1, p4) ∈ news) (h5 : (L + 1 + 1 + 1 + 1 + 1, p5) ∈ news) (h6 : (L + 1 + 1 + 1 + 1 + 1 + 1, p6) ∈ news) {a : Addr} (e : h.get? a = none) : NewOk B L a := by
  obtain ⟨oL, _, _, eL, _⟩ := F.ns
  exact new_ok F.keep (by rw [eL]; exact nofun) (news_ne N h3) (news_ne N h4) (news_ne N h5) (news_ne N h6) e
theorem not_none {h : Heap} {a : Addr} {o : Obj} (e : h.get? a = some o) : h.get? a ≠ none := by rw [e]; exact nofun
local macro_rules | `(tactic| walk_at "execs cons For cons") => `(tactic| (with_reducible refine stop_here ?_))
set_option maxHeartbeats 4000000 in
theorem c_law2 {w : World} {g : Heap} {s : Shared} {R : Result → Shared → Prop} {script : Addr} {ns : List Int} (I : LawIn w g s script ns) {L : Addr} {hd e b z : Int} {th te tb tz : Tok} {m1 : Str → Option Value} {o1 o2 o3 o4 o5 o6 o7 o8 o9 o10 o11 o12 o13 : Obj} {h1 : Heap} {tk1 : Nat}
    (l2 : s.heap.objs.size ≤ L) (hS : Sz e b z) (b1 : m1 (Str.ofString "head") = some (.int hd th)) (b2 : m1 (Str.ofString "script") = some (.ref script)) (b3 : m1 (Str.ofString "elements") = some (.int e te))
    (c13 : o13.data = .cell (some (.int b tb))) (c12 : o12.data = .cell (some (.int z tz))) (d1 : o1.data = .cell none) (d2 : o2.data = .cell none) (d3 : o3.data = .cell none) (d4 : o4.data = .cell none) (d5 : o5.data = .cell none) (d6 : o6.data = .cell none) (d7 : o7.data = .cell none) (d8 : o8.data = .cell none) (d9 : o9.data = .cell none) (d10 : o10.data = .cell none) (d11 : o11.data = .cell none)
    (F1 : Fr (gz g s.heap) L h1 m1) (N1 : News (gz g s.heap) L h1 (lawCells L o1 o2 o3 o4 o5 o6 o7 o8 o9 o10 o11 o12 o13 ++ [(571, PySem.W.tabObj #[]), (419, PySem.W.tabObj #[]), (515, PySem.W.tabObj #[])]))
    (next : ∀ sp G f W C r0 rl pl m' s', LS w g s'.heap L e b z (b * (Int.fmod (Int.fdiv hd 4) (2 ^ 40) - 2 ^ 39)) sp G [(f, 0, 0)] 0 (W, 0, 0) C (List.replicate b.toNat 0) 0 [(r0, 0, 0)] rl pl [] [] →
      m' (Str.ofString "script") = some (.ref script) → m' (Str.ofString "elements") = some (.int e te) → m' (Str.ofString "spelled") = some (.ref sp) → m' (Str.ofString "row") = some (.ref rl) → Fr (gz g s.heap) L s'.heap m' → (∀ b o, s.heap.get? b = some o → b ∉ [571, 419, 515] → s'.heap.get? b = some o) → s'.os = s.os → (AllBare s.gens → AllBare s'.gens) →
      Stp (wpAny (MM w) ((aM 10 10).deeper (lawEnv w.params L)) (execs ((lawBody w.params).drop 8) (lawEnv w.params L)) (lawPost R) (fun _ _ => False) s')) :
    Stp (wpAny (MM w) ((aM 10 10).deeper (lawEnv w.params L)) (execs ((lawBody w.params).drop 2) (lawEnv w.params L)) (lawPost R) (fun _ _ => False) { s with heap := h1, toks := tk1 }) := by
  refine ⟨?_⟩
  have st := I.st
  have CX := I.cx.keeps (gz_some st)
  have X := CX.K
  obtain ⟨loose, mean, mg, mb, T⟩ := CX.T
  have hb := hS.b
  have he := hS.e
  generalize hbo : (lawBody w.params).drop 2 = bo
  unfold lawBody lawOf at hbo
  conv at hbo => lhs; whnf
  subst hbo
  delta lawEnv
  generalize hsc : lawScope w.params = sc
  unfold lawScope lawOf at hsc
  conv at hsc => lhs; whnf
  subst hsc
  simp only [List.cons_append, List.nil_append] at N1
  walk_at "m:steps"
  unfold Stopped
  (rename Fr _ _ _ _ => F4); (rename News _ _ _ _ => N4)
  have Lt419 : @LT.lt Nat instLTNat 419 L := Nat.lt_of_lt_of_le (Heap.lt_size I.t2.at_) l2
  have Lt515 : @LT.lt Nat instLTNat 515 L := Nat.lt_of_lt_of_le (Heap.lt_size I.t3.at_) l2
  have Lt571 : @LT.lt Nat instLTNat 571 L := Nat.lt_of_lt_of_le (Heap.lt_size I.t1.at_) l2
  have Lt : 571 < L := Lt571
  have t571 := News.get N4 (a := 571) (o := PySem.W.tabObj #[]) (by k_mem)
  have NN : ∀ q ∈ [((571 : Addr), PySem.W.tabObj #[])], Own g _ q.1 q.2 := own1 (own_gz st N4 (by k_mem))
  have st4 : ∀ b o, g.get? b = some o → h1.get? b = some o := fun b o e => F4.keep b o (gz_some st b o e)
  refine c_spelled0 (g := hid ⟨h1, s.gens, s.drawn, 0, s.os⟩ [((571 : Addr), PySem.W.tabObj #[])]) (I.cx.hid (s := ⟨h1, s.gens, s.drawn, 0, s.os⟩) st4 NN) (fun b o e => of_hideAll _ e) (rm_deep (by decide) (by decide)) (codeHd_hid (s := ⟨h1, s.gens, s.drawn, 0, s.os⟩) st4 NN I.c1) ⟨t571, (hid_news (s := ⟨h1, s.gens, s.drawn, 0, s.os⟩) NN _ (.head _)).2⟩ ?_
  rintro sp s' af ⟨more, hmore⟩ ⟨S⟩
  obtain ⟨cc, co, dc, pm, ct, oc, vs9, t9, oo, tkf, O1, O2, hoc, hvs, O3, hoo⟩ := S
  have Lf : ∀ k : Nat, @Ne Nat (L + k) 571 := fun k q => Nat.lt_irrefl 571 (Nat.lt_of_lt_of_le Lt (by rw [← q]; exact Nat.le_add_right L k))
  have hh : ∀ {b o}, h1.get? b = some o → @Ne Nat b 571 → (hid ⟨h1, s.gens, s.drawn, 0, s.os⟩ [((571 : Addr), PySem.W.tabObj #[])]).get? b = some o := fun e n => hideAll_get _ e (fun q => n (List.mem_singleton.mp q))
  have ok1 : ∀ {a}, (hid ⟨h1, s.gens, s.drawn, 0, s.os⟩ [((571 : Addr), PySem.W.tabObj #[])]).get? a = none → NewOk (gz g s.heap) L a := fun e => by
    obtain ⟨oL, _, _, eL, _⟩ := F4.ns
    refine new_ok (fun b o eb => hh (F4.keep b o eb) (fun q => ?_)) (not_none (hh eL (Lf 0))) (not_none (hh (News.get N4 (a := L + 1 + 1 + 1) (o := o11) (by k_mem)) (Lf 3))) (not_none (hh (News.get N4 (a := L + 1 + 1 + 1 + 1) (o := o10) (by k_mem)) (Lf 4))) (not_none (hh (News.get N4 (a := L + 1 + 1 + 1 + 1 + 1) (o := o9) (by k_mem)) (Lf 5))) (not_none (hh (News.get N4 (a := L + 1 + 1 + 1 + 1 + 1 + 1) (o := o8) (by k_mem)) (Lf 6))) e
    have := (N4 (571, PySem.W.tabObj #[]) (by k_mem)).2.2
    rw [show b = 571 from q, this] at eb; cases eb
  have k1 := ok1 O1.new
  have k2 := ok1 O2.new
  have k3 := ok1 O3.new
  have kco : ∀ k : Nat, k ≤ 13 → @Ne Nat co (L + k) := fun k hk q => by
    have q : co = L + k := q
    rcases Nat.eq_zero_or_pos k with rfl | hp
    · exact k3.l q
    · obtain ⟨o, hm⟩ := cells_all (L := L) (o1 := o1) (o2 := o2) (o3 := o3) (o4 := o4) (o5 := o5) (o6 := o6) (o7 := o7) (o8 := o8) (o9 := o9) (o10 := o10) (o11 := o11) (o12 := o12) (o13 := o13) hp hk
      have e1 := (N4 (L + k, o) (List.mem_append_left [((571 : Addr), PySem.W.tabObj #[]), (419, PySem.W.tabObj #[]), (515, PySem.W.tabObj #[])] hm)).1
      have := hh e1 (Lf k)
      rw [← q, O3.new] at this; cases this
  have F5 := fr_ch F4 N4 af (all1 (P := fun c => c ∈ List.map _ _) (List.mem_map_of_mem (f := Prod.fst) (a := ((571 : Addr), PySem.W.tabObj #[])) (by k_mem)))
  have N5 : News (gz g s.heap) L s'.heap ((sp, _) :: (cc, oc) :: (co, oo) :: (lawCells L o1 o2 o3 o4 o5 o6 o7 o8 o9 o10 o11 o12 o13 ++ [(571, PySem.W.tabObj more), (419, PySem.W.tabObj #[]), (515, PySem.W.tabObj #[])])) :=
    news_add (news_add (news_add (news_mid (news_ch N4 af (news' := lawCells L o1 o2 o3 o4 o5 o6 o7 o8 o9 o10 o11 o12 o13 ++ [(419, PySem.W.tabObj #[]), (515, PySem.W.tabObj #[])]) (fun q hq => by
      rcases List.mem_append.mp hq with hq | hq
      · obtain ⟨k, hk⟩ := cells_ge hq
        exact ⟨List.mem_append_left [((571 : Addr), PySem.W.tabObj #[]), (419, PySem.W.tabObj #[]), (515, PySem.W.tabObj #[])] hq, fun z => Lf k (hk.symm.trans (List.mem_singleton.mp z))⟩
      · refine ⟨List.mem_append_right (lawCells L o1 o2 o3 o4 o5 o6 o7 o8 o9 o10 o11 o12 o13) (.tail _ hq), fun z => ?_⟩
        have z := List.mem_singleton.mp z
        simp only [List.mem_cons, List.not_mem_nil, or_false] at hq
        rcases hq with rfl | rfl <;> exact absurd z (by decide))) ⟨hmore, (N4 (571, PySem.W.tabObj #[]) (by k_mem)).2⟩) O3.at_ k3) O2.at_ k2) O1.at_ k1
  have hos5 := af.os
  have hgs5 := af.gens
  have kp5 := af.keep
  clear F4 N4 af
  obtain ⟨h5, gs5, d5x, t5, os5⟩ := s'
  dsimp only at hos5 hgs5 F5 N5 kp5 ⊢
  subst hos5
  simp only [List.cons_append, List.nil_append] at N5
  walk_at "m:steps"
  unfold Stopped
  (rename Fr _ _ _ _ => F6); (rename News _ _ _ _ => N6)
  refine c_e_new I.cx (fun b o e => F6.keep b o (gz_some st b o e)) (rm_deep (by decide) (by decide)) hS ?_
  intro G f s' af E
  have E0 := E
  obtain ⟨Gx, ⟨tG, Gd⟩, ⟨nG, Gl⟩, Ga⟩ := E
  have fGl := E0.l_ne (q := (f, 0, 0)) (.head _)
  have fGd := E0.d_ne (q := (f, 0, 0)) (.head _)
  obtain ⟨_, _, fg_l⟩ := fGl
  obtain ⟨_, fg_d, _⟩ := fGd
  obtain ⟨fx, ⟨tf, fd⟩, ⟨ul, nf, fl⟩⟩ := Ga (f, 0, 0) (.head _)
  have ok2 := fun {a : Addr} => ok_all (a := a) F6 N6 (by k_mem) (by k_mem) (by k_mem) (by k_mem)
  have g1 := ok2 Gx.new
  have g2 := ok2 Gd.new
  have g3 := ok2 Gl.new
  have g4 := ok2 fx.new
  have g5 := ok2 fd.new
  have g6 := ok2 fl.new
  have F7 := fr_af F6 af
  have N7 := news_add (news_add (news_add (news_add (news_add (news_add (news_af N6 af) fl.at_ g6) fd.at_ g5) fx.at_ g4) Gl.at_ g3) Gd.at_ g2) Gx.at_ g1
  have hos7 := af.os
  have hgs7 := af.gens
  have kp7 := af.keep
  clear F6 N6 af
  obtain ⟨h7, gs7, d7x, t7, os7⟩ := s'
  dsimp only at hos7 hgs7 F7 N7 kp7 ⊢
  subst hos7
  walk_at "m:steps"
  unfold Stopped
  (rename Fr _ _ _ _ => F8); (rename News _ _ _ _ => N8)
  refine c_new I.cx (fun b o e => F8.keep b o (gz_some st b o e)) (rm_deep (by decide) (by decide)) hS ?_
  intro W s' af WB
  obtain ⟨Wx, ⟨tW, Wd⟩, ⟨uW, nW, Wl⟩⟩ := WB
  have ok3 := fun {a : Addr} => ok_all (a := a) F8 N8 (by k_mem) (by k_mem) (by k_mem) (by k_mem)
  have wl_0 := none_ne N8 Wl.new (a := f.l) (by k_mem)
  have wl_1 := none_ne N8 Wl.new (a := G.l) (by k_mem)
  have wd_0 := none_ne N8 Wd.new (a := f.d) (by k_mem)
  have wd_1 := none_ne N8 Wd.new (a := G.d) (by k_mem)
  have Wk1 := ok3 Wx.new
  have Wk2 := ok3 Wd.new
  have Wk3 := ok3 Wl.new
  have F9 := fr_af F8 af
  have N9 := news_add (news_add (news_add (news_af N8 af) Wl.at_ Wk3) Wd.at_ Wk2) Wx.at_ Wk1
  have hos9 := af.os
  have hgs9 := af.gens
  have kp9 := af.keep
  clear F8 N8 af
  obtain ⟨h9, gs9, d9x, t9x, os9⟩ := s'
  dsimp only at hos9 hgs9 F9 N9 kp9 ⊢
  subst hos9
  walk_at "m:steps"
  unfold Stopped
  (rename Fr _ _ _ _ => F10); (rename News _ _ _ _ => N10)
  refine c_c_new I.cx (fun b o e => F10.keep b o (gz_some st b o e)) (rm_deep (by decide) (by decide)) hS ?_
  intro C s' af CB0
  obtain ⟨Cx0, ⟨tC, Cd⟩, ⟨vC, nC, Cl, Ci⟩, Clen⟩ := CB0
  have ok4 := fun {a : Addr} => ok_all (a := a) F10 N10 (by k_mem) (by k_mem) (by k_mem) (by k_mem)
  have cl_0 := none_ne N10 Cl.new (a := f.l) (by k_mem)
  have cl_1 := none_ne N10 Cl.new (a := G.l) (by k_mem)
  have cl_2 := none_ne N10 Cl.new (a := W.l) (by k_mem)
  have cd_0 := none_ne N10 Cd.new (a := f.d) (by k_mem)
  have cd_1 := none_ne N10 Cd.new (a := G.d) (by k_mem)
  have cd_2 := none_ne N10 Cd.new (a := W.d) (by k_mem)
  have Ck1 := ok4 Cx0.new
  have Ck2 := ok4 Cd.new
  have Ck3 := ok4 Cl.new
  have F11 := fr_af F10 af
  have N11 := news_add (news_add (news_add (news_af N10 af) Cl.at_ Ck3) Cd.at_ Ck2) Cx0.at_ Ck1
  have hos11 := af.os
  have hgs11 := af.gens
  have kp11 := af.keep
  clear F10 N10 af
  obtain ⟨h11, gs11, d11x, t11x, os11⟩ := s'
  dsimp only at hos11 hgs11 F11 N11 kp11 ⊢
  subst hos11
  walk_at "m:steps"
  unfold Stopped
  (rename Fr _ _ _ _ => F12); (rename News _ _ _ _ => N12)
  refine c_new I.cx (fun b o e => F12.keep b o (gz_some st b o e)) (rm_deep (by decide) (by decide)) hS ?_
  intro r0 s' af r0B
  obtain ⟨r0x, ⟨tr0, r0d⟩, ⟨ur0, nr0, r0l⟩⟩ := r0B
  have ok5 := fun {a : Addr} => ok_all (a := a) F12 N12 (by k_mem) (by k_mem) (by k_mem) (by k_mem)
  have rl_0 := none_ne N12 r0l.new (a := f.l) (by k_mem)
  have rl_1 := none_ne N12 r0l.new (a := G.l) (by k_mem)
  have rl_2 := none_ne N12 r0l.new (a := W.l) (by k_mem)
  have rl_3 := none_ne N12 r0l.new (a := C.l) (by k_mem)
  have rd_0 := none_ne N12 r0d.new (a := f.d) (by k_mem)
  have rd_1 := none_ne N12 r0d.new (a := G.d) (by k_mem)
  have rd_2 := none_ne N12 r0d.new (a := W.d) (by k_mem)
  have rd_3 := none_ne N12 r0d.new (a := C.d) (by k_mem)
  have r0k1 := ok5 r0x.new
  have r0k2 := ok5 r0d.new
  have r0k3 := ok5 r0l.new
  have F13 := fr_af F12 af
  have N13 := news_add (news_add (news_add (news_af N12 af) r0l.at_ r0k3) r0d.at_ r0k2) r0x.at_ r0k1
  have hos13 := af.os
  have hgs13 := af.gens
  have kp13 := af.keep
  clear F12 N12 af
  obtain ⟨h13, gs13, d13x, t13x, os13⟩ := s'
  dsimp only at hos13 hgs13 F13 N13 kp13 ⊢
  subst hos13
  walk_at "m:steps"
  unfold Stopped
  (rename Fr _ _ _ _ => F99); (rename News _ _ _ _ => N99)
  refine Stp.p (next sp G f W C r0 _ _ _ _ ⟨hS, ⟨co, kco, ⟨cc, dc, pm, ct, oc, vs9, t9, oo, tkf, own_gz st N99 (by k_mem), own_gz st N99 (by k_mem), hoc, hvs, own_gz st N99 (by k_mem), hoo⟩⟩,
    ⟨own_gz st N99 (by k_mem), ⟨tG, own_gz st N99 (by k_mem)⟩, ⟨nG, own_gz st N99 (by k_mem)⟩, fun q hq => ?_⟩, ⟨own_gz st N99 (by k_mem), ⟨tW, own_gz st N99 (by k_mem)⟩, ⟨uW, nW, own_gz st N99 (by k_mem)⟩⟩, ⟨own_gz st N99 (by k_mem), ⟨tC, own_gz st N99 (by k_mem)⟩, ⟨vC, nC, own_gz st N99 (by k_mem), Ci⟩, Clen⟩, fun q hq => ?_,
    ⟨0, own_gz st N99 (.tail _ (.head _))⟩, ⟨[], 0, own_gz st N99 (.head _), .nil⟩, ⟨⟨tb, o13, News.get N99 (by k_mem), c13⟩, ⟨tz, o12, News.get N99 (by k_mem), c12⟩,
    ⟨_, News.get N99 (a := L + 1 + 1 + 1) (by k_mem), by assumption⟩, ⟨_, News.get N99 (a := L + 1 + 1 + 1 + 1) (by k_mem), by assumption⟩, ⟨_, News.get N99 (a := L + 1 + 1 + 1 + 1 + 1) (by k_mem), by assumption⟩, ⟨_, News.get N99 (a := L + 1 + 1 + 1 + 1 + 1 + 1) (by k_mem), by assumption⟩,
    fun k hk1 hk2 => ?_⟩, ⟨more, own_gz st N99 (by k_mem)⟩, ⟨#[], .inl rfl, own_gz st N99 (by k_mem)⟩, ⟨#[], .inl rfl, own_gz st N99 (by k_mem)⟩, fun _ h => absurd h List.not_mem_nil, ?_, ?_⟩ ?_ ?_ ?_ ?_ F99 ?_ rfl ?_)
  · rw [List.mem_singleton.mp hq]
    exact ⟨own_gz st N99 (by k_mem), ⟨tf, own_gz st N99 (by k_mem)⟩, ⟨ul, nf, own_gz st N99 (by k_mem)⟩⟩
  · rw [List.mem_singleton.mp hq]
    exact ⟨own_gz st N99 (by k_mem), ⟨tr0, own_gz st N99 (by k_mem)⟩, ⟨ur0, nr0, own_gz st N99 (by k_mem)⟩⟩
  · rcases (show k = 7 ∨ k = 8 ∨ k = 9 ∨ k = 10 ∨ k = 11 ∨ k = 12 ∨ k = 13 by omega) with rfl | rfl | rfl | rfl | rfl | rfl | rfl
    · exact ⟨none, o7, News.get N99 (a := L + 1 + 1 + 1 + 1 + 1 + 1 + 1) (by k_mem), d7⟩
    · exact ⟨none, o6, News.get N99 (a := L + 1 + 1 + 1 + 1 + 1 + 1 + 1 + 1) (by k_mem), d6⟩
    · exact ⟨none, o5, News.get N99 (a := L + 1 + 1 + 1 + 1 + 1 + 1 + 1 + 1 + 1) (by k_mem), d5⟩
    · exact ⟨none, o4, News.get N99 (a := L + 1 + 1 + 1 + 1 + 1 + 1 + 1 + 1 + 1 + 1) (by k_mem), d4⟩
    · exact ⟨none, o3, News.get N99 (a := L + 1 + 1 + 1 + 1 + 1 + 1 + 1 + 1 + 1 + 1 + 1) (by k_mem), d3⟩
    · exact ⟨none, o2, News.get N99 (a := L + 1 + 1 + 1 + 1 + 1 + 1 + 1 + 1 + 1 + 1 + 1 + 1) (by k_mem), d2⟩
    · exact ⟨none, o1, News.get N99 (a := L + 1 + 1 + 1 + 1 + 1 + 1 + 1 + 1 + 1 + 1 + 1 + 1 + 1) (by k_mem), d1⟩
  · have sy : ∀ {x y : Nat}, x ≠ y → y ≠ x := fun h => h.symm
    refine ⟨nodup_cons' ?_ (nodup_cons' ?_ (nodup_cons' ?_ (nodup_cons' ?_ (nodup_cons' (fun c hc => absurd hc List.not_mem_nil) List.nodup_nil)))), fun q hq => ?_, fun q hq => ?_, fun q hq r hr => ?_, nodup_cons' (fun c hc => absurd hc List.not_mem_nil) List.nodup_nil, nodup_cons' (fun c hc => absurd hc List.not_mem_nil) List.nodup_nil⟩
    · intro c hc
      simp only [List.map_nil, List.mem_cons, List.not_mem_nil, or_false] at hc
      rcases hc with rfl | rfl | rfl | rfl
      · refine neN ?_; omega
      · refine neN ?_; omega
      · exact sy cl_1
      · exact sy wl_1
    · intro c hc
      simp only [List.map_nil, List.mem_cons, List.not_mem_nil, or_false] at hc
      rcases hc with rfl | rfl | rfl <;> (refine neN ?_; omega)
    · intro c hc
      simp only [List.map_nil, List.mem_cons, List.not_mem_nil, or_false] at hc
      rcases hc with rfl | rfl <;> (refine neN ?_; omega)
    · intro c hc
      rw [List.mem_singleton.mp hc]
      exact cl_2
    · rw [List.mem_singleton.mp hq]
      intro hc
      simp only [List.map_nil, List.mem_cons, List.not_mem_nil, or_false] at hc
      rcases hc with hc | hc | hc | hc | hc
      · exact fg_l hc
      · revert hc; refine neN ?_; omega
      · revert hc; refine neN ?_; omega
      · exact cl_0 hc.symm
      · exact wl_0 hc.symm
    · rw [List.mem_singleton.mp hq]
      intro hc
      simp only [List.map_nil, List.mem_cons, List.not_mem_nil, or_false] at hc
      rcases hc with hc | hc | hc | hc | hc
      · exact rl_1 hc
      · revert hc; refine neN ?_; omega
      · revert hc; refine neN ?_; omega
      · exact rl_3 hc
      · exact rl_2 hc
    · rw [List.mem_singleton.mp hq, List.mem_singleton.mp hr]
      exact sy rl_0
  · have sy : ∀ {x y : Nat}, x ≠ y → y ≠ x := fun h => h.symm
    refine ⟨nodup_cons' ?_ (nodup_cons' ?_ (nodup_cons' ?_ (nodup_cons' (fun c hc => absurd hc List.not_mem_nil) List.nodup_nil))), fun q hq => ?_, fun q hq => ?_, fun q hq r hr => ?_, nodup_cons' (fun c hc => absurd hc List.not_mem_nil) List.nodup_nil, nodup_cons' (fun c hc => absurd hc List.not_mem_nil) List.nodup_nil⟩
    · intro c hc
      simp only [List.map_nil, List.mem_cons, List.not_mem_nil, or_false] at hc
      rcases hc with rfl | rfl | rfl
      · exact sy cd_1
      · exact sy wd_1
      · exact g2.l
    · intro c hc
      simp only [List.map_nil, List.mem_cons, List.not_mem_nil, or_false] at hc
      rcases hc with rfl | rfl
      · exact cd_2
      · exact Ck2.l
    · intro c hc
      rw [List.mem_singleton.mp hc]
      exact Wk2.l
    · rw [List.mem_singleton.mp hq]
      intro hc
      simp only [List.map_nil, List.mem_cons, List.not_mem_nil, or_false] at hc
      rcases hc with hc | hc | hc | hc
      · exact fg_d hc
      · exact cd_0 hc.symm
      · exact wd_0 hc.symm
      · exact g5.l hc
    · rw [List.mem_singleton.mp hq]
      intro hc
      simp only [List.map_nil, List.mem_cons, List.not_mem_nil, or_false] at hc
      rcases hc with hc | hc | hc | hc
      · exact rd_1 hc
      · exact rd_3 hc
      · exact rd_2 hc
      · exact r0k2.l hc
    · rw [List.mem_singleton.mp hq, List.mem_singleton.mp hr]
      exact sy rd_0
  · walk_at "m:has"
  · walk_at "m:has"
  · walk_at "m:has"
  · walk_at "m:has"
  · intro b' o' eb nb
    rcases I.all b' o' eb with h | h
    · exact F99.keep _ _ (gz_some st _ _ h)
    · exact absurd h nb
  · exact fun x => hgs13 (hgs11 (hgs9 (hgs7 (hgs5 x))))
end
example : True ∧ True := by walk1 <;> trivial
section
local macro_rules | `(tactic| walk_at "m:flush") => `(tactic| trivial)
example : True ∧ True := by walk1 <;> trivial
end
section
theorem EF.off {w : World} {e b z : Int} {sp : Addr} {g : Heap} {s s' : Shared} {a : Fa} {bs : List B3} {k : Int} {ch : List Addr} (x : EF w e b z sp g s.heap a bs k) (af : Af ch s s') (h : ∀ c ∈ ch, @Ne Nat a.x c ∧ @Ne Nat a.d c ∧ @Ne Nat a.l c)
    (hb : ∀ q ∈ bs, ∀ c ∈ ch, @Ne Nat q.1.x c ∧ @Ne Nat q.1.d c ∧ @Ne Nat q.1.l c) : EF w e b z sp g s'.heap a bs k :=
  ⟨x.x.off af fun c hc => (h c hc).1, let ⟨t, o⟩ := x.d; ⟨t, o.off af fun c hc => (h c hc).2.1⟩, let ⟨n, o⟩ := x.l; ⟨n, o.off af fun c hc => (h c hc).2.2⟩, fun q hq => (x.all q hq).off af (hb q hq)⟩
theorem CB.off {w : World} {e b z : Int} {sp : Addr} {g : Heap} {s s' : Shared} {a : Fa} {cs : List Int} {k : Int} {ch : List Addr} (x : CB w e b z sp g s.heap a cs k) (af : Af ch s s') (h : ∀ c ∈ ch, @Ne Nat a.x c ∧ @Ne Nat a.d c ∧ @Ne Nat a.l c) : CB w e b z sp g s'.heap a cs k :=
  ⟨x.x.off af fun c hc => (h c hc).1, let ⟨t, o⟩ := x.d; ⟨t, o.off af fun c hc => (h c hc).2.1⟩, x.l.off af fun c hc => (h c hc).2.2, x.len⟩
/-- what may be written: a dict, a list, a table -/
def Wr (o : Obj) : Prop := (∃ es n, o = dictOf es n) ∨ (∃ vs n, o = PySem.W.listOf vs n) ∨ ∃ ps l c, TabOk l c ps ∧ o = PySem.W.tabObj ps
theorem SpA.off {w : World} {g : Heap} {s s' : Shared} {sp co : Addr} {far : Int} {ch : List Addr} (x : SpA w g s.heap sp far co) (af : Af ch s s') (h : ∀ c ∈ ch, ∃ o, s.heap.get? c = some o ∧ Wr o) : SpA w g s'.heap sp far co := by
  obtain ⟨c, dc, pm, ct, oc, vs, t, oo, tk, O1, O2, hoc, hvs, O3, hoo⟩ := x.it
  have key : ∀ {a : Addr} {o : Obj}, Own g s.heap a o → (¬ Wr o) → Own g s'.heap a o := fun O n => O.off af fun c' hc q => by
    obtain ⟨o', e', w'⟩ := h c' hc
    have := O.at_
    rw [show _ = c' from q, e'] at this
    exact n (Option.some.inj this ▸ w')
  refine ⟨c, dc, pm, ct, oc, vs, t, oo, tk, key O1 ?_, key O2 ?_, hoc, hvs, key O3 ?_, hoo⟩
  · rintro (⟨_, _, e⟩ | ⟨_, _, e⟩ | ⟨_, _, _, _, e⟩) <;> (injection e with _ _ e3; cases e3)
  · rintro (⟨_, _, e⟩ | ⟨_, _, e⟩ | ⟨ps, l, c', k, e⟩)
    · rw [e] at hoc; cases hoc
    · rw [e] at hoc; cases hoc
    · rw [e] at hoc
      have : ps = vs := by injection hoc
      subst this
      rcases k with rfl | ⟨_, rfl⟩
      · simp at hvs
      · simp [rawInt] at hvs
  · rintro (⟨_, _, e⟩ | ⟨_, _, e⟩ | ⟨_, _, _, _, e⟩) <;> (rw [e] at hoo; cases hoo)
theorem LC.off {s s' : Shared} {L : Addr} {b z : Int} {Gx Wx Cx pl : Addr} {ch : List Addr} (x : LC s.heap L b z Gx Wx Cx pl) (af : Af ch s s') (h : ∀ c ∈ ch, ∃ o, s.heap.get? c = some o ∧ Wr o) : LC s'.heap L b z Gx Wx Cx pl :=
  x.kp fun a o v d e => af.keep a o e fun hc => by
    obtain ⟨o', e', w'⟩ := h a hc
    rw [e] at e'
    cases e'
    rcases w' with ⟨_, _, e⟩ | ⟨_, _, e⟩ | ⟨_, _, _, _, e⟩ <;> (rw [e] at d; cases d)
/-- what a call writes: lists, dicts, tables -/
structure Wrs (h : Heap) (ls ds ts : List Addr) : Prop where
  l : ∀ c ∈ ls, ∃ vs n, h.get? c = some (PySem.W.listOf vs n)
  d : ∀ c ∈ ds, ∃ es n, h.get? c = some (dictOf es n)
  t : ∀ c ∈ ts, @Ne Nat 571 c ∧ ∃ ps lc k, TabOk lc k ps ∧ h.get? c = some (PySem.W.tabObj ps)
theorem Wrs.wr {h : Heap} {ls ds ts : List Addr} (W : Wrs h ls ds ts) : ∀ c ∈ ls ++ ds ++ ts, ∃ o, h.get? c = some o ∧ Wr o := fun c hc => by
  rcases List.mem_append.mp hc with hc | hc
  · rcases List.mem_append.mp hc with hc | hc
    · obtain ⟨vs, n, e⟩ := W.l c hc; exact ⟨_, e, .inr (.inl ⟨vs, n, rfl⟩)⟩
    · obtain ⟨es, n, e⟩ := W.d c hc; exact ⟨_, e, .inl ⟨es, n, rfl⟩⟩
  · obtain ⟨_, ps, lc, k, ok, e⟩ := W.t c hc; exact ⟨_, e, .inr (.inr ⟨ps, lc, k, ok, rfl⟩)⟩
section
variable {g : Heap} {s s' : Shared} {ls ds ts : List Addr} {a : Addr}
theorem Wrs.ll (W : Wrs s.heap ls ds ts) (af : Af (ls ++ ds ++ ts) s s') {vs : Array Value} {n : Nat} (x : Own g s.heap a (PySem.W.listOf vs n)) (hl : a ∉ ls) : Own g s'.heap a (PySem.W.listOf vs n) := x.off af fun c hc q => by
  have q : a = c := q
  subst q
  rcases List.mem_append.mp hc with hc | hc
  · rcases List.mem_append.mp hc with hc | hc
    · exact hl hc
    · obtain ⟨es, k, e⟩ := W.d a hc
      rw [x.at_] at e; injection e with e; injection e with _ _ e; cases e
  · obtain ⟨_, ps, lc, k, ok, e⟩ := W.t a hc
    rw [x.at_] at e; injection e with e; injection e with e; cases e
theorem Wrs.dd (W : Wrs s.heap ls ds ts) (af : Af (ls ++ ds ++ ts) s s') {es : List DictEntry} {n : Nat} (x : Own g s.heap a (dictOf es n)) (hl : a ∉ ds) : Own g s'.heap a (dictOf es n) := x.off af fun c hc q => by
  have q : a = c := q
  subst q
  rcases List.mem_append.mp hc with hc | hc
  · rcases List.mem_append.mp hc with hc | hc
    · obtain ⟨es, k, e⟩ := W.l a hc
      rw [x.at_] at e; injection e with e; injection e with _ _ e; cases e
    · exact hl hc
  · obtain ⟨_, ps, lc, k, ok, e⟩ := W.t a hc
    rw [x.at_] at e; injection e with e; injection e with e; cases e
theorem Wrs.xx (W : Wrs s.heap ls ds ts) (af : Af (ls ++ ds ++ ts) s s') {c d : Addr} (x : Own g s.heap a (instObj c d)) : Own g s'.heap a (instObj c d) := x.off af fun c' hc q => by
  have q : a = c' := q
  subst q
  obtain ⟨o, e, w⟩ := W.wr a hc
  rw [x.at_] at e; injection e with e; subst e
  rcases w with ⟨_, _, e⟩ | ⟨_, _, e⟩ | ⟨_, _, _, _, e⟩ <;> (injection e with _ _ e3; cases e3)
theorem Wrs.tt (W : Wrs s.heap ls ds ts) (af : Af (ls ++ ds ++ ts) s s') {ps : Array Value} (x : Own g s.heap a (PySem.W.tabObj ps)) (hl : a ∉ ts) : Own g s'.heap a (PySem.W.tabObj ps) := x.off af fun c hc q => by
  have q : a = c := q
  subst q
  rcases List.mem_append.mp hc with hc | hc
  · rcases List.mem_append.mp hc with hc | hc
    · obtain ⟨es, k, e⟩ := W.l a hc
      rw [x.at_] at e; injection e with e; injection e with e; cases e
    · obtain ⟨es, k, e⟩ := W.d a hc
      rw [x.at_] at e; injection e with e; injection e with e; cases e
  · exact hl hc
theorem BF.offs {w : World} {e b z : Int} {sp : Addr} {f : Fa} {m k : Int} (x : BF w e b z sp g s.heap f m k) (W : Wrs s.heap ls ds ts) (af : Af (ls ++ ds ++ ts) s s') (hd : f.d ∉ ds) (hl : f.l ∉ ls) : BF w e b z sp g s'.heap f m k :=
  ⟨W.xx af x.x, let ⟨t, o⟩ := x.d; ⟨t, W.dd af o hd⟩, let ⟨t, n, o⟩ := x.l; ⟨t, n, W.ll af o hl⟩⟩
theorem EF.offs {w : World} {e b z : Int} {sp : Addr} {f : Fa} {bs : List B3} {k : Int} (x : EF w e b z sp g s.heap f bs k) (W : Wrs s.heap ls ds ts) (af : Af (ls ++ ds ++ ts) s s') (hd : f.d ∉ ds) (hl : f.l ∉ ls) (hb : ∀ q ∈ bs, q.1.d ∉ ds ∧ q.1.l ∉ ls) : EF w e b z sp g s'.heap f bs k :=
  ⟨W.xx af x.x, let ⟨t, o⟩ := x.d; ⟨t, W.dd af o hd⟩, let ⟨n, o⟩ := x.l; ⟨n, W.ll af o hl⟩, fun q hq => (x.all q hq).offs W af (hb q hq).1 (hb q hq).2⟩
theorem CB.offs {w : World} {e b z : Int} {sp : Addr} {f : Fa} {cs : List Int} {k : Int} (x : CB w e b z sp g s.heap f cs k) (W : Wrs s.heap ls ds ts) (af : Af (ls ++ ds ++ ts) s s') (hd : f.d ∉ ds) (hl : f.l ∉ ls) : CB w e b z sp g s'.heap f cs k :=
  ⟨W.xx af x.x, let ⟨t, o⟩ := x.d; ⟨t, W.dd af o hd⟩, let ⟨vs, n, o, i⟩ := x.l; ⟨vs, n, W.ll af o hl, i⟩, x.len⟩
end
section
variable {w : World} {g : Heap} {s s' : Shared} {L : Addr} {e b z far : Int} {sp : Addr} {G : Fa} {gs : List B3} {kg : Int} {W : B3} {C : Fa} {cs : List Int} {kc : Int} {rs : List B3} {rl pl : Addr} {put : List Str} {ex : List (Addr × Obj)} {ls ds ts : List Addr}
theorem LS.Sp (X : LS w g s.heap L e b z far sp G gs kg W C cs kc rs rl pl put ex) : Sp w g s.heap sp far := let ⟨_, _, x⟩ := X.S; x.sp
/-- what is left where a call has written elsewhere -/
structure LOff (w : World) (g h : Heap) (L : Addr) (e b z far : Int) (sp : Addr) (G : Fa) (gs : List B3) (kg : Int) (W : B3) (C : Fa) (cs : List Int) (kc : Int) (rs : List B3) (rl pl : Addr) (put : List Str) (ex : List (Addr × Obj)) (ls ds ts : List Addr) : Prop where
  S : ∃ co, (∀ k : Nat, k ≤ 13 → @Ne Nat co (L + k)) ∧ SpA w g h sp far co
  cells : LC h L b z G.x W.1.x C.x pl
  t1 : ∃ ps, Own g h 571 (PySem.W.tabObj ps)
  E : G.d ∉ ds → G.l ∉ ls → (∀ q ∈ gs, q.1.d ∉ ds ∧ q.1.l ∉ ls) → EF w e b z sp g h G gs kg
  WB : W.1.d ∉ ds → W.1.l ∉ ls → BF w e b z sp g h W.1 W.2.1 W.2.2
  CC : C.d ∉ ds → C.l ∉ ls → CB w e b z sp g h C cs kc
  RB : ∀ q ∈ rs, q.1.d ∉ ds → q.1.l ∉ ls → BF w e b z sp g h q.1 q.2.1 q.2.2
  hrl : rl ∉ ls → ∃ n, Own g h rl (PySem.W.listOf (refsOf rs).toArray n)
  hpl : pl ∉ ls → ∃ vs n, Own g h pl (PySem.W.listOf vs.toArray n) ∧ StrsAre vs put
  t2 : 419 ∉ ts → ∃ ps, TabOk 262 19 ps ∧ Own g h 419 (PySem.W.tabObj ps)
  t3 : 515 ∉ ts → ∃ ps, TabOk 324 19 ps ∧ Own g h 515 (PySem.W.tabObj ps)
  xs : (∀ q ∈ ex, q.1 ∉ ls) → ∀ q ∈ ex, h.get? q.1 = some q.2 ∧ (ItO q.2 ∨ ∃ vs n, q.2 = PySem.W.listOf vs n)
theorem LS.offs (X : LS w g s.heap L e b z far sp G gs kg W C cs kc rs rl pl put ex) (R : Wrs s.heap ls ds ts) (af : Af (ls ++ ds ++ ts) s s') : LOff w g s'.heap L e b z far sp G gs kg W C cs kc rs rl pl put ex ls ds ts where
  S := let ⟨co, k, x⟩ := X.S; ⟨co, k, x.off af R.wr⟩
  cells := X.cells.off af R.wr
  t1 := let ⟨ps, o⟩ := X.t1; ⟨ps, R.tt af o fun h => (R.t _ h).1 rfl⟩
  E := fun h1 h2 h3 => X.E.offs R af h1 h2 h3
  WB := fun h1 h2 => X.WB.offs R af h1 h2
  CC := fun h1 h2 => X.CC.offs R af h1 h2
  RB := fun q hq h1 h2 => (X.RB q hq).offs R af h1 h2
  hrl := fun h => let ⟨n, o⟩ := X.hrl; ⟨n, R.ll af o h⟩
  hpl := fun h => let ⟨vs, n, o, i⟩ := X.hpl; ⟨vs, n, R.ll af o h, i⟩
  t2 := fun h => let ⟨ps, k, o⟩ := X.t2; ⟨ps, k, R.tt af o h⟩
  t3 := fun h => let ⟨ps, k, o⟩ := X.t3; ⟨ps, k, R.tt af o h⟩
  xs := fun hx q hq => by
    obtain ⟨e1, k⟩ := X.xs q hq
    refine ⟨af.keep _ _ e1 fun hc => ?_, k⟩
    rcases List.mem_append.mp hc with hc | hc
    · rcases List.mem_append.mp hc with hc | hc
      · exact hx q hq hc
      · obtain ⟨es, n, e2⟩ := R.d _ hc
        rw [e1] at e2; injection e2 with e2
        rcases k with (⟨k, _⟩ | ⟨k, _⟩) | ⟨vs, n, k⟩
        · rw [e2] at k; injection k with k; exact absurd k (by decide)
        · rw [e2] at k; injection k with k; exact absurd k (by decide)
        · rw [e2] at k; injection k with _ _ k; cases k
    · obtain ⟨_, ps, lc, kk, ok, e2⟩ := R.t _ hc
      rw [e1] at e2; injection e2 with e2
      rcases k with (⟨k, _⟩ | ⟨k, _⟩) | ⟨vs, n, k⟩
      · rw [e2] at k; cases k
      · rw [e2] at k; cases k
      · rw [e2] at k; injection k with k; cases k
theorem wrs0 {h : Heap} : Wrs h [] [] [] := ⟨fun _ h => absurd h List.not_mem_nil, fun _ h => absurd h List.not_mem_nil, fun _ h => absurd h List.not_mem_nil⟩
/-- nothing was written -/
theorem LS.af (X : LS w g s.heap L e b z far sp G gs kg W C cs kc rs rl pl put ex) (af : Af [] s s') : LS w g s'.heap L e b z far sp G gs kg W C cs kc rs rl pl put ex := by
  have O := X.offs wrs0 (ls := []) (ds := []) (ts := []) af
  exact ⟨X.hS, O.S, O.E nofun nofun (fun _ _ => ⟨nofun, nofun⟩), O.WB nofun nofun, O.CC nofun nofun, fun q hq => O.RB q hq nofun nofun, O.hrl nofun, O.hpl nofun, O.cells, O.t1, O.t2 nofun, O.t3 nofun, O.xs (fun _ _ => nofun), X.al, X.ad⟩
theorem exn {ex : List (Addr × Obj)} {a : Nat} (h : a ∉ ex.map fun q => (q.1 : Nat)) : ∀ q ∈ ex, q.1 ∉ ([a] : List Addr) := fun q hq hc => h (List.mem_map.mpr ⟨q, hq, List.mem_singleton.mp hc⟩)
theorem not1 {a b : Nat} (h : a ≠ b) : a ∉ [b] := fun q => h (List.mem_singleton.mp q)
theorem wrs_l {h : Heap} {a : Addr} {vs : Array Value} {n : Nat} (x : h.get? a = some (PySem.W.listOf vs n)) : Wrs h [a] [] [] := ⟨fun c hc => by rw [List.mem_singleton.mp hc]; exact ⟨_, _, x⟩, fun _ h => absurd h List.not_mem_nil, fun _ h => absurd h List.not_mem_nil⟩
theorem wrs_ld {h : Heap} {a d : Addr} {vs : Array Value} {n : Nat} {es : List DictEntry} {k : Nat} (x : h.get? a = some (PySem.W.listOf vs n)) (y : h.get? d = some (dictOf es k)) : Wrs h [a] [d] [] := ⟨fun c hc => by rw [List.mem_singleton.mp hc]; exact ⟨_, _, x⟩, fun c hc => by rw [List.mem_singleton.mp hc]; exact ⟨_, _, y⟩, fun _ h => absurd h List.not_mem_nil⟩
theorem LS.mem1 {f : Fa → Nat} {hs : List Nat} {gs rs : List B3} (x : Ap f hs (gs.map (·.1)) (rs.map (·.1))) {q : B3} (hq : q ∈ gs) : f q.1 ∉ hs := x.g _ (List.mem_map_of_mem hq)
theorem LS.mem2 {f : Fa → Nat} {hs : List Nat} {gs rs : List B3} (x : Ap f hs (gs.map (·.1)) (rs.map (·.1))) {q : B3} (hq : q ∈ rs) : f q.1 ∉ hs := x.r _ (List.mem_map_of_mem hq)
theorem LS.mem3 {f : Fa → Nat} {hs : List Nat} {gs rs : List B3} (x : Ap f hs (gs.map (·.1)) (rs.map (·.1))) {q r : B3} (hq : q ∈ gs) (hr : r ∈ rs) : f q.1 ≠ f r.1 := x.gr _ (List.mem_map_of_mem hq) _ (List.mem_map_of_mem hr)
/-- a word more was put -/
theorem LS.putOn (X : LS w g s.heap L e b z far sp G gs kg W C cs kc rs rl pl put ex) (af : Af [pl] s s') {put' : List Str} (hp : ∃ vs n, Own g s'.heap pl (PySem.W.listOf vs.toArray n) ∧ StrsAre vs put') : LS w g s'.heap L e b z far sp G gs kg W C cs kc rs rl pl put' ex := by
  obtain ⟨vs, n, o, _⟩ := X.hpl
  have O := X.offs (wrs_l o.at_) af
  have hl := X.al.hh
  have h1 := fun {q} hq => LS.mem1 X.al (q := q) hq
  have h2 := fun {q} hq => LS.mem2 X.al (q := q) hq
  simp only [List.nodup_cons, List.mem_cons, List.not_mem_nil, or_false, not_or] at hl h1 h2
  exact ⟨X.hS, O.S, O.E nofun (not1 hl.1.2.1) (fun q hq => ⟨nofun, not1 (h1 hq).2.2.1⟩), O.WB nofun (not1 (Ne.symm hl.2.2.1.2.1)), O.CC nofun (not1 (Ne.symm hl.2.2.1.1)), fun q hq => O.RB q hq nofun (not1 (h2 hq).2.2.1), O.hrl (not1 hl.2.1.1), hp, O.cells, O.t1, O.t2 nofun, O.t3 nofun, O.xs (exn hl.2.2.1.2.2), X.al, X.ad⟩
/-- the row of filters was told one more -/
theorem LS.rowOn (X : LS w g s.heap L e b z far sp G gs kg W C cs kc rs rl pl put ex) (af : Af [rl] s s') {r : B3} (hB : BF w e b z sp g s.heap r.1 r.2.1 r.2.2)
    (hr : ∃ n, Own g s'.heap rl (PySem.W.listOf (refsOf (rs ++ [r])).toArray n)) (al : Ap Fa.l (G.l :: rl :: pl :: C.l :: W.1.l :: ex.map (·.1)) (gs.map (·.1)) ((rs ++ [r]).map (·.1))) (ad : Ap Fa.d [G.d, C.d, W.1.d, L] (gs.map (·.1)) ((rs ++ [r]).map (·.1))) : LS w g s'.heap L e b z far sp G gs kg W C cs kc (rs ++ [r]) rl pl put ex := by
  obtain ⟨n, o⟩ := X.hrl
  have O := X.offs (wrs_l o.at_) af
  have hl := al.hh
  have h1 := fun {q} hq => LS.mem1 X.al (q := q) hq
  have h2 := fun {q} hq => LS.mem2 al (q := q) hq
  simp only [List.nodup_cons, List.mem_cons, List.not_mem_nil, or_false, not_or] at hl h1 h2
  refine ⟨X.hS, O.S, O.E nofun (not1 hl.1.1) (fun q hq => ⟨nofun, not1 (h1 hq).2.1⟩), O.WB nofun (not1 (Ne.symm hl.2.1.2.2.1)), O.CC nofun (not1 (Ne.symm hl.2.1.2.1)), fun q hq => ?_, hr, O.hpl (not1 (Ne.symm hl.2.1.1)), O.cells, O.t1, O.t2 nofun, O.t3 nofun, O.xs (exn hl.2.1.2.2.2), al, ad⟩
  have hm := h2 hq
  rcases List.mem_append.mp hq with hq | hq
  · exact O.RB q hq nofun (not1 hm.2.1)
  · rw [List.mem_singleton.mp hq] at hm ⊢
    exact hB.offs (wrs_l o.at_) af nofun (not1 hm.2.1)
/-- the last of the row was told -/
theorem LS.lastOn {pre : List B3} {ql : B3} {m' k' : Int} (X : LS w g s.heap L e b z far sp G gs kg W C cs kc (pre ++ [ql]) rl pl put ex) (af : Af [ql.1.l, ql.1.d] s s') (hB : BF w e b z sp g s'.heap ql.1 m' k') : LS w g s'.heap L e b z far sp G gs kg W C cs kc (pre ++ [(ql.1, m', k')]) rl pl put ex := by
  have hql : ql ∈ pre ++ [ql] := List.mem_append_right _ (.head _)
  obtain ⟨_, ⟨t, od⟩, ⟨_, n, ol⟩⟩ := X.RB ql hql
  have O := X.offs (wrs_ld ol.at_ od.at_) af
  have mp : (pre ++ [(ql.1, m', k')]).map (·.1) = (pre ++ [ql]).map (·.1) := by simp
  have hrr := X.al.rr
  have hrd := X.ad.rr
  have h1 := LS.mem2 X.al hql
  have h6 : (ql.1.l : Nat) ∉ ex.map fun q => (q.1 : Nat) := fun h => h1 (.tail _ (.tail _ (.tail _ (.tail _ (.tail _ h)))))
  have h2 := LS.mem2 X.ad hql
  simp only [List.mem_cons, List.not_mem_nil, or_false, not_or, List.map_append, List.map_cons, List.map_nil, List.map_map, List.nodup_append, List.mem_map] at h1 h2 hrr hrd
  refine ⟨X.hS, O.S, O.E (not1 (Ne.symm h2.1)) (not1 (Ne.symm h1.1)) (fun q hq => ⟨not1 (LS.mem3 X.ad hq hql), not1 (LS.mem3 X.al hq hql)⟩), O.WB (not1 (Ne.symm h2.2.2.1)) (not1 (Ne.symm h1.2.2.2.2.1)), O.CC (not1 (Ne.symm h2.2.1)) (not1 (Ne.symm h1.2.2.2.1)), fun q hq => ?_, ?_, O.hpl (not1 (Ne.symm h1.2.2.1)), O.cells, O.t1, O.t2 nofun, O.t3 nofun, O.xs (exn h6), mp ▸ X.al, mp ▸ X.ad⟩
  · rcases List.mem_append.mp hq with hq | hq
    · exact O.RB q (List.mem_append_left _ hq) (not1 (hrd.2.2 _ ⟨q, hq, rfl⟩ _ rfl)) (not1 (hrr.2.2 _ ⟨q, hq, rfl⟩ _ rfl))
    · rw [List.mem_singleton.mp hq]; exact hB
  · have e : refsOf (pre ++ [(ql.1, m', k')]) = refsOf (pre ++ [ql]) := by simp [refsOf]
    rw [e]
    exact O.hrl (not1 (Ne.symm h1.2.1))
/-- the one that is told all -/
theorem LS.wholeOn {m' k' : Int} (X : LS w g s.heap L e b z far sp G gs kg W C cs kc rs rl pl put ex) (af : Af [W.1.l, W.1.d] s s') (hB : BF w e b z sp g s'.heap W.1 m' k') : LS w g s'.heap L e b z far sp G gs kg (W.1, m', k') C cs kc rs rl pl put ex := by
  obtain ⟨_, ⟨t, od⟩, ⟨_, n, ol⟩⟩ := X.WB
  have O := X.offs (wrs_ld ol.at_ od.at_) af
  have hl := X.al.hh
  have hd := X.ad.hh
  have h1 := fun {q} hq => LS.mem1 X.al (q := q) hq
  have h2 := fun {q} hq => LS.mem2 X.al (q := q) hq
  have d1 := fun {q} hq => LS.mem1 X.ad (q := q) hq
  have d2 := fun {q} hq => LS.mem2 X.ad (q := q) hq
  simp only [List.nodup_cons, List.mem_cons, List.not_mem_nil, or_false, not_or] at hl hd h1 h2 d1 d2
  exact ⟨X.hS, O.S, O.E (not1 hd.1.2.1) (not1 hl.1.2.2.2.1) (fun q hq => ⟨not1 (d1 hq).2.2.1, not1 (h1 hq).2.2.2.2.1⟩), hB, O.CC (not1 hd.2.1.1) (not1 hl.2.2.2.1.1), fun q hq => O.RB q hq (not1 (d2 hq).2.2.1) (not1 (h2 hq).2.2.2.2.1), O.hrl (not1 hl.2.1.2.2.1), O.hpl (not1 hl.2.2.1.2.1), O.cells, O.t1, O.t2 nofun, O.t3 nofun, O.xs (exn hl.2.2.2.2.1), X.al, X.ad⟩
/-- the counting one -/
theorem LS.countOn {cs' : List Int} {k' : Int} (X : LS w g s.heap L e b z far sp G gs kg W C cs kc rs rl pl put ex) (af : Af [C.l, C.d] s s') (hB : CB w e b z sp g s'.heap C cs' k') : LS w g s'.heap L e b z far sp G gs kg W C cs' k' rs rl pl put ex := by
  obtain ⟨_, ⟨t, od⟩, ⟨_, n, ol, _⟩, _⟩ := X.CC
  have O := X.offs (wrs_ld ol.at_ od.at_) af
  have hl := X.al.hh
  have hd := X.ad.hh
  have h1 := fun {q} hq => LS.mem1 X.al (q := q) hq
  have h2 := fun {q} hq => LS.mem2 X.al (q := q) hq
  have d1 := fun {q} hq => LS.mem1 X.ad (q := q) hq
  have d2 := fun {q} hq => LS.mem2 X.ad (q := q) hq
  simp only [List.nodup_cons, List.mem_cons, List.not_mem_nil, or_false, not_or] at hl hd h1 h2 d1 d2
  exact ⟨X.hS, O.S, O.E (not1 hd.1.1) (not1 hl.1.2.2.1) (fun q hq => ⟨not1 (d1 hq).2.1, not1 (h1 hq).2.2.2.1⟩), O.WB (not1 (Ne.symm hd.2.1.1)) (not1 (Ne.symm hl.2.2.2.1.1)), hB, fun q hq => O.RB q hq (not1 (d2 hq).2.1) (not1 (h2 hq).2.2.2.1), O.hrl (not1 hl.2.1.2.1), O.hpl (not1 hl.2.2.1.1), O.cells, O.t1, O.t2 nofun, O.t3 nofun, O.xs (exn hl.2.2.2.1.2), X.al, X.ad⟩
/-- the growing one was pushed, or grew -/
theorem LS.growOn {gs' : List B3} {kg' : Int} (X : LS w g s.heap L e b z far sp G gs kg W C cs kc rs rl pl put ex) (R : Wrs s.heap ls ds ts) (af : Af (ls ++ ds ++ ts) s s') (hE : EF w e b z sp g s'.heap G gs' kg')
    (hls : ∀ c ∈ ls, (c : Nat) = G.l ∨ ∃ q ∈ gs, (c : Nat) = q.1.l) (hds : ∀ c ∈ ds, (c : Nat) = G.d ∨ ∃ q ∈ gs, (c : Nat) = q.1.d) (ht : 515 ∉ ts)
    (t2 : ∃ ps, TabOk 262 19 ps ∧ Own g s'.heap 419 (PySem.W.tabObj ps)) (al : Ap Fa.l (G.l :: rl :: pl :: C.l :: W.1.l :: ex.map (·.1)) (gs'.map (·.1)) (rs.map (·.1))) (ad : Ap Fa.d [G.d, C.d, W.1.d, L] (gs'.map (·.1)) (rs.map (·.1))) : LS w g s'.heap L e b z far sp G gs' kg' W C cs kc rs rl pl put ex := by
  have O := X.offs R af
  have hl := X.al.hh
  have hd := X.ad.hh
  have h1 := fun {q} hq => LS.mem1 X.al (q := q) hq
  have h2 := fun {q} hq => LS.mem2 X.al (q := q) hq
  have d1 := fun {q} hq => LS.mem1 X.ad (q := q) hq
  have d2 := fun {q} hq => LS.mem2 X.ad (q := q) hq
  have e1 := fun {q r} hq hr => LS.mem3 X.al (q := q) (r := r) hq hr
  have e2 := fun {q r} hq hr => LS.mem3 X.ad (q := q) (r := r) hq hr
  simp only [List.nodup_cons, List.mem_cons, List.not_mem_nil, or_false, not_or] at hl hd h1 h2 d1 d2
  have kl : ∀ {a : Nat}, a ≠ G.l → (∀ q ∈ gs, (q.1.l : Nat) ≠ a) → a ∉ ls := fun n1 n2 hc => by
    rcases hls _ hc with h | ⟨q, hq, h⟩
    · exact n1 h
    · exact n2 q hq h.symm
  have kd : ∀ {a : Nat}, a ≠ G.d → (∀ q ∈ gs, (q.1.d : Nat) ≠ a) → a ∉ ds := fun n1 n2 hc => by
    rcases hds _ hc with h | ⟨q, hq, h⟩
    · exact n1 h
    · exact n2 q hq h.symm
  exact ⟨X.hS, O.S, hE, O.WB (kd (Ne.symm hd.1.2.1) fun q hq => (d1 hq).2.2.1) (kl (Ne.symm hl.1.2.2.2.1) fun q hq => (h1 hq).2.2.2.2.1), O.CC (kd (Ne.symm hd.1.1) fun q hq => (d1 hq).2.1) (kl (Ne.symm hl.1.2.2.1) fun q hq => (h1 hq).2.2.2.1),
    fun q hq => O.RB q hq (kd (d2 hq).1 fun r hr => e2 hr hq) (kl (h2 hq).1 fun r hr => e1 hr hq), O.hrl (kl (Ne.symm hl.1.1) fun q hq => (h1 hq).2.1), O.hpl (kl (Ne.symm hl.1.2.1) fun q hq => (h1 hq).2.2.1), O.cells, O.t1, t2, O.t3 ht, O.xs (fun q hq => kl (fun h => hl.1.2.2.2.2 (List.mem_map.mpr ⟨q, hq, h⟩)) fun r hr h => (h1 hr).2.2.2.2.2 (List.mem_map.mpr ⟨q, hq, h.symm⟩)), al, ad⟩
end
end
example : True ∧ True := by walk1 <;> trivial
section
local macro_rules | `(tactic| walk_at "m:flush") => `(tactic| trivial)
example : True ∧ True := by walk1 <;> trivial
end
section
section
variable {w : World} {g : Heap} {s s' : Shared} {L : Addr} {e b z far : Int} {sp : Addr} {G : Fa} {gs : List B3} {kg : Int} {W : B3} {C : Fa} {cs : List Int} {kc : Int} {rs : List B3} {rl pl : Addr} {put : List Str} {ex : List (Addr × Obj)}
theorem not_it_data {o : Obj} (h : ∀ v, o.data ≠ .fields v) : ¬ ItO o := fun q => by
  rcases q with ⟨_, _, _, q⟩ | ⟨_, _, _, _, q⟩ <;> exact h _ q
theorem not_it_cls {o : Obj} {v : Value} (h : o.cls = v) (n1 : v ≠ .type "list_iterator") (n2 : v ≠ .type "range_iterator") : ¬ ItO o := fun q => by
  rcases q with ⟨q, _⟩ | ⟨q, _⟩
  · exact n1 (h.symm.trans q)
  · exact n2 (h.symm.trans q)
/-- the law's state stands while its objects do -/
theorem LS.kp {h h' : Heap} (X : LS w g h L e b z far sp G gs kg W C cs kc rs rl pl put ex) (k : ∀ c o, ¬ ItO o → @Ne Nat c L → (∀ v, o.data ≠ .cell v) → h.get? c = some o → h'.get? c = some o) {j : Nat} (hj : 7 ≤ j) (kc' : ∀ i : Nat, 1 ≤ i → i ≠ j → ∀ v, h.IsCell (L + i) v → h'.IsCell (L + i) v)
    (hw : ∃ v, h'.IsCell (L + j) v) (ko : ∀ co oo tk, (∀ k : Nat, k ≤ 13 → @Ne Nat co (L + k)) → Own g h co oo → oo.data = .cell (some (.int far tk)) → h'.get? co = some oo) (nL : ∃ m, h.Ns L m) (kx' : ∀ q ∈ ex, h'.get? q.1 = some q.2) : LS w g h' L e b z far sp G gs kg W C cs kc rs rl pl put ex := by
  obtain ⟨m, hn⟩ := nL
  have kx : ∀ {a c d : Addr}, Own g h a (instObj c d) → Own g h' a (instObj c d) := fun x => ⟨k _ _ (not_it_cls rfl nofun nofun) (ns_ne hn x.at_ nofun) nofun x.at_, x.new⟩
  have kl : ∀ {a : Addr} {vs : Array Value} {n : Nat}, Own g h a (PySem.W.listOf vs n) → Own g h' a (PySem.W.listOf vs n) := fun x => ⟨k _ _ (not_it_data nofun) (ns_ne hn x.at_ nofun) nofun x.at_, x.new⟩
  have kd : ∀ {a : Addr} {es : List DictEntry} {n : Nat}, @Ne Nat a L → Own g h a (dictOf es n) → Own g h' a (dictOf es n) := fun q x => ⟨k _ _ (not_it_data nofun) q nofun x.at_, x.new⟩
  have kt : ∀ {a : Addr} {ps : Array Value}, Own g h a (PySem.W.tabObj ps) → Own g h' a (PySem.W.tabObj ps) := fun x => ⟨k _ _ (not_it_cls (v := .none) rfl nofun nofun) (ns_ne hn x.at_ nofun) nofun x.at_, x.new⟩
  have kb : ∀ {f : Fa} {m k : Int}, @Ne Nat f.d L → BF w e b z sp g h f m k → BF w e b z sp g h' f m k := fun q x => ⟨kx x.x, let ⟨t, o⟩ := x.d; ⟨t, kd q o⟩, let ⟨t, n, o⟩ := x.l; ⟨t, n, kl o⟩⟩
  have hd := X.ad.hh
  have d1 := fun {q} hq => LS.mem1 X.ad (q := q) hq
  have d2 := fun {q} hq => LS.mem2 X.ad (q := q) hq
  simp only [List.nodup_cons, List.mem_cons, List.not_mem_nil, or_false, not_or] at hd d1 d2
  obtain ⟨co, kco, ⟨c, dc, pm, ct, oc, vs, t, oo, tk, O1, O2, hoc, hvs, O3, hoo⟩⟩ := X.S
  have nsv : ∀ {a : Addr} {o : Obj}, Own g h a o → (∀ es ep, o.data ≠ .dict es ep) → @Ne Nat a L := fun x q => ns_ne hn x.at_ q
  refine ⟨X.hS, ⟨co, kco, ⟨c, dc, pm, ct, oc, vs, t, oo, tk, ⟨k _ _ (not_it_data nofun) (nsv O1 nofun) nofun O1.at_, O1.new⟩, ⟨k _ _ (fun q => ?_) (nsv O2 (by rw [hoc]; nofun)) (by rw [hoc]; nofun) O2.at_, O2.new⟩, hoc, hvs, ⟨ko _ _ _ kco O3 hoo, O3.new⟩, hoo⟩⟩,
    ⟨kx X.E.x, let ⟨t, o⟩ := X.E.d; ⟨t, kd hd.1.2.2 o⟩, let ⟨n, o⟩ := X.E.l; ⟨n, kl o⟩, fun q hq => kb (d1 hq).2.2.2 (X.E.all q hq)⟩, kb hd.2.2.1 X.WB, ⟨kx X.CC.x, let ⟨t, o⟩ := X.CC.d; ⟨t, kd hd.2.1.2 o⟩, let ⟨vs, n, o, i⟩ := X.CC.l; ⟨vs, n, kl o, i⟩, X.CC.len⟩,
    fun q hq => kb (d2 hq).2.2.2 (X.RB q hq), let ⟨n, o⟩ := X.hrl; ⟨n, kl o⟩, let ⟨vs, n, o, i⟩ := X.hpl; ⟨vs, n, kl o, i⟩,
    ⟨let ⟨t, c⟩ := X.cells.cb; ⟨t, kc' 1 (by decide) (by omega) _ c⟩, let ⟨t, c⟩ := X.cells.cz; ⟨t, kc' 2 (by decide) (by omega) _ c⟩, kc' 3 (by decide) (by omega) _ X.cells.cg, kc' 4 (by decide) (by omega) _ X.cells.cw, kc' 5 (by decide) (by omega) _ X.cells.cc, kc' 6 (by decide) (by omega) _ X.cells.cp, fun i h1 h2 => ?_⟩,
    let ⟨ps, o⟩ := X.t1; ⟨ps, kt o⟩, let ⟨ps, q, o⟩ := X.t2; ⟨ps, q, kt o⟩, let ⟨ps, q, o⟩ := X.t3; ⟨ps, q, kt o⟩, fun q hq => ⟨kx' q hq, (X.xs q hq).2⟩, X.al, X.ad⟩
  · rcases q with ⟨_, l, i, q⟩ | ⟨_, x, y, zz, q⟩
    · rw [hoc] at q; injection q with q; rw [q] at hvs; simp at hvs
    · rw [hoc] at q; injection q with q; rw [q] at hvs; simp [rawInt] at hvs
  · by_cases h7 : i = j
    · subst h7; exact hw
    · obtain ⟨v, c⟩ := X.cells.ce i h1 h2
      exact ⟨v, kc' i (by omega) h7 v c⟩
theorem ex_dict {o : Obj} (k : ItO o ∨ ∃ vs n, o = PySem.W.listOf vs n) : ∀ es ep, o.data ≠ .dict es ep := fun es ep d => by
  rcases k with (⟨_, _, _, k⟩ | ⟨_, _, _, _, k⟩) | ⟨vs, n, k⟩
  · rw [k] at d; cases d
  · rw [k] at d; cases d
  · subst k; cases d
theorem ex_cell {o : Obj} (k : ItO o ∨ ∃ vs n, o = PySem.W.listOf vs n) : ∀ v, o.data ≠ .cell v := fun v d => by
  rcases k with (⟨_, _, _, k⟩ | ⟨_, _, _, _, k⟩) | ⟨vs, n, k⟩
  · rw [k] at d; cases d
  · rw [k] at d; cases d
  · subst k; cases d
theorem LS.exL {h : Heap} {m : Str → Option Value} (X : LS w g h L e b z far sp G gs kg W C cs kc rs rl pl put ex) (hn : h.Ns L m) {q : Addr × Obj} (hq : q ∈ ex) : @Ne Nat q.1 L := ns_ne hn (X.xs q hq).1 (ex_dict (X.xs q hq).2)
/-- all but the frame stands -/
theorem LS.seg {h h' : Heap} (X : LS w g h L e b z far sp G gs kg W C cs kc rs rl pl put ex) (nL : ∃ m, h.Ns L m) (k : ∀ c o, @Ne Nat c L → h.get? c = some o → h'.get? c = some o) : LS w g h' L e b z far sp G gs kg W C cs kc rs rl pl put ex := by
  have kc1 : ∀ i : Nat, 1 ≤ i → ∀ v, h.IsCell (L + i) v → h'.IsCell (L + i) v := fun i hi v ⟨o, e1, d⟩ => ⟨o, k _ _ (fun q => by
    have q : L + i = L := q
    omega) e1, d⟩
  obtain ⟨m, hn⟩ := nL
  refine X.kp (j := 7) (fun c o _ n _ e1 => k c o n e1) (by decide) (fun i hi _ => kc1 i hi) ?_ (fun co oo tk _ O d => k _ _ (ns_ne hn O.at_ (by rw [d]; nofun)) O.at_) ⟨m, hn⟩ (fun q hq => k _ _ (X.exL hn hq) (X.xs q hq).1)
  obtain ⟨v, c⟩ := X.cells.ce 7 (by decide) (by decide)
  exact ⟨v, kc1 7 (by decide) v c⟩
/-- a cell was written -/
theorem LS.cell {h h' : Heap} (X : LS w g h L e b z far sp G gs kg W C cs kc rs rl pl put ex) (nL : ∃ m, h.Ns L m) {j : Nat} (j1 : 7 ≤ j) (j2 : j ≤ 13) (k : ∀ c o, @Ne Nat c (L + j) → h.get? c = some o → h'.get? c = some o) {v : Option Value} (hv : h'.IsCell (L + j) v) : LS w g h' L e b z far sp G gs kg W C cs kc rs rl pl put ex := by
  obtain ⟨v0, o0, e0, d0⟩ := X.cells.ce j j1 j2
  have ne7 : ∀ {c : Addr} {o : Obj}, h.get? c = some o → (∀ v, o.data ≠ .cell v) → @Ne Nat c (L + j) := fun e1 n q => by
    rw [show _ = L + j from q, e0] at e1; injection e1 with e1; subst e1; exact n _ d0
  refine X.kp (fun c o _ _ n e1 => k c o (ne7 e1 n) e1) j1 (fun i h1 h7 v ⟨o, e1, d⟩ => ⟨o, k _ _ (fun q => h7 (Nat.add_left_cancel q)) e1, d⟩) ⟨v, hv⟩ (fun co oo tk kco O d => k _ _ (kco j j2) O.at_) nL (fun q hq => k _ _ (ne7 (X.xs q hq).1 (ex_cell (X.xs q hq).2)) (X.xs q hq).1)
/-- a for statement's own iterator went on -/
theorem LS.stab {h₀ h h' : Heap} (X : LS w g h L e b z far sp G gs kg W C cs kc rs rl pl put ex) (nL : ∃ m, h.Ns L m) (hx : ∀ q ∈ ex, ¬ (ItO q.2 ∧ h₀.get? q.1 = none)) (k : ∀ c o, h.get? c = some o → ¬ (ItO o ∧ h₀.get? c = none) → h'.get? c = some o) : LS w g h' L e b z far sp G gs kg W C cs kc rs rl pl put ex := by
  have kc1 : ∀ i : Nat, ∀ v, h.IsCell (L + i) v → h'.IsCell (L + i) v := fun i v ⟨o, e1, d⟩ => ⟨o, k _ _ e1 (fun q => not_it_data (o := o) (by rw [d]; nofun) q.1), d⟩
  refine X.kp (j := 7) (fun c o n _ _ e1 => k c o e1 fun q => n q.1) (by decide) (fun i _ _ => kc1 i) ?_ (fun co oo tk _ O d => k _ _ O.at_ (fun q => not_it_data (o := oo) (by rw [d]; nofun) q.1)) nL (fun q hq => k _ _ (X.xs q hq).1 (hx q hq))
  obtain ⟨v, c⟩ := X.cells.ce 7 (by decide) (by decide)
  exact ⟨v, kc1 7 v c⟩
theorem LS.noEx {h : Heap} (X : LS w g h L e b z far sp G gs kg W C cs kc rs rl pl put ex) : LS w g h L e b z far sp G gs kg W C cs kc rs rl pl put [] := by
  have sub : ∀ c ∈ ([G.l, rl, pl, C.l, W.1.l] : List Nat), c ∈ (G.l :: rl :: pl :: C.l :: W.1.l :: ex.map (·.1) : List Nat) := fun c hc => by
    have : (G.l :: rl :: pl :: C.l :: W.1.l :: ex.map (·.1) : List Nat) = ([G.l, rl, pl, C.l, W.1.l] : List Nat) ++ ex.map (·.1) := rfl
    rw [this]; exact List.mem_append_left _ hc
  refine ⟨X.hS, X.S, X.E, X.WB, X.CC, X.RB, X.hrl, X.hpl, X.cells, X.t1, X.t2, X.t3, fun _ h => absurd h List.not_mem_nil, ⟨?_, fun q hq hc => X.al.g q hq (sub _ hc), fun q hq hc => X.al.r q hq (sub _ hc), X.al.gr, X.al.gg, X.al.rr⟩, X.ad⟩
  have := X.al.hh
  have e : (G.l :: rl :: pl :: C.l :: W.1.l :: ex.map (·.1) : List Nat) = ([G.l, rl, pl, C.l, W.1.l] : List Nat) ++ ex.map (·.1) := rfl
  rw [e, List.nodup_append] at this
  exact this.1
theorem LS.addEx {h : Heap} (X : LS w g h L e b z far sp G gs kg W C cs kc rs rl pl put []) (hx : ∀ q ∈ ex, h.get? q.1 = some q.2 ∧ (ItO q.2 ∨ ∃ vs n, q.2 = PySem.W.listOf vs n)) (nd : (ex.map fun q => (q.1 : Nat)).Nodup)
    (h1 : ∀ q ∈ ex, (q.1 : Nat) ∉ ([G.l, rl, pl, C.l, W.1.l] : List Nat)) (h2 : ∀ q ∈ ex, ∀ f ∈ gs ++ rs, @Ne Nat f.1.l q.1) : LS w g h L e b z far sp G gs kg W C cs kc rs rl pl put ex := by
  have e : (G.l :: rl :: pl :: C.l :: W.1.l :: ex.map (·.1) : List Nat) = ([G.l, rl, pl, C.l, W.1.l] : List Nat) ++ ex.map (·.1) := rfl
  refine ⟨X.hS, X.S, X.E, X.WB, X.CC, X.RB, X.hrl, X.hpl, X.cells, X.t1, X.t2, X.t3, hx, ⟨?_, fun q hq hc => ?_, fun q hq hc => ?_, X.al.gr, X.al.gg, X.al.rr⟩, X.ad⟩
  · rw [e, List.nodup_append]
    refine ⟨X.al.hh, nd, fun a ha c hc q => ?_⟩
    obtain ⟨r, hr, q2⟩ := List.mem_map.mp hc
    exact h1 r hr (by rw [show (r.1 : Nat) = a from q2.trans q.symm]; exact ha)
  · rw [e] at hc
    rcases List.mem_append.mp hc with hc | hc
    · exact X.al.g q hq hc
    · obtain ⟨r, hr, q2⟩ := List.mem_map.mp hc
      obtain ⟨f, hf, q3⟩ := List.mem_map.mp hq
      subst q3
      exact h2 r hr f (List.mem_append_left _ hf) q2.symm
  · rw [e] at hc
    rcases List.mem_append.mp hc with hc | hc
    · exact X.al.r q hq hc
    · obtain ⟨r, hr, q2⟩ := List.mem_map.mp hc
      obtain ⟨f, hf, q3⟩ := List.mem_map.mp hq
      subst q3
      exact h2 r hr f (List.mem_append_right _ hf) q2.symm
theorem Ap.snoc_r {f : Fa → Nat} {hs : List Nat} {gs rs : List Fa} {a : Fa} (x : Ap f hs gs rs) (h1 : f a ∉ hs) (h2 : ∀ q ∈ gs, f q ≠ f a) (h3 : ∀ q ∈ rs, f q ≠ f a) : Ap f hs gs (rs ++ [a]) := by
  refine ⟨x.hh, x.g, fun q hq => ?_, fun q hq r hr => ?_, x.gg, ?_⟩
  · rcases List.mem_append.mp hq with hq | hq
    · exact x.r q hq
    · rw [List.mem_singleton.mp hq]; exact h1
  · rcases List.mem_append.mp hr with hr | hr
    · exact x.gr q hq r hr
    · rw [List.mem_singleton.mp hr]; exact h2 q hq
  · rw [List.map_append, List.nodup_append]
    refine ⟨x.rr, by simp, fun c hc d hd => ?_⟩
    obtain ⟨q, hq, rfl⟩ := List.mem_map.mp hc
    rw [List.map_singleton, List.mem_singleton] at hd
    rw [hd]; exact h3 q hq
theorem Ap.snoc_g {f : Fa → Nat} {hs : List Nat} {gs rs : List Fa} {a : Fa} (x : Ap f hs gs rs) (h1 : f a ∉ hs) (h2 : ∀ q ∈ gs, f q ≠ f a) (h3 : ∀ q ∈ rs, f q ≠ f a) : Ap f hs (gs ++ [a]) rs := by
  refine ⟨x.hh, fun q hq => ?_, x.r, fun q hq r hr => ?_, ?_, x.rr⟩
  · rcases List.mem_append.mp hq with hq | hq
    · exact x.g q hq
    · rw [List.mem_singleton.mp hq]; exact h1
  · rcases List.mem_append.mp hq with hq | hq
    · exact x.gr q hq r hr
    · rw [List.mem_singleton.mp hq]; exact (h3 r hr).symm
  · rw [List.map_append, List.nodup_append]
    refine ⟨x.gg, by simp, fun c hc d hd => ?_⟩
    obtain ⟨q, hq, rfl⟩ := List.mem_map.mp hc
    rw [List.map_singleton, List.mem_singleton] at hd
    rw [hd]; exact h2 q hq
theorem LS.bl {h : Heap} (X : LS w g h L e b z far sp G gs kg W C cs kc rs rl pl put ex) {c : Nat} (hc : c ∈ (G.l :: rl :: pl :: C.l :: W.1.l :: ex.map (·.1) : List Nat)) : h.get? c ≠ none := by
  have nn : ∀ {a : Addr} {o : Obj}, h.get? a = some o → h.get? a ≠ none := fun e1 => by rw [e1]; exact nofun
  simp only [List.mem_cons, List.mem_map] at hc
  rcases hc with rfl | rfl | rfl | rfl | rfl | ⟨q, hq, rfl⟩
  · obtain ⟨_, o⟩ := X.E.l; exact nn o.at_
  · obtain ⟨_, o⟩ := X.hrl; exact nn o.at_
  · obtain ⟨_, _, o, _⟩ := X.hpl; exact nn o.at_
  · obtain ⟨_, _, o, _⟩ := X.CC.l; exact nn o.at_
  · obtain ⟨_, _, o⟩ := X.WB.l; exact nn o.at_
  · exact nn (X.xs q hq).1
theorem LS.bd {h : Heap} {m : Str → Option Value} (X : LS w g h L e b z far sp G gs kg W C cs kc rs rl pl put ex) (hn : h.Ns L m) {c : Nat} (hc : c ∈ ([G.d, C.d, W.1.d, L] : List Nat)) : h.get? c ≠ none := by
  have nn : ∀ {a : Addr} {o : Obj}, h.get? a = some o → h.get? a ≠ none := fun e1 => by rw [e1]; exact nofun
  simp only [List.mem_cons, List.not_mem_nil, or_false] at hc
  rcases hc with rfl | rfl | rfl | rfl
  · obtain ⟨_, o⟩ := X.E.d; exact nn o.at_
  · obtain ⟨_, o⟩ := X.CC.d; exact nn o.at_
  · obtain ⟨_, o⟩ := X.WB.d; exact nn o.at_
  · obtain ⟨o, _, _, e1, _⟩ := hn; exact nn e1
/-- a filter that is new lies apart -/
theorem LS.apNew {m : Str → Option Value} (X : LS w g s.heap L e b z far sp G gs kg W C cs kc rs rl pl put ex) (hn : s.heap.Ns L m) {h' : Heap} {f : Fa} {mm kk : Int} (B : BF w e b z sp s.heap h' f mm kk) :
    (Ap Fa.l (G.l :: rl :: pl :: C.l :: W.1.l :: ex.map (·.1)) (gs.map (·.1)) (rs.map (·.1) ++ [f]) ∧ Ap Fa.d [G.d, C.d, W.1.d, L] (gs.map (·.1)) (rs.map (·.1) ++ [f])) ∧
    (Ap Fa.l (G.l :: rl :: pl :: C.l :: W.1.l :: ex.map (·.1)) (gs.map (·.1) ++ [f]) (rs.map (·.1)) ∧ Ap Fa.d [G.d, C.d, W.1.d, L] (gs.map (·.1) ++ [f]) (rs.map (·.1))) := by
  obtain ⟨_, ⟨_, od⟩, ⟨_, _, ol⟩⟩ := B
  have nl : f.l ∉ (G.l :: rl :: pl :: C.l :: W.1.l :: ex.map (·.1) : List Nat) := fun hc => X.bl hc ol.new
  have nd : f.d ∉ ([G.d, C.d, W.1.d, L] : List Nat) := fun hc => X.bd hn hc od.new
  have gl : ∀ q ∈ gs.map (·.1), q.l ≠ f.l := fun q hq h => by
    obtain ⟨r, hr, rfl⟩ := List.mem_map.mp hq
    obtain ⟨_, _, o⟩ := (X.E.all r hr).l
    have := o.at_; rw [h, ol.new] at this; cases this
  have gd : ∀ q ∈ gs.map (·.1), q.d ≠ f.d := fun q hq h => by
    obtain ⟨r, hr, rfl⟩ := List.mem_map.mp hq
    obtain ⟨_, o⟩ := (X.E.all r hr).d
    have := o.at_; rw [h, od.new] at this; cases this
  have rl' : ∀ q ∈ rs.map (·.1), q.l ≠ f.l := fun q hq h => by
    obtain ⟨r, hr, rfl⟩ := List.mem_map.mp hq
    obtain ⟨_, _, o⟩ := (X.RB r hr).l
    have := o.at_; rw [h, ol.new] at this; cases this
  have rd : ∀ q ∈ rs.map (·.1), q.d ≠ f.d := fun q hq h => by
    obtain ⟨r, hr, rfl⟩ := List.mem_map.mp hq
    obtain ⟨_, o⟩ := (X.RB r hr).d
    have := o.at_; rw [h, od.new] at this; cases this
  exact ⟨⟨X.al.snoc_r nl gl rl', X.ad.snoc_r nd gd rd⟩, X.al.snoc_g nl gl rl', X.ad.snoc_g nd gd rd⟩
end
abbrev ledOf (w : World) (L : Addr) (e b z : Int) (sp : Addr) (G W C rl pl : Addr) (Gd Wd Cd Gl Wl Cl : Addr) (oB oZ oG oW oC oP : Obj) (tG tW tC tq : Nat → Tok) (kg kw kc : Int) (rs : List B3) (ql : B3) (n1 n2 : Nat) (vs : List Value) : List (Addr × Obj) :=
  [(L + 1, oB), (L + 1 + 1, oZ), (L + 1 + 1 + 1, oG), (L + 1 + 1 + 1 + 1, oW), (L + 1 + 1 + 1 + 1 + 1, oC), (L + 1 + 1 + 1 + 1 + 1 + 1, oP), (rl, PySem.W.listOf (refsOf rs).toArray n1), (pl, PySem.W.listOf vs.toArray n2),
   (G, instObj 457 Gd), (Gd, dictOf (ebEs w.params tG e b sp Gl kg) 5), (W, instObj 337 Wd), (Wd, dictOf (bfEs w.params tW e b z sp Wl kw) 11), (C, instObj 560 Cd), (Cd, dictOf (cbEs w.params tC e b z sp Cl kc) 12), (ql.1.x, instObj 337 ql.1.d), (ql.1.d, dictOf (bfEs w.params tq e b z sp ql.1.l ql.2.2) 11)]
theorem LS.led {w : World} {g : Heap} {h0 h : Heap} {L : Addr} {e b z far : Int} {sp : Addr} {G : Fa} {gs : List B3} {kg : Int} {W : B3} {C : Fa} {cs : List Int} {kc : Int} {rs : List B3} {ql : B3} {rl pl : Addr} {put : List Str} {ex : List (Addr × Obj)} {m : Str → Option Value}
    (X : LS w g h L e b z far sp G gs kg W C cs kc rs rl pl put ex) (hq : ql ∈ rs) (F : Fr (gz g h0) L h m) :
    ∃ oB oZ oG oW oC oP tb tz n1 n2 vs tG tW tC tq, oB.data = .cell (some (.int b tb)) ∧ oZ.data = .cell (some (.int z tz)) ∧ oG.data = .cell (some (.ref G.x)) ∧ oW.data = .cell (some (.ref W.1.x)) ∧ oC.data = .cell (some (.ref C.x)) ∧ oP.data = .cell (some (.ref pl)) ∧ StrsAre vs put ∧
      News (gz g h0) L h (ledOf w L e b z sp G.x W.1.x C.x rl pl G.d W.1.d C.d G.l W.1.l C.l oB oZ oG oW oC oP tG tW tC tq kg W.2.2 kc rs ql n1 n2 vs ++ restOf (gz g h0) L h) := by
  obtain ⟨tb, oB, eB, dB⟩ := X.cells.cb
  obtain ⟨tz, oZ, eZ, dZ⟩ := X.cells.cz
  obtain ⟨oG, eG, dG⟩ := X.cells.cg
  obtain ⟨oW, eW, dW⟩ := X.cells.cw
  obtain ⟨oC, eC, dC⟩ := X.cells.cc
  obtain ⟨oP, eP, dP⟩ := X.cells.cp
  obtain ⟨n1, or⟩ := X.hrl
  obtain ⟨vs, n2, op, hvs⟩ := X.hpl
  obtain ⟨tG, od⟩ := X.E.d
  obtain ⟨tW, wd⟩ := X.WB.d
  obtain ⟨tC, cd⟩ := X.CC.d
  obtain ⟨tq, qd⟩ := (X.RB ql hq).d
  have hd := X.ad.hh
  have d2 := LS.mem2 X.ad hq
  simp only [List.nodup_cons, List.mem_cons, List.not_mem_nil, or_false, not_or] at hd d2
  have ks : ∀ {a : Addr} {o : Obj}, Own g h a o → (∀ es ep, o.data ≠ .dict es ep) → h.get? a = some o ∧ @Ne Nat a L ∧ (gz g h0).get? a = none := fun x n => ⟨x.at_, ns_ne F.ns x.at_ n, gz_none x.new⟩
  have kd : ∀ {a : Addr} {o : Obj}, Own g h a o → @Ne Nat a L → h.get? a = some o ∧ @Ne Nat a L ∧ (gz g h0).get? a = none := fun x n => ⟨x.at_, n, gz_none x.new⟩
  have kc : ∀ {k : Nat} {o : Obj}, 1 ≤ k → h.get? (L + k) = some o → h.get? (L + k) = some o ∧ @Ne Nat (L + k) L ∧ (gz g h0).get? (L + k) = none := fun {k o} h1 x => ⟨x, fun q => by
    have q : L + k = L := q
    omega, Heap.get?_none_of_le (Nat.le_trans F.above (Nat.le_add_right L k))⟩
  refine ⟨oB, oZ, oG, oW, oC, oP, tb, tz, n1, n2, vs, tG, tW, tC, tq, dB, dZ, dG, dW, dC, dP, hvs, news_all fun q hq => ?_⟩
  simp only [ledOf, List.mem_cons, List.not_mem_nil, or_false] at hq
  rcases hq with rfl | rfl | rfl | rfl | rfl | rfl | rfl | rfl | rfl | rfl | rfl | rfl | rfl | rfl | rfl | rfl
  · exact kc (k := 1) (by decide) eB
  · exact kc (k := 2) (by decide) eZ
  · exact kc (k := 3) (by decide) eG
  · exact kc (k := 4) (by decide) eW
  · exact kc (k := 5) (by decide) eC
  · exact kc (k := 6) (by decide) eP
  · exact ks or nofun
  · exact ks op nofun
  · exact ks X.E.x nofun
  · exact kd od hd.1.2.2
  · exact ks X.WB.x nofun
  · exact kd wd hd.2.2.1
  · exact ks X.CC.x nofun
  · exact kd cd hd.2.1.2
  · exact ks (X.RB ql hq).x nofun
  · exact kd qd d2.2.2.2
end
example : True ∧ True := by walk1 <;> trivial
section
local macro_rules | `(tactic| walk_at "m:flush") => `(tactic| trivial)
example : True ∧ True := by walk1 <;> trivial
end
section
local macro_rules | `(tactic| walk_at "m:has") => `(tactic| ((repeat' (first | with_reducible assumption | exact if_pos rfl | refine (if_neg (by decide)).trans ?_)); done))
/-- parts of the law's body -/
noncomputable def forBody (P : Params) : List Stmt := match (lawBody P).drop 8 with
  | .For _ _ b _ _ :: _ => b
  | _ => []
noncomputable def elseBody (P : Params) : List Stmt := match (forBody P).drop 1 with
  | .If _ _ b _ :: _ => b
  | _ => []
noncomputable def lawTail (P : Params) : List Stmt := match (elseBody P).drop 3 with
  | .If _ b _ _ :: _ => b.drop 2
  | _ => []
/-- what a step leaves -/
structure Go (s s' : Shared) : Prop where
  os : s'.os = s.os
  gens : AllBare s.gens → AllBare s'.gens
theorem cell_off {s s' : Shared} {ch : List Addr} {a : Addr} {v : Option Value} (x : s.heap.IsCell a v) (af : Af ch s s') (h : ∀ c ∈ ch, ∃ o, s.heap.get? c = some o ∧ Wr o) : s'.heap.IsCell a v := by
  obtain ⟨o, e, d⟩ := x
  refine ⟨o, af.keep _ _ e fun hc => ?_, d⟩
  obtain ⟨o', e', w'⟩ := h a hc
  rw [e] at e'
  cases e'
  rcases w' with ⟨_, _, e⟩ | ⟨_, _, e⟩ | ⟨_, _, _, _, e⟩ <;> (rw [e] at d; cases d)
theorem fr_off {g h0 : Heap} {L : Addr} {m : Str → Option Value} {s s' : Shared} {ch : List Addr} (F : Fr (gz g h0) L s.heap m) (af : Af ch s s') (hL : L ∉ ch) (hg : ∀ c ∈ ch, g.get? c = none) : Fr (gz g h0) L s'.heap m :=
  ⟨F.ns.at' fun o e => af.keep _ _ e hL, fun b o e => af.keep _ _ (F.keep b o e) (fun hc => by have := gz_none (h := h0) (hg b hc); rw [this] at e; cases e), F.above⟩
noncomputable def tailStm (P : Params) (i : Nat) : Stmt := match (lawTail P).drop i with
  | x :: _ => x
  | _ => .Pass ⟨0, 0, 0, 0⟩
section
variable {w : World} {g : Heap} {s0 s : Shared} {L : Addr} {e b z far : Int} {sp : Addr} {G : Fa} {gs : List B3} {kg : Int} {W : B3} {C : Fa} {cs : List Int} {kc : Int} {rs : List B3} {rl pl : Addr} {put : List Str} {ex : List (Addr × Obj)} {m : Str → Option Value} {key : Str} {script : Addr} {ns : List Int}
/-- the state within a turn -/
structure TS (w : World) (g : Heap) (s0 : Shared) (L : Addr) (e b z far : Int) (sp : Addr) (G : Fa) (gs : List B3) (kg : Int) (W : B3) (C : Fa) (cs : List Int) (kc : Int) (rs : List B3) (rl pl : Addr) (put : List Str) (ex : List (Addr × Obj)) (m : Str → Option Value) (key : Str) (s : Shared) : Prop where
  X : LS w g s.heap L e b z far sp G gs kg W C cs kc rs rl pl put ex
  F : Fr (gz g s0.heap) L s.heap m
  wc : ∃ t, s.heap.IsCell (L + 7) (some (.str key t))
  os : s.os = s0.os
  bare : AllBare s.gens
theorem TS.led (T : TS w g s0 L e b z far sp G gs kg W C cs kc rs rl pl put ex m key s) {ql : B3} (hq : ql ∈ rs) :
    ∃ oB oZ oG oW oC oP oV tb tz tv n1 n2 vs tG tW tC tq, oB.data = .cell (some (.int b tb)) ∧ oZ.data = .cell (some (.int z tz)) ∧ oG.data = .cell (some (.ref G.x)) ∧ oW.data = .cell (some (.ref W.1.x)) ∧ oC.data = .cell (some (.ref C.x)) ∧ oP.data = .cell (some (.ref pl)) ∧ oV.data = .cell (some (.str key tv)) ∧ StrsAre vs put ∧
      News (gz g s0.heap) L s.heap ((L + 1 + 1 + 1 + 1 + 1 + 1 + 1, oV) :: (ledOf w L e b z sp G.x W.1.x C.x rl pl G.d W.1.d C.d G.l W.1.l C.l oB oZ oG oW oC oP tG tW tC tq kg W.2.2 kc rs ql n1 n2 vs ++ restOf (gz g s0.heap) L s.heap)) := by
  obtain ⟨oB, oZ, oG, oW, oC, oP, tb, tz, n1, n2, vs, tG, tW, tC, tq, d1, d2, d3, d4, d5, d6, hvs, N⟩ := T.X.led hq T.F
  obtain ⟨tv, oV, eV, dV⟩ := T.wc
  refine ⟨oB, oZ, oG, oW, oC, oP, oV, tb, tz, tv, n1, n2, vs, tG, tW, tC, tq, d1, d2, d3, d4, d5, d6, dV, hvs, fun q hq => ?_⟩
  rcases List.mem_cons.mp hq with hh | hq
  · subst hh
    exact ⟨eV, Nat.ne_of_gt (Nat.lt_add_of_pos_right (k := 7) (by decide)), Heap.get?_none_of_le (Nat.le_trans T.F.above (Nat.le_add_right L 7))⟩
  · exact N q hq
theorem TS.toks (T : TS w g s0 L e b z far sp G gs kg W C cs kc rs rl pl put ex m key s) {d : Drawn} {t : Nat} : TS w g s0 L e b z far sp G gs kg W C cs kc rs rl pl put ex m key ⟨s.heap, s.gens, d, t, s.os⟩ := ⟨T.X, T.F, T.wc, T.os, T.bare⟩
theorem TS.drop {d : Drawn} {t : Nat} (T : TS w g s0 L e b z far sp G gs kg W C cs kc rs rl pl put ex m key ⟨s.heap, s.gens, d, t, s.os⟩) : TS w g s0 L e b z far sp G gs kg W C cs kc rs rl pl put ex m key s := ⟨T.X, T.F, T.wc, T.os, T.bare⟩
theorem TS.step (T : TS w g s0 L e b z far sp G gs kg W C cs kc rs rl pl put ex m key s) {s' : Shared} {ls ds ts : List Addr} (R : Wrs s.heap ls ds ts) (af : Af (ls ++ ds ++ ts) s s') (hL : L ∉ ds) (hg : ∀ c ∈ ls ++ ds ++ ts, g.get? c = none)
    {gs' : List B3} {kg' : Int} {W' : B3} {cs' : List Int} {kc' : Int} {rs' : List B3} {put' : List Str} (X' : LS w g s'.heap L e b z far sp G gs' kg' W' C cs' kc' rs' rl pl put' ex) : TS w g s0 L e b z far sp G gs' kg' W' C cs' kc' rs' rl pl put' ex m key s' := by
  refine ⟨X', fr_off T.F af (fun hc => ?_) hg, let ⟨t, c⟩ := T.wc; ⟨t, cell_off c af R.wr⟩, af.os.trans T.os, af.gens T.bare⟩
  obtain ⟨oL, es, ep, eL, dL, _⟩ := T.F.ns
  rcases List.mem_append.mp hc with hc | hc
  · rcases List.mem_append.mp hc with hc | hc
    · obtain ⟨vs, n, e1⟩ := R.l L hc
      rw [eL] at e1; cases e1; cases dL
    · exact hL hc
  · obtain ⟨_, ps, lc, k, ok, e1⟩ := R.t L hc
    rw [eL] at e1; cases e1; cases dL
theorem TS.af (T : TS w g s0 L e b z far sp G gs kg W C cs kc rs rl pl put ex m key s) {s' : Shared} (af : Af [] s s') : TS w g s0 L e b z far sp G gs kg W C cs kc rs rl pl put ex m key s' :=
  T.step (ls := []) (ds := []) (ts := []) wrs0 af List.not_mem_nil (fun _ h => absurd h List.not_mem_nil) (T.X.af af)
theorem TS.wholeOn (T : TS w g s0 L e b z far sp G gs kg W C cs kc rs rl pl put ex m key s) {s' : Shared} {m' k' : Int} (af : Af [W.1.l, W.1.d] s s') (hB : BF w e b z sp g s'.heap W.1 m' k') : TS w g s0 L e b z far sp G gs kg (W.1, m', k') C cs kc rs rl pl put ex m key s' := by
  obtain ⟨_, ⟨t, od⟩, ⟨_, n, ol⟩⟩ := T.X.WB
  have hd := T.X.ad.hh
  simp only [List.nodup_cons, List.mem_cons, List.not_mem_nil, or_false, not_or] at hd
  exact T.step (ls := [W.1.l]) (ds := [W.1.d]) (ts := []) (wrs_ld ol.at_ od.at_) af (not1 (Ne.symm hd.2.2.1)) (all2 ol.new od.new) (T.X.wholeOn af hB)
theorem TS.countOn (T : TS w g s0 L e b z far sp G gs kg W C cs kc rs rl pl put ex m key s) {s' : Shared} {cs' : List Int} {k' : Int} (af : Af [C.l, C.d] s s') (hB : CB w e b z sp g s'.heap C cs' k') : TS w g s0 L e b z far sp G gs kg W C cs' k' rs rl pl put ex m key s' := by
  obtain ⟨_, ⟨t, od⟩, ⟨_, n, ol, _⟩, _⟩ := T.X.CC
  have hd := T.X.ad.hh
  simp only [List.nodup_cons, List.mem_cons, List.not_mem_nil, or_false, not_or] at hd
  exact T.step (ls := [C.l]) (ds := [C.d]) (ts := []) (wrs_ld ol.at_ od.at_) af (not1 (Ne.symm hd.2.1.2)) (all2 ol.new od.new) (T.X.countOn af hB)
theorem TS.putOn (T : TS w g s0 L e b z far sp G gs kg W C cs kc rs rl pl put ex m key s) {s' : Shared} (af : Af [pl] s s') {put' : List Str} (hp : ∃ vs n, Own g s'.heap pl (PySem.W.listOf vs.toArray n) ∧ StrsAre vs put') : TS w g s0 L e b z far sp G gs kg W C cs kc rs rl pl put' ex m key s' := by
  obtain ⟨vs, n, o, _⟩ := T.X.hpl
  exact T.step (ls := [pl]) (ds := []) (ts := []) (wrs_l o.at_) af List.not_mem_nil (all1 o.new) (T.X.putOn af hp)
theorem TS.rowOn (T : TS w g s0 L e b z far sp G gs kg W C cs kc rs rl pl put ex m key s) {s' : Shared} (af : Af [rl] s s') {r : B3} (hB : BF w e b z sp g s.heap r.1 r.2.1 r.2.2)
    (hr : ∃ n, Own g s'.heap rl (PySem.W.listOf (refsOf (rs ++ [r])).toArray n)) (al : Ap Fa.l (G.l :: rl :: pl :: C.l :: W.1.l :: ex.map (·.1)) (gs.map (·.1)) ((rs ++ [r]).map (·.1))) (ad : Ap Fa.d [G.d, C.d, W.1.d, L] (gs.map (·.1)) ((rs ++ [r]).map (·.1))) : TS w g s0 L e b z far sp G gs kg W C cs kc (rs ++ [r]) rl pl put ex m key s' := by
  obtain ⟨n, o⟩ := T.X.hrl
  exact T.step (ls := [rl]) (ds := []) (ts := []) (wrs_l o.at_) af List.not_mem_nil (all1 o.new) (T.X.rowOn af hB hr al ad)
theorem TS.lastOn {pre : List B3} {ql : B3} (T : TS w g s0 L e b z far sp G gs kg W C cs kc (pre ++ [ql]) rl pl put ex m key s) {s' : Shared} {m' k' : Int} (af : Af [ql.1.l, ql.1.d] s s') (hB : BF w e b z sp g s'.heap ql.1 m' k') : TS w g s0 L e b z far sp G gs kg W C cs kc (pre ++ [(ql.1, m', k')]) rl pl put ex m key s' := by
  have hql : ql ∈ pre ++ [ql] := List.mem_append_right _ (.head _)
  obtain ⟨_, ⟨t, od⟩, ⟨_, n, ol⟩⟩ := T.X.RB ql hql
  have hd := LS.mem2 T.X.ad hql
  simp only [List.mem_cons, List.not_mem_nil, or_false, not_or] at hd
  exact T.step (ls := [ql.1.l]) (ds := [ql.1.d]) (ts := []) (wrs_ld ol.at_ od.at_) af (not1 (Ne.symm hd.2.2.2)) (all2 ol.new od.new) (T.X.lastOn af hB)
theorem TS.growOn (T : TS w g s0 L e b z far sp G gs kg W C cs kc rs rl pl put ex m key s) {s' : Shared} {ls ds ts : List Addr} {gs' : List B3} {kg' : Int} (R : Wrs s.heap ls ds ts) (af : Af (ls ++ ds ++ ts) s s') (hE : EF w e b z sp g s'.heap G gs' kg')
    (hls : ∀ c ∈ ls, (c : Nat) = G.l ∨ ∃ q ∈ gs, (c : Nat) = q.1.l) (hds : ∀ c ∈ ds, (c : Nat) = G.d ∨ ∃ q ∈ gs, (c : Nat) = q.1.d) (ht : ∀ c ∈ ts, (c : Nat) = 419)
    (t2 : ∃ ps, TabOk 262 19 ps ∧ Own g s'.heap 419 (PySem.W.tabObj ps)) (al : Ap Fa.l (G.l :: rl :: pl :: C.l :: W.1.l :: ex.map (·.1)) (gs'.map (·.1)) (rs.map (·.1))) (ad : Ap Fa.d [G.d, C.d, W.1.d, L] (gs'.map (·.1)) (rs.map (·.1))) : TS w g s0 L e b z far sp G gs' kg' W C cs kc rs rl pl put ex m key s' := by
  have hd := T.X.ad.hh
  simp only [List.nodup_cons, List.mem_cons, List.not_mem_nil, or_false, not_or] at hd
  refine T.step R af (fun hc => ?_) (fun c hc => ?_) (T.X.growOn R af hE hls hds (fun h => absurd (ht _ h) (by decide)) t2 al ad)
  · rcases hds _ hc with h | ⟨q, hq, h⟩
    · exact hd.1.2.2 h.symm
    · have := LS.mem1 T.X.ad hq
      simp only [List.mem_cons, List.not_mem_nil, or_false, not_or] at this
      exact this.2.2.2 h.symm
  · rcases List.mem_append.mp hc with hc | hc
    · rcases List.mem_append.mp hc with hc | hc
      · rcases hls _ hc with h | ⟨q, hq, h⟩
        · obtain ⟨_, o⟩ := T.X.E.l; rw [show c = G.l from h]; exact o.new
        · obtain ⟨_, _, o⟩ := (T.X.E.all q hq).l; rw [show c = q.1.l from h]; exact o.new
      · rcases hds _ hc with h | ⟨q, hq, h⟩
        · obtain ⟨_, o⟩ := T.X.E.d; rw [show c = G.d from h]; exact o.new
        · obtain ⟨_, o⟩ := (T.X.E.all q hq).d; rw [show c = q.1.d from h]; exact o.new
    · obtain ⟨_, _, o⟩ := T.X.t2; rw [show c = 419 from ht c hc]; exact o.new
/-- what a word makes of the growing one -/
def grows (e b : Int) (fo : Bool) (xs : List Int) (pre : List (Int × Int)) (l : Int × Int) : List (Int × Int) :=
  if fo = true ∨ (pre ++ [l]).any (fun p => chk b p.1 xs) = false then (if l.2 < e then pre ++ [(addm b l.1 xs, l.2 + 1)] else (pre ++ [l]) ++ [(addm b 0 xs, 1)]) else pre ++ [l]
set_option maxHeartbeats 4000000 in
theorem s_whole (I : LawIn w g s0 script ns) (T : TS w g s0 L e b z far sp G gs kg W C cs kc rs rl pl put ex m key s) {ql : B3} (hq : ql ∈ rs) (hk : key.length ≤ sizeLine) (hkz : (key.length : Int) = z) {bo : Stmt} (hbo : tailStm w.params 1 = bo) :
    wpAny (MM w) ((aM 10 10).deeper (lawEnv w.params L)) (exec bo (lawEnv w.params L))
      (fun fl s' => Stp (fl = .next ∧ TS w g s0 L e b z far sp G gs kg (W.1, addm b W.2.1 (spell far z key), W.2.2 + 1) C cs kc rs rl pl put ex m key s')) NoE s := by
  obtain ⟨oB, oZ, oG, oW, oC, oP, oV, tb, tz, tv, n1, n2, vs, tG, tW, tC, tq, dB, dZ, dG, dW, dC, dP, dV, hvs, N⟩ := T.led hq
  have F := T.F
  have CX := I.cx.keeps (gz_some I.st)
  have X := CX.K
  obtain ⟨loose, mean, mg, mb, TT⟩ := CX.T
  unfold tailStm lawTail elseBody forBody lawBody lawOf at hbo
  conv at hbo => lhs; whnf
  subst hbo
  delta lawEnv
  generalize hsc : lawScope w.params = sc
  unfold lawScope lawOf at hsc
  conv at hsc => lhs; whnf
  subst hsc
  simp only [ledOf, List.cons_append, List.nil_append] at N
  obtain ⟨hp, gn, dr, tk, os⟩ := s
  have hos := T.os
  have hbare := T.bare
  dsimp only at F N hos hbare ⊢
  subst hos
  walk_at "m:steps"
  unfold Stopped
  refine c_add I.cx (fun b o e => F.keep b o (gz_some I.st b o e)) (rm_deep (by decide) (by decide)) T.X.hS T.X.WB T.X.Sp hk hkz ?_
  intro s' af B
  exact ⟨⟨trivial, T.wholeOn af B⟩⟩
set_option maxHeartbeats 4000000 in
theorem s_count (I : LawIn w g s0 script ns) (T : TS w g s0 L e b z far sp G gs kg W C cs kc rs rl pl put ex m key s) {ql : B3} (hq : ql ∈ rs) (hk : key.length ≤ sizeLine) (hkz : (key.length : Int) = z) (hsm : ∀ x ∈ cs, 0 ≤ x ∧ x < 1000) (hkc : 0 ≤ kc ∧ kc < 1000) {bo : Stmt} (hbo : tailStm w.params 2 = bo) :
    wpAny (MM w) ((aM 10 10).deeper (lawEnv w.params L)) (exec bo (lawEnv w.params L))
      (fun fl s' => Stp (fl = .next ∧ TS w g s0 L e b z far sp G gs kg W C (told b cs (spell far z key)) (kc + 1) rs rl pl put ex m key s')) NoE s := by
  obtain ⟨oB, oZ, oG, oW, oC, oP, oV, tb, tz, tv, n1, n2, vs, tG, tW, tC, tq, dB, dZ, dG, dW, dC, dP, dV, hvs, N⟩ := T.led hq
  have F := T.F
  have CX := I.cx.keeps (gz_some I.st)
  have X := CX.K
  obtain ⟨loose, mean, mg, mb, TT⟩ := CX.T
  unfold tailStm lawTail elseBody forBody lawBody lawOf at hbo
  conv at hbo => lhs; whnf
  subst hbo
  delta lawEnv
  generalize hsc : lawScope w.params = sc
  unfold lawScope lawOf at hsc
  conv at hsc => lhs; whnf
  subst hsc
  simp only [ledOf, List.cons_append, List.nil_append] at N
  obtain ⟨hp, gn, dr, tk, os⟩ := s
  have hos := T.os
  have hbare := T.bare
  dsimp only at F N hos hbare ⊢
  subst hos
  walk_at "m:steps"
  unfold Stopped
  refine c_c_add I.cx (fun b o e => F.keep b o (gz_some I.st b o e)) (rm_deep (by decide) (by decide)) T.X.hS T.X.CC T.X.Sp hk hkz hsm hkc ?_
  intro v t s' af B
  exact ⟨⟨trivial, T.countOn af B⟩⟩
set_option maxHeartbeats 4000000 in
theorem s_put (I : LawIn w g s0 script ns) (T : TS w g s0 L e b z far sp G gs kg W C cs kc rs rl pl put ex m key s) {ql : B3} (hq : ql ∈ rs) (hlen : put.length < 1000) {bo : Stmt} (hbo : tailStm w.params 3 = bo) :
    wpAny (MM w) ((aM 10 10).deeper (lawEnv w.params L)) (exec bo (lawEnv w.params L))
      (fun fl s' => Stp (fl = .next ∧ TS w g s0 L e b z far sp G gs kg W C cs kc rs rl pl (put ++ [key]) ex m key s')) NoE s := by
  obtain ⟨oB, oZ, oG, oW, oC, oP, oV, tb, tz, tv, n1, n2, vs, tG, tW, tC, tq, dB, dZ, dG, dW, dC, dP, dV, hvs, N⟩ := T.led hq
  have F := T.F
  have CX := I.cx.keeps (gz_some I.st)
  have X := CX.K
  obtain ⟨loose, mean, mg, mb, TT⟩ := CX.T
  unfold tailStm lawTail elseBody forBody lawBody lawOf at hbo
  conv at hbo => lhs; whnf
  subst hbo
  delta lawEnv
  generalize hsc : lawScope w.params = sc
  unfold lawScope lawOf at hsc
  conv at hsc => lhs; whnf
  subst hsc
  simp only [ledOf, List.cons_append, List.nil_append] at N
  obtain ⟨hp, gn, dr, tk, os⟩ := s
  have hos := T.os
  have hbare := T.bare
  dsimp only at F N hos hbare ⊢
  subst hos
  walk_at "m:steps"
  have hl : vs.length = put.length := hvs.length
  obtain ⟨vs0, n0, op, _⟩ := T.X.hpl
  refine append_at (hsz := by rw [List.size_toArray, hl]; exact Nat.le_trans (Nat.le_of_lt hlen) (by decide)) (News.get N (a := pl) (by k_mem)) fun h' hs ho' => ?_
  have af : Af [pl] ⟨hp, gn, dr, tk, s0.os⟩ ⟨h', gn, dr, tk, s0.os⟩ := ⟨fun b o e1 n1 => (hs.2 b (fun q => n1 (List.mem_singleton.mpr q))).trans e1, rfl, id⟩
  exact ⟨⟨trivial, T.putOn af ⟨vs ++ [.str key tv], n2 + 1, ⟨by rw [ho']; simp, op.new⟩, hvs.append' (.cons key tv .nil)⟩⟩⟩
theorem TS.nd {pre : List B3} {ql : B3} (T : TS w g s0 L e b z far sp G (pre ++ [ql]) kg W C cs kc rs rl pl put ex m key s) : ∀ q ∈ pre, @Ne Nat q.1.l ql.1.l ∧ @Ne Nat q.1.d ql.1.d := by
  have h1 := T.X.al.gg
  have h2 := T.X.ad.gg
  simp only [List.map_append, List.map_cons, List.map_nil, List.map_map, List.nodup_append, List.mem_map] at h1 h2
  exact fun q hq => ⟨h1.2.2 _ ⟨q, hq, rfl⟩ _ (List.mem_singleton.mpr rfl), h2.2.2 _ ⟨q, hq, rfl⟩ _ (List.mem_singleton.mpr rfl)⟩
theorem any_map {pre : List B3} {ql : B3} {xs : List Int} : ((pre ++ [ql]).map (·.2)).any (fun p => chk b p.1 xs) = (pre ++ [ql]).any (fun q => chk b q.2.1 xs) := by
  rw [List.any_map]; rfl
/-- the three ends of a growing filter's add -/
theorem TS.grown (T : TS w g s0 L e b z far sp G gs kg W C cs kc rs rl pl put ex m key s) {pre : List B3} {ql : B3} (hgs : gs = pre ++ [ql]) {fo : Bool} {xs : List Int} {s' : Shared} {ps' : Array Value} (tk : TabOk 262 19 ps') (t2 : s'.heap.get? 419 = some (PySem.W.tabObj ps'))
    (h : (fo = false ∧ gs.any (fun q => chk b q.2.1 xs) = true ∧ Af [G.d, 419] s s' ∧ EF w e b z sp g s'.heap G gs (kg + 1)) ∨
      ((fo = true ∨ gs.any (fun q => chk b q.2.1 xs) = false) ∧ ql.2.2 < e ∧ Af [G.d, 419, ql.1.l, ql.1.d] s s' ∧ EF w e b z sp g s'.heap G (pre ++ [(ql.1, addm b ql.2.1 xs, ql.2.2 + 1)]) (kg + 1)) ∨
      (∃ f, (fo = true ∨ gs.any (fun q => chk b q.2.1 xs) = false) ∧ e ≤ ql.2.2 ∧ Af [G.d, 419, G.l] s s' ∧ BF w e b z sp s.heap s'.heap f (addm b 0 xs) 1 ∧ EF w e b z sp g s'.heap G ((pre ++ [ql]) ++ [(f, addm b 0 xs, 1)]) (kg + 1))) :
    ∃ gs', gs'.map (·.2) = grows e b fo xs (pre.map (·.2)) ql.2 ∧ TS w g s0 L e b z far sp G gs' (kg + 1) W C cs kc rs rl pl put ex m key s' := by
  obtain ⟨tG, od⟩ := T.X.E.d
  obtain ⟨nG, ol⟩ := T.X.E.l
  obtain ⟨ps, pk, ot⟩ := T.X.t2
  have m1 : (pre ++ [ql]).map (·.2) = pre.map (·.2) ++ [ql.2] := by simp
  have wt : ∀ c ∈ ([419] : List Addr), @Ne Nat 571 c ∧ ∃ ps lc k, TabOk lc k ps ∧ s.heap.get? c = some (PySem.W.tabObj ps) := fun c hc => by rw [List.mem_singleton.mp hc]; exact ⟨by decide, ps, _, _, pk, ot.at_⟩
  have hot : ∃ ps, TabOk 262 19 ps ∧ Own g s'.heap 419 (PySem.W.tabObj ps) := ⟨ps', tk, t2, ot.new⟩
  unfold grows
  rw [← m1, any_map, ← hgs]
  rcases h with ⟨h1, h2, af, E⟩ | ⟨h1, h2, af, E⟩ | ⟨f, h1, h2, af, B, E⟩
  · rw [if_neg (by rw [h1, h2]; simp)]
    refine ⟨gs, rfl, T.growOn (ls := []) (ds := [G.d]) (ts := [419]) ⟨fun _ h => absurd h List.not_mem_nil, fun c hc => by rw [List.mem_singleton.mp hc]; exact ⟨_, _, od.at_⟩, wt⟩ af E (fun _ h => absurd h List.not_mem_nil) (fun c hc => .inl (List.mem_singleton.mp hc)) (fun c hc => List.mem_singleton.mp hc) hot T.X.al T.X.ad⟩
  · rw [if_pos h1, if_pos h2]
    have hq : ql ∈ gs := hgs ▸ List.mem_append_right _ (.head _)
    obtain ⟨_, ⟨tq, qd⟩, ⟨_, nq, qo⟩⟩ := T.X.E.all ql hq
    have mp : (pre ++ [(ql.1, addm b ql.2.1 xs, ql.2.2 + 1)]).map (·.1) = gs.map (·.1) := by rw [hgs]; simp
    refine ⟨_, by simp, T.growOn (ls := [ql.1.l]) (ds := [G.d, ql.1.d]) (ts := [419]) ⟨fun c hc => by rw [List.mem_singleton.mp hc]; exact ⟨_, _, qo.at_⟩, fun c hc => ?_, wt⟩ (af.mono fun c hc => ?_) E (fun c hc => .inr ⟨ql, hq, List.mem_singleton.mp hc⟩) (fun c hc => ?_) (fun c hc => List.mem_singleton.mp hc) hot (mp ▸ T.X.al) (mp ▸ T.X.ad)⟩
    · rcases List.mem_cons.mp hc with hh | hc
      · rw [hh]; exact ⟨_, _, od.at_⟩
      · rw [List.mem_singleton.mp hc]; exact ⟨_, _, qd.at_⟩
    · simp only [List.mem_cons, List.not_mem_nil, or_false] at hc
      rcases hc with hc | hc | hc | hc <;> rw [hc]
      · exact .tail _ (.head _)
      · exact .tail _ (.tail _ (.tail _ (.head _)))
      · exact .head _
      · exact .tail _ (.tail _ (.head _))
    · rcases List.mem_cons.mp hc with hh | hc
      · exact .inl hh
      · exact .inr ⟨ql, hq, List.mem_singleton.mp hc⟩
  · rw [if_pos h1, if_neg (by omega)]
    obtain ⟨ap1, ap2⟩ := (T.X.apNew T.F.ns B).2
    have mp : ((pre ++ [ql]) ++ [((f, addm b 0 xs, 1) : B3)]).map (·.1) = gs.map (·.1) ++ [f] := by rw [hgs]; simp
    refine ⟨_, by rw [hgs]; simp, T.growOn (ls := [G.l]) (ds := [G.d]) (ts := [419]) ⟨fun c hc => by rw [List.mem_singleton.mp hc]; exact ⟨_, _, ol.at_⟩, fun c hc => by rw [List.mem_singleton.mp hc]; exact ⟨_, _, od.at_⟩, wt⟩ (af.mono fun c hc => ?_) E (fun c hc => .inl (List.mem_singleton.mp hc)) (fun c hc => .inl (List.mem_singleton.mp hc)) (fun c hc => List.mem_singleton.mp hc) hot (mp ▸ ap1) (mp ▸ ap2)⟩
    simp only [List.mem_cons, List.not_mem_nil, or_false] at hc
    rcases hc with hc | hc | hc <;> rw [hc]
    · exact .tail _ (.head _)
    · exact .tail _ (.tail _ (.head _))
    · exact .head _
set_option maxHeartbeats 4000000 in
theorem s_grow (I : LawIn w g s0 script ns) (T : TS w g s0 L e b z far sp G gs kg W C cs kc rs rl pl put ex m key s) {qr : B3} (hq : qr ∈ rs) (hk : key.length ≤ sizeLine) (hkz : (key.length : Int) = z) {pre : List B3} {ql : B3} (hgs : gs = pre ++ [ql]) (hlen : gs.length < 100)
    {n : Int} {tn : Tok} {fo : Bool} (hm1 : m (Str.ofString "number") = some (.int n tn)) (hm2 : m (Str.ofString "force") = some (.bool fo)) {bo : Stmt} (hbo : tailStm w.params 0 = bo) :
    wpAny (MM w) ((aM 10 10).deeper (lawEnv w.params L)) (exec bo (lawEnv w.params L))
      (fun fl s' => Stp (fl = .next ∧ ∃ gs', gs'.map (·.2) = grows e b fo (spell far z key) (pre.map (·.2)) ql.2 ∧ TS w g s0 L e b z far sp G gs' (kg + 1) W C cs kc rs rl pl put ex m key s')) NoE s := by
  obtain ⟨oB, oZ, oG, oW, oC, oP, oV, tb, tz, tv, n1, n2, vs, tG, tW, tC, tq, dB, dZ, dG, dW, dC, dP, dV, hvs, N⟩ := T.led hq
  have F := T.F
  have CX := I.cx.keeps (gz_some I.st)
  have X := CX.K
  obtain ⟨loose, mean, mg, mb, TT⟩ := CX.T
  unfold tailStm lawTail elseBody forBody lawBody lawOf at hbo
  conv at hbo => lhs; whnf
  subst hbo
  delta lawEnv
  generalize hsc : lawScope w.params = sc
  unfold lawScope lawOf at hsc
  conv at hsc => lhs; whnf
  subst hsc
  simp only [ledOf, List.cons_append, List.nil_append] at N
  obtain ⟨hp, gn, dr, tk, os⟩ := s
  have hos := T.os
  have hbare := T.bare
  dsimp only at F N hos hbare ⊢
  subst hos
  walk_at "m:steps"
  all_goals unfold Stopped
  · obtain ⟨ps, pk, ot⟩ := T.X.t2
    refine c_e_add (q0 := ql) I.cx (fun b o e => F.keep b o (gz_some I.st b o e)) (rm_deep (by decide) (by decide)) T.X.hS hgs T.X.E hlen (hgs ▸ T).nd T.X.Sp hk hkz I.c2 ot pk hbare ?_ ?_ ?_
    · intro s' ps' h1 h2 af E pk' t'
      obtain ⟨gs', e1, T'⟩ := T.toks.grown hgs pk' t' (.inl ⟨h1, h2, af, E⟩)
      obtain ⟨h5, gs5, d5, t5, os5⟩ := s'
      dsimp only
      walk_at "m:steps"
      exact ⟨⟨rfl, gs', e1, T'⟩⟩
    · intro s' ps' h1 h2 af E pk' t'
      obtain ⟨gs', e1, T'⟩ := T.toks.grown hgs pk' t' (.inr (.inl ⟨h1, h2, af, E⟩))
      obtain ⟨h5, gs5, d5, t5, os5⟩ := s'
      dsimp only
      walk_at "m:steps"
      exact ⟨⟨rfl, gs', e1, T'⟩⟩
    · intro f s' ps' h1 h2 af B E pk' t'
      obtain ⟨gs', e1, T'⟩ := T.toks.grown hgs pk' t' (.inr (.inr ⟨f, h1, h2, af, B, E⟩))
      obtain ⟨h5, gs5, d5, t5, os5⟩ := s'
      dsimp only
      walk_at "m:steps"
      exact ⟨⟨rfl, gs', e1, T'⟩⟩
  · refine c_hashes I.cx (fun b o e => F.keep b o (gz_some I.st b o e)) (rm_deep (by decide) (by decide)) T.X.hS T.X.WB T.X.Sp hk ?_
    intro l s' af Hl
    have T' := T.toks.af af
    obtain ⟨vs3, n3, Ol, Il⟩ := Hl.l
    have lnew : ∀ {b o}, hp.get? b = some o → @Ne Nat l b := fun e q => by
      have := Ol.new; rw [show l = _ from q, e] at this; cases this
    have hgs5 := af.gens
    have F3 := fr_af F af
    have N3 := news_af N af
    obtain ⟨hF3, gsF3, dF3, tF3, osF3⟩ := s'
    have hosF3 := af.os
    dsimp only at F3 N3 hosF3
    subst hosF3
    have hgF3 := af.gens
    dsimp only at hgF3
    clear F N
    dsimp only
    walk_at "m:steps"
    unfold Stopped
    obtain ⟨ps, pk, ot⟩ := T'.X.t2
    refine c_e_add_alt I.cx (fun b o e => F3.keep b o (gz_some I.st b o e)) (rm_deep (by decide) (by decide)) T'.X.hS (hgs ▸ T'.X.E) (hgs ▸ hlen) (hgs ▸ T').nd (Hl.back fun b o e => T.F.keep b o (gz_some I.st b o e)) (spell_len hkz) (fun q hq => let ⟨_, _, o⟩ := (T.X.E.all q (hgs ▸ hq)).l; lnew o.at_) (let ⟨_, o⟩ := T.X.E.l; lnew o.at_) I.c2 ot pk (hgs5 hbare) ?_ ?_ ?_
    · intro s' ps' h1 h2 af E pk' t'
      obtain ⟨gs', e1, T'⟩ := T'.toks.grown hgs pk' t' (.inl ⟨h1, hgs ▸ h2, af, hgs ▸ E⟩)
      obtain ⟨h5, gs5, d5, t5, os5⟩ := s'
      dsimp only
      walk_at "m:steps"
      exact ⟨⟨rfl, gs', e1, T'⟩⟩
    · intro s' ps' h1 h2 af E pk' t'
      obtain ⟨gs', e1, T'⟩ := T'.toks.grown hgs pk' t' (.inr (.inl ⟨hgs ▸ h1, h2, af, E⟩))
      obtain ⟨h5, gs5, d5, t5, os5⟩ := s'
      dsimp only
      walk_at "m:steps"
      exact ⟨⟨rfl, gs', e1, T'⟩⟩
    · intro f s' ps' h1 h2 af B E pk' t'
      obtain ⟨gs', e1, T'⟩ := T'.toks.grown hgs pk' t' (.inr (.inr ⟨f, hgs ▸ h1, h2, af, B, E⟩))
      obtain ⟨h5, gs5, d5, t5, os5⟩ := s'
      dsimp only
      walk_at "m:steps"
      exact ⟨⟨rfl, gs', e1, T'⟩⟩
end
end
example : True ∧ True := by walk1 <;> trivial
section
local macro_rules | `(tactic| walk_at "m:flush") => `(tactic| trivial)
example : True ∧ True := by walk1 <;> trivial
end
section
local macro_rules | `(tactic| walk_at "m:has") => `(tactic| ((repeat' (first | with_reducible assumption | exact if_pos rfl | refine (if_neg (by decide)).trans ?_)); done))
local macro_rules | `(tactic| walk_at "storeName") => `(tactic| ((with_reducible show wpAny _ _ (storeName _ (PySem.Str.ofString "word") _) _ _ _); (with_reducible refine stop_here ?_)))
noncomputable def forStm (P : Params) (i : Nat) : Stmt := match (forBody P).drop i with
  | x :: _ => x
  | _ => .Pass ⟨0, 0, 0, 0⟩
section
variable {w : World} {g : Heap} {s0 s : Shared} {L : Addr} {e b z far : Int} {sp : Addr} {G : Fa} {gs : List B3} {kg : Int} {W : B3} {C : Fa} {cs : List Int} {kc : Int} {rs : List B3} {rl pl : Addr} {put : List Str} {ex : List (Addr × Obj)} {m : Str → Option Value} {key : Str} {script : Addr} {ns : List Int}
/-- the state between two turns -/
structure T0 (w : World) (g : Heap) (s0 : Shared) (L : Addr) (e b z far : Int) (sp : Addr) (G : Fa) (gs : List B3) (kg : Int) (W : B3) (C : Fa) (cs : List Int) (kc : Int) (rs : List B3) (rl pl : Addr) (put : List Str) (ex : List (Addr × Obj)) (m : Str → Option Value) (s : Shared) : Prop where
  X : LS w g s.heap L e b z far sp G gs kg W C cs kc rs rl pl put ex
  F : Fr (gz g s0.heap) L s.heap m
  os : s.os = s0.os
  bare : AllBare s.gens
theorem TS.t0 (T : TS w g s0 L e b z far sp G gs kg W C cs kc rs rl pl put ex m key s) : T0 w g s0 L e b z far sp G gs kg W C cs kc rs rl pl put ex m s := ⟨T.X, T.F, T.os, T.bare⟩
theorem T0.toks (T : T0 w g s0 L e b z far sp G gs kg W C cs kc rs rl pl put ex m s) {d : Drawn} {t : Nat} : T0 w g s0 L e b z far sp G gs kg W C cs kc rs rl pl put ex m ⟨s.heap, s.gens, d, t, s.os⟩ := ⟨T.X, T.F, T.os, T.bare⟩
theorem T0.af (T : T0 w g s0 L e b z far sp G gs kg W C cs kc rs rl pl put ex m s) {s' : Shared} (af : Af [] s s') : T0 w g s0 L e b z far sp G gs kg W C cs kc rs rl pl put ex m s' := ⟨T.X.af af, fr_af T.F af, af.os.trans T.os, af.gens T.bare⟩
theorem T0.seg (T : T0 w g s0 L e b z far sp G gs kg W C cs kc rs rl pl put ex m s) {h' : Heap} {m' : Str → Option Value} {news : List (Addr × Obj)} (F' : Fr (gz g s0.heap) L h' m') (N' : News (gz g s0.heap) L h' news) (sub : ∀ q ∈ restOf (gz g s0.heap) L s.heap, q ∈ news) {gn : Array GenState} (hb : AllBare gn) {d : Drawn} {t : Nat} :
    T0 w g s0 L e b z far sp G gs kg W C cs kc rs rl pl put ex m' ⟨h', gn, d, t, s0.os⟩ :=
  ⟨T.X.seg ⟨_, T.F.ns⟩ (keep_rest F' N' T.F.keep sub), F', rfl, hb⟩
theorem TS.seg (T : TS w g s0 L e b z far sp G gs kg W C cs kc rs rl pl put ex m key s) {h' : Heap} {m' : Str → Option Value} {news : List (Addr × Obj)} (F' : Fr (gz g s0.heap) L h' m') (N' : News (gz g s0.heap) L h' news) (sub : ∀ q ∈ restOf (gz g s0.heap) L s.heap, q ∈ news) {gn : Array GenState} (hb : AllBare gn) {d : Drawn} {t : Nat} :
    TS w g s0 L e b z far sp G gs kg W C cs kc rs rl pl put ex m' key ⟨h', gn, d, t, s0.os⟩ := by
  have k := keep_rest F' N' T.F.keep sub
  obtain ⟨tv, o, e1, d1⟩ := T.wc
  exact ⟨T.X.seg ⟨_, T.F.ns⟩ k, F', ⟨tv, o, k _ _ (Nat.ne_of_gt (Nat.lt_add_of_pos_right (k := 7) (by decide))) e1, d1⟩, rfl, hb⟩
theorem news_one {h₀ h : Heap} {L a : Addr} {o : Obj} {news : List (Addr × Obj)} (N : News h₀ L h news) (e : h.get? a = some o) (n : @Ne Nat a L) (q : h₀.get? a = none) : News h₀ L h ((a, o) :: news) := fun r hr => by
  rcases List.mem_cons.mp hr with hh | hr
  · subst hh; exact ⟨e, n, q⟩
  · exact N r hr
theorem fr_cell {g h0 : Heap} {L : Addr} {m : Str → Option Value} {h h' : Heap} {j : Nat} (F : Fr (gz g h0) L h m) (j1 : 1 ≤ j) (hs : Heap.SameBut (L + j) h h') : Fr (gz g h0) L h' m :=
  ⟨F.ns.sameBut hs (Nat.ne_of_lt (Nat.lt_add_of_pos_right (k := j) j1)), fun b o e => (hs.2 b (fun q => by
    rw [q, Heap.get?_none_of_le (Nat.le_trans F.above (Nat.le_add_right L j))] at e; cases e)).trans (F.keep b o e), F.above⟩
set_option maxHeartbeats 4000000 in
theorem s_word (I : LawIn w g s0 script ns) (T : T0 w g s0 L e b z far sp G gs kg W C cs kc rs rl pl put ex m s) {ql : B3} (hq : ql ∈ rs) {n : Int} {tn : Tok} (hm1 : m (Str.ofString "number") = some (.int n tn)) {bo : Stmt} (hbo : forStm w.params 0 = bo) :
    wpAny (MM w) ((aM 10 10).deeper (lawEnv w.params L)) (exec bo (lawEnv w.params L))
      (fun fl s' => Stp (fl = .next ∧ TS w g s0 L e b z far sp G gs kg W C cs kc rs rl pl put ex m (wd b z (Int.fdiv n 8)) s')) NoE s := by
  obtain ⟨oB, oZ, oG, oW, oC, oP, tb, tz, n1, n2, vs, tG, tW, tC, tq, dB, dZ, dG, dW, dC, dP, hvs, N⟩ := T.X.led hq T.F
  have F := T.F
  have CX := I.cx.keeps (gz_some I.st)
  have X := CX.K
  obtain ⟨loose, mean, mg, mb, TT⟩ := CX.T
  unfold forStm forBody lawBody lawOf at hbo
  conv at hbo => lhs; whnf
  subst hbo
  delta lawEnv
  generalize hsc : lawScope w.params = sc
  unfold lawScope lawOf at hsc
  conv at hsc => lhs; whnf
  subst hsc
  simp only [ledOf, List.cons_append, List.nil_append] at N
  obtain ⟨hp, gn, dr, tk, os⟩ := s
  have hos := T.os
  have hbare := T.bare
  dsimp only at F N hos hbare ⊢
  subst hos
  walk_at "m:steps"
  unfold Stopped
  refine c_word I.cx (fun b o e => F.keep b o (gz_some I.st b o e)) (rm_deep (by decide) (by decide)) T.X.hS ?_
  intro t s' af
  obtain ⟨X', F', hos, hbare'⟩ := T.toks.af af
  obtain ⟨h5, gs5, d5, t5, os5⟩ := s'
  dsimp only at hos F' X' hbare' ⊢
  subst hos
  walk_at "m:steps"
  unfold Stopped
  obtain ⟨v0, o0, e0, d0⟩ := X'.cells.ce 7 (by decide) (by decide)
  refine wpAny_storeName_cell (c := L + 7) rfl rfl rfl ⟨o0, e0, d0⟩ fun h' hv hs => ?_
  exact ⟨⟨trivial, X'.cell ⟨_, F'.ns⟩ (by decide) (by decide) (fun c o n e1 => (hs.2 c n).trans e1) hv, fr_cell F' (by decide) hs, ⟨t, hv⟩, rfl, hbare'⟩⟩
theorem refs_snoc {rs : List B3} {r : B3} : (refsOf (rs ++ [r])) = refsOf rs ++ [Value.ref r.1.x] := by simp [refsOf]
noncomputable def pushBody (P : Params) : List Stmt := match (forBody P).drop 1 with
  | .If _ [.If _ b _ _] _ _ :: _ => b
  | _ => []
noncomputable def fullBody (P : Params) : List Stmt := match (elseBody P).drop 3 with
  | .If _ b _ _ :: _ => b
  | _ => []
noncomputable def rowStmA (P : Params) : Stmt := match (pushBody P).drop 1 with
  | x :: _ => x
  | _ => .Pass ⟨0, 0, 0, 0⟩
noncomputable def rowStmB (P : Params) : Stmt := match fullBody P with
  | .If _ [x] _ _ :: _ => x
  | _ => .Pass ⟨0, 0, 0, 0⟩
set_option maxHeartbeats 4000000 in
theorem s_rowAppA (I : LawIn w g s0 script ns) (T : TS w g s0 L e b z far sp G gs kg W C cs kc rs rl pl put ex m key s) {ql : B3} (hq : ql ∈ rs) (hlen : rs.length < 100) {te : Tok} (hm1 : m (Str.ofString "elements") = some (.int e te)) (hm2 : m (Str.ofString "spelled") = some (.ref sp)) (hm3 : m (Str.ofString "row") = some (.ref rl)) {bo : Stmt} (hbo : rowStmA w.params = bo) :
    wpAny (MM w) ((aM 10 10).deeper (lawEnv w.params L)) (exec bo (lawEnv w.params L))
      (fun fl s' => Stp (fl = .next ∧ ∃ f, TS w g s0 L e b z far sp G gs kg W C cs kc (rs ++ [(f, 0, 0)]) rl pl put ex m key s')) NoE s := by
  obtain ⟨oB, oZ, oG, oW, oC, oP, oV, tb, tz, tv, n1, n2, vs, tG, tW, tC, tq, dB, dZ, dG, dW, dC, dP, dV, hvs, N⟩ := T.led hq
  have F := T.F
  have CX := I.cx.keeps (gz_some I.st)
  have X := CX.K
  obtain ⟨loose, mean, mg, mb, TT⟩ := CX.T
  unfold rowStmA pushBody forBody lawBody lawOf at hbo
  conv at hbo => lhs; whnf
  subst hbo
  delta lawEnv
  generalize hsc : lawScope w.params = sc
  unfold lawScope lawOf at hsc
  conv at hsc => lhs; whnf
  subst hsc
  simp only [ledOf, List.cons_append, List.nil_append] at N
  obtain ⟨hp, gn, dr, tk, os⟩ := s
  have hos := T.os
  have hbare := T.bare
  dsimp only at F N hos hbare ⊢
  subst hos
  walk_at "m:steps"
  unfold Stopped
  refine c_new I.cx (fun b o e => F.keep b o (gz_some I.st b o e)) (rm_deep (by decide) (by decide)) T.X.hS ?_
  intro f s' af B
  have T' := T.toks.af af
  obtain ⟨n0, orl⟩ := T'.X.hrl
  obtain ⟨⟨apl, apd⟩, _⟩ := T.X.apNew T.F.ns B
  have Bk := B.back fun b o e => T.F.keep b o (gz_some I.st b o e)
  obtain ⟨h5, gs5, d5, t5, os5⟩ := s'
  have hos := T'.os
  dsimp only at hos orl Bk ⊢
  subst hos
  walk_at "m:steps"
  refine append_at (hsz := by rw [List.size_toArray, List.length_map]; exact Nat.le_trans (Nat.le_of_lt hlen) (by decide)) orl.at_ fun h' hs ho' => ?_
  have af2 : Af [rl] ⟨h5, gs5, d5, t5, s0.os⟩ ⟨h', gs5, d5, t5, s0.os⟩ := ⟨fun b o e1 n1 => (hs.2 b (fun q => n1 (List.mem_singleton.mpr q))).trans e1, rfl, id⟩
  have mp : (rs ++ [((f, 0, 0) : B3)]).map (·.1) = rs.map (·.1) ++ [f] := by simp
  exact ⟨⟨trivial, f, T'.rowOn (r := (f, 0, 0)) af2 Bk ⟨n0 + 1, by rw [ho', refs_snoc]; simp, orl.new⟩ (mp ▸ apl) (mp ▸ apd)⟩⟩
set_option maxHeartbeats 4000000 in
theorem s_rowAppB (I : LawIn w g s0 script ns) (T : TS w g s0 L e b z far sp G gs kg W C cs kc rs rl pl put ex m key s) {ql : B3} (hq : ql ∈ rs) (hlen : rs.length < 100) {te : Tok} (hm1 : m (Str.ofString "elements") = some (.int e te)) (hm2 : m (Str.ofString "spelled") = some (.ref sp)) (hm3 : m (Str.ofString "row") = some (.ref rl)) {bo : Stmt} (hbo : rowStmB w.params = bo) :
    wpAny (MM w) ((aM 10 10).deeper (lawEnv w.params L)) (exec bo (lawEnv w.params L))
      (fun fl s' => Stp (fl = .next ∧ ∃ f, TS w g s0 L e b z far sp G gs kg W C cs kc (rs ++ [(f, 0, 0)]) rl pl put ex m key s')) NoE s := by
  obtain ⟨oB, oZ, oG, oW, oC, oP, oV, tb, tz, tv, n1, n2, vs, tG, tW, tC, tq, dB, dZ, dG, dW, dC, dP, dV, hvs, N⟩ := T.led hq
  have F := T.F
  have CX := I.cx.keeps (gz_some I.st)
  have X := CX.K
  obtain ⟨loose, mean, mg, mb, TT⟩ := CX.T
  unfold rowStmB fullBody elseBody forBody lawBody lawOf at hbo
  conv at hbo => lhs; whnf
  subst hbo
  delta lawEnv
  generalize hsc : lawScope w.params = sc
  unfold lawScope lawOf at hsc
  conv at hsc => lhs; whnf
  subst hsc
  simp only [ledOf, List.cons_append, List.nil_append] at N
  obtain ⟨hp, gn, dr, tk, os⟩ := s
  have hos := T.os
  have hbare := T.bare
  dsimp only at F N hos hbare ⊢
  subst hos
  walk_at "m:steps"
  unfold Stopped
  refine c_new I.cx (fun b o e => F.keep b o (gz_some I.st b o e)) (rm_deep (by decide) (by decide)) T.X.hS ?_
  intro f s' af B
  have T' := T.toks.af af
  obtain ⟨n0, orl⟩ := T'.X.hrl
  obtain ⟨⟨apl, apd⟩, _⟩ := T.X.apNew T.F.ns B
  have Bk := B.back fun b o e => T.F.keep b o (gz_some I.st b o e)
  obtain ⟨h5, gs5, d5, t5, os5⟩ := s'
  have hos := T'.os
  dsimp only at hos orl Bk ⊢
  subst hos
  walk_at "m:steps"
  refine append_at (hsz := by rw [List.size_toArray, List.length_map]; exact Nat.le_trans (Nat.le_of_lt hlen) (by decide)) orl.at_ fun h' hs ho' => ?_
  have af2 : Af [rl] ⟨h5, gs5, d5, t5, s0.os⟩ ⟨h', gs5, d5, t5, s0.os⟩ := ⟨fun b o e1 n1 => (hs.2 b (fun q => n1 (List.mem_singleton.mpr q))).trans e1, rfl, id⟩
  have mp : (rs ++ [((f, 0, 0) : B3)]).map (·.1) = rs.map (·.1) ++ [f] := by simp
  exact ⟨⟨trivial, f, T'.rowOn (r := (f, 0, 0)) af2 Bk ⟨n0 + 1, by rw [ho', refs_snoc]; simp, orl.new⟩ (mp ▸ apl) (mp ▸ apd)⟩⟩
end
end
example : True ∧ True := by walk1 <;> trivial
section
local macro_rules | `(tactic| walk_at "m:flush") => `(tactic| trivial)
example : True ∧ True := by walk1 <;> trivial
end
theorem loadX {M : Model} {A : Around} {E : Value → Shared → Prop} {s : Shared} {h₀ : Heap} {L a : Addr} {m : Str → Option Value} {cn : Str} {cs : Scope} {ccd : Value} {cl : List (Str × Addr)} {x : Str} {v : Value} {Q : Value → Shared → Prop} (F : Fr h₀ L s.heap m) (hv : m x = some v) (h : Q v s)
    (hk : cs.kind = .function) (hx : (envX cn cs L a ccd cl).kindOf x = some .local) : wpAny M A (loadName (envX cn cs L a ccd cl) x) Q E s := wpAny_loadName_local hk hx F.ns hv h
theorem m_add {prog : Program} {w : World} {A : Around} {E : Value → Shared → Prop} {s : Shared} {h₀ : Heap} {L a b : Addr} {m : Str → Option Value} {news : List (Addr × Obj)} {vs ws : List Value} {Q : Value → Shared → Prop} (F : Fr h₀ L s.heap m) (N : News h₀ L s.heap news) (ha : s.heap.IsList a vs.toArray) (hb : s.heap.IsList b ws.toArray) (h1 : vs.length < 1000) (h2 : ws.length < 1000)
    (h : ∀ D h', Fr h₀ L h' m → News h₀ L h' ((D, PySem.W.listOf (vs ++ ws).toArray 0) :: news) → (∀ p ∈ news, p.1 < D) → Q (.ref D) { s with heap := h' }) : wpAny (model prog w) A (binaryOp .Add (.ref a) (.ref b)) Q E s :=
  kmk_add_lit F N ha hb rfl h (Nat.le_trans (show vs.length + ws.length ≤ 2000 by omega) (by decide))
theorem m_len {prog : Program} {w : World} {A : Around} {E : Value → Shared → Prop} {s : Shared} {l : Addr} {vs : List Value} {Q : Value → Shared → Prop} (hl : s.heap.IsList l vs.toArray) (hf : vs.length < 1000) (h : Q (.int (vs.length : Int) (s.toks + 1)) { s with toks := s.toks + 1 + 1 }) :
    wpAny (model prog w) A (call (.builtin "len") [.ref l]) Q E s := PyProof.Rows.len_list hl (by rw [List.size_toArray]; omega) (by rw [List.size_toArray]; exact h)
local macro_rules | `(tactic| walk_at "m:has") => `(tactic| ((repeat' (first | with_reducible assumption | exact if_pos rfl | refine (if_neg (by decide)).trans ?_)); done))
local macro_rules | `(tactic| walk_at "m:rest") => `(tactic| (intro qr hqr; repeat (first | exact hqr | refine List.mem_cons_of_mem _ ?_)))
local macro_rules | `(tactic| walk_at "eval ListComp") => `(tactic| (with_reducible refine stop_here ?_))
local macro_rules | `(tactic| walk_at "eval ListComp Call cons") => `(tactic| (with_reducible refine stop_here ?_))
local macro_rules | `(tactic| walk_at "eval ListComp Name cons") => `(tactic| (with_reducible refine stop_here ?_))
local macro_rules | `(tactic| walk_at "call builtin:len") => `(tactic| k_dflt (((with_reducible show wpAny _ _ (call (Value.builtin "len") [Value.ref _]) _ _ _); refine m_len (m_list (by k_asm) (by k_mem)) (by with_reducible assumption) ?_; (try dsimp only))))
local macro_rules | `(tactic| walk_at "m:last") => `(tactic| k_dflt (((with_reducible show wpAny _ _ (subscriptTail _ _ (Value.ref _) (Value.int _ _)) _ _ _); refine m_last (m_list (by k_asm) (by k_mem)) ?_; k_whole)))
local macro_rules | `(tactic| walk_at "subscriptTail Name UnaryOp ref int") => `(tactic| k_dflt (walk_at "m:last"))
local macro_rules | `(tactic| walk_at "m:short") => `(tactic| first | with_reducible assumption | exact Nat.le_of_ble_eq_true rfl)
local macro_rules | `(tactic| walk_at "binaryOp Add ref ref") => `(tactic| ((with_reducible show wpAny _ _ (binaryOp _ (Value.ref _) (Value.ref _)) _ _ _); k_dflt (refine' m_add ?F ?N ?a ?b ?h1 ?h2 ?_; (case F => k_asm); (case N => k_asm); (case a => exact m_list (by k_asm) (by k_mem)); (case b => exact m_list (by k_asm) (by k_mem)); (case h1 => walk_at "m:short"); (case h2 => walk_at "m:short")); intro D' h' F' N' l1; have lS' := Stp.mk l1; (try k_lt l1); (try k_sweep)))
local macro_rules | `(tactic| walk_at "binaryOp Mod int int") => `(tactic| (refine mod_gen (by omega) ?_; intro k hk1 hk2 hk3; (try dsimp only)))
local macro_rules | `(tactic| walk_at "loadName") => `(tactic| k_dflt (refine' loadX ?k1 ?k2 ?_ ?k4 ?k5; (case k5 => rfl); (case k4 => rfl); (case k1 => k_asm); (case k2 => walk_at "m:has")))
section
noncomputable def elseStm (P : Params) (i : Nat) : Stmt := match (elseBody P).drop i with
  | x :: _ => x
  | _ => .Pass ⟨0, 0, 0, 0⟩
noncomputable def pushStm (P : Params) : Stmt := match pushBody P with
  | x :: _ => x
  | _ => .Pass ⟨0, 0, 0, 0⟩
noncomputable def lastStm (P : Params) : Stmt := match (fullBody P).drop 1 with
  | .If _ [x] _ _ :: _ => x
  | _ => .Pass ⟨0, 0, 0, 0⟩
section
variable {w : World} {g : Heap} {s0 s : Shared} {L : Addr} {e b z far : Int} {sp : Addr} {G : Fa} {gs : List B3} {kg : Int} {W : B3} {C : Fa} {cs : List Int} {kc : Int} {rs : List B3} {rl pl : Addr} {put : List Str} {ex : List (Addr × Obj)} {m : Str → Option Value} {key : Str} {script : Addr} {ns : List Int}
/-- which of a row's filters say yes -/
noncomputable def yesP (b : Int) (rs : List B3) (xs : List Int) (v : Value) : Bool := open Classical in decide (∃ q ∈ rs, v = .ref q.1.x ∧ chk b q.2.1 xs = true)
theorem BF.same {h : Heap} {q r : Fa} {m1 k1 m2 k2 : Int} (x : BF w e b z sp g h q m1 k1) (y : BF w e b z sp g h r m2 k2) (hx : q.x = r.x) : m1 = m2 := by
  have e1 := x.x.at_
  rw [hx, y.x.at_] at e1
  have e1 : r.d = q.d := by injection e1 with e1; injection e1 with _ e1 _; exact Option.some.inj e1
  obtain ⟨t1, d1⟩ := x.d
  obtain ⟨t2, d2⟩ := y.d
  have e2 := d1.at_
  rw [← e1, d2.at_] at e2
  have e2 : r.l = q.l := by
    injection e2 with e2; injection e2 with _ _ e2; injection e2 with e2 _
    have := congrArg (fun a => a[10]?) e2
    simp [bfEs] at this
    exact this.2
  obtain ⟨_, _, l1⟩ := x.l
  obtain ⟨_, _, l2⟩ := y.l
  have e3 := l1.at_
  rw [← e2, l2.at_] at e3
  injection e3 with e3; injection e3 with _ _ e3; injection e3 with e3 _
  injection e3 with e3
  injection e3 with e3 _
  injection e3 with e3 _
  exact e3.symm
theorem yesP_eq {rs : List B3} {h : Heap} {xs : List Int} (R : ∀ q ∈ rs, BF w e b z sp g h q.1 q.2.1 q.2.2) {q : B3} (hq : q ∈ rs) : yesP b rs xs (.ref q.1.x) = chk b q.2.1 xs := by
  unfold yesP
  cases hc : chk b q.2.1 xs with
  | true => exact decide_eq_true ⟨q, hq, rfl, hc⟩
  | false =>
    refine decide_eq_false fun ⟨r, hr, e1, e2⟩ => ?_
    injection e1 with e1
    rw [(R q hq).same (R r hr) e1, e2] at hc
    cases hc
theorem len_any {rs : List B3} {h : Heap} {xs : List Int} (R : ∀ q ∈ rs, BF w e b z sp g h q.1 q.2.1 q.2.2) : ((((refsOf rs).filter (yesP b rs xs)).length : Int) == 0) = !(rs.any fun q => chk b q.2.1 xs) := by
  cases h : rs.any (fun q => chk b q.2.1 xs) with
  | true =>
    obtain ⟨q, hq, hc⟩ := List.any_eq_true.mp h
    have hm : Value.ref q.1.x ∈ (refsOf rs).filter (yesP b rs xs) := List.mem_filter.mpr ⟨List.mem_map.mpr ⟨q, hq, rfl⟩, (yesP_eq R hq).trans hc⟩
    have : 0 < ((refsOf rs).filter (yesP b rs xs)).length := List.length_pos_of_mem hm
    simp only [Bool.not_true, beq_eq_false_iff_ne]
    omega
  | false =>
    have : (refsOf rs).filter (yesP b rs xs) = [] := List.filter_eq_nil_iff.mpr fun v hv => by
      obtain ⟨q, hq, rfl⟩ := List.mem_map.mp hv
      rw [yesP_eq R hq]
      exact List.any_eq_false.mp h q hq
    rw [this]; rfl
set_option maxHeartbeats 4000000 in
theorem s_let (I : LawIn w g s0 script ns) (T : TS w g s0 L e b z far sp G gs kg W C cs kc rs rl pl put ex m key s) {ql : B3} (hq : ql ∈ rs) (hlen : rs.length < 100) (hk : key.length ≤ sizeLine) (hkz : (key.length : Int) = z) {fo : Bool} (hm2 : m (Str.ofString "force") = some (.bool fo)) (hm3 : m (Str.ofString "row") = some (.ref rl)) {bo : Stmt} (hbo : elseStm w.params 1 = bo) :
    wpAny (MM w) ((aM 10 10).deeper (lawEnv w.params L)) (exec bo (lawEnv w.params L))
      (fun fl s' => Stp (fl = .next ∧ ∃ le, le = (fo || !(rs.any fun q => chk b q.2.1 (spell far z key))) ∧ TS w g s0 L e b z far sp G gs kg W C cs kc rs rl pl put ex (fun y => if y = Str.ofString "let" then some (.bool le) else m y) key s')) NoE s := by
  obtain ⟨oB, oZ, oG, oW, oC, oP, oV, tb, tz, tv, n1, n2, vs, tG, tW, tC, tq, dB, dZ, dG, dW, dC, dP, dV, hvs, N⟩ := T.led hq
  have F := T.F
  have CX := I.cx.keeps (gz_some I.st)
  have X := CX.K
  obtain ⟨loose, mean, mg, mb, TT⟩ := CX.T
  unfold elseStm elseBody forBody lawBody lawOf at hbo
  conv at hbo => lhs; whnf
  subst hbo
  delta lawEnv
  generalize hsc : lawScope w.params = sc
  unfold lawScope lawOf at hsc
  conv at hsc => lhs; whnf
  subst hsc
  simp only [ledOf, List.cons_append, List.nil_append] at N
  obtain ⟨hp, gn, dr, tk, os⟩ := s
  have hos := T.os
  have hbare := T.bare
  dsimp only at F N hos hbare ⊢
  subst hos
  walk_at "m:steps"
  · (rename Fr _ _ _ _ => F9); (rename News _ _ _ _ => N9)
    exact ⟨⟨rfl, fo, by simp [*], T.seg F9 N9 (by walk_at "m:rest") hbare⟩⟩
  unfold Stopped
  refine comp_gen (tb := []) (Inv := fun _ => True) (Bd := bdN (Str.ofString "one")) (n := (refsOf rs).toArray.size) (P := fun i v => (refsOf rs).toArray[i]? = some v) (fun _ => rfl) rfl rfl (by decide) ?_ (yesP b rs (spell far z key)) (fun _ _ v y => True) (fun _ _ _ _ _ h _ => h) ?_
  · rw [List.size_toArray, List.length_map]; exact Nat.le_trans (Nat.le_of_lt hlen) (by decide)
  walk_at "m:steps"
  unfold Stopped
  (rename Fr _ _ _ _ => F2); (rename News _ _ _ _ => N2)
  refine ⟨_, ok_name tb_nil trivial (it_list rfl (News.isList N2 (by k_mem))) (by decide) rfl rfl ?_ ?_, ?_⟩
  · rintro C i v mm s₃ hi hv hn3 hm3 hC af _
    obtain ⟨q, hqr, rfl⟩ : ∃ q ∈ rs, v = Value.ref q.1.x := by
      rw [List.getElem?_toArray, List.getElem?_map] at hv
      cases e1 : rs[i]? with
      | none => rw [e1] at hv; cases hv
      | some q => rw [e1] at hv; cases hv; exact ⟨q, List.mem_of_getElem? e1, rfl⟩
    obtain ⟨F3, N3⟩ := elt_base F2 N2 hC hn3 (fun b o e => af.keep b o e (by simp))
    have Bq := (T.X.RB q hqr).kp (h' := s₃.heap) fun b o _ e => af.keep _ _ (by assumption) (by simp)
    obtain ⟨td, od⟩ := Bq.d
    obtain ⟨td0, od0⟩ := (T.X.RB q hqr).d
    have N4 := news_one (news_one N3 Bq.x.at_ (Nat.ne_of_lt (Nat.lt_of_lt_of_le (Heap.lt_size (T.X.RB q hqr).x.at_) hC)) (gz_none Bq.x.new)) od.at_ (Nat.ne_of_lt (Nat.lt_of_lt_of_le (Heap.lt_size od0.at_) hC)) (gz_none od.new)
    clear F2 N2 N3
    obtain ⟨h₃, gs₃, d₃, t₃, os₃⟩ := s₃
    refine wpAny_tests_one ?_
    walk_at "m:steps"
    unfold Stopped
    refine c_contains I.cx (fun b o e => F3.keep b o (gz_some I.st b o e)) (rm_deep (by decide) (by decide)) T.X.hS Bq (T.X.Sp.kp fun b o e => af.keep _ _ e (by simp)) hk hkz ?_
    intro bb s' hbb af'
    obtain ⟨h5, gs5, d5, t5, os5⟩ := s'
    dsimp only
    walk_at "m:steps"
    · rw [yesP_eq T.X.RB hqr]; exact hbb
    · exact af'.tr (s := ⟨h₃, gs₃, d₃, t₃, os₃⟩) (Af.refl _) (by simp) (by simp)
    · trivial
  · rintro C i v mm s₃ hi hv _ hn3 hm3 hC af _
    obtain ⟨F3, N3⟩ := elt_base F2 N2 hC hn3 (fun b o e => af.keep b o e (by simp))
    clear F2 N2
    obtain ⟨h₃, gs₃, d₃, t₃, os₃⟩ := s₃
    walk_at "m:steps"
    · trivial
    · exact Af.refl _
    · trivial
  · intro D s' xs ys ce
    have hxs : xs = refsOf rs := src_all (by rw [ce.len]) ce.src
    have hys : ys.length < 1000 := by
      rw [← ce.out.length, hxs]
      exact Nat.lt_of_le_of_lt (List.length_filter_le _ _) (by rw [List.length_map]; omega)
    have hlen2 : ys.length = (xs.filter (yesP b rs (spell far z key))).length := (ce.out.length).symm
    obtain ⟨F3, N3⟩ := after_gen F2 N2 ce.af ce.new ce.at_
    have hos3 := ce.af.os
    have hgs3 := ce.af.gens
    clear F2 N2 ce
    obtain ⟨h3, gs3, d3, t3, os3⟩ := s'
    dsimp only at hos3 hgs3 F3 N3 ⊢
    subst hos3
    walk_at "m:steps"
    (rename Fr _ _ _ _ => F9); (rename News _ _ _ _ => N9)
    have hfo : fo = false := by assumption
    refine ⟨⟨trivial, _, ?_, T.seg F9 N9 (by walk_at "m:rest") (hgs3 hbare)⟩⟩
    rw [hlen2, hxs, hfo, Bool.false_or]
    exact len_any T.X.RB
end
end
example : True ∧ True := by walk1 <;> trivial
section
local macro_rules | `(tactic| walk_at "m:flush") => `(tactic| trivial)
example : True ∧ True := by walk1 <;> trivial
end
section
section
variable {w : World} {g : Heap} {s0 s : Shared} {L : Addr} {e b z far : Int} {sp : Addr} {G : Fa} {gs : List B3} {kg : Int} {W : B3} {C : Fa} {cs : List Int} {kc : Int} {rs : List B3} {rl pl : Addr} {put : List Str} {ex : List (Addr × Obj)} {m : Str → Option Value} {key : Str} {script : Addr} {ns : List Int}
set_option maxHeartbeats 4000000 in
theorem s_force (I : LawIn w g s0 script ns) (T : TS w g s0 L e b z far sp G gs kg W C cs kc rs rl pl put ex m key s) {ql : B3} (hq : ql ∈ rs) {n : Int} {tn : Tok} (hm1 : m (Str.ofString "number") = some (.int n tn)) {bo : Stmt} (hbo : elseStm w.params 0 = bo) :
    wpAny (MM w) ((aM 10 10).deeper (lawEnv w.params L)) (exec bo (lawEnv w.params L))
      (fun fl s' => Stp (fl = .next ∧ TS w g s0 L e b z far sp G gs kg W C cs kc rs rl pl put ex (fun y => if y = Str.ofString "force" then some (.bool (Int.fmod n 4 == 2)) else m y) key s')) NoE s := by
  obtain ⟨oB, oZ, oG, oW, oC, oP, oV, tb, tz, tv, n1, n2, vs, tG, tW, tC, tq, dB, dZ, dG, dW, dC, dP, dV, hvs, N⟩ := T.led hq
  have F := T.F
  have CX := I.cx.keeps (gz_some I.st)
  have X := CX.K
  obtain ⟨loose, mean, mg, mb, TT⟩ := CX.T
  unfold elseStm elseBody forBody lawBody lawOf at hbo
  conv at hbo => lhs; whnf
  subst hbo
  delta lawEnv
  generalize hsc : lawScope w.params = sc
  unfold lawScope lawOf at hsc
  conv at hsc => lhs; whnf
  subst hsc
  simp only [ledOf, List.cons_append, List.nil_append] at N
  obtain ⟨hp, gn, dr, tk, os⟩ := s
  have hos := T.os
  have hbare := T.bare
  dsimp only at F N hos hbare ⊢
  subst hos
  walk_at "m:steps"
  (rename Fr _ _ _ _ => F9); (rename News _ _ _ _ => N9)
  obtain ⟨kk, hk⟩ : ∃ kk, kk = Int.fmod n 4 := ⟨_, rfl⟩
  subst_vars
  exact ⟨⟨by trivial, T.seg F9 N9 (by walk_at "m:rest") hbare⟩⟩
set_option maxHeartbeats 4000000 in
theorem s_full (I : LawIn w g s0 script ns) (T : TS w g s0 L e b z far sp G gs kg W C cs kc rs rl pl put ex m key s) {pre : List B3} {ql : B3} (hrs : rs = pre ++ [ql]) {te : Tok} (hm1 : m (Str.ofString "elements") = some (.int e te)) (hm3 : m (Str.ofString "row") = some (.ref rl)) {bo : Stmt} (hbo : elseStm w.params 2 = bo) :
    wpAny (MM w) ((aM 10 10).deeper (lawEnv w.params L)) (exec bo (lawEnv w.params L))
      (fun fl s' => Stp (fl = .next ∧ TS w g s0 L e b z far sp G gs kg W C cs kc rs rl pl put ex (fun y => if y = Str.ofString "full" then some (.bool (ql.2.2 == e)) else m y) key s')) NoE s := by
  have hq : ql ∈ rs := hrs ▸ List.mem_append_right _ (.head _)
  obtain ⟨oB, oZ, oG, oW, oC, oP, oV, tb, tz, tv, n1, n2, vs, tG, tW, tC, tq, dB, dZ, dG, dW, dC, dP, dV, hvs, N⟩ := T.led hq
  have F := T.F
  have CX := I.cx.keeps (gz_some I.st)
  have X := CX.K
  obtain ⟨loose, mean, mg, mb, TT⟩ := CX.T
  unfold elseStm elseBody forBody lawBody lawOf at hbo
  conv at hbo => lhs; whnf
  subst hbo
  delta lawEnv
  generalize hsc : lawScope w.params = sc
  unfold lawScope lawOf at hsc
  conv at hsc => lhs; whnf
  subst hsc
  simp only [ledOf, List.cons_append, List.nil_append] at N
  obtain ⟨hp, gn, dr, tk, os⟩ := s
  have hos := T.os
  have hbare := T.bare
  dsimp only at F N hos hbare ⊢
  subst hos
  rw [show refsOf rs = refsOf pre ++ [Value.ref ql.1.x] from hrs ▸ refs_snoc] at N
  walk_at "m:steps"
  (rename Fr _ _ _ _ => F9); (rename News _ _ _ _ => N9)
  exact ⟨⟨by trivial, T.seg F9 N9 (by walk_at "m:rest") hbare⟩⟩
set_option maxHeartbeats 4000000 in
theorem s_push (I : LawIn w g s0 script ns) (T : TS w g s0 L e b z far sp G gs kg W C cs kc rs rl pl put ex m key s) {ql : B3} (hq : ql ∈ rs) (hlen : gs.length < 100) {bo : Stmt} (hbo : pushStm w.params = bo) :
    wpAny (MM w) ((aM 10 10).deeper (lawEnv w.params L)) (exec bo (lawEnv w.params L))
      (fun fl s' => Stp (fl = .next ∧ ∃ f, TS w g s0 L e b z far sp G (gs ++ [(f, 0, 0)]) kg W C cs kc rs rl pl put ex m key s')) NoE s := by
  obtain ⟨oB, oZ, oG, oW, oC, oP, oV, tb, tz, tv, n1, n2, vs, tG, tW, tC, tq, dB, dZ, dG, dW, dC, dP, dV, hvs, N⟩ := T.led hq
  have F := T.F
  have CX := I.cx.keeps (gz_some I.st)
  have X := CX.K
  obtain ⟨loose, mean, mg, mb, TT⟩ := CX.T
  unfold pushStm pushBody forBody lawBody lawOf at hbo
  conv at hbo => lhs; whnf
  subst hbo
  delta lawEnv
  generalize hsc : lawScope w.params = sc
  unfold lawScope lawOf at hsc
  conv at hsc => lhs; whnf
  subst hsc
  simp only [ledOf, List.cons_append, List.nil_append] at N
  obtain ⟨hp, gn, dr, tk, os⟩ := s
  have hos := T.os
  have hbare := T.bare
  dsimp only at F N hos hbare ⊢
  subst hos
  walk_at "m:steps"
  unfold Stopped
  refine c_push I.cx (fun b o e => F.keep b o (gz_some I.st b o e)) (rm_deep (by decide) (by decide)) T.X.hS T.X.E hlen ?_
  intro f s' af B E
  obtain ⟨ap1, ap2⟩ := (T.X.apNew T.F.ns B).2
  have mp : (gs ++ [((f, 0, 0) : B3)]).map (·.1) = gs.map (·.1) ++ [f] := by simp
  obtain ⟨nG, ol⟩ := T.X.E.l
  obtain ⟨ps, pk, ot⟩ := T.X.t2
  have R : Wrs hp [G.l] [] [] := wrs_l ol.at_
  have n419 : @Ne Nat 419 G.l := fun q => by
    have := ot.at_
    rw [show (419 : Addr) = G.l from q, ol.at_] at this
    injection this with this; injection this with this; cases this
  exact ⟨⟨by trivial, f, T.growOn (ls := [G.l]) (ds := []) (ts := []) R af E (fun c hc => .inl (List.mem_singleton.mp hc)) (fun _ h => absurd h List.not_mem_nil) (fun _ h => absurd h List.not_mem_nil) ⟨ps, pk, af.keep _ _ ot.at_ (not1 n419), ot.new⟩ (mp ▸ ap1) (mp ▸ ap2)⟩⟩
set_option maxHeartbeats 4000000 in
theorem s_last (I : LawIn w g s0 script ns) (T : TS w g s0 L e b z far sp G gs kg W C cs kc rs rl pl put ex m key s) {pre : List B3} {ql : B3} (hrs : rs = pre ++ [ql]) (hk : key.length ≤ sizeLine) (hkz : (key.length : Int) = z) (hm3 : m (Str.ofString "row") = some (.ref rl)) {bo : Stmt} (hbo : lastStm w.params = bo) :
    wpAny (MM w) ((aM 10 10).deeper (lawEnv w.params L)) (exec bo (lawEnv w.params L))
      (fun fl s' => Stp (fl = .next ∧ TS w g s0 L e b z far sp G gs kg W C cs kc (pre ++ [(ql.1, addm b ql.2.1 (spell far z key), ql.2.2 + 1)]) rl pl put ex m key s')) NoE s := by
  have hq : ql ∈ rs := hrs ▸ List.mem_append_right _ (.head _)
  obtain ⟨oB, oZ, oG, oW, oC, oP, oV, tb, tz, tv, n1, n2, vs, tG, tW, tC, tq, dB, dZ, dG, dW, dC, dP, dV, hvs, N⟩ := T.led hq
  have F := T.F
  have CX := I.cx.keeps (gz_some I.st)
  have X := CX.K
  obtain ⟨loose, mean, mg, mb, TT⟩ := CX.T
  unfold lastStm fullBody elseBody forBody lawBody lawOf at hbo
  conv at hbo => lhs; whnf
  subst hbo
  delta lawEnv
  generalize hsc : lawScope w.params = sc
  unfold lawScope lawOf at hsc
  conv at hsc => lhs; whnf
  subst hsc
  simp only [ledOf, List.cons_append, List.nil_append] at N
  obtain ⟨hp, gn, dr, tk, os⟩ := s
  have hos := T.os
  have hbare := T.bare
  dsimp only at F N hos hbare ⊢
  subst hos
  rw [show refsOf rs = refsOf pre ++ [Value.ref ql.1.x] from hrs ▸ refs_snoc] at N
  walk_at "m:steps"
  unfold Stopped
  refine c_add I.cx (fun b o e => F.keep b o (gz_some I.st b o e)) (rm_deep (by decide) (by decide)) T.X.hS (T.X.RB ql hq) T.X.Sp hk hkz ?_
  intro s' af B
  subst hrs
  exact ⟨⟨by trivial, T.toks.lastOn af B⟩⟩
end
end
example : True ∧ True := by walk1 <;> trivial
section
local macro_rules | `(tactic| walk_at "m:flush") => `(tactic| trivial)
example : True ∧ True := by walk1 <;> trivial
end
section
def ifTest : Stmt → PySem.Expr
  | .If t _ _ _ => t
  | _ => .Name (Str.ofString "") ⟨0, 0, 0, 0⟩
def ifBody : Stmt → List Stmt
  | .If _ b _ _ => b
  | _ => []
def ifElse : Stmt → List Stmt
  | .If _ _ b _ => b
  | _ => []
def IsIf (st : Stmt) : Prop := ∃ t b o p, st = .If t b o p
theorem exec_if {M : Model} {A : Around} {st : Stmt} {env : Env} {E : Value → Shared → Prop} {s : Shared} {Q : Flow → Shared → Prop} (hi : IsIf st)
    (h : wpAny M A (isTrue (ifTest st) env (eval (ifTest st) env)) (fun bb s' => (bb = true → wpAny M A (execs (ifBody st) env) Q E s') ∧ (bb = false → wpAny M A (execs (ifElse st) env) Q E s')) E s) : wpAny M A (exec st env) Q E s := by
  obtain ⟨t, b, o, p, rfl⟩ := hi
  refine wpAny_If (wpAny_mono h (fun bb s' hb => ?_) fun _ _ e => e)
  cases bb with
  | true => exact hb.1 rfl
  | false => exact hb.2 rfl
noncomputable def fullStm (P : Params) (i : Nat) : Stmt := match (fullBody P).drop i with
  | x :: _ => x
  | _ => .Pass ⟨0, 0, 0, 0⟩
theorem tail_eq (P : Params) : lawTail P = [tailStm P 0, tailStm P 1, tailStm P 2, tailStm P 3] := by
  obtain ⟨a, b, c, d, h⟩ : ∃ a b c d, lawTail P = [a, b, c, d] := by
    unfold lawTail elseBody forBody lawBody lawOf
    conv => enter [1, a, 1, b, 1, c, 1, d]; lhs; whnf
    exact ⟨_, _, _, _, rfl⟩
  unfold tailStm
  rw [h]
  rfl
theorem else_eq (P : Params) : elseBody P = [elseStm P 0, elseStm P 1, elseStm P 2, elseStm P 3] := by
  obtain ⟨a, b, c, d, h⟩ : ∃ a b c d, elseBody P = [a, b, c, d] := by
    unfold elseBody forBody lawBody lawOf
    conv => enter [1, a, 1, b, 1, c, 1, d]; lhs; whnf
    exact ⟨_, _, _, _, rfl⟩
  unfold elseStm
  rw [h]
  rfl
theorem for_eq (P : Params) : forBody P = [forStm P 0, forStm P 1] := by
  obtain ⟨a, b, h⟩ : ∃ a b, forBody P = [a, b] := by
    unfold forBody lawBody lawOf
    conv => enter [1, a, 1, b]; lhs; whnf
    exact ⟨_, _, rfl⟩
  unfold forStm
  rw [h]
  rfl
theorem if3 (P : Params) : IsIf (elseStm P 3) ∧ ifBody (elseStm P 3) = fullStm P 0 :: fullStm P 1 :: lawTail P ∧ ifElse (elseStm P 3) = [] ∧ IsIf (fullStm P 0) ∧ ifBody (fullStm P 0) = [rowStmB P] ∧ ifElse (fullStm P 0) = [] ∧ IsIf (fullStm P 1) ∧ ifBody (fullStm P 1) = [lastStm P] ∧ ifElse (fullStm P 1) = [] := by
  obtain ⟨a, b, c, t, p, t1, x1, p1, t2, x2, p2, r, h⟩ : ∃ a b c t p t1 x1 p1 t2 x2 p2 r, elseBody P = [a, b, c, .If t (.If t1 [x1] [] p1 :: .If t2 [x2] [] p2 :: r) [] p] := by
    unfold elseBody forBody lawBody lawOf
    conv => enter [1, a, 1, b, 1, c, 1, d, 1, e, 1, f, 1, g, 1, h, 1, i, 1, j, 1, k, 1, l]; lhs; whnf
    exact ⟨_, _, _, _, _, _, _, _, _, _, _, _, rfl⟩
  have h2 : fullBody P = .If t1 [x1] [] p1 :: .If t2 [x2] [] p2 :: r := by unfold fullBody; rw [h]; rfl
  unfold fullStm rowStmB lastStm lawTail elseStm
  rw [h2, h]
  exact ⟨⟨_, _, _, _, rfl⟩, rfl, rfl, ⟨_, _, _, _, rfl⟩, rfl, rfl, ⟨_, _, _, _, rfl⟩, rfl, rfl⟩
theorem if1 (P : Params) : IsIf (forStm P 1) ∧ ifElse (forStm P 1) = elseBody P ∧ ∃ st, ifBody (forStm P 1) = [st] ∧ IsIf st ∧ ifBody st = [pushStm P, rowStmA P] ∧ ifElse st = [] := by
  obtain ⟨a, t, p, t1, x1, y1, p1, r, h⟩ : ∃ a t p t1 x1 y1 p1 r, forBody P = [a, .If t [.If t1 [x1, y1] [] p1] r p] := by
    unfold forBody lawBody lawOf
    conv => enter [1, a, 1, b, 1, c, 1, d, 1, e, 1, f, 1, g, 1, h]; lhs; whnf
    exact ⟨_, _, _, _, _, _, _, _, rfl⟩
  have h2 : pushBody P = [x1, y1] := by unfold pushBody; rw [h]; rfl
  unfold pushStm rowStmA forStm elseBody
  rw [h2, h]
  exact ⟨⟨_, _, _, _, rfl⟩, rfl, _, rfl, ⟨_, _, _, _, rfl⟩, rfl, rfl⟩
section
variable {w : World} {g : Heap} {s0 s : Shared} {L : Addr} {e b z far : Int} {sp : Addr} {G : Fa} {gs : List B3} {kg : Int} {W : B3} {C : Fa} {cs : List Int} {kc : Int} {rs : List B3} {rl pl : Addr} {put : List Str} {ex : List (Addr × Obj)} {m : Str → Option Value} {key : Str} {script : Addr} {ns : List Int}
/-- what a word makes of the row -/
def rowS (b : Int) (le fu : Bool) (xs : List Int) (pre : List (Int × Int)) (l : Int × Int) : List (Int × Int) :=
  if le = true then (if fu = true then (pre ++ [l]) ++ [(addm b 0 xs, 1)] else pre ++ [(addm b l.1 xs, l.2 + 1)]) else pre ++ [l]
/-- the local names that a turn keeps -/
structure Ms (m : Str → Option Value) (n e : Int) (sp rl : Addr) : Prop where
  n : ∃ t, m (Str.ofString "number") = some (.int n t)
  e : ∃ t, m (Str.ofString "elements") = some (.int e t)
  sp : m (Str.ofString "spelled") = some (.ref sp)
  rl : m (Str.ofString "row") = some (.ref rl)
theorem Ms.set {m : Str → Option Value} {n e : Int} {sp rl : Addr} (x : Ms m n e sp rl) {y : Str} {v : Value} (h1 : Str.ofString "number" ≠ y) (h2 : Str.ofString "elements" ≠ y) (h3 : Str.ofString "spelled" ≠ y) (h4 : Str.ofString "row" ≠ y) : Ms (fun k => if k = y then some v else m k) n e sp rl :=
  ⟨let ⟨t, h⟩ := x.n; ⟨t, (if_neg h1).trans h⟩, let ⟨t, h⟩ := x.e; ⟨t, (if_neg h2).trans h⟩, (if_neg h3).trans x.sp, (if_neg h4).trans x.rl⟩
theorem s_tail (I : LawIn w g s0 script ns) (T : TS w g s0 L e b z far sp G gs kg W C cs kc rs rl pl put ex m key s) {qr : B3} (hq : qr ∈ rs) (hk : key.length ≤ sizeLine) (hkz : (key.length : Int) = z) {pre : List B3} {ql : B3} (hgs : gs = pre ++ [ql]) (hlen : gs.length < 100)
    {n : Int} {fo : Bool} (M : Ms m n e sp rl) (hm2 : m (Str.ofString "force") = some (.bool fo)) (hsm : ∀ x ∈ cs, 0 ≤ x ∧ x < 1000) (hkc : 0 ≤ kc ∧ kc < 1000) (hput : put.length < 1000) {bo : List Stmt} (hbo : lawTail w.params = bo) :
    wpAny (MM w) ((aM 10 10).deeper (lawEnv w.params L)) (execs bo (lawEnv w.params L))
      (fun fl s' => Stp (fl = .next ∧ ∃ gs', gs'.map (·.2) = grows e b fo (spell far z key) (pre.map (·.2)) ql.2 ∧ TS w g s0 L e b z far sp G gs' (kg + 1) (W.1, addm b W.2.1 (spell far z key), W.2.2 + 1) C (told b cs (spell far z key)) (kc + 1) rs rl pl (put ++ [key]) ex m key s')) NoE s := by
  obtain ⟨tn, hn⟩ := M.n
  rw [tail_eq] at hbo
  subst hbo
  generalize k0 : tailStm w.params 0 = st0
  generalize k1 : tailStm w.params 1 = st1
  generalize k2 : tailStm w.params 2 = st2
  generalize k3 : tailStm w.params 3 = st3
  refine wpAny_execs_cons (wpAny_mono (s_grow I T hq hk hkz hgs hlen hn hm2 k0) ?_ fun _ _ e => e)
  rintro fl s1 ⟨⟨rfl, gs', e1, T1⟩⟩
  refine wpAny_execs_cons (wpAny_mono (s_whole I T1 hq hk hkz k1) ?_ fun _ _ e => e)
  rintro fl s2 ⟨⟨rfl, T2⟩⟩
  refine wpAny_execs_cons (wpAny_mono (s_count I T2 hq hk hkz hsm hkc k2) ?_ fun _ _ e => e)
  rintro fl s3 ⟨⟨rfl, T3⟩⟩
  refine wpAny_execs_cons (wpAny_mono (s_put I T3 hq hput k3) ?_ fun _ _ e => e)
  rintro fl s4 ⟨⟨rfl, T4⟩⟩
  exact wpAny_execs_nil ⟨⟨rfl, gs', e1, T4⟩⟩
set_option maxHeartbeats 4000000 in
theorem s_testF (I : LawIn w g s0 script ns) (T : TS w g s0 L e b z far sp G gs kg W C cs kc rs rl pl put ex m key s) {ql : B3} (hq : ql ∈ rs) (hlen : rs.length < 100) {n : Int} (M : Ms m n e sp rl) {le fu : Bool} (hm1 : m (Str.ofString "let") = some (.bool le)) (hm2 : m (Str.ofString "full") = some (.bool fu)) {bo : Stmt} (hbo : elseStm w.params 3 = bo) :
    wpAny (MM w) ((aM 10 10).deeper (lawEnv w.params L)) (isTrue (ifTest bo) (lawEnv w.params L) (eval (ifTest bo) (lawEnv w.params L)))
      (fun bb s' => Stp (bb = !(le && fu && ((rs.length : Int) == 3)) ∧ TS w g s0 L e b z far sp G gs kg W C cs kc rs rl pl put ex m key s')) NoE s := by
  have hll : (refsOf rs).length = rs.length := List.length_map _
  have hrows : (refsOf rs).length < 1000 := by rw [hll]; omega
  have hrl := M.rl
  obtain ⟨oB, oZ, oG, oW, oC, oP, oV, tb, tz, tv, n1, n2, vs, tG, tW, tC, tq, dB, dZ, dG, dW, dC, dP, dV, hvs, N⟩ := T.led hq
  have F := T.F
  have CX := I.cx.keeps (gz_some I.st)
  have X := CX.K
  obtain ⟨loose, mean, mg, mb, TT⟩ := CX.T
  unfold elseStm elseBody forBody lawBody lawOf at hbo
  conv at hbo => lhs; whnf
  subst hbo
  delta lawEnv
  generalize hsc : lawScope w.params = sc
  unfold lawScope lawOf at hsc
  conv at hsc => lhs; whnf
  subst hsc
  simp only [ledOf, List.cons_append, List.nil_append] at N
  obtain ⟨hp, gn, dr, tk, os⟩ := s
  have hos := T.os
  have hbare := T.bare
  dsimp only at F N hos hbare ⊢
  subst hos
  dsimp only [ifTest]
  walk_at "m:steps"
  all_goals refine ⟨⟨?_, T.toks⟩⟩
  all_goals first
    | (have hh := (by assumption : ((refsOf rs).length : Int) = 3); rw [hll] at hh; rw [hh]; simp [*]; done)
    | (have hh := (by assumption : ¬ ((refsOf rs).length : Int) = 3); rw [hll] at hh; simp [*]; done)
    | (simp [*]; done)
set_option maxHeartbeats 4000000 in
theorem s_testR (I : LawIn w g s0 script ns) (T : TS w g s0 L e b z far sp G gs kg W C cs kc rs rl pl put ex m key s) {ql : B3} (hq : ql ∈ rs) {le fu : Bool} (hm1 : m (Str.ofString "let") = some (.bool le)) (hm2 : m (Str.ofString "full") = some (.bool fu)) {bo : Stmt} (hbo : fullStm w.params 0 = bo) :
    wpAny (MM w) ((aM 10 10).deeper (lawEnv w.params L)) (isTrue (ifTest bo) (lawEnv w.params L) (eval (ifTest bo) (lawEnv w.params L)))
      (fun bb s' => Stp (bb = (le && fu) ∧ TS w g s0 L e b z far sp G gs kg W C cs kc rs rl pl put ex m key s')) NoE s := by
  obtain ⟨oB, oZ, oG, oW, oC, oP, oV, tb, tz, tv, n1, n2, vs, tG, tW, tC, tq, dB, dZ, dG, dW, dC, dP, dV, hvs, N⟩ := T.led hq
  have F := T.F
  have CX := I.cx.keeps (gz_some I.st)
  have X := CX.K
  obtain ⟨loose, mean, mg, mb, TT⟩ := CX.T
  unfold fullStm fullBody elseBody forBody lawBody lawOf at hbo
  conv at hbo => lhs; whnf
  subst hbo
  delta lawEnv
  generalize hsc : lawScope w.params = sc
  unfold lawScope lawOf at hsc
  conv at hsc => lhs; whnf
  subst hsc
  simp only [ledOf, List.cons_append, List.nil_append] at N
  obtain ⟨hp, gn, dr, tk, os⟩ := s
  have hos := T.os
  have hbare := T.bare
  dsimp only at F N hos hbare ⊢
  subst hos
  dsimp only [ifTest]
  walk_at "m:steps"
  all_goals refine ⟨⟨?_, T.toks⟩⟩
  all_goals simp [*]
set_option maxHeartbeats 4000000 in
theorem s_testL (I : LawIn w g s0 script ns) (T : TS w g s0 L e b z far sp G gs kg W C cs kc rs rl pl put ex m key s) {ql : B3} (hq : ql ∈ rs) {le : Bool} (hm1 : m (Str.ofString "let") = some (.bool le)) {bo : Stmt} (hbo : fullStm w.params 1 = bo) :
    wpAny (MM w) ((aM 10 10).deeper (lawEnv w.params L)) (isTrue (ifTest bo) (lawEnv w.params L) (eval (ifTest bo) (lawEnv w.params L)))
      (fun bb s' => Stp (bb = le ∧ TS w g s0 L e b z far sp G gs kg W C cs kc rs rl pl put ex m key s')) NoE s := by
  obtain ⟨oB, oZ, oG, oW, oC, oP, oV, tb, tz, tv, n1, n2, vs, tG, tW, tC, tq, dB, dZ, dG, dW, dC, dP, dV, hvs, N⟩ := T.led hq
  have F := T.F
  have CX := I.cx.keeps (gz_some I.st)
  have X := CX.K
  obtain ⟨loose, mean, mg, mb, TT⟩ := CX.T
  unfold fullStm fullBody elseBody forBody lawBody lawOf at hbo
  conv at hbo => lhs; whnf
  subst hbo
  delta lawEnv
  generalize hsc : lawScope w.params = sc
  unfold lawScope lawOf at hsc
  conv at hsc => lhs; whnf
  subst hsc
  simp only [ledOf, List.cons_append, List.nil_append] at N
  obtain ⟨hp, gn, dr, tk, os⟩ := s
  have hos := T.os
  have hbare := T.bare
  dsimp only at F N hos hbare ⊢
  subst hos
  dsimp only [ifTest]
  walk_at "m:steps"
  all_goals refine ⟨⟨?_, T.toks⟩⟩
  all_goals simp [*]
set_option maxHeartbeats 4000000 in
theorem s_testN (I : LawIn w g s0 script ns) (T : TS w g s0 L e b z far sp G gs kg W C cs kc rs rl pl put ex m key s) {ql : B3} (hq : ql ∈ rs) {n : Int} {tn : Tok} (hm1 : m (Str.ofString "number") = some (.int n tn)) {bo : Stmt} (hbo : forStm w.params 1 = bo) :
    wpAny (MM w) ((aM 10 10).deeper (lawEnv w.params L)) (isTrue (ifTest bo) (lawEnv w.params L) (eval (ifTest bo) (lawEnv w.params L)))
      (fun bb s' => Stp (bb = (Int.fmod n 4 == 3) ∧ TS w g s0 L e b z far sp G gs kg W C cs kc rs rl pl put ex m key s')) NoE s := by
  obtain ⟨oB, oZ, oG, oW, oC, oP, oV, tb, tz, tv, n1, n2, vs, tG, tW, tC, tq, dB, dZ, dG, dW, dC, dP, dV, hvs, N⟩ := T.led hq
  have F := T.F
  have CX := I.cx.keeps (gz_some I.st)
  have X := CX.K
  obtain ⟨loose, mean, mg, mb, TT⟩ := CX.T
  unfold forStm forBody lawBody lawOf at hbo
  conv at hbo => lhs; whnf
  subst hbo
  delta lawEnv
  generalize hsc : lawScope w.params = sc
  unfold lawScope lawOf at hsc
  conv at hsc => lhs; whnf
  subst hsc
  simp only [ledOf, List.cons_append, List.nil_append] at N
  obtain ⟨hp, gn, dr, tk, os⟩ := s
  have hos := T.os
  have hbare := T.bare
  dsimp only at F N hos hbare ⊢
  subst hos
  dsimp only [ifTest]
  walk_at "m:steps"
  all_goals subst_vars
  all_goals exact ⟨⟨rfl, T.toks⟩⟩
noncomputable def shortStm (P : Params) : Stmt := match ifBody (forStm P 1) with
  | x :: _ => x
  | _ => .Pass ⟨0, 0, 0, 0⟩
set_option maxHeartbeats 4000000 in
theorem s_testS (I : LawIn w g s0 script ns) (T : TS w g s0 L e b z far sp G gs kg W C cs kc rs rl pl put ex m key s) {ql : B3} (hq : ql ∈ rs) (hlen : rs.length < 100) (hrl : m (Str.ofString "row") = some (.ref rl)) {bo : Stmt} (hbo : shortStm w.params = bo) :
    wpAny (MM w) ((aM 10 10).deeper (lawEnv w.params L)) (isTrue (ifTest bo) (lawEnv w.params L) (eval (ifTest bo) (lawEnv w.params L)))
      (fun bb s' => Stp (bb = decide (rs.length < 3) ∧ TS w g s0 L e b z far sp G gs kg W C cs kc rs rl pl put ex m key s')) NoE s := by
  have hll : (refsOf rs).length = rs.length := List.length_map _
  have hrows : (refsOf rs).length < 1000 := by rw [hll]; omega
  obtain ⟨oB, oZ, oG, oW, oC, oP, oV, tb, tz, tv, n1, n2, vs, tG, tW, tC, tq, dB, dZ, dG, dW, dC, dP, dV, hvs, N⟩ := T.led hq
  have F := T.F
  have CX := I.cx.keeps (gz_some I.st)
  have X := CX.K
  obtain ⟨loose, mean, mg, mb, TT⟩ := CX.T
  unfold shortStm forStm forBody lawBody lawOf ifBody at hbo
  conv at hbo => lhs; whnf
  subst hbo
  delta lawEnv
  generalize hsc : lawScope w.params = sc
  unfold lawScope lawOf at hsc
  conv at hsc => lhs; whnf
  subst hsc
  simp only [ledOf, List.cons_append, List.nil_append] at N
  obtain ⟨hp, gn, dr, tk, os⟩ := s
  have hos := T.os
  have hbare := T.bare
  dsimp only at F N hos hbare ⊢
  subst hos
  dsimp only [ifTest]
  walk_at "m:steps"
  all_goals refine ⟨⟨?_, T.toks⟩⟩
  all_goals exact decide_eq_decide.mpr (by omega)
theorem s_ifR (I : LawIn w g s0 script ns) (T : TS w g s0 L e b z far sp G gs kg W C cs kc rs rl pl put ex m key s) {ql : B3} (hq : ql ∈ rs) (hlen : rs.length < 100) {n : Int} (M : Ms m n e sp rl) {le fu : Bool} (hm1 : m (Str.ofString "let") = some (.bool le)) (hm2 : m (Str.ofString "full") = some (.bool fu)) {bo : Stmt} (hbo : fullStm w.params 0 = bo) :
    wpAny (MM w) ((aM 10 10).deeper (lawEnv w.params L)) (exec bo (lawEnv w.params L))
      (fun fl s' => Stp (fl = .next ∧ ∃ rs', ((le && fu) = true → ∃ f, rs' = rs ++ [(f, 0, 0)]) ∧ ((le && fu) = false → rs' = rs) ∧ TS w g s0 L e b z far sp G gs kg W C cs kc rs' rl pl put ex m key s')) NoE s := by
  obtain ⟨te, he⟩ := M.e
  obtain ⟨_, _, _, hi, hb, hn, _⟩ := if3 w.params
  rw [hbo] at hi hb hn
  refine exec_if hi (wpAny_mono (s_testR I T hq hm1 hm2 hbo) ?_ fun _ _ e => e)
  rintro bb s1 ⟨⟨e1, T1⟩⟩
  rw [hb, hn]
  generalize k0 : rowStmB w.params = st0
  refine ⟨fun ht => wpAny_execs_cons (wpAny_mono (s_rowAppB I T1 hq hlen he M.sp M.rl k0) ?_ fun _ _ e => e), fun hf => wpAny_execs_nil ⟨⟨rfl, rs, fun h => (by rw [e1, h] at hf; cases hf), fun _ => rfl, T1⟩⟩⟩
  rintro fl s2 ⟨⟨rfl, f, T2⟩⟩
  exact wpAny_execs_nil ⟨⟨rfl, _, fun _ => ⟨f, rfl⟩, fun h => (by rw [e1, h] at ht; cases ht), T2⟩⟩
theorem s_ifL (I : LawIn w g s0 script ns) (T : TS w g s0 L e b z far sp G gs kg W C cs kc rs rl pl put ex m key s) {pre : List B3} {ql : B3} (hrs : rs = pre ++ [ql]) (hk : key.length ≤ sizeLine) (hkz : (key.length : Int) = z) {n : Int} (M : Ms m n e sp rl) {le : Bool} (hm1 : m (Str.ofString "let") = some (.bool le)) {bo : Stmt} (hbo : fullStm w.params 1 = bo) :
    wpAny (MM w) ((aM 10 10).deeper (lawEnv w.params L)) (exec bo (lawEnv w.params L))
      (fun fl s' => Stp (fl = .next ∧ TS w g s0 L e b z far sp G gs kg W C cs kc (if le = true then pre ++ [(ql.1, addm b ql.2.1 (spell far z key), ql.2.2 + 1)] else rs) rl pl put ex m key s')) NoE s := by
  have hq : ql ∈ rs := hrs ▸ List.mem_append_right _ (.head _)
  obtain ⟨_, _, _, _, _, _, hi, hb, hn⟩ := if3 w.params
  rw [hbo] at hi hb hn
  refine exec_if hi (wpAny_mono (s_testL I T hq hm1 hbo) ?_ fun _ _ e => e)
  rintro bb s1 ⟨⟨e1, T1⟩⟩
  rw [hb, hn]
  generalize k0 : lastStm w.params = st0
  refine ⟨fun ht => wpAny_execs_cons (wpAny_mono (s_last I T1 hrs hk hkz M.rl k0) ?_ fun _ _ e => e), fun hf => wpAny_execs_nil ⟨⟨rfl, ?_⟩⟩⟩
  · rintro fl s2 ⟨⟨rfl, T2⟩⟩
    rw [if_pos (e1 ▸ ht)]
    exact wpAny_execs_nil ⟨⟨rfl, T2⟩⟩
  · rw [if_neg (by rw [← e1, hf]; decide)]
    exact T1
theorem s_fullIf (I : LawIn w g s0 script ns) (T : TS w g s0 L e b z far sp G gs kg W C cs kc rs rl pl put ex m key s) {pre : List B3} {ql : B3} (hrs : rs = pre ++ [ql]) (hlen : rs.length < 50) (hk : key.length ≤ sizeLine) (hkz : (key.length : Int) = z) {gpre : List B3} {gql : B3} (hgs : gs = gpre ++ [gql]) (hglen : gs.length < 50)
    {n : Int} (M : Ms m n e sp rl) {fo le fu : Bool} (hm0 : m (Str.ofString "force") = some (.bool fo)) (hm1 : m (Str.ofString "let") = some (.bool le)) (hm2 : m (Str.ofString "full") = some (.bool fu)) (hsm : ∀ x ∈ cs, 0 ≤ x ∧ x < 1000) (hkc : 0 ≤ kc ∧ kc < 1000) (hput : put.length < 1000) {bo : Stmt} (hbo : elseStm w.params 3 = bo) :
    wpAny (MM w) ((aM 10 10).deeper (lawEnv w.params L)) (exec bo (lawEnv w.params L))
      (fun fl s' => Stp (fl = .next ∧ (((le && fu && ((rs.length : Int) == 3)) = true ∧ TS w g s0 L e b z far sp G gs kg W C cs kc rs rl pl put ex m key s') ∨
        ((le && fu && ((rs.length : Int) == 3)) = false ∧ ∃ gs' rs', gs'.map (·.2) = grows e b fo (spell far z key) (gpre.map (·.2)) gql.2 ∧ rs'.map (·.2) = rowS b le fu (spell far z key) (pre.map (·.2)) ql.2 ∧
          TS w g s0 L e b z far sp G gs' (kg + 1) (W.1, addm b W.2.1 (spell far z key), W.2.2 + 1) C (told b cs (spell far z key)) (kc + 1) rs' rl pl (put ++ [key]) ex m key s')))) NoE s := by
  have hq : ql ∈ rs := hrs ▸ List.mem_append_right _ (.head _)
  obtain ⟨hi, hb, hn, _⟩ := if3 w.params
  rw [hbo] at hi hb hn
  refine exec_if hi (wpAny_mono (s_testF I T hq (by omega) M hm1 hm2 hbo) ?_ fun _ _ e => e)
  rintro bb s1 ⟨⟨e1, T1⟩⟩
  rw [hb, hn]
  generalize k0 : fullStm w.params 0 = st0
  generalize k1 : fullStm w.params 1 = st1
  generalize k2 : lawTail w.params = bt
  refine ⟨fun ht => wpAny_execs_cons (wpAny_mono (s_ifR I T1 hq (by omega) M hm1 hm2 k0) ?_ fun _ _ e => e), fun hf => wpAny_execs_nil ⟨⟨rfl, .inl ⟨by rw [hf] at e1; exact (Bool.not_eq_false' _).mp e1.symm, T1⟩⟩⟩⟩
  have hno : (le && fu && ((rs.length : Int) == 3)) = false := by rw [ht] at e1; exact (Bool.not_eq_true' _).mp e1.symm
  rintro fl s2 ⟨⟨rfl, rs1, r1, r2, T2⟩⟩
  obtain ⟨pre1, ql1, h1, h2⟩ : ∃ pre1 ql1, rs1 = pre1 ++ [ql1] ∧ (if le = true then pre1 ++ [((ql1.1, addm b ql1.2.1 (spell far z key), ql1.2.2 + 1) : B3)] else rs1).map (·.2) = rowS b le fu (spell far z key) (pre.map (·.2)) ql.2 := by
    unfold rowS
    cases le with
    | false => exact ⟨pre, ql, (r2 rfl).trans hrs, by rw [r2 rfl, hrs]; simp⟩
    | true =>
      cases fu with
      | false => exact ⟨pre, ql, (r2 rfl).trans hrs, by simp⟩
      | true =>
        obtain ⟨f, hf⟩ := r1 rfl
        exact ⟨rs, (f, 0, 0), hf, by simp [hrs]⟩
  have hq1 : ql1 ∈ rs1 := h1 ▸ List.mem_append_right _ (.head _)
  refine wpAny_execs_cons (wpAny_mono (s_ifL I T2 h1 hk hkz M hm1 k1) ?_ fun _ _ e => e)
  rintro fl s3 ⟨⟨rfl, T3⟩⟩
  have hne : ∃ qr, qr ∈ (if le = true then pre1 ++ [((ql1.1, addm b ql1.2.1 (spell far z key), ql1.2.2 + 1) : B3)] else rs1) := by
    split
    · exact ⟨_, List.mem_append_right _ (.head _)⟩
    · exact ⟨_, hq1⟩
  obtain ⟨qr, hqr⟩ := hne
  refine wpAny_mono (s_tail I T3 hqr hk hkz hgs (by omega) M hm0 hsm hkc hput k2) ?_ fun _ _ e => e
  rintro fl s4 ⟨⟨rfl, gs', e4, T4⟩⟩
  exact ⟨⟨rfl, .inr ⟨hno, gs', _, e4, h2, T4⟩⟩⟩
end
end
example : True ∧ True := by walk1 <;> trivial
section
local macro_rules | `(tactic| walk_at "m:flush") => `(tactic| trivial)
example : True ∧ True := by walk1 <;> trivial
end
section
/-! the plain law: masks, places, counts -/
abbrev bt (m : Int) (k : Nat) : Bool := m.toNat.testBit k
abbrev plc (b x : Int) : Nat := (Int.fmod x b).toNat
theorem or_pp {x y : Int} (hx : 0 ≤ x) (hy : 0 ≤ y) : Builtin.bitOr x y = ((x.toNat ||| y.toNat : Nat) : Int) := by
  rw [bitOr_and, bitAnd_pp hx hy]
  have := nat_or_add_and x.toNat y.toNat
  omega
theorem one_shl (j : Nat) : (1 * 2 ^ j : Int) = ((2 ^ j : Nat) : Int) := by rw [Int.one_mul]; exact (Int.natCast_pow 2 j).symm
theorem bt_or {x y : Int} (hx : 0 ≤ x) (hy : 0 ≤ y) (k : Nat) : bt (Builtin.bitOr x y) k = (bt x k || bt y k) := by
  rw [or_pp hx hy]; show Nat.testBit (Int.toNat _) k = _
  rw [Int.toNat_natCast, Nat.testBit_or]
theorem bt_and {x y : Int} (hx : 0 ≤ x) (hy : 0 ≤ y) (k : Nat) : bt (Builtin.bitAnd x y) k = (bt x k && bt y k) := by
  rw [bitAnd_pp hx hy]; show Nat.testBit (Int.toNat _) k = _
  rw [Int.toNat_natCast, Nat.testBit_and]
theorem bt_one (j k : Nat) : bt (1 * 2 ^ j) k = decide (j = k) := by
  rw [one_shl]; show Nat.testBit (Int.toNat _) k = _
  rw [Int.toNat_natCast, Nat.testBit_two_pow]
theorem and_one {m : Int} (hm : 0 ≤ m) (j : Nat) : decide (Builtin.bitAnd m (1 * 2 ^ j) ≠ 0) = bt m j := by
  have h2 : (0 : Int) ≤ 1 * 2 ^ j := by rw [one_shl]; exact Int.natCast_nonneg _
  rw [bitAnd_pp hm h2, one_shl, Int.toNat_natCast]
  show _ = m.toNat.testBit j
  cases h : m.toNat.testBit j
  · have : m.toNat &&& 2 ^ j = 0 := Nat.eq_of_testBit_eq fun i => by
      rw [Nat.testBit_and, Nat.testBit_two_pow, Nat.zero_testBit]
      by_cases q : j = i
      · rw [← q, h]; rfl
      · rw [decide_eq_false q, Bool.and_false]
    rw [this]; rfl
  · refine decide_eq_true fun q => ?_
    have h3 : (m.toNat &&& 2 ^ j).testBit j = true := by rw [Nat.testBit_and, h, Nat.testBit_two_pow_self]; rfl
    rw [show m.toNat &&& 2 ^ j = 0 from Int.ofNat_eq_zero.mp q, Nat.zero_testBit] at h3
    cases h3
theorem chk_eq {b m : Int} (hm : 0 ≤ m) (xs : List Int) : chk b m xs = (xs.map (plc b)).all (bt m) := by
  unfold chk
  rw [List.all_map]
  congr 1
  funext x
  exact and_one hm _
theorem addm_nn {b : Int} : ∀ {xs : List Int} {m : Int}, 0 ≤ m → 0 ≤ addm b m xs
  | [], _, h => h
  | x :: xs, m, h => by
    show 0 ≤ addm b (Builtin.bitOr m (1 * 2 ^ plc b x)) xs
    refine addm_nn ?_
    rw [or_pp h (by rw [one_shl]; exact Int.natCast_nonneg _)]; exact Int.natCast_nonneg _
theorem bt_addm {b : Int} : ∀ {xs : List Int} {m : Int}, 0 ≤ m → ∀ k, bt (addm b m xs) k = (bt m k || (xs.map (plc b)).contains k)
  | [], _, _, _ => by simp [addm]
  | x :: xs, m, h, k => by
    have h2 : (0 : Int) ≤ 1 * 2 ^ plc b x := by rw [one_shl]; exact Int.natCast_nonneg _
    have h3 : 0 ≤ Builtin.bitOr m (1 * 2 ^ plc b x) := by rw [or_pp h h2]; exact Int.natCast_nonneg _
    show bt (addm b (Builtin.bitOr m (1 * 2 ^ plc b x)) xs) k = _
    have e1 : decide (plc b x = k) = (k == plc b x) := by
      by_cases q : plc b x = k
      · rw [decide_eq_true q, q]; exact (beq_self_eq_true k).symm
      · rw [decide_eq_false q]; exact (beq_eq_false_iff_ne.mpr (Ne.symm q)).symm
    rw [bt_addm h3, bt_or h h2, bt_one, List.map_cons, List.contains_cons, Bool.or_assoc, e1]
/-- a mask of B bits -/
def Mk (B : Nat) (m : Int) : Prop := 0 ≤ m ∧ m < ((2 ^ B : Nat) : Int)
theorem Mk.of {B : Nat} {m : Int} (h : 0 ≤ m) (hb : ∀ k, bt m k = true → k < B) : Mk B m := by
  refine ⟨h, ?_⟩
  have : m.toNat < 2 ^ B := Nat.lt_pow_two_of_testBit _ fun k hk => by
    cases q : m.toNat.testBit k with
    | false => rfl
    | true => exact absurd (hb k q) (by omega)
  omega
theorem Mk.bit {B : Nat} {m : Int} (h : Mk B m) {k : Nat} (hk : bt m k = true) : k < B := by
  obtain ⟨h1, h2⟩ := h
  by_cases hb : k < B
  · exact hb
  · have h3 : m.toNat < 2 ^ k := Nat.lt_of_lt_of_le (by omega) (Nat.pow_le_pow_right (by decide) (Nat.le_of_not_lt hb))
    have : m.toNat.testBit k = false := Nat.testBit_lt_two_pow h3
    rw [show bt m k = m.toNat.testBit k from rfl, this] at hk; cases hk
theorem Mk.small {e b z : Int} (hS : Sz e b z) {m : Int} (h : Mk b.toNat m) : 0 ≤ m ∧ m < 128 := by
  obtain ⟨h1, h2⟩ := h
  have := hS.b
  have h3 : (2 ^ b.toNat : Nat) ≤ 2 ^ 7 := Nat.pow_le_pow_right (by decide) (by omega)
  have : (2 ^ 7 : Nat) = 128 := by decide
  omega
theorem Mk.zero {B : Nat} : Mk B 0 := ⟨Int.le_refl _, Int.natCast_pos.mpr (Nat.two_pow_pos B)⟩
theorem Mk.add {b m : Int} {xs : List Int} (h : Mk b.toNat m) (hb : 0 < b) : Mk b.toNat (addm b m xs) := by
  refine Mk.of (addm_nn h.1) fun k hk => ?_
  rw [bt_addm h.1] at hk
  rcases Bool.or_eq_true_iff.mp hk with hk | hk
  · exact h.bit hk
  · obtain ⟨x, hx, rfl⟩ := List.mem_map.mp (List.contains_iff_mem.mp hk)
    have h1 := Int.fmod_nonneg_of_pos x hb
    have h2 := Int.fmod_lt_of_pos x hb
    show (Int.fmod x b).toNat < b.toNat
    omega
theorem told1_len {b : Int} {cs : List Int} {x : Int} : (told1 b cs x).length = cs.length := by unfold told1; simp
theorem told_len {b : Int} : ∀ {xs : List Int} {cs : List Int}, (told b cs xs).length = cs.length
  | [], _ => rfl
  | x :: xs, cs => by show (told b (told1 b cs x) xs).length = _; rw [told_len, told1_len]
theorem told_get {b : Int} : ∀ {xs : List Int} {cs : List Int} {k : Nat}, k < cs.length → (told b cs xs).getD k 0 = cs.getD k 0 + ((xs.map (plc b)).count k : Nat)
  | [], _, _, _ => by simp [told]
  | x :: xs, cs, k, h => by
    show (told b (told1 b cs x) xs).getD k 0 = _
    rw [told_get (by rw [told1_len]; exact h), List.map_cons, List.count_cons]
    unfold told1
    have e1 : (cs.set (Int.fmod x b).toNat (cnt b cs x + 1)).getD k 0 = if plc b x = k then cs.getD k 0 + 1 else cs.getD k 0 := by
      rw [List.getD_eq_getElem?_getD, List.getElem?_set]
      by_cases q : plc b x = k
      · rw [if_pos q, if_pos q, if_pos (by rw [show (Int.fmod x b).toNat = k from q]; exact h)]
        show cnt b cs x + 1 = _
        unfold cnt
        rw [show (Int.fmod x b).toNat = k from q]
      · rw [if_neg q, if_neg q, List.getD_eq_getElem?_getD]
    rw [e1]
    by_cases q : plc b x = k
    · rw [if_pos q, if_pos (by simp [q])]; omega
    · rw [if_neg q, if_neg (by simp [q])]; omega
/-- a word's places -/
def plw (b z n : Int) : List Nat := (List.range z.toNat).map fun i => lett b n i % b.toNat
theorem wd_len {b z n : Int} (hz : z = 1 ∨ z = 2) : ((wd b z n).length : Int) = z := by
  show ((wd b z n).cps.size : Int) = z
  unfold wd
  rw [List.size_toArray, List.length_map, List.length_range]
  omega
theorem pls_wd {b z n far : Int} (hb : 0 < b) (hz : z = 1 ∨ z = 2) (hf : ∃ q, far = b * q) : (spell far z (wd b z n)).map (plc b) = plw b z n := by
  obtain ⟨q, rfl⟩ := hf
  rw [spell_full (wd_len hz)]
  unfold wd plw
  rw [List.map_map, List.map_map]
  refine List.map_congr_left fun i _ => ?_
  show (Int.fmod ((lett b n i : Int) + b * q) b).toNat = _
  rw [Int.add_mul_fmod_self_left, Int.fmod_eq_emod_of_nonneg _ (Int.le_of_lt hb)]
  have : ((lett b n i : Int) % b) = ((lett b n i % b.toNat : Nat) : Int) := by
    rw [Int.natCast_emod, Int.toNat_of_nonneg (Int.le_of_lt hb)]
  rw [this, Int.toNat_natCast]
theorem plw_lt {b z n : Int} (hb : 0 < b) : ∀ k ∈ plw b z n, k < b.toNat := fun k hk => by
  obtain ⟨i, _, rfl⟩ := List.mem_map.mp hk
  exact Nat.mod_lt _ (by omega)
/-- how often the words told have a place -/
noncomputable def tally (b far z : Int) (put : List Str) (k : Nat) : Nat := (put.map fun w => ((spell far z w).map (plc b)).count k).sum
structure Good (b z far : Int) (ms : List Int) (M : Int) (cs : List Int) (put : List Str) : Prop where
  hm : ∀ m ∈ ms, Mk b.toNat m
  hM : Mk b.toNat M
  bit : ∀ k, bt M k = ms.any (bt · k)
  len : cs.length = b.toNat
  cnt : ∀ k, k < b.toNat → cs.getD k 0 = (tally b far z put k : Int)
  hit : ∀ k, k < b.toNat → (bt M k = true ↔ 0 < tally b far z put k)
  wrd : ∀ w ∈ put, ∃ n, w = wd b z n
section
variable {e b z far : Int} {ms pre : List Int} {M l : Int} {cs : List Int} {put : List Str} {n : Int}
theorem Good.zero (hb : 0 < b) : Good b z far [0] 0 (List.replicate b.toNat 0) [] := by
  refine ⟨fun m hm => ?_, Mk.zero, fun k => by simp [bt], by simp, fun k hk => ?_, fun k _ => by simp [bt, tally], fun _ h => absurd h List.not_mem_nil⟩
  · rw [List.mem_singleton.mp hm]; exact Mk.zero
  · rw [List.getD_eq_getElem?_getD, List.getElem?_replicate, if_pos hk]; rfl
theorem Good.push (G : Good b z far ms M cs put) : Good b z far (ms ++ [0]) M cs put := by
  refine ⟨fun m hm => ?_, G.hM, fun k => ?_, G.len, G.cnt, G.hit, G.wrd⟩
  · rcases List.mem_append.mp hm with hm | hm
    · exact G.hm m hm
    · rw [List.mem_singleton.mp hm]; exact Mk.zero
  · rw [G.bit, List.any_append]; simp [bt]
theorem tally_snoc {k : Nat} {w : Str} : tally b far z (put ++ [w]) k = tally b far z put k + ((spell far z w).map (plc b)).count k := by
  unfold tally
  rw [List.map_append, List.sum_append]; simp
theorem places_lt (hb : 0 < b) {xs : List Int} : ∀ k ∈ xs.map (plc b), k < b.toNat := fun k hk => by
  obtain ⟨x, hx, rfl⟩ := List.mem_map.mp hk
  have h1 := Int.fmod_nonneg_of_pos x hb
  have h2 := Int.fmod_lt_of_pos x hb
  show (Int.fmod x b).toNat < b.toNat
  omega
/-- a word that is told to the whole, its places in the row already -/
theorem Good.told (hb : 0 < b) {ms' : List Int} {xs : List Int} (G : Good b z far ms M cs put) (hx : xs = spell far z (wd b z n)) (h1 : ∀ m ∈ ms', Mk b.toNat m) (h2 : ∀ k, ms'.any (bt · k) = (ms.any (bt · k) || (xs.map (plc b)).contains k)) :
    Good b z far ms' (addm b M xs) (Mine.told b cs xs) (put ++ [wd b z n]) := by
  refine ⟨h1, G.hM.add hb, fun k => by rw [bt_addm G.hM.1, h2, G.bit], by rw [told_len, G.len], fun k hk => ?_, fun k hk => ?_, fun w hw => ?_⟩
  · rw [told_get (by rw [G.len]; exact hk), G.cnt k hk, tally_snoc, hx]; omega
  · rw [bt_addm G.hM.1, tally_snoc, ← hx, Bool.or_eq_true_iff, G.hit k hk, List.contains_iff_mem, ← List.count_pos_iff]; omega
  · rcases List.mem_append.mp hw with hw | hw
    · exact G.wrd w hw
    · exact ⟨n, List.mem_singleton.mp hw⟩
theorem any_set {pre : List Int} {l l' : Int} {ps : List Nat} (h : ∀ k, bt l' k = (bt l k || ps.contains k)) (k : Nat) : (pre ++ [l']).any (bt · k) = ((pre ++ [l]).any (bt · k) || ps.contains k) := by
  rw [List.any_append, List.any_append]
  simp only [List.any_cons, List.any_nil, Bool.or_false, h k, Bool.or_assoc]
theorem Good.in (hb : 0 < b) {xs : List Int} (G : Good b z far ms M cs put) (hx : xs = spell far z (wd b z n)) (hc : ms.any (fun m => chk b m xs) = true) :
    Good b z far ms (addm b M xs) (Mine.told b cs xs) (put ++ [wd b z n]) := by
  refine G.told hb hx G.hm fun k => ?_
  obtain ⟨m, hm, hc⟩ := List.any_eq_true.mp hc
  rw [chk_eq (G.hm m hm).1] at hc
  cases q : (xs.map (plc b)).contains k with
  | false => rw [Bool.or_false]
  | true =>
    rw [Bool.or_true]
    exact List.any_eq_true.mpr ⟨m, hm, List.all_eq_true.mp hc k (List.contains_iff_mem.mp q)⟩
theorem Good.last (hb : 0 < b) {xs : List Int} (G : Good b z far (pre ++ [l]) M cs put) (hx : xs = spell far z (wd b z n)) :
    Good b z far (pre ++ [addm b l xs]) (addm b M xs) (Mine.told b cs xs) (put ++ [wd b z n]) := by
  have hl := G.hm l (List.mem_append_right _ (.head _))
  refine G.told hb hx (fun m hm => ?_) (any_set fun k => bt_addm hl.1 k)
  rcases List.mem_append.mp hm with hm | hm
  · exact G.hm m (List.mem_append_left _ hm)
  · rw [List.mem_singleton.mp hm]; exact hl.add hb
/-- the plain state, with the counts -/
structure PS (e b z far : Int) (ps : List (Int × Int)) (M : Int) (cs : List Int) (put : List Str) : Prop where
  good : Good b z far (ps.map (·.1)) M cs put
  ne : ps ≠ []
  len : ps.length ≤ 3
  cnt : ∀ p ∈ ps, p.2 ≤ e
theorem PS.push (he : 0 ≤ e) {ps : List (Int × Int)} (P : PS e b z far ps M cs put) (h : ps.length < 3) : PS e b z far (ps ++ [(0, 0)]) M cs put := by
  refine ⟨by rw [List.map_append]; exact P.good.push, by simp, by rw [List.length_append]; simp; omega, fun p hp => ?_⟩
  rcases List.mem_append.mp hp with hp | hp
  · exact P.cnt p hp
  · rw [List.mem_singleton.mp hp]; exact he
theorem rows_grows {pre : List (Int × Int)} {l : Int × Int} {fo : Bool} {xs : List Int} (hl : l.2 ≤ e) : rowS b (fo || !((pre ++ [l]).any fun p => chk b p.1 xs)) (l.2 == e) xs pre l = grows e b fo xs pre l := by
  unfold rowS grows
  by_cases h : fo = true ∨ (pre ++ [l]).any (fun p => chk b p.1 xs) = false
  · rw [if_pos h, if_pos (by rcases h with h | h <;> simp [h])]
    by_cases q : l.2 = e
    · rw [if_pos (by simp [q]), if_neg (by omega)]
    · rw [if_neg (by simp [q]), if_pos (by omega)]
  · rw [if_neg h, if_neg (by
      obtain ⟨h1, h2⟩ := not_or.mp h
      simp only [Bool.not_eq_true, Bool.not_eq_false] at h1 h2
      rw [h1, h2]; decide)]
theorem PS.puts (hb : 0 < b) (he : 1 ≤ e) {pre : List (Int × Int)} {l : Int × Int} {fo : Bool} {xs : List Int} (P : PS e b z far (pre ++ [l]) M cs put) (hx : xs = spell far z (wd b z n))
    (h : ((fo || !((pre ++ [l]).any fun p => chk b p.1 xs)) && (l.2 == e) && (((pre ++ [l]).length : Int) == 3)) = false) : PS e b z far (grows e b fo xs pre l) (addm b M xs) (told b cs xs) (put ++ [wd b z n]) := by
  have hle := P.cnt l (List.mem_append_right _ (.head _))
  have hlen := P.len
  unfold grows
  split
  · rename_i h1
    have h2 : (fo || !((pre ++ [l]).any fun p => chk b p.1 xs)) = true := by rcases h1 with h1 | h1 <;> simp [h1]
    split
    · rename_i h3
      have G := P.good
      rw [List.map_append, List.map_cons, List.map_nil] at G
      refine ⟨by rw [List.map_append]; exact G.last hb hx, by simp, by rw [List.length_append] at hlen ⊢; simpa using hlen, fun p hp => ?_⟩
      rcases List.mem_append.mp hp with hp | hp
      · exact P.cnt p (List.mem_append_left _ hp)
      · rw [List.mem_singleton.mp hp]; show l.2 + 1 ≤ e; omega
    · rename_i h3
      have h4 : l.2 = e := by omega
      rw [h2, h4] at h
      have h5 : ((pre ++ [l]).length : Int) ≠ 3 := by simpa using h
      have G := P.good.push
      refine ⟨by rw [List.map_append]; exact G.last hb hx, by simp, by rw [List.length_append]; show (pre ++ [l]).length + 1 ≤ 3; omega, fun p hp => ?_⟩
      rcases List.mem_append.mp hp with hp | hp
      · exact P.cnt p hp
      · rw [List.mem_singleton.mp hp]; exact he
  · rename_i h1
    obtain ⟨_, h2⟩ := not_or.mp h1
    refine ⟨P.good.in hb hx ?_, P.ne, P.len, P.cnt⟩
    rw [List.any_map]
    exact (Bool.not_eq_false _).mp h2
end
end
example : True ∧ True := by walk1 <;> trivial
section
local macro_rules | `(tactic| walk_at "m:flush") => `(tactic| trivial)
example : True ∧ True := by walk1 <;> trivial
end
section
section
variable {w : World} {g : Heap} {s0 s : Shared} {L : Addr} {e b z far : Int} {sp : Addr} {G : Fa} {gs : List B3} {kg : Int} {W : B3} {C : Fa} {cs : List Int} {kc : Int} {rs : List B3} {rl pl : Addr} {put : List Str} {ex : List (Addr × Obj)} {m : Str → Option Value} {key : Str} {script : Addr} {ns : List Int}
theorem if1' (P : Params) : IsIf (forStm P 1) ∧ ifElse (forStm P 1) = [elseStm P 0, elseStm P 1, elseStm P 2, elseStm P 3] ∧ ifBody (forStm P 1) = [shortStm P] ∧ IsIf (shortStm P) ∧ ifBody (shortStm P) = [pushStm P, rowStmA P] ∧ ifElse (shortStm P) = [] := by
  obtain ⟨h1, h2, st, h3, h4, h5, h6⟩ := if1 P
  have h7 : shortStm P = st := by unfold shortStm; rw [h3]
  rw [h7, h2, else_eq, h3]
  exact ⟨h1, rfl, rfl, h4, h5, h6⟩
theorem s_short (I : LawIn w g s0 script ns) (T : TS w g s0 L e b z far sp G gs kg W C cs kc rs rl pl put ex m key s) {ql : B3} (hq : ql ∈ rs) (hlen : rs.length < 50) (hglen : gs.length < 50) {n : Int} (M : Ms m n e sp rl) {bo : Stmt} (hbo : shortStm w.params = bo) :
    wpAny (MM w) ((aM 10 10).deeper (lawEnv w.params L)) (exec bo (lawEnv w.params L))
      (fun fl s' => Stp (fl = .next ∧ ((rs.length < 3 ∧ ∃ f f', TS w g s0 L e b z far sp G (gs ++ [(f, 0, 0)]) kg W C cs kc (rs ++ [(f', 0, 0)]) rl pl put ex m key s') ∨ (¬ rs.length < 3 ∧ TS w g s0 L e b z far sp G gs kg W C cs kc rs rl pl put ex m key s')))) NoE s := by
  obtain ⟨te, he⟩ := M.e
  obtain ⟨_, _, _, hi, hb, hn⟩ := if1' w.params
  rw [hbo] at hi hb hn
  refine exec_if hi (wpAny_mono (s_testS I T hq (by omega) M.rl hbo) ?_ fun _ _ e => e)
  rintro bb s1 ⟨⟨e1, T1⟩⟩
  rw [hb, hn]
  generalize k0 : pushStm w.params = st0
  generalize k1 : rowStmA w.params = st1
  refine ⟨fun ht => wpAny_execs_cons (wpAny_mono (s_push I T1 hq (by omega) k0) ?_ fun _ _ e => e), fun hf => wpAny_execs_nil ⟨⟨rfl, .inr ⟨by simpa [hf] using e1, T1⟩⟩⟩⟩
  rintro fl s2 ⟨⟨rfl, f, T2⟩⟩
  refine wpAny_execs_cons (wpAny_mono (s_rowAppA I T2 hq (by omega) he M.sp M.rl k1) ?_ fun _ _ e => e)
  rintro fl s3 ⟨⟨rfl, f', T3⟩⟩
  exact wpAny_execs_nil ⟨⟨rfl, .inl ⟨by simpa [ht] using e1, f, f', T3⟩⟩⟩
/-- the local names that the loop keeps -/
structure Ks (m : Str → Option Value) (e : Int) (sp rl : Addr) : Prop where
  e : ∃ t, m (Str.ofString "elements") = some (.int e t)
  sp : m (Str.ofString "spelled") = some (.ref sp)
  rl : m (Str.ofString "row") = some (.ref rl)
theorem Ms.ks {n : Int} (x : Ms m n e sp rl) : Ks m e sp rl := ⟨x.e, x.sp, x.rl⟩
theorem tally_le (hz : z = 1 ∨ z = 2) {k : Nat} : ∀ {put : List Str}, (∀ w ∈ put, ∃ n, w = wd b z n) → tally b far z put k ≤ 2 * put.length
  | [], _ => by simp [tally]
  | w :: r, h => by
    obtain ⟨n, rfl⟩ := h w (.head _)
    have := tally_le hz (k := k) (put := r) fun x hx => h x (.tail _ hx)
    have h2 : ((spell far z (wd b z n)).map (plc b)).count k ≤ 2 := by
      refine Nat.le_trans List.count_le_length ?_
      rw [List.length_map]
      have := spell_len (far := far) (wd_len (b := b) (n := n) hz)
      omega
    show ((spell far z (wd b z n)).map (plc b)).count k + tally b far z r k ≤ _
    rw [List.length_cons]; omega
theorem Good.small (hz : z = 1 ∨ z = 2) {ms : List Int} {M : Int} (Gd : Good b z far ms M cs put) (h : put.length ≤ 100) : ∀ x ∈ cs, 0 ≤ x ∧ x < 1000 := fun x hx => by
  obtain ⟨i, hi, rfl⟩ := List.mem_iff_getElem.mp hx
  have := Gd.cnt i (Gd.len ▸ hi)
  rw [List.getD_eq_getElem?_getD, List.getElem?_eq_getElem hi] at this
  have h2 := tally_le (b := b) (far := far) hz (k := i) Gd.wrd
  simp only [Option.getD_some] at this
  omega
/-- between two turns, with the plain state -/
structure TJ (w : World) (g : Heap) (s0 : Shared) (L : Addr) (e b z far : Int) (sp : Addr) (G Wf C : Fa) (rl pl : Addr) (ex : List (Addr × Obj)) (i : Nat) (s : Shared) : Prop where
  it : ∃ gs m1 kw cs rs put m, T0 w g s0 L e b z far sp G gs (put.length : Int) (Wf, m1, kw) C cs (put.length : Int) rs rl pl put ex m s ∧ gs.map (·.2) = rs.map (·.2) ∧ PS e b z far (rs.map (·.2)) m1 cs put ∧ put.length ≤ i ∧ Ks m e sp rl
theorem snoc_of {α : Type} {l : List α} (h : l ≠ []) : ∃ p x, l = p ++ [x] := ⟨_, _, (List.dropLast_concat_getLast h).symm⟩
theorem s_turn (I : LawIn w g s0 script ns) {Wf : Fa} {m1 kw : Int} (T : T0 w g s0 L e b z far sp G gs (put.length : Int) (Wf, m1, kw) C cs (put.length : Int) rs rl pl put ex m s) (hgr : gs.map (·.2) = rs.map (·.2)) (Pp : PS e b z far (rs.map (·.2)) m1 cs put) {i : Nat} (hi : put.length ≤ i) (hi2 : i ≤ 50) {n : Int} (M : Ms m n e sp rl) (hfar : ∃ q, far = b * q) :
    wpAny (MM w) ((aM 10 10).deeper (lawEnv w.params L)) (execs (forBody w.params) (lawEnv w.params L)) (fun fl s' => Stp (fl = .next ∧ TJ w g s0 L e b z far sp G Wf C rl pl ex (i + 1) s')) NoE s := by
  have hS := T.X.hS
  have hz := hS.z
  have hb := hS.b
  have he := hS.e
  obtain ⟨tn, hn⟩ := M.n
  obtain ⟨te, hte⟩ := M.e
  have hrl : (rs.map (·.2)).length = rs.length := List.length_map _
  have hgl : gs.length = rs.length := by have := congrArg List.length hgr; simpa using this
  have hl3 := Pp.len
  obtain ⟨pre, ql, hrs⟩ := snoc_of (l := rs) fun h => Pp.ne (by rw [h]; rfl)
  obtain ⟨gpre, gql, hgs⟩ := snoc_of (l := gs) fun h => by rw [h] at hgl; rw [hrs] at hgl; simp at hgl
  have hq : ql ∈ rs := hrs ▸ List.mem_append_right _ (.head _)
  have hm : pre.map (·.2) = gpre.map (·.2) ∧ ql.2 = gql.2 := by
    rw [hgs, hrs, List.map_append, List.map_append] at hgr
    have := List.append_inj' hgr rfl
    exact ⟨this.1.symm, by simpa using this.2.symm⟩
  have hkz : ((wd b z (Int.fdiv n 8)).length : Int) = z := wd_len hz
  have hk : (wd b z (Int.fdiv n 8)).length ≤ sizeLine := Nat.le_trans (show _ ≤ 2 by omega) (by decide)
  obtain ⟨hiF, hn1, hb1, _⟩ := if1' w.params
  rw [for_eq]
  generalize k0 : forStm w.params 0 = st0
  generalize k1 : forStm w.params 1 = st1
  rw [k1] at hiF hn1 hb1
  refine wpAny_execs_cons (wpAny_mono (s_word I T hq hn k0) ?_ fun _ _ e => e)
  rintro fl s1 ⟨⟨rfl, T1⟩⟩
  refine wpAny_execs_cons (exec_if hiF (wpAny_mono (s_testN I T1 hq hn k1) ?_ fun _ _ e => e))
  rintro bb s2 ⟨⟨e2, T2⟩⟩
  rw [hn1, hb1]
  generalize q0 : shortStm w.params = u0
  generalize q1 : elseStm w.params 0 = u1
  generalize q2 : elseStm w.params 1 = u2
  generalize q3 : elseStm w.params 2 = u3
  generalize q4 : elseStm w.params 3 = u4
  refine ⟨fun ht => ?_, fun hf => ?_⟩
  · refine wpAny_execs_cons (wpAny_mono (s_short I T2 hq (by omega) (by omega) M q0) ?_ fun _ _ e => e)
    rintro fl s3 ⟨⟨rfl, T3⟩⟩
    refine wpAny_execs_nil (wpAny_execs_nil ⟨⟨rfl, ⟨?_⟩⟩⟩)
    rcases T3 with ⟨hl, f, f', T3⟩ | ⟨_, T3⟩
    · exact ⟨_, _, _, _, _, _, _, T3.t0, by rw [List.map_append, List.map_append, hgr]; rfl, by rw [List.map_append]; exact Pp.push (by omega) (by omega), by omega, M.ks⟩
    · exact ⟨_, _, _, _, _, _, _, T3.t0, hgr, Pp, by omega, M.ks⟩
  · refine wpAny_execs_cons (wpAny_mono (s_force I T2 hq hn q1) ?_ fun _ _ e => e)
    rintro fl s3 ⟨⟨rfl, T3⟩⟩
    have M3 := M.set (y := Str.ofString "force") (v := .bool (Int.fmod n 4 == 2)) (by decide) (by decide) (by decide) (by decide)
    refine wpAny_execs_cons (wpAny_mono (s_let I T3 hq (by omega) hk hkz (if_pos rfl) M3.rl q2) ?_ fun _ _ e => e)
    rintro fl s4 ⟨⟨rfl, le, hle, T4⟩⟩
    have M4 := M3.set (y := Str.ofString "let") (v := .bool le) (by decide) (by decide) (by decide) (by decide)
    obtain ⟨te4, hte4⟩ := M4.e
    refine wpAny_execs_cons (wpAny_mono (s_full I T4 hrs hte4 M4.rl q3) ?_ fun _ _ e => e)
    rintro fl s5 ⟨⟨rfl, T5⟩⟩
    have M5 := M4.set (y := Str.ofString "full") (v := .bool (ql.2.2 == e)) (by decide) (by decide) (by decide) (by decide)
    refine wpAny_execs_cons (wpAny_mono (s_fullIf I T5 hrs (by omega) hk hkz hgs (by omega) M5 ((if_neg (by decide)).trans ((if_neg (by decide)).trans (if_pos rfl))) ((if_neg (by decide)).trans (if_pos rfl)) (if_pos rfl) (Pp.good.small hz (by omega)) ⟨by omega, by omega⟩ (by omega) q4) ?_ fun _ _ e => e)
    rintro fl s6 ⟨⟨rfl, T6⟩⟩
    refine wpAny_execs_nil (wpAny_execs_nil ⟨⟨rfl, ⟨?_⟩⟩⟩)
    rcases T6 with ⟨_, T6⟩ | ⟨hno, gs', rs', h1, h2, T6⟩
    · exact ⟨_, _, _, _, _, _, _, T6.t0, hgr, Pp, by omega, M5.ks⟩
    · have hmp : rs.map (·.2) = pre.map (·.2) ++ [ql.2] := by rw [hrs]; simp
      rw [hmp] at Pp
      have hle' : le = ((Int.fmod n 4 == 2) || !((pre.map (·.2) ++ [ql.2]).any fun p => chk b p.1 (spell far z (wd b z (Int.fdiv n 8))))) := by
        rw [hle, ← hmp, List.any_map]; rfl
      have hcl := Pp.cnt ql.2 (List.mem_append_right _ (.head _))
      have h3 : rs'.map (·.2) = grows e b (Int.fmod n 4 == 2) (spell far z (wd b z (Int.fdiv n 8))) (pre.map (·.2)) ql.2 := by rw [h2, hle']; exact rows_grows hcl
      have h4 : ((put ++ [wd b z (Int.fdiv n 8)]).length : Int) = (put.length : Int) + 1 := by simp
      have P' := Pp.puts (by omega) (by omega) (fo := Int.fmod n 4 == 2) rfl (by
        rw [← hle']
        have : (((pre.map (·.2) ++ [ql.2]).length : Int) == 3) = ((rs.length : Int) == 3) := by rw [← hmp, List.length_map]
        rw [this]; exact hno)
      refine ⟨gs', _, _, _, rs', _, _, by rw [h4]; exact T6.t0, by rw [h1, h3, hm.1, hm.2], by rw [h3]; exact P', by simp; omega, M5.ks⟩
theorem T0.stab {h₀ : Heap} (T : T0 w g s0 L e b z far sp G gs kg W C cs kc rs rl pl put ex m s) (hb : ∀ b o, (gz g s0.heap).get? b = some o → h₀.get? b = some o) (hx : ∀ q ∈ ex, ¬ (ItO q.2 ∧ h₀.get? q.1 = none)) {h' : Heap} (k : ∀ c o, s.heap.get? c = some o → ¬ (ItO o ∧ h₀.get? c = none) → h'.get? c = some o) {tk : Nat} :
    T0 w g s0 L e b z far sp G gs kg W C cs kc rs rl pl put ex m { s with heap := h', toks := tk } := by
  refine ⟨T.X.stab ⟨_, T.F.ns⟩ hx k, ⟨T.F.ns.at' fun o e => k _ _ e fun q => ?_, fun b o e => k _ _ (T.F.keep _ _ e) fun q => no_both (hb _ _ e) q.2, T.F.above⟩, T.os, T.bare⟩
  obtain ⟨oL, es, ep, eL, dL, _⟩ := T.F.ns
  rw [e] at eL; cases eL
  exact not_it_data (o := o) (by rw [dL]; nofun) q.1
/-- one object more beside -/
theorem T0.addEx (T : T0 w g s0 L e b z far sp G gs kg W C cs kc rs rl pl put [] m s) (hx : ∀ q ∈ ex, s.heap.get? q.1 = some q.2 ∧ (ItO q.2 ∨ ∃ vs n, q.2 = PySem.W.listOf vs n)) (nd : (ex.map fun q => (q.1 : Nat)).Nodup)
    (h1 : ∀ q ∈ ex, (q.1 : Nat) ∉ ([G.l, rl, pl, C.l, W.1.l] : List Nat)) (h2 : ∀ q ∈ ex, ∀ f ∈ gs ++ rs, @Ne Nat f.1.l q.1) : T0 w g s0 L e b z far sp G gs kg W C cs kc rs rl pl put ex m s := ⟨T.X.addEx hx nd h1 h2, T.F, T.os, T.bare⟩
theorem T0.noEx (T : T0 w g s0 L e b z far sp G gs kg W C cs kc rs rl pl put ex m s) : T0 w g s0 L e b z far sp G gs kg W C cs kc rs rl pl put [] m s := ⟨T.X.noEx, T.F, T.os, T.bare⟩
theorem TJ.stab {h₀ : Heap} {Wf : Fa} {i : Nat} (T : TJ w g s0 L e b z far sp G Wf C rl pl ex i s) (hb : ∀ b o, (gz g s0.heap).get? b = some o → h₀.get? b = some o) (hx : ∀ q ∈ ex, ¬ (ItO q.2 ∧ h₀.get? q.1 = none)) {h' : Heap} (k : ∀ c o, s.heap.get? c = some o → ¬ (ItO o ∧ h₀.get? c = none) → h'.get? c = some o) {tk : Nat} :
    TJ w g s0 L e b z far sp G Wf C rl pl ex i { s with heap := h', toks := tk } := by
  obtain ⟨gs, m1, kw, cs, rs, put, m, T, r⟩ := T
  exact ⟨gs, m1, kw, cs, rs, put, m, T.stab hb hx k, r⟩
/-- an address that came after all that was -/
theorem new_rest {h₀ h' hp : Heap} {D : Addr} {o : Obj} {news news' : List (Addr × Obj)} (N : News h₀ L h' ((D, o) :: news)) (l : ∀ p ∈ news', p.1 < D) (sub : ∀ q ∈ restOf h₀ L hp, q ∈ news') : hp.get? D = none := by
  cases q : hp.get? D with
  | none => rfl
  | some o' =>
    obtain ⟨_, n1, n2⟩ := N (D, o) (.head _)
    exact absurd (l _ (sub _ (restOf_mem q n2 n1))) (Nat.lt_irrefl _)
theorem LS.fresh {D : Addr} (X : LS w g s.heap L e b z far sp G gs kg W C cs kc rs rl pl put []) (n : s.heap.get? D = none) : (D : Nat) ∉ ([G.l, rl, pl, C.l, W.1.l] : List Nat) ∧ ∀ f ∈ gs ++ rs, @Ne Nat f.1.l D := by
  refine ⟨fun hc => X.bl hc n, fun f hf q => ?_⟩
  rcases List.mem_append.mp hf with hf | hf
  · obtain ⟨_, _, o⟩ := (X.E.all f hf).l
    have := o.at_; rw [show f.1.l = D from q, n] at this; cases this
  · obtain ⟨_, _, o⟩ := (X.RB f hf).l
    have := o.at_; rw [show f.1.l = D from q, n] at this; cases this
noncomputable def lawStm (P : Params) (i : Nat) : Stmt := match (lawBody P).drop i with
  | x :: _ => x
  | _ => .Pass ⟨0, 0, 0, 0⟩
local macro_rules | `(tactic| walk_at "exec For") => `(tactic| (with_reducible refine stop_here ?_))
local macro_rules | `(tactic| walk_at "subscriptTail Name Slice ref ref") => `(tactic| ((with_reducible show wpAny _ _ (subscriptTail _ (PySem.Expr.Slice _ _ none _) (Value.ref _) (Value.ref _)) _ _ _); k_dflt (refine' kms_slice_lit ?F ?N ?l ?p ?q ?e ?_ ?s ?t ?z; (case F => k_asm); (case N => k_asm); (case l => exact Fr.lst (by k_asm) (by assumption)); (case p => kmk_part); (case q => kmk_part); (case e => assumption); (case s => with_unfolding_all rfl); (case t => kmk_pure); (case z => assumption)); intro D' h' F' N' l1; (try k_lt l1); (try k_sweep)))
noncomputable def forIter (P : Params) : PySem.Expr := match lawStm P 8 with
  | .For _ it _ _ _ => it
  | _ => .Name (Str.ofString "") ⟨0, 0, 0, 0⟩
theorem for8 (P : Params) : ∃ q p, lawStm P 8 = .For (.Name (Str.ofString "number") q) (forIter P) (forBody P) [] p ∧ ∀ env x, foldedSetIterable (forIter P) env x = pure x := by
  obtain ⟨q, it, bd, p, r, h, k⟩ : ∃ q it bd p r, (lawBody P).drop 8 = .For (.Name (Str.ofString "number") q) it bd [] p :: r ∧ ∀ env x, foldedSetIterable it env x = pure x := by
    unfold lawBody lawOf
    conv => enter [1, a, 1, b, 1, c, 1, d, 1, e, 1]; lhs; whnf
    exact ⟨_, _, _, _, _, rfl, fun _ _ => rfl⟩
  unfold forIter lawStm forBody
  rw [h]
  exact ⟨q, p, rfl, k⟩
theorem iter_end {D : Addr} {z1 : List Value} {t1 t2 : Tok} {n0 : Nat} (T : T0 w g s0 L e b z far sp G gs kg W C cs kc rs rl pl put [] m s) (h : s.heap.get? D = some (PySem.W.listOf (List.toArray (z1 ++ [.int 4 t1, .int 34 t2])) n0)) (f1 : (D : Nat) ∉ ([G.l, rl, pl, C.l, W.1.l] : List Nat)) (f2 : ∀ f ∈ gs ++ rs, @Ne Nat f.1.l D)
    (hzl : z1.length ≤ 6) (hzi : ∀ v ∈ z1, ∃ n t, v = Value.int n t) {d : Drawn} {t : Nat} : Stp (∃ D' items n, Value.ref D = .ref D' ∧ T0 w g s0 L e b z far sp G gs kg W C cs kc rs rl pl put [(D', PySem.W.listOf (List.toArray items) n)] m ⟨s.heap, s.gens, d, t, s.os⟩ ∧ items.length ≤ 8 ∧ ∀ v ∈ items, ∃ n t, v = Value.int n t) := by
  refine ⟨D, z1 ++ [.int 4 t1, .int 34 t2], n0, rfl, (T.addEx (ex := [(D, PySem.W.listOf (List.toArray (z1 ++ [.int 4 t1, .int 34 t2])) n0)]) (fun q hq => ?_) (List.nodup_cons.mpr ⟨List.not_mem_nil, List.nodup_nil⟩) (fun q hq => ?_) (fun q hq => ?_)).toks, by rw [List.length_append]; exact Nat.add_le_add hzl (Nat.le_refl 2), fun v hv => ?_⟩
  · rw [List.mem_singleton.mp hq]; exact ⟨h, .inr ⟨_, _, rfl⟩⟩
  · rw [List.mem_singleton.mp hq]; exact f1
  · rw [List.mem_singleton.mp hq]; exact f2
  · rcases List.mem_append.mp hv with hv | hv
    · exact hzi v hv
    · rcases List.mem_cons.mp hv with hh | hv
      · exact ⟨_, _, hh⟩
      · exact ⟨_, _, List.mem_singleton.mp hv⟩
set_option maxHeartbeats 4000000 in
theorem s_iter (I : LawIn w g s0 script ns) (T : T0 w g s0 L e b z far sp G gs kg W C cs kc rs rl pl put [] m s) {ql : B3} (hq : ql ∈ rs) (hsc : m (Str.ofString "script") = some (.ref script)) {bo : PySem.Expr} (hbo : forIter w.params = bo) :
    wpAny (MM w) ((aM 10 10).deeper (lawEnv w.params L)) (eval bo (lawEnv w.params L))
      (fun xv s' => Stp (∃ D items n, xv = .ref D ∧ T0 w g s0 L e b z far sp G gs kg W C cs kc rs rl pl put [(D, PySem.W.listOf (List.toArray items) n)] m s' ∧ items.length ≤ 8 ∧ ∀ v ∈ items, ∃ n t, v = Value.int n t)) NoE s := by
  obtain ⟨oB, oZ, oG, oW, oC, oP, tb, tz, n1, n2, vs, tG, tW, tC, tq, dB, dZ, dG, dW, dC, dP, hvs, N⟩ := T.X.led hq T.F
  obtain ⟨sv, hsl0, hsi⟩ := I.sc
  have hsl : (gz g s0.heap).IsList script sv.toArray := hsl0.at fun o e => gz_some I.st _ _ e
  have hsz : sv.toArray.size ≤ sizeLine := by
    rw [List.size_toArray, hsi.length]; exact Nat.le_trans I.len (by decide)
  obtain ⟨z1, hz1⟩ : ∃ z1, kms_pick sv.toArray.toList (some 1) (some 7) = z1 := ⟨_, rfl⟩
  have hzl : z1.length ≤ 6 := by rw [← hz1]; exact Nat.le_trans (List.length_take_le _ _) (by unfold kms_hi kms_lo; simp; omega)
  have hzi : ∀ v ∈ z1, ∃ n t, v = Value.int n t := fun v hv => by
    rw [← hz1] at hv
    have hv := List.mem_of_mem_drop (List.mem_of_mem_take hv)
    obtain ⟨i, hi, rfl⟩ := List.mem_iff_getElem.mp hv
    obtain ⟨t, h⟩ := IntsAre.int_at hsi i _ (List.getElem?_eq_getElem hi)
    exact ⟨_, t, h⟩
  have hzs : z1.length < 1000 := by omega
  have F := T.F
  have CX := I.cx.keeps (gz_some I.st)
  have X := CX.K
  obtain ⟨loose, mean, mg, mb, TT⟩ := CX.T
  unfold forIter lawStm lawBody lawOf at hbo
  conv at hbo => lhs; whnf
  subst hbo
  delta lawEnv
  generalize hsc : lawScope w.params = sc
  unfold lawScope lawOf at hsc
  conv at hsc => lhs; whnf
  subst hsc
  simp only [ledOf, List.cons_append, List.nil_append] at N
  obtain ⟨hp, gn, dr, tk, os⟩ := s
  have hos := T.os
  have hbare := T.bare
  dsimp only at F N hos hbare ⊢
  subst hos
  walk_at "m:steps"
  (rename Fr _ _ _ _ => F2); (rename News _ _ _ _ => N2); (rename Stp _ => lS)
  have T2 := T.seg (d := dr) (t := 0) F2 N2 (by walk_at "m:rest") hbare
  have hD := new_rest (hp := hp) N2 lS.p (by walk_at "m:rest")
  have k2 := keep_rest F2 N2 T.F.keep (by walk_at "m:rest")
  obtain ⟨f1, f2⟩ := T.X.fresh hD
  exact ⟨(iter_end T2 (N2 _ (.head _)).1 f1 f2 hzl hzi).p⟩
theorem T0.dropEx {q : Addr × Obj} (T : T0 w g s0 L e b z far sp G gs kg W C cs kc rs rl pl put (q :: ex) m s) : T0 w g s0 L e b z far sp G gs kg W C cs kc rs rl pl put ex m s := by
  have sub : List.Sublist (G.l :: rl :: pl :: C.l :: W.1.l :: ex.map (·.1) : List Nat) (G.l :: rl :: pl :: C.l :: W.1.l :: (q :: ex).map (·.1) : List Nat) :=
    .cons_cons _ (.cons_cons _ (.cons_cons _ (.cons_cons _ (.cons_cons _ (.cons _ (.refl _))))))
  have X := T.X
  exact ⟨⟨X.hS, X.S, X.E, X.WB, X.CC, X.RB, X.hrl, X.hpl, X.cells, X.t1, X.t2, X.t3, fun r hr => X.xs r (.tail _ hr), ⟨X.al.hh.sublist sub, fun f hf hc => X.al.g f hf (sub.subset hc), fun f hf hc => X.al.r f hf (sub.subset hc), X.al.gr, X.al.gg, X.al.rr⟩, X.ad⟩, T.F, T.os, T.bare⟩
theorem T0.set (T : T0 w g s0 L e b z far sp G gs kg W C cs kc rs rl pl put ex m s) {h' : Heap} {m' : Str → Option Value} (hn : h'.Ns L m') (hs : Heap.SameBut L s.heap h') {t : Nat} : T0 w g s0 L e b z far sp G gs kg W C cs kc rs rl pl put ex m' { s with heap := h', toks := t } :=
  ⟨T.X.seg ⟨_, T.F.ns⟩ fun c o n e => (hs.2 c n).trans e, T.F.set hn hs, T.os, T.bare⟩
theorem s_for (I : LawIn w g s0 script ns) {Wf r0 f0 : Fa} (T : T0 w g s0 L e b z far sp G [(f0, 0, 0)] 0 (Wf, 0, 0) C (List.replicate b.toNat 0) 0 [(r0, 0, 0)] rl pl [] [] m s) (K : Ks m e sp rl) (hsc : m (Str.ofString "script") = some (.ref script)) (hfar : ∃ q, far = b * q) {bo : Stmt} (hbo : lawStm w.params 8 = bo) :
    wpAny (MM w) ((aM 10 10).deeper (lawEnv w.params L)) (exec bo (lawEnv w.params L))
      (fun fl s' => Stp (fl = .next ∧ TJ w g s0 L e b z far sp G Wf C rl pl [] 8 s')) NoE s := by
  have hS := T.X.hS
  have hb := hS.b
  have he := hS.e
  obtain ⟨q, p, h8, hfs⟩ := for8 w.params
  rw [h8] at hbo
  subst hbo
  generalize q0 : forIter w.params = it at hfs
  generalize q1 : forBody w.params = bd
  refine for_list rfl (fun x => hfs _ x) (fun _ _ => rfl) (wpAny_mono (s_iter I T (.head _) hsc q0) ?_ fun _ _ e => e)
  rintro xv s2 ⟨⟨D, items, n0, rfl, T2, hlen, hint⟩⟩
  have hD2 := T2.X.xs _ (.head _)
  have oD : ¬ ItO (PySem.W.listOf (List.toArray items) n0) := not_it_data nofun
  have nD := T2.X.al.hh
  refine ⟨D, items.toArray, TJ w g s0 L e b z far sp G Wf C rl pl [(D, PySem.W.listOf (List.toArray items) n0)], rfl, ⟨_, hD2.1, rfl, _, rfl⟩, ?_, ?_, ?_, ?_⟩
  · intro i s' h' tk J k
    exact J.stab T2.F.keep (fun q hq hc => oD (by rw [List.mem_singleton.mp hq] at hc; exact hc.1)) k
  · exact ⟨_, _, _, _, _, [], _, T2, rfl, ⟨Good.zero (by omega), by simp, by simp, fun p hp => by rw [List.mem_singleton.mp hp]; show (0 : Int) ≤ e; omega⟩, Nat.le_refl 0, K⟩
  · intro I' i v s' hv J hI hl
    obtain ⟨gs, m1, kw, cs, rs, put, m, T', h1, h2, h3, h4⟩ := J
    have hv2 : items[i]? = some v := by rw [← List.getElem?_toArray]; exact hv
    have hi : i < items.length := (List.getElem?_eq_some_iff.mp hv2).1
    obtain ⟨n, tn, rfl⟩ : ∃ n t, v = Value.int n t := hint v (List.mem_of_getElem? hv2)
    obtain ⟨oI, eI, cI, dI⟩ := id hI
    have nI : ∀ {a : Addr} {o : Obj}, s'.heap.get? a = some o → (∀ fs, o.data ≠ .fields fs) → @Ne Nat a I' := fun e1 n1 q => by
      rw [show _ = I' from q, eI] at e1; cases e1; exact n1 _ dI
    have hD' := T'.X.xs _ (.head _)
    have T3 : T0 w g s0 L e b z far sp G gs (put.length : Int) (Wf, m1, kw) C cs (put.length : Int) rs rl pl put [(I', oI), (D, PySem.W.listOf (List.toArray items) n0)] m s' := by
      have hh := T'.X.al.hh
      have hg := fun {q} hq => LS.mem1 T'.X.al (q := q) hq
      have hr := fun {q} hq => LS.mem2 T'.X.al (q := q) hq
      simp only [List.nodup_cons, List.mem_cons, List.map_cons, List.map_nil, List.not_mem_nil, or_false, not_or] at hh hg hr
      refine T'.noEx.addEx (fun q hq => ?_) (nodup_cons' (fun c hc => ?_) (nodup_cons' (fun c hc => absurd hc List.not_mem_nil) List.nodup_nil)) (fun q hq => ?_) (fun q hq f hf => ?_)
      · rcases List.mem_cons.mp hq with hq | hq
        · rw [hq]; exact ⟨eI, .inl (.inl ⟨cI, _, _, dI⟩)⟩
        · exact T'.X.xs q hq
      · rw [List.mem_singleton.mp hc]; exact (nI hD'.1 (fun _ => nofun)).symm
      · rcases List.mem_cons.mp hq with hq | hq
        · rw [hq]
          intro hc
          simp only [List.mem_cons, List.not_mem_nil, or_false] at hc
          rcases hc with hc | hc | hc | hc | hc
          · obtain ⟨_, o⟩ := T'.X.E.l; exact nI o.at_ (fun _ => nofun) hc.symm
          · obtain ⟨_, o⟩ := T'.X.hrl; exact nI o.at_ (fun _ => nofun) hc.symm
          · obtain ⟨_, _, o, _⟩ := T'.X.hpl; exact nI o.at_ (fun _ => nofun) hc.symm
          · obtain ⟨_, _, o, _⟩ := T'.X.CC.l; exact nI o.at_ (fun _ => nofun) hc.symm
          · obtain ⟨_, _, o⟩ := T'.X.WB.l; exact nI o.at_ (fun _ => nofun) hc.symm
        · rw [List.mem_singleton.mp hq]
          intro hc
          simp only [List.mem_cons, List.not_mem_nil, or_false] at hc
          rcases hc with hc | hc | hc | hc | hc
          · exact hh.1.2.2.2.2 hc.symm
          · exact hh.2.1.2.2.2 hc.symm
          · exact hh.2.2.1.2.2 hc.symm
          · exact hh.2.2.2.1.2 hc.symm
          · exact hh.2.2.2.2.1 hc.symm
      · rcases List.mem_cons.mp hq with hq | hq
        · rw [hq]
          rcases List.mem_append.mp hf with hf | hf
          · obtain ⟨_, _, o⟩ := (T'.X.E.all f hf).l; exact nI o.at_ (fun _ => nofun)
          · obtain ⟨_, _, o⟩ := (T'.X.RB f hf).l; exact nI o.at_ (fun _ => nofun)
        · rw [List.mem_singleton.mp hq]
          rcases List.mem_append.mp hf with hf | hf
          · exact (hg hf).2.2.2.2.2
          · exact (hr hf).2.2.2.2.2
    have K' := h4
    refine assign_Name (wpAny_storeName_local rfl T3.F.ns (fun h' hn hs => ?_) rfl)
    have T4 := T3.set hn hs (t := s'.toks + 1)
    have M : Ms (fun y => if y = Str.ofString "number" then some (Value.int n tn) else m y) n e sp rl := ⟨⟨tn, if_pos rfl⟩, let ⟨t, h⟩ := K'.e; ⟨t, (if_neg (by decide)).trans h⟩, (if_neg (by decide)).trans K'.sp, (if_neg (by decide)).trans K'.rl⟩
    rw [← q1]
    refine wpAny_mono (s_turn I T4 h1 h2 h3 (by omega) M hfar) ?_ fun _ _ e => e
    rintro fl s5 ⟨⟨rfl, ⟨gs', m1', kw', cs', rs', put', m', T5, g1, g2, g3, g4⟩⟩⟩
    exact ⟨⟨rfl, ⟨gs', m1', kw', cs', rs', put', m', T5.dropEx, g1, g2, g3, g4⟩, ⟨oI, (T5.X.xs _ (.head _)).1, cI, dI⟩, ⟨_, (T5.X.xs _ (.tail _ (.head _))).1, rfl, _, rfl⟩⟩⟩
  · intro s' ⟨gs, m1, kw, cs, rs, put, m, T', h1, h2, h3, h4⟩ _
    exact ⟨⟨rfl, ⟨gs, m1, kw, cs, rs, put, m, T'.noEx, h1, h2, Nat.le_trans h3 (by rw [List.size_toArray]; exact hlen), h4⟩⟩⟩
end
end
example : True ∧ True := by walk1 <;> trivial
section
local macro_rules | `(tactic| walk_at "m:flush") => `(tactic| trivial)
example : True ∧ True := by walk1 <;> trivial
end
section
section
variable {w : World} {g : Heap} {s0 s : Shared} {L : Addr} {e b z far : Int} {sp : Addr} {G : Fa} {gs : List B3} {kg : Int} {W : B3} {C : Fa} {cs : List Int} {kc : Int} {rs : List B3} {rl pl : Addr} {put : List Str} {ex : List (Addr × Obj)} {m : Str → Option Value} {key : Str} {script : Addr} {ns : List Int} {cv cv' : List (Nat × Value)} {xs : List (Addr × Obj)}
/-- what lies beside: no table, no cell -/
def Xo (o : Obj) : Prop := o.cls ≠ .none ∧ ∀ v, o.data ≠ .cell v
/-- the state behind the loop: all filters stand -/
structure US (w : World) (g : Heap) (s0 : Shared) (L : Addr) (e b z far : Int) (sp : Addr) (G : Fa) (gs : List B3) (kg : Int) (W : B3) (C : Fa) (cs : List Int) (kc : Int) (rs : List B3) (rl pl : Addr) (put : List Str) (m : Str → Option Value) (cv : List (Nat × Value)) (xs : List (Addr × Obj)) (s : Shared) : Prop where
  X : LS w g s.heap L e b z far sp G gs kg W C cs kc rs rl pl put []
  F : Fr (gz g s0.heap) L s.heap m
  cv : ∀ q ∈ cv, 8 ≤ q.1 ∧ q.1 ≤ 13 ∧ s.heap.IsCell (L + q.1) (some q.2)
  xs : ∀ q ∈ xs, s.heap.get? q.1 = some q.2 ∧ Xo q.2 ∧ @Ne Nat q.1 L ∧ (gz g s0.heap).get? q.1 = none
  os : s.os = s0.os
  bare : AllBare s.gens
theorem T0.us (T : T0 w g s0 L e b z far sp G gs kg W C cs kc rs rl pl put [] m s) : US w g s0 L e b z far sp G gs kg W C cs kc rs rl pl put m [] [] s := ⟨T.X, T.F, fun _ h => absurd h List.not_mem_nil, fun _ h => absurd h List.not_mem_nil, T.os, T.bare⟩
theorem US.toks (U : US w g s0 L e b z far sp G gs kg W C cs kc rs rl pl put m cv xs s) {d : Drawn} {t : Nat} : US w g s0 L e b z far sp G gs kg W C cs kc rs rl pl put m cv xs ⟨s.heap, s.gens, d, t, s.os⟩ := ⟨U.X, U.F, U.cv, U.xs, U.os, U.bare⟩
theorem US.af (U : US w g s0 L e b z far sp G gs kg W C cs kc rs rl pl put m cv xs s) {s' : Shared} (af : Af [] s s') : US w g s0 L e b z far sp G gs kg W C cs kc rs rl pl put m cv xs s' :=
  ⟨U.X.af af, fr_af U.F af, fun q hq => let ⟨a, c, x⟩ := U.cv q hq; ⟨a, c, cell_off x af fun _ h => absurd h List.not_mem_nil⟩, fun q hq => let ⟨a, r⟩ := U.xs q hq; ⟨af.keep _ _ a List.not_mem_nil, r⟩, af.os.trans U.os, af.gens U.bare⟩
theorem US.seg (U : US w g s0 L e b z far sp G gs kg W C cs kc rs rl pl put m cv xs s) {h' : Heap} {m' : Str → Option Value} {news : List (Addr × Obj)} (F' : Fr (gz g s0.heap) L h' m') (N' : News (gz g s0.heap) L h' news) (sub : ∀ q ∈ restOf (gz g s0.heap) L s.heap, q ∈ news) {gn : Array GenState} (hb : AllBare gn) {d : Drawn} {t : Nat} :
    US w g s0 L e b z far sp G gs kg W C cs kc rs rl pl put m' cv xs ⟨h', gn, d, t, s0.os⟩ := by
  have k := keep_rest F' N' U.F.keep sub
  refine ⟨U.X.seg ⟨_, U.F.ns⟩ k, F', fun q hq => ?_, fun q hq => let ⟨a, c, n, r⟩ := U.xs q hq; ⟨k _ _ n a, c, n, r⟩, rfl, hb⟩
  obtain ⟨a, c, o, e1, d1⟩ := U.cv q hq
  exact ⟨a, c, o, k _ _ (Nat.ne_of_gt (Nat.lt_add_of_pos_right (k := q.1) (by omega))) e1, d1⟩
theorem US.led (U : US w g s0 L e b z far sp G gs kg W C cs kc rs rl pl put m cv xs s) {ql : B3} (hq : ql ∈ rs) :
    ∃ oB oZ oG oW oC oP tb tz n1 n2 vs tG tW tC tq, oB.data = .cell (some (.int b tb)) ∧ oZ.data = .cell (some (.int z tz)) ∧ oG.data = .cell (some (.ref G.x)) ∧ oW.data = .cell (some (.ref W.1.x)) ∧ oC.data = .cell (some (.ref C.x)) ∧ oP.data = .cell (some (.ref pl)) ∧ StrsAre vs put ∧
      News (gz g s0.heap) L s.heap (xs ++ (ledOf w L e b z sp G.x W.1.x C.x rl pl G.d W.1.d C.d G.l W.1.l C.l oB oZ oG oW oC oP tG tW tC tq kg W.2.2 kc rs ql n1 n2 vs ++ restOf (gz g s0.heap) L s.heap)) := by
  obtain ⟨oB, oZ, oG, oW, oC, oP, tb, tz, n1, n2, vs, tG, tW, tC, tq, d1, d2, d3, d4, d5, d6, hvs, N⟩ := U.X.led hq U.F
  refine ⟨oB, oZ, oG, oW, oC, oP, tb, tz, n1, n2, vs, tG, tW, tC, tq, d1, d2, d3, d4, d5, d6, hvs, fun q hq => ?_⟩
  rcases List.mem_append.mp hq with hq | hq
  · obtain ⟨a, _, n, r⟩ := U.xs q hq
    exact ⟨a, n, r⟩
  · exact N q hq
/-- a cell's place in the ledger -/
theorem US.cellAt (U : US w g s0 L e b z far sp G gs kg W C cs kc rs rl pl put m cv xs s) {j : Nat} {v : Value} (hq : (j, v) ∈ cv) : ∃ o, o.data = .cell (some v) ∧ s.heap.get? (L + j) = some o ∧ @Ne Nat (L + j) L ∧ (gz g s0.heap).get? (L + j) = none := by
  obtain ⟨a, c, o, e1, d1⟩ := U.cv _ hq
  exact ⟨o, d1, e1, Nat.ne_of_gt (Nat.lt_add_of_pos_right (k := j) (by omega)), Heap.get?_none_of_le (Nat.le_trans U.F.above (Nat.le_add_right L j))⟩
/-- an object more beside -/
theorem US.obj (U : US w g s0 L e b z far sp G gs kg W C cs kc rs rl pl put m cv xs s) {a : Addr} {o : Obj} {news : List (Addr × Obj)} (N : News (gz g s0.heap) L s.heap news) (hm : (a, o) ∈ news) (k : Xo o) : US w g s0 L e b z far sp G gs kg W C cs kc rs rl pl put m cv ((a, o) :: xs) s :=
  ⟨U.X, U.F, U.cv, fun q hq => by
    rcases List.mem_cons.mp hq with hh | hq
    · subst hh; exact ⟨(N _ hm).1, k, (N _ hm).2⟩
    · exact U.xs q hq, U.os, U.bare⟩
/-- a cell was written -/
theorem US.cell (U : US w g s0 L e b z far sp G gs kg W C cs kc rs rl pl put m cv xs s) {j : Nat} (j1 : 8 ≤ j) (j2 : j ≤ 13) {v : Value} {h' : Heap} (hs : Heap.SameBut (L + j) s.heap h') (hv : h'.IsCell (L + j) (some v)) (sub : ∀ q ∈ cv', q = (j, v) ∨ (q ∈ cv ∧ q.1 ≠ j)) {d : Drawn} {t : Nat} :
    US w g s0 L e b z far sp G gs kg W C cs kc rs rl pl put m cv' xs ⟨h', s.gens, d, t, s.os⟩ := by
  refine ⟨U.X.cell ⟨_, U.F.ns⟩ (by omega) j2 (fun c o n e1 => (hs.2 c n).trans e1) hv, fr_cell U.F (by omega) hs, fun q hq => ?_, fun q hq => ?_, U.os, U.bare⟩
  · rcases sub q hq with hh | ⟨hq, n⟩
    · subst hh; exact ⟨j1, j2, hv⟩
    · obtain ⟨a, c, o, e1, d1⟩ := U.cv q hq
      exact ⟨a, c, o, (hs.2 _ (fun q => n (Nat.add_left_cancel q))).trans e1, d1⟩
  · obtain ⟨a, c, r⟩ := U.xs q hq
    obtain ⟨v0, o0, e0, d0⟩ := U.X.cells.ce j (by omega) j2
    refine ⟨(hs.2 _ (fun q => ?_)).trans a, c, r⟩
    rw [q, e0] at a; cases a
    exact c.2 _ d0
/-- a cell's new value -/
def setc (j : Nat) (v : Value) (cv : List (Nat × Value)) : List (Nat × Value) := (j, v) :: cv.filter fun q => q.1 != j
theorem US.setc (U : US w g s0 L e b z far sp G gs kg W C cs kc rs rl pl put m cv xs s) {j : Nat} (j1 : 8 ≤ j) (j2 : j ≤ 13) {v : Value} {h' : Heap} (hs : Heap.SameBut (L + j) s.heap h') (hv : h'.IsCell (L + j) (some v)) {d : Drawn} {t : Nat} :
    US w g s0 L e b z far sp G gs kg W C cs kc rs rl pl put m (Mine.setc j v cv) xs ⟨h', s.gens, d, t, s.os⟩ := U.cell j1 j2 hs hv fun q hq => by
  rcases List.mem_cons.mp hq with h | hq
  · exact .inl h
  · obtain ⟨h1, h2⟩ := List.mem_filter.mp hq
    exact .inr ⟨h1, by simpa using h2⟩
theorem US.led0 (U : US w g s0 L e b z far sp G gs kg W C cs kc rs rl pl put m cv xs s) {ql : B3} (hq : ql ∈ rs) :
    ∃ oB oZ oG oW oC oP tb tz n1 n2 vs tG tW tC tq, oB.data = .cell (some (.int b tb)) ∧ oZ.data = .cell (some (.int z tz)) ∧ oG.data = .cell (some (.ref G.x)) ∧ oW.data = .cell (some (.ref W.1.x)) ∧ oC.data = .cell (some (.ref C.x)) ∧ oP.data = .cell (some (.ref pl)) ∧ StrsAre vs put ∧
      News (gz g s0.heap) L s.heap (ledOf w L e b z sp G.x W.1.x C.x rl pl G.d W.1.d C.d G.l W.1.l C.l oB oZ oG oW oC oP tG tW tC tq kg W.2.2 kc rs ql n1 n2 vs ++ restOf (gz g s0.heap) L s.heap) := U.X.led hq U.F
theorem US.item (U : US w g s0 L e b z far sp G gs kg W C cs kc rs rl pl put m cv xs s) {a : Addr} {o : Obj} {news : List (Addr × Obj)} (N : News (gz g s0.heap) L s.heap news) (hm : (a, o) ∈ xs) : News (gz g s0.heap) L s.heap ((a, o) :: news) :=
  let ⟨e1, _, n, r⟩ := U.xs _ hm; news_one N e1 n r
/-- all but the frame stood still -/
theorem US.sub (U : US w g s0 L e b z far sp G gs kg W C cs kc rs rl pl put m cv xs s) {xs' : List (Addr × Obj)} (h : ∀ q ∈ xs', q ∈ xs) {cv' : List (Nat × Value)} (h2 : ∀ q ∈ cv', q ∈ cv) : US w g s0 L e b z far sp G gs kg W C cs kc rs rl pl put m cv' xs' s :=
  ⟨U.X, U.F, fun q hq => U.cv q (h2 q hq), fun q hq => U.xs q (h q hq), U.os, U.bare⟩
set_option maxHeartbeats 4000000 in
theorem u_9 (I : LawIn w g s0 script ns) (U : US w g s0 L e b z far sp G gs kg W C cs kc rs rl pl put m [] [] s) {ql : B3} (hq : ql ∈ rs) (hrl : m (Str.ofString "row") = some (.ref rl)) (h1 : gs.length = rs.length) (h2 : rs.length ≤ 3) (h3 : kg = put.length) (h4 : put.length ≤ 8) {bo : Stmt} (hbo : lawStm w.params 9 = bo) :
    wpAny (MM w) ((aM 10 10).deeper (lawEnv w.params L)) (exec bo (lawEnv w.params L)) (fun fl s' => Stp (fl = .next ∧ US w g s0 L e b z far sp G gs kg W C cs kc rs rl pl put m [] [] s')) NoE s := by
  obtain ⟨oB, oZ, oG, oW, oC, oP, tb, tz, n1, n2, vs, tG, tW, tC, tq, dB, dZ, dG, dW, dC, dP, hvs, N⟩ := U.led hq
  obtain ⟨nG, oGl⟩ := U.X.E.l
  obtain ⟨gl, hgl⟩ : ∃ gl, gl = gs.map fun (q : Fa × Int × Int) => Value.ref q.1.x := ⟨_, rfl⟩
  have hlg : gl.length = gs.length := by rw [hgl, List.length_map]
  rw [← hgl] at oGl
  replace N := news_one N oGl.at_ (ns_ne U.F.ns oGl.at_ nofun) (gz_none oGl.new)
  have hlr : (refsOf rs).length = rs.length := List.length_map _
  have k1 : (refsOf rs).length < 1000 := by omega
  have k2 : gl.length < 1000 := by omega
  have hvl := hvs.length
  have k3 : vs.length < 1000 := by omega
  have hqn : 0 < rs.length := List.length_pos_of_mem hq
  have F := U.F
  have CX := I.cx.keeps (gz_some I.st)
  have X := CX.K
  obtain ⟨loose, mean, mg, mb, TT⟩ := CX.T
  unfold lawStm lawBody lawOf at hbo
  conv at hbo => lhs; whnf
  subst hbo
  delta lawEnv
  generalize hsc : lawScope w.params = sc
  unfold lawScope lawOf at hsc
  conv at hsc => lhs; whnf
  subst hsc
  simp only [ledOf, List.cons_append, List.nil_append] at N
  obtain ⟨hp, gn, dr, tk, os⟩ := s
  have hos := U.os
  have hbare := U.bare
  dsimp only at F N hos hbare ⊢
  subst hos
  walk_at "m:steps"
  · exact absurd h1 (by omega)
  · exact absurd h3 (by omega)
  · (rename Fr _ _ _ _ => F9); (rename News _ _ _ _ => N9)
    exact ⟨⟨by trivial, U.seg F9 N9 (by walk_at "m:rest") hbare⟩⟩
theorem pow_as {A : Around} {E : Value → Shared → Prop} {Q : Value → Shared → Prop} {a n : Int} {N : Nat} {t u : Tok} (e : a ^ n.toNat = (N : Int)) (h1 : 0 ≤ n ∧ n ≤ 1000) (h2 : a.natAbs < 1000) (h : Q (.int (N : Int) s.toks) { s with toks := s.toks + 1 }) : wpAny (MM w) A (binaryOp .Pow (.int a t) (.int n u)) Q E s :=
  PyProof.Rows.pow_int_small h1.1 (by omega) (by omega) (by rw [e]; exact h)
local macro_rules | `(tactic| walk_at "binaryOp Pow int int") => `(tactic| (refine pow_as (by assumption) (by omega) (by omega) ?_; (try dsimp only)))
local macro_rules | `(tactic| walk_at "storeName") => `(tactic| ((with_reducible show wpAny _ _ (storeName _ (PySem.Str.ofString "words") _) _ _ _); (with_reducible refine stop_here ?_)))
/-- all the words -/
def wordsOf (b z : Int) : List Str := (List.range (b.toNat ^ z.toNat)).map fun (i : Nat) => wd b z (i : Int)
theorem sz_pow {e b z : Int} (h : Sz e b z) : b ^ z.toNat = ((b.toNat ^ z.toNat : Nat) : Int) ∧ b.toNat ^ z.toNat ≤ 25 ∧ b.natAbs < 1000 ∧ 0 ≤ z ∧ z ≤ 1000 := by
  rcases h with ⟨rfl, rfl, rfl⟩ | ⟨rfl, rfl, rfl⟩ | ⟨rfl, rfl, rfl⟩ | ⟨rfl, rfl, rfl⟩ <;> decide
set_option maxHeartbeats 4000000 in
theorem u_10 (I : LawIn w g s0 script ns) (U : US w g s0 L e b z far sp G gs kg W C cs kc rs rl pl put m [] [] s) {ql : B3} (hq : ql ∈ rs) {bo : Stmt} (hbo : lawStm w.params 10 = bo) :
    wpAny (MM w) ((aM 10 10).deeper (lawEnv w.params L)) (exec bo (lawEnv w.params L)) (fun fl s' => Stp (fl = .next ∧ ∃ wl wv, StrsAre wv (wordsOf b z) ∧ US w g s0 L e b z far sp G gs kg W C cs kc rs rl pl put m [(8, .ref wl)] [(wl, lst wv)] s')) NoE s := by
  obtain ⟨oB, oZ, oG, oW, oC, oP, tb, tz, n1, n2, vs, tG, tW, tC, tq, dB, dZ, dG, dW, dC, dP, hvs, N⟩ := U.led hq
  obtain ⟨NN, hNN⟩ : ∃ NN : Nat, b.toNat ^ z.toNat = NN := ⟨_, rfl⟩
  obtain ⟨hpw, hp25, hp1, hp2⟩ := sz_pow U.X.hS
  rw [hNN] at hpw hp25
  have F := U.F
  have CX := I.cx.keeps (gz_some I.st)
  have X := CX.K
  obtain ⟨loose, mean, mg, mb, TT⟩ := CX.T
  unfold lawStm lawBody lawOf at hbo
  conv at hbo => lhs; whnf
  subst hbo
  delta lawEnv
  generalize hsc : lawScope w.params = sc
  unfold lawScope lawOf at hsc
  conv at hsc => lhs; whnf
  subst hsc
  simp only [ledOf, List.cons_append, List.nil_append] at N
  obtain ⟨hp, gn, dr, tk, os⟩ := s
  have hos := U.os
  have hbare := U.bare
  dsimp only at F N hos hbare ⊢
  subst hos
  walk_at "m:steps"
  unfold Stopped
  refine comp_gen (tb := []) (Inv := fun _ => True) (Bd := bdN (Str.ofString "number")) (n := NN) (P := fun i v => ∃ t, v = .int (0 + i * 1) t) (fun _ => rfl) rfl rfl (by decide) (Nat.le_trans hp25 (by decide)) (fun _ => true) (fun _ _ v y => Stp (∃ (j : Nat) (t u : Tok), v = .int (0 + j * 1) u ∧ y = .str (wd b z (j : Int)) t)) (fun _ _ _ _ _ h _ => h) ?_
  walk_at "m:steps"
  unfold Stopped
  (rename Fr _ _ _ _ => F2); (rename News _ _ _ _ => N2)
  refine ⟨_, ok_name tb_nil trivial (it_range rfl (by assumption) (by omega)) (by decide) rfl rfl (fun _ _ _ _ _ _ _ _ _ _ _ _ => wpAny_tests_nil ⟨rfl, Af.refl _, trivial⟩) ?_, ?_⟩
  · rintro C i v mm s₃ hi ⟨ti, rfl⟩ _ hn3 hm hC a _
    obtain ⟨F3, N3⟩ := elt_base F2 N2 hC hn3 (fun b o e => a.keep b o e (by simp))
    clear F2 N2
    obtain ⟨h₃, gs₃, d₃, t₃, os₃⟩ := s₃
    walk_at "m:steps"
    unfold Stopped
    refine c_word I.cx (fun b o e => F3.keep b o (gz_some I.st b o e)) (rm_deep (by decide) (by decide)) U.X.hS ?_
    intro t s' af'
    refine ⟨⟨i, t, ti, rfl, ?_⟩, af'.tr (s := ⟨h₃, gs₃, d₃, t₃, os₃⟩) (Af.refl _) (by simp) (by simp), trivial⟩
    rw [Int.zero_add, Int.mul_one]
  · intro D s' xs' ys ce
    have cy : StrsAre ys (wordsOf b z) := by
      have z1 := ce.out
      rw [List.filter_eq_self.mpr (fun _ _ => rfl)] at z1
      have := strs_range (f := fun j => wd b z (j : Int)) (k := 0) ce.len ce.src (paired_imp (fun _ _ ⟨_, _, h⟩ => h.p) z1)
      unfold wordsOf
      rw [hNN]
      exact this
    obtain ⟨F3, N3⟩ := after_gen F2 N2 ce.af ce.new ce.at_
    have hos3 := ce.af.os
    have hgs3 := ce.af.gens
    clear F2 N2 ce
    obtain ⟨h3, gs3, d3, t3, os3⟩ := s'
    dsimp only at hos3 hgs3 F3 N3 ⊢
    subst hos3
    walk_at "m:steps"
    unfold Stopped
    trace_state
    have U3 := U.seg (d := d3) (t := t3) F3 N3 (by walk_at "m:rest") (hgs3 hbare)
    have U4 := U3.obj N3 (.head _) ⟨nofun, nofun⟩
    obtain ⟨v0, o0, e0, d0⟩ := U4.X.cells.ce 8 (by decide) (by decide)
    refine wpAny_storeName_cell (c := L + 8) rfl rfl rfl ⟨o0, e0, d0⟩ fun h' hv hs => ?_
    exact ⟨⟨by trivial, D, ys, cy, U4.cell (by decide) (by decide) hs hv fun q hq => .inl (List.mem_singleton.mp hq)⟩⟩
end
end
example : True ∧ True := by walk1 <;> trivial
section
local macro_rules | `(tactic| walk_at "m:flush") => `(tactic| trivial)
example : True ∧ True := by walk1 <;> trivial
end
section
local macro_rules | `(tactic| walk_at "storeName") => `(tactic| ((with_reducible show wpAny _ _ (storeName _ (PySem.Str.ofString "met") _) _ _ _); (with_reducible refine stop_here ?_)))
section
variable {w : World} {g : Heap} {s0 s : Shared} {L : Addr} {e b z far : Int} {sp : Addr} {G : Fa} {gs : List B3} {kg : Int} {W : B3} {C : Fa} {cs : List Int} {kc : Int} {rs : List B3} {rl pl : Addr} {put : List Str} {ex : List (Addr × Obj)} {m : Str → Option Value} {key : Str} {script : Addr} {ns : List Int} {cv cv' : List (Nat × Value)} {xs : List (Addr × Obj)} {wl : Addr} {wv : List Value}
set_option maxHeartbeats 4000000 in
theorem u_11 (I : LawIn w g s0 script ns) (U : US w g s0 L e b z far sp G gs kg W C cs kc rs rl pl put m [(8, .ref wl)] [(wl, lst wv)] s) {ql : B3} (hq : ql ∈ rs) {bo : Stmt} (hbo : lawStm w.params 11 = bo) :
    wpAny (MM w) ((aM 10 10).deeper (lawEnv w.params L)) (exec bo (lawEnv w.params L)) (fun fl s' => Stp (fl = .next ∧ ∃ t1 t2, US w g s0 L e b z far sp G gs kg W C cs kc rs rl pl put (fun y => if y = Str.ofString "lit" then some (.int 0 t1) else if y = Str.ofString "total" then some (.int 0 t2) else m y) [(8, .ref wl), (9, .ref W.1.x)] [(wl, lst wv)] s')) NoE s := by
  obtain ⟨oB, oZ, oG, oW, oC, oP, tb, tz, n1, n2, vs, tG, tW, tC, tq, dB, dZ, dG, dW, dC, dP, hvs, N⟩ := U.led hq
  have F := U.F
  have CX := I.cx.keeps (gz_some I.st)
  have X := CX.K
  obtain ⟨loose, mean, mg, mb, TT⟩ := CX.T
  unfold lawStm lawBody lawOf at hbo
  conv at hbo => lhs; whnf
  subst hbo
  delta lawEnv
  generalize hsc : lawScope w.params = sc
  unfold lawScope lawOf at hsc
  conv at hsc => lhs; whnf
  subst hsc
  simp only [ledOf, List.cons_append, List.nil_append] at N
  obtain ⟨hp, gn, dr, tk, os⟩ := s
  have hos := U.os
  have hbare := U.bare
  dsimp only at F N hos hbare ⊢
  subst hos
  walk_at "m:steps"
  unfold Stopped
  (rename Fr _ _ _ _ => F9); (rename News _ _ _ _ => N9)
  have U9 := U.seg (d := dr) (t := 0) F9 N9 (by walk_at "m:rest") hbare
  obtain ⟨v0, o0, e0, d0⟩ := U9.X.cells.ce 9 (by decide) (by decide)
  refine wpAny_storeName_cell (c := L + 9) rfl rfl rfl ⟨o0, e0, d0⟩ fun h' hv hs => ?_
  refine wpAny_pure ?_
  refine ⟨⟨by trivial, _, _, U9.cell (by decide) (by decide) hs hv fun q hq => ?_⟩⟩
  rcases List.mem_cons.mp hq with h | hq
  · rw [h]; exact .inr ⟨.head _, (show (8 : Nat) ≠ 9 by decide)⟩
  · exact .inl (List.mem_singleton.mp hq)
noncomputable def maskBody (P : Params) : List Stmt := match (lawBody P).drop 12 with
  | .For _ _ b _ _ :: _ => b
  | _ => []
noncomputable def maskStm (P : Params) (i : Nat) : Stmt := match (maskBody P).drop i with
  | x :: _ => x
  | _ => .Pass ⟨0, 0, 0, 0⟩
/-- the chosen ones -/
def pick {α : Type} (k : Nat) (l : List α) : List α := (l.zipIdx.filter fun q => k.testBit q.2).map (·.1)
def pMask (k : Int) (vs : Array Value) : Bool := match vs.toList with
  | Value.int j _ :: _ => Int.fmod (Int.fdiv k (2 ^ j.toNat)) 2 == 1
  | _ => false
theorem pm_eq : ∀ k < 8, ∀ i < 3, (Int.fmod (Int.fdiv ((k : Nat) : Int) (2 ^ (((i : Nat) : Int)).toNat)) 2 == 1) = k.testBit i := by decide
theorem pMask_eq {k i : Nat} (hk : k < 8) (hi : i < 3) {t : Tok} {v : Value} : pMask (k : Int) #[Value.int (i : Int) t, v] = k.testBit i := pm_eq k hk i hi
theorem pick_end {k : Nat} {xs : List (Array Value)} {ys : List Value} {rs : List B3} (hl : xs.length = (refsOf rs).toArray.size) (hs : ∀ (j : Nat) (x : Array Value), xs[j]? = some x → ∃ t v, (refsOf rs).toArray[j]? = some v ∧ x = #[Value.int j t, v])
    (ho : Paired (fun x y => ∃ i t, x = #[Value.int i t, y]) (xs.filter (pMask k)) ys) (h3 : rs.length ≤ 3) (hk1 : 1 ≤ k) (hk2 : k < 2 ^ rs.length) : ys = refsOf (pick k rs) := by
  have snd : ∀ {l : List (Array Value)} {r : List Value}, Paired (fun x y => ∃ i t, x = #[Value.int i t, y]) l r → r = l.map fun v => v.getD 1 .none := fun {l r} h => by
    induction h with
    | nil => rfl
    | cons h _ ih =>
      obtain ⟨i, t, rfl⟩ := h
      rw [ih]; rfl
  rw [snd ho]
  rw [List.size_toArray, List.length_map] at hl
  have at' : ∀ (j : Nat) (q : B3), rs[j]? = some q → ∃ t, xs[j]? = some #[Value.int j t, .ref q.1.x] := fun j q hq => by
    have hj : j < xs.length := by rw [hl]; exact (List.getElem?_eq_some_iff.mp hq).1
    obtain ⟨t, v, e1, e2⟩ := hs j _ (List.getElem?_eq_getElem hj)
    rw [List.getElem?_toArray, List.getElem?_map, hq] at e1
    cases e1
    exact ⟨t, by rw [List.getElem?_eq_getElem hj, e2]⟩
  match rs, h3, hl, at', hk2 with
  | [], _, _, _, hk2 => simp at hk2; omega
  | [a], _, hl, at', hk2 =>
    obtain ⟨t0, e0⟩ := at' 0 a rfl
    match xs, hl, e0 with
    | [x], _, e0 =>
      cases e0
      obtain rfl : k = 1 := by simp at hk2; omega
      rw [List.filter_cons, pMask_eq (by decide) (by decide)]
      simp [pick, refsOf, Nat.testBit]
  | [a, b], _, hl, at', hk2 =>
    obtain ⟨t0, e0⟩ := at' 0 a rfl
    obtain ⟨t1, e1⟩ := at' 1 b rfl
    match xs, hl, e0, e1 with
    | [x, y], _, e0, e1 =>
      cases e0
      cases e1
      rcases (show k = 1 ∨ k = 2 ∨ k = 3 by simp at hk2; omega) with rfl | rfl | rfl <;> (rw [List.filter_cons, List.filter_cons, pMask_eq (by decide) (by decide), pMask_eq (by decide) (by decide)]; simp [pick, refsOf, Nat.testBit])
  | [a, b, c], _, hl, at', hk2 =>
    obtain ⟨t0, e0⟩ := at' 0 a rfl
    obtain ⟨t1, e1⟩ := at' 1 b rfl
    obtain ⟨t2, e2⟩ := at' 2 c rfl
    match xs, hl, e0, e1, e2 with
    | [x, y, z], _, e0, e1, e2 =>
      cases e0
      cases e1
      cases e2
      rcases (show k = 1 ∨ k = 2 ∨ k = 3 ∨ k = 4 ∨ k = 5 ∨ k = 6 ∨ k = 7 by simp at hk2; omega) with rfl | rfl | rfl | rfl | rfl | rfl | rfl <;> (rw [List.filter_cons, List.filter_cons, List.filter_cons, pMask_eq (by decide) (by decide), pMask_eq (by decide) (by decide), pMask_eq (by decide) (by decide)]; simp [pick, refsOf, Nat.testBit])
theorem pow2 {A : Around} {E : Value → Shared → Prop} {Q : Value → Shared → Prop} {n : Int} {t u : Tok} (h1 : 0 ≤ n ∧ n ≤ 1000) (h : Q (.int (2 ^ n.toNat) s.toks) { s with toks := s.toks + 1 }) : wpAny (MM w) A (binaryOp .Pow (.int 2 t) (.int n u)) Q E s :=
  PyProof.Rows.pow_int_small h1.1 (by omega) (by decide) h
local macro_rules | `(tactic| walk_at "binaryOp Pow int int") => `(tactic| (refine pow2 (by omega) ?_; (try dsimp only)))
local macro_rules | `(tactic| walk_at "call type:enumerate") => `(tactic| (with_reducible refine stop_here ?_))
local macro_rules | `(tactic| walk_at "exec Assign cons ListComp") => `(tactic| (with_reducible refine stop_here ?_))
set_option maxHeartbeats 4000000 in
theorem u_12a (I : LawIn w g s0 script ns) (U : US w g s0 L e b z far sp G gs kg W C cs kc rs rl pl put m cv xs s) {ql : B3} (hq : ql ∈ rs) (hlen : rs.length ≤ 3) (hrl : m (Str.ofString "row") = some (.ref rl)) {k : Nat} {tk0 : Tok} (hc : (10, .int (k : Int) tk0) ∈ cv) (hk1 : 1 ≤ k) (hk2 : k < 2 ^ rs.length) {bo : Stmt} (hbo : maskStm w.params 0 = bo) :
    wpAny (MM w) ((aM 10 10).deeper (lawEnv w.params L)) (exec bo (lawEnv w.params L)) (fun fl s' => Stp (fl = .next ∧ ∃ D, US w g s0 L e b z far sp G gs kg W C cs kc rs rl pl put (fun y => if y = Str.ofString "chosen" then some (.ref D) else m y) cv ((D, lst (refsOf (pick k rs))) :: xs) s')) NoE s := by
  obtain ⟨oB, oZ, oG, oW, oC, oP, tb, tz, n1, n2, vs, tG, tW, tC, tq, dB, dZ, dG, dW, dC, dP, hvs, N⟩ := U.led0 hq
  obtain ⟨oM, dM, eM, nM1, nM2⟩ := U.cellAt hc
  replace N := news_one N (a := L + 1 + 1 + 1 + 1 + 1 + 1 + 1 + 1 + 1 + 1) eM nM1 nM2
  have F := U.F
  have CX := I.cx.keeps (gz_some I.st)
  have X := CX.K
  obtain ⟨loose, mean, mg, mb, TT⟩ := CX.T
  unfold maskStm maskBody lawBody lawOf at hbo
  conv at hbo => lhs; whnf
  subst hbo
  delta lawEnv
  generalize hsc : lawScope w.params = sc
  unfold lawScope lawOf at hsc
  conv at hsc => lhs; whnf
  subst hsc
  simp only [ledOf, List.cons_append, List.nil_append] at N
  obtain ⟨hp, gn, dr, tk, os⟩ := s
  have hos := U.os
  have hbare := U.bare
  dsimp only at F N hos hbare ⊢
  subst hos
  walk_at "m:steps"
  unfold Stopped
  refine comp_use (tb := []) (Inv := fun _ => True) (Bd := bdP (Str.ofString "place") (Str.ofString "one")) (n := (refsOf rs).toArray.size) (P := fun i vals => ∃ t x, (refsOf rs).toArray[i]? = some x ∧ vals = #[.int i t, x]) rfl (fun _ => rfl) rfl rfl (by decide) rfl rfl ?_ (pMask k) (fun _ _ v y => Stp (∃ i t, v = #[.int i t, y])) (fun _ _ _ _ _ h _ => h) ?_
  · rw [List.size_toArray, List.length_map]; exact Nat.le_trans hlen (by decide)
  walk_at "m:steps"
  unfold Stopped
  have hL : hp.IsList rl (refsOf rs).toArray := News.isList N (by k_mem)
  refine call_enumerate_list hL fun h' he hi hz hk => ?_
  have hgone : ∀ a, hp.objs.size ≤ a → hp.get? a = none := fun a ha => Heap.get?_none_of_le ha
  have hlt : rl < hp.objs.size := by obtain ⟨o, e1, _⟩ := hL; exact Heap.lt_size e1
  refine ⟨⟨hp, gn, dr, tk, s0.os⟩, ok_pair rfl tb_nil trivial (itu_enum rfl he hi (hL.at fun o e => hk _ _ e) ⟨fun b o e _ => hk b o e, rfl, id⟩ (hgone _ (Nat.le_succ _)) (hgone _ (Nat.le_refl _)) (by rw [hz]; exact Nat.le_add_right _ 2) (Nat.succ_ne_self _) (Nat.ne_of_lt (Nat.lt_succ_of_lt hlt)) (Nat.ne_of_lt hlt)) (fun i vs ⟨t, x, _, e1⟩ => ⟨_, _, e1⟩) (by decide) rfl rfl rfl (by decide) ?_ ?_, _, F.ns, ?_⟩
  · rintro C' i a b' mm s₃ hi' ⟨ti, x, hx, e1⟩ hn3 ha hb' hC af _
    obtain ⟨F3, N3⟩ := elt_base F N hC hn3 (fun b o e => af.keep b o e (by simp))
    clear F N
    obtain ⟨h₃, gs₃, d₃, t₃, os₃⟩ := s₃
    injection e1 with e1
    injection e1 with e1 e2
    subst e1
    refine wpAny_tests_one ?_
    walk_at "m:steps"
    · subst_vars; rfl
    · exact ⟨fun _ _ e _ => e, rfl, id⟩
    · trivial
  · rintro C' i a b' mm s₃ hi' ⟨ti, x, hx, e1⟩ _ hn3 ha hb' hC af _
    obtain ⟨F3, N3⟩ := elt_base F N hC hn3 (fun b o e => af.keep b o e (by simp))
    clear F N
    obtain ⟨h₃, gs₃, d₃, t₃, os₃⟩ := s₃
    injection e1 with e1
    injection e1 with e1 e2
    subst e1
    walk_at "m:steps"
    · exact ⟨_, _, rfl⟩
    · exact Af.refl _
    · trivial
  · intro D s' xs' ys ce hns
    have hys : ys = refsOf (pick k rs) := pick_end ce.len ce.src (paired_imp (fun _ _ ⟨_, _, h⟩ => h.p) ce.out) hlen hk1 hk2
    obtain ⟨F6, N6⟩ := after_use F N ce.af ce.new ce.at_ hns
    subst hys
    have U6 := (U.seg (d := s'.drawn) (t := s'.toks) F6 N6 (by walk_at "m:rest") (ce.af.gens hbare)).obj N6 (.head _) ⟨nofun, nofun⟩
    have hos6 := ce.af.os
    obtain ⟨h6, gs6, d6, t6, os6⟩ := s'
    dsimp only at hos6
    subst hos6
    exact ⟨⟨by trivial, D, U6⟩⟩
end
end
example : True ∧ True := by walk1 <;> trivial
section
local macro_rules | `(tactic| walk_at "m:flush") => `(tactic| trivial)
example : True ∧ True := by walk1 <;> trivial
end
section
local macro_rules | `(tactic| walk_at "storeName") => `(tactic| ((with_reducible show wpAny _ _ (storeName _ (PySem.Str.ofString "met") _) _ _ _); (with_reducible refine stop_here ?_)))
section
variable {w : World} {g : Heap} {s0 s : Shared} {L : Addr} {e b z far : Int} {sp : Addr} {G : Fa} {gs : List B3} {kg : Int} {W : B3} {C : Fa} {cs : List Int} {kc : Int} {rs : List B3} {rl pl : Addr} {put : List Str} {ex : List (Addr × Obj)} {m : Str → Option Value} {key : Str} {script : Addr} {ns : List Int} {cv cv' : List (Nat × Value)} {xs : List (Addr × Obj)} {wl : Addr} {wv : List Value}
theorem pop_lt {mm : Int} : pop mm < 1000 := Nat.lt_of_le_of_lt (List.length_filter_le _ _) (by rw [List.length_range]; decide)
abbrev bfX (w : World) (e b z : Int) (sp : Addr) (f : Fa) (mm j : Int) (t : Nat → Tok) (ul : Tok) (nf : Nat) : List (Addr × Obj) := [(f.x, instObj 337 f.d), (f.d, dictOf (bfEs w.params t e b z sp f.l j) 11), (f.l, PySem.W.listOf [.int mm ul].toArray nf)]
theorem US.own (I : LawIn w g s0 script ns) (U : US w g s0 L e b z far sp G gs kg W C cs kc rs rl pl put m cv xs s) {a : Addr} {o : Obj} (hm : (a, o) ∈ xs) : Own g s.heap a o := ⟨(U.xs _ hm).1, none_back (gz_some I.st) (U.xs _ hm).2.2.2⟩
theorem US.bf (I : LawIn w g s0 script ns) (U : US w g s0 L e b z far sp G gs kg W C cs kc rs rl pl put m cv xs s) {f : Fa} {mm j : Int} {t : Nat → Tok} {ul : Tok} {nf : Nat} (hm : ∀ q ∈ bfX w e b z sp f mm j t ul nf, q ∈ xs) : BF w e b z sp g s.heap f mm j :=
  ⟨U.own I (hm _ (.head _)), ⟨t, U.own I (hm _ (.tail _ (.head _)))⟩, ⟨ul, nf, U.own I (hm _ (.tail _ (.tail _ (.head _))))⟩⟩
/-- a filter more beside -/
theorem US.addBf (U : US w g s0 L e b z far sp G gs kg W C cs kc rs rl pl put m cv xs s) {f : Fa} {mm j : Int} (B : BF w e b z sp g s.heap f mm j) (hd : @Ne Nat f.d L) : ∃ t ul nf, US w g s0 L e b z far sp G gs kg W C cs kc rs rl pl put m cv (bfX w e b z sp f mm j t ul nf ++ xs) s := by
  obtain ⟨x, ⟨t, d⟩, ⟨ul, nf, l⟩⟩ := B
  refine ⟨t, ul, nf, U.X, U.F, U.cv, fun q hq => ?_, U.os, U.bare⟩
  rcases List.mem_append.mp hq with hq | hq
  · simp only [bfX, List.mem_cons, List.not_mem_nil, or_false] at hq
    rcases hq with rfl | rfl | rfl
    · exact ⟨x.at_, ⟨nofun, nofun⟩, ns_ne U.F.ns x.at_ nofun, gz_none x.new⟩
    · exact ⟨d.at_, ⟨nofun, nofun⟩, hd, gz_none d.new⟩
    · exact ⟨l.at_, ⟨nofun, nofun⟩, ns_ne U.F.ns l.at_ nofun, gz_none l.new⟩
  · exact U.xs q hq
set_option maxHeartbeats 4000000 in
theorem u_12b (I : LawIn w g s0 script ns) (U : US w g s0 L e b z far sp G gs kg W C cs kc rs rl pl put m cv xs s) {ql : B3} (hq : ql ∈ rs) {D : Addr} (hch : m (Str.ofString "chosen") = some (.ref D)) {q0 : B3} {bs : List B3} (hD : (D, lst (refsOf (q0 :: bs))) ∈ xs) (hsub : ∀ q ∈ q0 :: bs, q ∈ rs) (hbl : bs.length < 10) (hms : ∀ q ∈ rs, 0 ≤ q.2.1 ∧ q.2.1 < 128) {bo : Stmt} (hbo : maskStm w.params 1 = bo) :
    wpAny (MM w) ((aM 10 10).deeper (lawEnv w.params L)) (exec bo (lawEnv w.params L)) (fun fl s' => Stp (fl = .next ∧ ∃ f j t ul nf, US w g s0 L e b z far sp G gs kg W C cs kc rs rl pl put m (setc 9 (.ref f.x) cv) (bfX w e b z sp f (bs.foldl (fun m q => Builtin.bitAnd m q.2.1) q0.2.1) j t ul nf ++ xs) s')) NoE s := by
  obtain ⟨oB, oZ, oG, oW, oC, oP, tb, tz, n1, n2, vs, tG, tW, tC, tq, dB, dZ, dG, dW, dC, dP, hvs, N⟩ := U.led0 hq
  have F := U.F
  have CX := I.cx.keeps (gz_some I.st)
  have X := CX.K
  obtain ⟨loose, mean, mg, mb, TT⟩ := CX.T
  unfold maskStm maskBody lawBody lawOf at hbo
  conv at hbo => lhs; whnf
  subst hbo
  delta lawEnv
  generalize hsc : lawScope w.params = sc
  unfold lawScope lawOf at hsc
  conv at hsc => lhs; whnf
  subst hsc
  simp only [ledOf, List.cons_append, List.nil_append] at N
  obtain ⟨hp, gn, dr, tk, os⟩ := s
  have hos := U.os
  have hbare := U.bare
  dsimp only at F N hos hbare ⊢
  subst hos
  walk_at "m:steps"
  unfold Stopped
  refine c_met I.cx (fun b o e => F.keep b o (gz_some I.st b o e)) (rm_deep (by decide) (by decide)) U.X.hS U.X.Sp (U.own I hD) (fun q hq => U.X.RB q (hsub q hq)) hbl (fun q hq => hms q (hsub q hq)) ?_
  intro f j s' af hn B
  have hd : @Ne Nat f.d L := by
    rcases hn with h | h
    · have := LS.mem2 U.X.ad (hsub q0 (.head _))
      simp only [List.mem_cons, List.not_mem_nil, or_false, not_or] at this
      rw [h]; exact this.2.2.2
    · intro q
      obtain ⟨o, _, _, e1, _⟩ := U.F.ns
      rw [show f.d = L from q, e1] at h; cases h
  obtain ⟨t, ul, nf, U'⟩ := (U.toks.af af).addBf B hd
  obtain ⟨h5, gs5, d5, t5, os5⟩ := s'
  have hos := U'.os
  have F' := U'.F
  dsimp only at hos F' ⊢
  subst hos
  walk_at "m:steps"
  unfold Stopped
  obtain ⟨v0, o0, e0, d0⟩ := U'.X.cells.ce 9 (by decide) (by decide)
  refine wpAny_storeName_cell (c := L + 9) rfl rfl rfl ⟨o0, e0, d0⟩ fun h' hv hs => ?_
  exact ⟨⟨by trivial, f, j, t, ul, nf, U'.setc (by decide) (by decide) hs hv⟩⟩
local macro_rules | `(tactic| walk_at "binaryOp Mult int int") => `(tactic| (refine mul_int ?_ (IntMulOk.of_left (by refine bits64 ?_; omega)); (try dsimp only)))
theorem powp {A : Around} {E : Value → Shared → Prop} {Q : Value → Shared → Prop} {a : Nat} {n : Int} {t u : Tok} (h1 : 0 ≤ n ∧ n ≤ 1000) (h2 : a < 1000) (h : Q (.int ((a : Int) ^ n.toNat) s.toks) { s with toks := s.toks + 1 }) : wpAny (MM w) A (binaryOp .Pow (.int (a : Int) t) (.int n u)) Q E s :=
  PyProof.Rows.pow_int_small h1.1 (by omega) (by omega) h
local macro_rules | `(tactic| walk_at "binaryOp Pow int int") => `(tactic| (refine powp (by omega) (by omega) ?_; (try dsimp only)))
set_option maxHeartbeats 4000000 in
theorem u_12c (I : LawIn w g s0 script ns) (U : US w g s0 L e b z far sp G gs kg W C cs kc rs rl pl put m cv xs s) {ql : B3} (hq : ql ∈ rs) {D : Addr} {ys : List Value} (hch : m (Str.ofString "chosen") = some (.ref D)) (hD : (D, lst ys) ∈ xs) (hys : ys.length < 1000) {bo : Stmt} (hbo : maskStm w.params 2 = bo) :
    wpAny (MM w) ((aM 10 10).deeper (lawEnv w.params L)) (exec bo (lawEnv w.params L)) (fun fl s' => Stp (fl = .next ∧ ∃ sg t, ((ys.length % 2 = 1 ∧ sg = 1) ∨ (ys.length % 2 = 0 ∧ sg = -1)) ∧ US w g s0 L e b z far sp G gs kg W C cs kc rs rl pl put (fun y => if y = Str.ofString "sign" then some (.int sg t) else m y) cv xs s')) NoE s := by
  obtain ⟨oB, oZ, oG, oW, oC, oP, tb, tz, n1, n2, vs, tG, tW, tC, tq, dB, dZ, dG, dW, dC, dP, hvs, N⟩ := U.led0 hq
  replace N := U.item N hD
  have F := U.F
  have CX := I.cx.keeps (gz_some I.st)
  have X := CX.K
  obtain ⟨loose, mean, mg, mb, TT⟩ := CX.T
  unfold maskStm maskBody lawBody lawOf at hbo
  conv at hbo => lhs; whnf
  subst hbo
  delta lawEnv
  generalize hsc : lawScope w.params = sc
  unfold lawScope lawOf at hsc
  conv at hsc => lhs; whnf
  subst hsc
  simp only [ledOf, List.cons_append, List.nil_append] at N
  obtain ⟨hp, gn, dr, tk, os⟩ := s
  have hos := U.os
  have hbare := U.bare
  dsimp only at F N hos hbare ⊢
  subst hos
  walk_at "m:steps"
  all_goals ((rename Fr _ _ _ _ => F9); (rename News _ _ _ _ => N9))
  all_goals have hkk := Int.fmod_eq_emod_of_nonneg (ys.length : Int) (show (0 : Int) ≤ 2 by decide)
  · exact ⟨⟨by trivial, _, _, .inl ⟨by omega, rfl⟩, (U.seg (d := dr) (t := 0) F9 N9 (by walk_at "m:rest") hbare).toks⟩⟩
  · exact ⟨⟨by trivial, _, _, .inr ⟨by omega, rfl⟩, (U.seg (d := dr) (t := 0) F9 N9 (by walk_at "m:rest") hbare).toks⟩⟩
set_option maxHeartbeats 4000000 in
theorem u_12d (I : LawIn w g s0 script ns) (U : US w g s0 L e b z far sp G gs kg W C cs kc rs rl pl put m cv xs s) {ql : B3} (hq : ql ∈ rs) {f : Fa} {mm j sg l : Int} {t : Nat → Tok} {ul tl ts : Tok} {nf : Nat} (hx : ∀ q ∈ bfX w e b z sp f mm j t ul nf, q ∈ xs) (hc : (9, .ref f.x) ∈ cv) (hmm : 0 ≤ mm ∧ mm < 128) (hsg : sg = 1 ∨ sg = -1) (hl : m (Str.ofString "lit") = some (.int l tl)) (hs1 : m (Str.ofString "sign") = some (.int sg ts)) {bo : Stmt} (hbo : maskStm w.params 3 = bo) :
    wpAny (MM w) ((aM 10 10).deeper (lawEnv w.params L)) (exec bo (lawEnv w.params L)) (fun fl s' => Stp (fl = .next ∧ ∃ t, US w g s0 L e b z far sp G gs kg W C cs kc rs rl pl put (fun y => if y = Str.ofString "lit" then some (.int (l + sg * (pop mm : Int)) t) else m y) cv xs s')) NoE s := by
  obtain ⟨oB, oZ, oG, oW, oC, oP, tb, tz, n1, n2, vs, tG, tW, tC, tq, dB, dZ, dG, dW, dC, dP, hvs, N⟩ := U.led0 hq
  obtain ⟨oM, dM, eM, nM1, nM2⟩ := U.cellAt hc
  replace N := news_one N (a := L + 1 + 1 + 1 + 1 + 1 + 1 + 1 + 1 + 1) eM nM1 nM2
  have F := U.F
  have CX := I.cx.keeps (gz_some I.st)
  have X := CX.K
  obtain ⟨loose, mean, mg, mb, TT⟩ := CX.T
  unfold maskStm maskBody lawBody lawOf at hbo
  conv at hbo => lhs; whnf
  subst hbo
  delta lawEnv
  generalize hsc : lawScope w.params = sc
  unfold lawScope lawOf at hsc
  conv at hsc => lhs; whnf
  subst hsc
  simp only [ledOf, List.cons_append, List.nil_append] at N
  obtain ⟨hp, gn, dr, tk, os⟩ := s
  have hos := U.os
  have hbare := U.bare
  dsimp only at F N hos hbare ⊢
  subst hos
  walk_at "m:steps"
  unfold Stopped
  have hp7 : pop mm < 1000 := pop_lt
  refine c_ones I.cx (fun b o e => F.keep b o (gz_some I.st b o e)) (rm_deep (by decide) (by decide)) U.X.hS (U.bf I hx) hmm ?_
  intro t5 s' af
  have U' := U.toks.af af
  have F' := fr_af F af
  have N' := news_af N af
  obtain ⟨h5, gs5, d5, t5, os5⟩ := s'
  have hos := U'.os
  dsimp only at hos F' N' ⊢
  subst hos
  clear F N
  walk_at "m:steps"
  (rename Fr _ _ _ _ => F9); (rename News _ _ _ _ => N9)
  exact ⟨⟨by trivial, _, (U.seg (d := d5) (t := 0) F9 N9 (by walk_at "m:rest") U'.bare).toks⟩⟩
set_option maxHeartbeats 4000000 in
theorem u_12e (I : LawIn w g s0 script ns) (U : US w g s0 L e b z far sp G gs kg W C cs kc rs rl pl put m cv xs s) {ql : B3} (hq : ql ∈ rs) {f : Fa} {mm j sg l : Int} {t : Nat → Tok} {ul tl ts : Tok} {nf : Nat} (hx : ∀ q ∈ bfX w e b z sp f mm j t ul nf, q ∈ xs) (hc : (9, .ref f.x) ∈ cv) (hmm : 0 ≤ mm ∧ mm < 128) (hsg : sg = 1 ∨ sg = -1) (hl : m (Str.ofString "total") = some (.int l tl)) (hs1 : m (Str.ofString "sign") = some (.int sg ts)) {bo : Stmt} (hbo : maskStm w.params 4 = bo) :
    wpAny (MM w) ((aM 10 10).deeper (lawEnv w.params L)) (exec bo (lawEnv w.params L)) (fun fl s' => Stp (fl = .next ∧ ∃ t, US w g s0 L e b z far sp G gs kg W C cs kc rs rl pl put (fun y => if y = Str.ofString "total" then some (.int (l + sg * (pop mm : Int) ^ z.toNat) t) else m y) cv xs s')) NoE s := by
  obtain ⟨oB, oZ, oG, oW, oC, oP, tb, tz, n1, n2, vs, tG, tW, tC, tq, dB, dZ, dG, dW, dC, dP, hvs, N⟩ := U.led0 hq
  obtain ⟨oM, dM, eM, nM1, nM2⟩ := U.cellAt hc
  replace N := news_one N (a := L + 1 + 1 + 1 + 1 + 1 + 1 + 1 + 1 + 1) eM nM1 nM2
  have hzz : 0 ≤ z ∧ z ≤ 1000 := by rcases U.X.hS.z with h | h <;> omega
  have F := U.F
  have CX := I.cx.keeps (gz_some I.st)
  have X := CX.K
  obtain ⟨loose, mean, mg, mb, TT⟩ := CX.T
  unfold maskStm maskBody lawBody lawOf at hbo
  conv at hbo => lhs; whnf
  subst hbo
  delta lawEnv
  generalize hsc : lawScope w.params = sc
  unfold lawScope lawOf at hsc
  conv at hsc => lhs; whnf
  subst hsc
  simp only [ledOf, List.cons_append, List.nil_append] at N
  obtain ⟨hp, gn, dr, tk, os⟩ := s
  have hos := U.os
  have hbare := U.bare
  dsimp only at F N hos hbare ⊢
  subst hos
  walk_at "m:steps"
  unfold Stopped
  have hp7 : pop mm < 1000 := pop_lt
  refine c_ones I.cx (fun b o e => F.keep b o (gz_some I.st b o e)) (rm_deep (by decide) (by decide)) U.X.hS (U.bf I hx) hmm ?_
  intro t5 s' af
  have U' := U.toks.af af
  have F' := fr_af F af
  have N' := news_af N af
  obtain ⟨h5, gs5, d5, t5, os5⟩ := s'
  have hos := U'.os
  dsimp only at hos F' N' ⊢
  subst hos
  clear F N
  walk_at "m:steps"
  (rename Fr _ _ _ _ => F9); (rename News _ _ _ _ => N9)
  exact ⟨⟨by trivial, _, (U.seg (d := d5) (t := 0) F9 N9 (by walk_at "m:rest") U'.bare).toks⟩⟩
end
end
example : True ∧ True := by walk1 <;> trivial
section
local macro_rules | `(tactic| walk_at "m:flush") => `(tactic| trivial)
example : True ∧ True := by walk1 <;> trivial
end
section
local macro_rules | `(tactic| walk_at "binaryOp Pow int int") => `(tactic| (refine pow_as (by assumption) (by omega) (by decide) ?_; (try dsimp only)))
section
variable {w : World} {g : Heap} {s0 s : Shared} {L : Addr} {e b z far : Int} {sp : Addr} {G : Fa} {gs : List B3} {kg : Int} {W : B3} {C : Fa} {cs : List Int} {kc : Int} {rs : List B3} {rl pl : Addr} {put : List Str} {ex : List (Addr × Obj)} {m : Str → Option Value} {key : Str} {script : Addr} {ns : List Int} {cv cv' : List (Nat × Value)} {xs : List (Addr × Obj)} {wl : Addr} {wv : List Value}
/-- an object's fate, whether the base bears it or not -/
theorem US.track (U : US w g s0 L e b z far sp G gs kg W C cs kc rs rl pl put m cv xs s) {a : Addr} {o : Obj} (e1 : s.heap.get? a = some o) (k : Xo o) (n : @Ne Nat a L) :
    ∃ xi : List (Addr × Obj), US w g s0 L e b z far sp G gs kg W C cs kc rs rl pl put m cv (xi ++ xs) s ∧ ∀ m' cv' xs' s', US w g s0 L e b z far sp G gs kg W C cs kc rs rl pl put m' cv' xs' s' → (∀ q ∈ xi, q ∈ xs') → s'.heap.get? a = some o := by
  cases h : (gz g s0.heap).get? a with
  | some o' =>
    have := U.F.keep _ _ h
    rw [e1] at this; cases this
    exact ⟨[], U, fun _ _ _ _ U' _ => U'.F.keep _ _ h⟩
  | none =>
    refine ⟨[(a, o)], ⟨U.X, U.F, U.cv, fun q hq => ?_, U.os, U.bare⟩, fun _ _ _ _ U' hx => (U'.xs _ (hx _ (.head _))).1⟩
    rcases List.mem_cons.mp hq with hh | hq
    · subst hh; exact ⟨e1, k, n, h⟩
    · exact U.xs q hq
theorem US.stab {h₀ : Heap} (U : US w g s0 L e b z far sp G gs kg W C cs kc rs rl pl put m cv xs s) (hb : ∀ b o, (gz g s0.heap).get? b = some o → h₀.get? b = some o) (hx : ∀ q ∈ xs, ¬ (ItO q.2 ∧ h₀.get? q.1 = none)) {h' : Heap} (k : ∀ c o, s.heap.get? c = some o → ¬ (ItO o ∧ h₀.get? c = none) → h'.get? c = some o) {tk : Nat} :
    US w g s0 L e b z far sp G gs kg W C cs kc rs rl pl put m cv xs { s with heap := h', toks := tk } := by
  refine ⟨U.X.stab ⟨_, U.F.ns⟩ (fun _ h => absurd h List.not_mem_nil) k, ⟨U.F.ns.at' fun o e => k _ _ e fun q => ?_, fun b o e => k _ _ (U.F.keep _ _ e) fun q => no_both (hb _ _ e) q.2, U.F.above⟩, fun q hq => ?_, fun q hq => let ⟨a, r⟩ := U.xs q hq; ⟨k _ _ a (hx q hq), r⟩, U.os, U.bare⟩
  · obtain ⟨oL, es, ep, eL, dL, _⟩ := U.F.ns
    rw [e] at eL; cases eL
    exact not_it_data (o := o) (by rw [dL]; nofun) q.1
  · obtain ⟨a, c, o, e1, d1⟩ := U.cv q hq
    exact ⟨a, c, o, k _ _ e1 fun q => not_it_data (o := o) (by rw [d1]; nofun) q.1, d1⟩
theorem nit_inst {c d : Addr} : ¬ ItO (instObj c d) := not_it_cls (v := .ref c) rfl nofun nofun
theorem nit_dict {es : List DictEntry} {n : Nat} : ¬ ItO (dictOf es n) := not_it_data nofun
theorem nit_list {vs : Array Value} {n : Nat} : ¬ ItO (PySem.W.listOf vs n) := not_it_data nofun
noncomputable def maskIter (P : Params) : PySem.Expr := match lawStm P 12 with
  | .For _ it _ _ _ => it
  | _ => .Name (Str.ofString "") ⟨0, 0, 0, 0⟩
theorem for12 (P : Params) : ∃ q p, lawStm P 12 = .For (.Name (Str.ofString "mask") q) (maskIter P) [maskStm P 0, maskStm P 1, maskStm P 2, maskStm P 3, maskStm P 4] [] p ∧ ∀ env x, foldedSetIterable (maskIter P) env x = pure x := by
  obtain ⟨q, it, b0, b1, b2, b3, b4, p, r, h, k⟩ : ∃ q it b0 b1 b2 b3 b4 p r, (lawBody P).drop 12 = .For (.Name (Str.ofString "mask") q) it [b0, b1, b2, b3, b4] [] p :: r ∧ ∀ env x, foldedSetIterable it env x = pure x := by
    unfold lawBody lawOf
    conv => enter [1, a, 1, b, 1, c, 1, d, 1, e, 1, f, 1, g, 1, h, 1, i, 1]; lhs; whnf
    exact ⟨_, _, _, _, _, _, _, _, _, rfl, fun _ _ => rfl⟩
  unfold maskIter lawStm maskStm maskBody
  rw [h]
  exact ⟨q, p, rfl, k⟩
set_option maxHeartbeats 4000000 in
theorem u_12i (I : LawIn w g s0 script ns) (U : US w g s0 L e b z far sp G gs kg W C cs kc rs rl pl put m cv xs s) {ql : B3} (hq : ql ∈ rs) (hlen : rs.length ≤ 3) (hrl : m (Str.ofString "row") = some (.ref rl)) {bo : PySem.Expr} (hbo : maskIter w.params = bo) :
    wpAny (MM w) ((aM 10 10).deeper (lawEnv w.params L)) (eval bo (lawEnv w.params L)) (fun xv s' => Stp (∃ r t u v, xv = .ref r ∧ IsRange s'.heap r 1 (1 + ((2 ^ rs.length - 1 : Nat) : Int)) 1 t u v ∧ US w g s0 L e b z far sp G gs kg W C cs kc rs rl pl put m cv xs s')) NoE s := by
  obtain ⟨oB, oZ, oG, oW, oC, oP, tb, tz, n1, n2, vs, tG, tW, tC, tq, dB, dZ, dG, dW, dC, dP, hvs, N⟩ := U.led0 hq
  have hll : (refsOf rs).length = rs.length := List.length_map _
  have hrows : (refsOf rs).length < 1000 := by rw [hll]; omega
  have hpw : (2 : Int) ^ (((refsOf rs).length : Nat) : Int).toNat = ((2 ^ rs.length : Nat) : Int) := by rw [Int.toNat_natCast, hll]; exact (Int.natCast_pow 2 _).symm
  have F := U.F
  have CX := I.cx.keeps (gz_some I.st)
  have X := CX.K
  obtain ⟨loose, mean, mg, mb, TT⟩ := CX.T
  unfold maskIter lawStm lawBody lawOf at hbo
  conv at hbo => lhs; whnf
  subst hbo
  delta lawEnv
  generalize hsc : lawScope w.params = sc
  unfold lawScope lawOf at hsc
  conv at hsc => lhs; whnf
  subst hsc
  simp only [ledOf, List.cons_append, List.nil_append] at N
  obtain ⟨hp, gn, dr, tk, os⟩ := s
  have hos := U.os
  have hbare := U.bare
  dsimp only at F N hos hbare ⊢
  subst hos
  walk_at "m:steps"
  (rename Fr _ _ _ _ => F9); (rename News _ _ _ _ => N9); (rename IsRange _ _ _ _ _ _ _ _ => hr)
  have e2 : ((2 ^ rs.length : Nat) : Int) = 1 + ((2 ^ rs.length - 1 : Nat) : Int) := by have := Nat.two_pow_pos rs.length; omega
  rw [e2] at hr
  exact ⟨⟨_, _, _, _, rfl, hr, (U.seg (d := dr) (t := 0) F9 N9 (by walk_at "m:rest") hbare).toks⟩⟩
/-- the bits of the met ones -/
def metM (k : Nat) (ms : List Int) : Int := match pick k ms with
  | [] => 0
  | m0 :: r => r.foldl (fun m q => Builtin.bitAnd m q) m0
def sgn (k : Nat) (ms : List Int) : Int := if (pick k ms).length % 2 = 1 then 1 else -1
def litS (ms : List Int) : Nat → Int
  | 0 => 0
  | i + 1 => litS ms i + sgn (i + 1) ms * (pop (metM (i + 1) ms) : Int)
def totS (z : Int) (ms : List Int) : Nat → Int
  | 0 => 0
  | i + 1 => totS z ms i + sgn (i + 1) ms * (pop (metM (i + 1) ms) : Int) ^ z.toNat
theorem pick_map {α β : Type} {f : α → β} {k : Nat} {l : List α} : pick k (l.map f) = (pick k l).map f := by
  unfold pick
  rw [List.zipIdx_map, List.filter_map, List.map_map, List.map_map]
  rfl
theorem pick_sub {α : Type} {k : Nat} {l : List α} : ∀ q ∈ pick k l, q ∈ l := fun q hq => by
  obtain ⟨⟨a, i⟩, h1, rfl⟩ := List.mem_map.mp hq
  exact (List.mem_zipIdx' (List.mem_filter.mp h1).1).2 ▸ List.getElem_mem _
theorem pick_ne {α : Type} {k : Nat} {l : List α} (h1 : 1 ≤ k) (h2 : k < 2 ^ l.length) : pick k l ≠ [] := fun h => by
  obtain ⟨j, hj⟩ := Nat.exists_testBit_of_ne_zero (show k ≠ 0 by omega)
  have hl : j < l.length := by
    by_cases q : j < l.length
    · exact q
    · have := Nat.testBit_lt_two_pow (x := k) (i := j) (Nat.lt_of_lt_of_le h2 (Nat.pow_le_pow_right (by decide) (Nat.le_of_not_lt q)))
      rw [hj] at this; cases this
  have : l[j] ∈ pick k l := List.mem_map.mpr ⟨(l[j], j), List.mem_filter.mpr ⟨List.mem_zipIdx_iff_getElem?.mpr (List.getElem?_eq_getElem hl), hj⟩, rfl⟩
  rw [h] at this; cases this
theorem pick_len {α : Type} {k : Nat} {l : List α} : (pick k l).length ≤ l.length := by
  unfold pick
  rw [List.length_map]
  exact Nat.le_trans (List.length_filter_le _ _) (by rw [List.length_zipIdx]; exact Nat.le_refl _)
theorem metM_mk {B : Nat} {k : Nat} {ms : List Int} (h : ∀ m ∈ ms, Mk B m) (h1 : 1 ≤ k) (h2 : k < 2 ^ ms.length) : Mk B (metM k ms) := by
  unfold metM
  have hs := pick_sub (k := k) (l := ms)
  cases hp : pick k ms with
  | nil => exact absurd hp (pick_ne h1 h2)
  | cons m0 r =>
    rw [hp] at hs
    have key : ∀ (r : List Int) (m0 : Int), Mk B m0 → (∀ q ∈ r, Mk B q) → Mk B (r.foldl (fun m q => Builtin.bitAnd m q) m0) := by
      intro r
      induction r with
      | nil => intro m0 h _; exact h
      | cons q r ih =>
        intro m0 h1 h2
        refine ih _ (Mk.of ?_ fun k hk => ?_) fun q hq => h2 q (.tail _ hq)
        · show 0 ≤ Builtin.bitAnd m0 q
          rw [bitAnd_pp h1.1 (h2 q (.head _)).1]; exact Int.natCast_nonneg _
        · rw [bt_and h1.1 (h2 q (.head _)).1] at hk
          exact h1.bit (Bool.and_eq_true_iff.mp hk).1
    exact key r m0 (h _ (hs m0 (.head _))) fun q hq => h _ (hs q (.tail _ hq))
/-- between two turns of the masks -/
structure MJ (w : World) (g : Heap) (s0 : Shared) (L : Addr) (e b z far : Int) (sp : Addr) (G : Fa) (gs : List B3) (kg : Int) (W : B3) (C : Fa) (cs : List Int) (kc : Int) (rs : List B3) (rl pl : Addr) (put : List Str) (m0 : Str → Option Value) (wl : Addr) (wv : List Value) (i : Nat) (s : Shared) : Prop where
  it : ∃ m f mm j t ul nf lt tt, US w g s0 L e b z far sp G gs kg W C cs kc rs rl pl put m [(8, .ref wl), (9, .ref f.x)] (bfX w e b z sp f mm j t ul nf ++ [(wl, lst wv)]) s ∧ m (Str.ofString "lit") = some (.int (litS (rs.map (·.2.1)) i) lt) ∧ m (Str.ofString "total") = some (.int (totS z (rs.map (·.2.1)) i) tt) ∧
    m (Str.ofString "row") = some (.ref rl) ∧ (0 < i → mm = metM i (rs.map (·.2.1)))
theorem u_12 (I : LawIn w g s0 script ns) (U : US w g s0 L e b z far sp G gs kg W C cs kc rs rl pl put m [(8, .ref wl), (9, .ref W.1.x)] [(wl, lst wv)] s) {ql : B3} (hq : ql ∈ rs) (hlen : rs.length ≤ 3) (hms : ∀ m ∈ rs.map (·.2.1), Mk b.toNat m) (hrl : m (Str.ofString "row") = some (.ref rl))
    {t1 t2 : Tok} (hl : m (Str.ofString "lit") = some (.int 0 t1)) (ht : m (Str.ofString "total") = some (.int 0 t2)) {bo : Stmt} (hbo : lawStm w.params 12 = bo) :
    wpAny (MM w) ((aM 10 10).deeper (lawEnv w.params L)) (exec bo (lawEnv w.params L)) (fun fl s' => Stp (fl = .next ∧ MJ w g s0 L e b z far sp G gs kg W C cs kc rs rl pl put m wl wv (2 ^ rs.length - 1) s')) NoE s := by
  have hS := U.X.hS
  have hz := hS.z
  obtain ⟨q, p, h12, hfs⟩ := for12 w.params
  rw [h12] at hbo
  subst hbo
  generalize q0 : maskIter w.params = it at hfs
  generalize k0 : maskStm w.params 0 = st0
  generalize k1 : maskStm w.params 1 = st1
  generalize k2 : maskStm w.params 2 = st2
  generalize k3 : maskStm w.params 3 = st3
  generalize k4 : maskStm w.params 4 = st4
  have h8 : 2 ^ rs.length ≤ 2 ^ 3 := Nat.pow_le_pow_right (by decide) hlen
  have h80 := Nat.two_pow_pos rs.length
  refine for_range rfl (fun x => hfs _ x) (fun _ _ => rfl) (wpAny_mono (u_12i I U hq hlen hrl q0) ?_ fun _ _ e => e)
  rintro xv s2 ⟨⟨r, tr, ur, vr, rfl, hr, U2⟩⟩
  refine ⟨r, 1, 2 ^ rs.length - 1, tr, ur, vr, MJ w g s0 L e b z far sp G gs kg W C cs kc rs rl pl put m wl wv, rfl, hr, by decide, by omega, ?_, ?_, ?_, fun s' J => ⟨⟨rfl, J⟩⟩⟩
  · rintro i s' h' tk ⟨m', f, mm, j, t, ul, nf, lt, tt, U', r'⟩ k
    refine ⟨⟨m', f, mm, j, t, ul, nf, lt, tt, U'.stab U2.F.keep (fun q hq hc => ?_) k, r'⟩⟩
    simp only [bfX, List.cons_append, List.nil_append, List.mem_cons, List.not_mem_nil, or_false] at hq
    rcases hq with rfl | rfl | rfl | rfl
    · exact nit_inst hc.1
    · exact nit_dict hc.1
    · exact nit_list hc.1
    · exact nit_list hc.1
  · have hd := U2.X.ad.hh
    simp only [List.nodup_cons, List.mem_cons, List.not_mem_nil, or_false, not_or] at hd
    obtain ⟨t, ul, nf, U3⟩ := U2.addBf U2.X.WB hd.2.2.1
    exact ⟨⟨m, W.1, _, _, t, ul, nf, t1, t2, U3, hl, ht, hrl, fun h => absurd h (Nat.lt_irrefl _)⟩⟩
  · rintro I' i t' s' hi ⟨m', f, mm, j, t, ul, nf, lt, tt, U', e1, e2, e3, e4⟩ hI
    obtain ⟨xi, U1, back⟩ := U'.track (o := { cls := .type "range_iterator", data := .fields #[rawInt (1 + ((i + 1 : Nat) : Int) * 1), rawInt (((2 ^ rs.length - 1 : Nat) : Int) - ((i + 1 : Nat) : Int)), rawInt 1] }) hI ⟨nofun, nofun⟩ (ns_ne U'.F.ns hI nofun)
    refine assign_Name ?_
    obtain ⟨v0, o0, e0, d0⟩ := U1.X.cells.ce 10 (by decide) (by decide)
    refine wpAny_storeName_cell (c := L + 10) rfl rfl rfl ⟨o0, e0, d0⟩ fun h' hv hs => ?_
    have U2 := U1.setc (by decide) (by decide) hs hv (d := s'.drawn) (t := s'.toks)
    have ei : (1 + (i : Int) * 1) = ((i + 1 : Nat) : Int) := by omega
    rw [ei] at U2
    have hml : (rs.map (·.2.1)).length = rs.length := List.length_map _
    have hk2 : i + 1 < 2 ^ rs.length := by omega
    have ms128 : ∀ q ∈ rs, 0 ≤ q.2.1 ∧ q.2.1 < 128 := fun q hq => (hms _ (List.mem_map_of_mem hq)).small hS
    obtain ⟨p0, pr, hpk⟩ : ∃ p0 pr, pick (i + 1) rs = p0 :: pr := by
      cases h : pick (i + 1) rs with
      | nil => exact absurd h (pick_ne (by omega) hk2)
      | cons a r => exact ⟨a, r, rfl⟩
    have hpl : (pick (i + 1) rs).length ≤ 3 := Nat.le_trans pick_len hlen
    have hmet : pr.foldl (fun m q => Builtin.bitAnd m q.2.1) p0.2.1 = metM (i + 1) (rs.map (·.2.1)) := by
      unfold metM
      rw [pick_map, hpk]
      show _ = (pr.map (·.2.1)).foldl _ _
      rw [List.foldl_map]
    have hmk := metM_mk (k := i + 1) hms (by omega) (by rw [hml]; exact hk2)
    refine wpAny_execs_cons (wpAny_mono (u_12a I U2 hq hlen e3 (.head _) (by omega) hk2 k0) ?_ fun _ _ e => e)
    rintro fl s3 ⟨⟨rfl, D, U3⟩⟩
    rw [hpk] at U3
    refine wpAny_execs_cons (wpAny_mono (u_12b I U3 hq (if_pos rfl) (.head _) (fun q hq => pick_sub q (hpk ▸ hq)) (by rw [hpk] at hpl; simp at hpl; omega) ms128 k1) ?_ fun _ _ e => e)
    rintro fl s4 ⟨⟨rfl, f', j', tf, ulf, nff, U4⟩⟩
    rw [hmet] at U4
    refine wpAny_execs_cons (wpAny_mono (u_12c I U4 hq (if_pos rfl) (List.mem_append_right _ (.head _)) (by rw [List.length_map, ← hpk]; omega) k2) ?_ fun _ _ e => e)
    rintro fl s5 ⟨⟨rfl, sg, ts, hsg, U5⟩⟩
    have hsg1 : sg = 1 ∨ sg = -1 := by rcases hsg with h | h <;> omega
    have hsg2 : sg = sgn (i + 1) (rs.map (·.2.1)) := by
      unfold sgn
      rw [pick_map, hpk, List.length_map]
      rw [List.length_map] at hsg
      rcases hsg with ⟨h1, h2⟩ | ⟨h1, h2⟩
      · rw [if_pos h1, h2]
      · rw [if_neg (by omega), h2]
    refine wpAny_execs_cons (wpAny_mono (u_12d I U5 hq (fun q hq => List.mem_append_left _ hq) (.head _) (hmk.small hS) hsg1 ((if_neg (by decide)).trans ((if_neg (by decide)).trans e1)) (if_pos rfl) k3) ?_ fun _ _ e => e)
    rintro fl s6 ⟨⟨rfl, t6, U6⟩⟩
    refine wpAny_execs_cons (wpAny_mono (u_12e I U6 hq (fun q hq => List.mem_append_left _ hq) (.head _) (hmk.small hS) hsg1 ((if_neg (by decide)).trans ((if_neg (by decide)).trans ((if_neg (by decide)).trans e2))) ((if_neg (by decide)).trans (if_pos rfl)) k4) ?_ fun _ _ e => e)
    rintro fl s7 ⟨⟨rfl, t7, U7⟩⟩
    have hI7 := back _ _ _ _ U7 fun q hq => List.mem_append_right _ (.tail _ (List.mem_append_left _ hq))
    refine wpAny_execs_nil ⟨⟨rfl, ⟨⟨_, f', metM (i + 1) (rs.map (·.2.1)), j', tf, ulf, nff, t6, t7, U7.sub (fun q hq => ?_) (fun q hq => ?_), ?_, ?_, ?_, fun _ => rfl⟩⟩, hI7⟩⟩
    · rcases List.mem_append.mp hq with hq | hq
      · exact List.mem_append_left _ hq
      · rw [List.mem_singleton.mp hq]
        exact List.mem_append_right _ (.tail _ (List.mem_append_right _ (List.mem_append_right _ (.head _))))
    · rcases List.mem_cons.mp hq with h | hq
      · rw [h]; exact .tail _ (List.mem_filter.mpr ⟨.tail _ (List.mem_filter.mpr ⟨.head _, rfl⟩), rfl⟩)
      · rw [List.mem_singleton.mp hq]; exact .head _
    · refine (if_neg (by decide)).trans ((if_pos rfl).trans ?_)
      show _ = some (Value.int (litS _ i + sgn (i + 1) _ * _) _)
      rw [hsg2]
    · refine (if_pos rfl).trans ?_
      show _ = some (Value.int (totS z _ i + sgn (i + 1) _ * _) _)
      rw [hsg2]
    · exact (if_neg (by decide)).trans ((if_neg (by decide)).trans ((if_neg (by decide)).trans ((if_neg (by decide)).trans e3)))
end
end
example : True ∧ True := by walk1 <;> trivial
section
local macro_rules | `(tactic| walk_at "m:flush") => `(tactic| trivial)
example : True ∧ True := by walk1 <;> trivial
end
section
section
variable {w : World} {A : Around} {E : Value → Shared → Prop} {R : Result → Shared → Prop} {s : Shared}
theorem take_mem {α : Type} [DecidableEq α] {ks : List α} {i : Nat} {x : α} (hx : ks[i]? = some x) (k : α) : (decide (k ∈ ks.take i) || decide (k = x)) = decide (k ∈ ks.take (i + 1)) := by
  rw [List.take_add_one, hx]
  rw [Bool.eq_iff_iff]
  simp
theorem take_new {α : Type} {ks : List α} {i : Nat} {x : α} (nd : ks.Nodup) (hx : ks[i]? = some x) : x ∉ ks.take i := fun h => by
  obtain ⟨j, hj, e⟩ := List.mem_iff_getElem.mp h
  rw [List.length_take] at hj
  rw [List.getElem_take] at e
  obtain ⟨hi, e2⟩ := List.getElem?_eq_some_iff.mp hx
  have := (List.getElem_inj nd).mp (e.trans e2.symm)
  omega
/-- a set is told a list of texts, all different -/
theorem strs_loop {I l S : Addr} {vs : List Value} {ks : List Str} (hi : StrsAre vs ks) (nd : ks.Nodup) (hIl : l ≠ I) (hSI : S ≠ I) (hSl : S ≠ l) (hb : ks.length + 1 < scanBound) (hh : A.in1.handled = none) :
    ∀ (k i : Nat) (s : Shared), ks.length - i = k → i ≤ ks.length → s.heap.IsListIter I l i → s.heap.IsList l vs.toArray → s.heap.SetOf (strKind Pg w) S (fun x => decide (x ∈ ks.take i)) i →
      (∀ h' tk, (∀ b o, b ≠ S → b ≠ I → s.heap.get? b = some o → h'.get? b = some o) → h'.SetOf (strKind Pg w) S (fun x => decide (x ∈ ks)) ks.length → R (.ok (.ret .none)) { s with heap := h', toks := tk }) →
      codeAny (MM w) A (.builtin "set.update.loop" ⟨[.ref S, .ref I], []⟩) R s := by
  have W := Walks.list (prog := Pg) (w := w) hh I l hIl vs.toArray
  have hsz : vs.toArray.size = ks.length := by rw [List.size_toArray, hi.length]
  rw [hsz] at W
  have toSet : ∀ {h h' : Heap} {T : Str → Bool} {n : Nat}, h.SetOf (strKind Pg w) S T n → (∀ o, h.get? S = some o → h'.get? S = some o) → h'.SetOf (strKind Pg w) S T n := fun ⟨o, es, ep, t, ho, rest⟩ k => ⟨o, es, ep, t, k o ho, rest⟩
  intro k
  induction k with
  | zero =>
    intro i s hk hle it il hS hR
    obtain rfl : i = ks.length := by omega
    refine codeAny_builtin F.entry_set_update_loop ?_
    rw [Around.under_plainId F.plain_set_update_loop _]
    refine wpAny_bind (W.done s _ _ ⟨it, il⟩ fun h' tk hkp => ?_)
    refine wpAny_pure (hR h' tk (fun b o _ n e => hkp b o (fun q => n (List.mem_singleton.mp q)) e) ?_)
    rw [List.take_length] at hS
    exact toSet hS fun o e => hkp _ _ (fun q => hSI (List.mem_singleton.mp q)) e
  | succ k ih =>
    intro i s hk hle it il hS hR
    have hlt : i < ks.length := by omega
    refine codeAny_builtin F.entry_set_update_loop ?_
    rw [Around.under_plainId F.plain_set_update_loop _]
    refine wpAny_bind (W.item i s _ _ hlt ⟨it, il⟩ fun v h' tk hv ⟨it', il'⟩ hkp => ?_)
    obtain ⟨x, t, rfl, hx⟩ := StrsAre.item hi i v (by rw [← List.getElem?_toArray]; exact hv)
    have hS' := toSet hS fun o e => hkp _ _ (fun q => hSI (List.mem_singleton.mp q)) e
    refine wpAny_bind (wpAny_holding ?_)
    unfold setAdd
    refine wpAny_holding ?_
    refine wpAny_bind ((strKind Pg w).pyHash (k := x) (strKind_is _ _ _ _) ?_)
    refine wpAny_setAddHashed_of (knd := strKind Pg w) (k := x) (strKind_is _ _ _ _) rfl hS' (by omega) fun h2 hsb hS2 => ?_
    have hS3 : h2.SetOf (strKind Pg w) S (fun y => decide (y ∈ ks.take (i + 1))) (i + 1) := SetOf_congr hS2 (fun y => take_mem hx y) (by rw [if_neg (by simpa using take_new nd hx)])
    have k2 : ∀ b o, b ≠ S → h'.get? b = some o → h2.get? b = some o := fun b o n e => (hsb.2 b n).trans e
    refine wpAny_pure ⟨plainId_quiet F.plain_set_update_loop _, ih (i + 1) _ (by omega) hlt (it'.at fun o e => k2 _ _ (Ne.symm hSI) e) (il'.at fun o e => k2 _ _ (Ne.symm hSl) e) hS3 fun h3 tk3 hk3 hS4 => ?_⟩
    exact hR h3 tk3 (fun b o n1 n2 e => hk3 b o n1 n2 (k2 b o n1 (hkp b o (fun q => n2 (List.mem_singleton.mp q)) e))) hS4
abbrev set0 (led : Bool) : Obj := { cls := .type "set", dict := none, data := .set #[] 0 (.fresh 0 0 led) }
local macro_rules | `(tactic| walk_at "m:wp") => `(tactic| (first
  | with_reducible (first
      | refine wpAny_pure ?_ | refine wpAny_bind ?_ | refine wpAny_holding ?_ | refine wpAny_standAt ?_ | refine wpAny_point ?_ | refine wpAny_rule ?_
      | refine wpAny_letGo ?_ | refine wpAny_fresh' ?_ | refine wpAny_alloc' ?_ | refine wpAny_attempt ?_ | refine wpAny_throw ?_
      | refine wpAny_of_eq (by assumption) ?_ | refine wpAny_typeOf (by assumption) ?_
      | refine wpAny_specialOf_val (by assumption) (by assumption) ?_ | refine wpAny_specialOf (by assumption) (by assumption) ?_
      | refine wpAny_isInstance_val (by assumption) (by assumption) ?_ | refine wpAny_isInstance (by assumption) (by assumption) ?_
      | refine wpAny_call ?_ | refine wpAny_runValue ?_ | refine wpAny_run ?_)
  | ((with_reducible apply wpAny_load'); focus (heap_get; done))
  | ((with_reducible apply wpAny_update'); focus (heap_get; done))
  | ((with_reducible apply wpAny_loadPart'); focus (heap_get; done))
  | ((with_reducible apply wpAny_updatePart'); focus (heap_get; done))
  | ((with_reducible apply wpAny_handled_none); focus (assumption; done))
  | ((with_reducible apply wpAny_ite_false); focus (rfl; done))
  | ((with_reducible apply wpAny_ite_true); focus (rfl; done))
  | ((with_reducible apply wpAny_ite_false); focus (simp [*]; done))
  | ((with_reducible apply wpAny_ite_true); focus (simp [*]; done))
  | wp_delta
  | with_reducible_and_instances refine wpAny_pure ?_
  | with_reducible_and_instances refine wpAny_bind ?_))
/-- what __init__ does with a list, up to the loop that it leaves -/
theorem set_init_any {J : Heap → Prop} {a l : Addr} {led : Bool} {vs : List Value} (hh : A.handled = none) (ha : s.heap.get? a = some (set0 led)) (hl : s.heap.IsList l vs.toArray)
    (hloop : ∀ (A' : Around) (I : Addr) (hp : Heap) (R' : Result → Shared → Prop), A'.in1.handled = none → l ≠ I → a ≠ I → a ≠ l → hp.IsListIter I l 0 → hp.IsList l vs.toArray → hp.get? a = some (set0 led) → (∀ b o, s.heap.get? b = some o → hp.get? b = some o ∧ b ≠ I) →
      (∀ h' tk, J h' → R' (.ok (.ret .none)) { s with heap := h', toks := tk }) → codeAny (MM w) A' (.builtin "set.update.loop" ⟨[.ref a, .ref I], []⟩) R' { s with heap := hp })
    (h : ∀ h' tk, J h' → R (.ok (.ret .none)) { s with heap := h', toks := tk }) :
    codeAny (MM w) A (.call (.builtin "set.__init__") ⟨[.ref a, .ref l], []⟩) R s := by
  have hT : s.TypeIs (.ref a) "set" := ⟨_, ha, rfl⟩
  obtain ⟨hp, gn, dr, tk0, os⟩ := s
  dsimp only at ha hl
  refine codeAny_call_builtin F.called_set.init.plain F.entry_set_init (check_set_init_1 hT ?_)
  obtain ⟨⟨c, dct, dt, sl⟩, hol, hcl, nl, hdl⟩ := id hl
  dsimp only at hcl hdl
  subst hcl hdl
  have hsls := F.sub_list_set
  have hslf := F.sub_list_frozenset
  have hne : (Value.type "list" == Value.type "dict") = false := by decide
  unfold Builtin.«set.__init__» noKeywords Builtin.Frozenset.updateFrom
  generalize hPI : pyIter = PI
  repeat walk_at "m:wp"
  subst hPI
  refine wpAny_pyIter_list hl ?_
  refine wpAny_bind (wpAny_runValue ?_)
  have hlt : l < hp.objs.size := Heap.lt_size hol
  have hat : a < hp.objs.size := Heap.lt_size ha
  have hal : a ≠ l := fun q => by
    rw [q, hol] at ha
    injection ha with ha
    injection ha with h1
    injection h1 with h1
    exact absurd h1 (by decide)
  refine hloop _ _ _ _ (by simp [hh]) (Nat.ne_of_lt hlt) (Nat.ne_of_lt hat) hal ⟨_, Heap.get?_push_size _ rfl, rfl, rfl⟩ (hl.push _) (Heap.get?_push_of_some _ ha) (fun b o e => ⟨Heap.get?_push_of_some _ e, Nat.ne_of_lt (Heap.lt_size e)⟩) fun h' tk hJ => ?_
  refine wpAny_pure ?_
  exact wpAny_pure (h h' tk hJ)
theorem set_new_led (a : Value) {Q₁ : Value → Shared → Prop}
    (h : Q₁ (.ref s.heap.objs.size) { s with heap := s.heap.push (set0 (!w.params.followText "set-order")) }) :
    codeAny (MM w) A (.call (.builtin "set.__new__") ⟨[.type "set", a], []⟩) (wants Q₁ E) s := by
  refine codeAny_of_tree ?_
  show wpAny _ A.in1 (do checkBuiltinCall "set.__new__" ⟨[.type "set", a], []⟩; again (.builtin "set.__new__" ⟨[.type "set", a], []⟩)) _ _ s
  refine wpAny_bind (wpAny_of_eq (F.newCall_set_1 a) (wpAny_pure ⟨plainId_quiet F.plain_set_new _, codeAny_builtin F.entry_set_new ?_⟩))
  rw [Around.under_plainId F.plain_set_new _]
  unfold Builtin.«set.__new__» Builtin.Frozenset.newClass
  have hsub := sub_set_self
  obtain ⟨hp, g, d, tk, os⟩ := s
  dsimp only
  repeat walk_at "m:wp"
  refine wpAny_askSetting (wpAny_pure ?_)
  dsimp only
  simp only [newObj]
  refine wpAny_bind (wpAny_alloc (wpAny_pure ?_))
  exact wpAny_pure h
/-- set(list), whatever the loop does -/
theorem call_set_any {J : Heap → Prop} {l : Addr} {vs : List Value} {Q : Value → Shared → Prop} (hh : A.handled = none) (hl : s.heap.IsList l vs.toArray)
    (hloop : ∀ (A' : Around) (I : Addr) (hp : Heap) (R' : Result → Shared → Prop), A'.in1.handled = none → l ≠ I → s.heap.objs.size ≠ I → s.heap.objs.size ≠ l → hp.IsListIter I l 0 → hp.IsList l vs.toArray → hp.get? s.heap.objs.size = some (set0 (!w.params.followText "set-order")) → (∀ b o, s.heap.get? b = some o → hp.get? b = some o ∧ b ≠ I ∧ b ≠ s.heap.objs.size) →
      (∀ h' tk, J h' → R' (.ok (.ret .none)) { s with heap := h', toks := tk }) → codeAny (MM w) A' (.builtin "set.update.loop" ⟨[.ref s.heap.objs.size, .ref I], []⟩) R' { s with heap := hp })
    (h : ∀ h' tk, J h' → Q (.ref s.heap.objs.size) { s with heap := h', toks := tk }) :
    wpAny (MM w) A (call (.type "set") [.ref l]) Q E s := by
  obtain ⟨c, tl, hmro⟩ := F.called_set.mro
  have hmade := F.called_set.made
  have hsub := F.called_set.sub
  have h1 := F.called_set.notType
  have h2 := F.called_set.canCreate
  have hct := F.typeCall_set_1 (.ref l)
  refine wpAny_call (codeAny_of_tree ?_)
  show wpAny _ _ (callAny (.type "set") _) _ _ _
  refine wpAny_pure ⟨Code.quiet_builtin _ (by decide +kernel), codeAny_builtin F.entry_type_call ?_⟩
  rw [Around.under_plain (weight_type_call_type "set" [.ref l] []) rfl]
  repeat (any_goals (first | assumption | walk_at "m:wp"))
  refine codeAny_mono (set_new_led (w := w) (.ref l) (E := E) (Q₁ := fun obj s₁ => obj = .ref s.heap.objs.size ∧ s₁ = { s with heap := s.heap.push (set0 (!w.params.followText "set-order")) }) ⟨rfl, rfl⟩) fun r s₁ hr => ?_
  have hr2 : (r = .ok (.ret (.ref s.heap.objs.size)) ∧ s₁ = { s with heap := s.heap.push (set0 (!w.params.followText "set-order")) }) ∨ ∃ e, r = .error e ∧ E e s₁ := by
    cases r with
    | error e => exact .inr ⟨e, rfl, hr⟩
    | ok fl =>
      cases fl with
      | ret obj => obtain ⟨rfl, q⟩ := hr; exact .inl ⟨rfl, q⟩
      | _ => exact hr.elim
  obtain ⟨led, hled⟩ : ∃ led, led = !w.params.followText "set-order" := ⟨_, rfl⟩
  rw [← hled] at hr2
  obtain ⟨rfl, rfl⟩ | ⟨e, rfl, hE⟩ := hr2
  · have hS : (s.heap.push (set0 led)).get? s.heap.objs.size = some (set0 led) := Heap.get?_push_size _ rfl
    have hT : Shared.TypeIs { s with heap := s.heap.push (set0 led) } (.ref s.heap.objs.size) "set" := ⟨_, hS, rfl⟩
    have hli := F.called_set.init.lookup
    have hbi := F.called_set.init.bind (.ref s.heap.objs.size)
    repeat (any_goals (first | assumption | walk_at "m:wp"))
    refine set_init_any (J := J) (A := _) (by simp [hh]) hS (hl.push _) (fun A' I hp R' q1 q2 q3 q4 q5 q6 q7 q8 q9 => hloop A' I hp R' q1 q2 q3 q4 q5 q6 (hled ▸ q7) (fun b o e => ⟨(q8 b o (Heap.get?_push_of_some _ e)).1, (q8 b o (Heap.get?_push_of_some _ e)).2, Nat.ne_of_lt (Heap.lt_size e)⟩) q9) fun h' tk hJ => ?_
    dsimp only
    repeat (any_goals (first | assumption | walk_at "m:wp"))
    exact h h' tk hJ
  · exact hE
theorem call_set_strs {l : Addr} {vs : List Value} {ks : List Str} {Q : Value → Shared → Prop} (hh : A.handled = none) (hl : s.heap.IsList l vs.toArray) (hi : StrsAre vs ks) (nd : ks.Nodup) (hb : ks.length + 1 < scanBound)
    (h : ∀ h' tk, (∀ b o, s.heap.get? b = some o → h'.get? b = some o) → h'.SetOf (strKind Pg w) s.heap.objs.size (fun x => decide (x ∈ ks)) ks.length → Q (.ref s.heap.objs.size) { s with heap := h', toks := tk }) :
    wpAny (MM w) A (call (.type "set") [.ref l]) Q E s := by
  refine call_set_any (J := fun h' => (∀ b o, s.heap.get? b = some o → h'.get? b = some o) ∧ h'.SetOf (strKind Pg w) s.heap.objs.size (fun x => decide (x ∈ ks)) ks.length) hh hl ?_ fun h' tk ⟨hk, hS⟩ => h h' tk hk hS
  intro A' I hp R' h1 h2 h3 h4 hI hL hS k hR
  refine strs_loop hi nd h2 h3 h4 hb h1 ks.length 0 _ rfl (Nat.zero_le _) hI hL ?_ fun h' tk hk hS' => hR h' tk ⟨fun b o e => hk b o (k b o e).2.2 (k b o e).2.1 (k b o e).1, hS'⟩
  exact SetOf_congr ((setObjOf_fresh (knd := strKind Pg w) _).setOf hS (by decide)) (fun k => by simp) rfl
end
end
example : True ∧ True := by walk1 <;> trivial
section
local macro_rules | `(tactic| walk_at "m:flush") => `(tactic| trivial)
example : True ∧ True := by walk1 <;> trivial
end
section
local macro_rules | `(tactic| walk_at "storeName") => `(tactic| ((with_reducible show wpAny _ _ (storeName _ (PySem.Str.ofString "sets") _) _ _ _); (with_reducible refine stop_here ?_)))
local macro_rules | `(tactic| walk_at "call type:set") => `(tactic| (with_reducible refine stop_here ?_))
section
variable {w : World} {g : Heap} {s0 s : Shared} {L : Addr} {e b z far : Int} {sp : Addr} {G : Fa} {gs : List B3} {kg : Int} {W : B3} {C : Fa} {cs : List Int} {kc : Int} {rs : List B3} {rl pl : Addr} {put : List Str} {ex : List (Addr × Obj)} {m : Str → Option Value} {key : Str} {script : Addr} {ns : List Int} {cv cv' : List (Nat × Value)} {xs : List (Addr × Obj)} {wl : Addr} {wv : List Value}
/-- whether a filter's bits say yes to a word -/
noncomputable def yes (b far z mk : Int) (y : Str) : Bool := chk b mk (spell far z y)
def strP (P : Str → Bool) (v : Value) : Bool := match v with
  | .str y _ => P y
  | _ => false
theorem strs_filter {P : Str → Bool} : ∀ {vs : List Value} {ws : List Str}, StrsAre vs ws → StrsAre (vs.filter (strP P)) (ws.filter P)
  | _, _, .nil => .nil
  | _, _, .cons y t h => by
    rw [List.filter_cons, List.filter_cons]
    have e : strP P (.str y t) = P y := rfl
    rw [e]
    cases P y
    · exact strs_filter h
    · exact .cons y t (strs_filter h)
theorem paired_eq {α : Type} : ∀ {xs ys : List α}, Paired (fun x y => x = y) xs ys → xs = ys
  | _, _, .nil => rfl
  | _, _, .cons h t => by rw [h, paired_eq t]
theorem words_nodup (hS : Sz e b z) : (wordsOf b z).Nodup := by
  rcases hS with ⟨rfl, rfl, rfl⟩ | ⟨rfl, rfl, rfl⟩ | ⟨rfl, rfl, rfl⟩ | ⟨rfl, rfl, rfl⟩ <;> decide +kernel
theorem words_len (hz : z = 1 ∨ z = 2) : ∀ y ∈ wordsOf b z, (y.length : Int) = z ∧ y.length ≤ sizeLine := fun y hy => by
  obtain ⟨i, _, rfl⟩ := List.mem_map.mp hy
  have := wd_len (b := b) (n := (i : Int)) hz
  exact ⟨this, Nat.le_trans (show _ ≤ 2 by omega) (by decide)⟩
/-- a set object of just these texts -/
def SetObj (w : World) (o : Obj) (ks : List Str) : Prop := o.SetObjOf (PySem.strKind Pg w) (fun x => decide (x ∈ ks)) ks.length
theorem SetObj.xo {o : Obj} {ks : List Str} (h : SetObj w o ks) : Xo o := by
  obtain ⟨⟨h1, _⟩, es, ep, t, hd, _⟩ := h
  exact ⟨by rw [h1]; nofun, fun v e => by rw [hd] at e; cases e⟩
/-- the sets of a row's words -/
def SetsAre (w : World) (b far z : Int) (ws : List Str) : List B3 → List (Addr × Obj) → Prop := Paired fun q so => SetObj w so.2 (ws.filter (yes b far z q.2.1))
theorem sets_of {P : B3 → Obj → Prop} {s1 : Shared} {h : Heap} : ∀ {rr : List B3} {ys : List Value} {R : List B3}, Paired (fun x y => ∃ g' : Heap, (∀ b, g'.get? b = none → s1.heap.get? b = none) ∧ Stp (∃ sa o, y = Value.ref sa ∧ g'.get? sa = none ∧ h.get? sa = some o ∧ ∀ q ∈ R, x = Value.ref q.1.x → P q o)) (refsOf rr) ys → (∀ q ∈ rr, q ∈ R) →
    ∃ ss : List (Addr × Obj), Paired (fun q so => P q so.2) rr ss ∧ ys = ss.map (fun q => Value.ref q.1) ∧ ∀ q ∈ ss, h.get? q.1 = some q.2 ∧ s1.heap.get? q.1 = none
  | [], [], _, _, _ => ⟨[], .nil, rfl, fun _ h => absurd h List.not_mem_nil⟩
  | q :: rr, y :: ys, R, .cons ⟨g', hg, ⟨sa, o, e1, e2, e3, e4⟩⟩ t, hR => by
    obtain ⟨ss, h1, h2, h3⟩ := sets_of t fun q hq => hR q (.tail _ hq)
    refine ⟨(sa, o) :: ss, .cons (e4 q (hR q (.head _)) rfl) h1, by rw [e1, h2]; rfl, fun r hr => ?_⟩
    rcases List.mem_cons.mp hr with hh | hr
    · rw [hh]; exact ⟨e3, hg _ e2⟩
    · exact h3 r hr
set_option maxHeartbeats 4000000 in
theorem u_13 (I : LawIn w g s0 script ns) (U : US w g s0 L e b z far sp G gs kg W C cs kc rs rl pl put m cv xs s) {ql : B3} (hq : ql ∈ rs) (hlen : rs.length ≤ 3) (hrl : m (Str.ofString "row") = some (.ref rl)) (hc8 : (8, .ref wl) ∈ cv) (hwl : (wl, lst wv) ∈ xs) (hwv : StrsAre wv (wordsOf b z)) {bo : Stmt} (hbo : lawStm w.params 13 = bo) :
    wpAny (MM w) ((aM 10 10).deeper (lawEnv w.params L)) (exec bo (lawEnv w.params L)) (fun fl s' => Stp (fl = .next ∧ ∃ sl ss, SetsAre w b far z (wordsOf b z) rs ss ∧ US w g s0 L e b z far sp G gs kg W C cs kc rs rl pl put m (setc 11 (.ref sl) cv) ((sl, lst (ss.map fun q => Value.ref q.1)) :: ss ++ xs) s')) NoE s := by
  obtain ⟨oB, oZ, oG, oW, oC, oP, tb, tz, n1, n2, vs, tG, tW, tC, tq, dB, dZ, dG, dW, dC, dP, hvs, N⟩ := U.led0 hq
  obtain ⟨oM, dM, eM, nM1, nM2⟩ := U.cellAt hc8
  replace N := U.item (news_one N (a := L + 1 + 1 + 1 + 1 + 1 + 1 + 1 + 1) eM nM1 nM2) hwl
  have hnd := words_nodup U.X.hS
  have hz := U.X.hS.z
  have hwl25 : wv.length ≤ 25 := by
    rw [hwv.length, wordsOf, List.length_map, List.length_range]; exact (sz_pow U.X.hS).2.1
  have F := U.F
  have CX := I.cx.keeps (gz_some I.st)
  have X := CX.K
  obtain ⟨loose, mean, mg, mb, TT⟩ := CX.T
  unfold lawStm lawBody lawOf at hbo
  conv at hbo => lhs; whnf
  subst hbo
  delta lawEnv
  generalize hsc : lawScope w.params = sc
  unfold lawScope lawOf at hsc
  conv at hsc => lhs; whnf
  subst hsc
  simp only [ledOf, List.cons_append, List.nil_append] at N
  obtain ⟨hp, gn, dr, tk, os⟩ := s
  have hos := U.os
  have hbare := U.bare
  dsimp only at F N hos hbare ⊢
  subst hos
  walk_at "m:steps"
  unfold Stopped
  refine comp_gen (tb := []) (Inv := fun _ => True) (Bd := bdC) (n := (refsOf rs).toArray.size) (P := fun i v => (refsOf rs).toArray[i]? = some v) (fun _ => rfl) rfl rfl (by decide) ?_ (fun _ => true)
    (fun g' h v y => Stp (∃ sa o, y = .ref sa ∧ g'.get? sa = none ∧ h.get? sa = some o ∧ ∀ q ∈ rs, v = .ref q.1.x → SetObj w o ((wordsOf b z).filter (yes b far z q.2.1)))) (fun _ _ _ _ _ ⟨sa, o, h1, h2, h3, h4⟩ k => ⟨sa, o, h1, h2, k _ _ h2 h3, h4⟩) ?_
  · rw [List.size_toArray, List.length_map]; exact Nat.le_trans hlen (by decide)
  walk_at "m:steps"
  unfold Stopped
  (rename Fr _ _ _ _ => F2); (rename News _ _ _ _ => N2)
  refine ⟨_, ok_cell tb_nil trivial (it_list rfl (News.isList N2 (by k_mem))) (fun _ => rfl) (fun _ => rfl) rfl (fun _ => rfl) (fun _ _ _ _ _ _ _ _ _ _ => wpAny_tests_nil ⟨rfl, Af.refl _, trivial⟩) ?_, ?_⟩
  · rintro C' i v s₃ hi hv _ hc hC af _
    obtain ⟨q, hqr, rfl⟩ : ∃ q ∈ rs, v = Value.ref q.1.x := by
      rw [List.getElem?_toArray, List.getElem?_map] at hv
      cases e1 : rs[i]? with
      | none => rw [e1] at hv; cases hv
      | some q => rw [e1] at hv; cases hv; exact ⟨q, List.mem_of_getElem? e1, rfl⟩
    obtain ⟨oO, eO, dO⟩ := hc
    have F3 := fr_af F2 af
    have N3 := news_af N2 af
    have gone : ∀ {a : Addr} {o : Obj}, hp.get? a = some o → @Ne Nat (C' + 1) a := fun {a o} e1 q => Nat.lt_irrefl a (Nat.lt_of_lt_of_le (Heap.lt_size e1) (Nat.le_trans hC (Nat.le_trans (Nat.le_succ C') (Nat.le_of_eq q))))
    replace N3 := news_one N3 (a := C' + 1) eO (by obtain ⟨oL, _, _, e1, _⟩ := F2.ns; exact gone e1) (by
      cases h : (gz g s0.heap).get? (C' + 1) with
      | none => rfl
      | some o => exact absurd rfl (gone (F2.keep _ _ h)))
    have k3 : ∀ b o, hp.get? b = some o → s₃.heap.get? b = some o := fun b o e => af.keep b o e List.not_mem_nil
    have hC3 : hp.objs.size ≤ C' := hC
    have RB := U.X.RB
    have SP := U.X.Sp
    have HS := U.X.hS
    clear F2 N2
    obtain ⟨h₃, gs₃, d₃, t₃, os₃⟩ := s₃
    dsimp only at k3 F3 N3
    change wpAny (MM w) _ (eval _ (compEnvC _ ((Str.ofString "one", C' + 1) :: _) C' _)) _ _ _
    walk_at "m:steps"
    unfold Stopped
    refine comp_gen (tb := []) (Inv := fun _ => True) (Bd := bdN (Str.ofString "word")) (n := wv.toArray.size) (P := fun i v => wv.toArray[i]? = some v) (fun _ => rfl) rfl rfl (by decide) (by rw [List.size_toArray]; exact Nat.le_trans hwl25 (by decide)) (strP (yes b far z q.2.1)) (fun _ _ v y => Stp (v = y)) (fun _ _ _ _ _ h _ => h) ?_
    walk_at "m:steps"
    unfold Stopped
    refine ⟨_, ok_name tb_nil trivial (it_list rfl (News.isList N3 (by k_mem))) (by decide) rfl rfl ?_ ?_, ?_⟩
    · rintro C2 i2 v2 mm s4 hi2 hv2 hn4 hm4 hC2 af4 _
      obtain ⟨y, ty, rfl, hy⟩ := StrsAre.item hwv i2 v2 (by rw [← List.getElem?_toArray]; exact hv2)
      obtain ⟨hyz, hys⟩ := words_len hz y (List.mem_of_getElem? hy)
      obtain ⟨F4, N4⟩ := elt_base F3 N3 hC2 hn4 (fun b o e => af4.keep b o e (by simp))
      have k4 : ∀ b o, hp.get? b = some o → s4.heap.get? b = some o := fun b o e => af4.keep b o (k3 b o e) List.not_mem_nil
      have lt4 : ∀ {a : Addr} {o : Obj}, hp.get? a = some o → @Ne Nat a C2 := fun e1 => Nat.ne_of_lt (Nat.lt_of_lt_of_le (Heap.lt_size (k3 _ _ e1)) hC2)
      have Bq := (RB q hqr).kp (h' := s4.heap) fun b o _ e => k4 b o e
      obtain ⟨td0, od0⟩ := (RB q hqr).d
      replace N4 := news_one (news_one N4 Bq.x.at_ (lt4 (RB q hqr).x.at_) (gz_none Bq.x.new)) (k4 _ _ od0.at_) (lt4 od0.at_) (gz_none od0.new)
      clear F3 N3
      obtain ⟨h4, gs4, d4, t4, os4⟩ := s4
      refine wpAny_tests_one ?_
      walk_at "m:steps"
      unfold Stopped
      refine c_contains I.cx (fun b o e => F4.keep b o (gz_some I.st b o e)) (rm_deep (by decide) (by decide)) HS Bq (SP.kp k4) hys hyz ?_
      intro bb s' hbb af'
      obtain ⟨h5, gs5, d5, t5, os5⟩ := s'
      dsimp only
      walk_at "m:steps"
      · exact af'.tr (s := ⟨h4, gs4, d4, t4, os4⟩) (Af.refl _) (by simp) (by simp)
      · trivial
    · rintro C2 i2 v2 mm s4 hi2 hv2 _ hn4 hm4 hC2 af4 _
      obtain ⟨F4, N4⟩ := elt_base F3 N3 hC2 hn4 (fun b o e => af4.keep b o e (by simp))
      clear F3 N3
      obtain ⟨h4, gs4, d4, t4, os4⟩ := s4
      walk_at "m:steps"
      · exact ⟨rfl⟩
      · exact Af.refl _
      · trivial
    · intro D s5 xs5 ys ce
      have hxs : xs5 = wv := src_all (by rw [ce.len]) ce.src
      have hys : ys = wv.filter (strP (yes b far z q.2.1)) := by
        have := paired_eq (paired_imp (fun _ _ ⟨_, _, h⟩ => h.p) ce.out)
        rw [hxs] at this; exact this.symm
      have hst := strs_filter (P := yes b far z q.2.1) hwv
      rw [← hys] at hst
      obtain ⟨F5, N5⟩ := after_gen F3 N3 ce.af ce.new ce.at_
      have af5 := ce.af
      have hl5 : s5.heap.IsList D ys.toArray := ⟨_, ce.at_, rfl, _, rfl⟩
      clear F3 N3 ce
      obtain ⟨h5, gs5, d5, t5, os5⟩ := s5
      dsimp only at F5 N5 hl5 ⊢
      walk_at "m:steps"
      unfold Stopped
      refine call_set_strs rfl hl5 hst (hnd.filter _) (Nat.lt_of_le_of_lt (Nat.succ_le_succ (List.length_filter_le _ _)) (by rw [← hwv.length]; exact Nat.lt_of_le_of_lt (Nat.succ_le_succ hwl25) (by decide))) ?_
      intro h6 tk6 k6 hset
      obtain ⟨o6, e6, so6⟩ := hset.objOf
      refine ⟨⟨_, o6, rfl, ?_, e6, fun r hr e => ?_⟩, ?_, trivial⟩
      · cases h : h₃.get? h5.objs.size with
        | none => rfl
        | some o => exact absurd (Heap.lt_size (af5.keep _ _ h List.not_mem_nil)) (Nat.lt_irrefl _)
      · injection e with e
        rw [← (RB q hqr).same (RB r hr) e]
        exact so6
      · exact Af.tr af5 (s' := ⟨h6, gs5, d5, tk6, os5⟩) (c := []) (d := []) (e := []) (s2 := ⟨h5, gs5, d5, t5, os5⟩) ⟨fun b o e _ => k6 b o e, rfl, id⟩ (by simp) (by simp)
  · intro D s' xs' ys ce
    have hxs : xs' = refsOf rs := src_all (by rw [ce.len]) ce.src
    have hout := ce.out
    rw [List.filter_eq_self.mpr (fun _ _ => rfl), hxs] at hout
    obtain ⟨ss, hss, hys, hat⟩ := sets_of (s1 := ⟨hp, gn, dr, tk, s0.os⟩) (h := s'.heap) (P := fun q o => SetObj w o ((wordsOf b z).filter (yes b far z q.2.1))) hout (fun _ h => h)
    subst hys
    obtain ⟨F3, N3⟩ := after_gen F2 N2 ce.af ce.new ce.at_
    have U3 := (U.seg (d := s'.drawn) (t := s'.toks) F3 N3 (by walk_at "m:rest") (ce.af.gens hbare))
    have hos3 := ce.af.os
    have kL : ∀ {a : Addr}, hp.get? a = none → @Ne Nat a L ∧ (gz g s0.heap).get? a = none := fun {a} e1 => by
      refine ⟨fun q => ?_, none_back F2.keep e1⟩
      obtain ⟨oL, _, _, e2, _⟩ := F2.ns
      rw [show a = L from q, e2] at e1; cases e1
    have hD := kL ce.new
    have hDa := ce.at_
    obtain ⟨h3, gs3, d3, t3, os3⟩ := s'
    dsimp only at hos3 F3 N3 hDa hat ⊢
    subst hos3
    clear F2 N2 ce
    walk_at "m:steps"
    unfold Stopped
    have U4 : US w g s0 L e b z far sp G gs kg W C cs kc rs rl pl put m cv ((D, lst (ss.map fun q => Value.ref q.1)) :: ss ++ xs) ⟨h3, gs3, d3, t3, s0.os⟩ := by
      refine ⟨U3.X, U3.F, U3.cv, fun q hq => ?_, U3.os, U3.bare⟩
      rcases List.mem_append.mp hq with hq | hq
      · rcases List.mem_cons.mp hq with hh | hq
        · subst hh; exact ⟨hDa, ⟨nofun, nofun⟩, hD⟩
        · obtain ⟨a1, a2⟩ := hat q hq
          obtain ⟨r, hr⟩ := Paired.right hss q hq
          exact ⟨a1, hr.xo, kL a2⟩
      · exact U3.xs q hq
    obtain ⟨v0, o0, e0, d0⟩ := U4.X.cells.ce 11 (by decide) (by decide)
    refine wpAny_storeName_cell (c := L + 11) rfl rfl rfl ⟨o0, e0, d0⟩ fun h' hv hs => ?_
    exact ⟨⟨by trivial, D, ss, hss, U4.setc (by decide) (by decide) hs hv⟩⟩
end
end
example : True ∧ True := by walk1 <;> trivial
section
local macro_rules | `(tactic| walk_at "m:flush") => `(tactic| trivial)
example : True ∧ True := by walk1 <;> trivial
end
section
local macro_rules | `(tactic| walk_at "exec Assign cons ListComp") => `(tactic| (with_reducible refine stop_here ?_))
section
variable {w : World} {g : Heap} {s0 s : Shared} {L : Addr} {e b z far : Int} {sp : Addr} {G : Fa} {gs : List B3} {kg : Int} {W : B3} {C : Fa} {cs : List Int} {kc : Int} {rs : List B3} {rl pl : Addr} {put : List Str} {ex : List (Addr × Obj)} {m : Str → Option Value} {key : Str} {script : Addr} {ns : List Int} {cv cv' : List (Nat × Value)} {xs : List (Addr × Obj)} {wl : Addr} {wv : List Value}
theorem wrs_t {h : Heap} {a : Addr} {ps : Array Value} {l c : Int} (n : @Ne Nat 571 a) (k : TabOk l c ps) (x : h.get? a = some (PySem.W.tabObj ps)) : Wrs h [] [] [a] := ⟨fun _ h => absurd h List.not_mem_nil, fun _ h => absurd h List.not_mem_nil, fun c hc => by rw [List.mem_singleton.mp hc]; exact ⟨n, ps, _, _, k, x⟩⟩
/-- a table was told more -/
theorem LS.t2On (X : LS w g s.heap L e b z far sp G gs kg W C cs kc rs rl pl put ex) {s' : Shared} (af : Af [419] s s') (t2 : ∃ ps, TabOk 262 19 ps ∧ s'.heap.get? 419 = some (PySem.W.tabObj ps)) : LS w g s'.heap L e b z far sp G gs kg W C cs kc rs rl pl put ex := by
  obtain ⟨ps, pk, ot⟩ := X.t2
  obtain ⟨ps', pk', ot'⟩ := t2
  have O := X.offs (ls := []) (ds := []) (ts := [419]) (wrs_t (by decide) pk ot.at_) af
  exact ⟨X.hS, O.S, O.E nofun nofun (fun _ _ => ⟨nofun, nofun⟩), O.WB nofun nofun, O.CC nofun nofun, fun q hq => O.RB q hq nofun nofun, O.hrl nofun, O.hpl nofun, O.cells, O.t1, ⟨ps', pk', ot', ot.new⟩, O.t3 (by decide), O.xs (fun _ _ => nofun), X.al, X.ad⟩
theorem LS.t3On (X : LS w g s.heap L e b z far sp G gs kg W C cs kc rs rl pl put ex) {s' : Shared} (af : Af [515] s s') (t3 : ∃ ps, TabOk 324 19 ps ∧ s'.heap.get? 515 = some (PySem.W.tabObj ps)) : LS w g s'.heap L e b z far sp G gs kg W C cs kc rs rl pl put ex := by
  obtain ⟨ps, pk, ot⟩ := X.t3
  obtain ⟨ps', pk', ot'⟩ := t3
  have O := X.offs (ls := []) (ds := []) (ts := [515]) (wrs_t (by decide) pk ot.at_) af
  exact ⟨X.hS, O.S, O.E nofun nofun (fun _ _ => ⟨nofun, nofun⟩), O.WB nofun nofun, O.CC nofun nofun, fun q hq => O.RB q hq nofun nofun, O.hrl nofun, O.hpl nofun, O.cells, O.t1, O.t2 (by decide), ⟨ps', pk', ot', ot.new⟩, O.xs (fun _ _ => nofun), X.al, X.ad⟩
theorem US.tab (U : US w g s0 L e b z far sp G gs kg W C cs kc rs rl pl put m cv xs s) {s' : Shared} {m' : Str → Option Value} {P : Addr} (hP : (P = 419 ∧ ∃ ps, TabOk 262 19 ps ∧ s'.heap.get? 419 = some (PySem.W.tabObj ps)) ∨ (P = 515 ∧ ∃ ps, TabOk 324 19 ps ∧ s'.heap.get? 515 = some (PySem.W.tabObj ps)))
    (k : ∀ b o, @Ne Nat b P → @Ne Nat b L → s.heap.get? b = some o → s'.heap.get? b = some o) (hn : s'.heap.Ns L m') (ho : s'.os = s.os) (hb : AllBare s'.gens) : US w g s0 L e b z far sp G gs kg W C cs kc rs rl pl put m' cv xs s' := by
  obtain ⟨pt, pn, ht, hg, ps', hps, hX⟩ : ∃ pt pn, s.heap.get? P = some (PySem.W.tabObj pt) ∧ pn = g.get? P ∧ ∃ ps', s'.heap.get? P = some (PySem.W.tabObj ps') ∧
      ∀ s1 : Shared, Af [P] s s1 → s1.heap.get? P = some (PySem.W.tabObj ps') → LS w g s1.heap L e b z far sp G gs kg W C cs kc rs rl pl put [] := by
    rcases hP with ⟨rfl, ps', pk, e1⟩ | ⟨rfl, ps', pk, e1⟩
    · obtain ⟨ps, _, o⟩ := U.X.t2
      exact ⟨ps, _, o.at_, rfl, ps', e1, fun s1 af e2 => U.X.t2On af ⟨ps', pk, e2⟩⟩
    · obtain ⟨ps, _, o⟩ := U.X.t3
      exact ⟨ps, _, o.at_, rfl, ps', e1, fun s1 af e2 => U.X.t3On af ⟨ps', pk, e2⟩⟩
  have hbase : g.get? P = none := by
    rcases hP with ⟨rfl, _⟩ | ⟨rfl, _⟩
    · obtain ⟨_, _, o⟩ := U.X.t2; exact o.new
    · obtain ⟨_, _, o⟩ := U.X.t3; exact o.new
  have hs := Heap.SameBut.update s.heap P (fun _ => PySem.W.tabObj ps')
  have h1 : (s.heap.update P (fun _ => PySem.W.tabObj ps')).get? P = some (PySem.W.tabObj ps') := Heap.get?_update_self _ ht rfl
  have nPL : @Ne Nat P L := ns_ne U.F.ns ht nofun
  have X1 := hX ⟨s.heap.update P (fun _ => PySem.W.tabObj ps'), s.gens, s.drawn, s.toks, s.os⟩ ⟨fun b o e1 n => (hs.2 b (fun q => n (List.mem_singleton.mpr q))).trans e1, rfl, id⟩ h1
  have k1 : ∀ c o, @Ne Nat c L → (s.heap.update P (fun _ => PySem.W.tabObj ps')).get? c = some o → s'.heap.get? c = some o := fun c o n e1 => by
    by_cases q : c = P
    · rw [q, h1] at e1; cases e1; rw [q]; exact hps
    · exact k c o q n ((hs.2 c q).symm.trans e1)
  have neP : ∀ {c : Addr} {o : Obj}, s.heap.get? c = some o → o ≠ PySem.W.tabObj pt → @Ne Nat c P := fun {c o} e1 n q => by
    rw [show c = P from q, ht] at e1; exact n (Option.some.inj e1).symm
  refine ⟨X1.seg ⟨m, (U.F.ns.at' fun o e => (hs.2 L (Ne.symm nPL)).trans e)⟩ k1, ⟨hn, fun b o e1 => k b o (fun q => ?_) (Nat.ne_of_lt (Nat.lt_of_lt_of_le (Heap.lt_size e1) U.F.above)) (U.F.keep _ _ e1), U.F.above⟩, fun q hq => ?_, fun q hq => ?_, ho.trans U.os, hb⟩
  · rw [show b = P from q, gz_none hbase] at e1; cases e1
  · obtain ⟨a, c, o, e1, d1⟩ := U.cv q hq
    exact ⟨a, c, o, k _ _ (neP e1 (fun h => by rw [h] at d1; cases d1)) (Nat.ne_of_gt (Nat.lt_add_of_pos_right (k := q.1) (by omega))) e1, d1⟩
  · obtain ⟨a, x, n, r⟩ := U.xs q hq
    exact ⟨k _ _ (neP a (fun h => x.1 (by rw [h]))) n a, x, n, r⟩
set_option maxHeartbeats 4000000 in
theorem u_16 (I : LawIn w g s0 script ns) (U : US w g s0 L e b z far sp G gs kg W C cs kc rs rl pl put m cv xs s) {ql : B3} (hq : ql ∈ rs) (hc8 : (8, .ref wl) ∈ cv) (hwl : (wl, lst wv) ∈ xs) (hwv : StrsAre wv (wordsOf b z)) {bo : Stmt} (hbo : lawStm w.params 16 = bo) :
    wpAny (MM w) ((aM 10 10).deeper (lawEnv w.params L)) (exec bo (lawEnv w.params L)) (fun fl s' => Stp (fl = .next ∧ ∃ D ys, StrsAre ys ((wordsOf b z).filter (yes b far z W.2.1)) ∧ US w g s0 L e b z far sp G gs kg W C cs kc rs rl pl put (fun y => if y = Str.ofString "every" then some (.ref D) else m y) cv ((D, lst ys) :: xs) s')) NoE s := by
  obtain ⟨oB, oZ, oG, oW, oC, oP, tb, tz, n1, n2, vs, tG, tW, tC, tq, dB, dZ, dG, dW, dC, dP, hvs, N⟩ := U.led0 hq
  obtain ⟨oM, dM, eM, nM1, nM2⟩ := U.cellAt hc8
  replace N := U.item (news_one N (a := L + 1 + 1 + 1 + 1 + 1 + 1 + 1 + 1) eM nM1 nM2) hwl
  have BQ : BF w e b z sp g s.heap W.1 W.2.1 W.2.2 := U.X.WB
  have hz := U.X.hS.z
  have HS := U.X.hS
  have SP := U.X.Sp
  have hwl25 : wv.length ≤ 25 := by
    rw [hwv.length, wordsOf, List.length_map, List.length_range]; exact (sz_pow U.X.hS).2.1
  have F := U.F
  have CX := I.cx.keeps (gz_some I.st)
  have X := CX.K
  obtain ⟨loose, mean, mg, mb, TT⟩ := CX.T
  unfold lawStm lawBody lawOf at hbo
  conv at hbo => lhs; whnf
  subst hbo
  delta lawEnv
  generalize hsc : lawScope w.params = sc
  unfold lawScope lawOf at hsc
  conv at hsc => lhs; whnf
  subst hsc
  simp only [ledOf, List.cons_append, List.nil_append] at N
  obtain ⟨hp, gn, dr, tk, os⟩ := s
  have hos := U.os
  have hbare := U.bare
  dsimp only at F N hos hbare ⊢
  subst hos
  dsimp only at BQ SP
  walk_at "m:steps"
  unfold Stopped
  refine comp_use (tb := []) (Inv := fun _ => True) (Bd := bdN (Str.ofString "word")) (n := wv.toArray.size) (P := fun i v => wv.toArray[i]? = some v) rfl (fun _ => rfl) rfl rfl (by decide) rfl rfl (by rw [List.size_toArray]; exact Nat.le_trans hwl25 (by decide)) (strP (yes b far z W.2.1)) (fun _ _ v y => Stp (v = y)) (fun _ _ _ _ _ h _ => h) ?_
  walk_at "m:steps"
  unfold Stopped
  refine ⟨_, ok_name tb_nil trivial (it_list rfl (News.isList N (by k_mem))) (by decide) rfl rfl ?_ ?_, _, F.ns, ?_⟩
  · rintro C2 i2 v2 mm2 s4 hi2 hv2 hn4 hm4 hC2 af4 _
    obtain ⟨y, ty, rfl, hy⟩ := StrsAre.item hwv i2 v2 (by rw [← List.getElem?_toArray]; exact hv2)
    obtain ⟨hyz, hys⟩ := words_len hz y (List.mem_of_getElem? hy)
    obtain ⟨F4, N4⟩ := elt_base F N hC2 hn4 (fun b o e => af4.keep b o e (by simp))
    have k4 : ∀ b o, hp.get? b = some o → s4.heap.get? b = some o := fun b o e => af4.keep b o e List.not_mem_nil
    have B4 := BQ.kp (h' := s4.heap) fun b o _ e => k4 b o e
    clear F N
    obtain ⟨h4, gs4, d4, t4, os4⟩ := s4
    refine wpAny_tests_one ?_
    walk_at "m:steps"
    unfold Stopped
    refine c_contains I.cx (fun b o e => F4.keep b o (gz_some I.st b o e)) (rm_deep (by decide) (by decide)) HS B4 (SP.kp k4) hys hyz ?_
    intro bb s' hbb af'
    obtain ⟨h5, gs5, d5, t5, os5⟩ := s'
    dsimp only
    walk_at "m:steps"
    · exact af'.tr (s := ⟨h4, gs4, d4, t4, os4⟩) (Af.refl _) (by simp) (by simp)
    · trivial
  · rintro C2 i2 v2 mm2 s4 hi2 hv2 _ hn4 hm4 hC2 af4 _
    obtain ⟨F4, N4⟩ := elt_base F N hC2 hn4 (fun b o e => af4.keep b o e (by simp))
    clear F N
    obtain ⟨h4, gs4, d4, t4, os4⟩ := s4
    walk_at "m:steps"
    · exact ⟨rfl⟩
    · exact Af.refl _
    · trivial
  · intro D s' xs5 ys ce hns
    have hxs : xs5 = wv := src_all (by rw [ce.len]) ce.src
    have hys : ys = wv.filter (strP (yes b far z W.2.1)) := by
      have := paired_eq (paired_imp (fun _ _ ⟨_, _, h⟩ => h.p) ce.out)
      rw [hxs] at this; exact this.symm
    have hst := strs_filter (P := yes b far z W.2.1) hwv
    rw [← hys] at hst
    obtain ⟨F6, N6⟩ := after_use F N ce.af ce.new ce.at_ hns
    have U6 := (U.seg (d := s'.drawn) (t := s'.toks) F6 N6 (by walk_at "m:rest") (ce.af.gens hbare)).obj N6 (.head _) ⟨nofun, nofun⟩
    have hos6 := ce.af.os
    obtain ⟨h6, gs6, d6, t6, os6⟩ := s'
    dsimp only at hos6
    subst hos6
    exact ⟨⟨by trivial, D, ys, hst, U6⟩⟩
set_option maxHeartbeats 4000000 in
theorem u_14 (I : LawIn w g s0 script ns) (U : US w g s0 L e b z far sp G gs kg W C cs kc rs rl pl put m cv xs s) {ql : B3} (hq : ql ∈ rs) (hc8 : (8, .ref wl) ∈ cv) (hwl : (wl, lst wv) ∈ xs) (hwv : StrsAre wv (wordsOf b z)) {f : Fa} {mm j : Int} {t : Nat → Tok} {ul : Tok} {nf : Nat} (hx : ∀ q ∈ bfX w e b z sp f mm j t ul nf, q ∈ xs) (hc9 : (9, .ref f.x) ∈ cv) {bo : Stmt} (hbo : lawStm w.params 14 = bo) :
    wpAny (MM w) ((aM 10 10).deeper (lawEnv w.params L)) (exec bo (lawEnv w.params L)) (fun fl s' => Stp (fl = .next ∧ ∃ D ys, StrsAre ys ((wordsOf b z).filter (yes b far z mm)) ∧ US w g s0 L e b z far sp G gs kg W C cs kc rs rl pl put (fun y => if y = Str.ofString "common" then some (.ref D) else m y) cv ((D, lst ys) :: xs) s')) NoE s := by
  obtain ⟨oB, oZ, oG, oW, oC, oP, tb, tz, n1, n2, vs, tG, tW, tC, tq, dB, dZ, dG, dW, dC, dP, hvs, N⟩ := U.led0 hq
  obtain ⟨oM, dM, eM, nM1, nM2⟩ := U.cellAt hc8
  replace N := U.item (news_one N (a := L + 1 + 1 + 1 + 1 + 1 + 1 + 1 + 1) eM nM1 nM2) hwl
  obtain ⟨oM9, dM9, eM9, nM91, nM92⟩ := U.cellAt hc9
  replace N := U.item (U.item (news_one N (a := L + 1 + 1 + 1 + 1 + 1 + 1 + 1 + 1 + 1) eM9 nM91 nM92) (hx _ (.head _))) (hx _ (.tail _ (.head _)))
  have BQ : BF w e b z sp g s.heap f mm j := U.bf I hx
  have hz := U.X.hS.z
  have HS := U.X.hS
  have SP := U.X.Sp
  have hwl25 : wv.length ≤ 25 := by
    rw [hwv.length, wordsOf, List.length_map, List.length_range]; exact (sz_pow U.X.hS).2.1
  have F := U.F
  have CX := I.cx.keeps (gz_some I.st)
  have X := CX.K
  obtain ⟨loose, mean, mg, mb, TT⟩ := CX.T
  unfold lawStm lawBody lawOf at hbo
  conv at hbo => lhs; whnf
  subst hbo
  delta lawEnv
  generalize hsc : lawScope w.params = sc
  unfold lawScope lawOf at hsc
  conv at hsc => lhs; whnf
  subst hsc
  simp only [ledOf, List.cons_append, List.nil_append] at N
  obtain ⟨hp, gn, dr, tk, os⟩ := s
  have hos := U.os
  have hbare := U.bare
  dsimp only at F N hos hbare ⊢
  subst hos
  dsimp only at BQ SP
  walk_at "m:steps"
  unfold Stopped
  refine comp_use (tb := []) (Inv := fun _ => True) (Bd := bdN (Str.ofString "word")) (n := wv.toArray.size) (P := fun i v => wv.toArray[i]? = some v) rfl (fun _ => rfl) rfl rfl (by decide) rfl rfl (by rw [List.size_toArray]; exact Nat.le_trans hwl25 (by decide)) (strP (yes b far z mm)) (fun _ _ v y => Stp (v = y)) (fun _ _ _ _ _ h _ => h) ?_
  walk_at "m:steps"
  unfold Stopped
  refine ⟨_, ok_name tb_nil trivial (it_list rfl (News.isList N (by k_mem))) (by decide) rfl rfl ?_ ?_, _, F.ns, ?_⟩
  · rintro C2 i2 v2 mm2 s4 hi2 hv2 hn4 hm4 hC2 af4 _
    obtain ⟨y, ty, rfl, hy⟩ := StrsAre.item hwv i2 v2 (by rw [← List.getElem?_toArray]; exact hv2)
    obtain ⟨hyz, hys⟩ := words_len hz y (List.mem_of_getElem? hy)
    obtain ⟨F4, N4⟩ := elt_base F N hC2 hn4 (fun b o e => af4.keep b o e (by simp))
    have k4 : ∀ b o, hp.get? b = some o → s4.heap.get? b = some o := fun b o e => af4.keep b o e List.not_mem_nil
    have B4 := BQ.kp (h' := s4.heap) fun b o _ e => k4 b o e
    clear F N
    obtain ⟨h4, gs4, d4, t4, os4⟩ := s4
    refine wpAny_tests_one ?_
    walk_at "m:steps"
    unfold Stopped
    refine c_contains I.cx (fun b o e => F4.keep b o (gz_some I.st b o e)) (rm_deep (by decide) (by decide)) HS B4 (SP.kp k4) hys hyz ?_
    intro bb s' hbb af'
    obtain ⟨h5, gs5, d5, t5, os5⟩ := s'
    dsimp only
    walk_at "m:steps"
    · exact af'.tr (s := ⟨h4, gs4, d4, t4, os4⟩) (Af.refl _) (by simp) (by simp)
    · trivial
  · rintro C2 i2 v2 mm2 s4 hi2 hv2 _ hn4 hm4 hC2 af4 _
    obtain ⟨F4, N4⟩ := elt_base F N hC2 hn4 (fun b o e => af4.keep b o e (by simp))
    clear F N
    obtain ⟨h4, gs4, d4, t4, os4⟩ := s4
    walk_at "m:steps"
    · exact ⟨rfl⟩
    · exact Af.refl _
    · trivial
  · intro D s' xs5 ys ce hns
    have hxs : xs5 = wv := src_all (by rw [ce.len]) ce.src
    have hys : ys = wv.filter (strP (yes b far z mm)) := by
      have := paired_eq (paired_imp (fun _ _ ⟨_, _, h⟩ => h.p) ce.out)
      rw [hxs] at this; exact this.symm
    have hst := strs_filter (P := yes b far z mm) hwv
    rw [← hys] at hst
    obtain ⟨F6, N6⟩ := after_use F N ce.af ce.new ce.at_ hns
    have U6 := (U.seg (d := s'.drawn) (t := s'.toks) F6 N6 (by walk_at "m:rest") (ce.af.gens hbare)).obj N6 (.head _) ⟨nofun, nofun⟩
    have hos6 := ce.af.os
    obtain ⟨h6, gs6, d6, t6, os6⟩ := s'
    dsimp only at hos6
    subst hos6
    exact ⟨⟨by trivial, D, ys, hst, U6⟩⟩
theorem elt_tab {h₀ h₂ h₃ : Heap} {C P : Addr} {m2 m : Str → Option Value} {news : List (Addr × Obj)} (F : Fr h₀ L h₂ m2) (N : News h₀ L h₂ news) (hP : h₀.get? P = none) (hnP : ∀ q ∈ news, @Ne Nat q.1 P) (hC : h₂.objs.size ≤ C) (hn : h₃.Ns C m) (a : ∀ b o, @Ne Nat b P → h₂.get? b = some o → h₃.get? b = some o) : Fr h₀ C h₃ m ∧ News h₀ C h₃ news :=
  ⟨⟨hn, fun b o e => a b o (fun q => by rw [show b = P from q, hP] at e; cases e) (F.keep _ _ e), Nat.le_trans F.above (Nat.le_trans (Nat.le_of_lt F.ns.lt) hC)⟩, fun q hq => ⟨a _ _ (hnP q hq) (N q hq).1, Nat.ne_of_lt (Nat.lt_of_lt_of_le (Heap.lt_size (N q hq).1) hC), (N q hq).2.2⟩⟩
/-- a table's invariant -/
def TabInv (l c : Int) (P : Addr) (s : Shared) : Prop := (∃ ps, TabOk l c ps ∧ s.heap.get? P = some (PySem.W.tabObj ps)) ∧ AllBare s.gens
theorem tab_nlp {ps : Array Value} : ¬ Lp (PySem.W.tabObj ps) := fun h => by
  rcases h with ⟨_, _, h⟩ | ⟨_, h⟩ | ⟨c, h, _⟩
  · cases h
  · cases h
  · cases h
theorem tb_tab {l c : Int} {P : Addr} : Tb [P] (TabInv l c P) := by
  refine ⟨fun s s' ⟨⟨ps, k, e1⟩, hb⟩ h hg => ⟨⟨ps, k, ?_⟩, hg hb⟩, fun s ⟨⟨ps, k, e1⟩, _⟩ b hb => ?_⟩
  · rcases h _ _ e1 with h | h
    · exact h
    · exact absurd h tab_nlp
  · rw [List.mem_singleton.mp hb]; exact ⟨_, e1, tab_nlp⟩
set_option maxHeartbeats 4000000 in
theorem u_15 (I : LawIn w g s0 script ns) (U : US w g s0 L e b z far sp G gs kg W C cs kc rs rl pl put m cv xs s) {ql : B3} (hq : ql ∈ rs) (hgs : gs ≠ []) (hc8 : (8, .ref wl) ∈ cv) (hwl : (wl, lst wv) ∈ xs) (hwv : StrsAre wv (wordsOf b z)) {bo : Stmt} (hbo : lawStm w.params 15 = bo) :
    wpAny (MM w) ((aM 10 10).deeper (lawEnv w.params L)) (exec bo (lawEnv w.params L)) (fun fl s' => Stp (fl = .next ∧ ∃ D ys, StrsAre ys ((wordsOf b z).filter fun y => gs.any fun q => yes b far z q.2.1 y) ∧ US w g s0 L e b z far sp G gs kg W C cs kc rs rl pl put (fun y => if y = Str.ofString "some" then some (.ref D) else m y) cv ((D, lst ys) :: xs) s')) NoE s := by
  obtain ⟨oB, oZ, oG, oW, oC, oP, tb, tz, n1, n2, vs, tG, tW, tC, tq, dB, dZ, dG, dW, dC, dP, hvs, N⟩ := U.led0 hq
  obtain ⟨oM, dM, eM, nM1, nM2⟩ := U.cellAt hc8
  replace N := U.item (news_one N (a := L + 1 + 1 + 1 + 1 + 1 + 1 + 1 + 1) eM nM1 nM2) hwl
  obtain ⟨q0, gr, hgr⟩ : ∃ q0 gr, gs = q0 :: gr := by cases gs with
    | nil => exact absurd rfl hgs
    | cons a r => exact ⟨a, r, rfl⟩
  have hz := U.X.hS.z
  have HS := U.X.hS
  obtain ⟨pt, pk, ot⟩ := U.X.t2
  have hwl25 : wv.length ≤ 25 := by
    rw [hwv.length, wordsOf, List.length_map, List.length_range]; exact (sz_pow U.X.hS).2.1
  have F := U.F
  have CX := I.cx.keeps (gz_some I.st)
  have X := CX.K
  obtain ⟨loose, mean, mg, mb, TT⟩ := CX.T
  unfold lawStm lawBody lawOf at hbo
  conv at hbo => lhs; whnf
  subst hbo
  delta lawEnv
  generalize hsc : lawScope w.params = sc
  unfold lawScope lawOf at hsc
  conv at hsc => lhs; whnf
  subst hsc
  simp only [ledOf, List.cons_append, List.nil_append] at N
  obtain ⟨hp, gn, dr, tk, os⟩ := s
  have hos := U.os
  have hbare := U.bare
  dsimp only at F N hos hbare ⊢
  subst hos
  dsimp only at ot
  walk_at "m:steps"
  unfold Stopped
  refine comp_use (tb := [419]) (Inv := TabInv 262 19 419) (Bd := bdN (Str.ofString "word")) (n := wv.toArray.size) (P := fun i v => wv.toArray[i]? = some v) rfl (fun _ => rfl) rfl rfl (by decide) rfl rfl (by rw [List.size_toArray]; exact Nat.le_trans hwl25 (by decide)) (strP fun y => gs.any fun q => yes b far z q.2.1 y) (fun _ _ v y => Stp (v = y)) (fun _ _ _ _ _ h _ => h) ?_
  walk_at "m:steps"
  unfold Stopped
  have N0 : News (gz g s0.heap) L hp [(L + 1 + 1 + 1, oG), (G.x, instObj 457 G.d), (G.d, dictOf (ebEs w.params tG e b sp G.l kg) 5)] := fun q hq => by
    simp only [List.mem_cons, List.not_mem_nil, or_false] at hq
    rcases hq with rfl | rfl | rfl
    · exact N _ (by k_mem)
    · exact N _ (by k_mem)
    · exact N _ (by k_mem)
  have n419 : ∀ {a : Addr} {o : Obj}, hp.get? a = some o → o ≠ PySem.W.tabObj pt → @Ne Nat a 419 := fun {a o} e1 n q => by
    rw [show a = 419 from q, ot.at_] at e1; exact n (Option.some.inj e1).symm
  have hn0 : ∀ q ∈ [(L + 1 + 1 + 1, oG), (G.x, instObj 457 G.d), (G.d, dictOf (ebEs w.params tG e b sp G.l kg) 5)], @Ne Nat q.1 419 := fun q hq => by
    refine n419 (N0 q hq).1 fun h => ?_
    simp only [List.mem_cons, List.not_mem_nil, or_false] at hq
    rcases hq with rfl | rfl | rfl
    · have h : oG = PySem.W.tabObj pt := h
      rw [h] at dG; cases dG
    · injection h with h; cases h
    · injection h with h; cases h
  refine ⟨_, ok_name tb_tab ⟨⟨pt, pk, ot.at_⟩, hbare⟩ (it_list rfl (News.isList N (by k_mem))) (by decide) rfl rfl ?_ ?_, _, F.ns, ?_⟩
  · rintro C2 i2 v2 mm2 s4 hi2 hv2 hn4 hm4 hC2 af4 ⟨⟨ps4, pk4, e4⟩, hb4⟩
    obtain ⟨y, ty, rfl, hy⟩ := StrsAre.item hwv i2 v2 (by rw [← List.getElem?_toArray]; exact hv2)
    obtain ⟨hyz, hys⟩ := words_len hz y (List.mem_of_getElem? hy)
    obtain ⟨F4, N4⟩ := elt_tab F N0 (gz_none ot.new) hn0 hC2 hn4 (fun b o n e => af4.keep b o e (not1 n))
    have O := U.X.offs (ls := []) (ds := []) (ts := [419]) (wrs_t (by decide) pk ot.at_) af4
    have E4 := O.E nofun nofun (fun _ _ => ⟨nofun, nofun⟩)
    obtain ⟨_, _, S4⟩ := O.S
    clear F N N0
    obtain ⟨h4, gs4, d4, t4, os4⟩ := s4
    refine wpAny_tests_one ?_
    walk_at "m:steps"
    unfold Stopped
    rw [hgr] at E4
    refine c_e_contains I.cx (fun b o e => F4.keep b o (gz_some I.st b o e)) (rm_deep (by decide) (by decide)) HS E4 S4.sp hys hyz I.c2 ⟨e4, ot.new⟩ pk4 hb4 ?_
    intro bb s' hbb af' ht'
    have hb' := af'.gens hb4
    obtain ⟨h5, gs5, d5, t5, os5⟩ := s'
    dsimp only
    walk_at "m:steps"
    · rw [hbb, hgr]; rfl
    · exact af'.tr (c := [419]) (d := []) (s := ⟨h4, gs4, d4, t4, os4⟩) (Af.refl _) (fun _ h => h) (by simp)
    · exact ⟨ht', hb'⟩
  · rintro C2 i2 v2 mm2 s4 hi2 hv2 _ hn4 hm4 hC2 af4 hI4
    obtain ⟨F4, N4⟩ := elt_tab F N0 (gz_none ot.new) hn0 hC2 hn4 (fun b o n e => af4.keep b o e (not1 n))
    clear F N N0
    obtain ⟨h4, gs4, d4, t4, os4⟩ := s4
    walk_at "m:steps"
    · exact ⟨rfl⟩
    · exact (Af.refl _).mono (by simp)
    · exact hI4
  · intro D s' xs5 ys ce hns
    have hxs : xs5 = wv := src_all (by rw [ce.len]) ce.src
    have hys : ys = wv.filter (strP fun y => gs.any fun q => yes b far z q.2.1 y) := by
      have := paired_eq (paired_imp (fun _ _ ⟨_, _, h⟩ => h.p) ce.out)
      rw [hxs] at this; exact this.symm
    have hst := strs_filter (P := fun y => gs.any fun q => yes b far z q.2.1 y) hwv
    rw [← hys] at hst
    have U6 := U.tab (P := 419) (.inl ⟨rfl, ce.inv.1⟩) (fun b o n1 n2 e => ce.af.keep b o e (fun hc => by
      rcases List.mem_append.mp hc with hc | hc
      · exact n1 (List.mem_singleton.mp hc)
      · exact n2 (List.mem_singleton.mp hc))) hns ce.af.os ce.inv.2
    have hD : @Ne Nat D L ∧ (gz g s0.heap).get? D = none := by
      refine ⟨fun q => ?_, none_back F.keep ce.new⟩
      obtain ⟨oL, _, _, e2, _⟩ := F.ns
      have := ce.new
      rw [show D = L from q] at this
      rw [show (Shared.heap _).get? L = _ from e2] at this; cases this
    refine ⟨⟨by trivial, D, ys, hst, U6.X, U6.F, U6.cv, fun q hq => ?_, U6.os, U6.bare⟩⟩
    rcases List.mem_cons.mp hq with hh | hq
    · subst hh; exact ⟨ce.at_, ⟨nofun, nofun⟩, hD⟩
    · exact U6.xs q hq
end
end
example : True ∧ True := by walk1 <;> trivial
section
local macro_rules | `(tactic| walk_at "m:flush") => `(tactic| trivial)
example : True ∧ True := by walk1 <;> trivial
end
section
local macro_rules | `(tactic| walk_at "storeName") => `(tactic| ((with_reducible show wpAny _ _ (storeName _ (PySem.Str.ofString "known") _) _ _ _); (with_reducible refine stop_here ?_)))
local macro_rules | `(tactic| walk_at "call type:set") => `(tactic| (with_reducible refine stop_here ?_))
/-- a stretch that reads alone -/
structure Rd (L : Addr) (s s' : Shared) : Prop where
  keep : ∀ b o, @Ne Nat b L → s.heap.get? b = some o → s'.heap.get? b = some o
  os : s'.os = s.os
  gens : AllBare s.gens → AllBare s'.gens
theorem Rd.trans {L : Addr} {s s' s'' : Shared} (x : Rd L s s') (y : Rd L s' s'') : Rd L s s'' := ⟨fun b o n e => y.keep b o n (x.keep b o n e), y.os.trans x.os, fun g => y.gens (x.gens g)⟩
theorem Rd.refl {L : Addr} {s : Shared} : Rd L s s := ⟨fun _ _ _ e => e, rfl, id⟩
theorem Rd.af {L : Addr} {s s' : Shared} (x : Af [] s s') : Rd L s s' := ⟨fun b o _ e => x.keep b o e List.not_mem_nil, x.os, x.gens⟩
section
variable {w : World} {A : Around} {E : Value → Shared → Prop} {s : Shared}
/-- a for statement over two lists, zipped, its body reading alone -/
theorem for_zip (hh : A.handled = none) {x y : Str} {px py tp : Pos} {k0 : Nat} {iter : PySem.Expr} {body : List Stmt} {pos : Pos} {env : Env} {Q : Flow → Shared → Prop}
    (hx : env.kindOf x = some .local) (hy : env.kindOf y = some .local) (hp : (env.scope.kind == .class || (env.scope.kind == .module && env.locals != env.globals)) = false) (hs : ∀ x, foldedSetIterable iter env x = pure x)
    (h : wpAny (MM w) A (eval iter env) (fun xv s₀ => Stopped (∃ z TI TO i1 i2 l1 l2 xs ys a b m s₁, xv = .ref z ∧ ZipApart z TI TO i1 i2 l1 l2 ∧ IsZip s₀.heap z TI TO .none ∧ IsPair s₀.heap TI (.ref i1) (.ref i2) ∧ IsPair s₀.heap TO a b ∧ s₀.heap.IsListIter i1 l1 0 ∧ s₀.heap.IsListIter i2 l2 0 ∧ s₀.heap.IsList l1 xs ∧ s₀.heap.IsList l2 ys ∧
      s₀.heap.Ns env.locals m ∧ Rd env.locals s₁ s₀ ∧ (∀ b ∈ [z, TO, i1, i2], s₁.heap.get? b = none) ∧
      (∀ (i : Nat) (a b : Value) (s : Shared), xs[i]? = some a → ys[i]? = some b → Rd env.locals s₁ s → s.heap.Ns env.locals (fun k => if k = y then some b else if k = x then some a else m k) →
        wpAny (MM w) A (execs body env) (fun f s₅ => Stp (f = .next ∧ s₅.heap.Ns env.locals (fun k => if k = y then some b else if k = x then some a else m k) ∧ Rd env.locals s s₅)) NoE s) ∧
      (∀ s m', Rd env.locals s₁ s → s.heap.Ns env.locals m' → (∀ k, k ≠ x → k ≠ y → m' k = m k) → Q .next s))) E s) :
    wpAny (MM w) A (exec (.For (.Tuple [.Name x px, .Name y py] k0 tp) iter body [] pos) env) Q E s := by
  refine wpAny_For (wpAny_mono h (fun xv s₀ h₀ => ?_) fun _ _ e => e) hs
  obtain ⟨z, TI, TO, i1, i2, l1, l2, xs, ys, ta, tb, m, s₁, rfl, D, hz, hTI, hTO, h1, h2, hl1, hl2, hn, rd, new, step, fin⟩ := h₀
  have W := (WalksT.zip2 (prog := Pg) (w := w) hh z TI TO i1 i2 l1 l2 D xs ys).toU
  refine wpAny_pyIter_zip hz ?_
  have noL : ∀ i h, (IsZip h z TI TO .none ∧ IsPair h TI (.ref i1) (.ref i2) ∧ (∃ a b, IsPair h TO a b) ∧ h.IsListIter i1 l1 i ∧ h.IsListIter i2 l2 i ∧ h.IsList l1 xs ∧ h.IsList l2 ys) → (∃ m, h.Ns env.locals m) → env.locals ∉ [z, TI, TO, i1, i2, l1, l2] := by
    rintro i h ⟨q, q1, ⟨_, _, q2⟩, ⟨_, q3, c3, d3⟩, ⟨_, q4, c4, d4⟩, ⟨_, q5, c5, _, d5⟩, ⟨_, q6, c6, _, d6⟩⟩ ⟨m, o, es, ep, e1, d1, _⟩ hc
    simp only [List.mem_cons, List.not_mem_nil, or_false] at hc
    rcases hc with hc | hc | hc | hc | hc | hc | hc <;> rw [hc] at e1
    · rw [q] at e1; cases e1; cases d1
    · rw [q1] at e1; cases e1; cases d1
    · rw [q2] at e1; cases e1; cases d1
    · rw [q3] at e1; cases e1; rw [d3] at d1; cases d1
    · rw [q4] at e1; cases e1; rw [d4] at d1; cases d1
    · rw [q5] at e1; cases e1; rw [d5] at d1; cases d1
    · rw [q6] at e1; cases e1; rw [d6] at d1; cases d1
  refine codeAny_forLoop_any (fun k s' => ∃ i, i ≤ min xs.size ys.size ∧ k = min xs.size ys.size + 1 - i ∧ (IsZip s'.heap z TI TO .none ∧ IsPair s'.heap TI (.ref i1) (.ref i2) ∧ (∃ a b, IsPair s'.heap TO a b) ∧ s'.heap.IsListIter i1 l1 i ∧ s'.heap.IsListIter i2 l2 i ∧ s'.heap.IsList l1 xs ∧ s'.heap.IsList l2 ys) ∧
      Rd env.locals s₁ s' ∧ ∃ m', s'.heap.Ns env.locals m' ∧ ∀ k, k ≠ x → k ≠ y → m' k = m k) ?_ (min xs.size ys.size + 1) ⟨0, Nat.zero_le _, rfl, ⟨hz, hTI, ⟨_, _, hTO⟩, h1, h2, hl1, hl2⟩, rd, m, hn, fun _ _ _ => rfl⟩
  rintro k s' ⟨i, hi, rfl, st, rd', m', hn', hm'⟩
  have nL := noL i _ st ⟨_, hn'⟩
  have nLw : env.locals ∉ [z, TO, i1, i2] := fun q => nL (W.sub _ q)
  by_cases hlt : i < min xs.size ys.size
  · refine W.item i s' _ _ hlt st fun T vs h₁ tk hPv hT hM hk => ?_
    obtain ⟨a, b, ha, hb, rfl⟩ := hPv
    have hTw := W.apart _ _ _ hM
    refine W.go _ _ _ i T _ _ _ hM fun h₂ st₂ hk₂ => ?_
    have hT₂ : h₂.IsTuple T #[a, b] := hT.at fun o e => hk₂ _ o hTw e
    obtain ⟨ot, et, ct, nt, dt⟩ := hT₂
    refine assign_Tuple_tuple hh ⟨ot, et, ct, nt, dt⟩ rfl rfl fun h₅ he => ?_
    have he' : ∀ b o, h₂.get? b = some o → h₅.get? b = some o := fun b o e => he b o (Nat.ne_of_lt (Heap.lt_size e)) e
    have hn₅ : h₅.Ns env.locals m' := ((hn'.at' fun o e => hk _ o nLw e).at' fun o e => hk₂ _ o nLw e).at' fun o e => he' _ o e
    refine assignInOrder_cons (wpAny_assign_Name (wpAny_storeName_local hx hn₅ (fun h₆ hn₆ hs₆ => ?_) hp))
    refine assignInOrder_cons (wpAny_assign_Name (wpAny_storeName_local hy hn₆ (fun h₃ hn₃ hs₃ => ?_) hp))
    refine assignInOrder_nil ?_
    have old3 : ∀ b o, b ≠ env.locals → h₂.get? b = some o → h₃.get? b = some o := fun b o hb e => hs₃.extBut b o hb (hs₆.extBut b o hb (he' b o e))
    have em : (fun k => if k = y then some b else if k = x then some a else m' k) = (fun k => if k = y then some b else if k = x then some a else m k) := by
      funext k
      by_cases k1 : k = y
      · rw [if_pos k1, if_pos k1]
      · by_cases k2 : k = x
        · rw [if_neg k1, if_neg k1, if_pos k2, if_pos k2]
        · rw [if_neg k1, if_neg k1, if_neg k2, if_neg k2, hm' k k2 k1]
    rw [em] at hn₃
    have rd3 : ∀ tk, Rd env.locals s₁ { s' with heap := h₃, toks := tk } := fun tk => ⟨fun c o n e => by
      have hc : c ∉ [z, TO, i1, i2] := fun q => by rw [new c q] at e; cases e
      exact old3 c o n (hk₂ c o hc (hk c o hc (rd'.keep c o n e))), rd'.os, rd'.gens⟩
    have st₃ := W.frame _ _ _ st₂ fun b hb o e => old3 b o (fun q => nL (q ▸ hb)) e
    refine wpAny_mono (step i a b _ ha hb (rd3 _) hn₃) (fun f s₅ h₅ => ?_) fun _ _ e => e.elim
    obtain ⟨rfl, hn5, rd5⟩ := h₅.p
    exact ⟨min xs.size ys.size + 1 - (i + 1), by omega, i + 1, hlt, rfl, W.frame _ _ _ st₃ fun b hb o e => rd5.keep b o (fun q => nL (q ▸ hb)) e, (rd3 _).trans rd5, _, hn5, fun k k1 k2 => by rw [if_neg k2, if_neg k1]⟩
  · have : i = min xs.size ys.size := by omega
    subst this
    refine W.done s' _ _ st fun h' tk hk => wpAny_execs_nil ?_
    refine fin { s' with heap := h', toks := tk } m' ⟨fun c o n e => hk c o (fun q => by rw [new c q] at e; cases e) (rd'.keep c o n e), rd'.os, rd'.gens⟩ (hn'.at' fun o e => hk _ o nLw e) hm'
end
section
variable {w : World} {g : Heap} {s0 s : Shared} {L : Addr} {e b z far : Int} {sp : Addr} {G : Fa} {gs : List B3} {kg : Int} {W : B3} {C : Fa} {cs : List Int} {kc : Int} {rs : List B3} {rl pl : Addr} {put : List Str} {ex : List (Addr × Obj)} {m : Str → Option Value} {key : Str} {script : Addr} {ns : List Int} {cv cv' : List (Nat × Value)} {xs : List (Addr × Obj)} {wl : Addr} {wv : List Value}
theorem US.rd (U : US w g s0 L e b z far sp G gs kg W C cs kc rs rl pl put m cv xs s) {s' : Shared} {m' : Str → Option Value} (r : Rd L s s') (hn : s'.heap.Ns L m') : US w g s0 L e b z far sp G gs kg W C cs kc rs rl pl put m' cv xs s' := by
  refine ⟨U.X.seg ⟨_, U.F.ns⟩ r.keep, ⟨hn, fun b o e => r.keep b o (Nat.ne_of_lt (Nat.lt_of_lt_of_le (Heap.lt_size e) U.F.above)) (U.F.keep _ _ e), U.F.above⟩, fun q hq => ?_, fun q hq => let ⟨a, c, n, t⟩ := U.xs q hq; ⟨r.keep _ _ n a, c, n, t⟩, r.os.trans U.os, r.gens U.bare⟩
  obtain ⟨a, c, o, e1, d1⟩ := U.cv q hq
  exact ⟨a, c, o, r.keep _ _ (Nat.ne_of_gt (Nat.lt_add_of_pos_right (k := q.1) (by omega))) e1, d1⟩
set_option maxHeartbeats 4000000 in
theorem u_17 (I : LawIn w g s0 script ns) (U : US w g s0 L e b z far sp G gs kg W C cs kc rs rl pl put m cv xs s) {ql : B3} (hq : ql ∈ rs) {D : Addr} {ys : List Value} {ks : List Str} (hm : m (Str.ofString "every") = some (.ref D)) (hD : (D, lst ys) ∈ xs) (hys : StrsAre ys ks) (hnd : ks.Nodup) (hl : ks.length < 1000) {bo : Stmt} (hbo : lawStm w.params 17 = bo) :
    wpAny (MM w) ((aM 10 10).deeper (lawEnv w.params L)) (exec bo (lawEnv w.params L)) (fun fl s' => Stp (fl = .next ∧ ∃ ka o, SetObj w o ks ∧ US w g s0 L e b z far sp G gs kg W C cs kc rs rl pl put m (setc 12 (.ref ka) cv) ((ka, o) :: xs) s')) NoE s := by
  obtain ⟨oB, oZ, oG, oW, oC, oP, tb, tz, n1, n2, vs, tG, tW, tC, tq, dB, dZ, dG, dW, dC, dP, hvs, N⟩ := U.led0 hq
  replace N := U.item N hD
  have F := U.F
  have CX := I.cx.keeps (gz_some I.st)
  have X := CX.K
  obtain ⟨loose, mean, mg, mb, TT⟩ := CX.T
  unfold lawStm lawBody lawOf at hbo
  conv at hbo => lhs; whnf
  subst hbo
  delta lawEnv
  generalize hsc : lawScope w.params = sc
  unfold lawScope lawOf at hsc
  conv at hsc => lhs; whnf
  subst hsc
  simp only [ledOf, List.cons_append, List.nil_append] at N
  obtain ⟨hp, gn, dr, tk, os⟩ := s
  have hos := U.os
  have hbare := U.bare
  dsimp only at F N hos hbare ⊢
  subst hos
  walk_at "m:steps"
  unfold Stopped
  have hl5 : hp.IsList D ys.toArray := News.isList N (by k_mem)
  refine call_set_strs rfl hl5 hys hnd (Nat.lt_of_lt_of_le (Nat.succ_lt_succ hl) (by decide)) ?_
  intro h6 tk6 k6 hset
  obtain ⟨o6, e6, so6⟩ := hset.objOf
  have r6 : Rd L ⟨hp, gn, dr, tk, s0.os⟩ ⟨h6, gn, dr, tk6, s0.os⟩ := ⟨fun b o _ e => k6 b o e, rfl, id⟩
  have U6 := U.rd r6 (F.ns.at' fun o e => k6 _ o e)
  have F6 := U6.F
  have hsz : hp.get? hp.objs.size = none := Heap.get?_none_of_le (Nat.le_refl _)
  have U7 : US w g s0 L e b z far sp G gs kg W C cs kc rs rl pl put m cv ((hp.objs.size, o6) :: xs) ⟨h6, gn, dr, tk6, s0.os⟩ := by
    refine ⟨U6.X, U6.F, U6.cv, fun q hq => ?_, U6.os, U6.bare⟩
    rcases List.mem_cons.mp hq with hh | hq
    · subst hh
      refine ⟨e6, SetObj.xo (w := w) (ks := ks) so6, Nat.ne_of_gt F.ns.lt, none_back F.keep hsz⟩
    · exact U6.xs q hq
  dsimp only at F6 ⊢
  walk_at "m:steps"
  unfold Stopped
  obtain ⟨v0, o0, e0, d0⟩ := U7.X.cells.ce 12 (by decide) (by decide)
  refine wpAny_storeName_cell (c := L + 12) rfl rfl rfl ⟨o0, e0, d0⟩ fun h' hv hs => ?_
  exact ⟨⟨by trivial, _, o6, so6, U7.setc (by decide) (by decide) hs hv⟩⟩
/-- a length, of a list or of a set -/
def HasLen (h : Heap) (a : Addr) (n : Nat) : Prop := (∃ vs : List Value, h.IsList a vs.toArray ∧ vs.length = n) ∨ ∃ o es ep t, h.get? a = some o ∧ o.ExactSet ∧ o.data = .set es ep t ∧ t.fits es.size = true ∧ es.size = n
theorem len_has {A : Around} {E : Value → Shared → Prop} {Q : Value → Shared → Prop} {a : Addr} {n : Nat} (hl : HasLen s.heap a n) (hn : n < 1000) (h : Q (.int (n : Int) (s.toks + 1)) { s with toks := s.toks + 1 + 1 }) : wpAny (MM w) A (call (.builtin "len") [.ref a]) Q E s := by
  rcases hl with ⟨vs, h1, rfl⟩ | ⟨o, es, ep, t, h1, h2, h3, h4, rfl⟩
  · exact m_len h1 hn h
  · exact call_len_set h1 h2 h3 h4 (by omega) h
theorem paired_at {α β : Type} {F : α → β → Prop} : ∀ {l : List α} {r : List β}, Paired F l r → ∀ {i : Nat} {a : α} {b : β}, l[i]? = some a → r[i]? = some b → F a b
  | _, _, .cons h _, 0, _, _, e1, e2 => by cases e1; cases e2; exact h
  | _, _, .cons _ t, i + 1, _, _, e1, e2 => paired_at t (i := i) e1 e2
noncomputable def zipBody (P : Params) : List Stmt := match lawStm P 18 with
  | .For _ _ b _ _ => b
  | _ => []
noncomputable def zipIter (P : Params) : PySem.Expr := match lawStm P 18 with
  | .For _ it _ _ _ => it
  | _ => .Name (Str.ofString "") ⟨0, 0, 0, 0⟩
theorem for18 (P : Params) : ∃ q1 q2 k0 q3 st p, lawStm P 18 = .For (.Tuple [.Name (Str.ofString "one") q1, .Name (Str.ofString "yes") q2] k0 q3) (zipIter P) [st] [] p ∧ zipBody P = [st] ∧ ∀ env x, foldedSetIterable (zipIter P) env x = pure x := by
  obtain ⟨q1, q2, k0, q3, it, b0, p, r, h, k⟩ : ∃ q1 q2 k0 q3 it b0 p r, (lawBody P).drop 18 = .For (.Tuple [.Name (Str.ofString "one") q1, .Name (Str.ofString "yes") q2] k0 q3) it [b0] [] p :: r ∧ ∀ env x, foldedSetIterable it env x = pure x := by
    unfold lawBody lawOf
    conv => enter [1, a, 1, b, 1, c, 1, d, 1, e, 1, f, 1, g, 1, h, 1]; lhs; whnf
    exact ⟨_, _, _, _, _, _, _, _, rfl, fun _ _ => rfl⟩
  unfold zipIter zipBody lawStm
  rw [h]
  exact ⟨q1, q2, k0, q3, b0, p, rfl, rfl, k⟩
local macro_rules | `(tactic| walk_at "call builtin:len") => `(tactic| (with_reducible refine stop_here ?_))
local macro_rules | `(tactic| walk_at "binaryOp Pow int int") => `(tactic| (refine powp (by omega) (by omega) ?_; (try dsimp only)))
set_option maxHeartbeats 4000000 in
theorem u_18b (I : LawIn w g s0 script ns) (U : US w g s0 L e b z far sp G gs kg W C cs kc rs rl pl put m cv xs s) {ql : B3} (hq : ql ∈ rs) {f : Fa} {mk j : Int} {ya : Addr} {n : Nat} (B : BF w e b z sp g s.heap f mk j) (hmk : 0 ≤ mk ∧ mk < 128) (hl : HasLen s.heap ya n) (hn : n < 1000) (hm1 : m (Str.ofString "one") = some (.ref f.x)) (hm2 : m (Str.ofString "yes") = some (.ref ya)) (heq : n = pop mk ^ z.toNat) {bo : List Stmt} (hbo : zipBody w.params = bo) :
    wpAny (MM w) ((aM 10 10).deeper (lawEnv w.params L)) (execs bo (lawEnv w.params L)) (fun fl s' => Stp (fl = .next ∧ s'.heap.Ns L m ∧ Rd L s s')) NoE s := by
  obtain ⟨oB, oZ, oG, oW, oC, oP, tb, tz, n1, n2, vs, tG, tW, tC, tq, dB, dZ, dG, dW, dC, dP, hvs, N⟩ := U.led0 hq
  have hzz : 0 ≤ z ∧ z ≤ 1000 := by rcases U.X.hS.z with h | h <;> omega
  have hp7 : pop mk < 1000 := pop_lt
  have F := U.F
  have CX := I.cx.keeps (gz_some I.st)
  have X := CX.K
  obtain ⟨loose, mean, mg, mb, TT⟩ := CX.T
  unfold zipBody lawStm lawBody lawOf at hbo
  conv at hbo => lhs; whnf
  subst hbo
  delta lawEnv
  generalize hsc : lawScope w.params = sc
  unfold lawScope lawOf at hsc
  conv at hsc => lhs; whnf
  subst hsc
  simp only [ledOf, List.cons_append, List.nil_append] at N
  obtain ⟨hp, gn, dr, tk, os⟩ := s
  have hos := U.os
  have hbare := U.bare
  dsimp only at F N hos hbare ⊢
  subst hos
  dsimp only at B hl
  walk_at "m:steps"
  unfold Stopped
  refine len_has hl hn ?_
  dsimp only
  walk_at "m:steps"
  unfold Stopped
  refine c_ones I.cx (fun b o e => F.keep b o (gz_some I.st b o e)) (rm_deep (by decide) (by decide)) U.X.hS B hmk ?_
  intro t5 s' af
  have F' := fr_af F af
  have N' := news_af N af
  have hos5 := af.os
  have hg5 := af.gens
  obtain ⟨h5, gs5, d5, t5, os5⟩ := s'
  dsimp only at hos5 F' N' hg5 ⊢
  subst hos5
  have hold := F.keep
  clear F N
  walk_at "m:steps"
  · exact absurd (show (n : Int) = (pop mk : Int) ^ z.toNat by rw [heq]; exact Int.natCast_pow _ _) (by assumption)
  · (rename Fr _ _ _ _ => F9); (rename News _ _ _ _ => N9)
    exact ⟨⟨by trivial, F9.ns, keep_rest F9 N9 hold (by walk_at "m:rest"), rfl, hg5⟩⟩
local macro_rules | `(tactic| walk_at "call type:zip") => `(tactic| (with_reducible refine stop_here ?_))
set_option maxHeartbeats 4000000 in
theorem u_18i (I : LawIn w g s0 script ns) (U : US w g s0 L e b z far sp G gs kg W C cs kc rs rl pl put m cv xs s) {ql : B3} (hq : ql ∈ rs) (hlen : rs.length ≤ 3) {fx sl Dc De : Addr} {sr : List Value} (hc9 : (9, .ref fx) ∈ cv) (hc11 : (11, .ref sl) ∈ cv) (hsl : (sl, lst sr) ∈ xs) (hsr : sr.length < 1000)
    (hrl : m (Str.ofString "row") = some (.ref rl)) (hmc : m (Str.ofString "common") = some (.ref Dc)) (hme : m (Str.ofString "every") = some (.ref De)) {bo : PySem.Expr} (hbo : zipIter w.params = bo) :
    wpAny (MM w) ((aM 10 10).deeper (lawEnv w.params L)) (eval bo (lawEnv w.params L)) (fun xv s' => Stp (∃ z' TI TO i1 i2 D1 D2 a b' s₁, xv = .ref z' ∧ ZipApart z' TI TO i1 i2 D1 D2 ∧ IsZip s'.heap z' TI TO .none ∧ IsPair s'.heap TI (.ref i1) (.ref i2) ∧ IsPair s'.heap TO a b' ∧ s'.heap.IsListIter i1 D1 0 ∧ s'.heap.IsListIter i2 D2 0 ∧
      s'.heap.IsList D1 (refsOf rs ++ [Value.ref fx, Value.ref W.1.x]).toArray ∧ s'.heap.IsList D2 (sr ++ [Value.ref Dc, Value.ref De]).toArray ∧ Rd L s₁ s' ∧ (∀ b ∈ [z', TO, i1, i2], s₁.heap.get? b = none) ∧ US w g s0 L e b z far sp G gs kg W C cs kc rs rl pl put m cv xs s₁ ∧ s'.heap.Ns L m)) NoE s := by
  obtain ⟨oB, oZ, oG, oW, oC, oP, tb, tz, n1, n2, vs, tG, tW, tC, tq, dB, dZ, dG, dW, dC, dP, hvs, N⟩ := U.led0 hq
  obtain ⟨oM9, dM9, eM9, nM91, nM92⟩ := U.cellAt hc9
  obtain ⟨oM1, dM1, eM1, nM11, nM12⟩ := U.cellAt hc11
  replace N := U.item (news_one (news_one N (a := L + 1 + 1 + 1 + 1 + 1 + 1 + 1 + 1 + 1) eM9 nM91 nM92) (a := L + 1 + 1 + 1 + 1 + 1 + 1 + 1 + 1 + 1 + 1 + 1) eM1 nM11 nM12) hsl
  have hll : (refsOf rs).length = rs.length := List.length_map _
  have hrows : (refsOf rs).length < 1000 := by rw [hll]; omega
  have F := U.F
  have CX := I.cx.keeps (gz_some I.st)
  have X := CX.K
  obtain ⟨loose, mean, mg, mb, TT⟩ := CX.T
  unfold zipIter lawStm lawBody lawOf at hbo
  conv at hbo => lhs; whnf
  subst hbo
  delta lawEnv
  generalize hsc : lawScope w.params = sc
  unfold lawScope lawOf at hsc
  conv at hsc => lhs; whnf
  subst hsc
  simp only [ledOf, List.cons_append, List.nil_append] at N
  obtain ⟨hp, gn, dr, tk, os⟩ := s
  have hos := U.os
  have hbare := U.bare
  dsimp only at F N hos hbare ⊢
  subst hos
  walk_at "m:steps"
  unfold Stopped
  (rename Fr _ _ _ _ => F9); (rename News _ _ _ _ => N9)
  have U9 := U.seg (d := dr) (t := tk) F9 N9 (by walk_at "m:rest") hbare
  have hl1 : (Shared.mk _ gn dr tk s0.os).heap.IsList _ (refsOf rs ++ [Value.ref fx, Value.ref W.1.x]).toArray := News.isList N9 (by k_mem)
  have hl2 : (Shared.mk _ gn dr tk s0.os).heap.IsList _ (sr ++ [Value.ref Dc, Value.ref De]).toArray := News.isList N9 (by k_mem)
  have a1 := hl1
  have a2 := hl2
  obtain ⟨_, a1, _⟩ := a1
  obtain ⟨_, a2, _⟩ := a2
  refine call_zip_2 hl1 hl2 fun h' hz hTI hTO hi1 hi2 hsz hk => ?_
  refine ⟨⟨_, _, _, _, _, _, _, _, _, _, rfl, zipApart_new (Heap.lt_size a1) (Heap.lt_size a2), hz, hTI, hTO, hi1, hi2, hl1.at fun o e => hk _ o e, hl2.at fun o e => hk _ o e, ⟨fun b o _ e => hk b o e, rfl, id⟩, fun b hb => ?_, U9, F9.ns.at' fun o e => hk _ o e⟩⟩
  simp only [List.mem_cons, List.not_mem_nil, or_false] at hb
  refine Heap.get?_none_of_le ?_
  rcases hb with rfl | rfl | rfl | rfl
  · exact Nat.le_add_right _ 4
  · exact Nat.le_add_right _ 3
  · exact Nat.le_refl _
  · exact Nat.le_add_right _ 1
theorem u_18 (I : LawIn w g s0 script ns) (U : US w g s0 L e b z far sp G gs kg W C cs kc rs rl pl put m cv xs s) {ql : B3} (hq : ql ∈ rs) (hlen : rs.length ≤ 3) {f : Fa} {mm j : Int} {t : Nat → Tok} {ul : Tok} {nf : Nat} (hx : ∀ q ∈ bfX w e b z sp f mm j t ul nf, q ∈ xs) (hc9 : (9, .ref f.x) ∈ cv) {sl Dc De : Addr} {ss : List (Addr × Obj)} {yc ye : List Value} (hc11 : (11, .ref sl) ∈ cv) (hsl : (sl, lst (ss.map fun q => Value.ref q.1)) ∈ xs) (hss : ∀ q ∈ ss, q ∈ xs)
    (hDc : (Dc, lst yc) ∈ xs) (hDe : (De, lst ye) ∈ xs) (hrl : m (Str.ofString "row") = some (.ref rl)) (hmc : m (Str.ofString "common") = some (.ref Dc)) (hme : m (Str.ofString "every") = some (.ref De))
    (mks : ∀ q ∈ rs, 0 ≤ q.2.1 ∧ q.2.1 < 128) (hmm : 0 ≤ mm ∧ mm < 128) (hW : 0 ≤ W.2.1 ∧ W.2.1 < 128) (hrs : SetsAre w b far z (wordsOf b z) rs ss) (hcount : ∀ q ∈ rs, ((wordsOf b z).filter (yes b far z q.2.1)).length = pop q.2.1 ^ z.toNat) (hyc : yc.length = pop mm ^ z.toNat) (hye : ye.length = pop W.2.1 ^ z.toNat) (hl1 : yc.length < 1000) (hl2 : ye.length < 1000) {bo : Stmt} (hbo : lawStm w.params 18 = bo) :
    wpAny (MM w) ((aM 10 10).deeper (lawEnv w.params L)) (exec bo (lawEnv w.params L)) (fun fl s' => Stp (fl = .next ∧ ∃ m', (∀ k, k ≠ Str.ofString "one" → k ≠ Str.ofString "yes" → m' k = m k) ∧ US w g s0 L e b z far sp G gs kg W C cs kc rs rl pl put m' cv xs s')) NoE s := by
  obtain ⟨q1, q2, k0, q3, st, p, h18, hzb, hfs⟩ := for18 w.params
  rw [h18] at hbo
  subst hbo
  generalize p0 : zipIter w.params = it at hfs
  have hsl2 : ss.length = rs.length := (Paired.length hrs).symm
  generalize hzb2 : zipBody w.params = zb at hzb
  subst hzb
  have r1 : ∀ {x y : Str} {a b : Value} {m0 : Str → Option Value}, (fun k => if k = y then some b else if k = x then some a else m0 k) y = some b := if_pos rfl
  refine for_zip rfl rfl rfl rfl (fun x => hfs _ x) (wpAny_mono (u_18i I U hq hlen hc9 hc11 hsl (by rw [List.length_map]; omega) hrl hmc hme p0) ?_ fun _ _ e => e)
  rintro xv s2 ⟨⟨z', TI, TO, i1, i2, D1, D2, a, b', s₁, rfl, ap, hz, hTI, hTO, h1, h2, hl1', hl2', rd, new, U1, hn2⟩⟩
  refine ⟨z', TI, TO, i1, i2, D1, D2, _, _, a, b', m, s₁, rfl, ap, hz, hTI, hTO, h1, h2, hl1', hl2', hn2, rd, new, ?_, ?_⟩
  · intro i va vb s3 ha hb rd3 hn3
    have U3 := U1.rd rd3 hn3
    rw [List.getElem?_toArray] at ha hb
    have hm1 : (fun k => if k = Str.ofString "yes" then some vb else if k = Str.ofString "one" then some va else m k) (Str.ofString "one") = some va := (if_neg (by decide)).trans (if_pos rfl)
    have lst_len : ∀ {D : Addr} {y : List Value}, (D, lst y) ∈ xs → HasLen s3.heap D y.length := fun h => .inl ⟨_, ⟨_, (U3.xs _ h).1, rfl, _, rfl⟩, rfl⟩
    rcases (show i < rs.length ∨ i = rs.length ∨ rs.length < i by omega) with hi | hi | hi
    · rw [List.getElem?_append_left (by rw [List.length_map]; exact hi), List.getElem?_map] at ha
      rw [List.getElem?_append_left (by rw [List.length_map]; omega), List.getElem?_map] at hb
      obtain ⟨q, hqi⟩ : ∃ q, rs[i]? = some q := ⟨_, List.getElem?_eq_getElem hi⟩
      obtain ⟨so, hsi⟩ : ∃ q, ss[i]? = some q := ⟨_, List.getElem?_eq_getElem (show i < ss.length by omega)⟩
      rw [hqi] at ha
      rw [hsi] at hb
      cases ha
      cases hb
      have hqr := List.mem_of_getElem? hqi
      have hso := paired_at hrs hqi hsi
      have hlen3 : ((wordsOf b z).filter (yes b far z q.2.1)).length < 1000 := Nat.lt_of_le_of_lt (List.length_filter_le _ _) (by rw [wordsOf, List.length_map, List.length_range]; have := (sz_pow U.X.hS).2.1; omega)
      obtain ⟨hex, es, ep, tt, hd, _, _, hn, hf⟩ := hso
      exact u_18b I U3 hq (U3.X.RB q hqr) (mks q hqr) (.inr ⟨so.2, es, ep, tt, (U3.xs _ (hss _ (List.mem_of_getElem? hsi))).1, hex, hd, hf, hn⟩) hlen3 hm1 (if_pos rfl) (hcount q hqr) hzb2
    · rw [List.getElem?_append_right (by rw [List.length_map]; omega), List.length_map, hi, Nat.sub_self] at ha
      rw [List.getElem?_append_right (by rw [List.length_map]; omega), List.length_map, hi, hsl2, Nat.sub_self] at hb
      cases ha
      cases hb
      exact u_18b I U3 hq (U3.bf I hx) hmm (lst_len hDc) hl1 hm1 (if_pos rfl) hyc hzb2
    · rw [List.getElem?_append_right (by rw [List.length_map]; omega), List.length_map] at ha
      rw [List.getElem?_append_right (by rw [List.length_map]; omega), List.length_map, hsl2] at hb
      obtain ⟨k, hk⟩ : ∃ k, i - rs.length = k + 1 := ⟨i - rs.length - 1, by omega⟩
      rw [hk] at ha hb
      cases k with
      | zero =>
        cases ha
        cases hb
        exact u_18b I U3 hq U3.X.WB hW (lst_len hDe) hl2 hm1 (if_pos rfl) hye hzb2
      | succ k => cases ha
  · intro s3 m' rd3 hn3 hag
    exact ⟨⟨rfl, m', hag, U1.rd rd3 hn3⟩⟩
end
end
example : True ∧ True := by walk1 <;> trivial
section
local macro_rules | `(tactic| walk_at "m:flush") => `(tactic| trivial)
example : True ∧ True := by walk1 <;> trivial
end
section
theorem ys_canLay : ∀ ns : List Str, (∀ y ∈ ns, PyData.strOk y = true) → PyData.canLayAll0 (ns.map PyData.str) = true
  | [], _ => rfl
  | y :: r, h => by simp [PyData.canLayAll0, PyData.canLay0, ys_canLay r (fun x hx => h x (.tail _ hx)), h y (.head _)]
theorem ys_depth : ∀ ns : List Str, PyData.depthAll (ns.map PyData.str) = 0
  | [] => rfl
  | _ :: r => by simp [PyData.depthAll, PyData.depth, ys_depth r]
theorem ys_shaped {ns : List Str} (h : ∀ y ∈ ns, PyData.strOk y = true) : SeqAt.shaped (.list (ns.map PyData.str)) = true := by
  simp [SeqAt.shaped, PyData.canLay0, PyData.depth, ys_canLay ns h, ys_depth]
theorem ys_sameAll : ∀ ns ms : List Str, PySem.Spec.sameAll (ns.map PyData.str) (ms.map PyData.str) = decide (ns = ms)
  | [], [] => by simp [PySem.Spec.sameAll]
  | [], _ :: _ => by simp [PySem.Spec.sameAll]
  | _ :: _, [] => by simp [PySem.Spec.sameAll]
  | a :: r, b :: t => by
    simp only [List.map_cons, PySem.Spec.sameAll, PySem.Spec.same, ys_sameAll r t]
    by_cases h : a = b <;> by_cases h' : r = t <;> simp [h, h']
theorem ys_same (ns ms : List Str) : PySem.Spec.same (.list (ns.map PyData.str)) (.list (ms.map PyData.str)) = decide (ns = ms) := by
  simp only [PySem.Spec.same]; exact ys_sameAll ns ms
section
variable {prog : Program} {w : World} {A : Around} {E : Value → Shared → Prop} {s : Shared} {a b : Addr} {xs ys : List Value} {ns ms : List Str} {Q : Value → Shared → Prop}
theorem eq_strs (ha : s.heap.IsList a xs.toArray) (hb : s.heap.IsList b ys.toArray) (hi : StrsAre xs ns) (hj : StrsAre ys ms) (oi : ∀ y ∈ ns, PyData.strOk y = true) (oj : ∀ y ∈ ms, PyData.strOk y = true) (hu : A.units + 64 < cLine) (h : Q (.bool (decide (ns = ms))) s) :
    wpAny (model prog w) A (compareOp .Eq (.ref a) (.ref b)) Q E s :=
  eq_dataH_same (reads_newData ha hi.carried) (reads_newData hb hj.carried) (ys_shaped oi) (ys_shaped oj) hu (SeqAt.noMix_of_shape (.list .str) rfl _ _ (list_map_has fun _ => rfl) (list_map_has fun _ => rfl)) (by rw [ys_same]; exact h)
theorem ne_strs (ha : s.heap.IsList a xs.toArray) (hb : s.heap.IsList b ys.toArray) (hi : StrsAre xs ns) (hj : StrsAre ys ms) (oi : ∀ y ∈ ns, PyData.strOk y = true) (oj : ∀ y ∈ ms, PyData.strOk y = true) (hu : A.units + 64 < cLine) (h : Q (.bool (!decide (ns = ms))) s) :
    wpAny (model prog w) A (compareOp .NotEq (.ref a) (.ref b)) Q E s :=
  ne_dataH_same (reads_newData ha hi.carried) (reads_newData hb hj.carried) (ys_shaped oi) (ys_shaped oj) hu (SeqAt.noMix_of_shape (.list .str) rfl _ _ (list_map_has fun _ => rfl) (list_map_has fun _ => rfl)) (by rw [ys_same]; exact h)
end
theorem words_ok {e b z : Int} (hS : Sz e b z) : ∀ y ∈ wordsOf b z, PyData.strOk y = true := by
  rcases hS with ⟨rfl, rfl, rfl⟩ | ⟨rfl, rfl, rfl⟩ | ⟨rfl, rfl, rfl⟩ | ⟨rfl, rfl, rfl⟩ <;> decide +kernel
end
example : True ∧ True := by walk1 <;> trivial
section
local macro_rules | `(tactic| walk_at "m:flush") => `(tactic| trivial)
example : True ∧ True := by walk1 <;> trivial
end
section
local macro_rules | `(tactic| walk_at "compareOp NotEq ref ref") => `(tactic| (with_reducible refine stop_here ?_))
local macro_rules | `(tactic| walk_at "compareOp In str ref") => `(tactic| (with_reducible refine stop_here ?_))
local macro_rules | `(tactic| walk_at "compareOp NotIn str ref") => `(tactic| (with_reducible refine stop_here ?_))
section
variable {w : World} {g : Heap} {s0 s : Shared} {L : Addr} {e b z far : Int} {sp : Addr} {G : Fa} {gs : List B3} {kg : Int} {W : B3} {C : Fa} {cs : List Int} {kc : Int} {rs : List B3} {rl pl : Addr} {put : List Str} {ex : List (Addr × Obj)} {m : Str → Option Value} {key : Str} {script : Addr} {ns : List Int} {cv cv' : List (Nat × Value)} {xs : List (Addr × Obj)} {wl : Addr} {wv : List Value}
theorem SetObj.mem {o : Obj} {ks ks' : List Str} (h : SetObj w o ks) (h' : SetObj w o ks') (x : Str) : x ∈ ks ↔ x ∈ ks' := by
  obtain ⟨_, es, ep, t, hd, _, hm, _⟩ := h
  obtain ⟨_, es', ep', t', hd', _, hm', _⟩ := h'
  rw [hd] at hd'
  injection hd' with e1
  subst e1
  have := (hm x).trans (hm' x).symm
  simpa using this
/-- which of the sets has a word -/
noncomputable def inP (w : World) (ss : List (Addr × Obj)) (y : Str) (v : Value) : Bool := @decide (∃ so ∈ ss, v = .ref so.1 ∧ ∃ ks, SetObj w so.2 ks ∧ y ∈ ks) (Classical.propDecidable _)
theorem inP_eq {ss : List (Addr × Obj)} {h : Heap} {y : Str} {so : Addr × Obj} {ks : List Str} (hat : ∀ q ∈ ss, h.get? q.1 = some q.2) (hso : so ∈ ss) (hk : SetObj w so.2 ks) : inP w ss y (.ref so.1) = decide (y ∈ ks) := by
  unfold inP
  by_cases hy : y ∈ ks
  · rw [decide_eq_true hy]; refine @decide_eq_true _ (Classical.propDecidable _) ?_; exact ⟨so, hso, rfl, ks, hk, hy⟩
  · rw [decide_eq_false hy]
    refine @decide_eq_false _ (Classical.propDecidable _) ?_
    rintro ⟨so', h1, h2, ks', h3, h4⟩
    refine hy ?_
    injection h2 with h2
    have e1 := hat _ hso
    rw [h2, hat _ h1] at e1
    have e2 := Option.some.inj e1
    rw [e2] at h3
    exact (h3.mem hk y).mp h4
theorem sets_all {ss : List (Addr × Obj)} {h : Heap} {ws : List Str} {y : Str} (hy : y ∈ ws) (hat : ∀ q ∈ ss, h.get? q.1 = some q.2) {rr : List B3} {tt : List (Addr × Obj)} (hp : SetsAre w b far z ws rr tt) : (∀ q ∈ tt, q ∈ ss) →
    (((tt.map fun q => Value.ref q.1).filter fun v => !(inP w ss y v)).length = 0 ↔ rr.all (fun q => yes b far z q.2.1 y) = true) ∧ (0 < ((tt.map fun q => Value.ref q.1).filter (inP w ss y)).length ↔ rr.any (fun q => yes b far z q.2.1 y) = true) := by
  unfold SetsAre at hp
  induction hp with
  | nil => exact fun _ => ⟨⟨fun _ => rfl, fun _ => rfl⟩, ⟨fun h => absurd h (Nat.lt_irrefl 0), fun h => by cases h⟩⟩
  | @cons q so rr tt hk t ih =>
    intro hs
    obtain ⟨h1, h2⟩ := ih fun q hq => hs q (.tail _ hq)
    have e1 : inP w ss y (.ref so.1) = yes b far z q.2.1 y := by
      rw [inP_eq hat (hs so (.head _)) hk]
      by_cases c : yes b far z q.2.1 y = true
      · rw [c]; exact decide_eq_true (List.mem_filter.mpr ⟨hy, c⟩)
      · rw [(Bool.not_eq_true _).mp c]; exact decide_eq_false fun hm => c (List.mem_filter.mp hm).2
    rw [List.map_cons, List.filter_cons, List.filter_cons, e1, List.all_cons, List.any_cons]
    cases yes b far z q.2.1 y
    · refine ⟨⟨fun h => ?_, fun h => ?_⟩, ?_⟩
      · rw [if_pos (show (!false) = true from rfl)] at h; cases h
      · cases h
      · rw [if_neg (show ¬ (false = true) from Bool.false_ne_true), Bool.false_or]; exact h2
    · refine ⟨?_, ⟨fun _ => rfl, fun _ => ?_⟩⟩
      · rw [if_neg (show ¬ ((!true) = true) from Bool.false_ne_true), Bool.true_and]; exact h1
      · rw [if_pos rfl]; exact Nat.succ_pos _
set_option maxHeartbeats 4000000 in
theorem u_19 (I : LawIn w g s0 script ns) (U : US w g s0 L e b z far sp G gs kg W C cs kc rs rl pl put m cv xs s) {ql : B3} (hq : ql ∈ rs) (hlen : rs.length ≤ 3) (hc8 : (8, .ref wl) ∈ cv) (hwl : (wl, lst wv) ∈ xs) (hwv : StrsAre wv (wordsOf b z)) {sl Dc : Addr} {ss : List (Addr × Obj)} {yc : List Value} (hc11 : (11, .ref sl) ∈ cv) (hsl : (sl, lst (ss.map fun q => Value.ref q.1)) ∈ xs) (hss : ∀ q ∈ ss, q ∈ xs)
    (hrs : SetsAre w b far z (wordsOf b z) rs ss) (hDc : (Dc, lst yc) ∈ xs) (hmc : m (Str.ofString "common") = some (.ref Dc)) (hyc : StrsAre yc ((wordsOf b z).filter fun y => rs.all fun q => yes b far z q.2.1 y)) {bo : Stmt} (hbo : lawStm w.params 19 = bo) :
    wpAny (MM w) ((aM 10 10).deeper (lawEnv w.params L)) (exec bo (lawEnv w.params L)) (fun fl s' => Stp (fl = .next ∧ US w g s0 L e b z far sp G gs kg W C cs kc rs rl pl put m cv xs s')) NoE s := by
  obtain ⟨oB, oZ, oG, oW, oC, oP, tb, tz, n1, n2, vs, tG, tW, tC, tq, dB, dZ, dG, dW, dC, dP, hvs, N⟩ := U.led0 hq
  obtain ⟨oM, dM, eM, nM1, nM2⟩ := U.cellAt hc8
  obtain ⟨oM1, dM1, eM1, nM11, nM12⟩ := U.cellAt hc11
  replace N := U.item (U.item (U.item (news_one (news_one N (a := L + 1 + 1 + 1 + 1 + 1 + 1 + 1 + 1) eM nM1 nM2) (a := L + 1 + 1 + 1 + 1 + 1 + 1 + 1 + 1 + 1 + 1 + 1) eM1 nM11 nM12) hwl) hsl) hDc
  have HS := U.X.hS
  have hsl2 : ss.length = rs.length := (Paired.length hrs).symm
  have hat : ∀ q ∈ ss, s.heap.get? q.1 = some q.2 := fun q hq => (U.xs q (hss q hq)).1
  have hwl25 : wv.length ≤ 25 := by
    rw [hwv.length, wordsOf, List.length_map, List.length_range]; exact (sz_pow U.X.hS).2.1
  have F := U.F
  have CX := I.cx.keeps (gz_some I.st)
  have X := CX.K
  obtain ⟨loose, mean, mg, mb, TT⟩ := CX.T
  unfold lawStm lawBody lawOf at hbo
  conv at hbo => lhs; whnf
  subst hbo
  delta lawEnv
  generalize hsc : lawScope w.params = sc
  unfold lawScope lawOf at hsc
  conv at hsc => lhs; whnf
  subst hsc
  simp only [ledOf, List.cons_append, List.nil_append] at N
  obtain ⟨hp, gn, dr, tk, os⟩ := s
  have hos := U.os
  have hbare := U.bare
  dsimp only at F N hos hbare ⊢
  subst hos
  dsimp only at hat
  walk_at "m:steps"
  unfold Stopped
  refine comp_gen (tb := []) (Inv := fun _ => True) (Bd := bdC) (n := wv.toArray.size) (P := fun i v => wv.toArray[i]? = some v) (fun _ => rfl) rfl rfl (by decide) (by rw [List.size_toArray]; exact Nat.le_trans hwl25 (by decide)) (strP fun y => rs.all fun q => yes b far z q.2.1 y) (fun _ _ v y => Stp (v = y)) (fun _ _ _ _ _ h _ => h) ?_
  walk_at "m:steps"
  unfold Stopped
  refine ⟨_, ok_cell tb_nil trivial (it_list rfl (News.isList N (by k_mem))) (fun _ => rfl) (fun _ => rfl) rfl (fun _ => rfl) ?_ ?_, ?_⟩
  · rintro C' i v s₃ hi hv hc hC af _
    obtain ⟨y, ty, rfl, hy⟩ := StrsAre.item hwv i v (by rw [← List.getElem?_toArray]; exact hv)
    have hyw := List.mem_of_getElem? hy
    obtain ⟨oO, eO, dO⟩ := hc
    have F3 := fr_af F af
    have N3 := news_af N af
    have gone : ∀ {a : Addr} {o : Obj}, hp.get? a = some o → @Ne Nat (C' + 1) a := fun {a o} e1 q => Nat.lt_irrefl a (Nat.lt_of_lt_of_le (Heap.lt_size e1) (Nat.le_trans hC (Nat.le_trans (Nat.le_succ C') (Nat.le_of_eq q))))
    replace N3 := news_one N3 (a := C' + 1) eO (by obtain ⟨oL, _, _, e1, _⟩ := F.ns; exact gone e1) (by
      cases h : (gz g s0.heap).get? (C' + 1) with
      | none => rfl
      | some o => exact absurd rfl (gone (F.keep _ _ h)))
    have k3 : ∀ b o, hp.get? b = some o → s₃.heap.get? b = some o := fun b o e => af.keep b o e List.not_mem_nil
    clear F N
    obtain ⟨h₃, gs₃, d₃, t₃, os₃⟩ := s₃
    dsimp only at k3 F3 N3
    change wpAny (MM w) _ (testsOf _ (compEnvC _ ((Str.ofString "word", C' + 1) :: _) C' _)) _ _ _
    refine wpAny_tests_one ?_
    walk_at "m:steps"
    unfold Stopped
    refine comp_gen (tb := []) (Inv := fun _ => True) (Bd := bdN (Str.ofString "yes")) (n := (ss.map fun q => Value.ref q.1).toArray.size) (P := fun i v => (ss.map fun q => Value.ref q.1).toArray[i]? = some v) (fun _ => rfl) rfl rfl (by decide) (by rw [List.size_toArray, List.length_map, hsl2]; exact Nat.le_trans hlen (by decide)) (fun v => !(inP w ss y v)) (fun _ _ _ _ => True) (fun _ _ _ _ _ _ _ => trivial) ?_
    walk_at "m:steps"
    unfold Stopped
    refine ⟨_, ok_name tb_nil trivial (it_list rfl (News.isList N3 (by k_mem))) (by decide) rfl rfl ?_ ?_, ?_⟩
    · rintro C2 i2 v2 mm s4 hi2 hv2 hn4 hm4 hC2 af4 _
      obtain ⟨so, hso, rfl⟩ : ∃ so ∈ ss, v2 = Value.ref so.1 := by
        rw [List.getElem?_toArray, List.getElem?_map] at hv2
        cases e1 : ss[i2]? with
        | none => rw [e1] at hv2; cases hv2
        | some q => rw [e1] at hv2; cases hv2; exact ⟨q, List.mem_of_getElem? e1, rfl⟩
      obtain ⟨F4, N4⟩ := elt_base F3 N3 hC2 hn4 (fun b o e => af4.keep b o e (by simp))
      have e4 : s4.heap.get? so.1 = some so.2 := af4.keep _ _ (k3 _ _ (hat so hso)) List.not_mem_nil
      obtain ⟨q, hk⟩ := Paired.right hrs so hso
      clear F3 N3
      obtain ⟨h4, gs4, d4, t4, os4⟩ := s4
      refine wpAny_tests_one ?_
      walk_at "m:steps"
      unfold Stopped
      refine wpAny_notInSet_of (knd := PySem.strKind Pg w) (k := y) (strKind_is _ _ _ _) rfl (Obj.SetObjOf.setOf hk e4 ?_) ?_
      · exact Nat.lt_of_le_of_lt (List.length_filter_le _ _) (by rw [wordsOf, List.length_map, List.length_range]; exact Nat.lt_of_le_of_lt (sz_pow HS).2.1 (by decide))
      · dsimp only
        walk_at "m:steps"
        · rw [inP_eq hat hso hk]
        · exact ⟨fun _ _ e _ => e, rfl, id⟩
        · trivial
    · rintro C2 i2 v2 mm s4 hi2 hv2 _ hn4 hm4 hC2 af4 _
      obtain ⟨F4, N4⟩ := elt_base F3 N3 hC2 hn4 (fun b o e => af4.keep b o e (by simp))
      clear F3 N3
      obtain ⟨h4, gs4, d4, t4, os4⟩ := s4
      walk_at "m:steps"
      · trivial
      · exact Af.refl _
      · trivial
    · intro D s5 xs5 ys ce
      have hxs : xs5 = ss.map fun q => Value.ref q.1 := src_all (by rw [ce.len]) ce.src
      have hys : ys.length = ((ss.map fun q => Value.ref q.1).filter fun v => !(inP w ss y v)).length := by rw [← ce.out.length, hxs]
      have hys2 : ys.length < 1000 := by
        rw [hys]; exact Nat.lt_of_le_of_lt (List.length_filter_le _ _) (by rw [List.length_map, hsl2]; omega)
      obtain ⟨F5, N5⟩ := after_gen F3 N3 ce.af ce.new ce.at_
      have af5 := ce.af
      clear F3 N3 ce
      obtain ⟨h5, gs5, d5, t5, os5⟩ := s5
      dsimp only at F5 N5 ⊢
      walk_at "m:steps"
      · have := (sets_all hyw hat hrs fun _ h => h).1
        rw [← hys] at this
        show (((ys.length : Nat) : Int) == 0) = rs.all fun q => yes b far z q.2.1 y
        exact Bool.eq_iff_iff.mpr (by rw [← this]; simp)
      · exact ⟨fun b o e _ => af5.keep b o e List.not_mem_nil, af5.os, af5.gens⟩
      · trivial
  · rintro C' i v s₃ hi hv _ hc hC af _
    obtain ⟨oO, eO, dO⟩ := hc
    have F3 := fr_af F af
    have N3 := news_af N af
    have gone : ∀ {a : Addr} {o : Obj}, hp.get? a = some o → @Ne Nat (C' + 1) a := fun {a o} e1 q => Nat.lt_irrefl a (Nat.lt_of_lt_of_le (Heap.lt_size e1) (Nat.le_trans hC (Nat.le_trans (Nat.le_succ C') (Nat.le_of_eq q))))
    replace N3 := news_one N3 (a := C' + 1) eO (by obtain ⟨oL, _, _, e1, _⟩ := F.ns; exact gone e1) (by
      cases h : (gz g s0.heap).get? (C' + 1) with
      | none => rfl
      | some o => exact absurd rfl (gone (F.keep _ _ h)))
    clear F N
    obtain ⟨h₃, gs₃, d₃, t₃, os₃⟩ := s₃
    dsimp only at F3 N3
    change wpAny (MM w) _ (eval _ (compEnvC _ ((Str.ofString "word", C' + 1) :: _) C' _)) _ _ _
    walk_at "m:steps"
    · exact ⟨rfl⟩
    · exact Af.refl _
    · trivial
  · intro D s' xs5 ys ce
    have hxs : xs5 = wv := src_all (by rw [ce.len]) ce.src
    have hys : ys = wv.filter (strP fun y => rs.all fun q => yes b far z q.2.1 y) := by
      have := paired_eq (paired_imp (fun _ _ ⟨_, _, h⟩ => h.p) ce.out)
      rw [hxs] at this; exact this.symm
    have hst := strs_filter (P := fun y => rs.all fun q => yes b far z q.2.1 y) hwv
    rw [← hys] at hst
    obtain ⟨F6, N6⟩ := after_gen F N ce.af ce.new ce.at_
    have U6 := U.seg (d := s'.drawn) (t := s'.toks) F6 N6 (by walk_at "m:rest") (ce.af.gens hbare)
    have hos6 := ce.af.os
    have hD6 := ce.at_
    have hDc6 := U6.xs _ hDc
    obtain ⟨h6, gs6, d6, t6, os6⟩ := s'
    dsimp only at hos6 F6 N6 U6 hD6 hDc6
    subst hos6
    clear F N ce
    walk_at "m:steps"
    unfold Stopped
    have ok := words_ok U.X.hS
    refine ne_strs (xs := yc) (ys := ys) ⟨_, hDc6.1, rfl, _, rfl⟩ ⟨_, hD6, rfl, _, rfl⟩ hyc hst (fun y hy => ok y (List.mem_filter.mp hy).1) (fun y hy => ok y (List.mem_filter.mp hy).1) (Nat.le_of_ble_eq_true rfl) ?_
    rw [decide_eq_true rfl]
    (try dsimp only [Bool.not_true])
    walk_at "m:steps"
    exact ⟨⟨by trivial, U6.toks⟩⟩
set_option maxHeartbeats 4000000 in
theorem u_20 (I : LawIn w g s0 script ns) (U : US w g s0 L e b z far sp G gs kg W C cs kc rs rl pl put m cv xs s) {ql : B3} (hq : ql ∈ rs) (hlen : rs.length ≤ 3) (hc8 : (8, .ref wl) ∈ cv) (hwl : (wl, lst wv) ∈ xs) (hwv : StrsAre wv (wordsOf b z)) {sl Dc : Addr} {ss : List (Addr × Obj)} {yc : List Value} (hc11 : (11, .ref sl) ∈ cv) (hsl : (sl, lst (ss.map fun q => Value.ref q.1)) ∈ xs) (hss : ∀ q ∈ ss, q ∈ xs)
    (hrs : SetsAre w b far z (wordsOf b z) rs ss) (hDc : (Dc, lst yc) ∈ xs) (hmc : m (Str.ofString "some") = some (.ref Dc)) (hyc : StrsAre yc ((wordsOf b z).filter fun y => rs.any fun q => yes b far z q.2.1 y)) {bo : Stmt} (hbo : lawStm w.params 20 = bo) :
    wpAny (MM w) ((aM 10 10).deeper (lawEnv w.params L)) (exec bo (lawEnv w.params L)) (fun fl s' => Stp (fl = .next ∧ US w g s0 L e b z far sp G gs kg W C cs kc rs rl pl put m cv xs s')) NoE s := by
  obtain ⟨oB, oZ, oG, oW, oC, oP, tb, tz, n1, n2, vs, tG, tW, tC, tq, dB, dZ, dG, dW, dC, dP, hvs, N⟩ := U.led0 hq
  obtain ⟨oM, dM, eM, nM1, nM2⟩ := U.cellAt hc8
  obtain ⟨oM1, dM1, eM1, nM11, nM12⟩ := U.cellAt hc11
  replace N := U.item (U.item (U.item (news_one (news_one N (a := L + 1 + 1 + 1 + 1 + 1 + 1 + 1 + 1) eM nM1 nM2) (a := L + 1 + 1 + 1 + 1 + 1 + 1 + 1 + 1 + 1 + 1 + 1) eM1 nM11 nM12) hwl) hsl) hDc
  have HS := U.X.hS
  have hsl2 : ss.length = rs.length := (Paired.length hrs).symm
  have hat : ∀ q ∈ ss, s.heap.get? q.1 = some q.2 := fun q hq => (U.xs q (hss q hq)).1
  have hwl25 : wv.length ≤ 25 := by
    rw [hwv.length, wordsOf, List.length_map, List.length_range]; exact (sz_pow U.X.hS).2.1
  have F := U.F
  have CX := I.cx.keeps (gz_some I.st)
  have X := CX.K
  obtain ⟨loose, mean, mg, mb, TT⟩ := CX.T
  unfold lawStm lawBody lawOf at hbo
  conv at hbo => lhs; whnf
  subst hbo
  delta lawEnv
  generalize hsc : lawScope w.params = sc
  unfold lawScope lawOf at hsc
  conv at hsc => lhs; whnf
  subst hsc
  simp only [ledOf, List.cons_append, List.nil_append] at N
  obtain ⟨hp, gn, dr, tk, os⟩ := s
  have hos := U.os
  have hbare := U.bare
  dsimp only at F N hos hbare ⊢
  subst hos
  dsimp only at hat
  walk_at "m:steps"
  unfold Stopped
  refine comp_gen (tb := []) (Inv := fun _ => True) (Bd := bdC) (n := wv.toArray.size) (P := fun i v => wv.toArray[i]? = some v) (fun _ => rfl) rfl rfl (by decide) (by rw [List.size_toArray]; exact Nat.le_trans hwl25 (by decide)) (strP fun y => rs.any fun q => yes b far z q.2.1 y) (fun _ _ v y => Stp (v = y)) (fun _ _ _ _ _ h _ => h) ?_
  walk_at "m:steps"
  unfold Stopped
  refine ⟨_, ok_cell tb_nil trivial (it_list rfl (News.isList N (by k_mem))) (fun _ => rfl) (fun _ => rfl) rfl (fun _ => rfl) ?_ ?_, ?_⟩
  · rintro C' i v s₃ hi hv hc hC af _
    obtain ⟨y, ty, rfl, hy⟩ := StrsAre.item hwv i v (by rw [← List.getElem?_toArray]; exact hv)
    have hyw := List.mem_of_getElem? hy
    obtain ⟨oO, eO, dO⟩ := hc
    have F3 := fr_af F af
    have N3 := news_af N af
    have gone : ∀ {a : Addr} {o : Obj}, hp.get? a = some o → @Ne Nat (C' + 1) a := fun {a o} e1 q => Nat.lt_irrefl a (Nat.lt_of_lt_of_le (Heap.lt_size e1) (Nat.le_trans hC (Nat.le_trans (Nat.le_succ C') (Nat.le_of_eq q))))
    replace N3 := news_one N3 (a := C' + 1) eO (by obtain ⟨oL, _, _, e1, _⟩ := F.ns; exact gone e1) (by
      cases h : (gz g s0.heap).get? (C' + 1) with
      | none => rfl
      | some o => exact absurd rfl (gone (F.keep _ _ h)))
    have k3 : ∀ b o, hp.get? b = some o → s₃.heap.get? b = some o := fun b o e => af.keep b o e List.not_mem_nil
    clear F N
    obtain ⟨h₃, gs₃, d₃, t₃, os₃⟩ := s₃
    dsimp only at k3 F3 N3
    change wpAny (MM w) _ (testsOf _ (compEnvC _ ((Str.ofString "word", C' + 1) :: _) C' _)) _ _ _
    refine wpAny_tests_one ?_
    walk_at "m:steps"
    unfold Stopped
    refine comp_gen (tb := []) (Inv := fun _ => True) (Bd := bdN (Str.ofString "yes")) (n := (ss.map fun q => Value.ref q.1).toArray.size) (P := fun i v => (ss.map fun q => Value.ref q.1).toArray[i]? = some v) (fun _ => rfl) rfl rfl (by decide) (by rw [List.size_toArray, List.length_map, hsl2]; exact Nat.le_trans hlen (by decide)) (inP w ss y) (fun _ _ _ _ => True) (fun _ _ _ _ _ _ _ => trivial) ?_
    walk_at "m:steps"
    unfold Stopped
    refine ⟨_, ok_name tb_nil trivial (it_list rfl (News.isList N3 (by k_mem))) (by decide) rfl rfl ?_ ?_, ?_⟩
    · rintro C2 i2 v2 mm s4 hi2 hv2 hn4 hm4 hC2 af4 _
      obtain ⟨so, hso, rfl⟩ : ∃ so ∈ ss, v2 = Value.ref so.1 := by
        rw [List.getElem?_toArray, List.getElem?_map] at hv2
        cases e1 : ss[i2]? with
        | none => rw [e1] at hv2; cases hv2
        | some q => rw [e1] at hv2; cases hv2; exact ⟨q, List.mem_of_getElem? e1, rfl⟩
      obtain ⟨F4, N4⟩ := elt_base F3 N3 hC2 hn4 (fun b o e => af4.keep b o e (by simp))
      have e4 : s4.heap.get? so.1 = some so.2 := af4.keep _ _ (k3 _ _ (hat so hso)) List.not_mem_nil
      obtain ⟨q, hk⟩ := Paired.right hrs so hso
      clear F3 N3
      obtain ⟨h4, gs4, d4, t4, os4⟩ := s4
      refine wpAny_tests_one ?_
      walk_at "m:steps"
      unfold Stopped
      refine wpAny_inSet_of (knd := PySem.strKind Pg w) (k := y) (strKind_is _ _ _ _) rfl (Obj.SetObjOf.setOf hk e4 ?_) ?_
      · exact Nat.lt_of_le_of_lt (List.length_filter_le _ _) (by rw [wordsOf, List.length_map, List.length_range]; exact Nat.lt_of_le_of_lt (sz_pow HS).2.1 (by decide))
      · dsimp only
        walk_at "m:steps"
        · rw [inP_eq hat hso hk]
        · exact ⟨fun _ _ e _ => e, rfl, id⟩
        · trivial
    · rintro C2 i2 v2 mm s4 hi2 hv2 _ hn4 hm4 hC2 af4 _
      obtain ⟨F4, N4⟩ := elt_base F3 N3 hC2 hn4 (fun b o e => af4.keep b o e (by simp))
      clear F3 N3
      obtain ⟨h4, gs4, d4, t4, os4⟩ := s4
      walk_at "m:steps"
      · trivial
      · exact Af.refl _
      · trivial
    · intro D s5 xs5 ys ce
      have hxs : xs5 = ss.map fun q => Value.ref q.1 := src_all (by rw [ce.len]) ce.src
      have hys : ys.length = ((ss.map fun q => Value.ref q.1).filter (inP w ss y)).length := by rw [← ce.out.length, hxs]
      have hys2 : ys.length < 1000 := by
        rw [hys]; exact Nat.lt_of_le_of_lt (List.length_filter_le _ _) (by rw [List.length_map, hsl2]; omega)
      obtain ⟨F5, N5⟩ := after_gen F3 N3 ce.af ce.new ce.at_
      have af5 := ce.af
      clear F3 N3 ce
      obtain ⟨h5, gs5, d5, t5, os5⟩ := s5
      dsimp only at F5 N5 ⊢
      walk_at "m:steps"
      · have := (sets_all hyw hat hrs fun _ h => h).2
        rw [← hys] at this
        show decide ((0 : Int) < ((ys.length : Nat) : Int)) = rs.any fun q => yes b far z q.2.1 y
        exact Bool.eq_iff_iff.mpr (by rw [← this]; simp)
      · exact ⟨fun b o e _ => af5.keep b o e List.not_mem_nil, af5.os, af5.gens⟩
      · trivial
  · rintro C' i v s₃ hi hv _ hc hC af _
    obtain ⟨oO, eO, dO⟩ := hc
    have F3 := fr_af F af
    have N3 := news_af N af
    have gone : ∀ {a : Addr} {o : Obj}, hp.get? a = some o → @Ne Nat (C' + 1) a := fun {a o} e1 q => Nat.lt_irrefl a (Nat.lt_of_lt_of_le (Heap.lt_size e1) (Nat.le_trans hC (Nat.le_trans (Nat.le_succ C') (Nat.le_of_eq q))))
    replace N3 := news_one N3 (a := C' + 1) eO (by obtain ⟨oL, _, _, e1, _⟩ := F.ns; exact gone e1) (by
      cases h : (gz g s0.heap).get? (C' + 1) with
      | none => rfl
      | some o => exact absurd rfl (gone (F.keep _ _ h)))
    clear F N
    obtain ⟨h₃, gs₃, d₃, t₃, os₃⟩ := s₃
    dsimp only at F3 N3
    change wpAny (MM w) _ (eval _ (compEnvC _ ((Str.ofString "word", C' + 1) :: _) C' _)) _ _ _
    walk_at "m:steps"
    · exact ⟨rfl⟩
    · exact Af.refl _
    · trivial
  · intro D s' xs5 ys ce
    have hxs : xs5 = wv := src_all (by rw [ce.len]) ce.src
    have hys : ys = wv.filter (strP fun y => rs.any fun q => yes b far z q.2.1 y) := by
      have := paired_eq (paired_imp (fun _ _ ⟨_, _, h⟩ => h.p) ce.out)
      rw [hxs] at this; exact this.symm
    have hst := strs_filter (P := fun y => rs.any fun q => yes b far z q.2.1 y) hwv
    rw [← hys] at hst
    obtain ⟨F6, N6⟩ := after_gen F N ce.af ce.new ce.at_
    have U6 := U.seg (d := s'.drawn) (t := s'.toks) F6 N6 (by walk_at "m:rest") (ce.af.gens hbare)
    have hos6 := ce.af.os
    have hD6 := ce.at_
    have hDc6 := U6.xs _ hDc
    obtain ⟨h6, gs6, d6, t6, os6⟩ := s'
    dsimp only at hos6 F6 N6 U6 hD6 hDc6
    subst hos6
    clear F N ce
    walk_at "m:steps"
    unfold Stopped
    have ok := words_ok U.X.hS
    refine ne_strs (xs := yc) (ys := ys) ⟨_, hDc6.1, rfl, _, rfl⟩ ⟨_, hD6, rfl, _, rfl⟩ hyc hst (fun y hy => ok y (List.mem_filter.mp hy).1) (fun y hy => ok y (List.mem_filter.mp hy).1) (Nat.le_of_ble_eq_true rfl) ?_
    rw [decide_eq_true rfl]
    (try dsimp only [Bool.not_true])
    walk_at "m:steps"
    exact ⟨⟨by trivial, U6.toks⟩⟩
end
end
example : True ∧ True := by walk1 <;> trivial
section
local macro_rules | `(tactic| walk_at "m:flush") => `(tactic| trivial)
example : True ∧ True := by walk1 <;> trivial
end
section
local macro_rules | `(tactic| walk_at "compareOp NotEq ref ref") => `(tactic| (with_reducible refine stop_here ?_))
local macro_rules | `(tactic| walk_at "compareOp NotIn str ref") => `(tactic| (with_reducible refine stop_here ?_))
section
variable {w : World} {g : Heap} {s0 s : Shared} {L : Addr} {e b z far : Int} {sp : Addr} {G : Fa} {gs : List B3} {kg : Int} {W : B3} {C : Fa} {cs : List Int} {kc : Int} {rs : List B3} {rl pl : Addr} {put : List Str} {ex : List (Addr × Obj)} {m : Str → Option Value} {key : Str} {script : Addr} {ns : List Int} {cv cv' : List (Nat × Value)} {xs : List (Addr × Obj)} {wl : Addr} {wv : List Value}
set_option maxHeartbeats 4000000 in
theorem u_21 (I : LawIn w g s0 script ns) (U : US w g s0 L e b z far sp G gs kg W C cs kc rs rl pl put m cv xs s) {ql : B3} (hq : ql ∈ rs) (hW : 0 ≤ W.2.1 ∧ W.2.1 < 128) {Ds ka : Addr} {ys : List Value} {ks kk : List Str} {ok : Obj} {tot lit : Int} {tt tl : Tok} (hms : m (Str.ofString "some") = some (.ref Ds)) (hmt : m (Str.ofString "total") = some (.int tot tt)) (hml : m (Str.ofString "lit") = some (.int lit tl)) (hDs : (Ds, lst ys) ∈ xs) (hys : StrsAre ys ks) (hks : ks.length < 1000)
    (hc12 : (12, .ref ka) ∈ cv) (hka : (ka, ok) ∈ xs) (hkk : SetObj w ok kk) (hkl : kk.length < 1000) (hsub : ∀ y ∈ ks, y ∈ kk) (htot : (ks.length : Int) = tot) (hlit : (pop W.2.1 : Int) = lit) {bo : Stmt} (hbo : lawStm w.params 21 = bo) :
    wpAny (MM w) ((aM 10 10).deeper (lawEnv w.params L)) (exec bo (lawEnv w.params L)) (fun fl s' => Stp (fl = .next ∧ US w g s0 L e b z far sp G gs kg W C cs kc rs rl pl put m cv xs s')) NoE s := by
  obtain ⟨oB, oZ, oG, oW, oC, oP, tb, tz, n1, n2, vs, tG, tW, tC, tq, dB, dZ, dG, dW, dC, dP, hvs, N⟩ := U.led0 hq
  obtain ⟨oM, dM, eM, nM1, nM2⟩ := U.cellAt hc12
  replace N := U.item (U.item (news_one N (a := L + 1 + 1 + 1 + 1 + 1 + 1 + 1 + 1 + 1 + 1 + 1 + 1) eM nM1 nM2) hDs) hka
  have hyl := hys.length
  have hys2 : ys.length < 1000 := by omega
  have F := U.F
  have CX := I.cx.keeps (gz_some I.st)
  have X := CX.K
  obtain ⟨loose, mean, mg, mb, TT⟩ := CX.T
  unfold lawStm lawBody lawOf at hbo
  conv at hbo => lhs; whnf
  subst hbo
  delta lawEnv
  generalize hsc : lawScope w.params = sc
  unfold lawScope lawOf at hsc
  conv at hsc => lhs; whnf
  subst hsc
  simp only [ledOf, List.cons_append, List.nil_append] at N
  obtain ⟨hp, gn, dr, tk, os⟩ := s
  have hos := U.os
  have hbare := U.bare
  dsimp only at F N hos hbare ⊢
  subst hos
  walk_at "m:steps"
  · exact absurd (show (ys.length : Int) = tot by omega) (by assumption)
  unfold Stopped
  refine c_ones I.cx (fun b o e => F.keep b o (gz_some I.st b o e)) (rm_deep (by decide) (by decide)) U.X.hS U.X.WB hW ?_
  intro t5 s' af
  have F' := fr_af F af
  have N' := news_af N af
  have hos5 := af.os
  have hg5 := af.gens hbare
  obtain ⟨h5, gs5, d5, t5', os5⟩ := s'
  dsimp only at hos5 F' N' hg5 ⊢
  subst hos5
  clear F N
  walk_at "m:steps"
  · exact absurd hlit (by assumption)
  unfold Stopped
  refine comp_gen (tb := []) (Inv := fun _ => True) (Bd := bdN (Str.ofString "word")) (n := ys.toArray.size) (P := fun i v => ys.toArray[i]? = some v) (fun _ => rfl) rfl rfl (by decide) (by rw [List.size_toArray]; exact Nat.le_trans (Nat.le_of_lt hys2) (by decide)) (fun _ => false) (fun _ _ _ _ => True) (fun _ _ _ _ _ _ _ => trivial) ?_
  walk_at "m:steps"
  unfold Stopped
  refine ⟨_, ok_name tb_nil trivial (it_list rfl (News.isList N' (by k_mem))) (by decide) rfl rfl ?_ ?_, ?_⟩
  · rintro C2 i2 v2 mm s4 hi2 hv2 hn4 hm4 hC2 af4 _
    obtain ⟨y, ty, rfl, hy⟩ := StrsAre.item hys i2 v2 (by rw [← List.getElem?_toArray]; exact hv2)
    obtain ⟨F4, N4⟩ := elt_base F' N' hC2 hn4 (fun b o e => af4.keep b o e (by simp))
    have e4 : s4.heap.get? ka = some ok := (N4 (ka, ok) (by k_mem)).1
    clear F' N'
    obtain ⟨h4, gs4, d4, t4, os4⟩ := s4
    refine wpAny_tests_one ?_
    walk_at "m:steps"
    unfold Stopped
    refine wpAny_notInSet_of (knd := PySem.strKind Pg w) (k := y) (strKind_is _ _ _ _) rfl (Obj.SetObjOf.setOf hkk e4 (Nat.lt_of_lt_of_le hkl (by decide))) ?_
    rw [decide_eq_true (hsub y (List.mem_of_getElem? hy))]
    (try dsimp only)
    walk_at "m:steps"
    · exact ⟨fun _ _ e _ => e, rfl, id⟩
    · trivial
  · rintro C2 i2 v2 mm s4 hi2 hv2 hp _ _ _ _ _
    cases hp
  · intro D s' xs5 zs ce
    have hzs : zs = [] := List.eq_nil_of_length_eq_zero (by rw [← ce.out.length, List.filter_eq_nil_iff.mpr (fun _ _ => Bool.false_ne_true)]; rfl)
    subst hzs
    obtain ⟨F6, N6⟩ := after_gen F' N' ce.af ce.new ce.at_
    have hg6 := ce.af.gens hg5
    have hos6 := ce.af.os
    obtain ⟨h6, gs6, d6, t6, os6⟩ := s'
    dsimp only at hos6 F6 N6 hg6
    subst hos6
    clear F' N' ce
    walk_at "m:steps"
    unfold Stopped
    (rename Fr _ _ _ _ => F9); (rename News _ _ _ _ => N9)
    refine ne_strs (xs := []) (ys := []) (ns := []) (ms := []) (News.isList N9 (by k_mem)) (News.isList N9 (by k_mem)) .nil .nil (fun _ h => absurd h List.not_mem_nil) (fun _ h => absurd h List.not_mem_nil) (Nat.le_of_ble_eq_true rfl) ?_
    rw [decide_eq_true rfl]
    (try dsimp only [Bool.not_true])
    have U9 := U.seg (d := d6) (t := t6) F9 N9 (by walk_at "m:rest") hg6
    walk_at "m:steps"
    exact ⟨⟨by trivial, U9.toks⟩⟩
end
end
example : True ∧ True := by walk1 <;> trivial
section
local macro_rules | `(tactic| walk_at "m:flush") => `(tactic| trivial)
example : True ∧ True := by walk1 <;> trivial
end
section
local macro_rules | `(tactic| walk_at "exec Assign cons ListComp") => `(tactic| (with_reducible refine stop_here ?_))
section
variable {w : World} {g : Heap} {s0 s : Shared} {L : Addr} {e b z far : Int} {sp : Addr} {G : Fa} {gs : List B3} {kg : Int} {W : B3} {C : Fa} {cs : List Int} {kc : Int} {rs : List B3} {rl pl : Addr} {put : List Str} {ex : List (Addr × Obj)} {m : Str → Option Value} {key : Str} {script : Addr} {ns : List Int} {cv cv' : List (Nat × Value)} {xs : List (Addr × Obj)} {wl : Addr} {wv : List Value}
/-- the least of some ints -/
def mn : List Int → Int
  | [] => 0
  | [a] => a
  | a :: r => min a (mn r)
theorem mn_le : ∀ {l : List Int} {x : Int}, x ∈ l → mn l ≤ x
  | [a], x, h => by rw [List.mem_singleton.mp h]; exact Int.le_refl _
  | a :: b :: r, x, h => by
    show min a (mn (b :: r)) ≤ x
    rcases List.mem_cons.mp h with h | h
    · rw [h]; exact Int.min_le_left _ _
    · exact Int.le_trans (Int.min_le_right _ _) (mn_le h)
theorem mn_mem : ∀ {l : List Int}, l ≠ [] → mn l ∈ l
  | [a], _ => .head _
  | a :: b :: r, _ => by
    show min a (mn (b :: r)) ∈ _
    by_cases h : a ≤ mn (b :: r)
    · rw [Int.min_eq_left h]; exact .head _
    · rw [Int.min_eq_right (by omega)]; exact .tail _ (mn_mem nofun)
theorem mn_of {l : List Int} {v : Int} (h : IsMin v l) : mn l = v := by
  have h1 := h.2 (mn l) (mn_mem fun e => by have := h.1; rw [e] at this; cases this)
  have h2 := mn_le h.1
  omega
/-- what the counting one tells of a word -/
noncomputable def tell (b far z : Int) (cs : List Int) (y : Str) : Int := mn ((spell far z y).map (cnt b cs))
theorem told_ints {f : Str → Int} : ∀ {vs ys : List Value} {ws : List Str}, StrsAre vs ws → Paired (fun v y => ∃ y0 t t', v = Value.str y0 t ∧ y = Value.int (f y0) t') vs ys → IntsAre ys (ws.map f)
  | [], [], _, .nil, .nil => .nil
  | _ :: _, _ :: _, _, .cons y t h, .cons ⟨y0, t0, t', e1, e2⟩ p => by
    injection e1 with h1 h2
    subst h1 e2
    exact .cons _ _ (told_ints h p)
set_option maxHeartbeats 4000000 in
theorem u_22 (I : LawIn w g s0 script ns) (U : US w g s0 L e b z far sp G gs kg W C cs kc rs rl pl put m cv xs s) {ql : B3} (hq : ql ∈ rs) (hc8 : (8, .ref wl) ∈ cv) (hwl : (wl, lst wv) ∈ xs) (hwv : StrsAre wv (wordsOf b z)) {bo : Stmt} (hbo : lawStm w.params 22 = bo) :
    wpAny (MM w) ((aM 10 10).deeper (lawEnv w.params L)) (exec bo (lawEnv w.params L)) (fun fl s' => Stp (fl = .next ∧ ∃ D ys, IntsAre ys ((wordsOf b z).map (tell b far z cs)) ∧ US w g s0 L e b z far sp G gs kg W C cs kc rs rl pl put (fun y => if y = Str.ofString "told" then some (.ref D) else m y) cv ((D, lst ys) :: xs) s')) NoE s := by
  obtain ⟨oB, oZ, oG, oW, oC, oP, tb, tz, n1, n2, vs, tG, tW, tC, tq, dB, dZ, dG, dW, dC, dP, hvs, N⟩ := U.led0 hq
  obtain ⟨oM, dM, eM, nM1, nM2⟩ := U.cellAt hc8
  replace N := U.item (news_one N (a := L + 1 + 1 + 1 + 1 + 1 + 1 + 1 + 1) eM nM1 nM2) hwl
  have hz := U.X.hS.z
  have HS := U.X.hS
  obtain ⟨pt, pk, ot⟩ := U.X.t3
  have hwl25 : wv.length ≤ 25 := by
    rw [hwv.length, wordsOf, List.length_map, List.length_range]; exact (sz_pow U.X.hS).2.1
  have F := U.F
  have CX := I.cx.keeps (gz_some I.st)
  have X := CX.K
  obtain ⟨loose, mean, mg, mb, TT⟩ := CX.T
  unfold lawStm lawBody lawOf at hbo
  conv at hbo => lhs; whnf
  subst hbo
  delta lawEnv
  generalize hsc : lawScope w.params = sc
  unfold lawScope lawOf at hsc
  conv at hsc => lhs; whnf
  subst hsc
  simp only [ledOf, List.cons_append, List.nil_append] at N
  obtain ⟨hp, gn, dr, tk, os⟩ := s
  have hos := U.os
  have hbare := U.bare
  dsimp only at F N hos hbare ⊢
  subst hos
  dsimp only at ot
  walk_at "m:steps"
  unfold Stopped
  refine comp_use (tb := [515]) (Inv := TabInv 324 19 515) (Bd := bdN (Str.ofString "word")) (n := wv.toArray.size) (P := fun i v => wv.toArray[i]? = some v) rfl (fun _ => rfl) rfl rfl (by decide) rfl rfl (by rw [List.size_toArray]; exact Nat.le_trans hwl25 (by decide)) (fun _ => true) (fun _ _ v y => Stp (∃ y0 t t', v = Value.str y0 t ∧ y = Value.int (tell b far z cs y0) t')) (fun _ _ _ _ _ h _ => h) ?_
  walk_at "m:steps"
  unfold Stopped
  have N0 : News (gz g s0.heap) L hp [(L + 1 + 1 + 1 + 1 + 1, oC), (C.x, instObj 560 C.d), (C.d, dictOf (cbEs w.params tC e b z sp C.l kc) 12)] := fun q hq => by
    simp only [List.mem_cons, List.not_mem_nil, or_false] at hq
    rcases hq with rfl | rfl | rfl
    · exact N _ (by k_mem)
    · exact N _ (by k_mem)
    · exact N _ (by k_mem)
  have n515 : ∀ {a : Addr} {o : Obj}, hp.get? a = some o → o ≠ PySem.W.tabObj pt → @Ne Nat a 515 := fun {a o} e1 n q => by
    rw [show a = 515 from q, ot.at_] at e1; exact n (Option.some.inj e1).symm
  have hn0 : ∀ q ∈ [(L + 1 + 1 + 1 + 1 + 1, oC), (C.x, instObj 560 C.d), (C.d, dictOf (cbEs w.params tC e b z sp C.l kc) 12)], @Ne Nat q.1 515 := fun q hq => by
    refine n515 (N0 q hq).1 fun h => ?_
    simp only [List.mem_cons, List.not_mem_nil, or_false] at hq
    rcases hq with rfl | rfl | rfl
    · have h : oC = PySem.W.tabObj pt := h
      rw [h] at dC; cases dC
    · injection h with h; cases h
    · injection h with h; cases h
  refine ⟨_, ok_name tb_tab ⟨⟨pt, pk, ot.at_⟩, hbare⟩ (it_list rfl (News.isList N (by k_mem))) (by decide) rfl rfl (fun _ _ _ _ _ _ _ _ _ _ _ hI => wpAny_tests_nil ⟨rfl, (Af.refl _).mono (by simp), hI⟩) ?_, _, F.ns, ?_⟩
  · rintro C2 i2 v2 mm2 s4 hi2 hv2 _ hn4 hm4 hC2 af4 ⟨⟨ps4, pk4, e4⟩, hb4⟩
    obtain ⟨y, ty, rfl, hy⟩ := StrsAre.item hwv i2 v2 (by rw [← List.getElem?_toArray]; exact hv2)
    obtain ⟨hyz, hys⟩ := words_len hz y (List.mem_of_getElem? hy)
    obtain ⟨F4, N4⟩ := elt_tab F N0 (gz_none ot.new) hn0 hC2 hn4 (fun b o n e => af4.keep b o e (not1 n))
    have O := U.X.offs (ls := []) (ds := []) (ts := [515]) (wrs_t (by decide) pk ot.at_) af4
    have C4 := O.CC nofun nofun
    obtain ⟨_, _, S4⟩ := O.S
    clear F N N0
    obtain ⟨h4, gs4, d4, t4, os4⟩ := s4
    walk_at "m:steps"
    unfold Stopped
    refine c_c_check I.cx (fun b o e => F4.keep b o (gz_some I.st b o e)) (rm_deep (by decide) (by decide)) HS C4 S4.sp hys hyz I.c3 ⟨e4, ot.new⟩ pk4 hb4 ?_
    intro v tv s' hv af' ht'
    have hb' := af'.gens hb4
    obtain ⟨h5, gs5, d5, t5, os5⟩ := s'
    dsimp only
    refine ⟨⟨y, ty, tv, rfl, by unfold tell; rw [mn_of hv]⟩, af'.tr (c := [515]) (d := []) (s := ⟨h4, gs4, d4, t4, os4⟩) (Af.refl _) (fun _ h => h) (by simp), ht', hb'⟩
  · intro D s' xs5 ys ce hns
    have hxs : xs5 = wv := src_all (by rw [ce.len]) ce.src
    have hst : IntsAre ys ((wordsOf b z).map (tell b far z cs)) := by
      have z1 := ce.out
      rw [List.filter_eq_self.mpr (fun _ _ => rfl), hxs] at z1
      exact told_ints hwv (paired_imp (fun _ _ ⟨_, _, h⟩ => h.p) z1)
    have U6 := U.tab (P := 515) (.inr ⟨rfl, ce.inv.1⟩) (fun b o n1 n2 e => ce.af.keep b o e (fun hc => by
      rcases List.mem_append.mp hc with hc | hc
      · exact n1 (List.mem_singleton.mp hc)
      · exact n2 (List.mem_singleton.mp hc))) hns ce.af.os ce.inv.2
    have hD : @Ne Nat D L ∧ (gz g s0.heap).get? D = none := by
      refine ⟨fun q => ?_, none_back F.keep ce.new⟩
      obtain ⟨oL, _, _, e2, _⟩ := F.ns
      have := ce.new
      rw [show D = L from q] at this
      rw [show (Shared.heap _).get? L = _ from e2] at this; cases this
    refine ⟨⟨by trivial, D, ys, hst, U6.X, U6.F, U6.cv, fun q hq => ?_, U6.os, U6.bare⟩⟩
    rcases List.mem_cons.mp hq with hh | hq
    · subst hh; exact ⟨ce.at_, ⟨nofun, nofun⟩, hD⟩
    · exact U6.xs q hq
end
end
example : True ∧ True := by walk1 <;> trivial
section
local macro_rules | `(tactic| walk_at "m:flush") => `(tactic| trivial)
example : True ∧ True := by walk1 <;> trivial
end
section
section
variable {w : World} {A : Around} {E : Value → Shared → Prop} {R : Result → Shared → Prop} {s : Shared}
/-- a set of at most n whole numbers, led as its maker led it -/
def IS (w : World) (h : Heap) (a : Addr) (n : Nat) : Prop :=
  ∃ o es ep t, h.get? a = some o ∧ o.ExactSet ∧ o.data = .set es ep t ∧ ElemsOf (intKind Pg w) es.toList ∧ es.size ≤ n ∧ t.fits es.size = true ∧ t.led = !w.params.followText "set-order"
theorem orStandIn_led (t : SetTable) (n : Nat) : (t.orStandIn n).led = t.led := by
  unfold SetTable.orStandIn; split <;> rfl
theorem layNew_led (t : SetTable) (es : Array (Int × Value)) (h : Int) (x : Value) : (layNew t es h x).2.1.led = t.led := by
  unfold layNew
  split
  · exact orStandIn_led _ _
  · rfl
theorem laid_led {m f k : Nat} {l p : Bool} {hs : Array Int} {r : SetTable × Array Nat} (h : SetTable.laid m f k l p hs = some r) : r.1.led = l := by
  unfold SetTable.laid at h
  cases ho : SetTable.layClean m hs with
  | none => rw [ho] at h; cases h
  | some ow => rw [ho] at h; injection h with h; rw [← h]
theorem relayAll_led (t : SetTable) (es : Array (Int × Value)) (k : Nat) : (relayAll t es k).2.1.led = t.led := by
  unfold relayAll
  split
  · rename_i t' order hr
    dsimp only
    split
    · exact laid_led hr
    · rfl
  · rfl
theorem IS.store {h : Heap} {a : Addr} {o : Obj} {es : Array (Int × Value)} {ep : Nat} {t : SetTable} (ho : h.get? a = some o) (hex : o.ExactSet) (hd : o.data = .set es ep t)
    {es' : Array (Int × Value)} {t' : SetTable} {n : Nat} (hel : ElemsOf (intKind Pg w) es'.toList) (hb : es'.size ≤ n) (hf : t'.fits es'.size = true) (hl : t'.led = !w.params.followText "set-order") :
    (h.update a (Obj.putSet es' t')).get? a = some { o with data := .set es' (ep + 1) t' } ∧ IS w (h.update a (Obj.putSet es' t')) a n := by
  have hg : (h.update a (Obj.putSet es' t')).get? a = some { o with data := .set es' (ep + 1) t' } := by
    have := Heap.get?_update_self (Obj.putSet es' t') ho (by rw [putSet_of es' t' hd]; rfl)
    rw [putSet_of es' t' hd] at this; exact this
  exact ⟨hg, _, es', ep + 1, t', hg, hex, rfl, hel, hb, hf, hl⟩
theorem size_of_perm {α : Type} {x y : Array α} (h : List.Perm x.toList y.toList) : x.size = y.size := by
  rw [← Array.length_toList, h.length_eq, Array.length_toList]
/-- a whole number goes in -/
theorem add_int {a : Addr} {n : Nat} {k : Int} {t0 : Tok} {Q : Bool → Shared → Prop} (hS : IS w s.heap a n) (hn : n + 1 < scanBound)
    (h : ∀ b h', Heap.SameBut a s.heap h' → IS w h' a (n + 1) → Q b { s with heap := h' }) :
    wpAny (MM w) A (setAddHashed a (.int k t0) ((intKind Pg w).hash k)) Q E s := by
  obtain ⟨o, es, ep, t, ho, hex, hd, hel, hb, hf, hled⟩ := hS
  have hkey : (intKind Pg w).is k (.int k t0) = true := intKind_is _ _ _ _
  unfold setAddHashed setAddHashedIn
  refine wpAny_holding (wpAny_bind (wpAny_setState_of ho hd hf ?_))
  dsimp only
  rw [byScan_of (x := .int k t0) rfl (by omega) hel]
  simp only [↓reduceIte]
  unfold setAddByScan
  refine wpAny_bind (wpAny_bind (wpAny_rule (wpAny_bind (wpAny_setScan_of hkey ho hd hf hel ?_))))
  cases hr : List.findIdx? (fun e => (intKind Pg w).is k e.2) es.toList with
  | some j =>
    refine wpAny_pure (wpAny_pure ?_)
    exact h _ s.heap (Heap.SameBut.refl a s.heap) ⟨o, es, ep, t, ho, hex, hd, hel, Nat.le_succ_of_le hb, hf, hled⟩
  | none =>
    dsimp only
    have hperm := layNew_perm t es ((intKind Pg w).hash k) (.int k t0)
    have hfits := layNew_fits t es ((intKind Pg w).hash k) (.int k t0)
    have hld := layNew_led t es ((intKind Pg w).hash k) (.int k t0)
    generalize layNew t es ((intKind Pg w).hash k) (.int k t0) = Lx at hperm hfits hld ⊢
    obtain ⟨es1, t1, wasDummy, gave⟩ := Lx
    dsimp only at hperm hfits hld ⊢
    have hsz1 : es1.size = es.size + 1 := by rw [size_of_perm hperm, Array.size_push]
    rw [Array.toList_push] at hperm
    have hel1 : ElemsOf (intKind Pg w) es1.toList := (hel.push hkey rfl).perm hperm
    have tail : ∀ t2 : SetTable, t2.fits es1.size = true → t2.led = t.led → wpAny (MM w) A (do
        storeSet a es1 t2
        if (!wasDummy && t2.tooFull) = true then do
            (match (relayAll t2 es1 (SetTable.grown es1.size)).2.2 with | true => rule "set.scan.the-table-gave-way" | false => pure ())
            storeSet a (relayAll t2 es1 (SetTable.grown es1.size)).1 (relayAll t2 es1 (SetTable.grown es1.size)).2.1
            pure (some true)
          else pure (some true)) (fun b s' => wpAny (MM w) A (match b with | some added => pure added | none => setAddHashedIn a (.int k t0) ((intKind Pg w).hash k) 99999) Q E s') E s := by
      intro t2 hf2 hl2
      refine wpAny_bind (wpAny_storeSet_of ho hd ?_ (fits_of_scanBound (by omega)))
      obtain ⟨ho1, hS1⟩ := IS.store (w := w) (n := n + 1) ho hex hd hel1 (by omega) hf2 (hl2.trans hled)
      have hsb1 := Heap.SameBut.update s.heap a (Obj.putSet es1 t2)
      split
      · have hp := relayAll_perm t2 es1 (SetTable.grown es1.size)
        have hfr := relayAll_fits t2 es1 (SetTable.grown es1.size)
        have hlr := relayAll_led t2 es1 (SetTable.grown es1.size)
        generalize relayAll t2 es1 (SetTable.grown es1.size) = Rl at hp hfr hlr ⊢
        obtain ⟨es2, t3, gave2⟩ := Rl
        dsimp only at hp hfr hlr ⊢
        have hsz : es2.size = es1.size := size_of_perm hp
        have go : wpAny (MM w) A (do storeSet a es2 t3; pure (some true)) (fun b s' => wpAny (MM w) A (match b with | some added => pure added | none => setAddHashedIn a (.int k t0) ((intKind Pg w).hash k) 99999) Q E s') E { s with heap := s.heap.update a (Obj.putSet es1 t2) } := by
          refine wpAny_bind (wpAny_storeSet_of ho1 rfl ?_ (fits_of_scanBound (by omega)))
          obtain ⟨_, hS2⟩ := IS.store (w := w) (n := n + 1) ho1 hex rfl (hel1.perm hp) (by omega) hfr (hlr.trans (hl2.trans hled))
          exact wpAny_pure (wpAny_pure (h _ _ (hsb1.trans (Heap.SameBut.update _ a _)) hS2))
        cases gave2
        · exact wpAny_bind (wpAny_pure go)
        · exact wpAny_bind (wpAny_rule go)
      · exact wpAny_pure (wpAny_pure (h _ _ hsb1 hS1))
    have hgw : ∀ {m : Sem (Option Bool)} {Q' : Option Bool → Shared → Prop} {s1 : Shared}, wpAny (MM w) A m Q' E s1 → wpAny (MM w) A (do
        (match gave with | true => rule "set.scan.the-table-gave-way" | false => pure ())
        m) Q' E s1 := fun hm => by
      cases gave
      · exact wpAny_bind (wpAny_pure hm)
      · exact wpAny_bind (wpAny_rule hm)
    refine hgw ?_
    split
    · refine wpAny_bind ?_
      rw [hashByValue_scannable 8 rfl]
      exact wpAny_pure (tail _ hfits hld)
    · exact wpAny_bind (wpAny_pure (tail _ hfits hld))
end
end
example : True ∧ True := by walk1 <;> trivial
section
local macro_rules | `(tactic| walk_at "m:flush") => `(tactic| trivial)
example : True ∧ True := by walk1 <;> trivial
end
section
section
variable {w : World} {A : Around} {E : Value → Shared → Prop} {R : Result → Shared → Prop} {s : Shared}
theorem IS.at {h h' : Heap} {a : Addr} {n : Nat} (x : IS w h a n) (k : ∀ o, h.get? a = some o → h'.get? a = some o) : IS w h' a n := let ⟨o, es, ep, t, ho, r⟩ := x; ⟨o, es, ep, t, k o ho, r⟩
theorem IS.mono {h : Heap} {a : Addr} {n m : Nat} (x : IS w h a n) (k : n ≤ m) : IS w h a m := let ⟨o, es, ep, t, ho, h1, h2, h3, h4, r⟩ := x; ⟨o, es, ep, t, ho, h1, h2, h3, Nat.le_trans h4 k, r⟩
/-- a set is told a list of whole numbers -/
theorem ints_loop {I l S : Addr} {vs : List Value} {ks : List Int} (hi : IntsAre vs ks) (hIl : l ≠ I) (hSI : S ≠ I) (hSl : S ≠ l) (hb : ks.length + 1 < scanBound) (hh : A.in1.handled = none) :
    ∀ (k i : Nat) (s : Shared), ks.length - i = k → i ≤ ks.length → s.heap.IsListIter I l i → s.heap.IsList l vs.toArray → IS w s.heap S i →
      (∀ h' tk, (∀ b o, b ≠ S → b ≠ I → s.heap.get? b = some o → h'.get? b = some o) → IS w h' S ks.length → R (.ok (.ret .none)) { s with heap := h', toks := tk }) →
      codeAny (MM w) A (.builtin "set.update.loop" ⟨[.ref S, .ref I], []⟩) R s := by
  have W := Walks.list (prog := Pg) (w := w) hh I l hIl vs.toArray
  have hsz : vs.toArray.size = ks.length := by rw [List.size_toArray, hi.length]
  rw [hsz] at W
  intro k
  induction k with
  | zero =>
    intro i s hk hle it il hS hR
    obtain rfl : i = ks.length := by omega
    refine codeAny_builtin F.entry_set_update_loop ?_
    rw [Around.under_plainId F.plain_set_update_loop _]
    refine wpAny_bind (W.done s _ _ ⟨it, il⟩ fun h' tk hkp => ?_)
    exact wpAny_pure (hR h' tk (fun b o _ n e => hkp b o (fun q => n (List.mem_singleton.mp q)) e) (hS.at fun o e => hkp _ _ (fun q => hSI (List.mem_singleton.mp q)) e))
  | succ k ih =>
    intro i s hk hle it il hS hR
    have hlt : i < ks.length := by omega
    refine codeAny_builtin F.entry_set_update_loop ?_
    rw [Around.under_plainId F.plain_set_update_loop _]
    refine wpAny_bind (W.item i s _ _ hlt ⟨it, il⟩ fun v h' tk hv ⟨it', il'⟩ hkp => ?_)
    obtain ⟨t, rfl⟩ := IntsAre.int_at hi i v (by rw [← List.getElem?_toArray]; exact hv)
    have hS' := hS.at (h' := h') fun o e => hkp _ _ (fun q => hSI (List.mem_singleton.mp q)) e
    refine wpAny_bind (wpAny_holding ?_)
    unfold setAdd
    refine wpAny_holding ?_
    refine wpAny_bind ((intKind Pg w).pyHash (k := ks.getD i 0) (intKind_is _ _ _ _) ?_)
    refine add_int hS' (by omega) fun b h2 hsb hS2 => ?_
    have k2 : ∀ b o, b ≠ S → h'.get? b = some o → h2.get? b = some o := fun b o n e => (hsb.2 b n).trans e
    refine wpAny_pure ⟨plainId_quiet F.plain_set_update_loop _, ih (i + 1) _ (by omega) hlt (it'.at fun o e => k2 _ _ (Ne.symm hSI) e) (il'.at fun o e => k2 _ _ (Ne.symm hSl) e) hS2 fun h3 tk3 hk3 hS4 => ?_⟩
    exact hR h3 tk3 (fun b o n1 n2 e => hk3 b o n1 n2 (k2 b o n1 (hkp b o (fun q => n2 (List.mem_singleton.mp q)) e))) hS4
theorem call_set_ints {l : Addr} {vs : List Value} {ks : List Int} {Q : Value → Shared → Prop} (hh : A.handled = none) (hl : s.heap.IsList l vs.toArray) (hi : IntsAre vs ks) (hb : ks.length + 1 < scanBound)
    (h : ∀ h' tk, (∀ b o, s.heap.get? b = some o → h'.get? b = some o) → IS w h' s.heap.objs.size ks.length → Q (.ref s.heap.objs.size) { s with heap := h', toks := tk }) :
    wpAny (MM w) A (call (.type "set") [.ref l]) Q E s := by
  refine call_set_any (J := fun h' => (∀ b o, s.heap.get? b = some o → h'.get? b = some o) ∧ IS w h' s.heap.objs.size ks.length) hh hl ?_ fun h' tk ⟨hk, hS⟩ => h h' tk hk hS
  intro A' I hp R' h1 h2 h3 h4 hI hL hS k hR
  refine ints_loop (w := w) hi h2 h3 h4 hb h1 ks.length 0 _ rfl (Nat.zero_le _) hI hL ?_ fun h' tk hk hS' => hR h' tk ⟨fun b o e => hk b o (k b o e).2.2 (k b o e).2.1 (k b o e).1, hS'⟩
  exact ⟨_, _, _, _, hS, ⟨rfl, rfl, rfl⟩, rfl, fun e he => by simp at he, Nat.le_refl _, by rfl, rfl⟩
end
end
example : True ∧ True := by walk1 <;> trivial
section
local macro_rules | `(tactic| walk_at "m:flush") => `(tactic| trivial)
example : True ∧ True := by walk1 <;> trivial
end
section
section
variable {w : World} {A : Around} {E : Value → Shared → Prop} {R : Result → Shared → Prop} {s : Shared}
theorem wpAny_choose {n : Nat} {src : Source} {M : Model} {Q : Nat → Shared → Prop} (hn : n ≠ 0) (h : ∀ i d, i < n → Q i { s with drawn := d }) : wpAny M A (choose src n) Q E s := fun Γ p _ => by
  show Sem.wp M Γ (.choose src n .pure) _ _ p s
  rw [Sem.wp_choose]
  exact ⟨hn, h _ _ (Nat.mod_lt _ (Nat.pos_of_ne_zero hn))⟩
theorem draw_order {α : Type} {M : Model} : ∀ (n : Nat) (xs : List α) (s : Shared) {Q : List α → Shared → Prop}, xs.length = n → (∀ ys d, ys.length = n → (∀ y ∈ ys, y ∈ xs) → Q ys { s with drawn := d }) → wpAny M A (drawOrder n xs) Q E s
  | 0, xs, s, Q, _, h => wpAny_pure (h [] s.drawn rfl fun _ h => absurd h List.not_mem_nil)
  | n + 1, [], s, Q, hl, h => by cases hl
  | n + 1, x :: xs, s, Q, hl, h => by
    show wpAny M A (choose .order (x :: xs).length >>= _) Q E s
    refine wpAny_bind (wpAny_choose (by rw [hl]; exact Nat.succ_ne_zero _) fun i d hi => ?_)
    obtain ⟨y, hy⟩ : ∃ y, (x :: xs)[i]? = some y := ⟨_, List.getElem?_eq_getElem hi⟩
    rw [hy]
    dsimp only
    refine wpAny_bind (draw_order n _ _ (by rw [List.length_eraseIdx_of_lt hi, hl]; rfl) fun ys d2 h1 h2 => ?_)
    refine wpAny_pure (h (y :: ys) d2 (by rw [List.length_cons, h1]) fun z hz => ?_)
    rcases List.mem_cons.mp hz with rfl | hz
    · exact List.mem_of_getElem? hy
    · exact List.mem_of_mem_eraseIdx (h2 z hz)
theorem pick_go {α : Type} {next : Nat → Nat} : ∀ (f k : Nat) (l : List α) (out : Array α), (pickOrder.go next f k l out).size ≤ out.size + f ∧ ∀ x ∈ (pickOrder.go next f k l out).toList, x ∈ out.toList ∨ x ∈ l
  | 0, k, l, out => ⟨Nat.le_refl _, fun _ h => .inl h⟩
  | f + 1, k, l, out => by
    unfold pickOrder.go
    cases hx : l[next k % l.length]? with
    | none => exact ⟨Nat.le_add_right _ _, fun _ h => .inl h⟩
    | some x =>
      obtain ⟨h1, h2⟩ := pick_go (next := next) f (k + 1) (l.eraseIdx (next k % l.length)) (out.push x)
      rw [Array.size_push] at h1
      refine ⟨by dsimp only; omega, fun y hy => ?_⟩
      rcases h2 y hy with hy | hy
      · rw [Array.toList_push] at hy
        rcases List.mem_append.mp hy with hy | hy
        · exact .inl hy
        · rw [List.mem_singleton.mp hy]; exact .inr (List.mem_of_getElem? hx)
      · exact .inr (List.mem_of_mem_eraseIdx hy)
theorem pick_order {α : Type} (next : Nat → Nat) (es : Array α) : (pickOrder next es).size ≤ es.size ∧ ∀ x ∈ (pickOrder next es).toList, x ∈ es.toList := by
  obtain ⟨h1, h2⟩ := pick_go (next := next) es.size 0 es.toList #[]
  exact ⟨by simpa [pickOrder] using h1, fun x hx => (h2 x hx).elim (fun h => by simp at h) id⟩
theorem below_go {xs : Array Nat} {j : Nat} : ∀ (f lo hi : Nat), hi - lo ≤ f → lo ≤ hi → j ≤ xs.getD hi j → j ≤ xs.getD (SetTable.below.go xs j f lo hi) j
  | 0, lo, hi, h1, h2, h3 => by
    obtain rfl : lo = hi := by omega
    exact h3
  | f + 1, lo, hi, h1, h2, h3 => by
    unfold SetTable.below.go
    by_cases hlt : lo < hi
    · rw [if_pos hlt]
      dsimp only
      by_cases hm : xs.getD ((lo + hi) / 2) j < j
      · rw [if_pos hm]; exact below_go f _ _ (by omega) (by omega) h3
      · rw [if_neg hm]; exact below_go f _ _ (by omega) (by omega) (by omega)
    · rw [if_neg hlt]
      obtain rfl : lo = hi := by omega
      exact h3
theorem below_ge {xs : Array Nat} {j p : Nat} (h : xs[SetTable.below xs j]? = some p) : j ≤ p := by
  have := below_go (xs := xs) (j := j) xs.size 0 xs.size (by omega) (Nat.zero_le _) (by rw [Array.getD_eq_getD_getElem?, Array.getElem?_eq_none (Nat.le_refl _)]; exact Nat.le_refl _)
  rw [show SetTable.below.go xs j xs.size 0 xs.size = SetTable.below xs j from rfl, Array.getD_eq_getD_getElem?, h] at this
  exact this
/-- the places from here on -/
def left (xs : Array Nat) (j : Nat) : Nat := (xs.toList.filter fun p => decide (j ≤ p)).length
theorem left_le (xs : Array Nat) (j : Nat) : left xs j ≤ xs.size := by
  unfold left; rw [← Array.length_toList]; exact List.length_filter_le _ _
theorem left_lt {xs : Array Nat} {j i p : Nat} (h : xs[i]? = some p) (hp : j ≤ p) : left xs (p + 1) < left xs j := by
  have hm : p ∈ xs.toList := by rw [← Array.getElem?_toList] at h; exact List.mem_of_getElem? h
  unfold left
  generalize xs.toList = l at hm
  have mono : ∀ l : List Nat, (l.filter fun q => decide (p + 1 ≤ q)).length ≤ (l.filter fun q => decide (j ≤ q)).length := fun l => by
    induction l with
    | nil => exact Nat.le_refl _
    | cons a r ih =>
      rw [List.filter_cons, List.filter_cons]
      by_cases h1 : p + 1 ≤ a
      · rw [if_pos (decide_eq_true h1), if_pos (decide_eq_true (by omega))]; exact Nat.succ_le_succ ih
      · rw [if_neg (by rw [decide_eq_true_eq]; exact h1)]
        split
        · exact Nat.le_succ_of_le ih
        · exact ih
  induction l with
  | nil => cases hm
  | cons a r ih =>
    rw [List.filter_cons, List.filter_cons]
    rcases List.mem_cons.mp hm with rfl | hm
    · rw [if_neg (by simp), if_pos (decide_eq_true hp)]
      exact Nat.lt_succ_of_le (mono r)
    · by_cases h1 : p + 1 ≤ a
      · rw [if_pos (decide_eq_true h1), if_pos (decide_eq_true (by omega))]; exact Nat.succ_lt_succ (ih hm)
      · rw [if_neg (by rw [decide_eq_true_eq]; exact h1)]
        split
        · exact Nat.lt_succ_of_lt (ih hm)
        · exact ih hm
/-- where a set's iterator stands: at most k items are to come -/
inductive Ph (w : World) (h : Heap) (a : Addr) (es : Array (Int × Value)) (ep : Nat) (t : SetTable) : Value → Nat → Nat → Prop where
  | text {slot i k : Nat} : w.params.followText "set-order" = true → (pickOrder (w.params.setOrder a ep) es).size ≤ i + k → Ph w h a es ep t (.int (slot : Nat) 0) i k
  | slot {slot i k : Nat} : w.params.followText "set-order" = false → (!t.plain && decide (es.size > 1)) = false → left t.place slot ≤ k → Ph w h a es ep t (.int (slot : Nat) 0) i k
  | drawn {tu : Addr} {ot : Obj} {ps : Array Value} {e i k : Nat} : h.get? tu = some ot → ot.cls = .type "tuple" → ot.data = .seq ps e → (∀ v ∈ ps.toList, ∃ p : Nat, v = .int (p : Nat) 0 ∧ p < es.size) → ps.size ≤ i + k → Ph w h a es ep t (.ref tu) i k
/-- an iterator over a set of whole numbers -/
def SIt (w : World) (h : Heap) (it a : Addr) (k : Nat) : Prop :=
  ∃ o es ep t oi first i, h.get? a = some o ∧ o.data = .set es ep t ∧ ElemsOf (intKind Pg w) es.toList ∧ t.fits es.size = true ∧ t.led = (!w.params.followText "set-order") ∧
    h.get? it = some oi ∧ oi.cls = .type "set_iterator" ∧ oi.data = .fields #[first, .int (i : Nat) 0, .ref a, .int (es.size : Nat) 0, .int (ep : Nat) 0] ∧ Ph w h a es ep t first i k
theorem Ph.at {h h' : Heap} {a : Addr} {es : Array (Int × Value)} {ep : Nat} {t : SetTable} {f : Value} {i k : Nat} (x : Ph w h a es ep t f i k) (kp : ∀ b o, f = .ref b → h.get? b = some o → h'.get? b = some o) : Ph w h' a es ep t f i k := by
  cases x with
  | text h1 h2 => exact .text h1 h2
  | slot h1 h2 h3 => exact .slot h1 h2 h3
  | drawn h1 h2 h3 h4 h5 => exact .drawn (kp _ _ rfl h1) h2 h3 h4 h5
theorem entry_set_iter : entryFor table "set.__iter__" = some Builtin.«frozenset.__iter__» := entryFor_alias (id' := "frozenset.__iter__") (by rw [fastTable_eq_tree]; kernel_rfl) rfl (by decide +kernel) (by rw [fastTable_eq_tree]; kernel_rfl)
theorem slot_set_iterator_next : Slot "set_iterator" "__next__" "set_iterator.__next__" :=
  .of (owner := "set_iterator") (n := "__next__") (by rw [typeLookup_type, builtinLookup_eq_fast]; kernel_rfl) (by decide +kernel) (by decide +kernel) (by decide +kernel)
    (by first | exact .inl (by decide +kernel) | exact .inr (by decide +kernel)) (by rw [isSubtype_type]; kernel_rfl)
theorem entry_set_iterator_next : entryFor table "set_iterator.__next__" = some Builtin.«set_iterator.__next__» := entryFor_of_tree (by kernel_rfl)
theorem owner_set_iterator : Manifest.owners.lookup (String.ofList ['r', 'o', 't', 'a', 'r', 'e', 't', 'i', '_', 't', 'e', 's'].reverse) = some Manifest.sig_set_iterator := by kernel_rfl
theorem args_set_iterator_next_1 (a : Value) : argsOk "set_iterator.__next__" ⟨[a], []⟩ := by
  unfold argsOk; rw [signature?_of (id := "set_iterator.__next__") (n := ['_', '_', 't', 'x', 'e', 'n', '_', '_']) (o := ['r', 'o', 't', 'a', 'r', 'e', 't', 'i', '_', 't', 'e', 's']) (by kernel_rfl) owner_set_iterator]; kernel_rfl
theorem fits_size {t : SetTable} {n : Nat} (h : t.fits n = true) : t.place.size = n := by
  unfold SetTable.fits at h
  rw [Bool.and_eq_true] at h
  exact of_decide_eq_true (p := t.place.size = n) (by simpa using h.1)
/-- iter() of a set -/
theorem iter_set {a : Addr} {n : Nat} {Q : Value → Shared → Prop} (hS : IS w s.heap a n) (hn : n < scanBound)
    (h : ∀ it h' d, SIt w h' it a n → s.heap.objs.size ≤ it → (∀ b o, s.heap.get? b = some o → h'.get? b = some o) → Q (.ref it) { s with heap := h', drawn := d }) : wpAny (MM w) A (pyIter (.ref a)) Q E s := by
  obtain ⟨o, es, ep, t, ho, hex, hd, hel, hb, hf, hled⟩ := hS
  have hT : s.TypeIs (.ref a) "set" := ⟨o, ho, hex.1⟩
  refine wpAny_pyIter_slot hT F.slot_set_iter (wpAny_call_entry F.slot_set_iter hT entry_set_iter ?_ (F.args_set_iter_1 _))
  unfold Builtin.«frozenset.__iter__»
  refine wpAny_bind ?_
  show wpAny _ _ (pure a) _ _ s
  refine wpAny_pure ?_
  refine wpAny_bind ?_
  unfold Builtin.Frozenset.sizeOf
  refine wpAny_bind (wpAny_setEntries_of ho hd hf (wpAny_pure ?_))
  refine wpAny_bind ?_
  unfold setDrawn setsByText
  refine wpAny_bind (wpAny_setState_of ho hd hf ?_)
  dsimp only
  refine wpAny_bind (wpAny_bind (wpAny_askSetting (wpAny_pure (wpAny_pure ?_))))
  have fin : ∀ {first : Value} {h1 : Heap} {d1 : Drawn}, (∀ b o, s.heap.get? b = some o → h1.get? b = some o) → s.heap.objs.size ≤ h1.objs.size → Ph w h1 a es ep t first 0 n →
      wpAny (MM w) A.in1 (do let ep ← setEpoch a; let r ← newFields "set_iterator" [first, rawInt 0, .ref a, rawInt es.size, rawInt ep]; ret r) (fun f s' => ∃ v, f = .done (.ret v) ∧ ∃ T' r, s'.TypeIs v T' ∧ typeLookup (.type T') "__next__" = pure (some r) ∧ Q v s') E { s with heap := h1, drawn := d1 } := by
    intro first h1 d1 k1 k2 ph
    refine wpAny_bind (wpAny_setEpoch_of (k1 _ _ ho) hd hf ?_)
    refine wpAny_bind (wpAny_newObj_type (wpAny_pure ⟨_, rfl, "set_iterator", _, ⟨_, Heap.get?_push_size _ rfl, rfl⟩, slot_set_iterator_next.lookup, ?_⟩))
    refine h _ _ _ ⟨o, es, ep, t, _, first, 0, Heap.get?_push_of_some _ (k1 _ _ ho), hd, hel, hf, hled, Heap.get?_push_size _ rfl, rfl, rfl, ph.at fun b o _ e => Heap.get?_push_of_some _ e⟩ k2 fun b o e => Heap.get?_push_of_some _ (k1 b o e)
  have go : ∀ b : Bool, (b = false → Ph w s.heap a es ep t (.int (0 : Nat) 0) 0 n) → wpAny (MM w) A.in1 (do
      let first ← if b = true then newTuple ((← drawOrder es.size (List.range es.size)).map fun (i : Nat) => rawInt i) else pure (rawInt 0)
      let ep ← setEpoch a
      let r ← newFields "set_iterator" [first, rawInt 0, .ref a, rawInt es.size, rawInt ep]
      ret r) (fun f s' => ∃ v, f = .done (.ret v) ∧ ∃ T' r, s'.TypeIs v T' ∧ typeLookup (.type T') "__next__" = pure (some r) ∧ Q v s') E s := fun b hp => by
    cases b with
    | false =>
      have := fin (first := .int (0 : Nat) 0) (h1 := s.heap) (d1 := s.drawn) (fun _ _ e => e) (Nat.le_refl _) (hp rfl)
      exact wpAny_bind (wpAny_pure this)
    | true =>
      refine wpAny_bind (draw_order _ _ _ (List.length_range) fun ys d h1 h2 => ?_)
      dsimp only
      refine wpAny_bind (wpAny_newTuple ?_ (by rw [List.length_map, h1, sizeLine_eq]; unfold scanBound at hn; omega))
      refine fin (fun b o e => Heap.get?_push_of_some _ e) (by rw [Heap.size_push]; exact Nat.le_succ _) (.drawn (Heap.get?_push_size _ rfl) rfl rfl (fun v hv => ?_) ?_)
      · rw [List.toList_toArray] at hv
        obtain ⟨y, hy, rfl⟩ := List.mem_map.mp hv
        exact ⟨y, rfl, List.mem_range.mp (h2 y hy)⟩
      · rw [List.size_toArray, List.length_map, h1, Nat.zero_add]; exact hb
  have hpl : t.place.size = es.size := fits_size hf
  refine go _ fun hb0 => ?_
  cases hbt : w.params.followText "set-order" with
  | true => exact .text hbt (by have := (pick_order (w.params.setOrder a ep) es).1; omega)
  | false =>
    have hb1 : (!(w.params.followText "set-order") && (!t.plain && decide (es.size > 1))) = false := hb0
    rw [hbt, Bool.not_false, Bool.true_and] at hb1
    exact .slot hbt hb1 (by have := left_le t.place 0; omega)
theorem setNext_text {a : Addr} {o : Obj} {es : Array (Int × Value)} {ep : Nat} {t : SetTable} {slot i : Nat} {Q : Option (Value × Nat) → Shared → Prop} (ho : s.heap.get? a = some o) (hd : o.data = .set es ep t) (hf : t.fits es.size = true) (hbt : w.params.followText "set-order" = true)
    (h : Q (((pickOrder (w.params.setOrder a ep) es)[i]?).map fun e => (e.2, slot)) s) : wpAny (MM w) A (setNext a slot i ep) Q E s := by
  unfold setNext setsByText
  refine wpAny_bind (wpAny_setState_of ho hd hf ?_)
  dsimp only
  refine wpAny_bind (wpAny_bind (wpAny_askSetting (wpAny_pure ?_)))
  refine wpAny_ite_true (by rw [decide_eq_true_eq]; exact hbt) ?_
  refine wpAny_ite_false (by simp) ?_
  unfold setWalk setsByText
  refine wpAny_bind (wpAny_bind (wpAny_setState_of ho hd hf ?_))
  dsimp only
  refine wpAny_bind (wpAny_bind (wpAny_askSetting (wpAny_pure ?_)))
  refine wpAny_ite_true (by rw [decide_eq_true_eq]; exact hbt) ?_
  refine wpAny_bind (wpAny_askSetting (wpAny_pure ?_))
  exact wpAny_pure h
theorem setNext_slot {a : Addr} {o : Obj} {es : Array (Int × Value)} {ep : Nat} {t : SetTable} {slot i : Nat} {Q : Option (Value × Nat) → Shared → Prop} (ho : s.heap.get? a = some o) (hd : o.data = .set es ep t) (hf : t.fits es.size = true) (hbt : w.params.followText "set-order" = false) (hdr : (!t.plain && decide (es.size > 1)) = false) (hl : t.led = true)
    (h : Q (match es[SetTable.below t.place slot]?, t.place[SetTable.below t.place slot]? with | some (_, x), some j => some (x, j + 1) | _, _ => none) s) : wpAny (MM w) A (setNext a slot i ep) Q E s := by
  unfold setNext setsByText
  refine wpAny_bind (wpAny_setState_of ho hd hf ?_)
  dsimp only
  refine wpAny_bind (wpAny_bind (wpAny_askSetting (wpAny_pure ?_)))
  refine wpAny_ite_false (decide_eq_false (fun q => by
    have q : w.params.followText "set-order" = true := q
    rw [hbt] at q; cases q)) ?_
  show wpAny _ _ (if (!t.plain && decide (es.size > 1)) = true then _ else _) _ _ s
  refine wpAny_ite_false (by rw [hdr]; rfl) ?_
  refine wpAny_bind ?_
  show wpAny _ _ (if (!t.led && !es.isEmpty) = true then _ else _) _ _ s
  refine wpAny_ite_false (by rw [hl]; rfl) (wpAny_pure ?_)
  exact wpAny_pure h
/-- the set's iterator is asked -/
theorem next_set {it a : Addr} {k : Nat} {Q : Option Value → Shared → Prop} (hh : A.handled = none) (X : SIt w s.heap it a k)
    (h0 : ∀ h', (∀ b o, b ≠ it → s.heap.get? b = some o → h'.get? b = some o) → Q none { s with heap := h' })
    (h1 : ∀ n t h' k', SIt w h' it a k' → k' < k → (∀ b o, b ≠ it → s.heap.get? b = some o → h'.get? b = some o) → Q (some (.int n t)) { s with heap := h' }) :
    wpAny (MM w) A (pyNext (.ref it)) Q E s := by
  obtain ⟨o, es, ep, t, oi, first, i, ho, hd, hel, hf, hled, hoi, hci, hdi, ph⟩ := X
  have hT : s.TypeIs (.ref it) "set_iterator" := ⟨oi, hoi, hci⟩
  have hia : a ≠ it := fun q => by
    rw [q, hoi] at ho
    rw [← Option.some.inj ho, hdi] at hd; cases hd
  unfold pyNext
  refine wpAny_bind (wpAny_attempt (wpAny_callSpecial?_slot (name := Str.ofString "__next__") hT slot_set_iterator_next
    (wpAny_call_entry slot_set_iterator_next hT entry_set_iterator_next ?_ (args_set_iterator_next_1 _))))
  unfold Builtin.«set_iterator.__next__»
  refine wpAny_bind ?_
  show wpAny _ _ (pure (Value.ref it, [])) _ _ s
  refine wpAny_pure ?_
  refine wpAny_bind (wpAny_fieldsOf hoi hdi ?_)
  show wpAny _ _ (setEntries a >>= _) _ _ s
  refine wpAny_bind (wpAny_setEntries_of ho hd hf ?_)
  rw [if_neg (by simp)]
  have stop : ∀ {Q' : PySem.Fin → Shared → Prop} {s1 : Shared} , (∀ b o, b ≠ it → s.heap.get? b = some o → s1.heap.get? b = some o) → s1 = { s with heap := s1.heap } →
      wpAny (MM w) A.in1 (do raiseNew (← newExc (.type "StopIteration") [])) Q' (fun e s' => wpAny (MM w) A (do if ← isInstance e (.type "StopIteration") then pure none else throw e) Q E s') s1 := by
    intro Q' s1 k1 e1
    refine wpAny_bind ?_
    simp only [newExc, newTuple]
    refine wpAny_bind (wpAny_newObj_type ?_ (by size_fits))
    refine wpAny_bind (m := firstArgMember _ _) (wpAny_of_eq (a := Value.none) (by first | rfl | (simp only [firstArgMember]; rfl)) ?_)
    refine wpAny_newObj_type ?_ (by size_fits)
    simp only [raiseNew]
    refine wpAny_bind (wpAny_handled ?_)
    rw [show A.in1.handled = none from hh]
    refine wpAny_bind (wpAny_pure (wpAny_throw ?_))
    refine wpAny_bind (wpAny_isInstance (T := "StopIteration") (b := true) ⟨_, Heap.get?_push_size _ rfl, rfl⟩ isSubtype_stop ?_)
    rw [e1]
    exact wpAny_pure (h0 _ fun b o n e => Heap.get?_push_of_some _ (Heap.get?_push_of_some _ (k1 b o n e)))
  have item : ∀ e ∈ es.toList, ∃ n u, e.2 = Value.int n u := fun e he => let ⟨⟨k, hk, _⟩, _⟩ := hel e he; let ⟨t, h⟩ := Value.isInt_shape hk; ⟨k, t, h⟩
  have upd : ∀ (h1 : Heap) (b : Addr) (f : Obj → Obj) (c : Addr) (o : Obj), c ≠ b → h1.get? c = some o → (h1.update b f).get? c = some o := fun h1 b f c o n e => (Heap.get?_update_ne _ _ _ _ n).trans e
  have fld : ∀ {h1 : Heap} {x vs} (j : Nat) (v : Value), h1.get? it = some x → x.cls = .type "set_iterator" → x.data = .fields vs → ∃ x', (h1.update it (Obj.mapFields (·.setIfInBounds j v))).get? it = some x' ∧ x'.cls = .type "set_iterator" ∧ x'.data = .fields (vs.setIfInBounds j v) := fun j v e c d =>
    ⟨_, Heap.get?_update_self _ e (Obj.isFreed_of_fields (Obj.data_mapFields d _)), (Obj.cls_mapFields ..).trans c, Obj.data_mapFields d _⟩
  have slots : ∀ (slot : Nat) (r : Option (Value × Nat)), first = .int slot 0 → (r = none ∨ ∃ n u nx k', r = some (.int n u, nx) ∧ k' < k ∧ Ph w s.heap a es ep t (.int (nx : Nat) 0) (i + 1) k') →
      wpAny (MM w) A.in1 (match r with
        | some (x, next) => do
          setField (.ref it) 0 (rawInt next)
          setField (.ref it) 1 (rawInt (i + 1))
          ret x
        | none => do setField (.ref it) 2 .none; raiseNew (← newExc (.type "StopIteration") [])) (fun f s' => ∃ v, f = .done (.ret v) ∧ wpAny (MM w) A (pure (some v)) Q E s') (fun e s' => wpAny (MM w) A (do if ← isInstance e (.type "StopIteration") then pure none else throw e) Q E s') s := by
    intro slot r hfi hr
    rcases hr with rfl | ⟨n, u, nx, k', rfl, hk', ph'⟩
    · dsimp only
      refine wpAny_bind (wpAny_setField hoi hdi (by simp) ?_)
      exact stop (fun b o n e => upd _ _ _ _ _ n e) rfl
    · dsimp only
      refine wpAny_bind (wpAny_setField hoi hdi (by simp) ?_)
      obtain ⟨x1, e1, c1, d1⟩ := fld 0 (rawInt nx) hoi hci hdi
      refine wpAny_bind (wpAny_setField e1 d1 (by simp) ?_)
      obtain ⟨x2, e2, c2, d2⟩ := fld 1 (rawInt (i + 1)) e1 c1 d1
      have kk : ∀ b o, b ≠ it → s.heap.get? b = some o → ((s.heap.update it (Obj.mapFields (·.setIfInBounds 0 (rawInt nx)))).update it (Obj.mapFields (·.setIfInBounds 1 (rawInt (i + 1))))).get? b = some o := fun b o n e => upd _ _ _ _ _ n (upd _ _ _ _ _ n e)
      refine wpAny_pure ⟨_, rfl, wpAny_pure (h1 n u _ k' ⟨o, es, ep, t, x2, _, i + 1, kk _ _ hia ho, hd, hel, hf, hled, e2, c2, ?_, ph'.at fun b o q e => by cases q⟩ hk' kk)⟩
      rw [d2]; simp [rawInt]
  cases ph with
  | text hbt hk =>
    rename_i slot
    have hr := pick_order (w.params.setOrder a ep) es
    refine wpAny_bind (setNext_text (slot := slot) (i := i) ho hd hf hbt ?_)
    refine slots slot _ rfl ?_
    rw [Int.toNat_natCast]
    cases hx : (pickOrder (w.params.setOrder a ep) es)[i]? with
    | none => exact .inl rfl
    | some x =>
      obtain ⟨n, u, hnu⟩ := item x (hr.2 x (by rw [← Array.getElem?_toList] at hx; exact List.mem_of_getElem? hx))
      have hlt : i < (pickOrder (w.params.setOrder a ep) es).size := by
        obtain ⟨h, _⟩ := Array.getElem?_eq_some_iff.mp hx; exact h
      exact .inr ⟨n, u, slot, k - 1, by rw [← hnu]; rfl, by omega, .text hbt (by omega)⟩
  | slot hbt hdr hk =>
    rename_i slot
    refine wpAny_bind (setNext_slot (slot := slot) (i := i) ho hd hf hbt hdr (by rw [hled, hbt]; rfl) ?_)
    refine slots slot _ rfl ?_
    cases hx : es[SetTable.below t.place slot]? with
    | none => exact .inl rfl
    | some x =>
      cases hj : t.place[SetTable.below t.place slot]? with
      | none => exact .inl rfl
      | some j =>
        obtain ⟨n, u, hnu⟩ := item x (by rw [← Array.getElem?_toList] at hx; exact List.mem_of_getElem? hx)
        have hlt := left_lt hj (below_ge hj)
        exact .inr ⟨n, u, j + 1, left t.place (j + 1), by rw [← hnu], by omega, .slot hbt hdr (Nat.le_refl _)⟩
  | drawn ht htc hdt hps hk =>
    rename_i tu ot ps e0
    have htu : tu ≠ it := fun q => by
      rw [q, hoi] at ht
      rw [← Option.some.inj ht, hdi] at hdt; cases hdt
    refine wpAny_bind (wpAny_seqItems ht hdt ?_)
    dsimp only
    rw [Int.toNat_natCast]
    cases hx : ps[i]? with
    | none =>
      dsimp only
      refine wpAny_bind (wpAny_setField hoi hdi (by simp) ?_)
      obtain ⟨x1, e1, c1, d1⟩ := fld 0 (rawInt 0) hoi hci hdi
      refine wpAny_bind (wpAny_setField e1 d1 (by simp) ?_)
      exact stop (fun b o n e => upd _ _ _ _ _ n (upd _ _ _ _ _ n e)) rfl
    | some v =>
      obtain ⟨p, rfl, hp⟩ := hps v (by rw [← Array.getElem?_toList] at hx; exact List.mem_of_getElem? hx)
      obtain ⟨y, hy⟩ : ∃ y, es[p]? = some y := ⟨_, Array.getElem?_eq_getElem hp⟩
      obtain ⟨n, u, hnu⟩ := item y (by rw [← Array.getElem?_toList] at hy; exact List.mem_of_getElem? hy)
      have hlt : i < ps.size := by obtain ⟨h, _⟩ := Array.getElem?_eq_some_iff.mp hx; exact h
      dsimp only
      rw [Int.toNat_natCast]
      refine wpAny_bind ?_
      unfold setNextDrawn
      refine wpAny_bind (wpAny_setState_of ho hd hf ?_)
      dsimp only
      refine wpAny_ite_false (by simp) ?_
      rw [hy]
      refine wpAny_pure ?_
      rw [hnu]
      refine wpAny_bind (wpAny_setField hoi hdi (by simp) ?_)
      obtain ⟨x1, e1, c1, d1⟩ := fld 1 (rawInt (i + 1)) hoi hci hdi
      have kk : ∀ b o, b ≠ it → s.heap.get? b = some o → (s.heap.update it (Obj.mapFields (·.setIfInBounds 1 (rawInt (i + 1))))).get? b = some o := fun b o n e => upd _ _ _ _ _ n e
      refine wpAny_pure ⟨_, rfl, wpAny_pure (h1 n u _ (k - 1) ⟨o, es, ep, t, x1, .ref tu, i + 1, kk _ _ hia ho, hd, hel, hf, hled, e1, c1, ?_, .drawn (kk _ _ htu ht) htc hdt hps (by omega)⟩ (by omega) kk)⟩
      rw [d1]; simp [rawInt]
end
end
example : True ∧ True := by walk1 <;> trivial
section
local macro_rules | `(tactic| walk_at "m:flush") => `(tactic| trivial)
example : True ∧ True := by walk1 <;> trivial
end
section
section
variable {w : World} {A : Around} {E : Value → Shared → Prop} {R : Result → Shared → Prop} {s : Shared}
theorem SIt.off {h h' : Heap} {it a D : Addr} {k : Nat} (x : SIt w h it a k) {xs : Array Value} {e : Nat} (hD : h.get? D = some (seqObj "list" xs e)) (kp : ∀ b o, b ≠ D → h.get? b = some o → h'.get? b = some o) : SIt w h' it a k := by
  obtain ⟨o, es, ep, t, oi, first, i, ho, hd, hel, hf, hled, hoi, hci, hdi, ph⟩ := x
  refine ⟨o, es, ep, t, oi, first, i, kp _ _ (fun q => ?_) ho, hd, hel, hf, hled, kp _ _ (fun q => ?_) hoi, hci, hdi, ?_⟩
  · rw [q, hD] at ho
    rw [← Option.some.inj ho] at hd; cases hd
  · rw [q, hD] at hoi
    rw [← Option.some.inj hoi] at hdi; cases hdi
  · cases ph with
    | text h1 h2 => exact .text h1 h2
    | slot h1 h2 h3 => exact .slot h1 h2 h3
    | drawn h1 h2 h3 h4 h5 =>
      refine .drawn (kp _ _ (fun q => ?_) h1) h2 h3 h4 h5
      rw [q, hD] at h1
      rw [← Option.some.inj h1] at h2
      exact absurd (show Value.type "list" = Value.type "tuple" from h2) (by decide)
theorem entry_list_extend_loop : entryFor table "list.extend.loop" = some Builtin.«list.extend.loop» := entryFor_of_tree (by kernel_rfl)
theorem plain_list_extend_loop : plainId "list.extend.loop" = true := by decide +kernel
/-- a list takes what an iterator over a set gives -/
theorem extend_loop {D it a : Addr} (hh : A.in1.handled = none) (hDi : D ≠ it) : ∀ (k : Nat) (s : Shared) (xs : Array Value) (ns : List Int) (e : Nat), SIt w s.heap it a k → s.heap.get? D = some (seqObj "list" xs e) → IntsAre xs.toList ns → xs.size + k ≤ 1000 →
    (∀ h' xs' ns' e', h'.get? D = some (seqObj "list" xs' e') → IntsAre xs'.toList ns' → xs'.size ≤ xs.size + k → (∀ b o, b ≠ D → b ≠ it → s.heap.get? b = some o → h'.get? b = some o) → R (.ok (.ret (.ref D))) { s with heap := h' }) →
    codeAny (MM w) A (.builtin "list.extend.loop" ⟨[.ref D, .ref it, .ref D], []⟩) R s := by
  intro k
  induction k using Nat.strongRecOn with
  | ind k ih =>
    intro s xs ns e X hD hI hb hR
    refine codeAny_builtin entry_list_extend_loop ?_
    rw [Around.under_plainId plain_list_extend_loop _]
    refine wpAny_bind (next_set (k := k) hh X (fun h' kp => ?_) fun n t h' k' X' hk' kp => ?_)
    · exact wpAny_pure (hR h' xs ns e (kp _ _ hDi hD) hI (Nat.le_add_right _ _) fun b o _ n2 e => kp b o n2 e)
    · have hD' := kp _ _ hDi hD
      refine wpAny_bind (listUpdate_at hD' rfl ?_ (by rw [sizeLine_eq]; omega) (by rw [Array.size_push, sizeLine_eq]; omega))
      have hD2 := get?_update_seq hD' (fun z => z.push (.int n t))
      have k2 : ∀ b o, b ≠ D → h'.get? b = some o → (h'.update D (Obj.mapSeq fun z => z.push (.int n t))).get? b = some o := fun b o q e => (Heap.get?_update_ne _ _ _ _ q).trans e
      refine wpAny_pure ⟨plainId_quiet plain_list_extend_loop _, ih k' hk' _ _ (ns ++ [n]) _ (X'.off hD' k2) hD2 ?_ (by rw [Array.size_push]; omega) fun h3 xs3 ns3 e3 a1 a2 a3 a4 => ?_⟩
      · rw [Array.toList_push]; exact IntsAre.append hI (.cons _ _ .nil)
      · exact hR h3 xs3 ns3 e3 a1 a2 (by rw [Array.size_push] at a3; omega) fun b o n1 n2 e => a4 b o n1 n2 (k2 b o n1 (kp b o n2 e))
theorem no_hint {a : Addr} {Q : Bool → Shared → Prop} (hT : s.TypeIs (.ref a) "set") (h : Q false s) : wpAny (MM w) A (Builtin.List.listLengthHint (.ref a)) Q E s := by
  unfold Builtin.List.listLengthHint
  refine wpAny_bind (wpAny_specialOf hT F.slot_set_len.lookup ?_)
  dsimp only
  have hsp : splitId "set.__len__" = some ("set", "__len__") := by kernel_rfl
  rw [hsp]
  dsimp only
  refine wpAny_bind (wpAny_isInstance hT sub_set_self ?_)
  refine wpAny_ite_false rfl ?_
  refine wpAny_ite_true (by decide +kernel) ?_
  refine wpAny_bind (wpAny_typeOf hT ?_)
  exact wpAny_pure h
/-- all that a set holds, as a list -/
theorem collect_set {a : Addr} {n : Nat} {Q : List Value → Shared → Prop} (hh : A.handled = none) (hS : IS w s.heap a n) (hn : n < 1000)
    (h : ∀ vs ns h' d, IntsAre vs ns → vs.length ≤ n → (∀ b o, s.heap.get? b = some o → h'.get? b = some o) → Q vs { s with heap := h', drawn := d }) :
    wpAny (MM w) A (collect (.ref a)) Q E s := by
  have hT : s.TypeIs (.ref a) "set" := let ⟨o, _, _, _, ho, hx, _⟩ := hS; ⟨o, ho, hx.1⟩
  unfold collect
  refine wpAny_bind (wpAny_runValue (codeAny_builtin entry_proto_collect' ?_))
  show wpAny _ _ (do again (.builtin "list.__iadd__" ⟨[← newList [], .ref a], []⟩)) _ _ s
  refine wpAny_bind (wpAny_newList (wpAny_pure ⟨Code.quiet_builtin _ (by decide +kernel), codeAny_builtin entry_list_iadd' ?_⟩))
  show wpAny _ _ (Builtin.List.listExtendWith (.ref s.heap.objs.size) (.ref a) (.ref s.heap.objs.size)) _ _ { s with heap := s.heap.push (seqObj "list" #[] 0) }
  unfold Builtin.List.listExtendWith
  have hlt : a < s.heap.objs.size := let ⟨o, _, _, _, ho, _⟩ := hS; Heap.lt_size ho
  have hT2 : Shared.TypeIs { s with heap := s.heap.push (seqObj "list" #[] 0) } (.ref a) "set" := let ⟨o, ho, hx⟩ := hT; ⟨o, Heap.get?_push_of_some _ ho, hx⟩
  refine wpAny_bind (wpAny_typeOf hT2 ?_)
  have hD0 : Shared.heap { s with heap := s.heap.push (seqObj "list" #[] 0) } = s.heap.push (seqObj "list" #[] 0) := rfl
  refine wpAny_ite_false (decide_eq_false ?_) ?_
  · have e1 : (s.heap.objs.size == a) = false := beq_eq_false_iff_ne.mpr (Nat.ne_of_gt hlt)
    show ¬ (((s.heap.objs.size == a) || (Value.type "set" == .type "list") || (Value.type "set" == .type "tuple")) = true)
    rw [e1]; decide
  refine wpAny_bind (iter_set (hS.at fun o e => Heap.get?_push_of_some _ e) (by unfold scanBound; omega) fun it h1 d1 X hle k1 => ?_)
  have hD := k1 _ _ (Heap.get?_push_size (o := seqObj "list" #[] 0) s.heap rfl)
  have hT3 : Shared.TypeIs { s with heap := h1, drawn := d1 } (.ref a) "set" := let ⟨o, ho, hx⟩ := hT2; ⟨o, k1 _ _ ho, hx⟩
  refine wpAny_bind (wpAny_holding (no_hint hT3 ?_))
  refine wpAny_ite_true (by decide +kernel) ?_
  refine wpAny_bind (wpAny_rule ?_)
  unfold Builtin.List.listTouch
  refine wpAny_bind (wpAny_bind (listUpdate_at hD rfl ?_))
  have hD2 := get?_update_seq hD (fun z => z.push .none)
  refine listUpdate_at hD2 rfl ?_ (by rw [Array.size_push, sizeLine_eq]; decide) (by rw [Array.size_pop, Array.size_push, sizeLine_eq]; decide)
  have hD3 := get?_update_seq hD2 (fun z => z.pop)
  have kk : ∀ b o, b ≠ s.heap.objs.size → h1.get? b = some o → ((h1.update s.heap.objs.size (Obj.mapSeq fun z => z.push .none)).update s.heap.objs.size (Obj.mapSeq fun z => z.pop)).get? b = some o := fun b o q e => (Heap.get?_update_ne _ _ _ _ q).trans ((Heap.get?_update_ne _ _ _ _ q).trans e)
  have hne : s.heap.objs.size ≠ it := Nat.ne_of_lt (by rw [Heap.size_push] at hle; exact hle)
  refine wpAny_pure ⟨plainId_quiet plain_list_extend_loop _, extend_loop (by simpa using hh) hne n _ _ [] _ (X.off hD kk) hD3 .nil (by show 0 + n ≤ 1000; omega) fun h4 xs ns e4 a1 a2 a3 a4 => ?_⟩
  refine wpAny_bind (wpAny_load a1 ?_)
  have ht : ∀ b o, s.heap.get? b = some o → h4.get? b = some o := fun b o e => by
    have hb := Heap.lt_size e
    exact a4 b o (Nat.ne_of_lt hb) (Nat.ne_of_lt (Nat.lt_of_lt_of_le hb (Nat.le_trans (Nat.le_succ _) (by rw [Heap.size_push] at hle; exact hle)))) (kk b o (Nat.ne_of_lt hb) (k1 b o (Heap.get?_push_of_some _ e)))
  exact wpAny_pure (h _ ns h4 d1 a2 (by rw [Array.length_toList]; exact Nat.le_trans a3 (by show 0 + n ≤ n; omega)) ht)
/-- sorted() of a set -/
theorem sorted_set {a : Addr} {n : Nat} {Q : Value → Shared → Prop} (hh : A.handled = none) (hS : IS w s.heap a n) (hn : n < 64)
    (h : ∀ D vs ns h' d e, IntsAre vs ns → vs.length ≤ n → h'.get? D = some (seqObj "list" vs.toArray e) → s.heap.get? D = none → (∀ b o, s.heap.get? b = some o → h'.get? b = some o) → Q (.ref D) { s with heap := h', drawn := d }) :
    wpAny (MM w) A (call (.builtin "sorted") [.ref a]) Q E s := by
  refine Calls.call_function_entry kind_sorted plain_sorted entry_sorted (args_sorted1 _) ?_
  unfold Builtin.«sorted»
  refine wpAny_bind (m := checkCount "sorted" 1 1 _) (wpAny_pure ?_)
  refine wpAny_bind (collect_set (by simpa using hh) hS (by omega) fun vs ns h1 d1 hI hl k1 => ?_)
  refine wpAny_bind (wpAny_newList ?_ (by rw [sizeLine_eq]; omega))
  have hoL : (h1.push (seqObj "list" vs.toArray 0)).get? h1.objs.size = some (seqObj "list" vs.toArray 0) := Heap.get?_push_size _ rfl
  have hsz : s.heap.get? h1.objs.size = none := by
    cases hq : s.heap.get? h1.objs.size with
    | none => rfl
    | some o => exact absurd (Heap.lt_size (k1 _ _ hq)) (Nat.lt_irrefl _)
  refine wpAny_bind (wpAny_holding (wpAny_call_entry slot_list_sort ⟨_, hoL, rfl⟩ entry_list_sort (list_sort_tree hoL hI (by omega) fun out ns' a1 a2 a3 => ⟨_, rfl, ?_⟩) (args_list_sort _)))
  obtain ⟨e, he⟩ := sortedHeap_at (vs := vs) (out := out) hoL
  refine wpAny_pure ⟨_, rfl, h h1.objs.size out.toList ns' _ d1 e a1 ?_ he hsz fun b o e => ?_⟩
  · rw [a1.length, a2.length_eq, ← hI.length]; exact hl
  · have e1 := k1 b o e
    have hb := Heap.lt_size e1
    rw [sortedHeap_old (Nat.ne_of_lt hb) (by rw [Heap.size_push]; exact Nat.lt_succ_of_lt hb)]
    exact Heap.get?_push_of_some _ e1
end
end
example : True ∧ True := by walk1 <;> trivial
section
local macro_rules | `(tactic| walk_at "m:flush") => `(tactic| trivial)
example : True ∧ True := by walk1 <;> trivial
end
section
local macro_rules | `(tactic| walk_at "call builtin:sum") => `(tactic| (with_reducible refine stop_here ?_))
section
variable {w : World} {g : Heap} {s0 s : Shared} {L : Addr} {e b z far : Int} {sp : Addr} {G : Fa} {gs : List B3} {kg : Int} {W : B3} {C : Fa} {cs : List Int} {kc : Int} {rs : List B3} {rl pl : Addr} {put : List Str} {ex : List (Addr × Obj)} {m : Str → Option Value} {key : Str} {script : Addr} {ns : List Int} {cv cv' : List (Nat × Value)} {xs : List (Addr × Obj)} {wl : Addr} {wv : List Value}
/-- the counting one's cells, in the ledger -/
theorem US.cl (U : US w g s0 L e b z far sp G gs kg W C cs kc rs rl pl put m cv xs s) {news : List (Addr × Obj)} (N : News (gz g s0.heap) L s.heap news) :
    ∃ vc nc, IntsAre vc cs ∧ News (gz g s0.heap) L s.heap ((C.l, PySem.W.listOf vc.toArray nc) :: news) := by
  obtain ⟨vc, nc, o, i⟩ := U.X.CC.l.l
  exact ⟨vc, nc, i, news_one N o.at_ (ns_ne U.F.ns o.at_ nofun) (gz_none o.new)⟩
set_option maxHeartbeats 4000000 in
theorem u_23 (I : LawIn w g s0 script ns) (U : US w g s0 L e b z far sp G gs kg W C cs kc rs rl pl put m cv xs s) {ql : B3} (hq : ql ∈ rs) (hsum : cs.sum = z * (put.length : Int)) (hpl : put.length < 1000) {bo : Stmt} (hbo : lawStm w.params 23 = bo) :
    wpAny (MM w) ((aM 10 10).deeper (lawEnv w.params L)) (exec bo (lawEnv w.params L)) (fun fl s' => Stp (fl = .next ∧ US w g s0 L e b z far sp G gs kg W C cs kc rs rl pl put m cv xs s')) NoE s := by
  obtain ⟨oB, oZ, oG, oW, oC, oP, tb, tz, n1, n2, vs, tG, tW, tC, tq, dB, dZ, dG, dW, dC, dP, hvs, N⟩ := U.led0 hq
  obtain ⟨vc, nc, hvc, N'⟩ := U.cl N
  clear N
  have N := N'
  clear N'
  have hvl := hvs.length
  have hv2 : vs.length < 1000 := by omega
  rw [← hvl] at hsum
  have hmul : 0 ≤ z ∧ z < 1000 := by rcases U.X.hS with ⟨rfl, rfl, rfl⟩ | ⟨rfl, rfl, rfl⟩ | ⟨rfl, rfl, rfl⟩ | ⟨rfl, rfl, rfl⟩ <;> decide
  have F := U.F
  have CX := I.cx.keeps (gz_some I.st)
  have X := CX.K
  obtain ⟨loose, mean, mg, mb, TT⟩ := CX.T
  unfold lawStm lawBody lawOf at hbo
  conv at hbo => lhs; whnf
  subst hbo
  delta lawEnv
  generalize hsc : lawScope w.params = sc
  unfold lawScope lawOf at hsc
  conv at hsc => lhs; whnf
  subst hsc
  simp only [ledOf, List.cons_append, List.nil_append] at N
  obtain ⟨hp, gn, dr, tk, os⟩ := s
  have hos := U.os
  have hbare := U.bare
  dsimp only at F N hos hbare ⊢
  subst hos
  walk_at "m:steps"
  unfold Stopped
  (rename Fr _ _ _ _ => F2); (rename News _ _ _ _ => N2)
  refine sumK rfl F2 N2 (m_list N2 (by k_mem)) hvc ?_
  intro h' tk' t' F3 N3
  clear F2 N2
  (try dsimp only)
  walk_at "m:steps"
  · exact absurd hsum (by assumption)
  · (rename Fr _ _ _ _ => F9); (rename News _ _ _ _ => N9)
    have U9 := U.seg (d := dr) (t := tk) F9 N9 (by walk_at "m:rest") hbare
    exact ⟨⟨by trivial, U9.toks⟩⟩
end
end
example : True ∧ True := by walk1 <;> trivial
section
local macro_rules | `(tactic| walk_at "m:flush") => `(tactic| trivial)
example : True ∧ True := by walk1 <;> trivial
end
section
local macro_rules | `(tactic| walk_at "compareOp NotEq ref ref") => `(tactic| (with_reducible refine stop_here ?_))
local macro_rules | `(tactic| walk_at "compareOp Eq ref ref") => `(tactic| (with_reducible refine stop_here ?_))
local macro_rules | `(tactic| walk_at "call type:zip") => `(tactic| (with_reducible refine stop_here ?_))
local macro_rules | `(tactic| walk_at "call builtin:list.count") => `(tactic| (with_reducible refine stop_here ?_))
section
variable {w : World} {g : Heap} {s0 s : Shared} {L : Addr} {e b z far : Int} {sp : Addr} {G : Fa} {gs : List B3} {kg : Int} {W : B3} {C : Fa} {cs : List Int} {kc : Int} {rs : List B3} {rl pl : Addr} {put : List Str} {ex : List (Addr × Obj)} {m : Str → Option Value} {key : Str} {script : Addr} {ns : List Int} {cv cv' : List (Nat × Value)} {xs : List (Addr × Obj)} {wl : Addr} {wv : List Value}
/-- a test of a word and its number, read off a pair -/
def pairP (T : Str → Int → Bool) (v : Array Value) : Bool := match v.toList with
  | [.str y _, .int n _] => T y n
  | _ => false
theorem ints_map_at {f : Str → Int} {ys : List Value} {ws : List Str} (h : IntsAre ys (ws.map f)) {i : Nat} {v : Value} {y : Str} (hy : ws[i]? = some y) (hv : ys[i]? = some v) : ∃ t, v = .int (f y) t := by
  obtain ⟨t, e⟩ := IntsAre.int_at h i v hv
  rw [List.getD_eq_getElem?_getD, List.getElem?_map, hy] at e
  exact ⟨t, e⟩
theorem zip_list {xs ys : List Value} {prs : List (Array Value)} (hl : prs.length = min xs.toArray.size ys.toArray.size) (h : ∀ (i : Nat) (v : Array Value), prs[i]? = some v → ∃ x y, xs.toArray[i]? = some x ∧ ys.toArray[i]? = some y ∧ v = #[x, y]) : prs = List.zipWith (fun x y => #[x, y]) xs ys := by
  apply List.ext_getElem?
  intro i
  rw [List.getElem?_zipWith]
  cases hp : prs[i]? with
  | none =>
    have := List.getElem?_eq_none_iff.mp hp
    rw [hl, List.size_toArray, List.size_toArray] at this
    rcases Nat.lt_or_ge i xs.length with h1 | h1
    · rw [List.getElem?_eq_none (show ys.length ≤ i by omega)]
      cases xs[i]? <;> rfl
    · rw [List.getElem?_eq_none h1]
  | some v =>
    obtain ⟨x, y, h1, h2, rfl⟩ := h i v hp
    rw [List.getElem?_toArray] at h1 h2
    rw [h1, h2]
theorem zip_filter {T : Str → Int → Bool} {f : Str → Int} : ∀ {xs ys : List Value} {ws : List Str} {zs : List Value}, StrsAre xs ws → IntsAre ys (ws.map f) → Paired (fun v y => ∃ x, v = #[y, x]) ((List.zipWith (fun x y => #[x, y]) xs ys).filter (pairP T)) zs → StrsAre zs (ws.filter fun y => T y (f y))
  | _, _, _, _, .nil, _, p => by cases p; exact .nil
  | _, _, _, _, .cons (vs := xs) (ys := ws) y t h, .cons (vs := ys) _ u h2, p => by
    rw [List.zipWith_cons_cons, List.filter_cons] at p
    rw [List.filter_cons]
    have e1 : pairP T #[Value.str y t, Value.int (f y) u] = T y (f y) := rfl
    rw [e1] at p
    by_cases hT : T y (f y) = true
    · rw [if_pos hT] at p ⊢
      cases p with
      | cons q p =>
        obtain ⟨x, q⟩ := q
        injection q with q
        injection q with q
        rw [← q]
        exact .cons _ _ (zip_filter h h2 p)
    · rw [if_neg hT] at p ⊢
      exact zip_filter h h2 p
set_option maxHeartbeats 4000000 in
theorem u_25 (I : LawIn w g s0 script ns) (U : US w g s0 L e b z far sp G gs kg W C cs kc rs rl pl put m cv xs s) {ql : B3} (hq : ql ∈ rs) (hc8 : (8, .ref wl) ∈ cv) (hwl : (wl, lst wv) ∈ xs) (hwv : StrsAre wv (wordsOf b z)) {Dt De : Addr} {ye yt : List Value} {ke : List Str} {f : Str → Int} (hmt : m (Str.ofString "told") = some (.ref Dt)) (hme : m (Str.ofString "every") = some (.ref De)) (hDt : (Dt, lst yt) ∈ xs) (hDe : (De, lst ye) ∈ xs) (hyt : IntsAre yt ((wordsOf b z).map f)) (hye : StrsAre ye ke)
    (hke : ke = (wordsOf b z).filter fun y => decide (f y > 0)) {bo : Stmt} (hbo : lawStm w.params 25 = bo) :
    wpAny (MM w) ((aM 10 10).deeper (lawEnv w.params L)) (exec bo (lawEnv w.params L)) (fun fl s' => Stp (fl = .next ∧ US w g s0 L e b z far sp G gs kg W C cs kc rs rl pl put m cv xs s')) NoE s := by
  obtain ⟨oB, oZ, oG, oW, oC, oP, tb, tz, n1, n2, vs, tG, tW, tC, tq, dB, dZ, dG, dW, dC, dP, hvs, N⟩ := U.led0 hq
  obtain ⟨oM, dM, eM, nM1, nM2⟩ := U.cellAt hc8
  replace N := U.item (U.item (U.item (news_one N (a := L + 1 + 1 + 1 + 1 + 1 + 1 + 1 + 1) eM nM1 nM2) hwl) hDt) hDe
  have hwl25 : wv.length ≤ 25 := by
    rw [hwv.length, wordsOf, List.length_map, List.length_range]; exact (sz_pow U.X.hS).2.1
  have hwok := words_ok U.X.hS
  have F := U.F
  have CX := I.cx.keeps (gz_some I.st)
  have X := CX.K
  obtain ⟨loose, mean, mg, mb, TT⟩ := CX.T
  unfold lawStm lawBody lawOf at hbo
  conv at hbo => lhs; whnf
  subst hbo
  delta lawEnv
  generalize hsc : lawScope w.params = sc
  unfold lawScope lawOf at hsc
  conv at hsc => lhs; whnf
  subst hsc
  simp only [ledOf, List.cons_append, List.nil_append] at N
  obtain ⟨hp, gn, dr, tk, os⟩ := s
  have hos := U.os
  have hbare := U.bare
  dsimp only at F N hos hbare ⊢
  subst hos
  walk_at "m:steps"
  unfold Stopped
  refine comp_gen (tb := []) (Inv := fun _ => True) (Bd := bdP (Str.ofString "word") (Str.ofString "n")) (n := min wv.toArray.size yt.toArray.size) (P := fun i v => ∃ x y, wv.toArray[i]? = some x ∧ yt.toArray[i]? = some y ∧ v = #[x, y]) (fun _ => rfl) rfl rfl (by decide) (Nat.le_trans (Nat.min_le_left _ _) (by rw [List.size_toArray]; exact Nat.le_trans hwl25 (by decide))) (pairP fun _ n => decide (n > 0)) (fun _ _ v y => Stp (∃ x, v = #[y, x])) (fun _ _ _ _ _ h _ => h) ?_
  walk_at "m:steps"
  unfold Stopped
  have hl1 : hp.IsList wl wv.toArray := News.isList N (by k_mem)
  have hl2 : hp.IsList Dt yt.toArray := News.isList N (by k_mem)
  have a1 := hl1
  have a2 := hl2
  obtain ⟨_, a1, _⟩ := a1
  obtain ⟨_, a2, _⟩ := a2
  have hgone : ∀ a, hp.objs.size ≤ a → hp.get? a = none := fun a ha => Heap.get?_none_of_le ha
  refine call_zip_2 hl1 hl2 fun h' hz hTI hTO hi1 hi2 hsz hk => ?_
  refine ⟨⟨hp, gn, dr, tk, s0.os⟩, ok_pair rfl tb_nil trivial (itu_zip rfl (zipApart_new (Heap.lt_size a1) (Heap.lt_size a2)) hz hTI hTO hi1 hi2 (hl1.at fun o e => hk _ o e) (hl2.at fun o e => hk _ o e) ⟨fun b o e _ => hk b o e, rfl, id⟩ (by rw [hsz]; exact Nat.le_add_right _ 5) (hgone _ (Nat.le_add_right _ 4)) (hgone _ (Nat.le_add_right _ 3)) (hgone _ (Nat.le_refl _)) (hgone _ (Nat.le_add_right _ 1))) (fun i vs ⟨x, y, _, _, e1⟩ => ⟨_, _, e1⟩) (by decide) rfl rfl rfl (by decide) ?_ ?_, ?_⟩
  · rintro C' i a b' mm s₃ hi' ⟨x, y, hx, hy, e1⟩ hn3 ha hb' hC af _
    obtain ⟨F3, N3⟩ := elt_base F N hC hn3 (fun b o e => af.keep b o e (by simp))
    obtain ⟨y0, ty, rfl, hy0⟩ := StrsAre.item hwv i x (by rw [← List.getElem?_toArray]; exact hx)
    obtain ⟨tn, rfl⟩ := ints_map_at hyt hy0 (by rw [← List.getElem?_toArray]; exact hy)
    clear F N
    obtain ⟨h₃, gs₃, d₃, t₃, os₃⟩ := s₃
    injection e1 with e1
    injection e1 with e1 e2
    injection e2 with e2
    subst e1
    subst e2
    refine wpAny_tests_one ?_
    walk_at "m:steps"
    · exact ⟨fun _ _ e _ => e, rfl, id⟩
    · trivial
  · rintro C' i a b' mm s₃ hi' ⟨x, y, hx, hy, e1⟩ _ hn3 ha hb' hC af _
    obtain ⟨F3, N3⟩ := elt_base F N hC hn3 (fun b o e => af.keep b o e (by simp))
    clear F N
    obtain ⟨h₃, gs₃, d₃, t₃, os₃⟩ := s₃
    walk_at "m:steps"
    · exact ⟨_, rfl⟩
    · exact Af.refl _
    · trivial
  · intro D s' xs' zs ce
    have hys : StrsAre zs ke := by
      rw [hke]
      have e1 : xs' = List.zipWith (fun x y => #[x, y]) wv yt := zip_list (by rw [ce.len]) (fun i v hv => ce.src i v hv)
      have z1 := ce.out
      rw [e1] at z1
      exact zip_filter hwv hyt (paired_imp (fun _ _ ⟨_, _, h⟩ => h.p) z1)
    obtain ⟨F6, N6⟩ := after_gen F N ce.af ce.new ce.at_
    have hg6 := ce.af.gens hbare
    have hos6 := ce.af.os
    obtain ⟨h6, gs6, d6, t6, os6⟩ := s'
    dsimp only at hos6 F6 N6 hg6
    subst hos6
    clear F N ce
    walk_at "m:steps"
    unfold Stopped
    (rename Fr _ _ _ _ => F9); (rename News _ _ _ _ => N9)
    have hkok : ∀ y ∈ ke, PyData.strOk y = true := fun y hy => hwok y (by rw [hke] at hy; exact (List.mem_filter.mp hy).1)
    refine ne_strs (News.isList N9 (by k_mem)) (News.isList N9 (by k_mem)) hys hye hkok hkok (Nat.le_of_ble_eq_true rfl) ?_
    rw [decide_eq_true rfl]
    (try dsimp only [Bool.not_true])
    have U9 := U.seg (d := d6) (t := t6) F9 N9 (by walk_at "m:rest") hg6
    walk_at "m:steps"
    exact ⟨⟨by trivial, U9.toks⟩⟩
set_option maxHeartbeats 4000000 in
theorem u_26 (I : LawIn w g s0 script ns) (U : US w g s0 L e b z far sp G gs kg W C cs kc rs rl pl put m cv xs s) {ql : B3} (hq : ql ∈ rs) (hc8 : (8, .ref wl) ∈ cv) (hwl : (wl, lst wv) ∈ xs) (hwv : StrsAre wv (wordsOf b z)) {Dt : Addr} {yt : List Value} {f : Str → Int} (hmt : m (Str.ofString "told") = some (.ref Dt)) (hDt : (Dt, lst yt) ∈ xs) (hyt : IntsAre yt ((wordsOf b z).map f))
    (hall : ∀ y ∈ wordsOf b z, countIn (.str y) (put.map PyData.str) ≤ f y) {bo : Stmt} (hbo : lawStm w.params 26 = bo) :
    wpAny (MM w) ((aM 10 10).deeper (lawEnv w.params L)) (exec bo (lawEnv w.params L)) (fun fl s' => Stp (fl = .ret (.bool true) ∧ US w g s0 L e b z far sp G gs kg W C cs kc rs rl pl put m cv xs s')) NoE s := by
  obtain ⟨oB, oZ, oG, oW, oC, oP, tb, tz, n1, n2, vs, tG, tW, tC, tq, dB, dZ, dG, dW, dC, dP, hvs, N⟩ := U.led0 hq
  obtain ⟨oM, dM, eM, nM1, nM2⟩ := U.cellAt hc8
  replace N := U.item (U.item (news_one N (a := L + 1 + 1 + 1 + 1 + 1 + 1 + 1 + 1) eM nM1 nM2) hwl) hDt
  have hwl26 : wv.length ≤ 25 := by
    rw [hwv.length, wordsOf, List.length_map, List.length_range]; exact (sz_pow U.X.hS).2.1
  have hwok := words_ok U.X.hS
  have F := U.F
  have CX := I.cx.keeps (gz_some I.st)
  have X := CX.K
  obtain ⟨loose, mean, mg, mb, TT⟩ := CX.T
  unfold lawStm lawBody lawOf at hbo
  conv at hbo => lhs; whnf
  subst hbo
  delta lawEnv
  generalize hsc : lawScope w.params = sc
  unfold lawScope lawOf at hsc
  conv at hsc => lhs; whnf
  subst hsc
  simp only [ledOf, List.cons_append, List.nil_append] at N
  obtain ⟨hp, gn, dr, tk, os⟩ := s
  have hos := U.os
  have hbare := U.bare
  dsimp only at F N hos hbare ⊢
  subst hos
  walk_at "m:steps"
  unfold Stopped
  refine comp_gen (tb := []) (Inv := fun _ => True) (Bd := bdP (Str.ofString "word") (Str.ofString "n")) (n := min wv.toArray.size yt.toArray.size) (P := fun i v => ∃ x y, wv.toArray[i]? = some x ∧ yt.toArray[i]? = some y ∧ v = #[x, y]) (fun _ => rfl) rfl rfl (by decide) (Nat.le_trans (Nat.min_le_left _ _) (by rw [List.size_toArray]; exact Nat.le_trans hwl26 (by decide))) (pairP fun y n => decide (n < countIn (.str y) (put.map PyData.str))) (fun _ _ v y => Stp (∃ x, v = #[y, x])) (fun _ _ _ _ _ h _ => h) ?_
  walk_at "m:steps"
  unfold Stopped
  have hl1 : hp.IsList wl wv.toArray := News.isList N (by k_mem)
  have hl2 : hp.IsList Dt yt.toArray := News.isList N (by k_mem)
  have a1 := hl1
  have a2 := hl2
  obtain ⟨_, a1, _⟩ := a1
  obtain ⟨_, a2, _⟩ := a2
  have hgone : ∀ a, hp.objs.size ≤ a → hp.get? a = none := fun a ha => Heap.get?_none_of_le ha
  refine call_zip_2 hl1 hl2 fun h' hz hTI hTO hi1 hi2 hsz hk => ?_
  refine ⟨⟨hp, gn, dr, tk, s0.os⟩, ok_pair rfl tb_nil trivial (itu_zip rfl (zipApart_new (Heap.lt_size a1) (Heap.lt_size a2)) hz hTI hTO hi1 hi2 (hl1.at fun o e => hk _ o e) (hl2.at fun o e => hk _ o e) ⟨fun b o e _ => hk b o e, rfl, id⟩ (by rw [hsz]; exact Nat.le_add_right _ 5) (hgone _ (Nat.le_add_right _ 4)) (hgone _ (Nat.le_add_right _ 3)) (hgone _ (Nat.le_refl _)) (hgone _ (Nat.le_add_right _ 1))) (fun i vs ⟨x, y, _, _, e1⟩ => ⟨_, _, e1⟩) (by decide) rfl rfl rfl (by decide) ?_ ?_, ?_⟩
  · rintro C' i a b' mm s₃ hi' ⟨x, y, hx, hy, e1⟩ hn3 ha hb' hC af _
    obtain ⟨F3, N3⟩ := elt_base F N hC hn3 (fun b o e => af.keep b o e (by simp))
    obtain ⟨y0, ty, rfl, hy0⟩ := StrsAre.item hwv i x (by rw [← List.getElem?_toArray]; exact hx)
    obtain ⟨tn, rfl⟩ := ints_map_at hyt hy0 (by rw [← List.getElem?_toArray]; exact hy)
    clear F N
    obtain ⟨h₃, gs₃, d₃, t₃, os₃⟩ := s₃
    injection e1 with e1
    injection e1 with e1 e2
    injection e2 with e2
    subst e1
    subst e2
    refine wpAny_tests_one ?_
    walk_at "m:steps"
    unfold Stopped
    refine count_list_strs (m_list (by assumption) (by k_mem)) hvs ?_
    (try dsimp only)
    walk_at "m:steps"
    · exact ⟨fun _ _ e _ => e, rfl, id⟩
    · trivial
  · rintro C' i a b' mm s₃ hi' ⟨x, y, hx, hy, e1⟩ _ hn3 ha hb' hC af _
    obtain ⟨F3, N3⟩ := elt_base F N hC hn3 (fun b o e => af.keep b o e (by simp))
    clear F N
    obtain ⟨h₃, gs₃, d₃, t₃, os₃⟩ := s₃
    walk_at "m:steps"
    · exact ⟨_, rfl⟩
    · exact Af.refl _
    · trivial
  · intro D s' xs' zs ce
    have hys : StrsAre zs [] := by
      have e1 : xs' = List.zipWith (fun x y => #[x, y]) wv yt := zip_list (by rw [ce.len]) (fun i v hv => ce.src i v hv)
      have z1 := ce.out
      rw [e1] at z1
      have z2 := zip_filter hwv hyt (paired_imp (fun _ _ ⟨_, _, h⟩ => h.p) z1)
      rw [List.filter_eq_nil_iff.mpr (fun y hy => by rw [decide_eq_true_eq]; exact Int.not_lt.mpr (hall y hy))] at z2
      exact z2
    obtain ⟨F6, N6⟩ := after_gen F N ce.af ce.new ce.at_
    have hg6 := ce.af.gens hbare
    have hos6 := ce.af.os
    obtain ⟨h6, gs6, d6, t6, os6⟩ := s'
    dsimp only at hos6 F6 N6 hg6
    subst hos6
    clear F N ce
    walk_at "m:steps"
    unfold Stopped
    (rename Fr _ _ _ _ => F9); (rename News _ _ _ _ => N9)
    have hnok : ∀ y ∈ ([] : List Str), PyData.strOk y = true := fun _ h => absurd h List.not_mem_nil
    refine eq_strs (xs := _) (ys := []) (ns := []) (ms := []) (News.isList N9 (by k_mem)) (News.isList N9 (by k_mem)) hys .nil hnok hnok (Nat.le_of_ble_eq_true rfl) ?_
    rw [decide_eq_true rfl]
    have U9 := U.seg (d := d6) (t := t6) F9 N9 (by walk_at "m:rest") hg6
    walk_at "m:steps"
    exact ⟨⟨by trivial, U9.toks⟩⟩
end
end
example : True ∧ True := by walk1 <;> trivial
section
local macro_rules | `(tactic| walk_at "m:flush") => `(tactic| trivial)
example : True ∧ True := by walk1 <;> trivial
end
section
local macro_rules | `(tactic| walk_at "call builtin:sorted") => `(tactic| (with_reducible refine stop_here ?_))
local macro_rules | `(tactic| walk_at "call type:list") => `(tactic| (with_reducible refine stop_here ?_))
local macro_rules | `(tactic| walk_at "call type:set") => `(tactic| (with_reducible refine stop_here ?_))
local macro_rules | `(tactic| walk_at "binaryOp Pow int int") => `(tactic| (with_reducible refine stop_here ?_))
section
variable {w : World} {g : Heap} {s0 s : Shared} {L : Addr} {e b z far : Int} {sp : Addr} {G : Fa} {gs : List B3} {kg : Int} {W : B3} {C : Fa} {cs : List Int} {kc : Int} {rs : List B3} {rl pl : Addr} {put : List Str} {ex : List (Addr × Obj)} {m : Str → Option Value} {key : Str} {script : Addr} {ns : List Int} {cv cv' : List (Nat × Value)} {xs : List (Addr × Obj)} {wl : Addr} {wv : List Value}
noncomputable def srtIter (P : Params) : PySem.Expr := match lawStm P 24 with
  | .For _ it _ _ _ => it
  | _ => .Name (Str.ofString "") ⟨0, 0, 0, 0⟩
noncomputable def srtStm (P : Params) : Stmt := match lawStm P 24 with
  | .For _ _ [x] _ _ => x
  | _ => .Pass ⟨0, 0, 0, 0⟩
theorem for24 (P : Params) : ∃ q p, lawStm P 24 = .For (.Name (Str.ofString "t") q) (srtIter P) [srtStm P] [] p ∧ ∀ env x, foldedSetIterable (srtIter P) env x = pure x := by
  obtain ⟨q, it, b0, p, r, h, k⟩ : ∃ q it b0 p r, (lawBody P).drop 24 = .For (.Name (Str.ofString "t") q) it [b0] [] p :: r ∧ ∀ env x, foldedSetIterable it env x = pure x := by
    unfold lawBody lawOf
    conv => enter [1, a, 1, b, 1, c, 1, d, 1, e, 1]; lhs; whnf
    exact ⟨_, _, _, _, _, rfl, fun _ _ => rfl⟩
  unfold srtIter srtStm lawStm
  rw [h]
  exact ⟨q, p, rfl, k⟩
set_option maxHeartbeats 4000000 in
theorem u_24i (I : LawIn w g s0 script ns) (U : US w g s0 L e b z far sp G gs kg W C cs kc rs rl pl put m cv xs s) {ql : B3} (hq : ql ∈ rs) {Dt : Addr} {yt : List Value} {ts : List Int} (hmt : m (Str.ofString "told") = some (.ref Dt)) (hDt : (Dt, lst yt) ∈ xs) (hyt : IntsAre yt ts) (htl : ts.length ≤ 25) {bo : PySem.Expr} (hbo : srtIter w.params = bo) :
    wpAny (MM w) ((aM 10 10).deeper (lawEnv w.params L)) (eval bo (lawEnv w.params L)) (fun xv s' => Stp (∃ D vs us n, xv = .ref D ∧ IntsAre vs us ∧ US w g s0 L e b z far sp G gs kg W C cs kc rs rl pl put m cv ((D, PySem.W.listOf vs.toArray n) :: xs) s')) NoE s := by
  obtain ⟨oB, oZ, oG, oW, oC, oP, tb, tz, n1, n2, vs, tG, tW, tC, tq, dB, dZ, dG, dW, dC, dP, hvs, N⟩ := U.led0 hq
  obtain ⟨vc, nc, hvc, N'⟩ := U.cl N
  clear N
  have N := U.item N' hDt
  clear N'
  have hyl := hyt.length
  have hyl2 : yt.length < 1000 := by omega
  have hcl := hvc.length
  have hcl2 : vc.length ≤ 7 := by
    have := U.X.CC.len
    rcases U.X.hS with ⟨_, h, _⟩ | ⟨_, h, _⟩ | ⟨_, h, _⟩ | ⟨_, h, _⟩ <;> omega
  have hcl3 : vc.length < 1000 := by omega
  have F := U.F
  have CX := I.cx.keeps (gz_some I.st)
  have X := CX.K
  obtain ⟨loose, mean, mg, mb, TT⟩ := CX.T
  unfold srtIter lawStm lawBody lawOf at hbo
  conv at hbo => lhs; whnf
  subst hbo
  delta lawEnv
  generalize hsc : lawScope w.params = sc
  unfold lawScope lawOf at hsc
  conv at hsc => lhs; whnf
  subst hsc
  simp only [ledOf, List.cons_append, List.nil_append] at N
  obtain ⟨hp, gn, dr, tk, os⟩ := s
  have hos := U.os
  have hbare := U.bare
  dsimp only at F N hos hbare ⊢
  subst hos
  walk_at "m:steps"
  unfold Stopped
  (rename Fr _ _ _ _ => F2); (rename News _ _ _ _ => N2)
  refine list_copyK F2 N2 (m_list N2 (by k_mem)) ?_ (by rw [List.size_toArray, sizeLine_eq]; omega)
  intro D2 c2 h2 F3 N3 l3
  clear F2 N2
  walk_at "m:steps"
  unfold Stopped
  (rename Fr _ _ _ _ => F4); (rename News _ _ _ _ => N4)
  have U4 := U.seg (d := dr) (t := tk) F4 N4 (by walk_at "m:rest") hbare
  refine call_set_ints rfl (m_list N4 (by k_mem)) (IntsAre.append hyt hvc) (by rw [List.length_append]; unfold scanBound; omega) fun h5 tk5 k5 S5 => ?_
  have af5 : Af [] _ (Shared.mk h5 gn dr tk5 s0.os) := ⟨fun b o e _ => k5 b o e, rfl, id⟩
  have U5 := US.af U4.toks af5
  clear F4 N4
  walk_at "m:steps"
  unfold Stopped
  refine sorted_set rfl S5 (by rw [List.length_append]; omega) fun D vs' us h6 d6 n6 hI6 hl6 e6 new6 k6 => ?_
  have af6 : Af [] (Shared.mk h5 gn dr tk5 s0.os) (Shared.mk h6 gn d6 tk5 s0.os) := ⟨fun b o e _ => k6 b o e, rfl, id⟩
  have U6 := US.af U5.toks af6
  refine ⟨⟨D, vs', us, n6, rfl, hI6, U6.X, U6.F, U6.cv, fun q hq => ?_, U6.os, U6.bare⟩⟩
  rcases List.mem_cons.mp hq with h | h
  · subst h
    refine ⟨e6, ⟨nofun, nofun⟩, fun q => ?_, none_back U5.F.keep new6⟩
    obtain ⟨oL, _, _, eL, _⟩ := U5.F.ns
    rw [show D = L from q] at new6
    rw [show (Shared.heap _).get? L = _ from eL] at new6; cases new6
  · exact U6.xs q h
/-- a number's test against a bound -/
def geP (t : Int) (v : Value) : Bool := match v with
  | .int n _ => decide (n ≥ t)
  | _ => false
theorem ge_len {t : Int} : ∀ {vs : List Value} {ns : List Int}, IntsAre vs ns → (vs.filter (geP t)).length = (ns.filter fun n => decide (n ≥ t)).length
  | _, _, .nil => rfl
  | _, _, .cons n u h => by
    rw [List.filter_cons, List.filter_cons]
    show (if decide (n ≥ t) = true then _ else _ : List Value).length = _
    split
    · rw [List.length_cons, List.length_cons, ge_len h]
    · exact ge_len h
theorem ge_end {t : Int} {xs ys vs : List Value} {ns : List Int} (hi : IntsAre vs ns) (hl : xs.length = vs.toArray.size) (hs : ∀ (j : Nat) (v : Value), xs[j]? = some v → vs.toArray[j]? = some v) {F : Value → Value → Prop} (h : Paired F (xs.filter (geP t)) ys) : ys.length = (ns.filter fun n => decide (n ≥ t)).length := by
  rw [← h.length, src_all hl hs, ge_len hi]
set_option maxHeartbeats 4000000 in
theorem u_24b (I : LawIn w g s0 script ns) (U : US w g s0 L e b z far sp G gs kg W C cs kc rs rl pl put m cv xs s) {ql : B3} (hq : ql ∈ rs) {Dt : Addr} {yt : List Value} {ts : List Int} (hmt : m (Str.ofString "told") = some (.ref Dt)) (hDt : (Dt, lst yt) ∈ xs) (hyt : IntsAre yt ts) (htl : ts.length ≤ 25) {t : Int} {tt : Tok} (hc13 : (13, .int t tt) ∈ cv)
    (heq : (ts.filter fun n => decide (n ≥ t)).length = (cs.filter fun n => decide (n ≥ t)).length ^ z.toNat) {bo : Stmt} (hbo : srtStm w.params = bo) :
    wpAny (MM w) ((aM 10 10).deeper (lawEnv w.params L)) (exec bo (lawEnv w.params L)) (fun fl s' => Stp (fl = .next ∧ US w g s0 L e b z far sp G gs kg W C cs kc rs rl pl put m cv xs s')) NoE s := by
  obtain ⟨oB, oZ, oG, oW, oC, oP, tb, tz, n1, n2, vs, tG, tW, tC, tq, dB, dZ, dG, dW, dC, dP, hvs, N⟩ := U.led0 hq
  obtain ⟨vc, nc, hvc, N'⟩ := U.cl N
  obtain ⟨oM, dM, eM, nM1, nM2⟩ := U.cellAt hc13
  clear N
  have N := U.item (news_one N' (a := L + 1 + 1 + 1 + 1 + 1 + 1 + 1 + 1 + 1 + 1 + 1 + 1 + 1) eM nM1 nM2) hDt
  clear N'
  have hyl := hyt.length
  have hcl := hvc.length
  have hcl2 : vc.length ≤ 7 := by
    have := U.X.CC.len
    rcases U.X.hS with ⟨_, h, _⟩ | ⟨_, h, _⟩ | ⟨_, h, _⟩ | ⟨_, h, _⟩ <;> omega
  have hz : 0 ≤ z ∧ z ≤ 1000 := by rcases U.X.hS.z with h | h <;> omega
  have F := U.F
  have CX := I.cx.keeps (gz_some I.st)
  have X := CX.K
  obtain ⟨loose, mean, mg, mb, TT⟩ := CX.T
  unfold srtStm lawStm lawBody lawOf at hbo
  conv at hbo => lhs; whnf
  subst hbo
  delta lawEnv
  generalize hsc : lawScope w.params = sc
  unfold lawScope lawOf at hsc
  conv at hsc => lhs; whnf
  subst hsc
  simp only [ledOf, List.cons_append, List.nil_append] at N
  obtain ⟨hp, gn, dr, tk, os⟩ := s
  have hos := U.os
  have hbare := U.bare
  dsimp only at F N hos hbare ⊢
  subst hos
  walk_at "m:steps"
  unfold Stopped
  refine comp_gen (tb := []) (Inv := fun _ => True) (Bd := bdN (Str.ofString "n")) (n := yt.toArray.size) (P := fun i v => yt.toArray[i]? = some v) (fun _ => rfl) rfl rfl (by decide) (by rw [List.size_toArray, hyl]; exact Nat.le_trans htl (by decide)) (geP t) (fun _ _ _ _ => Stp True) (fun _ _ _ _ _ _ _ => ⟨trivial⟩) ?_
  walk_at "m:steps"
  unfold Stopped
  refine ⟨_, ok_name tb_nil trivial (it_list rfl (News.isList N (by k_mem))) (by decide) rfl rfl ?_ ?_, ?_⟩
  · rintro C2 i2 v2 mm s4 hi2 hv2 hn4 hm4 hC2 af4 _
    obtain ⟨ty, rfl⟩ := IntsAre.int_at hyt i2 v2 (by rw [← List.getElem?_toArray]; exact hv2)
    obtain ⟨F4, N4⟩ := elt_base F N hC2 hn4 (fun b o e => af4.keep b o e (by simp))
    clear F N
    obtain ⟨h4, gs4, d4, t4, os4⟩ := s4
    refine wpAny_tests_one ?_
    walk_at "m:steps"
    · exact ⟨fun _ _ e _ => e, rfl, id⟩
    · trivial
  · rintro C2 i2 v2 mm s4 hi2 hv2 hp hn4 hm4 hC2 af4 _
    obtain ⟨F4, N4⟩ := elt_base F N hC2 hn4 (fun b o e => af4.keep b o e (by simp))
    clear F N
    obtain ⟨h4, gs4, d4, t4, os4⟩ := s4
    walk_at "m:steps"
    · exact ⟨trivial⟩
    · exact Af.refl _
    · trivial
  · intro D s' xs' zs ce
    have hzl : zs.length = (ts.filter fun n => decide (n ≥ t)).length := ge_end hyt ce.len ce.src ce.out
    have hzl2 : zs.length < 1000 := by rw [hzl]; exact Nat.lt_of_le_of_lt (List.length_filter_le _ _) (by omega)
    obtain ⟨F6, N6⟩ := after_gen F N ce.af ce.new ce.at_
    have hg6 := ce.af.gens hbare
    have hos6 := ce.af.os
    obtain ⟨h6, gs6, d6, t6, os6⟩ := s'
    dsimp only at hos6 F6 N6 hg6
    subst hos6
    clear F N ce
    walk_at "m:steps"
    unfold Stopped
    refine comp_gen (tb := []) (Inv := fun _ => True) (Bd := bdN (Str.ofString "n")) (n := vc.toArray.size) (P := fun i v => vc.toArray[i]? = some v) (fun _ => rfl) rfl rfl (by decide) (by rw [List.size_toArray]; exact Nat.le_trans hcl2 (by decide)) (geP t) (fun _ _ _ _ => Stp True) (fun _ _ _ _ _ _ _ => ⟨trivial⟩) ?_
    walk_at "m:steps"
    unfold Stopped
    (rename Fr _ _ _ _ => F7); (rename News _ _ _ _ => N7)
    refine ⟨_, ok_name tb_nil trivial (it_list rfl (m_list N7 (by k_mem))) (by decide) rfl rfl ?_ ?_, ?_⟩
    · rintro C2 i2 v2 mm s4 hi2 hv2 hn4 hm4 hC2 af4 _
      obtain ⟨ty, rfl⟩ := IntsAre.int_at hvc i2 v2 (by rw [← List.getElem?_toArray]; exact hv2)
      obtain ⟨F4, N4⟩ := elt_base F7 N7 hC2 hn4 (fun b o e => af4.keep b o e (by simp))
      clear F7 N7
      obtain ⟨h4, gs4, d4, t4, os4⟩ := s4
      refine wpAny_tests_one ?_
      walk_at "m:steps"
      · exact ⟨fun _ _ e _ => e, rfl, id⟩
      · trivial
    · rintro C2 i2 v2 mm s4 hi2 hv2 hp hn4 hm4 hC2 af4 _
      obtain ⟨F4, N4⟩ := elt_base F7 N7 hC2 hn4 (fun b o e => af4.keep b o e (by simp))
      clear F7 N7
      obtain ⟨h4, gs4, d4, t4, os4⟩ := s4
      walk_at "m:steps"
      · exact ⟨trivial⟩
      · exact Af.refl _
      · trivial
    · intro D2 s' xs2 ys2 ce
      have hyl2 : ys2.length = (cs.filter fun n => decide (n ≥ t)).length := ge_end hvc ce.len ce.src ce.out
      have hyl3 : ys2.length < 1000 := by rw [hyl2]; exact Nat.lt_of_le_of_lt (List.length_filter_le _ _) (by omega)
      obtain ⟨F8, N8⟩ := after_gen F7 N7 ce.af ce.new ce.at_
      have hg8 := ce.af.gens hg6
      have hos8 := ce.af.os
      obtain ⟨h8, gs8, d8, t8, os8⟩ := s'
      dsimp only at hos8 F8 N8 hg8
      subst hos8
      clear F7 N7 ce
      walk_at "m:steps"
      unfold Stopped
      refine powp hz (by omega) ?_
      (try dsimp only)
      walk_at "m:steps"
      · exact absurd (show (zs.length : Int) = (ys2.length : Int) ^ z.toNat by rw [hzl, hyl2, heq]; exact Int.natCast_pow _ _) (by assumption)
      · (rename Fr _ _ _ _ => F9); (rename News _ _ _ _ => N9)
        have U9 := U.seg (d := d8) (t := t8) F9 N9 (by walk_at "m:rest") hg8
        exact ⟨⟨by trivial, U9.toks⟩⟩
theorem u_24 (I : LawIn w g s0 script ns) (U : US w g s0 L e b z far sp G gs kg W C cs kc rs rl pl put m cv xs s) {ql : B3} (hq : ql ∈ rs) {Dt : Addr} {yt : List Value} {ts : List Int} (hmt : m (Str.ofString "told") = some (.ref Dt)) (hDt : (Dt, lst yt) ∈ xs) (hyt : IntsAre yt ts) (htl : ts.length ≤ 25)
    (h13 : ∀ q ∈ cv, q.1 ≠ 13) (hxn : ∀ q ∈ xs, ¬ ItO q.2) (heq : ∀ t : Int, (ts.filter fun n => decide (n ≥ t)).length = (cs.filter fun n => decide (n ≥ t)).length ^ z.toNat) {bo : Stmt} (hbo : lawStm w.params 24 = bo) :
    wpAny (MM w) ((aM 10 10).deeper (lawEnv w.params L)) (exec bo (lawEnv w.params L)) (fun fl s' => Stp (fl = .next ∧ US w g s0 L e b z far sp G gs kg W C cs kc rs rl pl put m cv xs s')) NoE s := by
  obtain ⟨q, p, h24, hfs⟩ := for24 w.params
  rw [h24] at hbo
  subst hbo
  generalize q0 : srtIter w.params = it at hfs
  generalize k0 : srtStm w.params = st0
  refine for_list rfl (fun x => hfs _ x) (fun _ _ => rfl) (wpAny_mono (u_24i I U hq hmt hDt hyt htl q0) ?_ fun _ _ e => e)
  rintro xv s2 ⟨⟨D, vs, us, n, rfl, hus, U2⟩⟩
  have hD := U2.xs _ (.head _)
  refine ⟨D, vs.toArray, fun _ s' => US w g s0 L e b z far sp G gs kg W C cs kc rs rl pl put m cv ((D, PySem.W.listOf vs.toArray n) :: xs) s', rfl, ⟨_, hD.1, rfl, _, rfl⟩, ?_, U2, ?_, fun s' U' _ => ⟨⟨rfl, U'.sub (fun _ h => .tail _ h) fun _ h => h⟩⟩⟩
  · intro i s' h' tk U' k
    refine U'.stab U2.F.keep (fun q hq hc => ?_) k
    rcases List.mem_cons.mp hq with h | h
    · subst h; exact nit_list hc.1
    · exact hxn _ h hc.1
  · rintro I' i v s' hv U' ⟨oI, eI, cI, dI⟩ _
    obtain ⟨t, u, rfl, _⟩ := IntsAre.at hus i v (by rw [← List.getElem?_toArray]; exact hv)
    obtain ⟨xi, U1, back⟩ := U'.track eI ⟨by rw [cI]; exact nofun, by rw [dI]; exact nofun⟩ (ns_ne U'.F.ns eI (by rw [dI]; exact nofun))
    refine assign_Name ?_
    obtain ⟨v0, o0, e0, d0⟩ := U1.X.cells.ce 13 (by decide) (by decide)
    refine wpAny_storeName_cell (c := L + 13) rfl rfl rfl ⟨o0, e0, d0⟩ fun h' hv hs => ?_
    have U3 := U1.setc (by decide) (by decide) hs hv (d := s'.drawn) (t := s'.toks)
    refine wpAny_execs_cons (wpAny_mono (u_24b I U3 hq hmt (List.mem_append_right _ (.tail _ hDt)) hyt htl (.head _) (heq t) k0) ?_ fun _ _ e => e)
    rintro fl s3 ⟨⟨rfl, U4⟩⟩
    have U5 := U4.sub (xs' := (D, PySem.W.listOf vs.toArray n) :: xs) (cv' := cv) (fun q hq => List.mem_append_right _ hq) (fun q hq => .tail _ (List.mem_filter.mpr ⟨hq, by simpa using h13 q hq⟩))
    exact wpAny_execs_nil ⟨⟨rfl, U5, ⟨oI, back _ _ _ _ U4 fun q hq => List.mem_append_left _ hq, cI, dI⟩, ⟨_, (U5.xs _ (.head _)).1, rfl, _, rfl⟩⟩⟩
end
end
example : True ∧ True := by walk1 <;> trivial
section
local macro_rules | `(tactic| walk_at "m:flush") => `(tactic| trivial)
example : True ∧ True := by walk1 <;> trivial
end
section
/-! the plain law, second part: the words are counted -/
section
variable {e b z far : Int}
/-- a mask of a predicate -/
def maskOf (p : Nat → Bool) : Nat → Nat
  | 0 => 0
  | B + 1 => maskOf p B ||| (if p B then 2 ^ B else 0)
theorem maskOf_lt (p : Nat → Bool) : ∀ B, maskOf p B < 2 ^ B
  | 0 => Nat.zero_lt_one
  | B + 1 => by
    have h1 := maskOf_lt p B
    have h2 : 2 ^ B < 2 ^ (B + 1) := by rw [Nat.pow_succ]; have := Nat.two_pow_pos B; omega
    refine Nat.or_lt_two_pow (Nat.lt_trans h1 h2) ?_
    split
    · exact h2
    · exact Nat.two_pow_pos _
theorem maskOf_bit (p : Nat → Bool) : ∀ (B k : Nat), k < B → (maskOf p B).testBit k = p k
  | 0, _, h => absurd h (Nat.not_lt_zero _)
  | B + 1, k, h => by
    show (maskOf p B ||| _).testBit k = _
    rw [Nat.testBit_or]
    by_cases q : k = B
    · subst q
      rw [Nat.testBit_lt_two_pow (maskOf_lt p k)]
      cases hp : p k
      · simp
      · simp [Nat.testBit_two_pow_self]
    · rw [maskOf_bit p B k (by omega)]
      split
      · rw [Nat.testBit_two_pow, decide_eq_false (Ne.symm q), Bool.or_false]
      · simp
theorem filter_congr_len {α : Type} {p q : α → Bool} {l : List α} (h : ∀ x ∈ l, p x = q x) : (l.filter p).length = (l.filter q).length := by rw [List.filter_congr h]
/-- the words all of whose places have a property -/
theorem words_count (hS : Sz e b z) (p : Nat → Bool) : ((List.range (b.toNat ^ z.toNat)).filter fun (i : Nat) => (plw b z (i : Int)).all p).length = ((List.range b.toNat).filter p).length ^ z.toNat := by
  have key : ∀ n < 2 ^ b.toNat, ((List.range (b.toNat ^ z.toNat)).filter fun (i : Nat) => (plw b z (i : Int)).all n.testBit).length = ((List.range b.toNat).filter n.testBit).length ^ z.toNat := by
    rcases hS with ⟨rfl, rfl, rfl⟩ | ⟨rfl, rfl, rfl⟩ | ⟨rfl, rfl, rfl⟩ | ⟨rfl, rfl, rfl⟩ <;> decide +kernel
  have hb : 0 < b := by have := hS.b; omega
  have hp : ∀ k < b.toNat, p k = (maskOf p b.toNat).testBit k := fun k hk => (maskOf_bit p _ k hk).symm
  rw [filter_congr_len (q := fun (i : Nat) => (plw b z (i : Int)).all (maskOf p b.toNat).testBit) fun i _ => ?_, key _ (maskOf_lt _ _), filter_congr_len (q := (maskOf p b.toNat).testBit) fun k hk => hp k (List.mem_range.mp hk)]
  rw [Bool.eq_iff_iff, List.all_eq_true, List.all_eq_true]
  exact ⟨fun h k hk => by rw [← hp k (plw_lt hb k hk)]; exact h k hk, fun h k hk => by rw [hp k (plw_lt hb k hk)]; exact h k hk⟩
theorem ws_filter (P : Str → Bool) : ((wordsOf b z).filter P).length = ((List.range (b.toNat ^ z.toNat)).filter fun (i : Nat) => P (wd b z (i : Int))).length := by
  unfold wordsOf
  rw [List.filter_map, List.length_map]
  rfl
theorem yes_wd (hS : Sz e b z) (hfar : ∃ q, far = b * q) {m : Int} (hm : 0 ≤ m) (n : Int) : yes b far z m (wd b z n) = (plw b z n).all (bt m) := by
  unfold yes
  rw [chk_eq hm, pls_wd (by have := hS.b; omega) hS.z hfar]
theorem range_filter_le {p : Nat → Bool} {a r : Nat} (h : ∀ k, a ≤ k → p k = false) : ((List.range (a + r)).filter p).length = ((List.range a).filter p).length := by
  have h0 : (List.range r).filter (p ∘ (a + ·)) = [] := List.filter_eq_nil_iff.mpr fun k _ => by
    show ¬ (p (a + k) = true)
    rw [h _ (Nat.le_add_right _ _)]; exact Bool.false_ne_true
  rw [List.range_add, List.filter_append, List.length_append, List.filter_map, List.length_map, h0]
  rfl
theorem pop_range (hS : Sz e b z) {m : Int} (hm : Mk b.toNat m) : pop m = ((List.range b.toNat).filter (bt m)).length := by
  have hb := hS.b
  unfold pop
  have h7 : 7 = b.toNat + (7 - b.toNat) := by omega
  conv => lhs; rw [h7]
  exact range_filter_le fun k hk => by
    cases q : m.toNat.testBit k
    · rfl
    · exact absurd (hm.bit q) (Nat.not_lt.mpr hk)
/-- how many words a filter says yes to -/
theorem yes_count (hS : Sz e b z) (hfar : ∃ q, far = b * q) {m : Int} (hm : Mk b.toNat m) : ((wordsOf b z).filter (yes b far z m)).length = pop m ^ z.toNat := by
  rw [ws_filter, pop_range hS hm, ← words_count hS]
  exact filter_congr_len fun i _ => yes_wd hS hfar hm.1 _
theorem yes_and {m1 m2 : Int} (h1 : 0 ≤ m1) (h2 : 0 ≤ m2) (y : Str) : yes b far z (Builtin.bitAnd m1 m2) y = (yes b far z m1 y && yes b far z m2 y) := by
  unfold yes
  have h3 : 0 ≤ Builtin.bitAnd m1 m2 := by rw [bitAnd_pp h1 h2]; exact Int.natCast_nonneg _
  rw [chk_eq h1, chk_eq h2, chk_eq h3]
  rw [Bool.eq_iff_iff, Bool.and_eq_true, List.all_eq_true, List.all_eq_true, List.all_eq_true]
  simp only [bt_and h1 h2, Bool.and_eq_true]
  exact ⟨fun h => ⟨fun k hk => (h k hk).1, fun k hk => (h k hk).2⟩, fun h k hk => ⟨h.1 k hk, h.2 k hk⟩⟩
/-- inclusion and exclusion -/
theorem ie2 {α : Type} (p q : α → Bool) : ∀ l : List α, (((l.filter fun x => p x || q x).length : Nat) : Int) = (l.filter p).length + (l.filter q).length - (l.filter fun x => p x && q x).length
  | [] => rfl
  | x :: l => by
    have ih := ie2 p q l
    simp only [List.filter_cons]
    cases p x <;> cases q x <;> simp only [Bool.or_false, Bool.or_true, Bool.and_false, Bool.and_true, Bool.false_eq_true, if_true, if_false, List.length_cons] <;> push_cast <;> omega
theorem ie3 {α : Type} (p q r : α → Bool) : ∀ l : List α, (((l.filter fun x => p x || (q x || r x)).length : Nat) : Int) = (l.filter p).length + (l.filter q).length - (l.filter fun x => p x && q x).length + (l.filter r).length - (l.filter fun x => p x && r x).length - (l.filter fun x => q x && r x).length + (l.filter fun x => (p x && q x) && r x).length
  | [] => rfl
  | x :: l => by
    have ih := ie3 p q r l
    simp only [List.filter_cons]
    cases p x <;> cases q x <;> cases r x <;> simp only [Bool.or_false, Bool.or_true, Bool.and_false, Bool.and_true, Bool.false_eq_true, if_true, if_false, List.length_cons] <;> push_cast <;> omega
theorem ie {α : Type} {φ : Int → α → Bool} {l : List α} {ms : List Int} {S : Nat → Int} (hφ : ∀ a b x, 0 ≤ a → 0 ≤ b → φ (Builtin.bitAnd a b) x = (φ a x && φ b x)) (hm : ∀ m ∈ ms, 0 ≤ m) (h1 : ms ≠ []) (h3 : ms.length ≤ 3) (S0 : S 0 = 0)
    (SS : ∀ i, i + 1 < 2 ^ ms.length → S (i + 1) = S i + sgn (i + 1) ms * ((l.filter (φ (metM (i + 1) ms))).length : Int)) : S (2 ^ ms.length - 1) = ((l.filter fun x => ms.any fun m => φ m x).length : Int) := by
  match ms, h1, h3, hm, SS with
  | [a], _, _, hm, SS =>
    have e1 := SS 0 (by simp)
    have f1 : metM 1 [a] = a := by simp [metM, pick, Nat.testBit]
    have g1 : sgn 1 [a] = 1 := by simp [sgn, pick, Nat.testBit]
    simp only [Nat.reduceAdd] at e1
    rw [f1, g1, S0] at e1
    have h4 : (fun x => [a].any fun m => φ m x) = φ a := by funext x; simp
    show S 1 = _
    rw [e1, h4]
    omega
  | [a, c], _, _, hm, SS =>
    have ha := hm a (.head _)
    have hc := hm c (.tail _ (.head _))
    have e1 := SS 0 (by simp)
    have e2 := SS 1 (by simp)
    have e3 := SS 2 (by simp)
    have f1 : metM 1 [a, c] = a := by simp [metM, pick, Nat.testBit]
    have f2 : metM 2 [a, c] = c := by simp [metM, pick, Nat.testBit]
    have f3 : metM 3 [a, c] = Builtin.bitAnd a c := by simp [metM, pick, Nat.testBit]
    have g1 : sgn 1 [a, c] = 1 := by simp [sgn, pick, Nat.testBit]
    have g2 : sgn 2 [a, c] = 1 := by simp [sgn, pick, Nat.testBit]
    have g3 : sgn 3 [a, c] = -1 := by simp [sgn, pick, Nat.testBit]
    simp only [Nat.reduceAdd] at e1 e2 e3
    rw [f1, g1, S0] at e1
    rw [f2, g2, e1] at e2
    rw [f3, g3, e2] at e3
    have h4 : (fun x => [a, c].any fun m => φ m x) = fun x => φ a x || φ c x := by funext x; simp
    have h5 : φ (Builtin.bitAnd a c) = fun x => φ a x && φ c x := by funext x; exact hφ a c x ha hc
    show S 3 = _
    rw [e3, h4, ie2, h5]
    omega
  | [a, c, d], _, _, hm, SS =>
    have ha := hm a (.head _)
    have hc := hm c (.tail _ (.head _))
    have hd := hm d (.tail _ (.tail _ (.head _)))
    have e1 := SS 0 (by simp)
    have e2 := SS 1 (by simp)
    have e3 := SS 2 (by simp)
    have e4 := SS 3 (by simp)
    have e5 := SS 4 (by simp)
    have e6 := SS 5 (by simp)
    have e7 := SS 6 (by simp)
    have f1 : metM 1 [a, c, d] = a := by simp [metM, pick, Nat.testBit]
    have f2 : metM 2 [a, c, d] = c := by simp [metM, pick, Nat.testBit]
    have f3 : metM 3 [a, c, d] = Builtin.bitAnd a c := by simp [metM, pick, Nat.testBit]
    have f4 : metM 4 [a, c, d] = d := by simp [metM, pick, Nat.testBit]
    have f5 : metM 5 [a, c, d] = Builtin.bitAnd a d := by simp [metM, pick, Nat.testBit]
    have f6 : metM 6 [a, c, d] = Builtin.bitAnd c d := by simp [metM, pick, Nat.testBit]
    have f7 : metM 7 [a, c, d] = Builtin.bitAnd (Builtin.bitAnd a c) d := by simp [metM, pick, Nat.testBit]
    have g1 : sgn 1 [a, c, d] = 1 := by simp [sgn, pick, Nat.testBit]
    have g2 : sgn 2 [a, c, d] = 1 := by simp [sgn, pick, Nat.testBit]
    have g3 : sgn 3 [a, c, d] = -1 := by simp [sgn, pick, Nat.testBit]
    have g4 : sgn 4 [a, c, d] = 1 := by simp [sgn, pick, Nat.testBit]
    have g5 : sgn 5 [a, c, d] = -1 := by simp [sgn, pick, Nat.testBit]
    have g6 : sgn 6 [a, c, d] = -1 := by simp [sgn, pick, Nat.testBit]
    have g7 : sgn 7 [a, c, d] = 1 := by simp [sgn, pick, Nat.testBit]
    simp only [Nat.reduceAdd] at e1 e2 e3 e4 e5 e6 e7
    rw [f1, g1, S0] at e1
    rw [f2, g2, e1] at e2
    rw [f3, g3, e2] at e3
    rw [f4, g4, e3] at e4
    rw [f5, g5, e4] at e5
    rw [f6, g6, e5] at e6
    rw [f7, g7, e6] at e7
    have hac : 0 ≤ Builtin.bitAnd a c := by rw [bitAnd_pp ha hc]; exact Int.natCast_nonneg _
    have h4 : (fun x => [a, c, d].any fun m => φ m x) = fun x => φ a x || (φ c x || φ d x) := by funext x; simp [Bool.or_assoc]
    have h5 : φ (Builtin.bitAnd a c) = fun x => φ a x && φ c x := by funext x; exact hφ a c x ha hc
    have h6 : φ (Builtin.bitAnd a d) = fun x => φ a x && φ d x := by funext x; exact hφ a d x ha hd
    have h7 : φ (Builtin.bitAnd c d) = fun x => φ c x && φ d x := by funext x; exact hφ c d x hc hd
    have h8 : φ (Builtin.bitAnd (Builtin.bitAnd a c) d) = fun x => (φ a x && φ c x) && φ d x := by funext x; rw [hφ _ d x hac hd, hφ a c x ha hc]
    show S 7 = _
    rw [e7, h4, ie3, h5, h6, h7, h8]
    omega
theorem met_all {α : Type} {φ : Int → α → Bool} {ms : List Int} (hφ : ∀ a b x, 0 ≤ a → 0 ≤ b → φ (Builtin.bitAnd a b) x = (φ a x && φ b x)) (hm : ∀ m ∈ ms, 0 ≤ m) (h1 : ms ≠ []) (h3 : ms.length ≤ 3) (x : α) : φ (metM (2 ^ ms.length - 1) ms) x = ms.all fun m => φ m x := by
  match ms, h1, h3, hm with
  | [a], _, _, hm =>
    have f1 : metM 1 [a] = a := by simp [metM, pick, Nat.testBit]
    show φ (metM 1 [a]) x = _
    rw [f1]; simp
  | [a, c], _, _, hm =>
    have f3 : metM 3 [a, c] = Builtin.bitAnd a c := by simp [metM, pick, Nat.testBit]
    show φ (metM 3 [a, c]) x = _
    rw [f3, hφ a c x (hm a (.head _)) (hm c (.tail _ (.head _)))]; simp
  | [a, c, d], _, _, hm =>
    have ha := hm a (.head _)
    have hc := hm c (.tail _ (.head _))
    have hac : 0 ≤ Builtin.bitAnd a c := by rw [bitAnd_pp ha hc]; exact Int.natCast_nonneg _
    have f7 : metM 7 [a, c, d] = Builtin.bitAnd (Builtin.bitAnd a c) d := by simp [metM, pick, Nat.testBit]
    show φ (metM 7 [a, c, d]) x = _
    rw [f7, hφ _ d x hac (hm d (.tail _ (.tail _ (.head _)))), hφ a c x ha hc]; simp [Bool.and_assoc]
end
end
example : True ∧ True := by walk1 <;> trivial
section
local macro_rules | `(tactic| walk_at "m:flush") => `(tactic| trivial)
example : True ∧ True := by walk1 <;> trivial
end
section
section
variable {e b z far : Int} {ms : List Int} {M : Int} {cs : List Int} {put : List Str}
theorem lit_eq (hS : Sz e b z) (Gd : Good b z far ms M cs put) (h1 : ms ≠ []) (h3 : ms.length ≤ 3) : litS ms (2 ^ ms.length - 1) = (pop M : Int) := by
  have := ie (S := litS ms) (φ := bt) (l := List.range b.toNat) (fun a c x ha hc => bt_and ha hc x) (fun m hm => (Gd.hm m hm).1) h1 h3 rfl fun i hi => by
    show litS ms i + sgn (i + 1) ms * (pop (metM (i + 1) ms) : Int) = _
    rw [pop_range hS (metM_mk Gd.hm (by omega) hi)]
  rw [this, pop_range hS Gd.hM]
  congr 1
  exact filter_congr_len fun k _ => (Gd.bit k).symm
theorem tot_eq (hS : Sz e b z) (hfar : ∃ q, far = b * q) (Gd : Good b z far ms M cs put) (h1 : ms ≠ []) (h3 : ms.length ≤ 3) : totS z ms (2 ^ ms.length - 1) = (((wordsOf b z).filter fun y => ms.any fun m => yes b far z m y).length : Int) := by
  refine ie (φ := yes b far z) (l := wordsOf b z) (fun a c x ha hc => yes_and ha hc x) (fun m hm => (Gd.hm m hm).1) h1 h3 rfl fun i hi => ?_
  show totS z ms i + sgn (i + 1) ms * (pop (metM (i + 1) ms) : Int) ^ z.toNat = _
  rw [yes_count hS hfar (metM_mk Gd.hm (by omega) hi), Int.natCast_pow]
theorem all_eq (Gd : Good b z far ms M cs put) (h1 : ms ≠ []) (h3 : ms.length ≤ 3) (y : Str) : yes b far z (metM (2 ^ ms.length - 1) ms) y = ms.all fun m => yes b far z m y :=
  met_all (φ := yes b far z) (fun a c x ha hc => yes_and ha hc x) (fun m hm => (Gd.hm m hm).1) h1 h3 y
theorem any_every (Gd : Good b z far ms M cs put) {y : Str} (h : (ms.any fun m => yes b far z m y) = true) : yes b far z M y = true := by
  obtain ⟨m, hm, hy⟩ := List.any_eq_true.mp h
  unfold yes at hy ⊢
  rw [chk_eq (Gd.hm m hm).1, List.all_eq_true] at hy
  rw [chk_eq Gd.hM.1, List.all_eq_true]
  exact fun k hk => by rw [Gd.bit]; exact List.any_eq_true.mpr ⟨m, hm, hy k hk⟩
/-- what the counting one tells of the n-th word -/
theorem tell_wd (hS : Sz e b z) (hfar : ∃ q, far = b * q) (n : Int) : tell b far z cs (wd b z n) = mn ((plw b z n).map fun k => cs.getD k 0) := by
  unfold tell
  rw [← pls_wd (by have := hS.b; omega) hS.z hfar, List.map_map]
  rfl
theorem plw_ne (hz : z = 1 ∨ z = 2) (n : Int) : plw b z n ≠ [] := fun h => by
  have := congrArg List.length h
  unfold plw at this
  rw [List.length_map, List.length_range] at this
  simp at this
  omega
theorem mn_ge {l : List Int} (h : l ≠ []) (t : Int) : t ≤ mn l ↔ ∀ x ∈ l, t ≤ x := ⟨fun q x hx => Int.le_trans q (mn_le hx), fun q => q _ (mn_mem h)⟩
theorem tell_ge (hS : Sz e b z) (hfar : ∃ q, far = b * q) (n t : Int) : t ≤ tell b far z cs (wd b z n) ↔ ∀ k ∈ plw b z n, t ≤ cs.getD k 0 := by
  rw [tell_wd hS hfar, mn_ge (fun h => plw_ne hS.z n (List.map_eq_nil_iff.mp h))]
  simp
theorem getD_list {cs : List Int} {B : Nat} (h : cs.length = B) : cs = (List.range B).map fun k => cs.getD k 0 := by
  apply List.ext_getElem?
  intro i
  rw [List.getElem?_map]
  by_cases q : i < B
  · rw [List.getElem?_range q, Option.map_some, List.getD_eq_getElem?_getD, List.getElem?_eq_getElem (by omega)]; rfl
  · rw [List.getElem?_eq_none (by omega), List.getElem?_eq_none (by rw [List.length_range]; omega)]; rfl
theorem told_count (hS : Sz e b z) (hfar : ∃ q, far = b * q) (hl : cs.length = b.toNat) (t : Int) : (((wordsOf b z).map (tell b far z cs)).filter fun n => decide (n ≥ t)).length = (cs.filter fun n => decide (n ≥ t)).length ^ z.toNat := by
  rw [List.filter_map, List.length_map, ws_filter]
  conv => rhs; rw [getD_list hl]
  rw [List.filter_map, List.length_map, ← words_count hS]
  refine filter_congr_len fun i _ => ?_
  rw [Bool.eq_iff_iff, List.all_eq_true]
  show decide (t ≤ tell b far z cs (wd b z (i : Int))) = true ↔ _
  rw [decide_eq_true_eq, tell_ge hS hfar]
  simp
theorem told_pos (hS : Sz e b z) (hfar : ∃ q, far = b * q) (Gd : Good b z far ms M cs put) : (wordsOf b z).filter (yes b far z M) = (wordsOf b z).filter fun y => decide (tell b far z cs y > 0) := by
  refine List.filter_congr fun y hy => ?_
  obtain ⟨i, _, rfl⟩ := List.mem_map.mp hy
  have hb : 0 < b := by have := hS.b; omega
  rw [yes_wd hS hfar Gd.hM.1, Bool.eq_iff_iff, List.all_eq_true, decide_eq_true_eq]
  show _ ↔ 1 ≤ tell b far z cs (wd b z (i : Int))
  rw [tell_ge hS hfar]
  refine forall_congr' fun k => forall_congr' fun hk => ?_
  have hkb := plw_lt hb k hk
  rw [Gd.hit k hkb, Gd.cnt k hkb]
  omega
theorem count_tally (hS : Sz e b z) (hfar : ∃ q, far = b * q) {y : Str} {n : Int} (hy : y = wd b z n) {k : Nat} (hk : k ∈ plw b z n) : ∀ put : List Str, countIn (.str y) (put.map PyData.str) ≤ (tally b far z put k : Int)
  | [] => Int.le_refl _
  | x :: r => by
    have ih := count_tally hS hfar hy hk r
    have e1 : tally b far z (x :: r) k = ((spell far z x).map (plc b)).count k + tally b far z r k := rfl
    rw [e1, List.map_cons]
    show (if PySem.Spec.same (.str x) (.str y) = true then (1 : Int) else 0) + _ ≤ _
    by_cases q : x = y
    · have h1 : 0 < ((spell far z x).map (plc b)).count k := by
        rw [q, hy, pls_wd (by have := hS.b; omega) hS.z hfar]
        exact List.count_pos_iff.mpr hk
      split <;> push_cast <;> omega
    · rw [if_neg (by simpa [PySem.Spec.same] using q)]
      push_cast
      omega
theorem told_enough (hS : Sz e b z) (hfar : ∃ q, far = b * q) (Gd : Good b z far ms M cs put) : ∀ y ∈ wordsOf b z, countIn (.str y) (put.map PyData.str) ≤ tell b far z cs y := fun y hy => by
  obtain ⟨i, _, rfl⟩ := List.mem_map.mp hy
  have hb : 0 < b := by have := hS.b; omega
  rw [tell_ge hS hfar]
  intro k hk
  rw [Gd.cnt k (plw_lt hb k hk)]
  exact count_tally hS hfar rfl hk put
theorem count_sum {B : Nat} : ∀ {l : List Nat}, (∀ k ∈ l, k < B) → ((List.range B).map fun k => l.count k).sum = l.length
  | [], _ => by
    have : ((List.range B).map fun k => ([] : List Nat).count k) = (List.range B).map fun _ => 0 := rfl
    rw [this]
    induction B with
    | zero => rfl
    | succ n ih => rw [List.range_succ, List.map_append, List.sum_append, ih (fun _ h => absurd h List.not_mem_nil) rfl]; rfl
  | x :: r, h => by
    have ih := count_sum (B := B) (l := r) fun k hk => h k (.tail _ hk)
    have hx := h x (.head _)
    have key : ∀ n, ((List.range n).map fun k => (x :: r).count k).sum = ((List.range n).map fun k => r.count k).sum + if x < n then 1 else 0 := by
      intro n
      induction n with
      | zero => rfl
      | succ n ih =>
        rw [List.range_succ, List.map_append, List.sum_append, List.map_append, List.sum_append, ih, List.map_cons, List.map_cons, List.map_nil, List.map_nil, List.sum_cons, List.sum_cons, List.sum_nil, List.count_cons]
        by_cases q : x = n
        · subst q
          rw [if_neg (Nat.lt_irrefl _), if_pos (beq_self_eq_true _), if_pos (Nat.lt_succ_self _)]; omega
        · have e2 : (x == n) = false := beq_eq_false_iff_ne.mpr q
          rw [e2]
          by_cases q2 : x < n
          · rw [if_pos q2, if_pos (show x < n + 1 by omega)]; simp; omega
          · rw [if_neg q2, if_neg (show ¬ x < n + 1 by omega)]; simp
    rw [key, ih, if_pos hx, List.length_cons]
theorem tally_sum (hS : Sz e b z) (hfar : ∃ q, far = b * q) : ∀ {put : List Str}, (∀ w ∈ put, ∃ n, w = wd b z n) → ((((List.range b.toNat).map fun k => tally b far z put k).sum : Nat) : Int) = z * (put.length : Int)
  | [], _ => by
    have : ∀ n, ((List.range n).map fun k => tally b far z [] k).sum = 0 := fun n => by
      induction n with
      | zero => rfl
      | succ n ih => rw [List.range_succ, List.map_append, List.sum_append, ih]; rfl
    rw [this]; simp
  | x :: r, h => by
    have ih := tally_sum hS hfar (put := r) fun w hw => h w (.tail _ hw)
    obtain ⟨n, rfl⟩ := h x (.head _)
    have hb : 0 < b := by have := hS.b; omega
    have key : ∀ m, ((List.range m).map fun k => tally b far z (wd b z n :: r) k).sum = ((List.range m).map fun k => (plw b z n).count k).sum + ((List.range m).map fun k => tally b far z r k).sum := fun m => by
      induction m with
      | zero => rfl
      | succ m ih =>
        rw [List.range_succ, List.map_append, List.sum_append, List.map_append, List.sum_append, List.map_append, List.sum_append, ih]
        have e1 : tally b far z (wd b z n :: r) m = (plw b z n).count m + tally b far z r m := by
          show ((spell far z (wd b z n)).map (plc b)).count m + tally b far z r m = _
          rw [pls_wd hb hS.z hfar]
        simp only [List.map_cons, List.map_nil, List.sum_cons, List.sum_nil, e1]
        omega
    rw [key, count_sum (plw_lt hb)]
    have hl : ((plw b z n).length : Int) = z := by
      unfold plw
      rw [List.length_map, List.length_range]
      have := hS.z; omega
    rw [List.length_cons]
    push_cast
    rw [hl, ih, Int.mul_add, Int.mul_one]
    omega
theorem cs_sum (hS : Sz e b z) (hfar : ∃ q, far = b * q) (Gd : Good b z far ms M cs put) : cs.sum = z * (put.length : Int) := by
  rw [← tally_sum hS hfar Gd.wrd, getD_list Gd.len]
  have key : ∀ n, n ≤ b.toNat → ((List.range n).map fun k => cs.getD k 0).sum = (((List.range n).map fun k => tally b far z put k).sum : Nat) := fun n => by
    induction n with
    | zero => exact fun _ => rfl
    | succ n ih =>
      intro hn
      rw [List.range_succ, List.map_append, List.sum_append, List.map_append, List.sum_append, ih (by omega), List.map_cons, List.map_nil, List.sum_cons, List.sum_nil, Gd.cnt n (by omega)]
      simp
  exact key _ (Nat.le_refl _)
end
end
example : True ∧ True := by walk1 <;> trivial
section
local macro_rules | `(tactic| walk_at "m:flush") => `(tactic| trivial)
example : True ∧ True := by walk1 <;> trivial
end
section
theorem law_len (P : Params) : (lawBody P).length = 27 := by
  unfold lawBody lawOf
  rfl
theorem stm_step (P : Params) {i : Nat} (h : i < 27) : (lawBody P).drop i = lawStm P i :: (lawBody P).drop (i + 1) := by
  have h2 : i < (lawBody P).length := by rw [law_len P]; exact h
  unfold lawStm
  rw [List.drop_eq_getElem_cons h2]
theorem law_list (P : Params) : (lawBody P).drop 8 = [lawStm P 8, lawStm P 9, lawStm P 10, lawStm P 11, lawStm P 12, lawStm P 13, lawStm P 14, lawStm P 15, lawStm P 16, lawStm P 17, lawStm P 18, lawStm P 19, lawStm P 20, lawStm P 21, lawStm P 22, lawStm P 23, lawStm P 24, lawStm P 25, lawStm P 26] := by
  have h8 := stm_step P (show 8 < 27 by decide)
  have h9 := stm_step P (show 9 < 27 by decide)
  have h10 := stm_step P (show 10 < 27 by decide)
  have h11 := stm_step P (show 11 < 27 by decide)
  have h12 := stm_step P (show 12 < 27 by decide)
  have h13 := stm_step P (show 13 < 27 by decide)
  have h14 := stm_step P (show 14 < 27 by decide)
  have h15 := stm_step P (show 15 < 27 by decide)
  have h16 := stm_step P (show 16 < 27 by decide)
  have h17 := stm_step P (show 17 < 27 by decide)
  have h18 := stm_step P (show 18 < 27 by decide)
  have h19 := stm_step P (show 19 < 27 by decide)
  have h20 := stm_step P (show 20 < 27 by decide)
  have h21 := stm_step P (show 21 < 27 by decide)
  have h22 := stm_step P (show 22 < 27 by decide)
  have h23 := stm_step P (show 23 < 27 by decide)
  have h24 := stm_step P (show 24 < 27 by decide)
  have h25 := stm_step P (show 25 < 27 by decide)
  have h26 := stm_step P (show 26 < 27 by decide)
  have h27 : (lawBody P).drop 27 = [] := List.drop_eq_nil_of_le (by rw [law_len P]; exact Nat.le_refl _)
  simp only [Nat.reduceAdd] at h8 h9 h10 h11 h12 h13 h14 h15 h16 h17 h18 h19 h20 h21 h22 h23 h24 h25 h26
  rw [h8, h9, h10, h11, h12, h13, h14, h15, h16, h17, h18, h19, h20, h21, h22, h23, h24, h25, h26, h27]
section
variable {w : World} {g : Heap} {s0 s : Shared} {L : Addr} {e b z far : Int} {sp : Addr} {G C : Fa} {rl pl : Addr} {m : Str → Option Value} {script : Addr} {ns : List Int}
theorem c_law3 (I : LawIn w g s0 script ns) {R : Result → Shared → Prop} {Wf r0 f0 : Fa} (T : T0 w g s0 L e b z far sp G [(f0, 0, 0)] 0 (Wf, 0, 0) C (List.replicate b.toNat 0) 0 [(r0, 0, 0)] rl pl [] [] m s) (K : Ks m e sp rl) (hsc : m (Str.ofString "script") = some (.ref script)) (hfar : ∃ q, far = b * q)
    (hR : ∀ s', s'.os = s0.os → AllBare s'.gens → (∀ b o, (gz g s0.heap).get? b = some o → s'.heap.get? b = some o) → (∀ P ∈ [571, 419, 515], ∃ ps, s'.heap.get? P = some (PySem.W.tabObj ps)) → R (.ok (.ret (.bool true))) s') :
    Stp (wpAny (MM w) ((aM 10 10).deeper (lawEnv w.params L)) (execs ((lawBody w.params).drop 8) (lawEnv w.params L)) (lawPost R) NoE s) := by
  refine ⟨?_⟩
  have hS := T.X.hS
  rw [law_list]
  generalize k8 : lawStm w.params 8 = st8
  generalize k9 : lawStm w.params 9 = st9
  generalize k10 : lawStm w.params 10 = st10
  generalize k11 : lawStm w.params 11 = st11
  generalize k12 : lawStm w.params 12 = st12
  generalize k13 : lawStm w.params 13 = st13
  generalize k14 : lawStm w.params 14 = st14
  generalize k15 : lawStm w.params 15 = st15
  generalize k16 : lawStm w.params 16 = st16
  generalize k17 : lawStm w.params 17 = st17
  generalize k18 : lawStm w.params 18 = st18
  generalize k19 : lawStm w.params 19 = st19
  generalize k20 : lawStm w.params 20 = st20
  generalize k21 : lawStm w.params 21 = st21
  generalize k22 : lawStm w.params 22 = st22
  generalize k23 : lawStm w.params 23 = st23
  generalize k24 : lawStm w.params 24 = st24
  generalize k25 : lawStm w.params 25 = st25
  generalize k26 : lawStm w.params 26 = st26
  refine wpAny_execs_cons (wpAny_mono (s_for I T K hsc hfar k8) ?_ fun _ _ e => e)
  rintro fl s1 ⟨⟨rfl, ⟨gs, M, kw, cs, rs, put, m1, T1, hgr, PP, hp8, K1⟩⟩⟩
  have Gd : Good b z far (rs.map (·.2.1)) M cs put := by have := PP.good; rw [List.map_map] at this; exact this
  have hl3 : rs.length ≤ 3 := by have := PP.len; rw [List.length_map] at this; exact this
  have hgl : gs.length = rs.length := by have := congrArg List.length hgr; simpa using this
  have hne : rs ≠ [] := fun h => PP.ne (by rw [h]; rfl)
  obtain ⟨ql, hq⟩ := List.exists_mem_of_ne_nil rs hne
  have hgne : gs ≠ [] := fun h => hne (List.eq_nil_of_length_eq_zero (by rw [← hgl, h]; rfl))
  have hml : (rs.map (·.2.1)).length = rs.length := List.length_map _
  have hmne : rs.map (·.2.1) ≠ [] := fun h => hne (List.map_eq_nil_iff.mp h)
  have hml3 : (rs.map (·.2.1)).length ≤ 3 := by rw [hml]; exact hl3
  have hpos : 0 < rs.length := List.length_pos_of_mem hq
  have h2p : 2 ^ 1 ≤ 2 ^ rs.length := Nat.pow_le_pow_right (by decide) hpos
  have U := T1.us
  refine wpAny_execs_cons (wpAny_mono (u_9 I U hq K1.rl hgl hl3 rfl hp8 k9) ?_ fun _ _ e => e)
  rintro fl s2 ⟨⟨rfl, U⟩⟩
  refine wpAny_execs_cons (wpAny_mono (u_10 I U hq k10) ?_ fun _ _ e => e)
  rintro fl s3 ⟨⟨rfl, wl, wv, hwv, U⟩⟩
  refine wpAny_execs_cons (wpAny_mono (u_11 I U hq k11) ?_ fun _ _ e => e)
  rintro fl s4 ⟨⟨rfl, t1, t2, U⟩⟩
  refine wpAny_execs_cons (wpAny_mono (u_12 I U hq hl3 Gd.hm ((if_neg (by decide)).trans ((if_neg (by decide)).trans K1.rl)) (if_pos rfl) ((if_neg (by decide)).trans (if_pos rfl)) k12) ?_ fun _ _ e => e)
  rintro fl s5 ⟨⟨rfl, ⟨m5, f, mm, j, t, ul, nf, lt, tt, U, hlit, htot, hrow, hmm⟩⟩⟩
  have hmm := hmm (by omega)
  rw [← hml] at hmm
  have hmk : Mk b.toNat mm := by
    rw [hmm]
    exact metM_mk Gd.hm (by rw [hml]; omega) (by rw [hml]; omega)
  refine wpAny_execs_cons (wpAny_mono (u_13 I U hq hl3 hrow (.head _) (List.mem_append_right _ (.head _)) hwv k13) ?_ fun _ _ e => e)
  rintro fl s6 ⟨⟨rfl, sl, ss, hss, U⟩⟩
  obtain ⟨cv, hcv⟩ : ∃ cv, setc 11 (.ref sl) [(8, .ref wl), (9, .ref f.x)] = cv := ⟨_, rfl⟩
  obtain ⟨xs, hxs⟩ : ∃ xs, ((sl, lst (ss.map fun q => Value.ref q.1)) :: ss ++ (bfX w e b z sp f mm j t ul nf ++ [(wl, lst wv)])) = xs := ⟨_, rfl⟩
  have c11 : (11, Value.ref sl) ∈ cv := by rw [← hcv]; exact .head _
  have c8 : (8, Value.ref wl) ∈ cv := by rw [← hcv]; exact .tail _ (.head _)
  have c9 : (9, Value.ref f.x) ∈ cv := by rw [← hcv]; exact .tail _ (.tail _ (.head _))
  have x1 : (sl, lst (ss.map fun q => Value.ref q.1)) ∈ xs := by rw [← hxs]; exact .head _
  have x2 : ∀ q ∈ ss, q ∈ xs := fun q h => by rw [← hxs]; exact List.mem_append_left _ (.tail _ h)
  have x3 : ∀ q ∈ bfX w e b z sp f mm j t ul nf, q ∈ xs := fun q h => by rw [← hxs]; exact List.mem_append_right _ (List.mem_append_left _ h)
  have x4 : (wl, lst wv) ∈ xs := by rw [← hxs]; exact List.mem_append_right _ (List.mem_append_right _ (.head _))
  rw [hcv, hxs] at U
  refine wpAny_execs_cons (wpAny_mono (u_14 I U hq c8 x4 hwv x3 c9 k14) ?_ fun _ _ e => e)
  rintro fl s7 ⟨⟨rfl, D1, y1, hy1, U⟩⟩
  refine wpAny_execs_cons (wpAny_mono (u_15 I U hq hgne c8 (.tail _ x4) hwv k15) ?_ fun _ _ e => e)
  rintro fl s8 ⟨⟨rfl, D2, y2, hy2, U⟩⟩
  refine wpAny_execs_cons (wpAny_mono (u_16 I U hq c8 (.tail _ (.tail _ x4)) hwv k16) ?_ fun _ _ e => e)
  rintro fl s9 ⟨⟨rfl, D3, y3, hy3, U⟩⟩
  have hnd := words_nodup hS
  have hw25 : (wordsOf b z).length ≤ 25 := by rw [wordsOf, List.length_map, List.length_range]; exact (sz_pow hS).2.1
  have hf25 : ∀ P : Str → Bool, ((wordsOf b z).filter P).length < 1000 := fun P => Nat.lt_of_le_of_lt (List.length_filter_le _ _) (by omega)
  refine wpAny_execs_cons (wpAny_mono (u_17 I U hq (if_pos rfl) (.head _) hy3 (hnd.filter _) (hf25 _) k17) ?_ fun _ _ e => e)
  rintro fl s10 ⟨⟨rfl, ka, ok, hok, U⟩⟩
  obtain ⟨cw, hcw⟩ : ∃ cw, setc 12 (.ref ka) cv = cw := ⟨_, rfl⟩
  have d12 : (12, Value.ref ka) ∈ cw := by rw [← hcw]; exact .head _
  have dd : ∀ (j : Nat) (v : Value), (j, v) ∈ cv → j ≠ 12 → (j, v) ∈ cw := fun j v h n => by rw [← hcw]; exact .tail _ (List.mem_filter.mpr ⟨h, by simpa using n⟩)
  rw [hcw] at U
  have mks : ∀ q ∈ rs, Mk b.toNat q.2.1 := fun q hq => Gd.hm _ (List.mem_map_of_mem hq)
  refine wpAny_execs_cons (wpAny_mono (u_18 I U hq hl3 (fun q h => .tail _ (.tail _ (.tail _ (.tail _ (x3 q h))))) (dd _ _ c9 (by decide)) (dd _ _ c11 (by decide)) (.tail _ (.tail _ (.tail _ (.tail _ x1)))) (fun q h => .tail _ (.tail _ (.tail _ (.tail _ (x2 q h)))))
    (.tail _ (.tail _ (.tail _ (.head _)))) (.tail _ (.head _)) ((if_neg (by decide)).trans ((if_neg (by decide)).trans ((if_neg (by decide)).trans hrow))) ((if_neg (by decide)).trans ((if_neg (by decide)).trans (if_pos rfl))) (if_pos rfl)
    (fun q h => (mks q h).small hS) (hmk.small hS) (Gd.hM.small hS) hss (fun q h => yes_count hS hfar (mks q h)) (by rw [hy1.length, yes_count hS hfar hmk]) (by rw [hy3.length, yes_count hS hfar Gd.hM]) (by rw [hy1.length]; exact hf25 _) (by rw [hy3.length]; exact hf25 _) k18) ?_ fun _ _ e => e)
  rintro fl s11 ⟨⟨rfl, m11, hm11, U⟩⟩
  have n1 : m11 (Str.ofString "common") = some (.ref D1) := (hm11 _ (by decide) (by decide)).trans ((if_neg (by decide)).trans ((if_neg (by decide)).trans (if_pos rfl)))
  have n2 : m11 (Str.ofString "some") = some (.ref D2) := (hm11 _ (by decide) (by decide)).trans ((if_neg (by decide)).trans (if_pos rfl))
  have n3 : m11 (Str.ofString "every") = some (.ref D3) := (hm11 _ (by decide) (by decide)).trans (if_pos rfl)
  have n4 : m11 (Str.ofString "lit") = some (.int _ lt) := (hm11 _ (by decide) (by decide)).trans ((if_neg (by decide)).trans ((if_neg (by decide)).trans ((if_neg (by decide)).trans hlit)))
  have n5 : m11 (Str.ofString "total") = some (.int _ tt) := (hm11 _ (by decide) (by decide)).trans ((if_neg (by decide)).trans ((if_neg (by decide)).trans ((if_neg (by decide)).trans htot)))
  have q1 : StrsAre y1 ((wordsOf b z).filter fun y => rs.all fun q => yes b far z q.2.1 y) := by
    have : (fun y => rs.all fun q => yes b far z q.2.1 y) = yes b far z mm := by
      funext y
      rw [hmm, all_eq Gd hmne hml3, List.all_map]; rfl
    rw [this]; exact hy1
  have ga : ∀ y, (gs.any fun q => yes b far z q.2.1 y) = rs.any fun q => yes b far z q.2.1 y := fun y => by
    have h1 : ∀ l : List B3, (l.any fun q => yes b far z q.2.1 y) = (l.map (·.2)).any fun p => yes b far z p.1 y := fun l => by rw [List.any_map]; rfl
    rw [h1, h1, hgr]
  have q2 : StrsAre y2 ((wordsOf b z).filter fun y => rs.any fun q => yes b far z q.2.1 y) := by
    simp only [ga] at hy2; exact hy2
  have am : ∀ y, (rs.any fun q => yes b far z q.2.1 y) = (rs.map (·.2.1)).any fun m => yes b far z m y := fun y => by rw [List.any_map]; rfl
  refine wpAny_execs_cons (wpAny_mono (u_19 I U hq hl3 (dd _ _ c8 (by decide)) (.tail _ (.tail _ (.tail _ (.tail _ x4)))) hwv (dd _ _ c11 (by decide)) (.tail _ (.tail _ (.tail _ (.tail _ x1)))) (fun q h => .tail _ (.tail _ (.tail _ (.tail _ (x2 q h))))) hss (.tail _ (.tail _ (.tail _ (.head _)))) n1 q1 k19) ?_ fun _ _ e => e)
  rintro fl s12 ⟨⟨rfl, U⟩⟩
  refine wpAny_execs_cons (wpAny_mono (u_20 I U hq hl3 (dd _ _ c8 (by decide)) (.tail _ (.tail _ (.tail _ (.tail _ x4)))) hwv (dd _ _ c11 (by decide)) (.tail _ (.tail _ (.tail _ (.tail _ x1)))) (fun q h => .tail _ (.tail _ (.tail _ (.tail _ (x2 q h))))) hss (.tail _ (.tail _ (.head _))) n2 q2 k20) ?_ fun _ _ e => e)
  rintro fl s13 ⟨⟨rfl, U⟩⟩
  have hsub : ∀ y ∈ (wordsOf b z).filter (fun y => rs.any fun q => yes b far z q.2.1 y), y ∈ (wordsOf b z).filter (yes b far z M) := fun y hy => by
    obtain ⟨h1, h2⟩ := List.mem_filter.mp hy
    exact List.mem_filter.mpr ⟨h1, any_every Gd (by rw [← am]; exact h2)⟩
  have etot : ((((wordsOf b z).filter fun y => rs.any fun q => yes b far z q.2.1 y).length : Nat) : Int) = totS z (rs.map (·.2.1)) (2 ^ rs.length - 1) := by
    have := tot_eq hS hfar Gd hmne hml3
    rw [hml] at this
    rw [this]
    simp only [am]
  have elit : (pop M : Int) = litS (rs.map (·.2.1)) (2 ^ rs.length - 1) := by
    have := lit_eq hS Gd hmne hml3
    rw [hml] at this
    exact this.symm
  refine wpAny_execs_cons (wpAny_mono (u_21 I U hq (Gd.hM.small hS) n2 n5 n4 (.tail _ (.tail _ (.head _))) q2 (hf25 _) d12 (.head _) hok (hf25 _) hsub etot elit k21) ?_ fun _ _ e => e)
  rintro fl s14 ⟨⟨rfl, U⟩⟩
  refine wpAny_execs_cons (wpAny_mono (u_22 I U hq (dd _ _ c8 (by decide)) (.tail _ (.tail _ (.tail _ (.tail _ x4)))) hwv k22) ?_ fun _ _ e => e)
  rintro fl s15 ⟨⟨rfl, D4, y4, hy4, U⟩⟩
  refine wpAny_execs_cons (wpAny_mono (u_23 I U hq (cs_sum hS hfar Gd) (by omega) k23) ?_ fun _ _ e => e)
  rintro fl s16 ⟨⟨rfl, U⟩⟩
  have U := U.sub (xs' := [(D4, lst y4), (D3, lst y3), (wl, lst wv)]) (cv' := [(8, .ref wl)]) (fun q h => by
    simp only [List.mem_cons, List.not_mem_nil, or_false] at h
    rcases h with h | h | h <;> subst h
    · exact .head _
    · exact .tail _ (.tail _ (.head _))
    · exact .tail _ (.tail _ (.tail _ (.tail _ (.tail _ x4))))) fun q h => by rw [List.mem_singleton.mp h]; exact dd _ _ c8 (by decide)
  refine wpAny_execs_cons (wpAny_mono (u_24 I U hq (if_pos rfl) (.head _) hy4 (by rw [List.length_map]; exact hw25) (fun q h => by rw [List.mem_singleton.mp h]; show (8 : Nat) ≠ 13; decide) (fun q h => by
    simp only [List.mem_cons, List.not_mem_nil, or_false] at h
    rcases h with h | h | h <;> subst h <;> exact nit_list) (told_count hS hfar Gd.len) k24) ?_ fun _ _ e => e)
  rintro fl s17 ⟨⟨rfl, U⟩⟩
  refine wpAny_execs_cons (wpAny_mono (u_25 I U hq (.head _) (.tail _ (.tail _ (.head _))) hwv (if_pos rfl) ((if_neg (by decide)).trans n3) (.head _) (.tail _ (.head _)) hy4 hy3 (told_pos hS hfar Gd) k25) ?_ fun _ _ e => e)
  rintro fl s18 ⟨⟨rfl, U⟩⟩
  refine wpAny_execs_cons (wpAny_mono (u_26 I U hq (.head _) (.tail _ (.tail _ (.head _))) hwv (if_pos rfl) (.head _) hy4 (told_enough hS hfar Gd) k26) ?_ fun _ _ e => e)
  rintro fl s19 ⟨⟨rfl, U⟩⟩
  refine hR s19 U.os U.bare U.F.keep fun P hP => ?_
  simp only [List.mem_cons, List.not_mem_nil, or_false] at hP
  rcases hP with rfl | rfl | rfl
  · obtain ⟨ps, o⟩ := U.X.t1; exact ⟨ps, o.at_⟩
  · obtain ⟨ps, _, o⟩ := U.X.t2; exact ⟨ps, o.at_⟩
  · obtain ⟨ps, _, o⟩ := U.X.t3; exact ⟨ps, o.at_⟩
end
end
example : True ∧ True := by walk1 <;> trivial
section
local macro_rules | `(tactic| walk_at "m:flush") => `(tactic| trivial)
example : True ∧ True := by walk1 <;> trivial
end
section
section
theorem c_law {w : World} {g : Heap} {A : Around} {s : Shared} {R : Result → Shared → Prop} {script : Addr} {ns : List Int} (I : LawIn w g s script ns) (r : Rm A 10 10)
    (hR : ∀ s', s'.os = s.os → AllBare s'.gens → (∀ b o, (gz g s.heap).get? b = some o → s'.heap.get? b = some o) → (∀ P ∈ [571, 419, 515], ∃ ps, s'.heap.get? P = some (PySem.W.tabObj ps)) → R (.ok (.ret (.bool true))) s') :
    codeAny (MM w) A (.call (.ref 598) ⟨[.ref script], []⟩) R s := by
  refine c_law1 I r ?_
  intro L hd th e b z te tb tz m' o1 o2 o3 o4 o5 o6 o7 o8 o9 o10 o11 o12 o13 h' tk' l2 hS b1 b2 b3 c13 c12 d1 d2 d3 d4 d5 d6 d7 d8 d9 d10 d11 F N
  refine c_law2 I l2 hS b1 b2 b3 c13 c12 d1 d2 d3 d4 d5 d6 d7 d8 d9 d10 d11 F N ?_
  intro sp G f W C r0 rl pl m2 s' X e1 e2 e3 e4 F2 k2 os2 g2
  exact c_law3 I (T := ⟨X, F2, os2, g2 I.bare⟩) (K := ⟨⟨_, e2⟩, e3, e4⟩) e1 ⟨_, rfl⟩ hR
abbrev tabs3 : List (Addr × Addr) := [(575, 571), (423, 419), (519, 515)]
theorem tabs_at {P : Params} {h : Heap} (X : (frag.heap_1 P).In h) (hT : ∀ Q ∈ [571, 419, 515], h.get? Q = some (tabObj #[])) : TabsAt tabs3 h := fun q hq => by
  simp only [List.mem_cons, List.not_mem_nil, or_false] at hq
  rcases hq with rfl | rfl | rfl
  · exact ⟨codeHd_of_K (c := 575) (P := 571) X (by kernel_rfl), hT _ (.head _)⟩
  · exact ⟨codeHd_of_K (c := 423) (P := 419) X (by kernel_rfl), hT _ (.tail _ (.head _))⟩
  · exact ⟨codeHd_of_K (c := 519) (P := 515) X (by kernel_rfl), hT _ (.tail _ (.tail _ (.head _)))⟩
theorem law_in {w : World} {s : Shared} {p : Program} {loose : List Str} {mean : ExcName → Option Value} {mg mb : Str → Option Value} {script : Addr} {vs : List Value} {ns : List Int} (X : (frag.heap_1 w.params).In s.heap) (hT : ∀ Q ∈ [571, 419, 515], s.heap.get? Q = some (tabObj #[])) (T : Top p loose mean mg mb s.heap)
    (hg : s.gens = #[]) (hl : s.heap.IsList script vs.toArray) (hi : IntsAre vs ns) (hn : ns.length ≤ 63) : LawIn w (ghostOf s.heap tabs3) s script ns := by
  have hT9 := tabs_at X hT
  have C := ghost_code hT9
  have own : ∀ q ∈ tabs3, Own (ghostOf s.heap tabs3) s.heap q.2 (tabObj #[]) := fun q hq => ⟨(hT9 q hq).2, hideAll_none _ (List.mem_map_of_mem hq)⟩
  refine ⟨⟨ghost_K hT9 X (by kernel_rfl), ⟨_, _, _, _, ghost_top hT9 T⟩⟩, fun b o e => of_hideAll _ e, C.1, C.2.1, C.2.2.1, own _ (.head _), own _ (.tail _ (.head _)), own _ (.tail _ (.tail _ (.head _))), ⟨vs, ghost_list hT9 hl, hi⟩, hn, by rw [hg]; exact AllBare.of_eq rfl, fun b o e => ?_⟩
  by_cases hb : b ∈ tabs3.map (·.2)
  · exact .inr hb
  · exact .inl (ghost_ne e hb)
theorem law_good {w : World} {s : Shared} {p : Program} {loose : List Str} {mean mean' : ExcName → Option Value} {cl : Str → Option Addr} {mg mb : Str → Option Value} {script : Addr} {vs : List Value} {ns : List Int} {args : List WData} (X : (frag.heap_1 w.params).In s.heap) (hT : ∀ Q ∈ [571, 419, 515], s.heap.get? Q = some (tabObj #[])) (T : Top p loose mean mg mb s.heap)
    (hg : s.gens = #[]) (hl : s.heap.IsList script vs.toArray) (hi : IntsAre vs ns) (hn : ns.length ≤ 63) (hpost : PySem.Challenge.rw_vo0021_01.row.claim.post args (.bool true) args = true) :
    codeAny (MM w) callerA (.call (.ref 598) ⟨[.ref script], []⟩) (GoodWG PySem.Challenge.rw_vo0021_01.row.claim cl mean' args s) s := by
  have hT9 := tabs_at X hT
  refine c_law (law_in X hT T hg hl hi hn) ⟨rfl, by decide, by decide⟩ fun s' hos hgn hk ht => ⟨.inl ⟨_, .bool true, [], rfl, fun _ => rfl, .bool _, hpost, fun _ => ⟨List.nodup_nil, fun _ h => absurd h List.not_mem_nil⟩⟩, ⟨fun b o e => ?_, fun b o e => ?_⟩, hos, hgn⟩
  · by_cases hb : b ∈ tabs3.map (·.2)
    · obtain ⟨q, hq, rfl⟩ := List.mem_map.mp hb
      have e2 := (hT9 q hq).2
      rw [e] at e2
      cases e2
      obtain ⟨ps, hp⟩ := ht q.2 hb
      exact .inr (.inl ⟨((hT9 q hq).1.tab (hT9 q hq).2).isCodeTable, rfl, #[], ps, rfl, by rw [Array.empty_append]; exact hp⟩)
    · exact .inl (hk b o (gz_some (fun b o e => of_hideAll _ e) b o (ghost_ne e hb)))
  · by_cases hb : b ∈ tabs3.map (·.2)
    · obtain ⟨ps, hp⟩ := ht b hb
      exact ⟨_, hp⟩
    · exact ⟨o, hk b o (gz_some (fun b o e => of_hideAll _ e) b o (ghost_ne e hb))⟩
end
end
end Mine
namespace Mine
section
set_option maxHeartbeats 0
local macro_rules | `(tactic| k_head) => `(tactic| o_head (kmHook frag.heap_1 [2, 3, 15, 17, 18, 20, 21, 22, 25, 30, 31, 33, 34, 36, 37, 38, 40, 41, 43, 44, 45, 46, 47, 48, 51, 54, 59, 60, 62, 63, 65, 66, 67, 68, 69, 72, 75, 80, 81, 83, 84, 86, 87, 88, 89, 90, 93, 94, 96, 97, 99, 100, 101, 102, 104, 105, 107, 108, 109, 111, 112, 114, 115, 116, 118, 119, 121, 122, 130, 131, 133, 134, 136, 137, 138, 140, 141, 143, 144, 145, 147, 148, 150, 151, 152, 154, 155, 157, 158, 159, 160, 162, 163, 165, 166, 167, 168, 170, 171, 173, 174, 175, 176, 178, 179, 181, 182, 183, 184, 186, 187, 189, 190, 193, 195, 196, 198, 199, 200, 201, 203, 204, 206, 207, 208, 209, 211, 212, 214, 215, 216, 217, 219, 220, 222, 223, 224, 225, 227, 228, 230, 231, 232, 233, 235, 236, 238, 239, 240, 241, 243, 244, 246, 247, 248, 250, 251, 253, 254, 255, 257, 258, 260, 261, 262, 264, 265, 267, 268, 269, 271, 272, 274, 275, 276, 278, 279, 281, 282, 283, 285, 286, 288, 289, 290, 292, 293, 295, 296, 297, 299, 300, 302, 303, 304, 305, 306, 307, 309, 310, 312, 313, 314, 316, 317, 319, 320, 321, 323, 324, 326, 327, 328, 330, 331, 333, 334, 335, 336, 337, 338, 339, 349, 350, 352, 353, 355, 356, 357, 359, 360, 362, 363, 364, 366, 367, 369, 370, 371, 372, 374, 375, 377, 378, 379, 380, 382, 383, 385, 386, 387, 388, 390, 391, 393, 394, 395, 396, 398, 399, 401, 402, 403, 404, 406, 407, 409, 410, 411, 413, 414, 416, 417, 418, 420, 421, 423, 424, 425, 426, 428, 429, 431, 432, 433, 434, 436, 437, 439, 440, 441, 443, 444, 446, 447, 448, 450, 451, 453, 454, 455, 456, 457, 458, 459, 462, 464, 465, 467, 468, 469, 472, 477, 478, 479, 481, 482, 484, 485, 486, 488, 489, 491, 492, 493, 494, 496, 497, 499, 500, 501, 502, 505, 506, 507, 509, 510, 512, 513, 514, 516, 517, 519, 520, 521, 522, 524, 525, 527, 528, 529, 530, 532, 533, 535, 536, 537, 539, 540, 542, 543, 544, 546, 547, 549, 550, 551, 553, 554, 556, 557, 558, 559, 560, 563, 565, 566, 568, 569, 570, 572, 573, 575, 576, 577, 580, 581, 582, 585, 586, 587, 589, 590, 592, 593, 594, 597, 598] (fun _ => by kernel_rfl) [571, 419, 515]))
open_top hd for PySem.Challenge.rw_vo0021_01
end
end Mine
open PySem PySem.W PyProof.Rows in
set_option maxHeartbeats 0 in
theorem PySem.Challenge.cw_vo0021_01_holds : PySem.Challenge.rw_vo0021_01.Holds :=
  Mine.hd (by
    intro w s₀ s₁ mg mb G Y fa o pm cd doc dV kV ho hd hcd hD hmg hg args vals as hpre hlay hrd hwl hlo
    have KX := km_in_of Y
    have hT8 := km_tabs_of Y
    clear Y
    refine Ground.open G ?_
    intro T B D TE TW
    have e1 : mg (Str.ofString "law") = some (.ref 598) := mg_of KX T.g (by kernel_rfl)
    have e2 : fa = 598 := by
      have h : some (Value.ref fa) = some (Value.ref 598) := Eq.trans (Eq.symm hmg) e1
      injection h with h
      injection h
    clear ho hd hcd hD hmg G B D TE TW
    subst e2
    wrow_args hpre hlay hrd hwl hlo
    refine enter_call (Mine.law_good KX hT8 T hg (by assumption) (by assumption) (by omega) ?_)
    wrow_post)

