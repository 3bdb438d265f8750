import PyProof.Rows.All
import Wide.All
import OpenK.AllK
import Wide.FinOn
import PySem.Challenge.RW_wo0050_01
open PySem PySem.W PySem.Calls PyProof.Rows
set_option Elab.async false
set_option maxRecDepth 100000
set_option linter.all false

namespace Wo
section
local macro_rules | `(tactic| o_head $_) => `(tactic| contradiction)
theorem ws : OpenLaw.wellSaid PySem.Challenge.rw_wo0050_01 = true := by kernel_rfl
set_option maxHeartbeats 8000000 in
theorem hd (h : False) : PySem.Challenge.rw_wo0050_01.Holds := by
  refine holds_law ws fun said => ?_
  km_head
end
end Wo

namespace Wo

abbrev pw : Program := PySem.Challenge.pw_wo0050_01
noncomputable abbrev KK (w : World) : Frag := Wo.hd.heap_1 w.params

noncomputable def Kp (h h' : Heap) : Prop := ∀ b o, h.get? b = some o → h'.get? b = some o
theorem Kp.rfl {h : Heap} : Kp h h := fun _ _ e => e
theorem Kp.trans {a b c : Heap} (x : Kp a b) (y : Kp b c) : Kp a c := fun d o e => y d o (x d o e)

structure Bs (w : World) (mg mb : Str → Option Value) (h : Heap) : Prop where
  K : (KK w).In h
  g : h.Ns mainGlobals mg
  b : h.Ns builtinsNs mb
  bi : ∀ x : Str, x ≠ "__name__" → mb x = bootBuiltins x
  nl : h.NoLimit
  bm : ∃ bm ob, mg "__builtins__" = some (.ref bm) ∧ bm ≠ builtinsNs ∧ h.get? bm = some ob ∧ ob.cls = .type "module" ∧ ob.dict = some builtinsNs ∧ ob.data = .plain
theorem Bs.keeps {w : World} {mg mb : Str → Option Value} {h h' : Heap} (B : Bs w mg mb h) (k : Kp h h') : Bs w mg mb h' :=
  ⟨fun a o e => k _ _ (B.K a o e), B.g.keeps k, B.b.keeps k, B.bi, B.nl.keeps k, let ⟨bm, ob, h1, h2, h3, r⟩ := B.bm; ⟨bm, ob, h1, h2, k _ _ h3, r⟩⟩

structure Rm (A : Around) (n : Nat) : Prop where
  h : A.handled = none
  d : A.depth + n < 900
  u : A.units + 12 * n < 9000
theorem Rm.deeper {A : Around} {n : Nat} (R : Rm A (n + 1)) (env : Env) : Rm (A.deeper env) n :=
  ⟨R.h, by have := R.d; show A.depth + 1 + n < 900; omega, by have := R.u; show A.units + 3 + 12 * n < 9000; omega⟩
theorem Rm.le {A : Around} {n k : Nat} (R : Rm A n) (h : k ≤ n := by omega) : Rm A k := ⟨R.h, by have := R.d; omega, by have := R.u; omega⟩
theorem Rm.room {A : Around} {n : Nat} (R : Rm A n) : A.depth < recursionLimit := by have := R.d; unfold recursionLimit; omega

section
variable {w : World} {A : Around} {E : Value → Shared → Prop} {s : Shared} {mg mb : Str → Option Value} {env : Env}

theorem mgAt {h : Heap} (B : Bs w mg mb h) {x : Str} {v : Value} (e : nsIn (KK w) mainGlobals x = some (some v)) : mg x = some v := mg_of B.K B.g e
theorem mgNo {h : Heap} (B : Bs w mg mb h) {x : Str} (e : nsIn (KK w) mainGlobals x = some none) : mg x = none := mg_none_of B.K B.g e

theorem nmL {p : Heap} {L : Addr} {x : Str} {pos : Pos} {m : Str → Option Value} {v : Value} {Q : Value → Shared → Prop} (F : Fr p L s.heap m) (hL : env.locals = L) (hv : m x = some v) (h : Q v s)
    (hk : env.scope.kind = .function) (hl : env.kindOf x = some .local) (hd : (x == ("__debug__" : Str)) = false) : wpAny (model pw w) A (eval (.Name x pos) env) Q E s :=
  wpAny_Name (wpAny_loadName_local hk hl (hL ▸ F.ns) hv h) hd
theorem nmG {h : Heap} {x : Str} {pos : Pos} {v : Value} {Q : Value → Shared → Prop} (B : Bs w mg mb h) (k : Kp h s.heap) (e : nsIn (KK w) mainGlobals x = some (some v)) (hq : Q v s)
    (hg : env.globals = mainGlobals) (hk : env.scope.kind = .function) (hl : env.kindOf x = some .globalImplicit) (hd : (x == ("__debug__" : Str)) = false) : wpAny (model pw w) A (eval (.Name x pos) env) Q E s :=
  Name_function_global hk hl (loadGlobal_global (by rw [hg]; exact B.g.keeps k) (mgAt B e) hq) hd
theorem nmB {h : Heap} {x : Str} {pos : Pos} {v : Value} {Q : Value → Shared → Prop} (B : Bs w mg mb h) (k : Kp h s.heap) (e : nsIn (KK w) mainGlobals x = some none) (hv : bootBuiltins x = some v) (hn : x ≠ "__name__") (hq : Q v s)
    (hg : env.globals = mainGlobals) (hb : env.builtins = builtinsNs) (hk : env.scope.kind = .function) (hl : env.kindOf x = some .globalImplicit) (hd : (x == ("__debug__" : Str)) = false) : wpAny (model pw w) A (eval (.Name x pos) env) Q E s :=
  Name_function_global hk hl (loadGlobal_builtin (by rw [hg]; exact B.g.keeps k) (mgNo B e) (by rw [hb]; exact B.b.keeps k) ((B.bi _ hn).trans hv) hq) hd

theorem enterD {f c : Addr} {name qual : Str} {params : Arguments} {body : List Stmt} {scope : Scope} {cl : List (Str × Addr)} {dV kV doc pm ct oc : Value} {an od : Option Addr} {osl : Array (Option Value)} {pos : List Value} {kw : List (Str × Value)} {binds : List (Str × Value)} {n : Nat} {Q : Value → Shared → Prop}
    (R : Rm A (n + 1)) (B : Bs w mg mb s.heap)
    (hf : s.heap.get? f = some ⟨oc, od, .func (fnX name qual params body scope cl dV kV doc pm an (.ref c) ct), osl⟩) (hc : s.heap.CodeRec (.ref c) qual)
    (hb : BindsTo s (fnX name qual params body scope cl dV kV doc pm an (.ref c) ct) ⟨pos, kw⟩ binds)
    (hcell : ∀ x ∈ scope.names, x.2 ≠ .cell) (hloc : ∀ x ∈ binds, scope.names.lookup x.1 = some .local)
    (hco : scope.isCoroutine = false) (hgen : scope.isGenerator = false) (hk : scope.kind = .function)
    (h : ∀ (L : Addr) (h₁ : Heap) (A' : Around) (tk : Nat), L = s.heap.objs.size → Rm A' n → A' = A.deeper (envX qual scope L f (.ref c) cl) → Fr s.heap L h₁ (fun x => binds.reverse.lookup x) →
      wpAny (model pw w) A' (execs body (envX qual scope L f (.ref c) cl)) (fun fl s' => Q (match fl with | .ret v => v | _ => .none) s') (fun _ _ => False) { s with heap := h₁, toks := tk }) :
    wpAny (model pw w) A (call (.ref f) pos kw) Q E s := by
  refine wpAny_call (codeAny_call_def (fd := fnX name qual params body scope cl dV kV doc pm an (.ref c) ct) (body := body) (binds := binds) R.room hf rfl B.nl hc rfl hb hcell hloc (fun h₁ hns hk₁ => ?_) hco hgen hk)
  exact wpAny_mono (h s.heap.objs.size h₁ _ _ rfl (R.deeper _) rfl ⟨hns, hk₁, Nat.le_refl _⟩) (fun fl s' hq => hq) fun _ _ x => x.elim
end

local macro_rules | `(tactic| walk_at "wo name") => `(tactic| first
  | (refine nmL (by assumption) rfl (by rfl) ?_ rfl (by rfl) (by decide +kernel))
  | (refine nmG (by assumption) (Fr.keep (by assumption)) (by kernel_rfl) ?_ rfl rfl (by rfl) (by decide +kernel))
  | (refine nmB (by assumption) (Fr.keep (by assumption)) (by kernel_rfl) (by rfl) (by decide +kernel) ?_ rfl rfl rfl (by rfl) (by decide +kernel)))

theorem ct_rank {w : World} {A : Around} {E : Value → Shared → Prop} {s : Shared} {mg mb : Str → Option Value} {x : Str} {t : Tok} {n : Nat} {Q : Value → Shared → Prop}
    (R : Rm A (n + 1)) (B : Bs w mg mb s.heap) (hx : x.length = 1)
    (h : ∀ h' tk t', Kp s.heap h' → Q (.int ((x.cps.getD 0 0 % 32 : Nat) : Int) t') { s with heap := h', toks := tk }) :
    wpAny (model pw w) A (call (.ref 181) [.str x t]) Q E s := by
  refine enterD R B (B.K 181 _ rfl) (codeRec_of B.K (by kernel_rfl)) (binds := [("sign", .str x t)]) (BindsTo.of_eq rfl) (by decide) (locs rfl) rfl rfl rfl ?_
  intro L h₁ A' tk hL R' hA' F
  refine wpAny_execs_cons ?_
  refine wpAny_Return_some ?_
  refine wpAny_BinOp ?_
  refine Call_ ?_
  walk_at "wo name"
  refine PyProof.Rows.callWith_builtin1 ?_
  refine args_cons ?_
  walk_at "wo name"
  refine args_nil ?_
  refine ord_of_one hx ?_
  refine wpAny_Constant_int ?_
  refine mod_int' (by decide) ?_
  dsimp only
  rw [show ((x.cps.getD 0 0 : Nat) : Int).fmod 32 = ((x.cps.getD 0 0 % 32 : Nat) : Int) from by rw [Int.fmod_eq_emod_of_nonneg _ (by decide)]; omega]
  exact h _ _ _ F.keep
end Wo

namespace Wo

abbrev Lg := List (Addr × Obj)
abbrev Lm := Str → Option Value
noncomputable def Lm.up (m : Lm) (x : Str) (v : Value) : Lm := fun y => if y = x then some v else m y

theorem mem1 {μ : Lg} {q : Addr × Obj} {a : Addr} (hq : q ∈ μ) (e : q.1 = a) : a ∈ μ.map (·.1) := e ▸ List.mem_map_of_mem (f := fun p : Addr × Obj => p.1) hq

structure Sm (p : Heap) (n : Nat) (L : Addr) (h : Heap) (m : Lm) (μ g : Lg) : Prop where
  F : Fr p L h m
  M : ∀ q ∈ μ, h.get? q.1 = some q.2 ∧ q.1 ≠ L ∧ p.get? q.1 = none
  D : (μ.map (·.1)).Nodup
  G : ∀ q ∈ g, h.get? q.1 = some q.2 ∧ n ≤ q.1 ∧ q.1 ≠ L ∧ ∀ r ∈ μ, r.1 ≠ q.1
  N : n ≤ L
section
variable {p h h' : Heap} {n : Nat} {L a : Addr} {m m' : Lm} {μ g ω : Lg} {o o' : Obj}
theorem Sm.init (F : Fr p L h m) : Sm p L L h m [] [] := ⟨F, fun _ q => (nomatch q), .nil, fun _ q => (nomatch q), Nat.le_refl _⟩
theorem Sm.keeps (S : Sm p n L h m μ g) (k : Kp h h') : Sm p n L h' m μ g :=
  ⟨S.F.keeps k, fun q hq => ⟨k _ _ (S.M q hq).1, (S.M q hq).2⟩, S.D, fun q hq => ⟨k _ _ (S.G q hq).1, (S.G q hq).2⟩, S.N⟩
theorem Sm.chg (S : Sm p n L h m ((a, o) :: μ) g) (hs : ∀ b x, b ≠ a → h.get? b = some x → h'.get? b = some x) (ha : h'.get? a = some o') : Sm p n L h' m ((a, o') :: μ) g := by
  have A := S.M (a, o) (.head _)
  obtain ⟨hn, hD⟩ := List.nodup_cons.mp S.D
  refine ⟨⟨S.F.ns.at' fun x e => hs _ x (fun q => A.2.1 q.symm) e, fun b x e => hs b x (fun q => ?_) (S.F.keep b x e), S.F.above⟩, fun q hq => ?_, S.D, fun q hq => ?_, S.N⟩
  · rw [q, A.2.2] at e; cases e
  · rcases List.mem_cons.mp hq with rfl | hq
    · exact ⟨ha, A.2⟩
    · exact ⟨hs _ _ (fun z => hn (mem1 hq z)) (S.M q (.tail _ hq)).1, (S.M q (.tail _ hq)).2⟩
  · have Z := S.G q hq
    exact ⟨hs _ _ (fun z => Z.2.2.2 _ (.head _) z.symm) Z.1, Z.2.1, Z.2.2.1, fun r hr => by
      rcases List.mem_cons.mp hr with rfl | hr
      · exact Z.2.2.2 (a, o) (.head _)
      · exact Z.2.2.2 r (.tail _ hr)⟩
theorem Sm.sto (S : Sm p n L h m μ g) (hs : Heap.SameBut L h h') (hn : h'.Ns L m') : Sm p n L h' m' μ g :=
  ⟨S.F.set hn hs, fun q hq => ⟨(hs.2 _ (S.M q hq).2.1).trans (S.M q hq).1, (S.M q hq).2⟩, S.D, fun q hq => ⟨(hs.2 _ (S.G q hq).2.2.1).trans (S.G q hq).1, (S.G q hq).2⟩, S.N⟩
theorem Sm.cut (S : Sm p n L h m ((a, o) :: μ) g) (hs : ∀ b x, b ≠ a → h.get? b = some x → h'.get? b = some x) : Sm p n L h' m μ g := by
  have A := S.M (a, o) (.head _)
  obtain ⟨hn, hD⟩ := List.nodup_cons.mp S.D
  refine ⟨⟨S.F.ns.at' fun x e => hs _ x (fun q => A.2.1 q.symm) e, fun b x e => hs b x (fun q => ?_) (S.F.keep b x e), S.F.above⟩, fun q hq => ?_, hD, fun q hq => ?_, S.N⟩
  · rw [q, A.2.2] at e; cases e
  · exact ⟨hs _ _ (fun z => hn (mem1 hq z)) (S.M q (.tail _ hq)).1, (S.M q (.tail _ hq)).2⟩
  · have Z := S.G q hq
    exact ⟨hs _ _ (fun z => Z.2.2.2 _ (.head _) z.symm) Z.1, Z.2.1, Z.2.2.1, fun r hr => Z.2.2.2 r (.tail _ hr)⟩
theorem Sm.cuts (S : Sm p n L h m (ω ++ μ) g) (hs : ∀ b x, b ∉ ω.map (·.1) → h.get? b = some x → h'.get? b = some x) : Sm p n L h' m μ g := by
  have A : ∀ q ∈ ω, q.1 ≠ L ∧ p.get? q.1 = none := fun q hq => (S.M q (List.mem_append_left _ hq)).2
  have D := S.D
  rw [List.map_append] at D
  obtain ⟨_, hD, hX⟩ := List.nodup_append.mp D
  have nL : L ∉ ω.map (·.1) := fun q => by obtain ⟨r, hr, e⟩ := List.mem_map.mp q; exact (A r hr).1 e
  refine ⟨⟨S.F.ns.at' fun x e => hs _ x nL e, fun b x e => hs b x (fun q => ?_) (S.F.keep b x e), S.F.above⟩, fun q hq => ?_, hD, fun q hq => ?_, S.N⟩
  · obtain ⟨r, hr, rfl⟩ := List.mem_map.mp q
    rw [(A r hr).2] at e; cases e
  · exact ⟨hs _ _ (fun z => hX _ z _ (mem1 hq rfl) rfl) (S.M q (List.mem_append_right _ hq)).1, (S.M q (List.mem_append_right _ hq)).2⟩
  · have Z := S.G q hq
    refine ⟨hs _ _ (fun z => ?_) Z.1, Z.2.1, Z.2.2.1, fun r hr => Z.2.2.2 r (List.mem_append_right _ hr)⟩
    obtain ⟨r, hr, e⟩ := List.mem_map.mp z
    exact Z.2.2.2 r (List.mem_append_left _ hr) e
theorem Sm.chgs {ω' : Lg} (S : Sm p n L h m (ω ++ μ) g) (he : ω'.map (·.1) = ω.map (·.1)) (hs : ∀ b x, b ∉ ω.map (·.1) → h.get? b = some x → h'.get? b = some x) (ha : ∀ q ∈ ω', h'.get? q.1 = some q.2) : Sm p n L h' m (ω' ++ μ) g := by
  have C := S.cuts hs
  have mm : ∀ q ∈ ω', ∃ r ∈ ω, r.1 = q.1 := fun q hq => by
    have : q.1 ∈ ω.map (·.1) := he ▸ mem1 hq rfl
    exact List.mem_map.mp this
  refine ⟨C.F, fun q hq => ?_, ?_, fun q hq => ⟨(C.G q hq).1, (C.G q hq).2.1, (C.G q hq).2.2.1, fun r hr => ?_⟩, S.N⟩
  · rcases List.mem_append.mp hq with hq | hq
    · obtain ⟨r, hr, e⟩ := mm q hq
      exact ⟨ha q hq, e ▸ (S.M r (List.mem_append_left _ hr)).2⟩
    · exact C.M q hq
  · have D := S.D
    rw [List.map_append] at D ⊢
    rw [he]; exact D
  · rcases List.mem_append.mp hr with hr | hr
    · obtain ⟨z, hz, e⟩ := mm r hr
      exact e ▸ (S.G q hq).2.2.2 z (List.mem_append_left _ hz)
    · exact (C.G q hq).2.2.2 r hr
theorem Sm.turn {σ σ' : Lg} (S : Sm p n L h m (ω ++ (σ ++ μ)) g) (he : σ'.map (·.1) = σ.map (·.1)) (hs : ∀ b x, b ∉ (ω ++ σ).map (·.1) → h.get? b = some x → h'.get? b = some x) (ha : ∀ q ∈ σ', h'.get? q.1 = some q.2) : Sm p n L h' m (σ' ++ μ) g := by
  rw [← List.append_assoc] at S
  have C := S.cuts hs
  have mm : ∀ q ∈ σ', ∃ r ∈ σ, r.1 = q.1 := fun q hq => by
    have : q.1 ∈ σ.map (·.1) := he ▸ mem1 hq rfl
    exact List.mem_map.mp this
  refine ⟨C.F, fun q hq => ?_, ?_, fun q hq => ⟨(C.G q hq).1, (C.G q hq).2.1, (C.G q hq).2.2.1, fun r hr => ?_⟩, S.N⟩
  · rcases List.mem_append.mp hq with hq | hq
    · obtain ⟨r, hr, e⟩ := mm q hq
      exact ⟨ha q hq, e ▸ (S.M r (List.mem_append_left _ (List.mem_append_right _ hr))).2⟩
    · exact C.M q hq
  · have D := S.D
    rw [List.append_assoc, List.map_append] at D
    have D2 := (List.nodup_append.mp D).2.1
    rw [List.map_append] at D2 ⊢
    rw [he]; exact D2
  · rcases List.mem_append.mp hr with hr | hr
    · obtain ⟨z, hz, e⟩ := mm r hr
      exact e ▸ (S.G q hq).2.2.2 z (List.mem_append_left _ (List.mem_append_right _ hz))
    · exact (C.G q hq).2.2.2 r hr
theorem Sm.addG {g' : Lg} (S : Sm p n L h m μ g) (hg : ∀ q ∈ g', h.get? q.1 = some q.2 ∧ n ≤ q.1 ∧ q.1 ≠ L ∧ ∀ r ∈ μ, r.1 ≠ q.1) : Sm p n L h m μ (g' ++ g) :=
  ⟨S.F, S.M, S.D, fun q hq => (List.mem_append.mp hq).elim (hg q) (S.G q), S.N⟩
theorem Sm.off {C : Addr} (S : Sm p n L h m μ g) (hs : ∀ b x, b ≠ C → h.get? b = some x → h'.get? b = some x) (h1 : L ≠ C) (h2 : p.get? C = none) (h3 : ∀ q ∈ μ, q.1 ≠ C) (h4 : ∀ q ∈ g, q.1 ≠ C) : Sm p n L h' m μ g :=
  ⟨⟨S.F.ns.at' fun x e => hs _ x h1 e, fun b x e => hs b x (fun q => by rw [q, h2] at e; cases e) (S.F.keep b x e), S.F.above⟩, fun q hq => ⟨hs _ _ (h3 q hq) (S.M q hq).1, (S.M q hq).2⟩, S.D, fun q hq => ⟨hs _ _ (h4 q hq) (S.G q hq).1, (S.G q hq).2⟩, S.N⟩
theorem Sm.lt (S : Sm p n L h m μ g) : L < h.objs.size := S.F.ns.lt
theorem Sm.low (S : Sm p n L h m μ g) : n ≤ h.objs.size := Nat.le_of_lt (Nat.lt_of_le_of_lt S.N S.lt)
theorem Sm.none (S : Sm p n L h m μ g) {b : Addr} (hb : h.objs.size ≤ b) : p.get? b = none := by
  cases q : p.get? b with
  | none => rfl
  | some x => exact absurd (Heap.lt_size (S.F.keep _ _ q)) (Nat.not_lt.mpr hb)
theorem Sm.gsub {g' : Lg} (S : Sm p n L h m μ g) (hs : ∀ q ∈ g', q ∈ g) : Sm p n L h m μ g' := ⟨S.F, S.M, S.D, fun q hq => S.G q (hs q hq), S.N⟩
theorem Sm.drop {q : Addr × Obj} (S : Sm p n L h m (q :: μ) g) : Sm p n L h m μ g :=
  ⟨S.F, fun r hr => S.M r (.tail _ hr), (List.nodup_cons.mp S.D).2, fun r hr => ⟨(S.G r hr).1, (S.G r hr).2.1, (S.G r hr).2.2.1, fun z hz => (S.G r hr).2.2.2 z (.tail _ hz)⟩, S.N⟩
theorem Sm.perm {μ' : Lg} (S : Sm p n L h m μ g) (hp : μ.Perm μ') : Sm p n L h m μ' g :=
  ⟨S.F, fun q hq => S.M q (hp.mem_iff.mpr hq), (hp.map _).nodup_iff.mp S.D, fun q hq => ⟨(S.G q hq).1, (S.G q hq).2.1, (S.G q hq).2.2.1, fun r hr => (S.G q hq).2.2.2 r (hp.mem_iff.mpr hr)⟩, S.N⟩
theorem Sm.freeze (S : Sm p n L h m ((a, o) :: μ) g) (ha : n ≤ a) : Sm p n L h m μ ((a, o) :: g) := by
  have A := S.M (a, o) (.head _)
  obtain ⟨hn, _⟩ := List.nodup_cons.mp S.D
  refine ⟨S.F, S.drop.M, S.drop.D, fun q hq => ?_, S.N⟩
  rcases List.mem_cons.mp hq with rfl | hq
  · exact ⟨A.1, ha, A.2.1, fun r hr z => hn (mem1 hr z)⟩
  · exact S.drop.G q hq
theorem Sm.join {g' : Lg} (S : Sm p n L h m μ g) (k : Kp h h') (hg : ∀ q ∈ g', h'.get? q.1 = some q.2 ∧ h.objs.size ≤ q.1) : Sm p n L h' m μ (g' ++ g) := by
  have S' := S.keeps k
  refine ⟨S'.F, S'.M, S'.D, fun q hq => ?_, S.N⟩
  rcases List.mem_append.mp hq with hq | hq
  · have Z := hg q hq
    exact ⟨Z.1, Nat.le_trans S.low Z.2, fun e => absurd S.lt (Nat.not_lt.mpr (e ▸ Z.2)), fun r hr e => absurd (Heap.lt_size (S.M r hr).1) (Nat.not_lt.mpr (e ▸ Z.2))⟩
  · exact S'.G q hq
theorem Sm.alG (S : Sm p n L h m μ g) (hf : o.isFreed = false := by rfl) : Sm p n L (h.push o) m μ ((h.objs.size, o) :: g) :=
  S.join (g' := [(h.objs.size, o)]) (fun b x e => Heap.get?_push_of_some _ e) fun q hq => by
    rw [List.mem_singleton.mp hq]; exact ⟨Heap.get?_push_size _ hf, Nat.le_refl _⟩
theorem Sm.alM (S : Sm p n L h m μ g) (hf : o.isFreed = false := by rfl) : Sm p n L (h.push o) m ((h.objs.size, o) :: μ) g := by
  have S' := S.keeps (h' := h.push o) fun b x e => Heap.get?_push_of_some _ e
  refine ⟨S'.F, fun q hq => ?_, ?_, fun q hq => ⟨(S'.G q hq).1, (S'.G q hq).2.1, (S'.G q hq).2.2.1, fun r hr e => ?_⟩, S.N⟩
  · rcases List.mem_cons.mp hq with rfl | hq
    · exact ⟨Heap.get?_push_size _ hf, fun e => absurd S.lt (Nat.not_lt.mpr (Nat.le_of_eq e)), S.none (Nat.le_refl _)⟩
    · exact S'.M q hq
  · refine List.nodup_cons.mpr ⟨fun q => ?_, S.D⟩
    obtain ⟨r, hr, e⟩ := List.mem_map.mp q
    exact absurd (Heap.lt_size (S.M r hr).1) (Nat.not_lt.mpr (Nat.le_of_eq e.symm))
  · rcases List.mem_cons.mp hr with rfl | hr
    · exact absurd (Heap.lt_size (S.G q hq).1) (Nat.not_lt.mpr (Nat.le_of_eq e))
    · exact (S'.G q hq).2.2.2 r hr e
end
end Wo

namespace Wo

noncomputable def Hd (w : World) (A : Around) (env : Env) (target : Expr) (I : Addr) (k : Nat) (Ω : Nat → Lg → Prop) (Rd : Heap → Prop) (B : Nat → Lm → Lm → Prop) : Prop :=
  ∀ (i : Nat) (s : Shared) (E : Value → Shared → Prop) (p : Heap) (n : Nat) (m : Lm) (μ g ω : Lg) (Q : Bool → Shared → Prop), i ≤ k → Ω i ω → Rd s.heap → Sm p n env.locals s.heap m (ω ++ μ) g →
    (∀ h' tk ω' m', i < k → Ω (i + 1) ω' → B i m m' → Sm p n env.locals h' m' (ω' ++ μ) g → Q true { s with heap := h', toks := tk }) →
    (∀ h' tk, i = k → Sm p n env.locals h' m μ g → Q false { s with heap := h', toks := tk }) →
    wpAny (model pw w) A (pyNext (.ref I)) (fun r s₁ => match r with
      | none => Q false s₁
      | some v => wpAny (model pw w) A (letOwnedTupleGo target (.ref I) v) (fun _ s₂ => wpAny (model pw w) A (assign target env v) (fun _ s₃ => Q true s₃) E s₂) E s₁) E s

section
variable {w : World} {A : Around} {E : Value → Shared → Prop} {s : Shared} {env : Env} {p : Heap} {n : Nat} {m : Lm} {μ g : Lg}

noncomputable def Fnk (env : Env) : Prop := env.scope.kind = .function
theorem fnkP (h : Fnk env) : (env.scope.kind == .class || (env.scope.kind == .module && env.locals != env.globals)) = false := by
  unfold Fnk at h; rw [h]; rfl

theorem stS {x : Str} {v : Value} {Q : Unit → Shared → Prop} (S : Sm p n env.locals s.heap m μ g) (hf : Fnk env) (hl : env.kindOf x = some .local)
    (h : ∀ h' tk, Sm p n env.locals h' (m.up x v) μ g → Q () { s with heap := h', toks := tk }) : wpAny (model pw w) A (storeName env x v) Q E s :=
  wpAny_storeName_local hl S.F.ns (fun h' hn hs => h _ _ (S.sto hs hn)) (fnkP hf)

theorem hd_one {x : Str} {px : Pos} {I : Addr} {k : Nat} {St : Nat → Obj → Prop} {Rd : Heap → Prop} {P : Nat → Value → Prop} (hf : Fnk env) (hx : env.kindOf x = some .local)
    (item : ∀ i (s : Shared) (o : Obj) (Q : Option Value → Shared → Prop) (E : Value → Shared → Prop), i < k → St i o → s.heap.get? I = some o → Rd s.heap →
      (∀ v h' tk o', P i v → St (i + 1) o' → h'.get? I = some o' → (∀ b x, b ≠ I → s.heap.get? b = some x → h'.get? b = some x) → Q (some v) { s with heap := h', toks := tk }) → wpAny (model pw w) A (pyNext (.ref I)) Q E s)
    (done : ∀ (s : Shared) (o : Obj) (Q : Option Value → Shared → Prop) (E : Value → Shared → Prop), St k o → s.heap.get? I = some o → Rd s.heap →
      (∀ h' tk, (∀ b x, b ≠ I → s.heap.get? b = some x → h'.get? b = some x) → Q none { s with heap := h', toks := tk }) → wpAny (model pw w) A (pyNext (.ref I)) Q E s) :
    Hd w A env (.Name x px) I k (fun i ω => ∃ o, ω = [(I, o)] ∧ St i o) Rd (fun i m m' => ∃ v, P i v ∧ m' = m.up x v) := by
  rintro i s E p n m μ g ω Q hi ⟨o, rfl, ho⟩ hR S hit hend
  have hI := (S.M (I, o) (by simp)).1
  by_cases hlt : i < k
  · refine item i s o _ _ hlt ho hI hR fun v h' tk o' hv ho' hI' hk => ?_
    refine wpAny_of_eq (show letOwnedTupleGo (.Name x px) (.ref I) v = pure () from rfl) ?_
    have S1 : Sm p n env.locals h' m ((I, o') :: μ) g := Sm.chg (o := o) (by simpa using S) hk hI'
    refine wpAny_assign_Name (stS S1 hf hx fun h₂ tk₂ S2 => ?_)
    exact hit _ _ [(I, o')] _ hlt ⟨o', rfl, ho'⟩ ⟨v, hv, rfl⟩ (by simpa using S2)
  · have e : i = k := by omega
    subst e
    exact done s o _ _ ho hI hR fun h' tk hk => hend _ _ rfl (Sm.cut (o := o) (by simpa using S) hk)

theorem hd_list {x : Str} {px : Pos} {I l : Addr} {items : Array Value} (hA : A.handled = none) (hf : Fnk env) (hx : env.kindOf x = some .local) (hIl : l ≠ I) :
    Hd w A env (.Name x px) I items.size (fun i ω => ∃ o, ω = [(I, o)] ∧ (o.cls = .type "list_iterator" ∧ o.data = .fields #[.ref l, .int i 0])) (fun h => h.IsList l items)
      (fun i m m' => ∃ v, items[i]? = some v ∧ m' = m.up x v) := by
  refine hd_one hf hx (fun i s o Q E hi ho hI hR hQ => ?_) (fun s o Q E ho hI hR hQ => ?_)
  · refine wpAny_pyNext_list_item ⟨o, hI, ho⟩ hR (x := items[i]) (by simp [hi]) fun h' hit' hs' => ?_
    obtain ⟨o', hI', hc, hd⟩ := hit'
    exact hQ _ h' s.toks o' (by simp [hi]) ⟨hc, hd⟩ hI' fun b x hb e => hs'.extBut b x hb e
  · refine wpAny_pyNext_list_end hA ⟨o, hI, ho⟩ hR (by simp) fun h' he => hQ h' s.toks fun b x hb e => he b x hb e

theorem hd_str {x : Str} {px : Pos} {I : Addr} {X : Str} {t₀ : Tok} (hA : A.handled = none) (hf : Fnk env) (hx : env.kindOf x = some .local) :
    Hd w A env (.Name x px) I X.cps.size (fun i ω => ∃ o, ω = [(I, o)] ∧ (o.cls = .type "str_ascii_iterator" ∧ o.data = .fields #[.str X t₀, .int i 0])) (fun _ => True)
      (fun i m m' => ∃ v, (∃ c t, X.cps[i]? = some c ∧ v = .str ⟨#[c]⟩ t) ∧ m' = m.up x v) := by
  refine hd_one hf hx (fun i s o Q E hi ho hI hR hQ => ?_) (fun s o Q E ho hI hR hQ => ?_)
  · refine wpAny_pyNext_ascii_item ⟨o, hI, ho⟩ (c := X.cps[i]) (by simp [hi]) fun h' hit' hs' => ?_
    obtain ⟨o', hI', hc, hd⟩ := hit'
    exact hQ _ h' _ o' ⟨_, _, by simp [hi], rfl⟩ ⟨hc, hd⟩ hI' fun b x hb e => hs'.extBut b x hb e
  · exact wpAny_pyNext_ascii_end hA ⟨o, hI, ho⟩ (by simp) fun h' he => hQ h' s.toks fun b x hb e => he b x hb e

theorem hd_range {x : Str} {px : Pos} {I : Addr} {a : Int} {k : Nat} (hA : A.handled = none) (hf : Fnk env) (hx : env.kindOf x = some .local) :
    Hd w A env (.Name x px) I k (fun i ω => ∃ o, ω = [(I, o)] ∧ o = { cls := .type "range_iterator", dict := none, data := .fields #[rawInt (a + i), rawInt ((k : Int) - i), rawInt 1], slots := #[] }) (fun _ => True)
      (fun i m m' => ∃ v, (∃ t, v = .int (a + i) t) ∧ m' = m.up x v) := by
  refine hd_one hf hx (fun i s o Q E hi ho hI hR hQ => ?_) (fun s o Q E ho hI hR hQ => ?_)
  · subst ho
    refine wpAny_pyNext_range_item (x := a + i) (left := (k : Int) - i) (step := 1) hI (by omega) fun h' hit' hs' => ?_
    refine hQ _ h' _ _ ⟨_, rfl⟩ rfl ?_ fun b x hb e => hs'.extBut b x hb e
    rw [show a + ((i + 1 : Nat) : Int) = a + i + 1 from by omega, show (k : Int) - ((i + 1 : Nat) : Int) = (k : Int) - i - 1 from by omega]
    exact hit'
  · subst ho
    exact wpAny_pyNext_range_end (x := a + k) (left := (k : Int) - k) (step := 1) hA hI (by omega) fun h' he => hQ h' s.toks fun b x hb e => he b x hb e

theorem asg2 {x1 x2 : Str} {p1 p2 pos : Pos} {kk : Nat} {T : Addr} {v1 v2 : Value} {Q : Unit → Shared → Prop} (hA : A.handled = none) (hf : Fnk env) (h1 : env.kindOf x1 = some .local) (h2 : env.kindOf x2 = some .local)
    (hT : IsTup s.heap T #[v1, v2]) (S : Sm p n env.locals s.heap m μ g) (h : ∀ h' tk, Sm p n env.locals h' ((m.up x1 v1).up x2 v2) μ g → Q () { s with heap := h', toks := tk }) :
    wpAny (model pw w) A (assign (.Tuple [.Name x1 p1, .Name x2 p2] kk pos) env (.ref T)) Q E s := by
  refine assign_Tuple_tuple hA hT rfl rfl fun h' hk => ?_
  have S1 := S.keeps (h' := h') fun b x e => hk b x (Nat.ne_of_lt (Heap.lt_size e)) e
  refine assignInOrder_cons (wpAny_assign_Name (stS S1 hf h1 fun h2' tk2 S2 => ?_))
  refine assignInOrder_cons (wpAny_assign_Name (stS S2 hf h2 fun h3' tk3 S3 => assignInOrder_nil (h _ _ S3)))
theorem asg3 {x1 x2 x3 : Str} {p1 p2 p3 pos : Pos} {kk : Nat} {T : Addr} {v1 v2 v3 : Value} {Q : Unit → Shared → Prop} (hA : A.handled = none) (hf : Fnk env) (h1 : env.kindOf x1 = some .local) (h2 : env.kindOf x2 = some .local) (h3 : env.kindOf x3 = some .local)
    (hT : IsTup s.heap T #[v1, v2, v3]) (S : Sm p n env.locals s.heap m μ g) (h : ∀ h' tk, Sm p n env.locals h' (((m.up x1 v1).up x2 v2).up x3 v3) μ g → Q () { s with heap := h', toks := tk }) :
    wpAny (model pw w) A (assign (.Tuple [.Name x1 p1, .Name x2 p2, .Name x3 p3] kk pos) env (.ref T)) Q E s := by
  refine assign_Tuple_tuple hA hT rfl rfl fun h' hk => ?_
  have S1 := S.keeps (h' := h') fun b x e => hk b x (Nat.ne_of_lt (Heap.lt_size e)) e
  refine assignInOrder_cons (wpAny_assign_Name (stS S1 hf h1 fun h2' tk2 S2 => ?_))
  refine assignInOrder_cons (wpAny_assign_Name (stS S2 hf h2 fun h3' tk3 S3 => ?_))
  refine assignInOrder_cons (wpAny_assign_Name (stS S3 hf h3 fun h4' tk4 S4 => assignInOrder_nil (h _ _ S4)))

abbrev zipO (TI TO : Addr) (f0 : Value) : Obj := { cls := .type "zip", dict := none, data := .fields #[f0, .bool false, .bool false, .ref TI, .ref TO], slots := #[] }
abbrev pairO (a b : Value) : Obj := { cls := .type "tuple", data := .seq #[a, b] }

theorem hd_zipG {elts : List Expr} {pos : Pos} {kk : Nat} {z l1 l2 : Addr} {xs ys : Array Value} {k : Nat} {up : Lm → Value → Value → Lm} {Κ : Nat → Lg → Prop} (hk : k = min xs.size ys.size) (hA : A.handled = none)
    (asg : ∀ (i : Nat) (s : Shared) (T : Addr) (v1 v2 : Value) (p : Heap) (n : Nat) (m : Lm) (μ g ω₂ : Lg) (Q : Unit → Shared → Prop) (E : Value → Shared → Prop), xs[i]? = some v1 → ys[i]? = some v2 → IsTup s.heap T #[v1, v2] → Κ i ω₂ → Sm p n env.locals s.heap m (ω₂ ++ μ) g →
      (∀ h' tk ω₂', Κ (i + 1) ω₂' → Sm p n env.locals h' (up m v1 v2) (ω₂' ++ μ) g → Q () { s with heap := h', toks := tk }) → wpAny (model pw w) A (assign (.Tuple elts kk pos) env (.ref T)) Q E s) :
    Hd w A env (.Tuple elts kk pos) z k
      (fun i ω => ∃ ω₂, Κ i ω₂ ∧ ∃ TI TO i1 i2 a b o1 o2, ω = [(z, zipO TI TO .none), (TI, pairO (.ref i1) (.ref i2)), (TO, pairO a b), (i1, o1), (i2, o2)] ++ ω₂ ∧ (o1.cls = .type "list_iterator" ∧ o1.data = .fields #[.ref l1, .int i 0]) ∧ (o2.cls = .type "list_iterator" ∧ o2.data = .fields #[.ref l2, .int i 0]))
      (fun h => h.IsList l1 xs ∧ h.IsList l2 ys)
      (fun i m m' => ∃ v1 v2, xs[i]? = some v1 ∧ ys[i]? = some v2 ∧ m' = up m v1 v2) := by
  rintro i s E p n m μ g ω Q hi ⟨ω₂, hK, TI, TO, i1, i2, a, b, o1, o2, rfl, ⟨c1, d1⟩, ⟨c2, d2⟩⟩ ⟨hl1, hl2⟩ S hit hend
  rw [List.append_assoc] at S
  have Mz := (S.M (z, zipO TI TO .none) (by simp)).1
  have MI := (S.M (TI, pairO (.ref i1) (.ref i2)) (by simp)).1
  have MO := (S.M (TO, pairO a b) (by simp)).1
  have M1 := (S.M (i1, o1) (by simp)).1
  have M2 := (S.M (i2, o2) (by simp)).1
  have dd := S.D
  rw [List.map_append] at dd
  have dn := (List.nodup_append.mp dd).1
  simp only [List.map_cons, List.map_nil, List.nodup_cons, List.mem_cons, List.not_mem_nil, or_false, not_or, not_false_eq_true, List.nodup_nil, and_true] at dn
  obtain ⟨⟨e1, e2, e3, e4⟩, ⟨e5, e6, e7⟩, ⟨e8, e9⟩, e10⟩ := dn
  have off : ∀ l its, s.heap.IsList l its → ∀ c o, s.heap.get? c = some o → o.cls ≠ .type "list" → l ≠ c := fun l its hl c o e hc q => by
    obtain ⟨ol, hol, hlc, _⟩ := hl
    subst q
    rw [e] at hol; cases hol; exact hc hlc
  have Dz : ZipApart z TI TO i1 i2 l1 l2 :=
    ⟨Ne.symm e1, Ne.symm e2, Ne.symm e3, Ne.symm e4, e5, e6, e7, e8, e9, e10, off _ _ hl1 _ _ Mz (by simp), off _ _ hl1 _ _ MO (by simp), off _ _ hl1 _ _ M1 (by simp [c1]), off _ _ hl1 _ _ M2 (by simp [c2]),
      off _ _ hl2 _ _ Mz (by simp), off _ _ hl2 _ _ MO (by simp), off _ _ hl2 _ _ M1 (by simp [c1]), off _ _ hl2 _ _ M2 (by simp [c2])⟩
  by_cases hlt : i < k
  · have hix : i < xs.size := by omega
    have hiy : i < ys.size := by omega
    refine wpAny_pyNext_zip_item Dz Mz MI MO ⟨o1, M1, c1, d1⟩ ⟨o2, M2, c2, d2⟩ hl1 hl2 (Array.getElem?_eq_getElem hix) (Array.getElem?_eq_getElem hiy) fun h' a1 a2 a3 a4 a5 a6 hk' => ?_
    refine wpAny_letOwnedTupleGo_zip a1 fun h'' hz'' hs'' => ?_
    obtain ⟨o1', M1', c1', d1'⟩ := a3
    obtain ⟨o2', M2', c2', d2'⟩ := a4
    have up : ∀ c o, c ≠ z → h'.get? c = some o → h''.get? c = some o := fun c o hc e => hs''.extBut c o hc e
    have S1 : Sm p n env.locals h'' m ([(z, zipO TI TO .none), (TI, pairO (.ref i1) (.ref i2)), (TO, pairO xs[i] ys[i]), (i1, o1'), (i2, o2')] ++ (ω₂ ++ μ)) g := by
      refine Sm.chgs S rfl (fun c o hc e => ?_) fun q hq => ?_
      · simp only [List.map_cons, List.map_nil, List.mem_cons, List.not_mem_nil, or_false, not_or] at hc
        exact up c o hc.1 (hk' c o hc.1 hc.2.2.1 hc.2.2.2.1 hc.2.2.2.2 e)
      · simp only [List.mem_cons, List.not_mem_nil, or_false] at hq
        rcases hq with rfl | rfl | rfl | rfl | rfl
        · exact hz''
        · exact up _ _ (Ne.symm e1) (hk' _ _ (Ne.symm e1) e5 e6 e7 MI)
        · exact up _ _ (Ne.symm e2) a2
        · exact up _ _ (Ne.symm e3) M1'
        · exact up _ _ (Ne.symm e4) M2'
    have hT : IsTup h'' s.heap.objs.size #[xs[i], ys[i]] := ⟨_, up _ _ (Nat.ne_of_gt (Heap.lt_size Mz)) a5, rfl, _, rfl⟩
    refine asg i _ _ _ _ _ _ _ _ _ _ _ _ (Array.getElem?_eq_getElem hix) (Array.getElem?_eq_getElem hiy) hT hK (S1.perm (by rw [← List.append_assoc, ← List.append_assoc]; exact List.perm_append_comm.append_right _) : Sm p n env.locals h'' m (ω₂ ++ ([(z, zipO TI TO .none), (TI, pairO (.ref i1) (.ref i2)), (TO, pairO xs[i] ys[i]), (i1, o1'), (i2, o2')] ++ μ)) g) fun h3 tk3 ω₂' hK' S3 => ?_
    exact hit _ _ ([(z, zipO TI TO .none), (TI, pairO (.ref i1) (.ref i2)), (TO, pairO xs[i] ys[i]), (i1, o1'), (i2, o2')] ++ ω₂') _ hlt ⟨ω₂', hK', TI, TO, i1, i2, _, _, o1', o2', rfl, ⟨c1', d1'⟩, ⟨c2', d2'⟩⟩ ⟨_, _, Array.getElem?_eq_getElem hix, Array.getElem?_eq_getElem hiy, rfl⟩ (S3.perm (by rw [← List.append_assoc]; exact List.perm_append_comm.append_right _))
  · have e : i = k := by omega
    have he : xs[i]? = none ∨ ys[i]? = none := by
      by_cases hx : xs.size ≤ i
      · exact .inl (Array.getElem?_eq_none hx)
      · exact .inr (Array.getElem?_eq_none (by omega))
    refine wpAny_pyNext_zip_end hA Dz Mz MI MO ⟨o1, M1, c1, d1⟩ ⟨o2, M2, c2, d2⟩ hl1 hl2 he fun h' hk' => ?_
    rw [← List.append_assoc] at S
    refine hend h' s.toks e (Sm.cuts S fun c o hc ec => ?_)
    replace hc : c ∉ ([(z, zipO TI TO .none), (TI, pairO (.ref i1) (.ref i2)), (TO, pairO a b), (i1, o1), (i2, o2)] : Lg).map (·.1) := fun q => hc (by rw [List.map_append]; exact List.mem_append_left _ q)
    simp only [List.map_cons, List.map_nil, List.mem_cons, List.not_mem_nil, or_false, not_or] at hc
    exact hk' c o hc.1 hc.2.2.1 hc.2.2.2.1 hc.2.2.2.2 ec

theorem hd_zip {x1 x2 : Str} {p1 p2 pos : Pos} {kk : Nat} {z l1 l2 : Addr} {xs ys : Array Value} {k : Nat} (hk : k = min xs.size ys.size) (hA : A.handled = none) (hf : Fnk env) (h1 : env.kindOf x1 = some .local) (h2 : env.kindOf x2 = some .local) :
    Hd w A env (.Tuple [.Name x1 p1, .Name x2 p2] kk pos) z k
      (fun i ω => ∃ TI TO i1 i2 a b o1 o2, ω = [(z, zipO TI TO .none), (TI, pairO (.ref i1) (.ref i2)), (TO, pairO a b), (i1, o1), (i2, o2)] ∧ (o1.cls = .type "list_iterator" ∧ o1.data = .fields #[.ref l1, .int i 0]) ∧ (o2.cls = .type "list_iterator" ∧ o2.data = .fields #[.ref l2, .int i 0]))
      (fun h => h.IsList l1 xs ∧ h.IsList l2 ys)
      (fun i m m' => ∃ v1 v2, xs[i]? = some v1 ∧ ys[i]? = some v2 ∧ m' = (m.up x1 v1).up x2 v2) := by
  rintro i s E p n m μ g ω Q hi ⟨TI, TO, i1, i2, a, b, o1, o2, rfl, e⟩ hRd S hit hend
  refine hd_zipG (Κ := fun _ ω => ω = []) (up := fun m v1 v2 => (m.up x1 v1).up x2 v2) hk hA ?_ i s E p n m μ g _ Q hi ⟨[], rfl, TI, TO, i1, i2, a, b, o1, o2, (List.append_nil _).symm, e⟩ hRd S ?_ hend
  · rintro i s T v1 v2 p n m μ g ω₂ Q E _ _ hT rfl S hQ
    exact asg2 hA hf h1 h2 hT S fun h' tk S => hQ h' tk [] rfl S
  · rintro h' tk ω' m' hlt ⟨ω₂, rfl, TI, TO, i1, i2, a, b, o1, o2, rfl, e⟩ hB S'
    exact hit h' tk _ m' hlt ⟨TI, TO, i1, i2, a, b, o1, o2, rfl, e⟩ hB (by simpa using S')

theorem hd_list2 {x1 x2 : Str} {p1 p2 pos : Pos} {kk : Nat} {I l : Addr} {items : Array Value} {P : Nat → Value → Value → Prop} (hA : A.handled = none) (hf : Fnk env) (h1 : env.kindOf x1 = some .local) (h2 : env.kindOf x2 = some .local) :
    Hd w A env (.Tuple [.Name x1 p1, .Name x2 p2] kk pos) I items.size (fun i ω => ∃ o, ω = [(I, o)] ∧ (o.cls = .type "list_iterator" ∧ o.data = .fields #[.ref l, .int i 0]))
      (fun h => h.IsList l items ∧ ∀ i v, items[i]? = some v → ∃ T v1 v2, v = .ref T ∧ IsTup h T #[v1, v2] ∧ P i v1 v2)
      (fun i m m' => ∃ v1 v2, P i v1 v2 ∧ m' = (m.up x1 v1).up x2 v2) := by
  rintro i s E p n m μ g ω Q hi ⟨o, rfl, ho⟩ ⟨hl, hR⟩ S hit hend
  have hI := (S.M (I, o) (by simp)).1
  by_cases hlt : i < items.size
  · obtain ⟨T, v1, v2, e, hT, hP⟩ := hR i items[i] (by simp [hlt])
    refine wpAny_pyNext_list_item ⟨o, hI, ho⟩ hl (x := .ref T) (by rw [Array.getElem?_eq_getElem hlt, e]) fun h' hit' hs' => ?_
    obtain ⟨o', hI', hc, hd⟩ := id hit'
    have S1 : Sm p n env.locals h' m ((I, o') :: μ) g := Sm.chg (o := o) (by simpa using S) (fun b x hb e => hs'.extBut b x hb e) hI'
    have hne : T ≠ I := fun q => by
      obtain ⟨oT, hoT, hcT, _⟩ := hT
      rw [q, hI] at hoT; cases hoT
      rw [ho.1] at hcT; exact absurd (Value.type.inj hcT) (by decide)
    have hT' : IsTup h' T #[v1, v2] := by obtain ⟨oT, hoT, r⟩ := hT; exact ⟨oT, hs'.extBut _ _ hne hoT, r⟩
    refine wpAny_letOwnedTupleGo_listiter (i := i + 1) hit' (asg2 hA hf h1 h2 hT' S1 fun h2' tk2 S2 => ?_)
    exact hit _ _ [(I, o')] _ hlt ⟨o', rfl, hc, hd⟩ ⟨v1, v2, hP, rfl⟩ S2
  · have e : i = items.size := by omega
    subst e
    exact wpAny_pyNext_list_end hA ⟨o, hI, ho⟩ hl (by simp) fun h' he => hend h' s.toks rfl (Sm.cut (o := o) (by simpa using S) fun b x hb e => he b x hb e)

theorem hd_list3 {x1 x2 x3 : Str} {p1 p2 p3 pos : Pos} {kk : Nat} {I l : Addr} {items : Array Value} {P : Nat → Value → Value → Value → Prop} (hA : A.handled = none) (hf : Fnk env) (h1 : env.kindOf x1 = some .local) (h2 : env.kindOf x2 = some .local) (h3 : env.kindOf x3 = some .local) :
    Hd w A env (.Tuple [.Name x1 p1, .Name x2 p2, .Name x3 p3] kk pos) I items.size (fun i ω => ∃ o, ω = [(I, o)] ∧ (o.cls = .type "list_iterator" ∧ o.data = .fields #[.ref l, .int i 0]))
      (fun h => h.IsList l items ∧ ∀ i v, items[i]? = some v → ∃ T v1 v2 v3, v = .ref T ∧ IsTup h T #[v1, v2, v3] ∧ P i v1 v2 v3)
      (fun i m m' => ∃ v1 v2 v3, P i v1 v2 v3 ∧ m' = ((m.up x1 v1).up x2 v2).up x3 v3) := by
  rintro i s E p n m μ g ω Q hi ⟨o, rfl, ho⟩ ⟨hl, hR⟩ S hit hend
  have hI := (S.M (I, o) (by simp)).1
  by_cases hlt : i < items.size
  · obtain ⟨T, v1, v2, v3, e, hT, hP⟩ := hR i items[i] (by simp [hlt])
    refine wpAny_pyNext_list_item ⟨o, hI, ho⟩ hl (x := .ref T) (by rw [Array.getElem?_eq_getElem hlt, e]) fun h' hit' hs' => ?_
    obtain ⟨o', hI', hc, hd⟩ := id hit'
    have S1 : Sm p n env.locals h' m ((I, o') :: μ) g := Sm.chg (o := o) (by simpa using S) (fun b x hb e => hs'.extBut b x hb e) hI'
    have hne : T ≠ I := fun q => by
      obtain ⟨oT, hoT, hcT, _⟩ := hT
      rw [q, hI] at hoT; cases hoT
      rw [ho.1] at hcT; exact absurd (Value.type.inj hcT) (by decide)
    have hT' : IsTup h' T #[v1, v2, v3] := by obtain ⟨oT, hoT, r⟩ := hT; exact ⟨oT, hs'.extBut _ _ hne hoT, r⟩
    refine wpAny_letOwnedTupleGo_listiter (i := i + 1) hit' (asg3 hA hf h1 h2 h3 hT' S1 fun h2' tk2 S2 => ?_)
    exact hit _ _ [(I, o')] _ hlt ⟨o', rfl, hc, hd⟩ ⟨v1, v2, v3, hP, rfl⟩ S2
  · have e : i = items.size := by omega
    subst e
    exact wpAny_pyNext_list_end hA ⟨o, hI, ho⟩ hl (by simp) fun h' he => hend h' s.toks rfl (Sm.cut (o := o) (by simpa using S) fun b x hb e => he b x hb e)

theorem forHO {target : Expr} {body : List Stmt} {I : Addr} {k : Nat} {Ω : Nat → Lg → Prop} {Rd : Heap → Prop} {B : Nat → Lm → Lm → Prop} {ω : Lg} {R : Result → Shared → Prop} (J : Nat → Lm → Lg → Lg → Prop)
    (H : Hd w A env target I k Ω Rd B) (hΩ : Ω 0 ω) (S : Sm p n env.locals s.heap m (ω ++ μ) g) (hJ : J 0 m μ g)
    (hR : ∀ (h' : Heap) (i : Nat) (m' : Lm) (ω' μ' g' : Lg), J i m' μ' g' → Sm p n env.locals h' m' (ω' ++ μ') g' → Rd h')
    (turn : ∀ i m₁ m₂ μ' g' ω' h' tk, i < k → J i m₁ μ' g' → B i m₁ m₂ → Ω (i + 1) ω' → Sm p n env.locals h' m₂ (ω' ++ μ') g' →
      wpAny (model pw w) A (execs body env) (fun f s' => (f = .next ∨ f = .cont) ∧ ∃ h'' tk' m₃ μ'' g'', s' = { s with heap := h'', toks := tk' } ∧ Sm p n env.locals h'' m₃ (ω' ++ μ'') g'' ∧ J (i + 1) m₃ μ'' g'') (fun _ _ => False) { s with heap := h', toks := tk })
    (done : ∀ m' μ' g' h' tk, J k m' μ' g' → Sm p n env.locals h' m' μ' g' → R (.ok .next) { s with heap := h', toks := tk }) :
    codeAny (model pw w) A (.forLoop target (.ref I) body [] env) R s := by
  refine codeAny_forLoop_any (fun kk s' => ∃ i h' tk m' μ' g' ω', s' = { s with heap := h', toks := tk } ∧ i ≤ k ∧ kk = k + 1 - i ∧ Ω i ω' ∧ J i m' μ' g' ∧ Sm p n env.locals h' m' (ω' ++ μ') g') ?_ (k + 1)
    ⟨0, s.heap, s.toks, m, μ, g, ω, rfl, Nat.zero_le _, rfl, hΩ, hJ, S⟩
  rintro kk s' ⟨i, h', tk, m', μ', g', ω', rfl, hi, rfl, hΩ', hJ', S'⟩
  refine wpAny_mono (H i _ (fun e s' => notedBy (model pw w) A env (fun e s' => R (.error e) s') e s') p n m' μ' g' ω' (fun b s₁ => if b = true then wpAny (model pw w) A (execs body env) (fun f s₃ => match f with
      | .next | .cont => ∃ mm, mm < k + 1 - i ∧ ∃ i h' tk m' μ' g' ω', s₃ = { s with heap := h', toks := tk } ∧ i ≤ k ∧ mm = k + 1 - i ∧ Ω i ω' ∧ J i m' μ' g' ∧ Sm p n env.locals h' m' (ω' ++ μ') g'
      | .brk => R (.ok .next) s₃
      | .ret v => R (.ok (.ret v)) s₃) (notedBy (model pw w) A env fun e s' => R (.error e) s') s₁ else R (.ok .next) s₁) hi hΩ' (hR _ _ _ _ _ _ hJ' S') S' ?_ ?_) (fun r s₁ h₁ => ?_) fun _ _ e => e
  · intro h₁ tk₁ ω₁ m₁ hlt hΩ₁ hB S₁
    rw [if_pos rfl]
    refine wpAny_mono (turn i m' m₁ μ' g' ω₁ h₁ tk₁ hlt hJ' hB hΩ₁ S₁) (fun f s₃ h₃ => ?_) fun _ _ e => e.elim
    obtain ⟨hf, h'', tk', m₃, μ'', g'', rfl, S₃, hJ₃⟩ := h₃
    have fin : ∃ mm, mm < k + 1 - i ∧ ∃ i h'₁ tk₁ m'₁ μ'₁ g'₁ ω'₁, ({ s with heap := h'', toks := tk' } : Shared) = { s with heap := h'₁, toks := tk₁ } ∧ i ≤ k ∧ mm = k + 1 - i ∧ Ω i ω'₁ ∧ J i m'₁ μ'₁ g'₁ ∧ Sm p n env.locals h'₁ m'₁ (ω'₁ ++ μ'₁) g'₁ :=
      ⟨k + 1 - (i + 1), by omega, i + 1, h'', tk', m₃, μ'', g'', ω₁, rfl, hlt, rfl, hΩ₁, hJ₃, S₃⟩
    rcases hf with rfl | rfl <;> exact fin
  · intro h₁ tk₁ e S₁
    rw [if_neg (by decide)]
    subst e
    exact done _ _ _ _ _ hJ' S₁
  · cases r with
    | none => exact wpAny_execs_nil (by simpa using h₁)
    | some v => exact wpAny_mono h₁ (fun _ s₂ h₂ => wpAny_mono h₂ (fun _ s₃ h₃ => by rw [if_pos rfl] at h₃; exact h₃) fun _ _ e => e) fun _ _ e => e
theorem forH {target : Expr} {body : List Stmt} {I : Addr} {k : Nat} {Ω : Nat → Lg → Prop} {Rd : Heap → Prop} {B : Nat → Lm → Lm → Prop} {ω : Lg} {R : Result → Shared → Prop} (J : Nat → Lm → Lg → Lg → Prop)
    (H : Hd w A env target I k Ω Rd B) (hΩ : Ω 0 ω) (S : Sm p n env.locals s.heap m (ω ++ μ) g) (hJ : J 0 m μ g)
    (hR : ∀ (h' : Heap) (i : Nat) (m' : Lm) (ω' μ' g' : Lg), J i m' μ' g' → Sm p n env.locals h' m' (ω' ++ μ') g' → Rd h')
    (turn : ∀ i m₁ m₂ μ' g' ω' h' tk, i < k → J i m₁ μ' g' → B i m₁ m₂ → Sm p n env.locals h' m₂ (ω' ++ μ') g' →
      wpAny (model pw w) A (execs body env) (fun f s' => (f = .next ∨ f = .cont) ∧ ∃ h'' tk' m₃ μ'' g'', s' = { s with heap := h'', toks := tk' } ∧ Sm p n env.locals h'' m₃ (ω' ++ μ'') g'' ∧ J (i + 1) m₃ μ'' g'') (fun _ _ => False) { s with heap := h', toks := tk })
    (done : ∀ m' μ' g' h' tk, J k m' μ' g' → Sm p n env.locals h' m' μ' g' → R (.ok .next) { s with heap := h', toks := tk }) :
    codeAny (model pw w) A (.forLoop target (.ref I) body [] env) R s :=
  forHO J H hΩ S hJ hR (fun i m₁ m₂ μ' g' ω' h' tk hi hj hB _ S => turn i m₁ m₂ μ' g' ω' h' tk hi hj hB S) done
end
end Wo

namespace Wo

section
variable {w : World} {A : Around} {E : Value → Shared → Prop} {s : Shared} {env : Env} {R : Result → Shared → Prop}

theorem codeAny_compLoop_any {elt target iter : Expr} {ifs : List Expr} {scope : Scope} {pos : Pos} {it acc : Value} (I : Nat → Shared → Prop)
    (turn : ∀ n s, I n s → wpAny (model pw w) A (pyNext it) (fun r s₁ => match r with
      | none => R (.ok .next) s₁
      | some v => wpAny (model pw w) A (letOwnedTupleGo target it v) (fun _ s₁' => wpAny (model pw w) A (assign target env v) (fun _ s₂ =>
          wpAny (model pw w) A (forIn ifs true fun c r => if r = true then do let ok ← isTrue c env (eval c env); pure (ForInStep.yield ok) else pure (ForInStep.yield r)) (fun ok s₃ =>
            if ok = true then wpAny (model pw w) A (eval elt env) (fun x s₄ =>
              wpAny (model pw w) A (call (.builtin "list.append") [acc, x]) (fun _ s₅ => ∃ m, m < n ∧ I m s₅) (notedBy (model pw w) A env fun e s' => R (.error e) s') s₄) (notedBy (model pw w) A env fun e s' => R (.error e) s') s₃
            else ∃ m, m < n ∧ I m s₃) (notedBy (model pw w) A env fun e s' => R (.error e) s') s₂) (notedBy (model pw w) A env fun e s' => R (.error e) s') s₁') (notedBy (model pw w) A env fun e s' => R (.error e) s') s₁) (notedBy (model pw w) A env fun e s' => R (.error e) s') s)
    (n : Nat) (h : I n s) : codeAny (model pw w) A (.compLoop (.ListComp elt [⟨target, iter, ifs, 0⟩] scope pos) 0 it acc env) R s := by
  refine codeAny_loop rfl I (fun n s hI => ?_) n h
  show wpAny _ A ((compTurn (.ListComp elt [⟨target, iter, ifs, 0⟩] scope pos) 0 it acc env).onRaise (fun x => do noteFrame x env; theTreesLotGoes x)) _ _ s
  refine wpAny_noted ?_
  rw [compTurn_list]
  refine wpAny_bind (wpAny_standAt (wpAny_bind (wpAny_mono (turn n s hI) (fun r s₁ h₁ => ?_) fun _ _ h' => h')))
  cases r with
  | none => exact wpAny_pure h₁
  | some v =>
    refine wpAny_bind (wpAny_mono h₁ (fun _ s₁' h₁' => ?_) fun _ _ h' => h')
    refine wpAny_bind (wpAny_mono h₁' (fun _ s₂ h₂ => wpAny_bind (wpAny_mono h₂ (fun ok s₃ h₃ => ?_) fun _ _ h' => h')) fun _ _ h' => h')
    cases ok with
    | false => exact wpAny_pure ⟨rfl, by simpa using h₃⟩
    | true =>
      rw [if_pos rfl] at h₃
      exact wpAny_bind (wpAny_bind (wpAny_mono h₃ (fun x s₄ h₄ => wpAny_bind (wpAny_mono h₄ (fun _ s₅ h₅ => wpAny_pure (wpAny_pure ⟨rfl, h₅⟩)) fun _ _ h' => h')) fun _ _ h' => h'))

structure Cmp (w : World) (A : Around) (env : Env) (elt target iter : Expr) (ifs : List Expr) (scope : Scope) (cl : List (Str × Addr)) (s : Shared) (I : Addr) (k : Nat) (Ω : Nat → Lg → Prop) (Rd : Heap → Prop) (B : Nat → Lm → Lm → Prop)
    (ω σ : Lg) (Js : Nat → Lg → Lg → Prop) (t : Nat → Bool) (d : Nat → Dat) : Prop where
  hd : ∀ C, Hd w A (compEnvC scope cl C env) target I k Ω Rd B
  om : Ω 0 ω
  al : ∀ q ∈ ω ++ σ, s.heap.get? q.1 = some q.2
  nd : ((ω ++ σ).map (·.1)).Nodup
  js : Js 0 σ []
  jm : ∀ i σ g g', Js i σ g → (∀ q ∈ g, q ∈ g') → Js i σ g'
  sz : k ≤ sizeLine
  rd : ∀ h', (∀ b o, b ∉ (ω ++ σ).map (·.1) → s.heap.get? b = some o → h'.get? b = some o) → Rd h'
  tst : ∀ i C p n m₀ m μ g σ' h tk, i < k → Js i σ' g → B i m₀ m → (∀ b o, b ∉ (ω ++ σ).map (·.1) → s.heap.get? b = some o → p.get? b = some o) → s.heap.objs.size ≤ n → Sm p n C h m (σ' ++ μ) g →
    wpAny (model pw w) A (forIn ifs true fun c r => if r = true then do let ok ← isTrue c (compEnvC scope cl C env) (eval c (compEnvC scope cl C env)); pure (ForInStep.yield ok) else pure (ForInStep.yield r))
      (fun ok s' => ok = t i ∧ ∃ h' tk', s' = { s with heap := h', toks := tk' } ∧ Kp h h' ∧ (t i = false → Js (i + 1) σ' g)) (fun _ _ => False) { s with heap := h, toks := tk }
  el : ∀ i C p n m₀ m μ g σ' h tk, i < k → t i = true → Js i σ' g → B i m₀ m → (∀ b o, b ∉ (ω ++ σ).map (·.1) → s.heap.get? b = some o → p.get? b = some o) → s.heap.objs.size ≤ n → Sm p n C h m (σ' ++ μ) g →
    wpAny (model pw w) A (eval elt (compEnvC scope cl C env)) (fun y s' => ∃ h' tk' σ'' g', s' = { s with heap := h', toks := tk' } ∧ Sm p n C h' m (σ'' ++ μ) (g' ++ g) ∧ σ''.map (·.1) = σ'.map (·.1) ∧ Js (i + 1) σ'' (g' ++ g) ∧ DatIn g' y (d i)) (fun _ _ => False) { s with heap := h, toks := tk }

structure CmpEnd (s : Shared) (k : Nat) (ω σ : Lg) (Js : Nat → Lg → Lg → Prop) (t : Nat → Bool) (d : Nat → Dat) (D C : Addr) (h' : Heap) : Prop where
  ex : ∃ m' σ' g', h'.Ns C m' ∧ s.heap.objs.size ≤ C ∧ s.heap.objs.size ≤ D ∧ Js k σ' g' ∧ σ'.map (·.1) = σ.map (·.1) ∧ (∀ q ∈ σ', h'.get? q.1 = some q.2) ∧ (∀ b o, b ∉ (ω ++ σ).map (·.1) → s.heap.get? b = some o → h'.get? b = some o) ∧
    (∀ q ∈ g', h'.get? q.1 = some q.2 ∧ s.heap.objs.size ≤ q.1 ∧ q.1 ≠ C) ∧ DatIn g' (.ref D) (.list (((List.range k).filter t).map d))

theorem cmp_loop {elt target iter : Expr} {ifs : List Expr} {scope : Scope} {cl : List (Str × Addr)} {pos : Pos} {I : Addr} {k : Nat} {Ω : Nat → Lg → Prop} {Rd : Heap → Prop} {B : Nat → Lm → Lm → Prop}
    {ω σ : Lg} {Js : Nat → Lg → Lg → Prop} {t : Nat → Bool} {d : Nat → Dat} {RR : Value → Addr → Result → Shared → Prop} (X : Cmp w A env elt target iter ifs scope cl s I k Ω Rd B ω σ Js t d)
    (hself : ∀ (s : Shared) (Q : Value → Shared → Prop) (E : Value → Shared → Prop) (ω : Lg), Ω 0 ω → (∀ q ∈ ω, s.heap.get? q.1 = some q.2) → Q (.ref I) s → wpAny (model pw w) A (pyIter (.ref I)) Q E s)
    (hcell : ∀ y ∈ scope.names, y.2 ≠ .cell) (hkind : scope.kind = .function)
    (hRR : ∀ D C h' tk, CmpEnd s k ω σ Js t d D C h' → RR (.ref D) C (.ok .next) { s with heap := h', toks := tk }) :
    wpAny (model pw w) A (newList []) (fun acc s₃ => wpAny (model pw w) A (newFunctionEnv scope env.globals cl [] env.qual none .none (some env)) (fun cenv s₄ =>
      codeAny (model pw w) A (.compStart (.ListComp elt [⟨target, iter, ifs, 0⟩] scope pos) 0 (.ref I) acc { cenv with scope := relabel scope env }) (RR acc cenv.locals) s₄) E s₃) E s := by
  refine wpAny_newObj_type (wpAny_newFunctionEnv hcell (by intro y hy; simp at hy) (fun h₁ hns₁ hsb₁ => ?_) hkind)
  dsimp only at hns₁ hsb₁ ⊢
  generalize hH2 : s.heap.push { cls := .type "list", dict := none, data := .seq ([] : List Value).toArray } = H2 at hns₁ hsb₁ ⊢
  have hC : H2.objs.size = s.heap.objs.size + 1 := by rw [← hH2, Heap.size_push]
  have hDC : s.heap.objs.size ≠ H2.objs.size := by omega
  have below : ∀ b, b < s.heap.objs.size → b ≠ H2.objs.size := fun b hb => by omega
  have old : ∀ b o, s.heap.get? b = some o → h₁.get? b = some o := fun b o e => hsb₁.extBut b o (below b (Heap.lt_size e)) (Heap.get?_push_of_some _ (hH2 ▸ Heap.get?_push_of_some _ e))
  have hD : h₁.get? s.heap.objs.size = some (listOf #[] 0) := hsb₁.extBut _ _ hDC (Heap.get?_push_of_some _ (hH2 ▸ Heap.get?_push_size _ rfl))
  have hlt : ∀ q ∈ ω ++ σ, q.1 < s.heap.objs.size := fun q hq => Heap.lt_size (X.al q hq)
  have S₀ : Sm (hideAll s.heap ((ω ++ σ).map (·.1))) s.heap.objs.size H2.objs.size h₁ (fun _ => none) (ω ++ ((s.heap.objs.size, listOf #[] 0) :: σ)) [] := by
    have nd := X.nd
    rw [List.map_append] at nd
    obtain ⟨n1, n2, n3⟩ := List.nodup_append.mp nd
    have hDω : ∀ (l : Lg), (∀ q ∈ l, q ∈ ω ++ σ) → s.heap.objs.size ∉ l.map (·.1) := fun l hl q => by
      obtain ⟨r, hr, e⟩ := List.mem_map.mp q
      exact absurd (hlt r (hl r hr)) (Nat.not_lt.mpr (Nat.le_of_eq (show s.heap.objs.size = r.1 from e.symm)))
    refine ⟨⟨by simpa using hns₁, fun b o e => old b o (of_hideAll _ e), by rw [hideAll_size]; omega⟩, fun q hq => ?_, ?_, fun q hq => (nomatch hq), by omega⟩
    · have key : ∀ r ∈ ω ++ σ, h₁.get? r.1 = some r.2 ∧ r.1 ≠ H2.objs.size ∧ (hideAll s.heap ((ω ++ σ).map (·.1))).get? r.1 = none := fun r hr => ⟨old _ _ (X.al r hr), below _ (hlt r hr), hideAll_none _ (mem1 hr rfl)⟩
      rcases List.mem_append.mp hq with hq | hq
      · exact key q (List.mem_append_left _ hq)
      · rcases List.mem_cons.mp hq with rfl | hq
        · refine ⟨hD, hDC, ?_⟩
          cases z : (hideAll s.heap ((ω ++ σ).map (·.1))).get? s.heap.objs.size with
          | none => rfl
          | some o => exact absurd (Heap.lt_size (of_hideAll _ z)) (Nat.lt_irrefl _)
        · exact key q (List.mem_append_right _ hq)
    · rw [List.map_append, List.map_cons]
      refine List.nodup_append.mpr ⟨n1, List.nodup_cons.mpr ⟨hDω σ (fun q hq => List.mem_append_right _ hq), n2⟩, fun a ha b hb => ?_⟩
      rcases List.mem_cons.mp hb with rfl | hb
      · exact fun e => hDω ω (fun q hq => List.mem_append_left _ hq) ((show a = s.heap.objs.size from e) ▸ ha)
      · exact n3 a ha b hb
  have keepP : ∀ b o, b ∉ (ω ++ σ).map (·.1) → s.heap.get? b = some o → (hideAll s.heap ((ω ++ σ).map (·.1))).get? b = some o := fun b o hb e => hideAll_get _ e hb
  have loop : ∀ s₃ : Shared, s₃ = { s with heap := h₁, toks := s.toks + ([] : List (Str × Value)).length } →
      codeAny (model pw w) A (.compLoop (.ListComp elt [⟨target, iter, ifs, 0⟩] scope pos) 0 (.ref I) (.ref s.heap.objs.size) (compEnvC scope cl H2.objs.size env)) (RR (.ref s.heap.objs.size) H2.objs.size) s₃ := by
    rintro s₃ rfl
    refine codeAny_compLoop_any (fun kk s' => ∃ i h' tk ys nn m' σ' ω' g', s' = { s with heap := h', toks := tk } ∧ i ≤ k ∧ kk = k + 1 - i ∧ Ω i ω' ∧ Js i σ' g' ∧ σ'.map (·.1) = σ.map (·.1) ∧ ys.length ≤ i ∧
        Sm (hideAll s.heap ((ω ++ σ).map (·.1))) s.heap.objs.size H2.objs.size h' m' (ω' ++ ((s.heap.objs.size, listOf ys.toArray nn) :: σ')) g' ∧ DatAll g' ys (((List.range i).filter t).map d)) ?_ (k + 1)
      ⟨0, h₁, _, [], 0, _, σ, ω, [], rfl, Nat.zero_le _, rfl, X.om, X.js, rfl, Nat.le_refl _, S₀, .nil⟩
    rintro kk s' ⟨i, h', tk, ys, nn, m', σ', ω', g', rfl, hi, rfl, hΩ', hJ', hσ', hys, S', hD'⟩
    have hRd : Rd h' := X.rd h' fun b o hb e => S'.F.keep b o (keepP b o hb e)
    refine wpAny_mono (X.hd H2.objs.size i _ (notedBy (model pw w) A (compEnvC scope cl H2.objs.size env) fun e s' => RR (.ref s.heap.objs.size) H2.objs.size (.error e) s') _ _ m' ((s.heap.objs.size, listOf ys.toArray nn) :: σ') g' ω' (fun b s₁ => if b = true then
        wpAny (model pw w) A (forIn ifs true fun c r => if r = true then do let ok ← isTrue c (compEnvC scope cl H2.objs.size env) (eval c (compEnvC scope cl H2.objs.size env)); pure (ForInStep.yield ok) else pure (ForInStep.yield r)) (fun ok s₃ =>
            if ok = true then wpAny (model pw w) A (eval elt (compEnvC scope cl H2.objs.size env)) (fun x s₄ =>
              wpAny (model pw w) A (call (.builtin "list.append") [.ref s.heap.objs.size, x]) (fun _ s₅ => ∃ mm, mm < k + 1 - i ∧ ∃ i h' tk ys nn m' σ' ω' g', s₅ = { s with heap := h', toks := tk } ∧ i ≤ k ∧ mm = k + 1 - i ∧ Ω i ω' ∧ Js i σ' g' ∧ σ'.map (·.1) = σ.map (·.1) ∧ ys.length ≤ i ∧
        Sm (hideAll s.heap ((ω ++ σ).map (·.1))) s.heap.objs.size H2.objs.size h' m' (ω' ++ ((s.heap.objs.size, listOf ys.toArray nn) :: σ')) g' ∧ DatAll g' ys (((List.range i).filter t).map d)) (notedBy (model pw w) A (compEnvC scope cl H2.objs.size env) fun e s' => RR (.ref s.heap.objs.size) H2.objs.size (.error e) s') s₄) (notedBy (model pw w) A (compEnvC scope cl H2.objs.size env) fun e s' => RR (.ref s.heap.objs.size) H2.objs.size (.error e) s') s₃
            else ∃ mm, mm < k + 1 - i ∧ ∃ i h' tk ys nn m' σ' ω' g', s₃ = { s with heap := h', toks := tk } ∧ i ≤ k ∧ mm = k + 1 - i ∧ Ω i ω' ∧ Js i σ' g' ∧ σ'.map (·.1) = σ.map (·.1) ∧ ys.length ≤ i ∧
        Sm (hideAll s.heap ((ω ++ σ).map (·.1))) s.heap.objs.size H2.objs.size h' m' (ω' ++ ((s.heap.objs.size, listOf ys.toArray nn) :: σ')) g' ∧ DatAll g' ys (((List.range i).filter t).map d)) (notedBy (model pw w) A (compEnvC scope cl H2.objs.size env) fun e s' => RR (.ref s.heap.objs.size) H2.objs.size (.error e) s') s₁
        else RR (.ref s.heap.objs.size) H2.objs.size (.ok .next) s₁) hi hΩ' hRd S' ?_ ?_) (fun r s₁ h₁ => ?_) fun _ _ e => e
    · intro h₂ tk₂ ω₂ m₂ hlt hΩ₂ hB S₂
      rw [if_pos rfl]
      have P₂ : (ω₂ ++ ((s.heap.objs.size, listOf ys.toArray nn) :: σ')).Perm (σ' ++ (ω₂ ++ [(s.heap.objs.size, listOf ys.toArray nn)])) := by
        rw [show ω₂ ++ ((s.heap.objs.size, listOf ys.toArray nn) :: σ') = (ω₂ ++ [(s.heap.objs.size, listOf ys.toArray nn)]) ++ σ' from by simp]
        exact List.perm_append_comm
      have S₂' := S₂.perm P₂
      refine wpAny_mono (X.tst i H2.objs.size _ _ m' m₂ _ _ σ' h₂ tk₂ hlt hJ' hB keepP (Nat.le_refl _) S₂') (fun ok s₃ h₃ => ?_) fun _ _ e => e.elim
      obtain ⟨rfl, h₃', tk₃, rfl, hk₃, hJf⟩ := h₃
      have S₃ := S₂'.keeps hk₃
      have rg : (List.range (i + 1)).filter t = (List.range i).filter t ++ (if t i = true then [i] else []) := by
        rw [List.range_succ, List.filter_append, List.filter_cons, List.filter_nil]
      cases ht : t i with
      | false =>
        rw [if_neg Bool.false_ne_true]
        refine ⟨k + 1 - (i + 1), by omega, i + 1, h₃', tk₃, ys, nn, m₂, σ', ω₂, g', rfl, hlt, rfl, hΩ₂, hJf ht, hσ', by omega, S₃.perm P₂.symm, ?_⟩
        rw [rg, ht, if_neg Bool.false_ne_true, List.append_nil]
        exact hD'
      | true =>
        rw [if_pos rfl]
        refine wpAny_mono (X.el i H2.objs.size _ _ m' m₂ _ _ σ' h₃' tk₃ hlt ht hJ' hB keepP (Nat.le_refl _) S₃) (fun y s₄ h₄ => ?_) fun _ _ e => e.elim
        obtain ⟨h₄', tk₄, σ₄, g₄, rfl, S₄, hσ₄, hJ₄, hy⟩ := h₄
        have P₄ : (σ₄ ++ (ω₂ ++ [(s.heap.objs.size, listOf ys.toArray nn)])).Perm ((s.heap.objs.size, listOf ys.toArray nn) :: (ω₂ ++ σ₄)) := by
          refine List.perm_append_comm.trans ?_
          rw [List.append_assoc]
          exact List.perm_middle
        have S₄' := S₄.perm P₄
        have hDo := (S₄'.M _ (.head _)).1
        refine wpAny_list_append_plain (items := ys.toArray) ⟨nn, hDo⟩ (fun h₅ hl₅ hs₅ => ?_) (by rw [List.size_toArray]; have := X.sz; omega)
        obtain ⟨n₅, hD₅⟩ := hl₅
        have S₅ : Sm (hideAll s.heap ((ω ++ σ).map (·.1))) s.heap.objs.size H2.objs.size h₅ m₂ ((s.heap.objs.size, listOf (ys ++ [y]).toArray n₅) :: (ω₂ ++ σ₄)) (g₄ ++ g') :=
          Sm.chg S₄' (fun b x hb e => hs₅.extBut b x hb e) (by simpa using hD₅)
        refine ⟨k + 1 - (i + 1), by omega, i + 1, h₅, tk₄, ys ++ [y], n₅, m₂, σ₄, ω₂, g₄ ++ g', rfl, hlt, rfl, hΩ₂, hJ₄, hσ₄.trans hσ', by simp; omega, S₅.perm List.perm_middle.symm, ?_⟩
        rw [rg, ht, if_pos rfl, List.map_append]
        exact (hD'.mono fun q hq => List.mem_append_right _ hq).append (.one (hy.mono fun q hq => List.mem_append_left _ hq))
    · intro h₂ tk₂ e S₂
      rw [if_neg Bool.false_ne_true]
      subst e
      refine hRR _ _ _ _ ⟨m', σ', (s.heap.objs.size, listOf ys.toArray nn) :: g', S₂.F.ns, by omega, Nat.le_refl _, X.jm _ _ _ _ hJ' (fun q hq => .tail _ hq), hσ', fun q hq => (S₂.M q (.tail _ hq)).1, fun b o hb e => S₂.F.keep b o (keepP b o hb e), fun q hq => ?_, ?_⟩
      · rcases List.mem_cons.mp hq with rfl | hq
        · exact ⟨(S₂.M _ (.head _)).1, Nat.le_refl _, hDC⟩
        · exact ⟨(S₂.G q hq).1, (S₂.G q hq).2.1, (S₂.G q hq).2.2.1⟩
      · exact .list (.head _) (hD'.mono fun q hq => .tail _ hq)
    · cases r with
      | none => rw [if_neg Bool.false_ne_true] at h₁; exact h₁
      | some v => exact wpAny_mono h₁ (fun _ s₂ h₂ => wpAny_mono h₂ (fun _ s₃ h₃ => by rw [if_pos rfl] at h₃; exact h₃) fun _ _ e => e) fun _ _ e => e
  exact codeAny_compStart_list (loop _ rfl) (hself _ _ _ ω X.om (fun q hq => old _ _ (X.al q (List.mem_append_left _ hq))) (loop _ rfl))

theorem cmp_eval {elt target iter : Expr} {ifs : List Expr} {scope : Scope} {cl : List (Str × Addr)} {pos : Pos} {Q : Value → Shared → Prop}
    (hclos : closureFor scope env = pure cl) (hcell : ∀ y ∈ scope.names, y.2 ≠ .cell) (hkind : scope.kind = .function) (hnames : ∀ y ∈ scope.names, y.2 = .local → scope.names.lookup y.1 = some .local)
    (h : wpAny (model pw w) A (eval iter env) (fun xv s₁ => wpAny (model pw w) A (pyIter xv) (fun it s₂ => ∃ I k Ω Rd B ω σ Js t d, it = .ref I ∧ Cmp w A env elt target iter ifs scope cl s₂ I k Ω Rd B ω σ Js t d ∧
      (∀ (s : Shared) (Q : Value → Shared → Prop) (E : Value → Shared → Prop) (ω : Lg), Ω 0 ω → (∀ q ∈ ω, s.heap.get? q.1 = some q.2) → Q (.ref I) s → wpAny (model pw w) A (pyIter (.ref I)) Q E s) ∧
      (∀ D h' tk σ' g', Js k σ' g' → σ'.map (·.1) = σ.map (·.1) → (∀ q ∈ σ', h'.get? q.1 = some q.2) → (∀ b o, b ∉ (ω ++ σ).map (·.1) → s₂.heap.get? b = some o → h'.get? b = some o) → (∀ q ∈ g', h'.get? q.1 = some q.2 ∧ s₂.heap.objs.size ≤ q.1) →
        DatIn g' (.ref D) (.list (((List.range k).filter t).map d)) → Q (.ref D) { s₂ with heap := h', toks := tk })) E s₁) E s)
    (hs : ∀ x, foldedSetIterable iter env x = pure x := by intro _; rfl) :
    wpAny (model pw w) A (eval (.ListComp elt [⟨target, iter, ifs, 0⟩] scope pos) env) Q E s := by
  rw [eval_ListComp]
  refine wpAny_comprehension_free (use := none) rfl hs hclos hkind hnames (wpAny_mono h (fun xv s₁ h₁ => wpAny_mono h₁ (fun it s₂ h₂ => ?_) fun _ _ e => e) fun _ _ e => e)
  obtain ⟨I, k, Ω, Rd, B, ω, σ, Js, t, d, rfl, X, hself, hfin⟩ := h₂
  refine cmp_loop (RR := fun acc C => compPost (model pw w) A E none Q acc C) X hself hcell hkind ?_
  rintro D C h' tk ⟨m', σ', g', hn, hC, hD, hJ, hσ, hσa, hk, hg, hd⟩
  refine ⟨m', hn, fun h'' hs'' => ?_⟩
  have lt : ∀ q ∈ ω ++ σ, q.1 < s₂.heap.objs.size := fun q hq => Heap.lt_size (X.al q hq)
  have nσ : ∀ q ∈ σ', q.1 ≠ C := fun q hq e => by
    have : q.1 ∈ σ.map (·.1) := hσ ▸ mem1 hq rfl
    obtain ⟨r, hr, er⟩ := List.mem_map.mp this
    have l := lt r (List.mem_append_right _ hr)
    have er' : r.1 = q.1 := er
    exact absurd l (Nat.not_lt.mpr (by rw [er', e]; exact hC))
  exact hfin D h'' tk σ' g' hJ hσ (fun q hq => (hs''.2 _ (nσ q hq)).trans (hσa q hq)) (fun b o hb e => (hs''.2 _ (Nat.ne_of_lt (Nat.lt_of_lt_of_le (Heap.lt_size e) hC))).trans (hk b o hb e))
    (fun q hq => ⟨(hs''.2 _ (hg q hq).2.2).trans (hg q hq).1, (hg q hq).2.1⟩) hd

theorem cmp_use {elt target iter : Expr} {ifs : List Expr} {scope : Scope} {cl : List (Str × Addr)} {pos spos py : Pos} {y : Str} {Q : Flow → Shared → Prop}
    (hsw : swapsWith (.ListComp elt [⟨target, iter, ifs, 0⟩] scope pos) (some (.Name y py)) spos.line env = pure true)
    (hclos : closureFor scope env = pure cl) (hcell : ∀ y ∈ scope.names, y.2 ≠ .cell) (hkind : scope.kind = .function) (hnames : ∀ y ∈ scope.names, y.2 = .local → scope.names.lookup y.1 = some .local)
    (hf : Fnk env) (hy : env.kindOf y = some .local)
    (h : wpAny (model pw w) A (eval iter env) (fun xv s₁ => wpAny (model pw w) A (pyIter xv) (fun it s₂ => ∃ p n m μ g I k Ω Rd B ω σ Js t d, it = .ref I ∧ Cmp w A env elt target iter ifs scope cl s₂ I k Ω Rd B ω σ Js t d ∧
      (∀ (s : Shared) (Q : Value → Shared → Prop) (E : Value → Shared → Prop) (ω : Lg), Ω 0 ω → (∀ q ∈ ω, s.heap.get? q.1 = some q.2) → Q (.ref I) s → wpAny (model pw w) A (pyIter (.ref I)) Q E s) ∧
      Sm p n env.locals s₂.heap m (ω ++ (σ ++ μ)) g ∧
      (∀ D h' tk σ' g', Js k σ' g' → σ'.map (·.1) = σ.map (·.1) → Sm p n env.locals h' (m.up y (.ref D)) (σ' ++ μ) (g' ++ g) → (∀ q ∈ g', s₂.heap.objs.size ≤ q.1) →
        DatIn g' (.ref D) (.list (((List.range k).filter t).map d)) → Q .next { s₂ with heap := h', toks := tk })) E s₁) E s)
    (hs : ∀ x, foldedSetIterable iter env x = pure x := by intro _; rfl) :
    wpAny (model pw w) A (exec (.Assign [.Name y py] (.ListComp elt [⟨target, iter, ifs, 0⟩] scope pos) spos) env) Q E s := by
  rw [exec_Assign_Name_used _ _ _ _ hsw]
  refine wpAny_bind (wpAny_standAt (wpAny_bind ?_))
  show wpAny (model pw w) A (do let _ ← comprehension (.ListComp elt [⟨target, iter, ifs, 0⟩] scope pos) scope env _ (newList []) false (eval iter env) (some (assign (.Name y py) env))) _ E s
  refine wpAny_bind (wpAny_mono (wpAny_comprehension_free (use := some (assign (.Name y py) env)) (Q := fun _ s' => Q .next s') rfl hs hclos hkind hnames
    (wpAny_mono h (fun xv s₁ h₁ => wpAny_mono h₁ (fun it s₂ h₂ => ?_) fun _ _ e => e) fun _ _ e => e)) (fun _ s' hq => wpAny_pure (wpAny_pure hq)) fun _ _ e => e)
  obtain ⟨p, n, m, μ, g, I, k, Ω, Rd, B, ω, σ, Js, t, d, rfl, X, hself, S, hfin⟩ := h₂
  refine cmp_loop (RR := fun acc C => compPost (model pw w) A E (some (assign (.Name y py) env)) (fun _ s' => Q .next s') acc C) X hself hcell hkind ?_
  rintro D C h' tk ⟨m', σ', g', hn, hC, hD, hJ, hσ, hσa, hk, hg, hd⟩
  have hL : env.locals < s₂.heap.objs.size := S.lt
  have S1 : Sm p n env.locals h' m (σ' ++ μ) g := S.turn hσ hk hσa
  have al : ∀ r ∈ σ' ++ μ, r.1 < s₂.heap.objs.size := fun r hr => by
    rcases List.mem_append.mp hr with hr | hr
    · have : r.1 ∈ σ.map (·.1) := hσ ▸ mem1 hr rfl
      obtain ⟨z, hz, e⟩ := List.mem_map.mp this
      have e' : z.1 = r.1 := e
      rw [← e']
      exact Heap.lt_size (X.al z (List.mem_append_right _ hz))
    · exact Heap.lt_size (S.M r (List.mem_append_right _ (List.mem_append_right _ hr))).1
  have ne : ∀ {a b : Addr}, a < s₂.heap.objs.size → s₂.heap.objs.size ≤ b → a ≠ b := fun h1 h2 e => absurd h1 (Nat.not_lt.mpr (by rw [e]; exact h2))
  have S2 : Sm p n env.locals h' m (σ' ++ μ) (g' ++ g) := S1.addG fun q hq => ⟨(hg q hq).1, Nat.le_trans S.low (hg q hq).2.1, (ne hL (hg q hq).2.1).symm, fun r hr => ne (al r hr) (hg q hq).2.1⟩
  show wpAny (model pw w) A (assign (.Name y py) env (.ref D)) _ _ _
  refine wpAny_assign_Name (wpAny_storeName_local hy S2.F.ns (fun h₂ hn₂ hs₂ => ?_) (fnkP hf))
  have S3 : Sm p n env.locals h₂ (m.up y (.ref D)) (σ' ++ μ) (g' ++ g) := S2.sto hs₂ hn₂
  refine ⟨m', hn.sameBut hs₂ (ne hL hC).symm, fun h₃ hs₃ => ?_⟩
  have S4 := S3.off (h' := h₃) (C := C) (fun b x hb e => hs₃.extBut b x hb e) (ne hL hC) (S.none hC) (fun q hq => ne (al q hq) hC) (fun q hq => (List.mem_append.mp hq).elim (fun z => (hg q z).2.2) fun z => ne (Heap.lt_size (S.G q z).1) hC)
  exact hfin D h₃ _ σ' g' hJ hσ S4 (fun q hq => (hg q hq).2.1) hd
end
end Wo

namespace Wo

theorem up_hit {m : Lm} {x : Str} {v : Value} : (m.up x v) x = some v := if_pos rfl
theorem up_ne {m : Lm} {x y : Str} {v : Value} {r : Option Value} (h : y ≠ x) (e : m y = r) : (m.up x v) y = r := (if_neg h).trans e
noncomputable def Lv (h : Heap) (g : Lg) : Prop := ∀ q ∈ g, h.get? q.1 = some q.2
theorem Sm.lv {p h : Heap} {n : Nat} {L : Addr} {m : Lm} {μ g : Lg} (S : Sm p n L h m μ g) : Lv h g := fun q hq => (S.G q hq).1
theorem Lv.keeps {h h' : Heap} {g : Lg} (l : Lv h g) (k : Kp h h') : Lv h' g := fun q hq => k _ _ (l q hq)
theorem dlist {g : Lg} {a : Addr} {ds : List Dat} (hd : DatIn g (.ref a) (.list ds)) : ∃ vs n, (a, listOf vs.toArray n) ∈ g ∧ DatAll g vs ds := by
  cases hd with
  | list h r => exact ⟨_, _, h, r⟩
theorem dtup {g : Lg} {a : Addr} {ds : List Dat} (hd : DatIn g (.ref a) (.tuple ds)) : ∃ vs n, (a, ({ cls := .type "tuple", data := .seq vs.toArray n } : Obj)) ∈ g ∧ DatAll g vs ds := by
  cases hd with
  | tuple h r => exact ⟨_, _, h, r⟩
theorem dref {g : Lg} {v : Value} {ds : List Dat} (hd : DatIn g v (.list ds)) : ∃ a, v = .ref a := by
  cases hd with
  | list h r => exact ⟨_, rfl⟩
theorem dstr {g : Lg} {v : Value} {x : Str} (hd : DatIn g v (.str x)) : ∃ t, v = .str x t := by
  cases hd; exact ⟨_, rfl⟩
theorem dint {g : Lg} {v : Value} {i : Int} (hd : DatIn g v (.int i)) : ∃ t, v = .int i t := by
  cases hd; exact ⟨_, rfl⟩
theorem Lv.list {h : Heap} {g : Lg} {a : Addr} {its : Array Value} {n : Nat} (l : Lv h g) (hm : (a, listOf its n) ∈ g) : h.IsList a its := ⟨_, l _ hm, rfl, n, rfl⟩
theorem Lv.tup {h : Heap} {g : Lg} {a : Addr} {its : Array Value} {n : Nat} (l : Lv h g) (hm : (a, ({ cls := .type "tuple", data := .seq its n } : Obj)) ∈ g) : IsTup h a its := ⟨_, l _ hm, rfl, n, rfl⟩

section
variable {w : World} {A : Around} {E : Value → Shared → Prop} {s : Shared} {env : Env} {p : Heap} {n : Nat} {L : Addr} {m : Lm} {μ g : Lg} {mg mb : Str → Option Value}

theorem nmS {x : Str} {pos : Pos} {v : Value} {Q : Value → Shared → Prop} (S : Sm p n env.locals s.heap m μ g) (hv : m x = some v) (h : Q v s)
    (hk : env.scope.kind = .function) (hl : env.kindOf x = some .local) (hd : (x == ("__debug__" : Str)) = false) : wpAny (model pw w) A (eval (.Name x pos) env) Q E s :=
  nmL S.F rfl hv h hk hl hd
theorem nmSG {x : Str} {pos : Pos} {v : Value} {Q : Value → Shared → Prop} (B : Bs w mg mb p) (S : Sm p n L s.heap m μ g) (e : nsIn (KK w) mainGlobals x = some (some v)) (hq : Q v s)
    (hg : env.globals = mainGlobals) (hk : env.scope.kind = .function) (hl : env.kindOf x = some .globalImplicit) (hd : (x == ("__debug__" : Str)) = false) : wpAny (model pw w) A (eval (.Name x pos) env) Q E s :=
  nmG B S.F.keep e hq hg hk hl hd
theorem nmSB {x : Str} {pos : Pos} {v : Value} {Q : Value → Shared → Prop} (B : Bs w mg mb p) (S : Sm p n L s.heap m μ g) (e : nsIn (KK w) mainGlobals x = some none) (hv : bootBuiltins x = some v) (hn : x ≠ "__name__") (hq : Q v s)
    (hg : env.globals = mainGlobals) (hb : env.builtins = builtinsNs) (hk : env.scope.kind = .function) (hl : env.kindOf x = some .globalImplicit) (hd : (x == ("__debug__" : Str)) = false) : wpAny (model pw w) A (eval (.Name x pos) env) Q E s :=
  nmB B S.F.keep e hv hn hq hg hb hk hl hd

theorem listS {vs : List Value} {Q : Value → Shared → Prop} (S : Sm p n L s.heap m μ g) (hsz : vs.length ≤ sizeLine)
    (h : ∀ a h', Sm p n L h' m μ ((a, listOf vs.toArray 0) :: g) → s.heap.objs.size ≤ a → Kp s.heap h' → Q (.ref a) { s with heap := h' }) : wpAny (model pw w) A (newList vs) Q E s :=
  wpAny_newObj_type (h _ _ S.alG (Nat.le_refl _) fun b o e => Heap.get?_push_of_some _ e) (by show vs.toArray.size ≤ sizeLine; rw [List.size_toArray]; exact hsz)
theorem tupS {vs : List Value} {Q : Value → Shared → Prop} (S : Sm p n L s.heap m μ g) (hsz : vs.length ≤ sizeLine)
    (h : ∀ a h', Sm p n L h' m μ ((a, { cls := .type "tuple", data := .seq vs.toArray }) :: g) → s.heap.objs.size ≤ a → Kp s.heap h' → Q (.ref a) { s with heap := h' }) : wpAny (model pw w) A (newTuple vs) Q E s :=
  wpAny_newObj_type (h _ _ S.alG (Nat.le_refl _) fun b o e => Heap.get?_push_of_some _ e) (by show vs.toArray.size ≤ sizeLine; rw [List.size_toArray]; exact hsz)
theorem catS {a b : Addr} {vs ws : List Value} {Q : Value → Shared → Prop} (S : Sm p n L s.heap m μ g) (ha : s.heap.IsList a vs.toArray) (hb : s.heap.IsList b ws.toArray) (hsz : vs.length + ws.length ≤ sizeLine)
    (h : ∀ a h', Sm p n L h' m μ ((a, listOf (vs ++ ws).toArray 0) :: g) → s.heap.objs.size ≤ a → Kp s.heap h' → Q (.ref a) { s with heap := h' }) : wpAny (model pw w) A (binaryOp .Add (.ref a) (.ref b)) Q E s := by
  obtain ⟨o1, e1, c1, n1, d1⟩ := ha
  obtain ⟨o2, e2, c2, n2, d2⟩ := hb
  obtain ⟨k1, i1, j1, l1⟩ := o1
  obtain ⟨k2, i2, j2, l2⟩ := o2
  cases c1; cases d1; cases c2; cases d2
  refine concat_meets ⟨_, e1, rfl⟩ ⟨_, e2, rfl⟩ noFill_list_add seq_list_add PySem.F.slot_list_add PySem.F.entry_list_add (PySem.F.args_list_add_2 _ _)
    (list_addW a b _ _ n1 n2 _ _ _ _ (by rw [List.size_toArray, List.size_toArray]; exact hsz)) ⟨e1, e2, ?_⟩
  have q := h _ _ (S.alG (o := listOf (vs ++ ws).toArray 0)) (Nat.le_refl _) fun b o e => Heap.get?_push_of_some _ e
  rw [← List.append_toArray] at q
  exact q
theorem sliceS {l sl : Addr} {items : Array Value} {vl vu : Value} {lo hi : Option Int} {Q : Value → Shared → Prop} (S : Sm p n L s.heap m μ g) (hl : s.heap.IsList l items)
    (hs : s.heap.IsSliceOf sl vl vu .none) (pl : IsPart vl lo) (pu : IsPart vu hi) (hsz : items.size ≤ sizeLine)
    (h : ∀ a h', Sm p n L h' m μ ((a, listOf (slicePick items lo hi none) 0) :: g) → s.heap.objs.size ≤ a → Kp s.heap h' → Q (.ref a) { s with heap := h' }) : wpAny (model pw w) A (getItem (.ref l) (.ref sl)) Q E s :=
  wpAny_getItem_list_slice hl hs pl pu .none (by simp) (h _ _ S.alG (Nat.le_refl _) fun b o e => Heap.get?_push_of_some _ e) hsz

theorem strLast {x : Str} {t u : Tok} {k : Int} {c : Nat} {Q : Value → Shared → Prop} (hk : k = -1) (hc : x.cps.back? = some c) (h : ∀ tk t', Q (.str ⟨#[c]⟩ t') { s with toks := tk }) :
    wpAny (model pw w) A (getItem (.str x t) (.int k u)) Q E s := by
  subst hk
  have h1 : 0 < x.cps.size := by
    rcases Nat.eq_zero_or_pos x.cps.size with e | e
    · rw [Array.back?_eq_getElem?, Array.getElem?_eq_none (by omega)] at hc; cases hc
    · exact e
  refine P.getItem_str (by decide) ?_ (h _ _)
  unfold seqIndex?
  have e1 : ((-1 : Int) + (x.length : Int)).toNat = x.cps.size - 1 := by show ((-1 : Int) + (x.cps.size : Int)).toNat = _; omega
  have e2 : (decide (0 ≤ (-1 : Int) + (x.length : Int)) && decide ((-1 : Int) + (x.length : Int) < (x.length : Int))) = true := by
    show (decide (0 ≤ (-1 : Int) + (x.cps.size : Int)) && decide ((-1 : Int) + (x.cps.size : Int) < (x.cps.size : Int))) = true
    simp; omega
  simp only [show ((-1 : Int) < 0) from by decide, if_true, e2, e1, Option.bind_some]
  rw [← Array.back?_eq_getElem?]; exact hc
end
section
variable {w : World}
theorem g_law_rank : nsIn (KK w) mainGlobals "_law_rank" = some (some (.ref 181)) := by kernel_rfl
theorem g_law_runs : nsIn (KK w) mainGlobals "_law_runs" = some (some (.ref 188)) := by kernel_rfl
theorem g_law_powers : nsIn (KK w) mainGlobals "_law_powers" = some (some (.ref 193)) := by kernel_rfl
theorem g_law_joined : nsIn (KK w) mainGlobals "_law_joined" = some (some (.ref 198)) := by kernel_rfl
theorem g_law_piled : nsIn (KK w) mainGlobals "_law_piled" = some (some (.ref 205)) := by kernel_rfl
theorem g_law_halved : nsIn (KK w) mainGlobals "_law_halved" = some (some (.ref 212)) := by kernel_rfl
theorem g_bisect_left : nsIn (KK w) mainGlobals "bisect_left" = some (some (.ref 90)) := by kernel_rfl
theorem g_bisect_right : nsIn (KK w) mainGlobals "bisect_right" = some (some (.ref 81)) := by kernel_rfl
theorem g_insort_right : nsIn (KK w) mainGlobals "insort_right" = some (some (.ref 72)) := by kernel_rfl
theorem g_int_divmod : nsIn (KK w) mainGlobals "int_divmod" = some (some (.ref 63)) := by kernel_rfl
theorem g_divmod_pos : nsIn (KK w) mainGlobals "_divmod_pos" = some (some (.ref 56)) := by kernel_rfl
theorem g_digits2int : nsIn (KK w) mainGlobals "_digits2int" = some (some (.ref 49)) := by kernel_rfl
theorem g_int2digits : nsIn (KK w) mainGlobals "_int2digits" = some (some (.ref 42)) := by kernel_rfl
theorem g_div2n1n : nsIn (KK w) mainGlobals "_div2n1n" = some (some (.ref 28)) := by kernel_rfl
theorem g_Accumulator : nsIn (KK w) mainGlobals "_Accumulator" = some (some (.ref 170)) := by kernel_rfl
end
section
variable {w : World} {A : Around} {E : Value → Shared → Prop} {s : Shared}
theorem tailB {value slice : Expr} {o i : Value} {T id : String} {us : List Value} {Q : Value → Shared → Prop} (hT : s.TypeIs o T)
    (hl : typeLookup (.type T) "__getitem__" = pure (some (.builtin id))) (h : wpAny (model pw w) A (getItem o i) Q E s)
    (hs : subscripted slice false o i = operate us (getItem o i)) (ht : ∀ r, letTemporaryGo value o r = pure ()) :
    wpAny (model pw w) A (subscriptTail value slice o i) Q E s := by
  unfold subscriptTail
  refine wpAny_bind ?_
  rw [getitemInPython_of_ne hT.not_modules]
  refine wpAny_bind (wpAny_specialOf hT hl (wpAny_pure (wpAny_bind ?_)))
  rw [hs]
  exact wpAny_operating (wpAny_mono h (fun r s₃ h₃ => wpAny_bind (wpAny_of_eq (ht r) (wpAny_pure h₃))) fun _ _ x => x)
end
section
variable {w : World} {A : Around} {E : Value → Shared → Prop} {s : Shared}
theorem strNil {x : Str} (h : (x.length == 0) = true) : x.cps = #[] := by
  have e : x.length = 0 := by simpa using h
  exact Array.eq_empty_of_size_eq_zero e
theorem strCps (x y : Str) : (x ++ y).cps = x.cps ++ y.cps := rfl
theorem addStr {x y : Str} {t u : Tok} {Q : Value → Shared → Prop} (hsz : x.length + y.length ≤ sizeLine) (h : ∀ t' tk, Q (.str (x ++ y) t') { s with toks := tk }) : wpAny (model pw w) A (binaryOp .Add (.str x t) (.str y u)) Q E s := by
  refine P.add_str ?_
  split
  · rename_i hx
    have e : x ++ y = y := by
      obtain ⟨cx⟩ := x; obtain ⟨cy⟩ := y
      have := strNil hx
      simp only at this; subst this
      show Str.mk (#[] ++ cy) = _; simp
    have := h u s.toks
    rw [e] at this; exact this
  · split
    · rename_i hy
      have e : x ++ y = x := by
        obtain ⟨cx⟩ := x; obtain ⟨cy⟩ := y
        have := strNil hy
        simp only at this; subst this
        show Str.mk (cx ++ #[]) = _; simp
      have := h t s.toks
      rw [e] at this; exact this
    · exact ⟨by show (x.cps ++ y.cps).size ≤ sizeLine; rw [Array.size_append]; exact hsz, h _ _⟩
end
theorem b_ord : bootBuiltins "ord" = some (.builtin "ord") := by kernel_rfl
theorem b_len : bootBuiltins "len" = some (.builtin "len") := by kernel_rfl
theorem b_divmod : bootBuiltins "divmod" = some (.builtin "divmod") := by kernel_rfl
theorem b_sum : bootBuiltins "sum" = some (.builtin "sum") := by kernel_rfl
theorem b_int : bootBuiltins "int" = some (.type "int") := by kernel_rfl
theorem b_str : bootBuiltins "str" = some (.type "str") := by kernel_rfl
theorem b_range : bootBuiltins "range" = some (.type "range") := by kernel_rfl
theorem b_zip : bootBuiltins "zip" = some (.type "zip") := by kernel_rfl
theorem b_reversed : bootBuiltins "reversed" = some (.type "reversed") := by kernel_rfl
noncomputable def Fn (f : Addr) (h : Heap) : Prop := ∃ o fd, h.get? f = some o ∧ o.data = .func fd
theorem cwS {w : World} {A : Around} {E : Value → Shared → Prop} {s : Shared} {env : Env} {p : Heap} {f : Addr} {pos : Pos} {e : Expr} {rest : List Expr} {Q : Value → Shared → Prop} (fn : Fn f p)
    (h : wpAny (model pw w) A (spliced (backTo pos (starEach (e :: rest) env))) (fun vs s₁ => Kp p s₁.heap ∧ wpAny (model pw w) A (call (.ref f) vs) Q E s₁) E s)
    (he : starEach (e :: rest) env = (false, eval e env) :: starEach rest env := by rfl) :
    wpAny (model pw w) A (callWith pos (.ref f) [] (backTo pos (starEach (e :: rest) env)) []) Q E s := by
  obtain ⟨o, fd, ho, hd⟩ := fn
  exact callWith_def hd (wpAny_mono h (fun vs s₁ h₁ => ⟨h₁.1 _ _ ho, h₁.2⟩) fun _ _ e => e) he
section
variable {w : World} {mg mb : Str → Option Value} {h : Heap}
theorem fn_law_rank (B : Bs w mg mb h) : Fn 181 h := ⟨_, _, B.K 181 _ rfl, rfl⟩
theorem fn_law_runs (B : Bs w mg mb h) : Fn 188 h := ⟨_, _, B.K 188 _ rfl, rfl⟩
theorem fn_law_powers (B : Bs w mg mb h) : Fn 193 h := ⟨_, _, B.K 193 _ rfl, rfl⟩
theorem fn_law_joined (B : Bs w mg mb h) : Fn 198 h := ⟨_, _, B.K 198 _ rfl, rfl⟩
theorem fn_law_piled (B : Bs w mg mb h) : Fn 205 h := ⟨_, _, B.K 205 _ rfl, rfl⟩
theorem fn_law_halved (B : Bs w mg mb h) : Fn 212 h := ⟨_, _, B.K 212 _ rfl, rfl⟩
theorem fn_bisect_left (B : Bs w mg mb h) : Fn 90 h := ⟨_, _, B.K 90 _ rfl, rfl⟩
theorem fn_bisect_right (B : Bs w mg mb h) : Fn 81 h := ⟨_, _, B.K 81 _ rfl, rfl⟩
theorem fn_insort_right (B : Bs w mg mb h) : Fn 72 h := ⟨_, _, B.K 72 _ rfl, rfl⟩
theorem fn_int_divmod (B : Bs w mg mb h) : Fn 63 h := ⟨_, _, B.K 63 _ rfl, rfl⟩
theorem fn_divmod_pos (B : Bs w mg mb h) : Fn 56 h := ⟨_, _, B.K 56 _ rfl, rfl⟩
theorem fn_digits2int (B : Bs w mg mb h) : Fn 49 h := ⟨_, _, B.K 49 _ rfl, rfl⟩
theorem fn_int2digits (B : Bs w mg mb h) : Fn 42 h := ⟨_, _, B.K 42 _ rfl, rfl⟩
theorem fn_div2n1n (B : Bs w mg mb h) : Fn 28 h := ⟨_, _, B.K 28 _ rfl, rfl⟩
end
end Wo

namespace Wo

theorem Sm.hide {q h : Heap} {L : Addr} {m : Lm} {σ : Lg} (F : Fr q L h m) (hσ : ∀ r ∈ σ, q.get? r.1 = some r.2) (hD : (σ.map (·.1)).Nodup) : Sm (hideAll q (σ.map (·.1))) L L h m σ [] :=
  ⟨⟨F.ns, fun b o e => F.keep b o (of_hideAll _ e), by rw [hideAll_size]; exact F.above⟩, fun r hr => ⟨F.keep _ _ (hσ r hr), fun e => absurd (Heap.lt_size (hσ r hr)) (Nat.not_lt.mpr (by rw [e]; exact F.above)), hideAll_none _ (mem1 hr rfl)⟩, hD, fun _ q => (nomatch q), Nat.le_refl _⟩
theorem kp_hide {p q : Heap} {σ : Lg} (k : Kp p q) (hσ : ∀ r ∈ σ, p.get? r.1 = none) : Kp p (hideAll q (σ.map (·.1))) := fun b o e => hideAll_get _ (k _ _ e) fun z => by
  obtain ⟨r, hr, er⟩ := List.mem_map.mp z
  have er' : r.1 = b := er
  rw [← er', hσ r hr] at e; cases e
noncomputable def KpX (σ : List Addr) (h h' : Heap) : Prop := ∀ b o, b ∉ σ → h.get? b = some o → h'.get? b = some o
theorem kpx_of {p q h' : Heap} {σ : List Addr} (hp : p = hideAll q σ) (k : Kp p h') : KpX σ q h' := fun b o hb e => k b o (hp ▸ hideAll_get _ e hb)

noncomputable def chD (c : Nat) : Dat := .str ⟨#[c]⟩
section
variable {g : Lg}
theorem datTake {vs : List Value} {ds : List Dat} (h : DatAll g vs ds) : ∀ k, DatAll g (vs.take k) (ds.take k) := by
  induction vs generalizing ds with
  | nil => intro k; cases h; simp; exact .nil
  | cons v vs ih =>
    intro k
    cases h with
    | cons h r =>
      cases k with
      | zero => exact .nil
      | succ k => exact .cons h (ih r k)
theorem datDrop {vs : List Value} {ds : List Dat} (h : DatAll g vs ds) : ∀ k, DatAll g (vs.drop k) (ds.drop k) := by
  induction vs generalizing ds with
  | nil => intro k; cases h; simp; exact .nil
  | cons v vs ih =>
    intro k
    cases h with
    | cons h r =>
      cases k with
      | zero => exact .cons h r
      | succ k => exact ih r k
theorem datGet {vs : List Value} {ds : List Dat} (h : DatAll g vs ds) {k : Nat} {d : Dat} (hk : ds[k]? = some d) : ∃ v, vs[k]? = some v ∧ DatIn g v d := by
  obtain ⟨hlt, e⟩ := List.getElem?_eq_some_iff.mp hk
  obtain ⟨v, h1, h2⟩ := h.get hlt
  exact ⟨v, h1, e ▸ h2⟩
theorem chars {vs : List Value} {cs : List Nat} (h : DatAll g vs (cs.map chD)) (i c : Nat) (hc : cs[i]? = some c) : ∃ t, vs[i]? = some (Value.str ⟨#[c]⟩ t) := by
  obtain ⟨v, h1, h2⟩ := datGet h (k := i) (d := chD c) (by simp [hc])
  obtain ⟨t, rfl⟩ := dstr h2
  exact ⟨t, h1⟩
theorem dints {vs : List Value} {ns : List Int} (h : DatAll g vs (ns.map Dat.int)) : IntsAre vs ns := by
  induction vs generalizing ns with
  | nil =>
    have := h.length
    cases ns with
    | nil => exact .nil
    | cons n ns => simp at this
  | cons v vs ih =>
    cases ns with
    | nil => cases h
    | cons n ns =>
      rw [List.map_cons] at h
      cases h with
      | cons h r =>
        obtain ⟨t, rfl⟩ := dint h
        exact .cons _ _ (ih r)
end

section
variable {w : World} {A : Around} {E : Value → Shared → Prop} {s : Shared} {env : Env} {p : Heap} {n : Nat} {L : Addr} {m : Lm} {μ g : Lg} {a : Addr} {vs : List Value} {nn : Nat} {Q : Value → Shared → Prop}
theorem ge_ne {h : Heap} {o o' : Obj} {b c : Addr} (e : h.get? b = some o) (hc : h.get? c = none) : b ≠ c := fun q => by rw [q, hc] at e; cases e

theorem lmeth {name : Str} {id : String} {pl : Sem Bool} {Q : Value × List Value → Shared → Prop} (hl : s.heap.get? a = some (listOf vs.toArray nn)) (slot : Slot "list" name id) (hty : typeOf (.builtin id) = pure (.type "method_descriptor"))
    (h : Q (.builtin id, [.ref a]) s) : wpAny (model pw w) A (getMethod (.ref a) name pl) Q E s :=
  getMethod_builtin ⟨_, hl, rfl⟩ PySem.F.plainAttrs_list slot hty (fun a e => by cases e; exact ⟨_, hl, rfl⟩) h

theorem lupd {h : Heap} {f : Array Value → Array Value} {ws : List Value} (hl : h.get? a = some (listOf vs.toArray nn)) (he : f vs.toArray = ws.toArray) : ∃ n', (h.update a (Obj.mapSeq f)).get? a = some (listOf ws.toArray n') := by
  have q := PySem.IsL.update hl f
  rw [he] at q
  exact ⟨_, q⟩
theorem insS {x : Int} {k : Nat} {u : Tok} {y : Value} (S : Sm p n L s.heap m ((a, listOf vs.toArray nn) :: μ) g) (hx : x = k) (hk : k ≤ vs.length) (hz : vs.length ≤ sizeLine)
    (h : ∀ h' nn', Sm p n L h' m ((a, listOf (vs.take k ++ y :: vs.drop k).toArray nn') :: μ) g → (∀ b o, b ≠ a → s.heap.get? b = some o → h'.get? b = some o) → Q .none { s with heap := h' }) :
    wpAny (model pw w) A (call (.builtin "list.insert") [.ref a, .int x u, y]) Q E s := by
  have z := (S.M _ (.head _)).1
  have hf : Builtin.List.listFitsIndex x = true := by
    have h2 : sizeLine ≤ 2 ^ 62 := by decide +kernel
    have h3 : vs.length < 2 ^ 63 := by omega
    unfold Builtin.List.listFitsIndex
    rw [Bool.and_eq_true, decide_eq_true_eq, decide_eq_true_eq]
    omega
  have hi : ¬ x < 0 := by omega
  have hn : x.toNat = k := by omega
  obtain ⟨n', e⟩ := lupd (f := fun xs => have q := if x < 0 then (x + (xs.size : Int)).toNat else min x.toNat xs.size; (xs.extract 0 q).push y ++ xs.extract q) z (ws := vs.take k ++ y :: vs.drop k) (by
    show (vs.toArray.extract 0 (if x < 0 then (x + (vs.toArray.size : Int)).toNat else min x.toNat vs.toArray.size)).push y ++ vs.toArray.extract (if x < 0 then (x + (vs.toArray.size : Int)).toNat else min x.toNat vs.toArray.size) = _
    rw [if_neg hi, hn, List.size_toArray, Nat.min_eq_left hk]
    exact kl_ins_eq _ _ _)
  have hs : ∀ f b x, b ≠ a → s.heap.get? b = some x → (s.heap.update a f).get? b = some x := fun f b x hb e => (Heap.SameBut.update (a := a) (h := s.heap) ..).extBut b x hb e
  refine call_meets PySem.F.slot_list_insert ⟨_, z, rfl⟩ PySem.F.entry_list_insert (PySem.F.args_list_insert_3 _ _ _) (PySem.AutoSeq1.list_insert_list_int_val_1 a _ nn x u y (by rw [hf]; exact Bool.false_ne_true) (by rw [List.size_toArray]; exact hz)) ⟨z, h _ n' (Sm.chg S (hs _) e) (hs _)⟩
theorem appS {y : Value} (S : Sm p n L s.heap m ((a, listOf vs.toArray nn) :: μ) g) (hz : vs.length ≤ sizeLine)
    (h : ∀ h' nn', Sm p n L h' m ((a, listOf (vs ++ [y]).toArray nn') :: μ) g → (∀ b o, b ≠ a → s.heap.get? b = some o → h'.get? b = some o) → Q .none { s with heap := h' }) :
    wpAny (model pw w) A (call (.builtin "list.append") [.ref a, y]) Q E s := by
  refine wpAny_list_append_plain (items := vs.toArray) ⟨nn, (S.M _ (.head _)).1⟩ (fun h₅ hl₅ hs₅ => ?_) (by rw [List.size_toArray]; exact hz)
  obtain ⟨n₅, hD₅⟩ := hl₅
  exact h h₅ n₅ (Sm.chg S (fun b x hb e => hs₅.extBut b x hb e) (by simpa using hD₅)) fun b x hb e => hs₅.extBut b x hb e
theorem revS (S : Sm p n L s.heap m ((a, listOf vs.toArray nn) :: μ) g) (hz : vs.length ≤ sizeLine)
    (h : ∀ h' nn', Sm p n L h' m ((a, listOf vs.reverse.toArray nn') :: μ) g → Q .none { s with heap := h' }) :
    wpAny (model pw w) A (call (.builtin "list.reverse") [.ref a]) Q E s := by
  have z := (S.M _ (.head _)).1
  obtain ⟨n', e⟩ := lupd (f := fun x => x.reverse) z (ws := vs.reverse) (by apply Array.toList_inj.mp; simp)
  have hs : ∀ f b x, b ≠ a → s.heap.get? b = some x → (s.heap.update a f).get? b = some x := fun f b x hb e => (Heap.SameBut.update (a := a) (h := s.heap) ..).extBut b x hb e
  refine call_meets PySem.F.slot_list_reverse ⟨_, z, rfl⟩ PySem.F.entry_list_reverse (PySem.F.args_list_reverse_1 _) (PySem.AutoListH.list_reverse_list_0 a _ nn (by simpa using hz)) ⟨z, h _ n' (Sm.chg S (hs _) e)⟩

theorem CallKw {func : Expr} {args : List Expr} {kw : Keyword} {kws : List Keyword} {pos : Pos}
    (h : wpAny (model pw w) A (eval func env) (fun f s₁ => wpAny (model pw w) A (callWith pos f [] (backTo pos (starEach args env)) (backToKw pos (keywordEach (kw :: kws) env))) Q E s₁) E s)
    (he : eval (.Call func args (kw :: kws) pos) env = (do callWith pos (← eval func env) [] (backTo pos (starEach args env)) (backToKw pos (keywordEach (kw :: kws) env))) := by rfl) :
    wpAny (model pw w) A (eval (.Call func args (kw :: kws) pos) env) Q E s := by
  rw [he]; exact wpAny_bind h
theorem cwKw {f : Addr} {pos kp : Pos} {e v : Expr} {rest : List Expr} {name : Str} (fn : Fn f p)
    (h : wpAny (model pw w) A (spliced (backTo pos (starEach (e :: rest) env))) (fun vs s₁ => wpAny (model pw w) A (eval v env) (fun k s₂ => Kp p s₂.heap ∧ wpAny (model pw w) A (call (.ref f) vs [(name, k)]) Q E s₂) E s₁) E s)
    (he : starEach (e :: rest) env = (false, eval e env) :: starEach rest env := by rfl) :
    wpAny (model pw w) A (callWith pos (.ref f) [] (backTo pos (starEach (e :: rest) env)) (backToKw pos (keywordEach [⟨some name, v, kp⟩] env))) Q E s := by
  obtain ⟨o, fd, ho, hd⟩ := fn
  refine callWith_def_kw hd (evalArgs_kw2 (by rfl) (wpAny_mono h (fun vs s₁ h₁ => kwAll_cons (wpAny_mono h₁ (fun k s₂ h₂ => kwAll_nil ⟨h₂.1 _ _ ho, h₂.2⟩) fun _ _ e => e)) fun _ _ e => e) he)
end

noncomputable def upB (m : Lm) (b : Str × Value) : Lm := m.up b.1 b.2
theorem up_binds (binds : List (Str × Value)) : (fun x => binds.reverse.lookup x) = binds.foldl upB (fun _ => none) := by
  have key : ∀ (bs : List (Str × Value)) (m : Lm) (x : Str), bs.foldl upB m x = ((bs.reverse.lookup x).or (m x)) := by
    intro bs
    induction bs with
    | nil => intro m x; simp
    | cons b bs ih =>
      intro m x
      rw [List.foldl_cons, ih, List.reverse_cons, List.lookup_append]
      cases bs.reverse.lookup x with
      | some v => rfl
      | none =>
        show upB m b x = _
        unfold upB Lm.up
        show _ = ((match x == b.1 with | true => some b.2 | false => none).or (m x))
        by_cases e : x = b.1
        · rw [if_pos e, beq_iff_eq.mpr e]; rfl
        · rw [if_neg e, beq_eq_false_iff_ne.mpr e]; rfl
  funext x
  rw [key]; simp
theorem enterU {w : World} {A : Around} {E : Value → Shared → Prop} {s : Shared} {mg mb : Str → Option Value} {h₀ : Heap} {f c : Addr} {name qual : Str} {params : Arguments} {body : List Stmt} {scope : Scope} {cl : List (Str × Addr)} {dV kV doc pm ct oc : Value} {an od : Option Addr} {osl : Array (Option Value)} {pos : List Value} {kw : List (Str × Value)} {binds : List (Str × Value)} {n : Nat} {Q : Value → Shared → Prop}
    (R : Rm A (n + 1)) (B : Bs w mg mb h₀) (k : Kp h₀ s.heap)
    (hf : s.heap.get? f = some ⟨oc, od, .func (fnX name qual params body scope cl dV kV doc pm an (.ref c) ct), osl⟩) (hc : s.heap.CodeRec (.ref c) qual)
    (hb : BindsTo s (fnX name qual params body scope cl dV kV doc pm an (.ref c) ct) ⟨pos, kw⟩ binds)
    (hcell : ∀ x ∈ scope.names, x.2 ≠ .cell) (hloc : ∀ x ∈ binds, scope.names.lookup x.1 = some .local)
    (hco : scope.isCoroutine = false) (hgen : scope.isGenerator = false) (hk : scope.kind = .function)
    (h : ∀ (L : Addr) (h₁ : Heap) (A' : Around) (tk : Nat), L = s.heap.objs.size → Rm A' n → A' = A.deeper (envX qual scope L f (.ref c) cl) → Fr s.heap L h₁ (binds.foldl upB (fun _ => none)) →
      wpAny (model pw w) A' (execs body (envX qual scope L f (.ref c) cl)) (fun fl s' => Q (match fl with | .ret v => v | _ => .none) s') (fun _ _ => False) { s with heap := h₁, toks := tk }) :
    wpAny (model pw w) A (call (.ref f) pos kw) Q E s :=
  enterD R (B.keeps k) hf hc hb hcell hloc hco hgen hk fun L h₁ A' tk hL R' hA' F => h L h₁ A' tk hL R' hA' (up_binds binds ▸ F)
end Wo

namespace Wo

theorem Sm.joinM {p h h' : Heap} {n : Nat} {L : Addr} {m : Lm} {μ g ω : Lg} (S : Sm p n L h m μ g) (k : Kp h h') (hω : ∀ q ∈ ω, h'.get? q.1 = some q.2 ∧ h.objs.size ≤ q.1) (hD : (ω.map (·.1)).Nodup) : Sm p n L h' m (ω ++ μ) g := by
  have S' := S.keeps k
  refine ⟨S'.F, fun q hq => ?_, ?_, fun q hq => ⟨(S'.G q hq).1, (S'.G q hq).2.1, (S'.G q hq).2.2.1, fun r hr => ?_⟩, S.N⟩
  · rcases List.mem_append.mp hq with hq | hq
    · exact ⟨(hω q hq).1, fun e => absurd S.lt (Nat.not_lt.mpr (by rw [← e]; exact (hω q hq).2)), S.none (hω q hq).2⟩
    · exact S'.M q hq
  · rw [List.map_append]
    refine List.nodup_append.mpr ⟨hD, S.D, fun a ha b hb e => ?_⟩
    obtain ⟨r, hr, er⟩ := List.mem_map.mp ha
    obtain ⟨z, hz, ez⟩ := List.mem_map.mp hb
    have h1 := (hω r hr).2
    have h2 := Heap.lt_size (S.M z hz).1
    have er' : r.1 = a := er
    have ez' : z.1 = b := ez
    rw [er'] at h1; rw [ez', ← e] at h2
    exact absurd h2 (Nat.not_lt.mpr h1)
  · rcases List.mem_append.mp hr with hr | hr
    · exact fun e => absurd (Heap.lt_size (S.G q hq).1) (Nat.not_lt.mpr (by rw [← e]; exact (hω r hr).2))
    · exact (S'.G q hq).2.2.2 r hr

structure Src (w : World) (A : Around) (envs : Addr → Env) (target : Expr) (h : Heap) (I : Addr) (k : Nat) (Ω : Nat → Lg → Prop) (Rd : Heap → Prop) (B : Nat → Lm → Lm → Prop) (P : Addr → Prop) (ω : Lg) : Prop where
  hd : ∀ C, Hd w A (envs C) target I k Ω Rd B
  om : Ω 0 ω
  al : ∀ q ∈ ω, h.get? q.1 = some q.2
  nd : (ω.map (·.1)).Nodup
  rn : ∀ b, P b → b ∉ ω.map (·.1)
  rd : ∀ h', (∀ b o, P b → h.get? b = some o → h'.get? b = some o) → Rd h'
  self : ∀ (s : Shared) (Q : Value → Shared → Prop) (E : Value → Shared → Prop) (ω : Lg), Ω 0 ω → (∀ q ∈ ω, s.heap.get? q.1 = some q.2) → Q (.ref I) s → wpAny (model pw w) A (pyIter (.ref I)) Q E s

section
variable {w : World} {A : Around} {E : Value → Shared → Prop} {s : Shared} {env : Env} {envs : Addr → Env} {p : Heap} {n : Nat} {L : Addr} {m : Lm} {μ g : Lg} {Q : Value → Shared → Prop} {x x1 x2 x3 : Str} {px p1 p2 p3 pos : Pos} {kk : Nat}

abbrev liO (l : Addr) (i : Nat) : Obj := { cls := .type "list_iterator", data := .fields #[.ref l, .int i 0] }
abbrev liΩ (I l : Addr) (i : Nat) (ω : Lg) : Prop := ∃ o : Obj, ω = [(I, o)] ∧ (o.cls = .type "list_iterator" ∧ o.data = .fields #[.ref l, .int i 0])
theorem il_ne {h : Heap} {l I : Addr} {its : Array Value} (hl : h.IsList l its) (hI : h.objs.size ≤ I) : l ≠ I := by
  obtain ⟨o, ho, _⟩ := hl
  exact Nat.ne_of_lt (Nat.lt_of_lt_of_le (Heap.lt_size ho) hI)
theorem il_keep {h h' : Heap} {l I : Addr} {its : Array Value} (hl : h.IsList l its) (hI : l ≠ I) (k : ∀ b o, b ≠ I → h.get? b = some o → h'.get? b = some o) : h'.IsList l its := by
  obtain ⟨o, ho, r⟩ := hl
  exact ⟨o, k _ _ hI ho, r⟩
theorem it_keep {h h' : Heap} {l I : Addr} {its : Array Value} (hl : IsTup h l its) (hI : l ≠ I) (k : ∀ b o, b ≠ I → h.get? b = some o → h'.get? b = some o) : IsTup h' l its := by
  obtain ⟨o, ho, r⟩ := hl
  exact ⟨o, k _ _ hI ho, r⟩
theorem li_self {I l : Addr} (s : Shared) (Q : Value → Shared → Prop) (E : Value → Shared → Prop) (ω : Lg) (hΩ : liΩ I l 0 ω) (ha : ∀ q ∈ ω, s.heap.get? q.1 = some q.2) (hq : Q (.ref I) s) : wpAny (model pw w) A (pyIter (.ref I)) Q E s := by
  obtain ⟨o, rfl, c, d⟩ := hΩ
  exact wpAny_pyIter_listiter (l := l) (i := 0) ⟨o, ha _ (List.mem_singleton.mpr rfl), c, d⟩ hq
theorem mem_1 {I b : Addr} {o : Obj} (h : b ≠ I) : b ∉ ([(I, o)] : Lg).map (·.1) := fun q => h (List.mem_singleton.mp q)

theorem srcL {l : Addr} {items : Array Value} (S : Sm p n L s.heap m μ g) (hl : s.heap.IsList l items) (hA : A.handled = none) (hf : ∀ C, Fnk (envs C)) (hx : ∀ C, (envs C).kindOf x = some .local)
    (h : ∀ I h' ω, Src w A envs (.Name x px) h' I items.size (liΩ I l) (fun h => h.IsList l items) (fun i m m' => ∃ v, items[i]? = some v ∧ m' = m.up x v) (· = l) ω → Sm p n L h' m (ω ++ μ) g → Kp s.heap h' → s.heap.objs.size ≤ I ∧ s.heap.objs.size ≤ h'.objs.size → Q (.ref I) { s with heap := h' }) :
    wpAny (model pw w) A (pyIter (.ref l)) Q E s := by
  have k : Kp s.heap (s.heap.push (liO l 0)) := fun b o e => Heap.get?_push_of_some _ e
  have ne := il_ne hl (Nat.le_refl _)
  refine wpAny_pyIter_list hl (h _ _ [(_, liO l 0)] ⟨fun C => hd_list hA (hf C) (hx C) ne, ⟨_, rfl, rfl, rfl⟩, fun q hq => ?_, by simp, fun b hb => by rw [hb]; exact mem_1 ne, fun h' k' => ?_, li_self⟩ (S.alM (o := liO l 0)) k ⟨Nat.le_refl _, by rw [Heap.size_push]; omega⟩)
  · rw [List.mem_singleton.mp hq]; exact Heap.get?_push_size _ rfl
  · obtain ⟨o, e, r⟩ := hl; exact ⟨o, k' _ _ rfl (k _ _ e), r⟩

theorem srcL2 {l : Addr} {items : Array Value} {P : Nat → Value → Value → Prop} (S : Sm p n L s.heap m μ g) (hl : s.heap.IsList l items) (hT : ∀ i v, items[i]? = some v → ∃ T v1 v2, v = .ref T ∧ IsTup s.heap T #[v1, v2] ∧ P i v1 v2)
    (hA : A.handled = none) (hf : ∀ C, Fnk (envs C)) (h1 : ∀ C, (envs C).kindOf x1 = some .local) (h2 : ∀ C, (envs C).kindOf x2 = some .local)
    (h : ∀ I h' ω Rd, Src w A envs (.Tuple [.Name x1 p1, .Name x2 p2] kk pos) h' I items.size (liΩ I l) Rd (fun i m m' => ∃ v1 v2, P i v1 v2 ∧ m' = (m.up x1 v1).up x2 v2) (fun b => b = l ∨ ∃ i : Nat, items[i]? = some (Value.ref b)) ω → Sm p n L h' m (ω ++ μ) g → Kp s.heap h' → s.heap.objs.size ≤ I ∧ s.heap.objs.size ≤ h'.objs.size → Q (.ref I) { s with heap := h' }) :
    wpAny (model pw w) A (pyIter (.ref l)) Q E s := by
  have k : Kp s.heap (s.heap.push (liO l 0)) := fun b o e => Heap.get?_push_of_some _ e
  have ne := il_ne hl (Nat.le_refl _)
  refine wpAny_pyIter_list hl (h _ _ [(_, liO l 0)] _ ⟨fun C => hd_list2 (l := l) (items := items) (P := P) hA (hf C) (h1 C) (h2 C), ⟨_, rfl, rfl, rfl⟩, fun q hq => ?_, by simp, fun b hb => ?_, fun h' k' => ⟨?_, fun i v hv => ?_⟩, li_self⟩ (S.alM (o := liO l 0)) k ⟨Nat.le_refl _, by rw [Heap.size_push]; omega⟩)
  · rw [List.mem_singleton.mp hq]; exact Heap.get?_push_size _ rfl
  · rcases hb with rfl | ⟨i, hi⟩
    · exact mem_1 ne
    · obtain ⟨T, v1, v2, e, ⟨o, ho, _⟩, _⟩ := hT i _ hi
      cases e
      exact mem_1 (Nat.ne_of_lt (Heap.lt_size ho))
  · obtain ⟨o, e, r⟩ := hl; exact ⟨o, k' _ _ (.inl rfl) (k _ _ e), r⟩
  · obtain ⟨T, v1, v2, e, ⟨o, ho, t⟩, r⟩ := hT i v hv
    exact ⟨T, v1, v2, e, ⟨o, k' _ _ (.inr ⟨i, e ▸ hv⟩) (k _ _ ho), t⟩, r⟩
theorem srcL3 {l : Addr} {items : Array Value} {P : Nat → Value → Value → Value → Prop} (S : Sm p n L s.heap m μ g) (hl : s.heap.IsList l items) (hT : ∀ i v, items[i]? = some v → ∃ T v1 v2 v3, v = .ref T ∧ IsTup s.heap T #[v1, v2, v3] ∧ P i v1 v2 v3)
    (hA : A.handled = none) (hf : ∀ C, Fnk (envs C)) (h1 : ∀ C, (envs C).kindOf x1 = some .local) (h2 : ∀ C, (envs C).kindOf x2 = some .local) (h3 : ∀ C, (envs C).kindOf x3 = some .local)
    (h : ∀ I h' ω Rd, Src w A envs (.Tuple [.Name x1 p1, .Name x2 p2, .Name x3 p3] kk pos) h' I items.size (liΩ I l) Rd (fun i m m' => ∃ v1 v2 v3, P i v1 v2 v3 ∧ m' = ((m.up x1 v1).up x2 v2).up x3 v3) (fun b => b = l ∨ ∃ i : Nat, items[i]? = some (Value.ref b)) ω → Sm p n L h' m (ω ++ μ) g → Kp s.heap h' → s.heap.objs.size ≤ I ∧ s.heap.objs.size ≤ h'.objs.size → Q (.ref I) { s with heap := h' }) :
    wpAny (model pw w) A (pyIter (.ref l)) Q E s := by
  have k : Kp s.heap (s.heap.push (liO l 0)) := fun b o e => Heap.get?_push_of_some _ e
  have ne := il_ne hl (Nat.le_refl _)
  refine wpAny_pyIter_list hl (h _ _ [(_, liO l 0)] _ ⟨fun C => hd_list3 (l := l) (items := items) (P := P) hA (hf C) (h1 C) (h2 C) (h3 C), ⟨_, rfl, rfl, rfl⟩, fun q hq => ?_, by simp, fun b hb => ?_, fun h' k' => ⟨?_, fun i v hv => ?_⟩, li_self⟩ (S.alM (o := liO l 0)) k ⟨Nat.le_refl _, by rw [Heap.size_push]; omega⟩)
  · rw [List.mem_singleton.mp hq]; exact Heap.get?_push_size _ rfl
  · rcases hb with rfl | ⟨i, hi⟩
    · exact mem_1 ne
    · obtain ⟨T, v1, v2, v3, e, ⟨o, ho, _⟩, _⟩ := hT i _ hi
      cases e
      exact mem_1 (Nat.ne_of_lt (Heap.lt_size ho))
  · obtain ⟨o, e, r⟩ := hl; exact ⟨o, k' _ _ (.inl rfl) (k _ _ e), r⟩
  · obtain ⟨T, v1, v2, v3, e, ⟨o, ho, t⟩, r⟩ := hT i v hv
    exact ⟨T, v1, v2, v3, e, ⟨o, k' _ _ (.inr ⟨i, e ▸ hv⟩) (k _ _ ho), t⟩, r⟩

abbrev siΩ (I : Addr) (X : Str) (t₀ : Tok) (i : Nat) (ω : Lg) : Prop := ∃ o : Obj, ω = [(I, o)] ∧ (o.cls = .type "str_ascii_iterator" ∧ o.data = .fields #[.str X t₀, .int i 0])
theorem srcS {X : Str} {t₀ : Tok} (S : Sm p n L s.heap m μ g) (has : X.cps.all (· < 128) = true) (hA : A.handled = none) (hf : ∀ C, Fnk (envs C)) (hx : ∀ C, (envs C).kindOf x = some .local)
    (h : ∀ I h' ω, Src w A envs (.Name x px) h' I X.cps.size (siΩ I X t₀) (fun _ => True) (fun i m m' => ∃ v, (∃ c t, X.cps[i]? = some c ∧ v = .str ⟨#[c]⟩ t) ∧ m' = m.up x v) (fun _ => False) ω → Sm p n L h' m (ω ++ μ) g → Kp s.heap h' → s.heap.objs.size ≤ I ∧ s.heap.objs.size ≤ h'.objs.size → Q (.ref I) { s with heap := h' }) :
    wpAny (model pw w) A (pyIter (.str X t₀)) Q E s := by
  refine wpAny_pyIter_ascii has (h _ _ [(_, { cls := .type "str_ascii_iterator", data := .fields #[.str X t₀, .int 0 0] })] ⟨fun C => hd_str hA (hf C) (hx C), ⟨_, rfl, rfl, rfl⟩, fun q hq => ?_, by simp, fun _ z => z.elim, fun _ _ => trivial, ?_⟩ S.alM (fun b o e => Heap.get?_push_of_some _ e) ⟨Nat.le_refl _, by rw [Heap.size_push]; omega⟩)
  · rw [List.mem_singleton.mp hq]; exact Heap.get?_push_size _ rfl
  · generalize s.heap.objs.size = I
    rintro s Q E ω ⟨o, rfl, c, d⟩ ha hq
    exact wpAny_pyIter_striter_ascii (x := X) (t := t₀) (i := 0) ⟨o, ha _ (List.mem_singleton.mpr rfl), c, d⟩ hq

abbrev riΩ (I : Addr) (a : Int) (k i : Nat) (ω : Lg) : Prop := ∃ o : Obj, ω = [(I, o)] ∧ o = { cls := .type "range_iterator", dict := none, data := .fields #[rawInt (a + i), rawInt ((k : Int) - i), rawInt 1], slots := #[] }
theorem srcR {r : Addr} {a b : Int} {t u v : Tok} {k : Nat} (S : Sm p n L s.heap m μ g) (hr : IsRange s.heap r a b 1 t u v) (hab : b = a + k) (ha0 : 0 ≤ a) (ha1 : a < 1000000) (hk : k < 1000000) (hA : A.handled = none) (hf : ∀ C, Fnk (envs C)) (hx : ∀ C, (envs C).kindOf x = some .local)
    (h : ∀ I h' ω, Src w A envs (.Name x px) h' I k (riΩ I a k) (fun _ => True) (fun i m m' => ∃ v, (∃ t, v = .int (a + i) t) ∧ m' = m.up x v) (fun _ => False) ω → Sm p n L h' m (ω ++ μ) g → Kp s.heap h' → s.heap.objs.size ≤ I ∧ s.heap.objs.size ≤ h'.objs.size → Q (.ref I) { s with heap := h' }) :
    wpAny (model pw w) A (pyIter (.ref r)) Q E s := by
  have e1 : Builtin.Range.rangeSize a b 1 = k := by rw [rangeSize_one]; split <;> omega
  refine wpAny_pyIter_range hr (small_one (by omega) (by omega) (by omega) (by omega)) ?_
  rw [e1]
  refine h _ _ [(_, { cls := .type "range_iterator", data := .fields #[rawInt a, rawInt k, rawInt 1] })] ⟨fun C => hd_range hA (hf C) (hx C), ⟨_, rfl, by simp⟩, fun q hq => ?_, by simp, fun _ z => z.elim, fun _ _ => trivial, ?_⟩ S.alM (fun b o e => Heap.get?_push_of_some _ e) ⟨Nat.le_refl _, by rw [Heap.size_push]; omega⟩
  · rw [List.mem_singleton.mp hq]; exact Heap.get?_push_size _ rfl
  · rintro s Q E ω ⟨o, rfl, rfl⟩ ha hq
    exact wpAny_pyIter_rangeiter (ha _ (List.mem_singleton.mpr rfl)) hq

abbrev ziΩ (z l1 l2 : Addr) (i : Nat) (ω : Lg) : Prop := ∃ TI TO i1 i2 a b o1 o2, ω = [(z, zipO TI TO .none), (TI, pairO (.ref i1) (.ref i2)), (TO, pairO a b), (i1, o1), (i2, o2)] ∧ (o1.cls = .type "list_iterator" ∧ o1.data = .fields #[.ref l1, .int i 0]) ∧ (o2.cls = .type "list_iterator" ∧ o2.data = .fields #[.ref l2, .int i 0])
theorem zipS {l1 l2 : Addr} {xs ys : Array Value} {k : Nat} (S : Sm p n L s.heap m μ g) (hl1 : s.heap.IsList l1 xs) (hl2 : s.heap.IsList l2 ys) (hk : k = min xs.size ys.size) (hA : A.handled = none) (hf : ∀ C, Fnk (envs C)) (h1 : ∀ C, (envs C).kindOf x1 = some .local) (h2 : ∀ C, (envs C).kindOf x2 = some .local)
    (h : ∀ z h' ω, Src w A envs (.Tuple [.Name x1 p1, .Name x2 p2] kk pos) h' z k (ziΩ z l1 l2) (fun h => h.IsList l1 xs ∧ h.IsList l2 ys) (fun i m m' => ∃ v1 v2, xs[i]? = some v1 ∧ ys[i]? = some v2 ∧ m' = (m.up x1 v1).up x2 v2) (fun b => b = l1 ∨ b = l2) ω → Sm p n L h' m (ω ++ μ) g → Kp s.heap h' → s.heap.objs.size ≤ z ∧ s.heap.objs.size ≤ h'.objs.size → Q (.ref z) { s with heap := h' }) :
    wpAny (model pw w) A (call (.type "zip") [.ref l1, .ref l2]) Q E s := by
  refine call_zip_2 hl1 hl2 fun h' a1 a2 a3 a4 a5 hsz kp => ?_
  obtain ⟨o1, e1, c1, d1⟩ := id a4
  obtain ⟨o2, e2, c2, d2⟩ := id a5
  obtain ⟨q1, r1, _⟩ := id hl1
  obtain ⟨q2, r2, _⟩ := id hl2
  have lt1 := Heap.lt_size r1
  have lt2 := Heap.lt_size r2
  have al : ∀ q ∈ ([(s.heap.objs.size + 4, zipO (s.heap.objs.size + 2) (s.heap.objs.size + 3) .none), (s.heap.objs.size + 2, pairO (.ref s.heap.objs.size) (.ref (s.heap.objs.size + 1))), (s.heap.objs.size + 3, pairO .none .none), (s.heap.objs.size, o1), (s.heap.objs.size + 1, o2)] : Lg), h'.get? q.1 = some q.2 ∧ s.heap.objs.size ≤ q.1 := by
    intro q hq
    simp only [List.mem_cons, List.not_mem_nil, or_false] at hq
    rcases hq with rfl | rfl | rfl | rfl | rfl
    · exact ⟨a1, by simp⟩
    · exact ⟨a2, by simp⟩
    · exact ⟨a3, by simp⟩
    · exact ⟨e1, by simp⟩
    · exact ⟨e2, by simp⟩
  have nd : (([(s.heap.objs.size + 4, zipO (s.heap.objs.size + 2) (s.heap.objs.size + 3) .none), (s.heap.objs.size + 2, pairO (.ref s.heap.objs.size) (.ref (s.heap.objs.size + 1))), (s.heap.objs.size + 3, pairO .none .none), (s.heap.objs.size, o1), (s.heap.objs.size + 1, o2)] : Lg).map (·.1)).Nodup := by
    simp
  refine h _ h' _ ⟨fun C => hd_zip (l1 := l1) (l2 := l2) (xs := xs) (ys := ys) hk hA (hf C) (h1 C) (h2 C), ⟨_, _, _, _, _, _, _, _, rfl, ⟨c1, d1⟩, ⟨c2, d2⟩⟩, fun q hq => (al q hq).1, nd, fun b hb q => ?_, fun h'' k'' => ⟨by obtain ⟨o, e, r⟩ := hl1; exact ⟨o, k'' _ _ (.inl rfl) (kp _ _ e), r⟩, by obtain ⟨o, e, r⟩ := hl2; exact ⟨o, k'' _ _ (.inr rfl) (kp _ _ e), r⟩⟩, ?_⟩ (S.joinM kp al nd) kp ⟨Nat.le_add_right _ _, by omega⟩
  · have hb' : b < s.heap.objs.size := by rcases hb with rfl | rfl <;> assumption
    simp only [List.map_cons, List.map_nil, List.mem_cons, List.not_mem_nil, or_false] at q
    have key : ∀ j, b = s.heap.objs.size + j → False := fun j e => by
      rw [e] at hb'; exact absurd hb' (Nat.not_lt.mpr (Nat.le_add_right _ _))
    rcases q with q | q | q | q | q
    · exact key _ q
    · exact key _ q
    · exact key _ q
    · exact key 0 q
    · exact key _ q
  · rintro s Q E ω ⟨TI, TO, i1, i2, a, b, o1, o2, rfl, _⟩ ha hq
    exact wpAny_pyIter_zip (ha _ (.head _)) hq
end

section
variable {w : World} {A : Around} {E : Value → Shared → Prop} {s : Shared} {env : Env} {p : Heap} {n : Nat} {m : Lm} {μ g : Lg}

theorem tst0 {env' : Env} {s' : Shared} {E : Value → Shared → Prop} {Q : Bool → Shared → Prop} (h : Q true s') :
    wpAny (model pw w) A (forIn (m := Sem) ([] : List Expr) true fun c r => if r = true then do let ok ← isTrue c env' (eval c env'); pure (ForInStep.yield ok) else pure (ForInStep.yield r)) Q E s' := wpAny_pure h
theorem tst1 {c : Expr} {env' : Env} {s' : Shared} {E : Value → Shared → Prop} {Q : Bool → Shared → Prop} (h : wpAny (model pw w) A (isTrue c env' (eval c env')) Q E s') :
    wpAny (model pw w) A (forIn (m := Sem) [c] true fun c r => if r = true then do let ok ← isTrue c env' (eval c env'); pure (ForInStep.yield ok) else pure (ForInStep.yield r)) Q E s' := by
  rw [List.forIn_cons]
  simp only [if_true]
  refine wpAny_bind (wpAny_bind (wpAny_mono h (fun b s₁ h₁ => wpAny_pure ?_) fun _ _ e => e))
  exact wpAny_pure h₁

theorem Src.cmp {p : Heap} {n : Nat} {L : Addr} {m : Lm} {μ g ω σ : Lg} {elt target iter : Expr} {ifs : List Expr} {scope : Scope} {cl : List (Str × Addr)} {I : Addr} {k : Nat} {Ω : Nat → Lg → Prop} {Rd : Heap → Prop} {B : Nat → Lm → Lm → Prop} {P : Addr → Prop} {Js : Nat → Lg → Lg → Prop} {t : Nat → Bool} {d : Nat → Dat}
    (X : Src w A (fun C => compEnvC scope cl C env) target s.heap I k Ω Rd B P ω) (hP : ∀ b, P b → b ∉ σ.map (·.1)) (S : Sm p n L s.heap m (ω ++ (σ ++ μ)) g) (js : Js 0 σ []) (jm : ∀ i σ g g', Js i σ g → (∀ q ∈ g, q ∈ g') → Js i σ g') (sz : k ≤ sizeLine)
    (tst : ∀ i C p' n' m₀ m' μ' g' σ' h tk, i < k → Js i σ' g' → B i m₀ m' → Kp p p' → Lv p' g → Lv p' μ → s.heap.objs.size ≤ n' → Sm p' n' C h m' (σ' ++ μ') g' →
      wpAny (model pw w) A (forIn ifs true fun c r => if r = true then do let ok ← isTrue c (compEnvC scope cl C env) (eval c (compEnvC scope cl C env)); pure (ForInStep.yield ok) else pure (ForInStep.yield r))
        (fun ok s' => ok = t i ∧ ∃ h' tk', s' = { s with heap := h', toks := tk' } ∧ Kp h h' ∧ (t i = false → Js (i + 1) σ' g')) (fun _ _ => False) { s with heap := h, toks := tk })
    (el : ∀ i C p' n' m₀ m' μ' g' σ' h tk, i < k → t i = true → Js i σ' g' → B i m₀ m' → Kp p p' → Lv p' g → Lv p' μ → s.heap.objs.size ≤ n' → Sm p' n' C h m' (σ' ++ μ') g' →
      wpAny (model pw w) A (eval elt (compEnvC scope cl C env)) (fun y s' => ∃ h' tk' σ'' g'', s' = { s with heap := h', toks := tk' } ∧ Sm p' n' C h' m' (σ'' ++ μ') (g'' ++ g') ∧ σ''.map (·.1) = σ'.map (·.1) ∧ Js (i + 1) σ'' (g'' ++ g') ∧ DatIn g'' y (d i)) (fun _ _ => False) { s with heap := h, toks := tk }) :
    Cmp w A env elt target iter ifs scope cl s I k Ω Rd B ω σ Js t d := by
  have S' : Sm p n L s.heap m ((ω ++ σ) ++ μ) g := by rw [List.append_assoc]; exact S
  have nd : ((ω ++ σ).map (·.1)).Nodup := by have := S'.D; rw [List.map_append] at this; exact (List.nodup_append.mp this).1
  have al : ∀ q ∈ ω ++ σ, s.heap.get? q.1 = some q.2 := fun q hq => (S'.M q (List.mem_append_left _ hq)).1
  have no : ∀ b, (∀ r ∈ (ω ++ σ) ++ μ, r.1 ≠ b) → b ∉ (ω ++ σ).map (·.1) := fun b hb q => by
    obtain ⟨r, hr, e⟩ := List.mem_map.mp q
    exact hb r (List.mem_append_left _ hr) e
  have kk : ∀ {p'}, (∀ b o, b ∉ (ω ++ σ).map (·.1) → s.heap.get? b = some o → p'.get? b = some o) → Kp p p' ∧ Lv p' g ∧ Lv p' μ := fun {p'} kp => by
    refine ⟨fun b o e => kp b o (no b fun r hr q => ?_) (S'.F.keep b o e), fun q hq => kp _ _ (no _ fun r hr => (S'.G q hq).2.2.2 r hr) (S'.G q hq).1, fun q hq => kp _ _ (fun z => ?_) (S'.M q (List.mem_append_right _ hq)).1⟩
    · rw [← q, (S'.M r hr).2.2] at e; cases e
    · have D := S'.D
      rw [List.map_append] at D
      exact (List.nodup_append.mp D).2.2 _ z _ (mem1 hq rfl) rfl
  refine ⟨X.hd, X.om, al, nd, js, jm, sz, fun h' k' => X.rd h' fun b o hb e => ?_, fun i C p' n' m₀ m' μ' g' σ' h tk hi hj hB kp hn hS => ?_, fun i C p' n' m₀ m' μ' g' σ' h tk hi ht hj hB kp hn hS => ?_⟩
  · exact k' b o (fun z => by
      rw [List.map_append] at z
      exact (List.mem_append.mp z).elim (X.rn b hb) (hP b hb)) e
  · obtain ⟨a, b, c⟩ := kk kp
    exact tst i C p' n' m₀ m' μ' g' σ' h tk hi hj hB a b c hn hS
  · obtain ⟨a, b, c⟩ := kk kp
    exact el i C p' n' m₀ m' μ' g' σ' h tk hi ht hj hB a b c hn hS

noncomputable def CG (w : World) (A : Around) (env : Env) (elt target iter : Expr) (ifs : List Expr) (scope : Scope) (cl : List (Str × Addr)) (p : Heap) (n : Nat) (L : Addr) (m : Lm) (mm : Addr → Lm) (μ g : Lg) (Q : Value → Shared → Prop) (it : Value) (s : Shared) : Prop :=
  ∃ I k Ω Rd B ω σ Js t d, it = .ref I ∧ Cmp w A env elt target iter ifs scope cl s I k Ω Rd B ω σ Js t d ∧
    (∀ (s : Shared) (Q : Value → Shared → Prop) (E : Value → Shared → Prop) (ω : Lg), Ω 0 ω → (∀ q ∈ ω, s.heap.get? q.1 = some q.2) → Q (.ref I) s → wpAny (model pw w) A (pyIter (.ref I)) Q E s) ∧
    Sm p n L s.heap m (ω ++ (σ ++ μ)) g ∧
    (∀ D h' tk σ' g', Js k σ' g' → σ'.map (·.1) = σ.map (·.1) → Sm p n L h' (mm D) (σ' ++ μ) (g' ++ g) → (∀ q ∈ g', s.heap.objs.size ≤ q.1) →
      DatIn g' (.ref D) (.list (((List.range k).filter t).map d)) → Q (.ref D) { s with heap := h', toks := tk })

theorem cmp_evS {elt target iter : Expr} {ifs : List Expr} {scope : Scope} {cl : List (Str × Addr)} {pos : Pos} {L : Addr} {Q : Value → Shared → Prop}
    (hclos : closureFor scope env = pure cl) (hcell : ∀ y ∈ scope.names, y.2 ≠ .cell) (hkind : scope.kind = .function) (hnames : ∀ y ∈ scope.names, y.2 = .local → scope.names.lookup y.1 = some .local)
    (h : wpAny (model pw w) A (eval iter env) (fun xv s₁ => wpAny (model pw w) A (pyIter xv) (fun it s₂ => ∃ p n m μ g, CG w A env elt target iter ifs scope cl p n L m (fun _ => m) μ g Q it s₂) E s₁) E s)
    (hs : ∀ x, foldedSetIterable iter env x = pure x := by intro _; rfl) :
    wpAny (model pw w) A (eval (.ListComp elt [⟨target, iter, ifs, 0⟩] scope pos) env) Q E s := by
  refine cmp_eval hclos hcell hkind hnames (wpAny_mono h (fun xv s₁ h₁ => wpAny_mono h₁ (fun it s₂ h₂ => ?_) fun _ _ e => e) fun _ _ e => e) hs
  obtain ⟨p, n, m, μ, g, I, k, Ω, Rd, B, ω, σ, Js, t, d, e, X, self, S, fin⟩ := h₂
  refine ⟨I, k, Ω, Rd, B, ω, σ, Js, t, d, e, X, self, fun D h' tk σ' g' hJ hσ hσa hk hg hd => ?_⟩
  refine fin D h' tk σ' g' hJ hσ ((S.turn hσ hk hσa).addG fun q hq => ⟨(hg q hq).1, Nat.le_trans S.low (hg q hq).2, fun e => absurd S.lt (Nat.not_lt.mpr (by rw [← e]; exact (hg q hq).2)), fun r hr e => ?_⟩) (fun q hq => (hg q hq).2) hd
  have l : r.1 < s₂.heap.objs.size := by
    rcases List.mem_append.mp hr with hr | hr
    · have : r.1 ∈ σ.map (·.1) := hσ ▸ mem1 hr rfl
      obtain ⟨z, hz, e⟩ := List.mem_map.mp this
      have e' : z.1 = r.1 := e
      rw [← e']
      exact Heap.lt_size (X.al z (List.mem_append_right _ hz))
    · exact Heap.lt_size (S.M r (List.mem_append_right _ (List.mem_append_right _ hr))).1
  exact absurd l (Nat.not_lt.mpr (by rw [e]; exact (hg q hq).2))

theorem Src.go {L : Addr} {mm : Addr → Lm} {ω : Lg} {elt target iter : Expr} {scope : Scope} {cl : List (Str × Addr)} {I : Addr} {k : Nat} {Ω : Nat → Lg → Prop} {Rd : Heap → Prop} {B : Nat → Lm → Lm → Prop} {P : Addr → Prop} {Q : Value → Shared → Prop}
    (X : Src w A (fun C => compEnvC scope cl C env) target s.heap I k Ω Rd B P ω) (S : Sm p n L s.heap m (ω ++ μ) g) (sz : k ≤ sizeLine) (d : Nat → Dat)
    (el : ∀ i C p' n' m₀ m' μ' g' h tk, i < k → B i m₀ m' → Kp p p' → Lv p' g → Lv p' μ → s.heap.objs.size ≤ n' → Sm p' n' C h m' μ' g' →
      wpAny (model pw w) A (eval elt (compEnvC scope cl C env)) (fun y s' => ∃ h' tk' g'', s' = { s with heap := h', toks := tk' } ∧ Sm p' n' C h' m' μ' (g'' ++ g') ∧ DatIn g'' y (d i)) (fun _ _ => False) { s with heap := h, toks := tk })
    (fin : ∀ D h' tk g', Sm p n L h' (mm D) μ (g' ++ g) → (∀ q ∈ g', s.heap.objs.size ≤ q.1) → DatIn g' (.ref D) (.list ((List.range k).map d)) → Q (.ref D) { s with heap := h', toks := tk }) :
    CG w A env elt target iter [] scope cl p n L m mm μ g Q (.ref I) s := by
  refine ⟨I, k, Ω, Rd, B, ω, [], fun _ σ _ => σ = [], fun _ => true, d, rfl, X.cmp (σ := []) (fun _ _ => by simp) S rfl (fun _ _ _ _ h _ => h) sz ?_ ?_, X.self, S, fun D h' tk σ' g' hJ hσ S' hg hD => ?_⟩
  · rintro i C p' n' m₀ m' μ' g' σ' h tk hi hj hB k1 k2 k3 hn S'
    exact tst0 ⟨rfl, h, tk, rfl, Kp.rfl, fun e => by cases e⟩
  · rintro i C p' n' m₀ m' μ' g' σ' h tk hi _ rfl hB k1 k2 k3 hn S'
    refine wpAny_mono (el i C p' n' m₀ m' μ' g' h tk hi hB k1 k2 k3 hn S') (fun y s' h' => ?_) fun _ _ e => e
    obtain ⟨h', tk', g'', e, S'', hd⟩ := h'
    exact ⟨h', tk', [], g'', e, S'', rfl, rfl, hd⟩
  · subst hJ
    have e : (List.range k).filter (fun _ => true) = List.range k := by simp
    rw [e] at hD
    exact fin D h' tk g' S' hg hD
theorem Src.goF {L : Addr} {mm : Addr → Lm} {ω : Lg} {elt target iter c : Expr} {scope : Scope} {cl : List (Str × Addr)} {I : Addr} {k : Nat} {Ω : Nat → Lg → Prop} {Rd : Heap → Prop} {B : Nat → Lm → Lm → Prop} {P : Addr → Prop} {Q : Value → Shared → Prop}
    (X : Src w A (fun C => compEnvC scope cl C env) target s.heap I k Ω Rd B P ω) (S : Sm p n L s.heap m (ω ++ μ) g) (sz : k ≤ sizeLine) (t : Nat → Bool) (d : Nat → Dat)
    (tst : ∀ i C p' n' m₀ m' μ' g' h tk, i < k → B i m₀ m' → Kp p p' → Lv p' g → Lv p' μ → s.heap.objs.size ≤ n' → Sm p' n' C h m' μ' g' →
      wpAny (model pw w) A (isTrue c (compEnvC scope cl C env) (eval c (compEnvC scope cl C env))) (fun ok s' => ok = t i ∧ ∃ h' tk', s' = { s with heap := h', toks := tk' } ∧ Kp h h') (fun _ _ => False) { s with heap := h, toks := tk })
    (el : ∀ i C p' n' m₀ m' μ' g' h tk, i < k → t i = true → B i m₀ m' → Kp p p' → Lv p' g → Lv p' μ → s.heap.objs.size ≤ n' → Sm p' n' C h m' μ' g' →
      wpAny (model pw w) A (eval elt (compEnvC scope cl C env)) (fun y s' => ∃ h' tk' g'', s' = { s with heap := h', toks := tk' } ∧ Sm p' n' C h' m' μ' (g'' ++ g') ∧ DatIn g'' y (d i)) (fun _ _ => False) { s with heap := h, toks := tk })
    (fin : ∀ D h' tk g', Sm p n L h' (mm D) μ (g' ++ g) → (∀ q ∈ g', s.heap.objs.size ≤ q.1) → DatIn g' (.ref D) (.list (((List.range k).filter t).map d)) → Q (.ref D) { s with heap := h', toks := tk }) :
    CG w A env elt target iter [c] scope cl p n L m mm μ g Q (.ref I) s := by
  refine ⟨I, k, Ω, Rd, B, ω, [], fun _ σ _ => σ = [], t, d, rfl, X.cmp (σ := []) (fun _ _ => by simp) S rfl (fun _ _ _ _ h _ => h) sz ?_ ?_, X.self, S, fun D h' tk σ' g' hJ hσ S' hg hD => ?_⟩
  · rintro i C p' n' m₀ m' μ' g' σ' h tk hi rfl hB k1 k2 k3 hn S'
    refine tst1 (wpAny_mono (tst i C p' n' m₀ m' μ' g' h tk hi hB k1 k2 k3 hn S') (fun ok s' h' => ?_) fun _ _ e => e)
    obtain ⟨e, h', tk', e', k⟩ := h'
    exact ⟨e, h', tk', e', k, fun _ => rfl⟩
  · rintro i C p' n' m₀ m' μ' g' σ' h tk hi ht rfl hB k1 k2 k3 hn S'
    refine wpAny_mono (el i C p' n' m₀ m' μ' g' h tk hi ht hB k1 k2 k3 hn S') (fun y s' h' => ?_) fun _ _ e => e
    obtain ⟨h', tk', g'', e, S'', hd⟩ := h'
    exact ⟨h', tk', [], g'', e, S'', rfl, rfl, hd⟩
  · subst hJ
    exact fin D h' tk g' S' hg hD
end
section
variable {w : World} {A : Around} {E : Value → Shared → Prop} {s : Shared} {p h : Heap} {n : Nat} {L : Addr} {m : Lm} {μ g : Lg} {tk : Nat}
theorem sliceT {value slice : Expr} {l : Addr} {items : Array Value} {vl vu : Value} {lo hi : Option Int} {Q : Value → Shared → Prop} (S : Sm p n L h m μ g) (hl : h.IsList l items) (pl : IsPart vl lo) (pu : IsPart vu hi) (hsz : items.size ≤ sizeLine)
    (h' : ∀ a h', Sm p n L h' m μ ((a, listOf (slicePick items lo hi none) 0) :: g) → h.objs.size ≤ a → Kp h h' → Q (.ref a) { s with heap := h', toks := tk })
    (hs : ∀ a b, ∃ us, subscripted slice false a b = operate us (getItem a b)) (ht : ∀ o r, letTemporaryGo value o r = pure ()) :
    wpAny (model pw w) A (subscriptTail value slice (.ref l) (.ref h.objs.size)) Q E { s with heap := h.push { cls := .type "slice", data := .fields #[vl, vu, .none] }, toks := tk } := by
  have S8 := S.alG (o := { cls := .type "slice", data := .fields #[vl, vu, .none] })
  have k8 : Kp h (h.push { cls := .type "slice", data := .fields #[vl, vu, .none] }) := fun b o e => Heap.get?_push_of_some _ e
  have hl' : (h.push { cls := .type "slice", data := .fields #[vl, vu, .none] }).IsList l items := by obtain ⟨o, e, r⟩ := hl; exact ⟨o, k8 _ _ e, r⟩
  obtain ⟨us, hs⟩ := hs (.ref l) (.ref h.objs.size)
  refine tailB (us := us) hl'.typeIs slot_list_getitem.lookup (sliceS S8 hl' (.new _ _ _ _) pl pu hsz fun b h₉ S9 hb9 k9 => ?_) hs (ht _)
  exact h' b h₉ (S9.gsub fun q hq => by
    rcases List.mem_cons.mp hq with rfl | hq
    · exact .head _
    · exact .tail _ (.tail _ hq)) (Nat.le_trans (Nat.le_of_lt (by rw [Heap.size_push]; omega)) hb9) fun b o e => k9 _ _ (k8 _ _ e)
end
end Wo

namespace Wo

noncomputable def CGX (w : World) (A : Around) (env : Env) (elt target iter : Expr) (ifs : List Expr) (scope : Scope) (cl : List (Str × Addr)) (L : Addr) (up : Lm → Addr → Lm) (Q : Value → Shared → Prop) (it : Value) (s : Shared) : Prop :=
  ∃ p n m μ g, CG w A env elt target iter ifs scope cl p n L m (up m) μ g Q it s

section
variable {w : World} {A : Around} {E : Value → Shared → Prop} {s : Shared} {env : Env} {p : Heap} {n : Nat} {L : Addr} {m : Lm} {μ g : Lg} {up : Lm → Addr → Lm} {elt iter c : Expr} {scope : Scope} {cl : List (Str × Addr)} {Q : Value → Shared → Prop} {x x1 x2 x3 : Str} {px p1 p2 p3 pos : Pos} {kk : Nat}

theorem evX {target : Expr} {ifs : List Expr} (L : Addr)
    (hclos : closureFor scope env = pure cl) (hcell : ∀ y ∈ scope.names, y.2 ≠ .cell) (hkind : scope.kind = .function) (hnames : ∀ y ∈ scope.names, y.2 = .local → scope.names.lookup y.1 = some .local)
    (h : wpAny (model pw w) A (eval iter env) (fun xv s₁ => wpAny (model pw w) A (pyIter xv) (fun it s₂ => CGX w A env elt target iter ifs scope cl L (fun m _ => m) Q it s₂) E s₁) E s)
    (hs : ∀ x, foldedSetIterable iter env x = pure x := by intro _; rfl) :
    wpAny (model pw w) A (eval (.ListComp elt [⟨target, iter, ifs, 0⟩] scope pos) env) Q E s :=
  cmp_evS (L := L) hclos hcell hkind hnames h hs
theorem usX {target : Expr} {ifs : List Expr} {spos py : Pos} {y : Str} {Q : Flow → Shared → Prop}
    (hsw : swapsWith (.ListComp elt [⟨target, iter, ifs, 0⟩] scope pos) (some (.Name y py)) spos.line env = pure true)
    (hclos : closureFor scope env = pure cl) (hcell : ∀ y ∈ scope.names, y.2 ≠ .cell) (hkind : scope.kind = .function) (hnames : ∀ y ∈ scope.names, y.2 = .local → scope.names.lookup y.1 = some .local)
    (hf : Fnk env) (hy : env.kindOf y = some .local)
    (h : wpAny (model pw w) A (eval iter env) (fun xv s₁ => wpAny (model pw w) A (pyIter xv) (fun it s₂ => CGX w A env elt target iter ifs scope cl env.locals (fun m D => m.up y (.ref D)) (fun _ s' => Q .next s') it s₂) E s₁) E s)
    (hs : ∀ x, foldedSetIterable iter env x = pure x := by intro _; rfl) :
    wpAny (model pw w) A (exec (.Assign [.Name y py] (.ListComp elt [⟨target, iter, ifs, 0⟩] scope pos) spos) env) Q E s := by
  refine cmp_use hsw hclos hcell hkind hnames hf hy (wpAny_mono h (fun xv s₁ h₁ => wpAny_mono h₁ (fun it s₂ h₂ => ?_) fun _ _ e => e) fun _ _ e => e) hs
  obtain ⟨p, n, m, μ, g, I, k, Ω, Rd, B, ω, σ, Js, t, d, e, X, self, S, fin⟩ := h₂
  exact ⟨p, n, m, μ, g, I, k, Ω, Rd, B, ω, σ, Js, t, d, e, X, self, S, fin⟩

abbrev ElP (w : World) (A : Around) (elt : Expr) (ce : Env) (s : Shared) (p' : Heap) (n' : Nat) (C : Addr) (h : Heap) (m' : Lm) (μ' g' : Lg) (tk : Nat) (d : Dat) : Prop :=
  wpAny (model pw w) A (eval elt ce) (fun y s' => ∃ h' tk' g'', s' = { s with heap := h', toks := tk' } ∧ Sm p' n' C h' m' μ' (g'' ++ g') ∧ DatIn g'' y d) (fun _ _ => False) { s with heap := h, toks := tk }
abbrev TsP (w : World) (A : Around) (c : Expr) (ce : Env) (s : Shared) (h : Heap) (tk : Nat) (t : Bool) : Prop :=
  wpAny (model pw w) A (isTrue c ce (eval c ce)) (fun ok s' => ok = t ∧ ∃ h' tk', s' = { s with heap := h', toks := tk' } ∧ Kp h h') (fun _ _ => False) { s with heap := h, toks := tk }
abbrev FinP (s : Shared) (p : Heap) (n : Nat) (L : Addr) (h₂ : Heap) (mm : Addr → Lm) (μ g : Lg) (Q : Value → Shared → Prop) (ds : List Dat) : Prop :=
  ∀ D h' tk g', Sm p n L h' (mm D) μ (g' ++ g) → (∀ q ∈ g', h₂.objs.size ≤ q.1) → DatIn g' (.ref D) (.list ds) → Q (.ref D) { s with heap := h', toks := tk }

theorem zipC {l1 l2 : Addr} {xs ys : Array Value} {k : Nat} (S : Sm p n L s.heap m μ g) (hl1 : s.heap.IsList l1 xs) (hl2 : s.heap.IsList l2 ys) (hk : k = min xs.size ys.size) (hA : A.handled = none) (sz : k ≤ sizeLine) (d : Nat → Dat)
    (el : ∀ (i : Nat) (C : Addr) (p' : Heap) (n' : Nat) (m₀ : Lm) (μ' g' : Lg) (h : Heap) (tk : Nat) (v1 v2 : Value), i < k → xs[i]? = some v1 → ys[i]? = some v2 → Kp p p' → Lv p' g → Lv p' μ → s.heap.objs.size ≤ n' → Sm p' n' C h ((m₀.up x1 v1).up x2 v2) μ' g' → ElP w A elt (compEnvC scope cl C env) s p' n' C h ((m₀.up x1 v1).up x2 v2) μ' g' tk (d i))
    (fin : FinP s p n L s.heap (up m) μ g Q ((List.range k).map d))
    (hf : ∀ C, Fnk (compEnvC scope cl C env) := by exact fun _ => rfl) (h1 : ∀ C, (compEnvC scope cl C env).kindOf x1 = some .local := by exact fun _ => by rfl) (h2 : ∀ C, (compEnvC scope cl C env).kindOf x2 = some .local := by exact fun _ => by rfl) :
    wpAny (model pw w) A (call (.type "zip") [.ref l1, .ref l2]) (fun xv s₁ => wpAny (model pw w) A (pyIter xv) (fun it s₂ => CGX w A env elt (.Tuple [.Name x1 p1, .Name x2 p2] kk pos) iter [] scope cl L up Q it s₂) E s₁) E s := by
  refine zipS (envs := fun C => compEnvC scope cl C env) (x1 := x1) (x2 := x2) (p1 := p1) (p2 := p2) (pos := pos) (kk := kk) S hl1 hl2 hk hA hf h1 h2 fun z h₄ ω X S k' hz => ?_
  refine X.self _ _ _ _ X.om X.al ⟨p, n, m, μ, g, X.go S sz d ?_ fun D h' tk g' S' hg hD => fin D h' tk g' S' (fun q hq => Nat.le_trans hz.2 (hg q hq)) hD⟩
  · rintro i C p' n' m₀ m' μ' g' h₅ tk₅ hik ⟨v1, v2, e1, e2, rfl⟩ kp lg lm hn' S'
    exact el i C p' n' m₀ μ' g' h₅ tk₅ v1 v2 hik e1 e2 kp lg lm (Nat.le_trans hz.2 hn') S'
theorem listC {l : Addr} {xs : Array Value} (S : Sm p n L s.heap m μ g) (hl : s.heap.IsList l xs) (hA : A.handled = none) (sz : xs.size ≤ sizeLine) (d : Nat → Dat)
    (el : ∀ (i : Nat) (C : Addr) (p' : Heap) (n' : Nat) (m₀ : Lm) (μ' g' : Lg) (h : Heap) (tk : Nat) (v1 : Value), i < xs.size → xs[i]? = some v1 → Kp p p' → Lv p' g → Lv p' μ → s.heap.objs.size ≤ n' → Sm p' n' C h (m₀.up x1 v1) μ' g' → ElP w A elt (compEnvC scope cl C env) s p' n' C h (m₀.up x1 v1) μ' g' tk (d i))
    (fin : FinP s p n L s.heap (up m) μ g Q ((List.range xs.size).map d))
    (hf : ∀ C, Fnk (compEnvC scope cl C env) := by exact fun _ => rfl) (h1 : ∀ C, (compEnvC scope cl C env).kindOf x1 = some .local := by exact fun _ => by rfl) :
    wpAny (model pw w) A (pyIter (.ref l)) (fun it s₂ => CGX w A env elt (.Name x1 p1) iter [] scope cl L up Q it s₂) E s := by
  refine srcL (envs := fun C => compEnvC scope cl C env) (x := x1) (px := p1) S hl hA hf h1 fun z h₄ ω X S k' hz => ?_
  refine ⟨p, n, m, μ, g, X.go S sz d ?_ fun D h' tk g' S' hg hD => fin D h' tk g' S' (fun q hq => Nat.le_trans hz.2 (hg q hq)) hD⟩
  · rintro i C p' n' m₀ m' μ' g' h₅ tk₅ hik ⟨v1, e1, rfl⟩ kp lg lm hn' S'
    exact el i C p' n' m₀ μ' g' h₅ tk₅ v1 hik e1 kp lg lm (Nat.le_trans hz.2 hn') S'
theorem list3C {l : Addr} {xs : Array Value} {P : Nat → Value → Value → Value → Prop} (S : Sm p n L s.heap m μ g) (hl : s.heap.IsList l xs) (hT : ∀ i v, xs[i]? = some v → ∃ T v1 v2 v3, v = .ref T ∧ IsTup s.heap T #[v1, v2, v3] ∧ P i v1 v2 v3) (hA : A.handled = none) (sz : xs.size ≤ sizeLine) (d : Nat → Dat)
    (el : ∀ (i : Nat) (C : Addr) (p' : Heap) (n' : Nat) (m₀ : Lm) (μ' g' : Lg) (h : Heap) (tk : Nat) (v1 v2 v3 : Value), i < xs.size → P i v1 v2 v3 → Kp p p' → Lv p' g → Lv p' μ → s.heap.objs.size ≤ n' → Sm p' n' C h (((m₀.up x1 v1).up x2 v2).up x3 v3) μ' g' → ElP w A elt (compEnvC scope cl C env) s p' n' C h (((m₀.up x1 v1).up x2 v2).up x3 v3) μ' g' tk (d i))
    (fin : FinP s p n L s.heap (up m) μ g Q ((List.range xs.size).map d))
    (hf : ∀ C, Fnk (compEnvC scope cl C env) := by exact fun _ => rfl) (h1 : ∀ C, (compEnvC scope cl C env).kindOf x1 = some .local := by exact fun _ => by rfl) (h2 : ∀ C, (compEnvC scope cl C env).kindOf x2 = some .local := by exact fun _ => by rfl) (h3 : ∀ C, (compEnvC scope cl C env).kindOf x3 = some .local := by exact fun _ => by rfl) :
    wpAny (model pw w) A (pyIter (.ref l)) (fun it s₂ => CGX w A env elt (.Tuple [.Name x1 p1, .Name x2 p2, .Name x3 p3] kk pos) iter [] scope cl L up Q it s₂) E s := by
  refine srcL3 (envs := fun C => compEnvC scope cl C env) (x1 := x1) (x2 := x2) (x3 := x3) (p1 := p1) (p2 := p2) (p3 := p3) (pos := pos) (kk := kk) S hl hT hA hf h1 h2 h3 fun z h₄ ω Rd X S k' hz => ?_
  refine ⟨p, n, m, μ, g, X.go S sz d ?_ fun D h' tk g' S' hg hD => fin D h' tk g' S' (fun q hq => Nat.le_trans hz.2 (hg q hq)) hD⟩
  · rintro i C p' n' m₀ m' μ' g' h₅ tk₅ hik ⟨v1, v2, v3, e1, rfl⟩ kp lg lm hn' S'
    exact el i C p' n' m₀ μ' g' h₅ tk₅ v1 v2 v3 hik e1 kp lg lm (Nat.le_trans hz.2 hn') S'
theorem listCF {l : Addr} {xs : Array Value} (S : Sm p n L s.heap m μ g) (hl : s.heap.IsList l xs) (hA : A.handled = none) (sz : xs.size ≤ sizeLine) (t : Nat → Bool) (d : Nat → Dat)
    (tst : ∀ (i : Nat) (C : Addr) (p' : Heap) (n' : Nat) (m₀ : Lm) (μ' g' : Lg) (h : Heap) (tk : Nat) (v1 : Value), i < xs.size → xs[i]? = some v1 → Kp p p' → Lv p' g → Lv p' μ → s.heap.objs.size ≤ n' → Sm p' n' C h (m₀.up x1 v1) μ' g' → TsP w A c (compEnvC scope cl C env) s h tk (t i))
    (el : ∀ (i : Nat) (C : Addr) (p' : Heap) (n' : Nat) (m₀ : Lm) (μ' g' : Lg) (h : Heap) (tk : Nat) (v1 : Value), i < xs.size → t i = true → xs[i]? = some v1 → Kp p p' → Lv p' g → Lv p' μ → s.heap.objs.size ≤ n' → Sm p' n' C h (m₀.up x1 v1) μ' g' → ElP w A elt (compEnvC scope cl C env) s p' n' C h (m₀.up x1 v1) μ' g' tk (d i))
    (fin : FinP s p n L s.heap (up m) μ g Q (((List.range xs.size).filter t).map d))
    (hf : ∀ C, Fnk (compEnvC scope cl C env) := by exact fun _ => rfl) (h1 : ∀ C, (compEnvC scope cl C env).kindOf x1 = some .local := by exact fun _ => by rfl) :
    wpAny (model pw w) A (pyIter (.ref l)) (fun it s₂ => CGX w A env elt (.Name x1 p1) iter [c] scope cl L up Q it s₂) E s := by
  refine srcL (envs := fun C => compEnvC scope cl C env) (x := x1) (px := p1) S hl hA hf h1 fun z h₄ ω X S k' hz => ?_
  refine ⟨p, n, m, μ, g, X.goF S sz t d ?_ ?_ fun D h' tk g' S' hg hD => fin D h' tk g' S' (fun q hq => Nat.le_trans hz.2 (hg q hq)) hD⟩
  · rintro i C p' n' m₀ m' μ' g' h₅ tk₅ hik ⟨v1, e1, rfl⟩ kp lg lm hn' S'
    exact tst i C p' n' m₀ μ' g' h₅ tk₅ v1 hik e1 kp lg lm (Nat.le_trans hz.2 hn') S'
  · rintro i C p' n' m₀ m' μ' g' h₅ tk₅ hik ht ⟨v1, e1, rfl⟩ kp lg lm hn' S'
    exact el i C p' n' m₀ μ' g' h₅ tk₅ v1 hik ht e1 kp lg lm (Nat.le_trans hz.2 hn') S'
theorem list3CF {l : Addr} {xs : Array Value} {P : Nat → Value → Value → Value → Prop} (S : Sm p n L s.heap m μ g) (hl : s.heap.IsList l xs) (hT : ∀ i v, xs[i]? = some v → ∃ T v1 v2 v3, v = .ref T ∧ IsTup s.heap T #[v1, v2, v3] ∧ P i v1 v2 v3) (hA : A.handled = none) (sz : xs.size ≤ sizeLine) (t : Nat → Bool) (d : Nat → Dat)
    (tst : ∀ (i : Nat) (C : Addr) (p' : Heap) (n' : Nat) (m₀ : Lm) (μ' g' : Lg) (h : Heap) (tk : Nat) (v1 v2 v3 : Value), i < xs.size → P i v1 v2 v3 → Kp p p' → Lv p' g → Lv p' μ → s.heap.objs.size ≤ n' → Sm p' n' C h (((m₀.up x1 v1).up x2 v2).up x3 v3) μ' g' → TsP w A c (compEnvC scope cl C env) s h tk (t i))
    (el : ∀ (i : Nat) (C : Addr) (p' : Heap) (n' : Nat) (m₀ : Lm) (μ' g' : Lg) (h : Heap) (tk : Nat) (v1 v2 v3 : Value), i < xs.size → t i = true → P i v1 v2 v3 → Kp p p' → Lv p' g → Lv p' μ → s.heap.objs.size ≤ n' → Sm p' n' C h (((m₀.up x1 v1).up x2 v2).up x3 v3) μ' g' → ElP w A elt (compEnvC scope cl C env) s p' n' C h (((m₀.up x1 v1).up x2 v2).up x3 v3) μ' g' tk (d i))
    (fin : FinP s p n L s.heap (up m) μ g Q (((List.range xs.size).filter t).map d))
    (hf : ∀ C, Fnk (compEnvC scope cl C env) := by exact fun _ => rfl) (h1 : ∀ C, (compEnvC scope cl C env).kindOf x1 = some .local := by exact fun _ => by rfl) (h2 : ∀ C, (compEnvC scope cl C env).kindOf x2 = some .local := by exact fun _ => by rfl) (h3 : ∀ C, (compEnvC scope cl C env).kindOf x3 = some .local := by exact fun _ => by rfl) :
    wpAny (model pw w) A (pyIter (.ref l)) (fun it s₂ => CGX w A env elt (.Tuple [.Name x1 p1, .Name x2 p2, .Name x3 p3] kk pos) iter [c] scope cl L up Q it s₂) E s := by
  refine srcL3 (envs := fun C => compEnvC scope cl C env) (x1 := x1) (x2 := x2) (x3 := x3) (p1 := p1) (p2 := p2) (p3 := p3) (pos := pos) (kk := kk) S hl hT hA hf h1 h2 h3 fun z h₄ ω Rd X S k' hz => ?_
  refine ⟨p, n, m, μ, g, X.goF S sz t d ?_ ?_ fun D h' tk g' S' hg hD => fin D h' tk g' S' (fun q hq => Nat.le_trans hz.2 (hg q hq)) hD⟩
  · rintro i C p' n' m₀ m' μ' g' h₅ tk₅ hik ⟨v1, v2, v3, e1, rfl⟩ kp lg lm hn' S'
    exact tst i C p' n' m₀ μ' g' h₅ tk₅ v1 v2 v3 hik e1 kp lg lm (Nat.le_trans hz.2 hn') S'
  · rintro i C p' n' m₀ m' μ' g' h₅ tk₅ hik ht ⟨v1, v2, v3, e1, rfl⟩ kp lg lm hn' S'
    exact el i C p' n' m₀ μ' g' h₅ tk₅ v1 v2 v3 hik ht e1 kp lg lm (Nat.le_trans hz.2 hn') S'
theorem list2C {l : Addr} {xs : Array Value} {P : Nat → Value → Value → Prop} (S : Sm p n L s.heap m μ g) (hl : s.heap.IsList l xs) (hT : ∀ i v, xs[i]? = some v → ∃ T v1 v2, v = .ref T ∧ IsTup s.heap T #[v1, v2] ∧ P i v1 v2) (hA : A.handled = none) (sz : xs.size ≤ sizeLine) (d : Nat → Dat)
    (el : ∀ (i : Nat) (C : Addr) (p' : Heap) (n' : Nat) (m₀ : Lm) (μ' g' : Lg) (h : Heap) (tk : Nat) (v1 v2 : Value), i < xs.size → P i v1 v2 → Kp p p' → Lv p' g → Lv p' μ → s.heap.objs.size ≤ n' → Sm p' n' C h ((m₀.up x1 v1).up x2 v2) μ' g' → ElP w A elt (compEnvC scope cl C env) s p' n' C h ((m₀.up x1 v1).up x2 v2) μ' g' tk (d i))
    (fin : FinP s p n L s.heap (up m) μ g Q ((List.range xs.size).map d))
    (hf : ∀ C, Fnk (compEnvC scope cl C env) := by exact fun _ => rfl) (h1 : ∀ C, (compEnvC scope cl C env).kindOf x1 = some .local := by exact fun _ => by rfl) (h2 : ∀ C, (compEnvC scope cl C env).kindOf x2 = some .local := by exact fun _ => by rfl) :
    wpAny (model pw w) A (pyIter (.ref l)) (fun it s₂ => CGX w A env elt (.Tuple [.Name x1 p1, .Name x2 p2] kk pos) iter [] scope cl L up Q it s₂) E s := by
  refine srcL2 (envs := fun C => compEnvC scope cl C env) (x1 := x1) (x2 := x2) (p1 := p1) (p2 := p2) (pos := pos) (kk := kk) S hl hT hA hf h1 h2 fun z h₄ ω Rd X S k' hz => ?_
  refine ⟨p, n, m, μ, g, X.go S sz d ?_ fun D h' tk g' S' hg hD => fin D h' tk g' S' (fun q hq => Nat.le_trans hz.2 (hg q hq)) hD⟩
  · rintro i C p' n' m₀ m' μ' g' h₅ tk₅ hik ⟨v1, v2, e1, rfl⟩ kp lg lm hn' S'
    exact el i C p' n' m₀ μ' g' h₅ tk₅ v1 v2 hik e1 kp lg lm (Nat.le_trans hz.2 hn') S'
theorem strC {X : Str} {t₀ : Tok} (S : Sm p n L s.heap m μ g) (has : X.cps.all (· < 128) = true) (hA : A.handled = none) (sz : X.cps.size ≤ sizeLine) (d : Nat → Dat)
    (el : ∀ (i : Nat) (C : Addr) (p' : Heap) (n' : Nat) (m₀ : Lm) (μ' g' : Lg) (h : Heap) (tk : Nat) (v1 : Value), i < X.cps.size → (∃ c t, X.cps[i]? = some c ∧ v1 = .str ⟨#[c]⟩ t) → Kp p p' → Lv p' g → Lv p' μ → s.heap.objs.size ≤ n' → Sm p' n' C h (m₀.up x1 v1) μ' g' → ElP w A elt (compEnvC scope cl C env) s p' n' C h (m₀.up x1 v1) μ' g' tk (d i))
    (fin : FinP s p n L s.heap (up m) μ g Q ((List.range X.cps.size).map d))
    (hf : ∀ C, Fnk (compEnvC scope cl C env) := by exact fun _ => rfl) (h1 : ∀ C, (compEnvC scope cl C env).kindOf x1 = some .local := by exact fun _ => by rfl) :
    wpAny (model pw w) A (pyIter (.str X t₀)) (fun it s₂ => CGX w A env elt (.Name x1 p1) iter [] scope cl L up Q it s₂) E s := by
  refine srcS (envs := fun C => compEnvC scope cl C env) (x := x1) (px := p1) S has hA hf h1 fun z h₄ ω X S k' hz => ?_
  refine ⟨p, n, m, μ, g, X.go S sz d ?_ fun D h' tk g' S' hg hD => fin D h' tk g' S' (fun q hq => Nat.le_trans hz.2 (hg q hq)) hD⟩
  · rintro i C p' n' m₀ m' μ' g' h₅ tk₅ hik ⟨v1, e1, rfl⟩ kp lg lm hn' S'
    exact el i C p' n' m₀ μ' g' h₅ tk₅ v1 hik e1 kp lg lm (Nat.le_trans hz.2 hn') S'
theorem rangeC {r : Addr} {a b : Int} {t u v : Tok} {k : Nat} (S : Sm p n L s.heap m μ g) (hr : IsRange s.heap r a b 1 t u v) (hab : b = a + k) (ha0 : 0 ≤ a) (ha1 : a < 1000000) (hk : k < 1000000) (hA : A.handled = none) (sz : k ≤ sizeLine) (d : Nat → Dat)
    (el : ∀ (i : Nat) (C : Addr) (p' : Heap) (n' : Nat) (m₀ : Lm) (μ' g' : Lg) (h : Heap) (tk : Nat) (v1 : Value), i < k → (∃ t, v1 = .int (a + i) t) → Kp p p' → Lv p' g → Lv p' μ → s.heap.objs.size ≤ n' → Sm p' n' C h (m₀.up x1 v1) μ' g' → ElP w A elt (compEnvC scope cl C env) s p' n' C h (m₀.up x1 v1) μ' g' tk (d i))
    (fin : FinP s p n L s.heap (up m) μ g Q ((List.range k).map d))
    (hf : ∀ C, Fnk (compEnvC scope cl C env) := by exact fun _ => rfl) (h1 : ∀ C, (compEnvC scope cl C env).kindOf x1 = some .local := by exact fun _ => by rfl) :
    wpAny (model pw w) A (pyIter (.ref r)) (fun it s₂ => CGX w A env elt (.Name x1 p1) iter [] scope cl L up Q it s₂) E s := by
  refine srcR (envs := fun C => compEnvC scope cl C env) (x := x1) (px := p1) S hr hab ha0 ha1 hk hA hf h1 fun z h₄ ω X S k' hz => ?_
  refine ⟨p, n, m, μ, g, X.go S sz d ?_ fun D h' tk g' S' hg hD => fin D h' tk g' S' (fun q hq => Nat.le_trans hz.2 (hg q hq)) hD⟩
  · rintro i C p' n' m₀ m' μ' g' h₅ tk₅ hik ⟨v1, e1, rfl⟩ kp lg lm hn' S'
    exact el i C p' n' m₀ μ' g' h₅ tk₅ v1 hik e1 kp lg lm (Nat.le_trans hz.2 hn') S'
end
end Wo

namespace Wo

theorem Sm.hid {q h : Heap} {n : Nat} {L : Addr} {m : Lm} {μ σ : Lg} (S : Sm q n L h m μ []) (hσ : ∀ r ∈ σ, q.get? r.1 = some r.2) (hD : (σ.map (·.1)).Nodup) : Sm (hideAll q (σ.map (·.1))) n L h m (σ ++ μ) [] := by
  refine ⟨⟨S.F.ns, fun b o e => S.F.keep b o (of_hideAll _ e), by rw [hideAll_size]; exact S.F.above⟩, fun r hr => ?_, ?_, fun _ q => (nomatch q), S.N⟩
  · rcases List.mem_append.mp hr with hr | hr
    · exact ⟨S.F.keep _ _ (hσ r hr), fun e => absurd (Heap.lt_size (hσ r hr)) (Nat.not_lt.mpr (by rw [e]; exact S.F.above)), hideAll_none _ (mem1 hr rfl)⟩
    · refine ⟨(S.M r hr).1, (S.M r hr).2.1, ?_⟩
      cases z : (hideAll q (σ.map (·.1))).get? r.1 with
      | none => rfl
      | some o => have := of_hideAll _ z; rw [(S.M r hr).2.2] at this; cases this
  · rw [List.map_append]
    refine List.nodup_append.mpr ⟨hD, S.D, fun a ha b hb e => ?_⟩
    obtain ⟨r, hr, er⟩ := List.mem_map.mp ha
    obtain ⟨z, hz, ez⟩ := List.mem_map.mp hb
    have h1 := hσ r hr
    have h2 := (S.M z hz).2.2
    have er' : r.1 = a := er
    have ez' : z.1 = b := ez
    rw [er'] at h1; rw [ez', ← e, h1] at h2; cases h2

section
variable {w : World} {A : Around} {E : Value → Shared → Prop} {s : Shared} {env : Env} {p : Heap} {n : Nat} {L : Addr} {m : Lm} {μ g : Lg} {mg mb : Str → Option Value} {h₀ : Heap}

theorem enterC {f c : Addr} {name qual : Str} {params : Arguments} {body : List Stmt} {scope : Scope} {dV kV doc pm ct oc : Value} {an od : Option Addr} {osl : Array (Option Value)} {pos : List Value} {kw : List (Str × Value)} {binds : List (Str × Value)} {n : Nat} {Q : Value → Shared → Prop}
    {cls : Addr → List (Str × Addr)} {m₀ cm : Lm}
    (R : Rm A (n + 1)) (B : Bs w mg mb h₀) (k : Kp h₀ s.heap)
    (hf : s.heap.get? f = some ⟨oc, od, .func (fnX name qual params body scope [] dV kV doc pm an (.ref c) ct), osl⟩) (hc : s.heap.CodeRec (.ref c) qual)
    (hb : BindsTo s (fnX name qual params body scope [] dV kV doc pm an (.ref c) ct) ⟨pos, kw⟩ binds)
    (hcls : ∀ L, cellsFrom (L + 1) scope.names [] = cls L) (hnd : ∀ L, ((cls L).map (·.1)).Nodup) (hnd2 : ∀ L, ((cls L).map (·.2)).Nodup)
    (hkind : ∀ L, ∀ x ∈ binds, scope.names.lookup x.1 = some .local ∨ (scope.names.lookup x.1 = some .cell ∧ ((cls L).lookup x.1).isSome = true))
    (hm : ∀ L, bindL (envX qual scope L f (.ref c) (cls L)).kindOf binds (fun _ => none) = m₀) (hcm : ∀ L, bindC (envX qual scope L f (.ref c) (cls L)).kindOf binds (fun _ => none) = cm)
    (hco : scope.isCoroutine = false) (hgen : scope.isGenerator = false) (hk : scope.kind = .function)
    (h : ∀ (L : Addr) (h₁ : Heap) (A' : Around) (tk : Nat) (cells : Lg), L = s.heap.objs.size → Rm A' n → A' = A.deeper (envX qual scope L f (.ref c) (cls L)) → Sm s.heap L L h₁ m₀ cells [] → CellsAre cm (cls L) cells →
      wpAny (model pw w) A' (execs body (envX qual scope L f (.ref c) (cls L))) (fun fl s' => Q (match fl with | .ret v => v | _ => .none) s') (fun _ _ => False) { s with heap := h₁, toks := tk }) :
    wpAny (model pw w) A (call (.ref f) pos kw) Q E s := by
  have hcls' : ∀ L, (envX qual scope L f (.ref c) (cellsFrom (L + 1) scope.names [])) = envX qual scope L f (.ref c) (cls L) := fun L => by rw [hcls]
  refine wpAny_call (codeAny_call_function (fd := fnX name qual params body scope [] dV kV doc pm an (.ref c) ct) (body := body) R.room hf rfl hco hgen rfl hc (hb _ _ _ _ ?_))
  refine wpAny_newFunctionEnv_cells hk (fun x hx => hcls s.heap.objs.size ▸ hkind s.heap.objs.size x hx) fun env' he s' x => ?_
  subst he
  refine ⟨(B.nl.keeps k).keeps x.toInCall.keep, codeAny_func ?_⟩
  obtain ⟨h₁, tk, rfl, _⟩ := x.done
  have hk₁ := x.toInCall.keep
  obtain ⟨cells, NC, Y⟩ := Cl.news (h₀ := s.heap) (Nat.le_refl _) fun n c hm => ⟨x.cell n c (lookup_of_mem_nodup (by show ((cellsFrom (s.heap.objs.size + 1) scope.names []).map (·.1)).Nodup; rw [hcls]; exact hnd _) hm), x.above n c hm⟩
  have Y' : CellsAre cm (cls s.heap.objs.size) cells := by
    have e := hcm s.heap.objs.size
    have Y2 : CellsAre (bindC (envX qual scope s.heap.objs.size f (.ref c) (cellsFrom (s.heap.objs.size + 1) scope.names [])).kindOf binds fun _ => none) (cellsFrom (s.heap.objs.size + 1) scope.names []) cells := Y
    rw [hcls' s.heap.objs.size, e, hcls] at Y2
    exact Y2
  have hadr : ∀ {cm : Lm} {cs : List (Str × Addr)} {cells : Lg}, CellsAre cm cs cells → cells.map (·.1) = cs.map (·.2) := by
    intro cm cs cells X
    induction X with
    | nil => rfl
    | cons _ _ ih => simp [ih]
  have S : Sm s.heap s.heap.objs.size s.heap.objs.size h₁ m₀ cells [] := by
    refine ⟨⟨?_, hk₁, Nat.le_refl _⟩, fun q hq => NC q hq, by rw [hadr Y']; exact hnd2 _, fun _ q => (nomatch q), Nat.le_refl _⟩
    have e := hm s.heap.objs.size
    have z : h₁.Ns s.heap.objs.size (bindL (envX qual scope s.heap.objs.size f (.ref c) (cellsFrom (s.heap.objs.size + 1) scope.names [])).kindOf binds fun _ => none) := x.toInCall.ns
    rw [hcls' s.heap.objs.size, e] at z
    exact z
  have fin := h s.heap.objs.size h₁ _ tk cells rfl (R.deeper _) rfl S Y'
  have e0 : envX qual scope s.heap.objs.size f (.ref c) (cls s.heap.objs.size) = newEnv scope s.heap.objs.size mainGlobals (cellsFrom (s.heap.objs.size + 1) scope.names []) (qual ++ ".<locals>.") (some f) (.ref c) none builtinsNs := by
    rw [← hcls' s.heap.objs.size]; rfl
  rw [e0] at fin
  exact wpAny_mono fin (fun fl s' hq => hq) fun _ _ x => x.elim

theorem nmC {x : Str} {pos : Pos} {c : Addr} {o : Obj} {v : Value} {Q : Value → Shared → Prop} (hc : env.cells.lookup x = some c) (ho : s.heap.get? c = some o) (hd : o.data = .cell (some v)) (h : Q v s)
    (hk : env.scope.kind = .function) (hl : env.kindOf x = some .cell) (hb : (x == ("__debug__" : Str)) = false) : wpAny (model pw w) A (eval (.Name x pos) env) Q E s :=
  wpAny_Name (wpAny_loadName_cell hk hl hc ⟨o, ho, hd⟩ h) hb
theorem nmF {x : Str} {pos : Pos} {c : Addr} {o : Obj} {v : Value} {Q : Value → Shared → Prop} (hc : env.cells.lookup x = some c) (ho : s.heap.get? c = some o) (hd : o.data = .cell (some v)) (h : Q v s)
    (hk : env.scope.kind = .function) (hl : env.kindOf x = some .free) (hb : (x == ("__debug__" : Str)) = false) (hn : (x == ("__classdict__" : Str)) = false) : wpAny (model pw w) A (eval (.Name x pos) env) Q E s :=
  wpAny_Name (wpAny_loadName_free hk hl hc ⟨o, ho, hd⟩ h hn) hb
theorem nmCS {x : Str} {pos : Pos} {c : Addr} {o : Obj} {v : Value} {Q : Value → Shared → Prop} (S : Sm p n env.locals s.heap m μ g) (hc : env.cells.lookup x = some c) (hm : (c, o) ∈ g) (hd : o.data = .cell (some v)) (h : Q v s)
    (hk : env.scope.kind = .function) (hl : env.kindOf x = some .cell) (hb : (x == ("__debug__" : Str)) = false) : wpAny (model pw w) A (eval (.Name x pos) env) Q E s :=
  nmC hc (S.lv _ hm) hd h hk hl hb
theorem nmFS {x : Str} {pos : Pos} {c : Addr} {o : Obj} {v : Value} {g₀ : Lg} {Q : Value → Shared → Prop} (S : Sm p n env.locals s.heap m μ g) (l : Lv p g₀) (hc : env.cells.lookup x = some c) (hm : (c, o) ∈ g₀) (hd : o.data = .cell (some v)) (h : Q v s)
    (hk : env.scope.kind = .function) (hl : env.kindOf x = some .free) (hb : (x == ("__debug__" : Str)) = false) (hn : (x == ("__classdict__" : Str)) = false) : wpAny (model pw w) A (eval (.Name x pos) env) Q E s :=
  nmF hc (S.F.keep _ _ (l _ hm)) hd h hk hl hb hn
theorem stC {x : Str} {v : Value} {c : Addr} {o : Obj} {v₀ : Option Value} {μ' : Lg} {Q : Unit → Shared → Prop} (S : Sm p n env.locals s.heap m μ g) (hp : μ.Perm ((c, o) :: μ')) (hd : o.data = .cell v₀) (hn : n ≤ c) (hf : Fnk env) (hl : env.kindOf x = some .cell) (hc : env.cells.lookup x = some c)
    (h : ∀ h' o', o'.data = .cell (some v) → Sm p n env.locals h' m μ' ((c, o') :: g) → (∀ b y, b ≠ c → s.heap.get? b = some y → h'.get? b = some y) → Q () { s with heap := h' }) : wpAny (model pw w) A (storeName env x v) Q E s := by
  have S' := S.perm hp
  refine wpAny_storeName_cell hf hl hc ⟨o, (S'.M _ (.head _)).1, hd⟩ fun h' hv hs => ?_
  obtain ⟨o', ho', hd'⟩ := hv
  exact h h' o' hd' ((S'.chg (fun b y hb e => hs.extBut b y hb e) ho').freeze hn) fun b y hb e => hs.extBut b y hb e
theorem stCm {x : Str} {v : Value} {c : Addr} {o : Obj} {v₀ : Option Value} {μ' : Lg} {Q : Unit → Shared → Prop} (S : Sm p n env.locals s.heap m μ g) (hp : μ.Perm ((c, o) :: μ')) (hd : o.data = .cell v₀) (hf : Fnk env) (hl : env.kindOf x = some .cell) (hc : env.cells.lookup x = some c)
    (h : ∀ h' o', o'.data = .cell (some v) → Sm p n env.locals h' m ((c, o') :: μ') g → Q () { s with heap := h' }) : wpAny (model pw w) A (storeName env x v) Q E s := by
  have S' := S.perm hp
  refine wpAny_storeName_cell hf hl hc ⟨o, (S'.M _ (.head _)).1, hd⟩ fun h' hv hs => ?_
  obtain ⟨o', ho', hd'⟩ := hv
  exact h h' o' hd' (S'.chg (fun b y hb e => hs.extBut b y hb e) ho')

noncomputable def TbH (pos : Pos) (qual : Str) (h : Heap) (o : Obj) : Prop := o = tabObj #[] ∨ ∃ c', o = tabObj #[rawInt pos.line, rawInt pos.col, .ref c'] ∧ h.CodeRec (.ref c') qual
noncomputable def TbG (pos : Pos) (qual : Str) (g : Lg) (o : Obj) : Prop := o = tabObj #[] ∨ ∃ c' oc vs t, o = tabObj #[rawInt pos.line, rawInt pos.col, .ref c'] ∧ (c', oc) ∈ g ∧ oc.data = .fields vs ∧ vs[1]? = some (.str qual t)
theorem TbG.h {pos : Pos} {qual : Str} {g : Lg} {o : Obj} {h : Heap} (T : TbG pos qual g o) (l : Lv h g) : TbH pos qual h o := by
  rcases T with rfl | ⟨c', oc, vs, t, rfl, h1, h2, h3⟩
  · exact .inl rfl
  · exact .inr ⟨c', rfl, c', oc, vs, t, rfl, l _ h1, h2, h3⟩
theorem TbG.mono {pos : Pos} {qual : Str} {g g' : Lg} {o : Obj} (T : TbG pos qual g o) (l : ∀ q ∈ g, q ∈ g') : TbG pos qual g' o := by
  rcases T with rfl | ⟨c', oc, vs, t, rfl, h1, h2, h3⟩
  · exact .inl rfl
  · exact .inr ⟨c', oc, vs, t, rfl, l _ h1, h2, h3⟩
theorem TbH.keeps {pos : Pos} {qual : Str} {h h' : Heap} {o : Obj} (T : TbH pos qual h o) (k : Kp h h') : TbH pos qual h' o := by
  rcases T with rfl | ⟨c', rfl, h1⟩
  · exact .inl rfl
  · exact .inr ⟨c', rfl, h1.keeps k⟩

theorem mulS {l : Addr} {v : Value} {nn : Nat} {k : Nat} {x : Int} {u : Tok} {Q : Value → Shared → Prop} (S : Sm p n L s.heap m μ g) (hl : s.heap.get? l = some (listOf #[v] nn)) (hx : x = k) (hk : k ≤ 1000)
    (h : ∀ a h', Sm p n L h' m ((a, listOf (List.replicate k v).toArray 0) :: μ) g → s.heap.objs.size ≤ a → Q (.ref a) { s with heap := h' }) :
    wpAny (model pw w) A (binaryOp .Mult (.ref l) (.int x u)) Q E s := by
  have e : (List.foldl (fun x1 x2 => x1 ++ x2) #[] (List.replicate (if (#[v] : Array Value).isEmpty = true then 0 else x.toNat) #[v])) = (List.replicate k v).toArray := by
    rw [show (#[v] : Array Value).isEmpty = false from rfl, if_neg Bool.false_ne_true, hx, Int.toNat_natCast, listMul_foldl, lm_rep_flat_one]
    simp
  have q := h _ _ (S.alM (o := listOf (List.replicate k v).toArray 0)) (Nat.le_refl _)
  rw [← e] at q
  have h1 : (#[v] : Array Value).size * x.toNat ≤ 1000 := by
    rw [show (#[v] : Array Value).size = 1 from rfl]; omega
  have hz : ¬ Builtin.List.listTooLong ((#[v] : Array Value).size * x.toNat) = true := by
    have h2 : 1000 ≤ sizeLine := by rw [sizeLine_eq]; omega
    unfold Builtin.List.listTooLong
    rw [decide_eq_true_eq]
    omega
  exact wpAny_binaryOp_repeat_ref (T := "list") (U := "int") (by decide) ⟨_, hl, rfl⟩ (fun s' => typeIs_int s' x u) noFill_list_mul F.fills_int_mul F.slot_int_rmul repeat_list F.slot_int_index.lookup
    (call_meets F.slot_int_rmul (typeIs_int s x u) F.entry_int_rmul (F.args_int_rmul_2 _ _) (int___rmul___int_list x u l #[v] nn)
      ⟨hl, rfl, ⟨_, hl, rfl⟩, call_meets F.slot_list_mul ⟨_, hl, rfl⟩ F.entry_list_mul (F.args_list_mul_2 _ _)
        (AutoListH.list___mul___list_int_3 l #[v] nn x u (by simp [Builtin.List.listFitsIndex]; omega) (by omega) hz) ⟨hl, q⟩⟩)

theorem Sm.named {p h : Heap} {n : Nat} {L : Addr} {m : Lm} {μ g : Lg} (S : Sm p n L h m μ g) : ∃ G, G = g ∧ Sm p n L h m μ G := ⟨g, rfl, S⟩
theorem hd1 {G : Lg} {a : Addr × Obj} {l : Lg} (h : G = a :: l) : a ∈ G := by rw [h]; exact .head _
theorem hd2 {G : Lg} {a b : Addr × Obj} {l : Lg} (h : G = a :: b :: l) : b ∈ G := by rw [h]; exact .tail _ (.head _)
noncomputable def NoCode (o : Obj) : Prop := ∀ vs q t, o.data = .fields vs → vs[1]? ≠ some (.str q t)
theorem nc_cell {o : Obj} {v : Option Value} (h : o.data = .cell v) : NoCode o := fun vs q t e => by rw [h] at e; cases e
theorem nc_list {its : Array Value} {n : Nat} : NoCode (listOf its n) := fun vs q t e => by cases e
theorem TbH.nc {pos : Pos} {qual : Str} {h : Heap} {o : Obj} (T : TbH pos qual h o) : NoCode o := fun vs q t e z => by
  rcases T with rfl | ⟨c', rfl, _⟩
  · cases e; cases z
  · cases e; cases z
theorem crX {h h' : Heap} {cd : Value} {q : Str} {σ : Lg} (x : h.CodeRec cd q) (k : KpX (σ.map (·.1)) h h') (hσ : ∀ r ∈ σ, h.get? r.1 = some r.2 ∧ NoCode r.2) : h'.CodeRec cd q := by
  obtain ⟨c, o, vs, t, e, g, d, v⟩ := x
  refine ⟨c, o, vs, t, e, k _ _ (fun z => ?_) g, d, v⟩
  obtain ⟨r, hr, er⟩ := List.mem_map.mp z
  obtain ⟨h1, h2⟩ := hσ r hr
  have er' : r.1 = c := er
  rw [er', g] at h1
  cases h1
  exact h2 _ _ _ d v
theorem kpx_hide {h : Heap} {σ : List Addr} : KpX σ h (hideAll h σ) := fun b o hb e => hideAll_get _ e hb
theorem TbH.x {pos : Pos} {qual : Str} {h h' : Heap} {o : Obj} {σ : Lg} (T : TbH pos qual h o) (k : KpX (σ.map (·.1)) h h') (hσ : ∀ r ∈ σ, h.get? r.1 = some r.2 ∧ NoCode r.2) : TbH pos qual h' o := by
  rcases T with rfl | ⟨c', rfl, h1⟩
  · exact .inl rfl
  · exact .inr ⟨c', rfl, crX h1 k hσ⟩

section
variable {a b r : Int} {t u : Tok} {Q : Value → Shared → Prop}
theorem addR (r : Int) (hr : a + b = r) (h : ∀ tk t', Q (.int r t') { s with toks := tk }) : wpAny (model pw w) A (binaryOp .Add (.int a t) (.int b u)) Q E s := add_int (by rw [hr]; exact h _ _)
theorem subR (r : Int) (hr : a - b = r) (h : ∀ tk t', Q (.int r t') { s with toks := tk }) : wpAny (model pw w) A (binaryOp .Sub (.int a t) (.int b u)) Q E s := sub_int (by rw [hr]; exact h _ _)
theorem mulR (r : Int) (hr : a * b = r) (hb : a.natAbs < 2 ^ 32 ∧ b.natAbs < 2 ^ 32) (h : ∀ tk t', Q (.int r t') { s with toks := tk }) : wpAny (model pw w) A (binaryOp .Mult (.int a t) (.int b u)) Q E s := by
  obtain ⟨h1, h2⟩ := hb
  exact mul_int (by rw [hr]; exact h _ _)
theorem shrR (r : Int) (hn : 0 ≤ b) (hr : a.fdiv (2 ^ b.toNat) = r) (h : ∀ tk t', Q (.int r t') { s with toks := tk }) : wpAny (model pw w) A (binaryOp .RShift (.int a t) (.int b u)) Q E s := rshift_int hn (by rw [hr]; exact h _ _)
theorem shlR (r : Int) (hn : 0 ≤ b) (hn2 : b ≤ 1000000) (ha : a.natAbs < 2 ^ 64) (hr : a * 2 ^ b.toNat = r) (h : ∀ tk t', Q (.int r t') { s with toks := tk }) : wpAny (model pw w) A (binaryOp .LShift (.int a t) (.int b u)) Q E s := lshift_int_small hn hn2 ha (by rw [hr]; exact h _ _)
theorem xorR (r : Int) (hr : Builtin.bitXor a b = r) (h : ∀ tk t', Q (.int r t') { s with toks := tk }) : wpAny (model pw w) A (binaryOp .BitXor (.int a t) (.int b u)) Q E s := xor_int (by rw [hr]; exact h _ _)
theorem fdivR (r : Int) (hb : b ≠ 0) (hr : a.fdiv b = r) (hs : b.natAbs < 1073741824) (h : ∀ tk t', Q (.int r t') { s with toks := tk }) : wpAny (model pw w) A (binaryOp .FloorDiv (.int a t) (.int b u)) Q E s := floordiv_int hb (by rw [hr]; exact h _ _) (hp := .inl (PyProof.noPylong_small (by omega)))
end
theorem setS {a : Addr} {vs : List Value} {nn : Nat} {x : Int} {k : Nat} {u : Tok} {y : Value} {Q : Unit → Shared → Prop} (S : Sm p n L s.heap m ((a, listOf vs.toArray nn) :: μ) g) (hx : x = k) (hk : k < vs.length) (hz : vs.length ≤ 1000)
    (h : ∀ h' nn', Sm p n L h' m ((a, listOf (vs.set k y).toArray nn') :: μ) g → Q () { s with heap := h' }) :
    wpAny (model pw w) A (setItem (.ref a) (.int x u) y) Q E s := by
  have z := (S.M _ (.head _)).1
  obtain ⟨n', e⟩ := lupd (f := fun xs => xs.setIfInBounds x.toNat y) z (ws := vs.set k y) (by apply Array.toList_inj.mp; rw [hx]; simp)
  have hs : ∀ f b x, b ≠ a → s.heap.get? b = some x → (s.heap.update a f).get? b = some x := fun f b x hb e => (Heap.SameBut.update (a := a) (h := s.heap) ..).extBut b x hb e
  exact ki_setAt z (by omega) (by omega) (by rw [List.size_toArray]; omega) (h _ n' (Sm.chg S (hs _) e))

theorem mkS {name qual : Str} {params : Arguments} {body : List Stmt} {scope : Scope} {c P : Addr} {o : Obj} {pos : Pos} {firstLine : Nat} {clos : List (Str × Addr)} {Q : Value → Shared → Prop}
    (B : Bs w mg mb p) (S : Sm p n L s.heap m ((P, o) :: μ) g) (C : CodeHd p c P) (T : TbH pos qual s.heap o)
    (hcl : closureFor scope env = pure clos) (hge0 : env.globals = mainGlobals) (hcode : env.code = .ref c)
    (h : ∀ f c' ctv doc pm h' tk o' g₁, Sm p n L h' m ((P, o') :: μ) ((f, fnMade name qual params body scope clos doc pm c' ctv) :: (g₁ ++ g)) → h'.CodeRec (.ref c') qual →
      (o' = o ∨ TbG pos qual g₁ o') → s.heap.objs.size ≤ f → (∀ q ∈ g₁, s.heap.objs.size ≤ q.1) → Q (.ref f) { s with heap := h', toks := tk }) :
    wpAny (model pw w) A (makeFunction name qual params (.stmts body) scope env [] [] [] pos firstLine) Q E s := by
  have hP := S.M _ (.head _)
  obtain ⟨bm, ob, b1, b2, b3, b4, b5, b6⟩ := B.bm
  have hgs := B.g.keeps S.F.keep
  have hgP : mainGlobals ≠ P := fun q => by
    obtain ⟨o, es, ep, e, hd, _⟩ := B.g
    rw [q, hP.2.2] at e; cases e
  have hbP : bm ≠ P := fun q => by rw [q, hP.2.2] at b3; cases b3
  have hbG : bm ≠ mainGlobals := fun q => by
    obtain ⟨o, es, ep, e, hd, _⟩ := B.g
    rw [q, e] at b3; cases b3; rw [hd] at b6; cases b6
  have hB : s.heap.BuiltinsAt mg P := ⟨bm, ob, b1, b2, hbG, hbP, S.F.keep _ _ b3, b4, b5, b6⟩
  rcases T with rfl | ⟨c', rfl, hrec⟩
  · refine makeFunction_K (mg := mg) (ps := #[]) hcl hge0 hgs hcode (C.keeps S.F.keep) hP.1 trivial rfl hgP hB fun c' ctv doc h' tk hx hge hlt hrec htb => ?_
    obtain ⟨c₂, oc, vs, t, e2, hoc, hd, hv⟩ := id hrec
    cases e2
    have S1 : Sm p n L h' m ((P, tabObj #[rawInt pos.line, rawInt pos.col, .ref c']) :: μ) g := S.chg (fun b x hb e => hx b x hb e) (by simpa using htb)
    have hPlt : P < c' := Nat.lt_of_lt_of_le (Heap.lt_size hP.1) hge
    have S2 : Sm p n L h' m ((P, tabObj #[rawInt pos.line, rawInt pos.col, .ref c']) :: μ) ([(c', oc)] ++ g) := S1.addG fun q hq => by
      rw [List.mem_singleton.mp hq]
      refine ⟨hoc, Nat.le_trans S.low hge, fun e => absurd S.lt (Nat.not_lt.mpr (by rw [← e]; exact hge)), fun r hr e => ?_⟩
      have : r.1 < s.heap.objs.size := by
        rcases List.mem_cons.mp hr with rfl | hr
        · exact Heap.lt_size hP.1
        · exact Heap.lt_size (S.M r (.tail _ hr)).1
      exact absurd this (Nat.not_lt.mpr (by rw [e]; exact hge))
    exact h _ c' ctv doc _ _ tk _ [(c', oc)] S2.alG (hrec.push _) (.inr (.inr ⟨c', oc, vs, t, rfl, .head _, hd, hv⟩)) (Nat.le_trans hge (Nat.le_of_lt hlt)) fun q hq => by rw [List.mem_singleton.mp hq]; exact hge
  · refine makeFunction_hit (mg := mg) (ps := #[rawInt pos.line, rawInt pos.col, .ref c']) (cv := .ref c') hcl hge0 hgs hcode (C.keeps S.F.keep) hP.1 trivial (by simp [codeAmong, rawInt]) hB fun ctv doc h' tk hk hsz => ?_
    exact h _ c' ctv doc _ _ tk _ [] (S.keeps hk).alG ((hrec.keeps hk).push _) (.inl rfl) hsz fun q hq => nomatch hq
end
end Wo

namespace Wo
local macro_rules | `(tactic| walk_at "wo look") => `(tactic| first
  | with_reducible exact up_hit
  | assumption
  | (refine up_ne (by decide +kernel) ?_; walk_at "wo look"))
local macro_rules | `(tactic| walk_at "wo mem") => `(tactic| first
  | with_reducible exact List.mem_cons_self
  | assumption
  | (with_reducible refine List.mem_cons_of_mem _ ?_; walk_at "wo mem")
  | (with_reducible refine List.mem_append_right _ ?_; walk_at "wo mem")
  | (with_reducible refine List.mem_append_left _ ?_; walk_at "wo mem"))
local macro_rules | `(tactic| walk_at "wo sz") => `(tactic| first | (with_unfolding_all decide) | (simp only [List.length_cons, List.length_nil, List.length_append, List.size_toArray, List.length_map]; rw [sizeLine_eq]; omega))

noncomputable def rk (c : Nat) : Nat := c % 32
noncomputable def runStep (acc : List (List Nat)) (c : Nat) : List (List Nat) :=
  match acc.getLast? with
  | some r => if rk (r.getLastD 0) ≤ rk c then acc.dropLast ++ [r ++ [c]] else acc ++ [[c]]
  | none => acc ++ [[c]]
noncomputable def runsOf (cs : List Nat) : List (List Nat) := cs.foldl runStep []
noncomputable def strD (r : List Nat) : Dat := .str ⟨r.toArray⟩
theorem runStep_ne {acc : List (List Nat)} {c : Nat} (h : ∀ r ∈ acc, r ≠ []) : ∀ r ∈ runStep acc c, r ≠ [] := by
  unfold runStep
  intro r hr
  split at hr
  · split at hr
    · rcases List.mem_append.mp hr with hr | hr
      · exact h r (List.dropLast_subset _ hr)
      · rw [List.mem_singleton.mp hr]; simp
    · rcases List.mem_append.mp hr with hr | hr
      · exact h r hr
      · rw [List.mem_singleton.mp hr]; simp
  · rcases List.mem_append.mp hr with hr | hr
    · exact h r hr
    · rw [List.mem_singleton.mp hr]; simp
theorem runStep_sz {acc : List (List Nat)} {c i : Nat} (h : ∀ r ∈ acc, r.length ≤ i) : ∀ r ∈ runStep acc c, r.length ≤ i + 1 := by
  unfold runStep
  intro r hr
  split at hr
  · rename_i z hz
    have hz' := h z (List.mem_of_getLast? hz)
    split at hr
    · rcases List.mem_append.mp hr with hr | hr
      · have := h r (List.dropLast_subset _ hr); omega
      · rw [List.mem_singleton.mp hr]; simp; omega
    · rcases List.mem_append.mp hr with hr | hr
      · have := h r hr; omega
      · rw [List.mem_singleton.mp hr]; simp
  · rcases List.mem_append.mp hr with hr | hr
    · have := h r hr; omega
    · rw [List.mem_singleton.mp hr]; simp
theorem runStep_len (acc : List (List Nat)) (c : Nat) : (runStep acc c).length ≤ acc.length + 1 := by
  unfold runStep
  split
  · split
    · simp <;> omega
    · simp
  · simp

set_option maxHeartbeats 4000000 in
theorem ct_runs {w : World} {A : Around} {E : Value → Shared → Prop} {s : Shared} {mg mb : Str → Option Value} {cs : List Nat} {t : Tok} {Q : Value → Shared → Prop}
    (R : Rm A 3) (B : Bs w mg mb s.heap) (hcs : cs.length ≤ 1000) (has : ∀ c ∈ cs, c < 128)
    (h : ∀ h' tk a g, Kp s.heap h' → (∀ q ∈ g, h'.get? q.1 = some q.2 ∧ s.heap.objs.size ≤ q.1) → DatIn g (.ref a) (.list ((runsOf cs).map strD)) → Q (.ref a) { s with heap := h', toks := tk }) :
    wpAny (model pw w) A (call (.ref 188) [.str ⟨cs.toArray⟩ t]) Q E s := by
  refine enterD (n := 2) R B (B.K 188 _ rfl) (codeRec_of B.K (by kernel_rfl)) (binds := [("text", .str ⟨cs.toArray⟩ t)]) (BindsTo.of_eq rfl) (by decide) (locs rfl) rfl rfl rfl ?_
  intro L h₁ A' tk hL R' hA' F
  have S := Sm.init F
  have hm : (fun y : Str => ([("text", Value.str ⟨cs.toArray⟩ t)] : List (Str × Value)).reverse.lookup y) "text" = some (.str ⟨cs.toArray⟩ t) := rfl
  generalize (fun y : Str => ([("text", Value.str ⟨cs.toArray⟩ t)] : List (Str × Value)).reverse.lookup y) = m at S hm
  refine wpAny_execs_cons ?_
  refine wpAny_Assign_Name ?_
  refine List_ ?_
  refine args_nil ?_
  refine listS S (by decide) fun a₀ h₂ S ha k => ?_
  refine stS S rfl (by rfl) fun h₃ tk S => ?_
  dsimp only
  refine wpAny_execs_cons ?_
  refine wpAny_For ?_
  refine nmS (by assumption) (by walk_at "wo look") ?_ rfl (by rfl) (by decide +kernel)
  refine wpAny_pyIter_ascii (by simpa using has) ?_
  have S2 := Sm.alM (o := { cls := .type "str_ascii_iterator", data := .fields #[.str ⟨cs.toArray⟩ t, .int 0 0] }) S
  refine forH (fun i m μ g => μ = [] ∧ ∃ a, m "runs" = some (.ref a) ∧ DatIn g (.ref a) (.list ((runsOf (cs.take i)).map strD)) ∧ (∀ r ∈ runsOf (cs.take i), r ≠ []) ∧ (∀ r ∈ runsOf (cs.take i), r.length ≤ i) ∧ (runsOf (cs.take i)).length ≤ i) (hd_str (X := ⟨cs.toArray⟩) (t₀ := t) R'.h rfl (by rfl)) (ω := [_]) ⟨_, rfl, rfl, rfl⟩ (S2) ?_ ?_ ?_ ?_
  · exact ⟨rfl, a₀, up_hit, .list (.head _) .nil, by simp [runsOf], by simp [runsOf], by simp [runsOf]⟩
  · intros; trivial
  · rintro i m₁ m₂ μ' g' ω' h' tk' hi ⟨rfl, a, ha, hd, hne, hrl, hlen⟩ ⟨_, ⟨c, t', hc, rfl⟩, rfl⟩ S
    have hic : i < cs.length := by simpa using hi
    have hc' : cs[i]? = some c := by simpa using hc
    have hst : runsOf (cs.take (i + 1)) = runStep (runsOf (cs.take i)) c := by
      unfold runsOf
      rw [List.take_add_one, hc', Option.toList_some, List.foldl_append]; rfl
    have hcx : c < 128 := has c (List.mem_of_getElem? hc')
    generalize runsOf (cs.take i) = acc at hd hne hrl hlen hst
    obtain ⟨vs, nn, hmem, hall⟩ := dlist hd
    have hvl : vs.length = acc.length := by simpa using hall.length
    have fin : ∀ (a' : Addr) (h'' : Heap) (tk'' : Nat) (m₃ : Lm) (g'' : Lg), Sm s.heap L L h'' m₃ (ω' ++ []) g'' → m₃ "runs" = some (.ref a') → DatIn g'' (.ref a') (.list ((runStep acc c).map strD)) →
        (Flow.next = .next ∨ Flow.next = .cont) ∧ ∃ h₉ tk' m₃ μ'' g'', ({ s with heap := h'', toks := tk'' } : Shared) = { s with heap := h₉, toks := tk' } ∧ Sm s.heap L L h₉ m₃ (ω' ++ μ'') g'' ∧ (μ'' = [] ∧ ∃ a, m₃ "runs" = some (.ref a) ∧ DatIn g'' (.ref a) (.list ((runsOf (cs.take (i + 1))).map strD)) ∧ (∀ r ∈ runsOf (cs.take (i + 1)), r ≠ []) ∧ (∀ r ∈ runsOf (cs.take (i + 1)), r.length ≤ i + 1) ∧ (runsOf (cs.take (i + 1))).length ≤ i + 1) := by
      intro a' h'' tk'' m₃ g'' S3 e1 e2
      refine ⟨.inl rfl, h'', tk'', m₃, [], g'', rfl, S3, rfl, a', e1, ?_⟩
      rw [hst]
      exact ⟨e2, runStep_ne hne, runStep_sz hrl, Nat.le_trans (runStep_len _ _) (by omega)⟩
    refine wpAny_execs_cons ?_
    refine wpAny_If ?_
    refine wpAny_isTrue_BoolOp ?_
    refine wpAny_allTrue_And_cons ?_
    refine wpAny_isTrue_value ?_
    refine nmS (by assumption) (by walk_at "wo look") ?_ rfl (by rfl) (by decide +kernel)
    refine wpAny_truthy_list (S.lv.list hmem) (by rw [List.size_toArray]; omega) ?_
    obtain rfl | ⟨rs, r, rfl⟩ : acc = [] ∨ ∃ rs r, acc = rs ++ [r] := by
      rcases List.eq_nil_or_concat acc with e | ⟨a, b, e⟩
      · exact .inl e
      · exact .inr ⟨a, b, by rw [e, List.concat_eq_append]⟩
    · obtain rfl : vs = [] := List.length_eq_zero_iff.mp hvl
      rw [show (!([] : List Value).toArray.isEmpty) = false from rfl, if_neg Bool.false_ne_true, if_neg Bool.false_ne_true]
      refine wpAny_execs_cons ?_
      refine wpAny_Assign_Name ?_
      refine wpAny_BinOp ?_
      refine nmS (by assumption) (by walk_at "wo look") ?_ rfl (by rfl) (by decide +kernel)
      refine List_ ?_
      refine args_cons ?_
      refine nmS (by assumption) (by walk_at "wo look") ?_ rfl (by rfl) (by decide +kernel)
      refine args_nil ?_
      refine listS S (by walk_at "wo sz") fun b h₄ S4 hb k4 => ?_
      refine catS S4 (S4.lv.list (.tail _ hmem)) (S4.lv.list (.head _)) (by walk_at "wo sz") fun d h₅ S5 hd5 k5 => ?_
      refine stS S5 rfl (by rfl) fun h₆ tk₆ S6 => ?_
      dsimp only
      refine wpAny_execs_nil ?_
      refine wpAny_execs_nil ?_
      exact fin d h₆ tk₆ _ _ S6 up_hit (.list (.head _) (.cons (.str _ _) .nil))
    · rw [List.map_append] at hall
      obtain ⟨vs₁, v₁, rfl⟩ : ∃ vs₁ v₁, vs = vs₁ ++ [v₁] := by
        rcases List.eq_nil_or_concat vs with rfl | ⟨a, b, rfl⟩
        · simp at hvl
        · exact ⟨a, b, by simp⟩
      obtain ⟨es, d, ed, hes, hdr⟩ := hall.snoc
      obtain ⟨e1, e2⟩ := List.append_inj' ed rfl
      cases e2; subst e1
      obtain ⟨t₁, rfl⟩ := dstr hdr
      have hvs : vs₁.length ≤ 1000 := by simp at hvl hlen; omega
      have hrr : r.length ≤ i := hrl r (by simp)
      have hr0 : r ≠ [] := hne r (by simp)
      rw [show (!(vs₁ ++ [Value.str ⟨r.toArray⟩ t₁]).toArray.isEmpty) = true from by simp, if_pos rfl]
      refine wpAny_allTrue_And_cons ?_
      refine wpAny_isTrue_Compare1 ?_
      refine Call_ ?_
      refine nmSG (by assumption) (by assumption) g_law_rank ?_ rfl rfl (by rfl) (by decide +kernel)
      refine cwS (fn_law_rank (by assumption)) ?_
      refine args_cons ?_
      refine Subscript_ ?_
      refine Subscript_ ?_
      refine nmS (by assumption) (by walk_at "wo look") ?_ rfl (by rfl) (by decide +kernel)
      refine wpAny_UnaryOp ?_
      refine wpAny_Constant_int ?_
      refine P.neg_int ?_
      refine subscriptTail_builtin (S.lv.list hmem).typeIs slot_list_getitem.lookup ?_
      refine wpAny_getItem_list_neg (x := .str ⟨r.toArray⟩ t₁) (S.lv.list hmem) (by decide) (by simp; omega) (by decide) (by
        rw [show ((-1 : Int) + ((vs₁ ++ [Value.str ⟨r.toArray⟩ t₁]).toArray.size : Nat)).toNat = vs₁.length from by simp; omega]; simp) ?_
      refine wpAny_UnaryOp ?_
      refine wpAny_Constant_int ?_
      refine P.neg_int ?_
      refine subscriptTail_builtin (typeIs_str _ _ _) PySem.F.slot_str_getitem.lookup ?_
      obtain ⟨r0, rl, rfl⟩ : ∃ r0 rl, r = r0 ++ [rl] := ⟨r.dropLast, r.getLast hr0, (List.dropLast_concat_getLast hr0).symm⟩
      refine strLast (c := rl) rfl (by simp) fun tk₅ t₅ => ?_
      refine args_nil ?_
      refine ⟨S.F.keep, ct_rank (n := 1) R' (B.keeps S.F.keep) rfl fun h₆ tk₆ t₆ k₆ => ?_⟩
      dsimp only
      have S6 := S.keeps k₆
      refine Call_ ?_
      refine nmSG (by assumption) (by assumption) g_law_rank ?_ rfl rfl (by rfl) (by decide +kernel)
      refine cwS (fn_law_rank (by assumption)) ?_
      refine args_cons ?_
      refine nmS (by assumption) (by walk_at "wo look") ?_ rfl (by rfl) (by decide +kernel)
      refine args_nil ?_
      refine ⟨S6.F.keep, ct_rank (n := 1) R' (B.keeps S6.F.keep) rfl fun h₇ tk₇ t₇ k₇ => ?_⟩
      dsimp only
      have S7 := S6.keeps k₇
      refine P.le_int ?_
      refine wpAny_truthy_bool ?_
      have hcmp : (decide ((((#[rl] : Array Nat).getD 0 0 % 32 : Nat) : Int) ≤ (((#[c] : Array Nat).getD 0 0 % 32 : Nat) : Int)) = true) ↔ rk rl ≤ rk c := by
        rw [decide_eq_true_eq]; unfold rk; simp; omega
      have hrs : runStep (rs ++ [r0 ++ [rl]]) c = if rk rl ≤ rk c then rs ++ [r0 ++ [rl] ++ [c]] else rs ++ [r0 ++ [rl]] ++ [[c]] := by
        unfold runStep; simp
      by_cases hle : rk rl ≤ rk c
      · rw [if_pos (hcmp.mpr hle)]
        refine wpAny_allTrue_And_nil ?_
        rw [if_pos rfl]
        refine wpAny_execs_cons ?_
        refine wpAny_Assign_Name ?_
        refine wpAny_BinOp ?_
        refine Subscript_ ?_
        refine nmS (by assumption) (by walk_at "wo look") ?_ rfl (by rfl) (by decide +kernel)
        refine wpAny_Slice ?_
        refine wpAny_evalPart_none ?_
        refine wpAny_evalPart_some ?_
        refine wpAny_UnaryOp ?_
        refine wpAny_Constant_int ?_
        dsimp only
        refine P.neg_int ?_
        refine wpAny_evalPart_none ?_
        dsimp only
        have S8 := S7.alG (o := { cls := .type "slice", data := .fields #[.none, .int (-1) (tk₇ + 1), .none] })
        refine tailB (us := [_, _]) (S8.lv.list (.tail _ hmem)).typeIs slot_list_getitem.lookup (sliceS S8 (S8.lv.list (.tail _ hmem)) (.new _ _ _ _) .none (.int _ _) (by walk_at "wo sz") fun b h₉ S9 hb9 k9 => ?_) (by with_unfolding_all rfl) (by intro _; with_unfolding_all rfl)
        dsimp only
        refine List_ ?_
        refine args_cons ?_
        refine wpAny_BinOp ?_
        refine Subscript_ ?_
        refine nmS (by assumption) (by walk_at "wo look") ?_ rfl (by rfl) (by decide +kernel)
        refine wpAny_UnaryOp ?_
        refine wpAny_Constant_int ?_
        refine P.neg_int ?_
        dsimp only
        have hm9 : (a, listOf (vs₁ ++ [Value.str ⟨(r0 ++ [rl]).toArray⟩ t₁]).toArray nn) ∈ (b, listOf (slicePick (vs₁ ++ [Value.str ⟨(r0 ++ [rl]).toArray⟩ t₁]).toArray none (some (-1)) none) 0) :: (h₇.objs.size, ({ cls := .type "slice", data := .fields #[.none, .int (-1) (tk₇ + 1), .none] } : Obj)) :: g' := .tail _ (.tail _ hmem)
        refine subscriptTail_builtin (S9.lv.list hm9).typeIs slot_list_getitem.lookup ?_
        refine wpAny_getItem_list_neg (x := .str ⟨(r0 ++ [rl]).toArray⟩ t₁) (S9.lv.list hm9) (by decide) (by simp; omega) (by decide) (by
          rw [show ((-1 : Int) + ((vs₁ ++ [Value.str ⟨(r0 ++ [rl]).toArray⟩ t₁]).toArray.size : Nat)).toNat = vs₁.length from by simp; omega]; simp) ?_
        refine nmS (by assumption) (by walk_at "wo look") ?_ rfl (by rfl) (by decide +kernel)
        try dsimp only
        refine addStr (by rw [sizeLine_eq]; show (r0 ++ [rl]).toArray.size + 1 ≤ _; rw [List.size_toArray]; omega) fun t₈ tk₈ => ?_
        refine args_nil ?_
        dsimp only
        refine listS S9 (by walk_at "wo sz") fun d h₁₀ S10 hd10 k10 => ?_
        refine catS S10 (vs := vs₁) (ws := [_]) ?_ (S10.lv.list (.head _)) (by walk_at "wo sz") fun e h₁₁ S11 he11 k11 => ?_
        · have q := S10.lv.list (.tail _ (.head _))
          have e1 : slicePick (vs₁ ++ [Value.str ⟨(r0 ++ [rl]).toArray⟩ t₁]).toArray none (some (-1)) none = vs₁.toArray := by
            have z := slicePick_butLast (vs₁ ++ [Value.str ⟨(r0 ++ [rl]).toArray⟩ t₁]).toArray 1 (by omega); simpa using z
          rw [e1] at q; exact q
        refine stS S11 rfl (by rfl) fun h₁₂ tk₁₂ S12 => ?_
        dsimp only
        refine wpAny_execs_nil ?_
        refine wpAny_execs_nil ?_
        refine fin e h₁₂ tk₁₂ _ _ S12 up_hit (.list (.head _) ?_)
        rw [hrs, if_pos hle, List.map_append]
        exact DatAll.append (DatAll.mono (fun q hq => .tail _ (.tail _ (.tail _ (.tail _ hq)))) hes) (.one (by
          have : strD (r0 ++ [rl] ++ [c]) = .str ((⟨(r0 ++ [rl]).toArray⟩ : Str) ++ ⟨#[c]⟩) := by
            show Dat.str _ = Dat.str (Str.mk ((r0 ++ [rl]).toArray ++ #[c])); simp
          rw [this]; exact .str _ _))
      · rw [if_neg (fun q => hle (hcmp.mp q)), if_neg Bool.false_ne_true]
        refine wpAny_execs_cons ?_
        refine wpAny_Assign_Name ?_
        refine wpAny_BinOp ?_
        refine nmS (by assumption) (by walk_at "wo look") ?_ rfl (by rfl) (by decide +kernel)
        refine List_ ?_
        refine args_cons ?_
        refine nmS (by assumption) (by walk_at "wo look") ?_ rfl (by rfl) (by decide +kernel)
        refine args_nil ?_
        refine listS S7 (by walk_at "wo sz") fun b h₈ S8 hb8 k8 => ?_
        refine catS S8 (S8.lv.list (.tail _ hmem)) (S8.lv.list (.head _)) (by walk_at "wo sz") fun d h₉ S9 hd9 k9 => ?_
        refine stS S9 rfl (by rfl) fun h₁₀ tk₁₀ S10 => ?_
        dsimp only
        refine wpAny_execs_nil ?_
        refine wpAny_execs_nil ?_
        refine fin d h₁₀ tk₁₀ _ _ S10 up_hit (.list (.head _) ?_)
        rw [hrs, if_neg hle, List.map_append]
        exact DatAll.append (DatAll.mono (fun q hq => .tail _ (.tail _ hq)) (by simpa using hes.append (.one hdr))) (.one (.str _ _))
  · rintro m' μ' g' h' tk' ⟨rfl, a, ha, hd, _, _, _⟩ S
    try dsimp only
    refine wpAny_execs_cons ?_
    refine wpAny_Return_some ?_
    refine nmS (by assumption) (by walk_at "wo look") ?_ rfl (by rfl) (by decide +kernel)
    rw [List.take_of_length_le (by simp)] at hd
    exact h _ _ _ g' S.F.keep (fun q hq => ⟨(S.G q hq).1, hL ▸ (S.G q hq).2.1⟩) hd

theorem nsK {h : Heap} {a : Addr} {c : Value} {d : Option Addr} {e : DictEntry} {ep : Nat} {sl : Array (Option Value)} {x : Str} {t : Tok} (ho : h.get? a = some ⟨c, d, .dict #[e] ep, sl⟩) (hk : e.key = .str x t) : h.Ns a (fun y => if x == y then some e.val else none) := by
  refine ⟨_, _, _, ho, rfl, fun e' he => ?_, fun y => ?_⟩
  · simp at he; subst he; exact ⟨x, t, hk⟩
  · show (Array.find? (fun e : DictEntry => e.key.isStr y) #[e]).map (·.val) = _
    simp only [List.find?_toArray, List.find?_cons, List.find?_nil]
    rw [hk]
    show Option.map _ (match (x == y) with | true => some e | false => none) = _
    cases h : (x == y) <;> simp
theorem bd_br {w : World} {mg mb : Lm} {s : Shared} (B : Bs w mg mb s.heap) (a x : Value) : ∃ o fd c, s.heap.get? 81 = some o ∧ o.data = .func fd ∧ fd.code = .ref c ∧ BindsTo s fd ⟨[a, x], []⟩ [("a", a), ("x", x), ("lo", .int 0 291), ("hi", .none), ("key", .none)] := by
  refine ⟨_, _, _, B.K 81 _ rfl, rfl, rfl, ?_⟩
  intro M A E Q hq
  have h73 := B.K 73 _ rfl
  have h74 := nsK (B.K 74 _ rfl) rfl
  unfold bindArgs
  dsimp only
  repeat (first | (with_reducible refine wpAny_nsGet h74 ?_) | (with_reducible refine wpAny_seqItems h73 rfl ?_) | wp_step)
  exact hq
theorem bd_brk {w : World} {mg mb : Lm} {s : Shared} (B : Bs w mg mb s.heap) (a x lo hi key : Value) : ∃ o fd c, s.heap.get? 81 = some o ∧ o.data = .func fd ∧ fd.code = .ref c ∧ BindsTo s fd ⟨[a, x, lo, hi], [("key", key)]⟩ [("a", a), ("x", x), ("lo", lo), ("hi", hi), ("key", key)] := by
  refine ⟨_, _, _, B.K 81 _ rfl, rfl, rfl, ?_⟩
  exact BindsTo.of_defaults (T := 73) rfl (B.K 73 _ rfl) rfl rfl rfl
theorem bd_ins {w : World} {mg mb : Lm} {s : Shared} (B : Bs w mg mb s.heap) (a x key : Value) : ∃ o fd c, s.heap.get? 72 = some o ∧ o.data = .func fd ∧ fd.code = .ref c ∧ BindsTo s fd ⟨[a, x], [("key", key)]⟩ [("a", a), ("x", x), ("lo", .int 0 278), ("hi", .none), ("key", key)] := by
  refine ⟨_, _, _, B.K 72 _ rfl, rfl, rfl, ?_⟩
  exact BindsTo.of_defaults (T := 64) rfl (B.K 64 _ rfl) rfl rfl rfl
theorem bd_bl {w : World} {mg mb : Lm} {s : Shared} (B : Bs w mg mb s.heap) (a x lo hi : Value) : ∃ o fd c, s.heap.get? 90 = some o ∧ o.data = .func fd ∧ fd.code = .ref c ∧ BindsTo s fd ⟨[a, x, lo, hi], []⟩ [("a", a), ("x", x), ("lo", lo), ("hi", hi), ("key", .none)] := by
  refine ⟨_, _, _, B.K 90 _ rfl, rfl, rfl, ?_⟩
  intro M A E Q hq
  have h73 := B.K 82 _ rfl
  have h74 := nsK (B.K 83 _ rfl) rfl
  unfold bindArgs
  dsimp only
  repeat (first | (with_reducible refine wpAny_nsGet h74 ?_) | (with_reducible refine wpAny_seqItems h73 rfl ?_) | wp_step)
  exact hq

theorem bdUse {f : Addr} {s : Shared} {args : Args} {binds : List (Str × Value)} {o : Obj} {fd : FuncData} (h : ∃ o fd c, s.heap.get? f = some o ∧ o.data = .func fd ∧ fd.code = .ref c ∧ BindsTo s fd args binds)
    (ho : s.heap.get? f = some o) (hd : o.data = .func fd) : BindsTo s fd args binds := by
  obtain ⟨o', fd', c, h1, h2, _, h3⟩ := h
  rw [ho] at h1
  cases h1
  rw [hd] at h2
  cases h2
  exact h3

section
variable {w : World} {A : Around} {E : Value → Shared → Prop} {s : Shared} {env : Env} {p : Heap} {n : Nat} {m : Lm} {μ g : Lg}
theorem whS {test : Expr} {body : List Stmt} {R : Result → Shared → Prop} (J : Nat → Lm → Lg → Lg → Prop) (k : Nat) (S : Sm p n env.locals s.heap m μ g) (hJ : J k m μ g)
    (turn : ∀ k m₁ μ₁ g₁ h tk, J k m₁ μ₁ g₁ → Sm p n env.locals h m₁ μ₁ g₁ → wpAny (model pw w) A (isTrue test env (eval test env)) (fun b s₂ => if b = true then
        wpAny (model pw w) A (execs body env) (fun f s₃ => f = .next ∧ ∃ k' h' tk' m' μ' g', s₃ = { s with heap := h', toks := tk' } ∧ k' < k ∧ J k' m' μ' g' ∧ Sm p n env.locals h' m' μ' g') (fun _ _ => False) s₂
      else R (.ok .next) s₂) (fun _ _ => False) { s with heap := h, toks := tk }) :
    codeAny (model pw w) A (.whileLoop test body [] env) R s := by
  refine codeAny_whileLoop (fun k s' => ∃ h tk m₁ μ₁ g₁, s' = { s with heap := h, toks := tk } ∧ J k m₁ μ₁ g₁ ∧ Sm p n env.locals h m₁ μ₁ g₁) ?_ k ⟨s.heap, s.toks, m, μ, g, rfl, hJ, S⟩
  rintro k s' ⟨h, tk, m₁, μ₁, g₁, rfl, hJ', S'⟩
  refine wpAny_mono (turn k m₁ μ₁ g₁ h tk hJ' S') (fun b s₂ h₂ => ?_) fun _ _ e => e.elim
  cases b with
  | false => exact wpAny_execs_nil (by simpa using h₂)
  | true =>
    rw [if_pos rfl] at h₂ ⊢
    refine wpAny_mono h₂ (fun f s₃ h₃ => ?_) fun _ _ e => e.elim
    obtain ⟨rfl, k', h', tk', m', μ', g', rfl, hk, hJ'', S''⟩ := h₃
    exact ⟨k', hk, h', tk', m', μ', g', rfl, hJ'', S''⟩
end

noncomputable def bsF (p : Nat → Bool) : Nat → Nat → Nat → Nat
  | 0, lo, _ => lo
  | f + 1, lo, hi => if lo < hi then (if p ((lo + hi) / 2) = true then bsF p f lo ((lo + hi) / 2) else bsF p f ((lo + hi) / 2 + 1) hi) else lo
noncomputable def bs (p : Nat → Bool) (lo hi : Nat) : Nat := bsF p (hi - lo) lo hi
theorem bsF_fuel (p : Nat → Bool) : ∀ (f lo hi : Nat), hi - lo ≤ f → bsF p f lo hi = bs p lo hi := by
  intro f
  induction f using Nat.strongRecOn with
  | ind f ih =>
    intro lo hi h
    unfold bs
    cases f with
    | zero => rw [show hi - lo = 0 from by omega]
    | succ f =>
      by_cases hlt : lo < hi
      · obtain ⟨d, hd⟩ : ∃ d, hi - lo = d + 1 := ⟨hi - lo - 1, by omega⟩
        rw [hd]
        unfold bsF
        rw [if_pos hlt, if_pos hlt]
        rw [ih f (by omega) lo ((lo + hi) / 2) (by omega), ih f (by omega) ((lo + hi) / 2 + 1) hi (by omega)]
        by_cases hd' : d = f
        · subst hd'
          rw [ih d (by omega) lo ((lo + hi) / 2) (by omega), ih d (by omega) ((lo + hi) / 2 + 1) hi (by omega)]
        · rw [ih d (by omega) lo ((lo + hi) / 2) (by omega), ih d (by omega) ((lo + hi) / 2 + 1) hi (by omega)]
      · rw [show hi - lo = 0 from by omega]
        unfold bsF
        rw [if_neg hlt]
theorem bs_lt {p : Nat → Bool} {lo hi : Nat} (h : lo < hi) : bs p lo hi = if p ((lo + hi) / 2) = true then bs p lo ((lo + hi) / 2) else bs p ((lo + hi) / 2 + 1) hi := by
  obtain ⟨d, hd⟩ : ∃ d, hi - lo = d + 1 := ⟨hi - lo - 1, by omega⟩
  rw [show bs p lo hi = bsF p (d + 1) lo hi from by unfold bs; rw [hd]]
  unfold bsF
  rw [if_pos h, bsF_fuel p d _ _ (by omega), bsF_fuel p d _ _ (by omega)]
theorem bs_ge {p : Nat → Bool} {lo hi : Nat} (h : ¬ lo < hi) : bs p lo hi = lo := by
  unfold bs
  rw [show hi - lo = 0 from by omega]; rfl

set_option maxHeartbeats 4000000 in
theorem ct_br {w : World} {A : Around} {E : Value → Shared → Prop} {s : Shared} {mg mb : Str → Option Value} {l : Addr} {vs : List Value} {ns : List Int} {x : Int} {t : Tok} {Q : Value → Shared → Prop}
    (R : Rm A 3) (B : Bs w mg mb s.heap) (hl : s.heap.IsList l vs.toArray) (hi : IntsAre vs ns) (hn : ns.length ≤ 1000)
    (h : ∀ h' tk t', Kp s.heap h' → Q (.int (bs (fun i => decide (x < ns.getD i 0)) 0 ns.length : Nat) t') { s with heap := h', toks := tk }) :
    wpAny (model pw w) A (call (.ref 81) [.ref l, .int x t]) Q E s := by
  have hvl : vs.length = ns.length := hi.length
  refine enterD (n := 2) R B (B.K 81 _ rfl) (codeRec_of B.K (by kernel_rfl)) (binds := [("a", .ref l), ("x", .int x t), ("lo", .int 0 291), ("hi", .none), ("key", .none)]) (bdUse (bd_br B _ _) (B.K 81 _ rfl) rfl) (by decide) (locs rfl) rfl rfl rfl ?_
  intro L h₁ A' tk hL R' hA' F
  have S := Sm.init F
  have m1 : (fun y : Str => ([("a", Value.ref l), ("x", .int x t), ("lo", .int 0 291), ("hi", .none), ("key", .none)] : List (Str × Value)).reverse.lookup y) "a" = some (.ref l) := rfl
  have m2 : (fun y : Str => ([("a", Value.ref l), ("x", .int x t), ("lo", .int 0 291), ("hi", .none), ("key", .none)] : List (Str × Value)).reverse.lookup y) "x" = some (.int x t) := rfl
  have m3 : (fun y : Str => ([("a", Value.ref l), ("x", .int x t), ("lo", .int 0 291), ("hi", .none), ("key", .none)] : List (Str × Value)).reverse.lookup y) "lo" = some (.int 0 291) := rfl
  have m4 : (fun y : Str => ([("a", Value.ref l), ("x", .int x t), ("lo", .int 0 291), ("hi", .none), ("key", .none)] : List (Str × Value)).reverse.lookup y) "hi" = some .none := rfl
  have m5 : (fun y : Str => ([("a", Value.ref l), ("x", .int x t), ("lo", .int 0 291), ("hi", .none), ("key", .none)] : List (Str × Value)).reverse.lookup y) "key" = some .none := rfl
  generalize (fun y : Str => ([("a", Value.ref l), ("x", .int x t), ("lo", .int 0 291), ("hi", .none), ("key", .none)] : List (Str × Value)).reverse.lookup y) = m at S m1 m2 m3 m4 m5
  refine wpAny_execs_cons ?_
  refine wpAny_If ?_
  refine wpAny_isTrue_Compare1 ?_
  refine nmS (by assumption) (by walk_at "wo look") ?_ rfl (by rfl) (by decide +kernel)
  refine wpAny_Constant_int ?_
  refine lt_int ?_
  refine wpAny_truthy_bool ?_
  rw [if_neg (by decide)]
  refine wpAny_execs_nil ?_
  refine wpAny_execs_cons ?_
  refine wpAny_If ?_
  refine wpAny_isTrue_Compare1 ?_
  refine nmS (by assumption) (by walk_at "wo look") ?_ rfl (by rfl) (by decide +kernel)
  refine wpAny_Constant_none ?_
  try dsimp only
  refine is_none ?_
  refine wpAny_truthy_bool ?_
  rw [if_pos (by rfl)]
  refine wpAny_execs_cons ?_
  refine wpAny_Assign_Name ?_
  refine Call_ ?_
  refine nmSB (by assumption) (by assumption) (by kernel_rfl) b_len (by decide +kernel) ?_ rfl rfl rfl (by rfl) (by decide +kernel)
  refine PyProof.Rows.callWith_builtin1 ?_
  refine args_cons ?_
  refine nmS (by assumption) (by walk_at "wo look") ?_ rfl (by rfl) (by decide +kernel)
  refine args_nil ?_
  try dsimp only
  have hlS : ∀ {h' : Heap}, Kp s.heap h' → h'.IsList l vs.toArray := fun k => by obtain ⟨o, e, r⟩ := hl; exact ⟨o, k _ _ e, r⟩
  refine call_len_list (hlS S.F.keep) (by rw [List.size_toArray]; omega) ?_
  refine stS S rfl (by rfl) fun h₂ tk₂ S2 => ?_
  try dsimp only
  refine wpAny_execs_nil ?_
  refine wpAny_execs_cons ?_
  refine wpAny_If ?_
  refine wpAny_isTrue_Compare1 ?_
  refine nmS (by assumption) (by walk_at "wo look") ?_ rfl (by rfl) (by decide +kernel)
  refine wpAny_Constant_none ?_
  refine is_none ?_
  refine wpAny_truthy_bool ?_
  rw [if_pos (by rfl)]
  refine wpAny_execs_cons ?_
  refine wpAny_While ?_
  have e0 : (vs.toArray.size : Int) = (ns.length : Nat) := by rw [List.size_toArray, hvl]
  rw [e0] at S2
  refine whS (fun k m μ g => μ = [] ∧ ∃ (lo hi : Nat) (tl th : Tok), m "lo" = some (.int lo tl) ∧ m "hi" = some (.int hi th) ∧ m "a" = some (.ref l) ∧ m "x" = some (.int x t) ∧ hi ≤ ns.length ∧ k = hi - lo ∧
    bs (fun i => decide (x < ns.getD i 0)) lo hi = bs (fun i => decide (x < ns.getD i 0)) 0 ns.length) ns.length S2 ?_ ?_
  · refine ⟨rfl, 0, ns.length, 291, _, by walk_at "wo look", up_hit, by walk_at "wo look", by walk_at "wo look", Nat.le_refl _, rfl, rfl⟩
  · rintro k m₁ μ₁ g₁ h₃ tk₃ ⟨rfl, lo, hi', tl, th, q1, q2, q3, q4, q5, rfl, q6⟩ S3
    refine wpAny_isTrue_Compare1 ?_
    refine nmS (by assumption) (by walk_at "wo look") ?_ rfl (by rfl) (by decide +kernel)
    refine nmS (by assumption) (by walk_at "wo look") ?_ rfl (by rfl) (by decide +kernel)
    refine lt_int ?_
    refine wpAny_truthy_bool ?_
    by_cases hlt : lo < hi'
    · rw [if_pos (by simp; omega)]
      refine wpAny_execs_cons ?_
      refine wpAny_Assign_Name ?_
      refine wpAny_BinOp ?_
      refine wpAny_BinOp ?_
      refine nmS (by assumption) (by walk_at "wo look") ?_ rfl (by rfl) (by decide +kernel)
      refine nmS (by assumption) (by walk_at "wo look") ?_ rfl (by rfl) (by decide +kernel)
      refine add_int ?_
      refine wpAny_Constant_int ?_
      refine floordiv_int (by decide) ?_
      try dsimp only
      have e1 : ((lo : Int) + (hi' : Int)).fdiv 2 = (((lo + hi') / 2 : Nat) : Int) := by
        rw [Int.fdiv_eq_ediv_of_nonneg _ (by decide)]; omega
      rw [e1]
      refine stS S3 rfl (by rfl) fun h₄ tk₄ S4 => ?_
      try dsimp only
      refine wpAny_execs_cons ?_
      refine wpAny_If ?_
      refine wpAny_isTrue_Compare1 ?_
      refine nmS (by assumption) (by walk_at "wo look") ?_ rfl (by rfl) (by decide +kernel)
      refine Subscript_ ?_
      refine nmS (by assumption) (by walk_at "wo look") ?_ rfl (by rfl) (by decide +kernel)
      refine nmS (by assumption) (by walk_at "wo look") ?_ rfl (by rfl) (by decide +kernel)
      have hmid : (lo + hi') / 2 < ns.length := by omega
      have hv0 : vs[(lo + hi') / 2]? = some vs[(lo + hi') / 2] := List.getElem?_eq_getElem (by omega)
      obtain ⟨tv, hv1⟩ := hi.int_at _ _ hv0
      rw [hv1] at hv0
      refine subscriptTail_builtin (hlS S4.F.keep).typeIs slot_list_getitem.lookup ?_
      refine wpAny_getItem_list (x := .int (ns.getD ((lo + hi') / 2) 0) tv) (hlS S4.F.keep) (by omega) (by omega) (by rw [Int.toNat_natCast]; simpa using hv0) ?_
      refine lt_int ?_
      refine wpAny_truthy_bool ?_
      have hb := bs_lt (p := fun i => decide (x < ns.getD i 0)) hlt
      by_cases hc : x < ns.getD ((lo + hi') / 2) 0
      · rw [if_pos (decide_eq_true hc)]
        refine wpAny_execs_cons ?_
        refine wpAny_Assign_Name ?_
        refine nmS (by assumption) (by walk_at "wo look") ?_ rfl (by rfl) (by decide +kernel)
        refine stS S4 rfl (by rfl) fun h₅ tk₅ S5 => ?_
        try dsimp only
        refine wpAny_execs_nil ?_
        refine wpAny_execs_nil ?_
        refine ⟨rfl, (lo + hi') / 2 - lo, h₅, tk₅, _, [], g₁, rfl, by omega, ⟨rfl, lo, (lo + hi') / 2, tl, _, by walk_at "wo look", up_hit, by walk_at "wo look", by walk_at "wo look", by omega, rfl, ?_⟩, S5⟩
        rw [if_pos (decide_eq_true hc)] at hb
        rw [← q6, hb]
      · rw [if_neg (by simpa using hc)]
        refine wpAny_execs_cons ?_
        refine wpAny_Assign_Name ?_
        refine wpAny_BinOp ?_
        refine nmS (by assumption) (by walk_at "wo look") ?_ rfl (by rfl) (by decide +kernel)
        refine wpAny_Constant_int ?_
        refine add_int ?_
        try dsimp only
        have e2 : (((lo + hi') / 2 : Nat) : Int) + 1 = (((lo + hi') / 2 + 1 : Nat) : Int) := by omega
        rw [e2]
        refine stS S4 rfl (by rfl) fun h₅ tk₅ S5 => ?_
        try dsimp only
        refine wpAny_execs_nil ?_
        refine wpAny_execs_nil ?_
        refine ⟨rfl, hi' - ((lo + hi') / 2 + 1), h₅, tk₅, _, [], g₁, rfl, by omega, ⟨rfl, (lo + hi') / 2 + 1, hi', _, th, up_hit, by walk_at "wo look", by walk_at "wo look", by walk_at "wo look", by omega, rfl, ?_⟩, S5⟩
        rw [if_neg (by simpa using hc)] at hb
        rw [← q6, hb]
    · rw [if_neg (by simp; omega)]
      try dsimp only
      refine wpAny_execs_nil ?_
      refine wpAny_execs_cons ?_
      refine wpAny_Return_some ?_
      refine nmS (by assumption) (by walk_at "wo look") ?_ rfl (by rfl) (by decide +kernel)
      have e3 : lo = bs (fun i => decide (x < ns.getD i 0)) 0 ns.length := by rw [← q6, bs_ge hlt]
      rw [e3]
      exact h _ _ _ S3.F.keep
set_option maxHeartbeats 4000000 in
theorem ct_bl {w : World} {A : Around} {E : Value → Shared → Prop} {s : Shared} {mg mb : Str → Option Value} {l : Addr} {vs : List Value} {ns : List Int} {x : Int} {t t1 t2 : Tok} {lo₀ hi₀ : Nat} {Q : Value → Shared → Prop}
    (R : Rm A 3) (B : Bs w mg mb s.heap) (hl : s.heap.IsList l vs.toArray) (hi : IntsAre vs ns) (hn : ns.length ≤ 1000) (hh : hi₀ ≤ ns.length)
    (h : ∀ h' tk t', Kp s.heap h' → Q (.int (bs (fun i => decide (x ≤ ns.getD i 0)) lo₀ hi₀ : Nat) t') { s with heap := h', toks := tk }) :
    wpAny (model pw w) A (call (.ref 90) [.ref l, .int x t, .int lo₀ t1, .int hi₀ t2]) Q E s := by
  have hvl : vs.length = ns.length := hi.length
  refine enterD (n := 2) R B (B.K 90 _ rfl) (codeRec_of B.K (by kernel_rfl)) (binds := [("a", .ref l), ("x", .int x t), ("lo", .int lo₀ t1), ("hi", .int hi₀ t2), ("key", .none)]) (bdUse (bd_bl B _ _ _ _) (B.K 90 _ rfl) rfl) (by decide) (locs rfl) rfl rfl rfl ?_
  intro L h₁ A' tk hL R' hA' F
  have S := Sm.init F
  have m1 : (fun y : Str => ([("a", Value.ref l), ("x", .int x t), ("lo", .int lo₀ t1), ("hi", .int hi₀ t2), ("key", .none)] : List (Str × Value)).reverse.lookup y) "a" = some (.ref l) := rfl
  have m2 : (fun y : Str => ([("a", Value.ref l), ("x", .int x t), ("lo", .int lo₀ t1), ("hi", .int hi₀ t2), ("key", .none)] : List (Str × Value)).reverse.lookup y) "x" = some (.int x t) := rfl
  have m3 : (fun y : Str => ([("a", Value.ref l), ("x", .int x t), ("lo", .int lo₀ t1), ("hi", .int hi₀ t2), ("key", .none)] : List (Str × Value)).reverse.lookup y) "lo" = some (.int lo₀ t1) := rfl
  have m4 : (fun y : Str => ([("a", Value.ref l), ("x", .int x t), ("lo", .int lo₀ t1), ("hi", .int hi₀ t2), ("key", .none)] : List (Str × Value)).reverse.lookup y) "hi" = some (.int hi₀ t2) := rfl
  have m5 : (fun y : Str => ([("a", Value.ref l), ("x", .int x t), ("lo", .int lo₀ t1), ("hi", .int hi₀ t2), ("key", .none)] : List (Str × Value)).reverse.lookup y) "key" = some .none := rfl
  generalize (fun y : Str => ([("a", Value.ref l), ("x", .int x t), ("lo", .int lo₀ t1), ("hi", .int hi₀ t2), ("key", .none)] : List (Str × Value)).reverse.lookup y) = m at S m1 m2 m3 m4 m5
  refine wpAny_execs_cons ?_
  refine wpAny_If ?_
  refine wpAny_isTrue_Compare1 ?_
  refine nmS (by assumption) (by walk_at "wo look") ?_ rfl (by rfl) (by decide +kernel)
  refine wpAny_Constant_int ?_
  refine lt_int ?_
  refine wpAny_truthy_bool ?_
  rw [if_neg (by simp)]
  refine wpAny_execs_nil ?_
  refine wpAny_execs_cons ?_
  refine wpAny_If ?_
  refine wpAny_isTrue_Compare1 ?_
  refine nmS (by assumption) (by walk_at "wo look") ?_ rfl (by rfl) (by decide +kernel)
  refine wpAny_Constant_none ?_
  try dsimp only
  refine is_none ?_
  refine wpAny_truthy_bool ?_
  rw [if_neg (by intro h; cases h)]
  refine wpAny_execs_nil ?_
  refine wpAny_execs_cons ?_
  refine wpAny_If ?_
  refine wpAny_isTrue_Compare1 ?_
  refine nmS (by assumption) (by walk_at "wo look") ?_ rfl (by rfl) (by decide +kernel)
  refine wpAny_Constant_none ?_
  try dsimp only
  refine is_none ?_
  refine wpAny_truthy_bool ?_
  rw [if_pos (by rfl)]
  refine wpAny_execs_cons ?_
  refine wpAny_While ?_
  have hlS : ∀ {h' : Heap}, Kp s.heap h' → h'.IsList l vs.toArray := fun k => by obtain ⟨o, e, r⟩ := hl; exact ⟨o, k _ _ e, r⟩
  refine whS (fun k m μ g => μ = [] ∧ ∃ (lo hi : Nat) (tl th : Tok), m "lo" = some (.int lo tl) ∧ m "hi" = some (.int hi th) ∧ m "a" = some (.ref l) ∧ m "x" = some (.int x t) ∧ hi ≤ ns.length ∧ k = hi - lo ∧
    bs (fun i => decide (x ≤ ns.getD i 0)) lo hi = bs (fun i => decide (x ≤ ns.getD i 0)) lo₀ hi₀) (hi₀ - lo₀) S ?_ ?_
  · refine ⟨rfl, lo₀, hi₀, t1, t2, by walk_at "wo look", by walk_at "wo look", by walk_at "wo look", by walk_at "wo look", hh, rfl, rfl⟩
  · rintro k m₁ μ₁ g₁ h₃ tk₃ ⟨rfl, lo, hi', tl, th, q1, q2, q3, q4, q5, rfl, q6⟩ S3
    refine wpAny_isTrue_Compare1 ?_
    refine nmS (by assumption) (by walk_at "wo look") ?_ rfl (by rfl) (by decide +kernel)
    refine nmS (by assumption) (by walk_at "wo look") ?_ rfl (by rfl) (by decide +kernel)
    refine lt_int ?_
    refine wpAny_truthy_bool ?_
    by_cases hlt : lo < hi'
    · rw [if_pos (by simp; omega)]
      refine wpAny_execs_cons ?_
      refine wpAny_Assign_Name ?_
      refine wpAny_BinOp ?_
      refine wpAny_BinOp ?_
      refine nmS (by assumption) (by walk_at "wo look") ?_ rfl (by rfl) (by decide +kernel)
      refine nmS (by assumption) (by walk_at "wo look") ?_ rfl (by rfl) (by decide +kernel)
      refine add_int ?_
      refine wpAny_Constant_int ?_
      refine floordiv_int (by decide) ?_
      try dsimp only
      have e1 : ((lo : Int) + (hi' : Int)).fdiv 2 = (((lo + hi') / 2 : Nat) : Int) := by
        rw [Int.fdiv_eq_ediv_of_nonneg _ (by decide)]; omega
      rw [e1]
      refine stS S3 rfl (by rfl) fun h₄ tk₄ S4 => ?_
      try dsimp only
      refine wpAny_execs_cons ?_
      refine wpAny_If ?_
      refine wpAny_isTrue_Compare1 ?_
      refine Subscript_ ?_
      refine nmS (by assumption) (by walk_at "wo look") ?_ rfl (by rfl) (by decide +kernel)
      refine nmS (by assumption) (by walk_at "wo look") ?_ rfl (by rfl) (by decide +kernel)
      have hmid : (lo + hi') / 2 < ns.length := by omega
      have hv0 : vs[(lo + hi') / 2]? = some vs[(lo + hi') / 2] := List.getElem?_eq_getElem (by omega)
      obtain ⟨tv, hv1⟩ := hi.int_at _ _ hv0
      rw [hv1] at hv0
      refine subscriptTail_builtin (hlS S4.F.keep).typeIs slot_list_getitem.lookup ?_
      refine wpAny_getItem_list (x := .int (ns.getD ((lo + hi') / 2) 0) tv) (hlS S4.F.keep) (by omega) (by omega) (by rw [Int.toNat_natCast]; simpa using hv0) ?_
      refine nmS (by assumption) (by walk_at "wo look") ?_ rfl (by rfl) (by decide +kernel)
      refine lt_int ?_
      refine wpAny_truthy_bool ?_
      have hb := bs_lt (p := fun i => decide (x ≤ ns.getD i 0)) hlt
      by_cases hc : x ≤ ns.getD ((lo + hi') / 2) 0
      · rw [if_neg (by simpa using hc)]
        refine wpAny_execs_cons ?_
        refine wpAny_Assign_Name ?_
        refine nmS (by assumption) (by walk_at "wo look") ?_ rfl (by rfl) (by decide +kernel)
        refine stS S4 rfl (by rfl) fun h₅ tk₅ S5 => ?_
        try dsimp only
        refine wpAny_execs_nil ?_
        refine wpAny_execs_nil ?_
        refine ⟨rfl, (lo + hi') / 2 - lo, h₅, tk₅, _, [], g₁, rfl, by omega, ⟨rfl, lo, (lo + hi') / 2, tl, _, by walk_at "wo look", up_hit, by walk_at "wo look", by walk_at "wo look", by omega, rfl, ?_⟩, S5⟩
        rw [if_pos (decide_eq_true hc)] at hb
        rw [← q6, hb]
      · rw [if_pos (by simpa using hc)]
        refine wpAny_execs_cons ?_
        refine wpAny_Assign_Name ?_
        refine wpAny_BinOp ?_
        refine nmS (by assumption) (by walk_at "wo look") ?_ rfl (by rfl) (by decide +kernel)
        refine wpAny_Constant_int ?_
        refine add_int ?_
        try dsimp only
        have e2 : (((lo + hi') / 2 : Nat) : Int) + 1 = (((lo + hi') / 2 + 1 : Nat) : Int) := by omega
        rw [e2]
        refine stS S4 rfl (by rfl) fun h₅ tk₅ S5 => ?_
        try dsimp only
        refine wpAny_execs_nil ?_
        refine wpAny_execs_nil ?_
        refine ⟨rfl, hi' - ((lo + hi') / 2 + 1), h₅, tk₅, _, [], g₁, rfl, by omega, ⟨rfl, (lo + hi') / 2 + 1, hi', _, th, up_hit, by walk_at "wo look", by walk_at "wo look", by walk_at "wo look", by omega, rfl, ?_⟩, S5⟩
        rw [if_neg (by simpa using hc)] at hb
        rw [← q6, hb]
    · rw [if_neg (by simp; omega)]
      try dsimp only
      refine wpAny_execs_nil ?_
      refine wpAny_execs_cons ?_
      refine wpAny_Return_some ?_
      refine nmS (by assumption) (by walk_at "wo look") ?_ rfl (by rfl) (by decide +kernel)
      have e3 : lo = bs (fun i => decide (x ≤ ns.getD i 0)) lo₀ hi₀ := by rw [← q6, bs_ge hlt]
      rw [e3]
      exact h _ _ _ S3.F.keep
set_option maxHeartbeats 4000000 in
theorem ct_brk {w : World} {A : Around} {E : Value → Shared → Prop} {s : Shared} {mg mb : Str → Option Value} {l : Addr} {vs : List Value} {cs : List Nat} {x : Nat} {t t1 : Tok} {Q : Value → Shared → Prop}
    (R : Rm A 4) (B : Bs w mg mb s.heap) (hl : s.heap.IsList l vs.toArray) (hvl : vs.length = cs.length) (hi : ∀ (i c : Nat), cs[i]? = some c → ∃ t, vs[i]? = some (Value.str ⟨#[c]⟩ t)) (hn : cs.length ≤ 1000)
    (h : ∀ h' tk t', Kp s.heap h' → Q (.int (bs (fun i => decide (x < cs.getD i 0 % 32)) 0 cs.length : Nat) t') { s with heap := h', toks := tk }) :
    wpAny (model pw w) A (call (.ref 81) [.ref l, .int x t, .int 0 t1, .none] [("key", .ref 181)]) Q E s := by
  refine enterD (n := 3) R B (B.K 81 _ rfl) (codeRec_of B.K (by kernel_rfl)) (binds := [("a", .ref l), ("x", .int x t), ("lo", .int 0 t1), ("hi", .none), ("key", .ref 181)]) (bdUse (bd_brk B _ _ _ _ _) (B.K 81 _ rfl) rfl) (by decide) (locs rfl) rfl rfl rfl ?_
  intro L h₁ A' tk hL R' hA' F
  have S := Sm.init F
  have m1 : (fun y : Str => ([("a", Value.ref l), ("x", .int x t), ("lo", .int 0 t1), ("hi", .none), ("key", .ref 181)] : List (Str × Value)).reverse.lookup y) "a" = some (.ref l) := rfl
  have m2 : (fun y : Str => ([("a", Value.ref l), ("x", .int x t), ("lo", .int 0 t1), ("hi", .none), ("key", .ref 181)] : List (Str × Value)).reverse.lookup y) "x" = some (.int x t) := rfl
  have m3 : (fun y : Str => ([("a", Value.ref l), ("x", .int x t), ("lo", .int 0 t1), ("hi", .none), ("key", .ref 181)] : List (Str × Value)).reverse.lookup y) "lo" = some (.int 0 t1) := rfl
  have m4 : (fun y : Str => ([("a", Value.ref l), ("x", .int x t), ("lo", .int 0 t1), ("hi", .none), ("key", .ref 181)] : List (Str × Value)).reverse.lookup y) "hi" = some .none := rfl
  have m5 : (fun y : Str => ([("a", Value.ref l), ("x", .int x t), ("lo", .int 0 t1), ("hi", .none), ("key", .ref 181)] : List (Str × Value)).reverse.lookup y) "key" = some (.ref 181) := rfl
  generalize (fun y : Str => ([("a", Value.ref l), ("x", .int x t), ("lo", .int 0 t1), ("hi", .none), ("key", .ref 181)] : List (Str × Value)).reverse.lookup y) = m at S m1 m2 m3 m4 m5
  refine wpAny_execs_cons ?_
  refine wpAny_If ?_
  refine wpAny_isTrue_Compare1 ?_
  refine nmS (by assumption) (by walk_at "wo look") ?_ rfl (by rfl) (by decide +kernel)
  refine wpAny_Constant_int ?_
  refine lt_int ?_
  refine wpAny_truthy_bool ?_
  rw [if_neg (by decide)]
  refine wpAny_execs_nil ?_
  refine wpAny_execs_cons ?_
  refine wpAny_If ?_
  refine wpAny_isTrue_Compare1 ?_
  refine nmS (by assumption) (by walk_at "wo look") ?_ rfl (by rfl) (by decide +kernel)
  refine wpAny_Constant_none ?_
  try dsimp only
  refine is_none ?_
  refine wpAny_truthy_bool ?_
  rw [if_pos (by rfl)]
  refine wpAny_execs_cons ?_
  refine wpAny_Assign_Name ?_
  refine Call_ ?_
  refine nmSB (by assumption) (by assumption) (by kernel_rfl) b_len (by decide +kernel) ?_ rfl rfl rfl (by rfl) (by decide +kernel)
  refine PyProof.Rows.callWith_builtin1 ?_
  refine args_cons ?_
  refine nmS (by assumption) (by walk_at "wo look") ?_ rfl (by rfl) (by decide +kernel)
  refine args_nil ?_
  try dsimp only
  have hlS : ∀ {h' : Heap}, Kp s.heap h' → h'.IsList l vs.toArray := fun k => by obtain ⟨o, e, r⟩ := hl; exact ⟨o, k _ _ e, r⟩
  refine call_len_list (hlS S.F.keep) (by rw [List.size_toArray]; omega) ?_
  refine stS S rfl (by rfl) fun h₂ tk₂ S2 => ?_
  try dsimp only
  refine wpAny_execs_nil ?_
  refine wpAny_execs_cons ?_
  refine wpAny_If ?_
  refine wpAny_isTrue_Compare1 ?_
  refine nmS (by assumption) (by walk_at "wo look") ?_ rfl (by rfl) (by decide +kernel)
  refine wpAny_Constant_none ?_
  refine is_none ?_
  refine wpAny_truthy_bool ?_
  rw [if_neg (by intro h; cases h)]
  refine wpAny_execs_cons ?_
  refine wpAny_While ?_
  have e0 : (vs.toArray.size : Int) = (cs.length : Nat) := by rw [List.size_toArray, hvl]
  rw [e0] at S2
  refine whS (fun k m μ g => μ = [] ∧ ∃ (lo hi : Nat) (tl th : Tok), m "lo" = some (.int lo tl) ∧ m "hi" = some (.int hi th) ∧ m "a" = some (.ref l) ∧ m "x" = some (.int x t) ∧ m "key" = some (.ref 181) ∧ hi ≤ cs.length ∧ k = hi - lo ∧
    bs (fun i => decide (x < cs.getD i 0 % 32)) lo hi = bs (fun i => decide (x < cs.getD i 0 % 32)) 0 cs.length) cs.length S2 ?_ ?_
  · refine ⟨rfl, 0, cs.length, t1, _, by walk_at "wo look", up_hit, by walk_at "wo look", by walk_at "wo look", by walk_at "wo look", Nat.le_refl _, rfl, rfl⟩
  · rintro k m₁ μ₁ g₁ h₃ tk₃ ⟨rfl, lo, hi', tl, th, q1, q2, q3, q4, q7, q5, rfl, q6⟩ S3
    refine wpAny_isTrue_Compare1 ?_
    refine nmS (by assumption) (by walk_at "wo look") ?_ rfl (by rfl) (by decide +kernel)
    refine nmS (by assumption) (by walk_at "wo look") ?_ rfl (by rfl) (by decide +kernel)
    refine lt_int ?_
    refine wpAny_truthy_bool ?_
    by_cases hlt : lo < hi'
    · rw [if_pos (by simp; omega)]
      refine wpAny_execs_cons ?_
      refine wpAny_Assign_Name ?_
      refine wpAny_BinOp ?_
      refine wpAny_BinOp ?_
      refine nmS (by assumption) (by walk_at "wo look") ?_ rfl (by rfl) (by decide +kernel)
      refine nmS (by assumption) (by walk_at "wo look") ?_ rfl (by rfl) (by decide +kernel)
      refine add_int ?_
      refine wpAny_Constant_int ?_
      refine floordiv_int (by decide) ?_
      try dsimp only
      have e1 : ((lo : Int) + (hi' : Int)).fdiv 2 = (((lo + hi') / 2 : Nat) : Int) := by
        rw [Int.fdiv_eq_ediv_of_nonneg _ (by decide)]; omega
      rw [e1]
      refine stS S3 rfl (by rfl) fun h₄ tk₄ S4 => ?_
      try dsimp only
      refine wpAny_execs_cons ?_
      refine wpAny_If ?_
      refine wpAny_isTrue_Compare1 ?_
      refine nmS (by assumption) (by walk_at "wo look") ?_ rfl (by rfl) (by decide +kernel)
      refine Call_ ?_
      refine nmS (by assumption) (by walk_at "wo look") ?_ rfl (by rfl) (by decide +kernel)
      refine cwS (fn_law_rank (by assumption)) ?_
      refine args_cons ?_
      refine Subscript_ ?_
      refine nmS (by assumption) (by walk_at "wo look") ?_ rfl (by rfl) (by decide +kernel)
      refine nmS (by assumption) (by walk_at "wo look") ?_ rfl (by rfl) (by decide +kernel)
      have hmid : (lo + hi') / 2 < cs.length := by omega
      obtain ⟨c, hc0⟩ : ∃ c, cs[(lo + hi') / 2]? = some c := ⟨_, List.getElem?_eq_getElem hmid⟩
      have hcd : cs.getD ((lo + hi') / 2) 0 = c := by rw [List.getD_eq_getElem?_getD, hc0]; rfl
      obtain ⟨tv, hv0⟩ := hi _ _ hc0
      refine subscriptTail_builtin (hlS S4.F.keep).typeIs slot_list_getitem.lookup ?_
      refine wpAny_getItem_list (x := .str ⟨#[c]⟩ tv) (hlS S4.F.keep) (by omega) (by omega) (by rw [Int.toNat_natCast]; simpa using hv0) ?_
      refine args_nil ?_
      refine ⟨S4.F.keep, ct_rank (n := 1) (R'.le) (B.keeps S4.F.keep) rfl fun h₆ tk₆ t₆ k₆ => ?_⟩
      try dsimp only
      have S4 := S4.keeps k₆
      refine lt_int ?_
      refine wpAny_truthy_bool ?_
      have hb := bs_lt (p := fun i => decide (x < cs.getD i 0 % 32)) hlt
      by_cases hc : x < cs.getD ((lo + hi') / 2) 0 % 32
      · rw [if_pos (by rw [hcd] at hc; simpa using (by omega : (x : Int) < ((c % 32 : Nat) : Int)))]
        refine wpAny_execs_cons ?_
        refine wpAny_Assign_Name ?_
        refine nmS (by assumption) (by walk_at "wo look") ?_ rfl (by rfl) (by decide +kernel)
        refine stS S4 rfl (by rfl) fun h₅ tk₅ S5 => ?_
        try dsimp only
        refine wpAny_execs_nil ?_
        refine wpAny_execs_nil ?_
        refine ⟨rfl, (lo + hi') / 2 - lo, h₅, tk₅, _, [], g₁, rfl, by omega, ⟨rfl, lo, (lo + hi') / 2, tl, _, by walk_at "wo look", up_hit, by walk_at "wo look", by walk_at "wo look", by walk_at "wo look", by omega, rfl, ?_⟩, S5⟩
        rw [if_pos (decide_eq_true hc)] at hb
        rw [← q6, hb]
      · rw [if_neg (by rw [hcd] at hc; simpa using (by omega : ¬ (x : Int) < ((c % 32 : Nat) : Int)))]
        refine wpAny_execs_cons ?_
        refine wpAny_Assign_Name ?_
        refine wpAny_BinOp ?_
        refine nmS (by assumption) (by walk_at "wo look") ?_ rfl (by rfl) (by decide +kernel)
        refine wpAny_Constant_int ?_
        refine add_int ?_
        try dsimp only
        have e2 : (((lo + hi') / 2 : Nat) : Int) + 1 = (((lo + hi') / 2 + 1 : Nat) : Int) := by omega
        rw [e2]
        refine stS S4 rfl (by rfl) fun h₅ tk₅ S5 => ?_
        try dsimp only
        refine wpAny_execs_nil ?_
        refine wpAny_execs_nil ?_
        refine ⟨rfl, hi' - ((lo + hi') / 2 + 1), h₅, tk₅, _, [], g₁, rfl, by omega, ⟨rfl, (lo + hi') / 2 + 1, hi', _, th, up_hit, by walk_at "wo look", by walk_at "wo look", by walk_at "wo look", by walk_at "wo look", by omega, rfl, ?_⟩, S5⟩
        rw [if_neg (by simpa using hc)] at hb
        rw [← q6, hb]
    · rw [if_neg (by simp; omega)]
      try dsimp only
      refine wpAny_execs_nil ?_
      refine wpAny_execs_cons ?_
      refine wpAny_Return_some ?_
      refine nmS (by assumption) (by walk_at "wo look") ?_ rfl (by rfl) (by decide +kernel)
      have e3 : lo = bs (fun i => decide (x < cs.getD i 0 % 32)) 0 cs.length := by rw [← q6, bs_ge hlt]
      rw [e3]
      exact h _ _ _ S3.F.keep

theorem bs_le (p : Nat → Bool) : ∀ (d lo hi : Nat), hi - lo ≤ d → lo ≤ hi → lo ≤ bs p lo hi ∧ bs p lo hi ≤ hi := by
  intro d
  induction d with
  | zero => intro lo hi h1 h2; rw [bs_ge (by omega)]; omega
  | succ d ih =>
    intro lo hi h1 h2
    by_cases hlt : lo < hi
    · rw [bs_lt hlt]
      split
      · have := ih lo ((lo + hi) / 2) (by omega) (by omega); omega
      · have := ih ((lo + hi) / 2 + 1) hi (by omega) (by omega); omega
    · rw [bs_ge hlt]; omega
noncomputable def insL (cs : List Nat) (c : Nat) : List Nat :=
  cs.take (bs (fun i => decide (c % 32 < cs.getD i 0 % 32)) 0 cs.length) ++ c :: cs.drop (bs (fun i => decide (c % 32 < cs.getD i 0 % 32)) 0 cs.length)

set_option maxHeartbeats 4000000 in
theorem ct_ins {w : World} {A : Around} {E : Value → Shared → Prop} {s : Shared} {mg mb : Str → Option Value} {h₀ : Heap} {row : Addr} {vs : List Value} {nn : Nat} {cs : List Nat} {c : Nat} {t : Tok} {Q : Value → Shared → Prop}
    (R : Rm A 5) (B : Bs w mg mb h₀) (k₀ : Kp h₀ s.heap) (hrow : s.heap.get? row = some (listOf vs.toArray nn)) (hr0 : h₀.get? row = none) (hd : DatAll [] vs (cs.map chD)) (hn : cs.length ≤ 1000)
    (h : ∀ h' tk vs' n', KpX [row] s.heap h' → h'.get? row = some (listOf vs'.toArray n') → DatAll [] vs' ((insL cs c).map chD) → Q .none { s with heap := h', toks := tk }) :
    wpAny (model pw w) A (call (.ref 72) [.ref row, .str ⟨#[c]⟩ t] [("key", .ref 181)]) Q E s := by
  have hvl : vs.length = cs.length := by simpa using hd.length
  refine enterU (n := 4) R B k₀ (k₀ _ _ (B.K 72 _ rfl)) ((B.keeps k₀).K |> fun X => codeRec_of X (by kernel_rfl)) (binds := [("a", .ref row), ("x", .str ⟨#[c]⟩ t), ("lo", .int 0 278), ("hi", .none), ("key", .ref 181)]) (bdUse (bd_ins (B.keeps k₀) _ _ _) ((B.keeps k₀).K 72 _ rfl) rfl) (by decide) (locs rfl) rfl rfl rfl ?_
  intro L h₁ A' tk hL R' hA' F
  simp only [List.foldl_cons, List.foldl_nil, upB] at F
  have S := Sm.hide (σ := [(row, listOf vs.toArray nn)]) F (fun r hr => by rw [List.mem_singleton.mp hr]; exact hrow) (by simp)
  have k₁ : Kp h₀ (hideAll s.heap (([(row, listOf vs.toArray nn)] : Lg).map (·.1))) := kp_hide k₀ fun r hr => by rw [List.mem_singleton.mp hr]; exact hr0
  have B₁ := B.keeps k₁
  generalize hp : hideAll s.heap (([(row, listOf vs.toArray nn)] : Lg).map (·.1)) = p at S k₁ B₁
  clear F
  refine wpAny_execs_cons ?_
  refine wpAny_If ?_
  refine wpAny_isTrue_Compare1 ?_
  refine nmS (by assumption) (by walk_at "wo look") ?_ rfl (by rfl) (by decide +kernel)
  refine wpAny_Constant_none ?_
  refine is_none ?_
  refine wpAny_truthy_bool ?_
  rw [if_neg (by intro h; cases h)]
  refine wpAny_execs_cons ?_
  refine wpAny_Assign_Name ?_
  try dsimp only
  refine CallKw ?_
  refine nmSG (by assumption) (by assumption) g_bisect_right ?_ rfl rfl (by rfl) (by decide +kernel)
  refine cwKw (fn_bisect_right B₁) ?_
  refine args_cons ?_
  refine nmS (by assumption) (by walk_at "wo look") ?_ rfl (by rfl) (by decide +kernel)
  refine args_cons ?_
  refine Call_ ?_
  refine nmS (by assumption) (by walk_at "wo look") ?_ rfl (by rfl) (by decide +kernel)
  refine cwS (fn_law_rank (by assumption)) ?_
  refine args_cons ?_
  refine nmS (by assumption) (by walk_at "wo look") ?_ rfl (by rfl) (by decide +kernel)
  refine args_nil ?_
  refine ⟨S.F.keep, ct_rank (n := 3) R' (B₁.keeps S.F.keep) rfl fun h₂ tk₂ t₂ k₂ => ?_⟩
  try dsimp only
  have S := S.keeps k₂
  refine args_cons ?_
  refine nmS (by assumption) (by walk_at "wo look") ?_ rfl (by rfl) (by decide +kernel)
  refine args_cons ?_
  refine nmS (by assumption) (by walk_at "wo look") ?_ rfl (by rfl) (by decide +kernel)
  refine args_nil ?_
  refine nmS (by assumption) (by walk_at "wo look") ?_ rfl (by rfl) (by decide +kernel)
  have hl := (S.M _ (.head _)).1
  refine ⟨S.F.keep, ct_brk (cs := cs) R' (B₁.keeps S.F.keep) ⟨_, hl, rfl, _, rfl⟩ hvl (chars hd) hn fun h₃ tk₃ t₃ k₃ => ?_⟩
  try dsimp only
  have S := S.keeps k₃
  refine stS S rfl (by rfl) fun h₄ tk₄ S => ?_
  try dsimp only
  refine wpAny_execs_nil ?_
  refine wpAny_execs_cons ?_
  refine wpAny_Expr_any ?_
  refine MethodCall_ ?_
  refine nmS (by assumption) (by walk_at "wo look") ?_ rfl (by rfl) (by decide +kernel)
  refine lmeth (S.M _ (.head _)).1 PySem.F.slot_list_insert PySem.F.type_list_insert ?_
  try dsimp only
  refine callWith_method1 ?_
  refine args_cons ?_
  refine nmS (by assumption) (by walk_at "wo look") ?_ rfl (by rfl) (by decide +kernel)
  refine args_cons ?_
  refine nmS (by assumption) (by walk_at "wo look") ?_ rfl (by rfl) (by decide +kernel)
  refine args_nil ?_
  try dsimp only [List.cons_append, List.nil_append]
  have hb := (bs_le (fun i => decide (c % 32 < cs.getD i 0 % 32)) _ 0 cs.length (Nat.le_refl _) (Nat.zero_le _)).2
  refine insS S (k := bs (fun i => decide (c % 32 < cs.getD i 0 % 32)) 0 cs.length) rfl (by omega) (by rw [sizeLine_eq]; omega) fun h₅ n₅ S kx => ?_
  try dsimp only
  refine wpAny_execs_nil ?_
  try dsimp only
  refine h h₅ _ _ _ (kpx_of hp.symm S.F.keep) (S.M _ (.head _)).1 ?_
  unfold insL
  rw [List.map_append, List.map_cons, List.map_take, List.map_drop]
  exact (datTake hd _).append (.cons (.str _ _) (datDrop hd _))

noncomputable def pw1 (ns : List Int) (i : Nat) : Int := 6 - (Builtin.Int.intBits (Builtin.bitXor (ns.getD i 0) (ns.getD (i + 1) 0)) : Int)
noncomputable def powL (ns : List Int) : List Int := 0 :: (List.range (ns.length - 1)).map (pw1 ns)

set_option maxHeartbeats 4000000 in
theorem ct_pow {w : World} {A : Around} {E : Value → Shared → Prop} {s : Shared} {mg mb : Str → Option Value} {l : Addr} {vs : List Value} {ns : List Int} {Q : Value → Shared → Prop}
    (R : Rm A 3) (B : Bs w mg mb s.heap) (hl : s.heap.IsList l vs.toArray) (hi : IntsAre vs ns) (hn : ns.length ≤ 1000)
    (h : ∀ h' tk a g, Kp s.heap h' → (∀ q ∈ g, h'.get? q.1 = some q.2 ∧ s.heap.objs.size ≤ q.1) → DatIn g (.ref a) (.list ((powL ns).map Dat.int)) → Q (.ref a) { s with heap := h', toks := tk }) :
    wpAny (model pw w) A (call (.ref 193) [.ref l]) Q E s := by
  have hvl : vs.length = ns.length := hi.length
  refine enterU (n := 2) R B Kp.rfl (B.K 193 _ rfl) (codeRec_of B.K (by kernel_rfl)) (binds := [("marks", .ref l)]) (BindsTo.of_eq rfl) (by decide) (locs rfl) rfl rfl rfl ?_
  intro L h₁ A' tk hL R' hA' F
  simp only [List.foldl_cons, List.foldl_nil, upB] at F
  have S := Sm.init F
  clear F
  have hlS : ∀ {h' : Heap}, Kp s.heap h' → h'.IsList l vs.toArray := fun k => by obtain ⟨o, e, r⟩ := hl; exact ⟨o, k _ _ e, r⟩
  refine wpAny_execs_cons ?_
  refine wpAny_Return_some ?_
  refine wpAny_BinOp ?_
  refine List_ ?_
  refine args_cons ?_
  refine wpAny_Constant_int ?_
  refine args_nil ?_
  refine listS S (by walk_at "wo sz") fun a₀ h₂ S ha k => ?_
  try dsimp only
  refine evX L (by rfl) (by decide) rfl (by decide) ?_
  refine Call_ ?_
  refine nmSB (by assumption) (by assumption) (by kernel_rfl) b_zip (by decide +kernel) ?_ rfl rfl rfl (by rfl) (by decide +kernel)
  refine PyProof.Rows.callWith_type1 ?_
  refine args_cons ?_
  refine nmS (by assumption) (by walk_at "wo look") ?_ rfl (by rfl) (by decide +kernel)
  refine args_cons ?_
  refine Subscript_ ?_
  refine nmS (by assumption) (by walk_at "wo look") ?_ rfl (by rfl) (by decide +kernel)
  refine wpAny_Slice ?_
  refine wpAny_evalPart_some ?_
  refine wpAny_Constant_int ?_
  refine wpAny_evalPart_none ?_
  refine wpAny_evalPart_none ?_
  try dsimp only
  refine sliceT S (hlS S.F.keep) (.int _ _) .none (by walk_at "wo sz") (fun b h₃ S hb k => ?_) (fun _ _ => ⟨[_, _], by with_unfolding_all rfl⟩) (by intro _ _; with_unfolding_all rfl)
  try dsimp only
  refine args_nil ?_
  have hb := S.lv.list (.head _)
  have eb : slicePick vs.toArray (some 1) none none = (vs.drop 1).toArray := by
    have z := slicePick_from' vs.toArray 1
    simpa using z
  rw [eb] at hb
  refine zipC (k := ns.length - 1) S (hlS S.F.keep) hb (by simp; omega) R'.h (by rw [sizeLine_eq]; omega) (fun i => .int (pw1 ns i)) ?_ ?_
  · rintro i C p' n' m₀ μ' g' h₅ tk₅ v1 v2 hik e1 e2 kp lg lm hn' S'
    have B' := B.keeps kp
    obtain ⟨t1, e3⟩ := hi.int_at i v1 (by simpa using e1)
    obtain ⟨t2, e4⟩ := hi.int_at (i + 1) v2 (by simpa [Nat.add_comm] using e2)
    subst e3 e4
    refine wpAny_BinOp ?_
    refine wpAny_Constant_int ?_
    refine MethodCall_ ?_
    refine wpAny_BinOp ?_
    refine nmS (by assumption) (by walk_at "wo look") ?_ rfl (by rfl) (by decide +kernel)
    refine nmS (by assumption) (by walk_at "wo look") ?_ rfl (by rfl) (by decide +kernel)
    refine xor_int ?_
    try dsimp only
    refine getMethod_int_bit_length ?_
    refine callWith_method0 ?_
    refine call_int_bit_length ?_
    refine sub_int ?_
    try dsimp only
    exact ⟨_, _, [], rfl, S', .int _ _⟩
  · intro D h₅ tk₅ g' S hg hD
    try dsimp only
    obtain ⟨ws, nn, hm, hall⟩ := dlist hD
    refine catS S (vs := [_]) (ws := ws) (S.lv.list (List.mem_append_right _ (.tail _ (.head _)))) (S.lv.list (List.mem_append_left _ hm)) (by have := hall.length; simp at this; rw [sizeLine_eq]; simp; omega) fun r h₆ S hr k => ?_
    refine h _ _ _ _ S.F.keep (fun q hq => ⟨(S.G q hq).1, hL ▸ (S.G q hq).2.1⟩) (.list (.head _) ?_)
    show DatAll _ ([_] ++ ws) ([Dat.int 0] ++ _)
    refine DatAll.append (.one (.int _ _)) ?_
    rw [List.map_map]
    exact hall.mono fun q hq => .tail _ (List.mem_append_left _ hq)

theorem bits_a : ∀ k : Nat, k < 32 → 1 ≤ k → ((Builtin.Int.intBits (32 * (k : Int)) : Int) + 5 - 1).fdiv 5 = 2 := by decide +kernel

theorem xor_self : ∀ k : Nat, k < 32 → Builtin.bitXor (32 * (k : Int)) (32 * (k : Int)) = 0 := by decide +kernel
set_option maxHeartbeats 4000000 in
theorem ct_i2d {w : World} {A : Around} {E : Value → Shared → Prop} {s : Shared} {mg mb : Lm} {h₀ : Heap} {k : Nat} {t u : Tok} {o : Obj} {Q : Value → Shared → Prop}
    (R : Rm A 4) (B : Bs w mg mb h₀) (k₀ : Kp h₀ s.heap) (hk1 : 1 ≤ k) (hk2 : k < 32) (h37 : s.heap.get? 37 = some o) (hT : TbH ⟨35, 4, 44, 28⟩ "_int2digits.<locals>.inner" s.heap o) (hn37 : h₀.get? 37 = none)
    (h : ∀ h' tk a g o', KpX [37] s.heap h' → (∀ q ∈ g, h'.get? q.1 = some q.2 ∧ s.heap.objs.size ≤ q.1) → h'.get? 37 = some o' → (o' = o ∨ TbG ⟨35, 4, 44, 28⟩ "_int2digits.<locals>.inner" g o') → DatIn g (.ref a) (.list [.int 0, .int k]) → Q (.ref a) { s with heap := h', toks := tk }) :
    wpAny (model pw w) A (call (.ref 42) [.int (32 * (k : Int)) t, .int 5 u]) Q E s := by
  refine enterC (n := 3) R B k₀ (k₀ _ _ (B.K 42 _ rfl)) (codeRec_of (B.keeps k₀).K (by kernel_rfl)) (binds := [("a", .int (32 * (k : Int)) t), ("n", .int 5 u)]) (BindsTo.of_eq rfl)
    (cls := fun L => [("inner", L + 3), ("a_digits", L + 2), ("n", L + 1)]) (m₀ := Lm.up (fun _ => none) "a" (.int (32 * (k : Int)) t)) (cm := Lm.up (fun _ => none) "n" (.int 5 u)) (fun _ => rfl) (fun _ => by simp only [List.map]; decide) (fun _ => by simp) ?_ (fun _ => rfl) (fun _ => rfl) rfl rfl rfl ?_
  · intro L x hx
    simp only [List.mem_cons, List.not_mem_nil, or_false] at hx
    rcases hx with rfl | rfl
    · exact .inl rfl
    · exact .inr ⟨rfl, rfl⟩
  intro L h₁ A' tk cells hL R' hA' S hC
  obtain ⟨o3, o2, o1, rfl, d3, d2, d1⟩ := hC.three
  clear hC
  replace d1 : o1.data = .cell (some (.int 5 u)) := d1
  have S := Sm.hid (σ := [(37, o)]) S (fun r hr => by rw [List.mem_singleton.mp hr]; exact h37) (by simp)
  have k₁ : Kp h₀ (hideAll s.heap (([(37, o)] : Lg).map (·.1))) := kp_hide k₀ fun r hr => by rw [List.mem_singleton.mp hr]; exact hn37
  have B₁ := B.keeps k₁
  have CH : CodeHd h₀ 41 37 := ⟨_, _, _, _, _, _, _, _, _, B.K 41 _ rfl, rfl, rfl, rfl, rfl, rfl, rfl, rfl, rfl, by decide⟩
  have CH₁ := CH.keeps k₁
  have hT₁ : TbH ⟨35, 4, 44, 28⟩ "_int2digits.<locals>.inner" (hideAll s.heap (([(37, o)] : Lg).map (·.1))) o := hT.x kpx_hide fun r hr => by rw [List.mem_singleton.mp hr]; exact ⟨h37, hT.nc⟩
  generalize hp : hideAll s.heap (([(37, o)] : Lg).map (·.1)) = p at S k₁ B₁ CH₁ hT₁
  have S := (S.perm (List.perm_middle (l₁ := [_, _, _]))).freeze (by omega)
  refine wpAny_execs_cons ?_
  refine wpAny_Assign_Name ?_
  refine wpAny_BinOp ?_
  refine List_ ?_
  refine args_cons ?_
  refine wpAny_Constant_int ?_
  refine args_nil ?_
  refine listS S (by walk_at "wo sz") fun a₀ h₂ S ha _ => ?_
  try dsimp only
  refine wpAny_BinOp ?_
  refine wpAny_BinOp ?_
  refine wpAny_BinOp ?_
  refine MethodCall_ ?_
  refine nmS (by assumption) (by walk_at "wo look") ?_ rfl (by rfl) (by decide +kernel)
  refine getMethod_int_bit_length ?_
  refine callWith_method0 ?_
  refine call_int_bit_length ?_
  refine nmCS (by assumption) (by rfl) (by walk_at "wo mem") (by assumption) ?_ rfl (by rfl) (by decide +kernel)
  refine addR _ rfl fun _ _ => ?_
  refine wpAny_Constant_int ?_
  refine subR _ rfl fun _ _ => ?_
  refine nmCS (by assumption) (by rfl) (by walk_at "wo mem") (by assumption) ?_ rfl (by rfl) (by decide +kernel)
  refine fdivR 2 (by decide) (bits_a k hk2 hk1) (by decide) fun _ _ => ?_
  refine mulS (k := 2) S (S.lv _ (.head _)) rfl (by decide) fun d h₃ S2 hd => ?_
  have hLd : L ≤ d := Nat.le_trans S.low hd
  replace S := S2
  refine stC S (List.perm_middle (l₁ := [_, _, _])) d2 (by omega) rfl (by rfl) (by rfl) fun h₄ o2' d2' S _ => ?_
  try dsimp only
  refine wpAny_execs_cons ?_
  refine nestDef_K rfl rfl rfl ?_
  refine mkS B₁ (S.perm (List.perm_middle (l₁ := [_]))) CH₁ (hT₁.keeps S.F.keep) (by rfl) rfl rfl ?_
  intro f c' ctv doc pm h₅ tk₅ o' g₁ S hrec ho' hf hg₁
  try dsimp only
  have hM3 := S.M _ (List.Mem.tail _ (List.Mem.tail _ (List.Mem.head _)))
  refine stC S (List.perm_middle (l₁ := [_, _])) d3 (by omega) rfl (by rfl) (by rfl) fun h₆ o3' d3' S kc => ?_
  try dsimp only
  have hrec₆ : h₆.CodeRec (.ref c') "_int2digits.<locals>.inner" := crX (σ := [(L + 3, o3)]) hrec (fun b y hb e => kc b y (fun z => hb (by rw [z]; exact .head _)) e) fun r hr => by rw [List.mem_singleton.mp hr]; exact ⟨hM3.1, nc_cell d3⟩
  obtain ⟨G, hG, S⟩ := S.named
  have mf := hd2 hG
  have m3 := hd1 hG
  have m2 : (L + 2, o2') ∈ G := by rw [hG]; walk_at "wo mem"
  have m1 : (L + 1, o1) ∈ G := by rw [hG]; walk_at "wo mem"
  have hGd : ∀ q ∈ G, q.1 ≠ d := fun q hq e => (S.G q hq).2.2.2 _ (.tail _ (.head _)) e.symm
  have hpd : p.get? d = none := (S.M _ (.tail _ (.head _))).2.2
  have base : ∀ {A : Around} {E : Value → Shared → Prop} {s : Shared} {x : Int} {l : Nat} {tx tl tr : Tok} {ws : List Value} {nn : Nat} {Q : Value → Shared → Prop}, Rm A 1 → Kp p s.heap → Lv s.heap G → s.heap.CodeRec (.ref c') "_int2digits.<locals>.inner" →
      s.heap.get? d = some (listOf ws.toArray nn) → l < ws.length → ws.length ≤ 1000 → (∀ h' tk nn', KpX [d] s.heap h' → h'.get? d = some (listOf (ws.set l (.int x tx)).toArray nn') → Q .none { s with heap := h', toks := tk }) →
      wpAny (model pw w) A (call (.ref f) [.int x tx, .int l tl, .int ((l : Int) + 1) tr]) Q E s := by
    intro A E s x l tx tl tr ws nn Q R kp lg hr hd hl hws hQ
    refine enterU (n := 0) R B₁ kp (lg _ mf) hr (binds := [("x", .int x tx), ("L", .int l tl), ("R", .int ((l : Int) + 1) tr)]) (BindsTo.of_eq rfl) (by decide) (locs rfl) rfl rfl rfl ?_
    intro L' h₁ A' tk hL R' hA' F
    simp only [List.foldl_cons, List.foldl_nil, upB] at F
    have S := Sm.hide (σ := [(d, listOf ws.toArray nn)]) F (fun r hr => by rw [List.mem_singleton.mp hr]; exact hd) (by simp)
    have k₁ : Kp p (hideAll s.heap (([(d, listOf ws.toArray nn)] : Lg).map (·.1))) := kp_hide kp fun r hr => by rw [List.mem_singleton.mp hr]; exact hpd
    have l₁ : Lv (hideAll s.heap (([(d, listOf ws.toArray nn)] : Lg).map (·.1))) G := fun q hq => hideAll_get _ (lg q hq) (fun z => hGd q hq (List.mem_singleton.mp z))
    generalize hp : hideAll s.heap (([(d, listOf ws.toArray nn)] : Lg).map (·.1)) = p' at S k₁ l₁
    clear F
    refine wpAny_execs_cons ?_
    refine wpAny_If ?_
    refine wpAny_isTrue_Compare1 ?_
    refine wpAny_BinOp ?_
    refine nmS (by assumption) (by walk_at "wo look") ?_ rfl (by rfl) (by decide +kernel)
    refine wpAny_Constant_int ?_
    refine addR _ rfl fun _ _ => ?_
    refine nmS (by assumption) (by walk_at "wo look") ?_ rfl (by rfl) (by decide +kernel)
    refine eq_int ?_
    refine wpAny_truthy_bool ?_
    rw [if_pos (by simp)]
    refine wpAny_execs_cons ?_
    refine wpAny_Assign_Subscript ?_
    refine nmS (by assumption) (by walk_at "wo look") ?_ rfl (by rfl) (by decide +kernel)
    refine nmFS (by assumption) (by assumption) (by rfl) (by walk_at "wo mem") (by assumption) ?_ rfl (by rfl) (by decide +kernel) (by decide +kernel)
    refine nmS (by assumption) (by walk_at "wo look") ?_ rfl (by rfl) (by decide +kernel)
    try dsimp only
    refine setS S rfl hl hws fun h₂ n₂ S => ?_
    try dsimp only
    refine wpAny_execs_cons ?_
    refine wpAny_Return_none ?_
    try dsimp only
    exact hQ _ _ _ (kpx_of hp.symm S.F.keep) (S.M _ (.head _)).1
  have two : ∀ {A : Around} {E : Value → Shared → Prop} {s : Shared} {tx tl tr : Tok} {v0 v1 : Value} {nn : Nat} {Q : Value → Shared → Prop}, Rm A 2 → Kp p s.heap → Lv s.heap G → s.heap.CodeRec (.ref c') "_int2digits.<locals>.inner" →
      s.heap.get? d = some (listOf #[v0, v1] nn) → (∀ h' tk nn' t1 t2, KpX [d] s.heap h' → h'.get? d = some (listOf #[.int 0 t1, .int k t2] nn') → Q .none { s with heap := h', toks := tk }) →
      wpAny (model pw w) A (call (.ref f) [.int (32 * (k : Int)) tx, .int 0 tl, .int 2 tr]) Q E s := by
    intro A E s tx tl tr v0 v1 nn Q R kp lg hr hd hQ
    refine enterU (n := 1) R B₁ kp (lg _ mf) hr (binds := [("x", .int (32 * (k : Int)) tx), ("L", .int 0 tl), ("R", .int 2 tr)]) (BindsTo.of_eq rfl) (by decide) (locs rfl) rfl rfl rfl ?_
    intro L' h₁ A' tk hL R' hA' F
    simp only [List.foldl_cons, List.foldl_nil, upB] at F
    have hσ : ∀ r ∈ ([(d, listOf #[v0, v1] nn)] : Lg), s.heap.get? r.1 = some r.2 ∧ NoCode r.2 := fun r hr => by rw [List.mem_singleton.mp hr]; exact ⟨hd, nc_list⟩
    have S := Sm.hide (σ := [(d, listOf #[v0, v1] nn)]) F (fun r hr => (hσ r hr).1) (by simp)
    have k₁ : Kp p (hideAll s.heap (([(d, listOf #[v0, v1] nn)] : Lg).map (·.1))) := kp_hide kp fun r hr => by rw [List.mem_singleton.mp hr]; exact hpd
    have l₁ : Lv (hideAll s.heap (([(d, listOf #[v0, v1] nn)] : Lg).map (·.1))) G := fun q hq => hideAll_get _ (lg q hq) (fun z => hGd q hq (List.mem_singleton.mp z))
    have hr₁ := crX hr (kpx_hide (h := s.heap)) hσ
    generalize hp : hideAll s.heap (([(d, listOf #[v0, v1] nn)] : Lg).map (·.1)) = p' at S k₁ l₁ hr₁
    clear F
    refine wpAny_execs_cons ?_
    refine wpAny_If ?_
    refine wpAny_isTrue_Compare1 ?_
    refine wpAny_BinOp ?_
    refine nmS (by assumption) (by walk_at "wo look") ?_ rfl (by rfl) (by decide +kernel)
    refine wpAny_Constant_int ?_
    refine addR 1 rfl fun _ _ => ?_
    refine nmS (by assumption) (by walk_at "wo look") ?_ rfl (by rfl) (by decide +kernel)
    refine eq_int ?_
    refine wpAny_truthy_bool ?_
    rw [if_neg (by decide)]
    refine wpAny_execs_nil ?_
    refine wpAny_execs_cons ?_
    refine wpAny_Assign_Name ?_
    refine wpAny_BinOp ?_
    refine wpAny_BinOp ?_
    refine nmS (by assumption) (by walk_at "wo look") ?_ rfl (by rfl) (by decide +kernel)
    refine nmS (by assumption) (by walk_at "wo look") ?_ rfl (by rfl) (by decide +kernel)
    refine addR 2 rfl fun _ _ => ?_
    refine wpAny_Constant_int ?_
    refine shrR 1 (by decide) (by decide) fun _ _ => ?_
    refine stS S rfl (by rfl) fun h₂ tk₂ S => ?_
    try dsimp only
    refine wpAny_execs_cons ?_
    refine wpAny_Assign_Name ?_
    refine wpAny_BinOp ?_
    refine wpAny_BinOp ?_
    refine nmS (by assumption) (by walk_at "wo look") ?_ rfl (by rfl) (by decide +kernel)
    refine nmS (by assumption) (by walk_at "wo look") ?_ rfl (by rfl) (by decide +kernel)
    refine subR 1 rfl fun _ _ => ?_
    refine nmFS (by assumption) (by assumption) (by rfl) (by walk_at "wo mem") (by assumption) ?_ rfl (by rfl) (by decide +kernel) (by decide +kernel)
    refine mulR 5 rfl (by decide) fun _ _ => ?_
    refine stS S rfl (by rfl) fun h₂ tk₂ S => ?_
    try dsimp only
    refine wpAny_execs_cons ?_
    refine wpAny_Assign_Name ?_
    refine wpAny_BinOp ?_
    refine nmS (by assumption) (by walk_at "wo look") ?_ rfl (by rfl) (by decide +kernel)
    refine nmS (by assumption) (by walk_at "wo look") ?_ rfl (by rfl) (by decide +kernel)
    refine shrR k (by decide) (by rw [Int.fdiv_eq_ediv_of_nonneg _ (by decide), show (2 : Int) ^ (5 : Int).toNat = 32 from by decide]; omega) fun _ _ => ?_
    refine stS S rfl (by rfl) fun h₂ tk₂ S => ?_
    try dsimp only
    refine wpAny_execs_cons ?_
    refine wpAny_Assign_Name ?_
    refine wpAny_BinOp ?_
    refine nmS (by assumption) (by walk_at "wo look") ?_ rfl (by rfl) (by decide +kernel)
    refine wpAny_BinOp ?_
    refine nmS (by assumption) (by walk_at "wo look") ?_ rfl (by rfl) (by decide +kernel)
    refine nmS (by assumption) (by walk_at "wo look") ?_ rfl (by rfl) (by decide +kernel)
    refine shlR (32 * (k : Int)) (by decide) (by decide) (by omega) (by rw [show (2 : Int) ^ (5 : Int).toNat = 32 from by decide]; omega) fun _ _ => ?_
    refine xorR 0 (xor_self k hk2) fun _ _ => ?_
    refine stS S rfl (by rfl) fun h₂ tk₂ S => ?_
    try dsimp only
    refine wpAny_execs_cons ?_
    refine wpAny_Expr_any ?_
    refine Call_ ?_
    refine nmFS (by assumption) (by assumption) (by rfl) (by walk_at "wo mem") (by assumption) ?_ rfl (by rfl) (by decide +kernel) (by decide +kernel)
    refine cwS (p := p') ⟨_, _, l₁ _ mf, rfl⟩ ?_
    refine args_cons ?_
    refine nmS (by assumption) (by walk_at "wo look") ?_ rfl (by rfl) (by decide +kernel)
    refine args_cons ?_
    refine nmS (by assumption) (by walk_at "wo look") ?_ rfl (by rfl) (by decide +kernel)
    refine args_cons ?_
    refine nmS (by assumption) (by walk_at "wo look") ?_ rfl (by rfl) (by decide +kernel)
    refine args_nil ?_
    refine ⟨S.F.keep, base (l := 0) R' (k₁.trans S.F.keep) (l₁.keeps S.F.keep) (hr₁.keeps S.F.keep) (S.M _ (.head _)).1 (by simp) (by simp) fun h₃ tk₃ n₃ kx hd₃ => ?_⟩
    try dsimp only
    have S := Sm.chg S (fun b y hb e => kx b y (fun z => hb (List.mem_singleton.mp z)) e) hd₃
    refine wpAny_execs_cons ?_
    refine wpAny_Expr_any ?_
    refine Call_ ?_
    refine nmFS (by assumption) (by assumption) (by rfl) (by walk_at "wo mem") (by assumption) ?_ rfl (by rfl) (by decide +kernel) (by decide +kernel)
    refine cwS (p := p') ⟨_, _, l₁ _ mf, rfl⟩ ?_
    refine args_cons ?_
    refine nmS (by assumption) (by walk_at "wo look") ?_ rfl (by rfl) (by decide +kernel)
    refine args_cons ?_
    refine nmS (by assumption) (by walk_at "wo look") ?_ rfl (by rfl) (by decide +kernel)
    refine args_cons ?_
    refine nmS (by assumption) (by walk_at "wo look") ?_ rfl (by rfl) (by decide +kernel)
    refine args_nil ?_
    refine ⟨S.F.keep, base (l := 1) R' (k₁.trans S.F.keep) (l₁.keeps S.F.keep) (hr₁.keeps S.F.keep) (S.M _ (.head _)).1 (by simp) (by simp) fun h₄ tk₄ n₄ kx hd₄ => ?_⟩
    try dsimp only
    have S := Sm.chg S (fun b y hb e => kx b y (fun z => hb (List.mem_singleton.mp z)) e) hd₄
    refine wpAny_execs_nil ?_
    try dsimp only
    exact hQ _ _ _ _ _ (kpx_of hp.symm S.F.keep) (S.M _ (.head _)).1
  refine wpAny_execs_cons ?_
  refine wpAny_If ?_
  refine wpAny_isTrue_value ?_
  refine nmS (by assumption) (by walk_at "wo look") ?_ rfl (by rfl) (by decide +kernel)
  refine PyProof.Rows.truthy_int ?_
  rw [if_pos (by simp; omega)]
  refine wpAny_execs_cons ?_
  refine wpAny_Expr_any ?_
  refine Call_ ?_
  refine nmCS (by assumption) (by rfl) (by walk_at "wo mem") (by assumption) ?_ rfl (by rfl) (by decide +kernel)
  refine cwS (p := h₆) ⟨_, _, S.lv _ mf, rfl⟩ ?_
  refine args_cons ?_
  refine nmS (by assumption) (by walk_at "wo look") ?_ rfl (by rfl) (by decide +kernel)
  refine args_cons ?_
  refine wpAny_Constant_int ?_
  refine args_cons ?_
  refine Call_ ?_
  refine nmSB (by assumption) (by assumption) (by kernel_rfl) b_len (by decide +kernel) ?_ rfl rfl rfl (by rfl) (by decide +kernel)
  refine PyProof.Rows.callWith_builtin1 ?_
  refine args_cons ?_
  refine nmCS (by assumption) (by rfl) (by walk_at "wo mem") (by assumption) ?_ rfl (by rfl) (by decide +kernel)
  refine args_nil ?_
  have hdd := (S.M _ (List.Mem.tail _ (List.Mem.head _))).1
  refine call_len_list ⟨_, hdd, rfl, _, rfl⟩ (by simp) ?_
  refine args_nil ?_
  refine ⟨Kp.rfl, two (R'.le) S.F.keep S.lv hrec₆ hdd fun h₇ tk₇ n₇ t1 t2 kx hd₇ => ?_⟩
  try dsimp only
  have S := Sm.chg (S.perm (List.Perm.swap ..)) (fun b y hb e => kx b y (fun z => hb (List.mem_singleton.mp z)) e) hd₇
  refine wpAny_execs_nil ?_
  refine wpAny_execs_cons ?_
  refine wpAny_Return_some ?_
  refine nmCS (by assumption) (by rfl) (by walk_at "wo mem") (by assumption) ?_ rfl (by rfl) (by decide +kernel)
  try dsimp only
  have S := S.freeze hLd
  refine h h₇ tk₇ d _ o' (kpx_of hp.symm S.F.keep) (fun q hq => ⟨(S.G q hq).1, hL ▸ (S.G q hq).2.1⟩) (S.M _ (.head _)).1 (ho'.imp id fun T => T.mono fun q hq => ?_) (.list (.head _) (.cons (.int _ _) (.cons (.int _ _) .nil)))
  rw [hG]
  exact .tail _ (.tail _ (.tail _ (List.mem_append_left _ hq)))

set_option maxHeartbeats 4000000 in
theorem ct_d2i {w : World} {A : Around} {E : Value → Shared → Prop} {s : Shared} {mg mb : Lm} {h₀ : Heap} {l : Addr} {a b : Int} {ta tb u : Tok} {o : Obj} {Q : Value → Shared → Prop}
    (R : Rm A 4) (B : Bs w mg mb h₀) (k₀ : Kp h₀ s.heap) (ha1 : 0 ≤ a ∧ a < 1000000) (hb1 : 0 ≤ b ∧ b < 1000000) (hl : s.heap.IsList l #[.int a ta, .int b tb]) (h44 : s.heap.get? 44 = some o) (hT : TbH ⟨50, 4, 55, 55⟩ "_digits2int.<locals>.inner" s.heap o) (hn44 : h₀.get? 44 = none)
    (h : ∀ h' tk t g o', KpX [44] s.heap h' → (∀ q ∈ g, h'.get? q.1 = some q.2 ∧ s.heap.objs.size ≤ q.1) → h'.get? 44 = some o' → (o' = o ∨ TbG ⟨50, 4, 55, 55⟩ "_digits2int.<locals>.inner" g o') → Q (.int (b * 32 + a) t) { s with heap := h', toks := tk }) :
    wpAny (model pw w) A (call (.ref 49) [.ref l, .int 5 u]) Q E s := by
  refine enterC (n := 3) R B k₀ (k₀ _ _ (B.K 49 _ rfl)) (codeRec_of (B.keeps k₀).K (by kernel_rfl)) (binds := [("digits", .ref l), ("n", .int 5 u)]) (BindsTo.of_eq rfl)
    (cls := fun L => [("inner", L + 3), ("n", L + 2), ("digits", L + 1)]) (m₀ := fun _ => none) (cm := Lm.up (Lm.up (fun _ => none) "digits" (.ref l)) "n" (.int 5 u)) (fun _ => rfl) (fun _ => by simp only [List.map]; decide) (fun _ => by simp) ?_ (fun _ => rfl) (fun _ => rfl) rfl rfl rfl ?_
  · intro L x hx
    simp only [List.mem_cons, List.not_mem_nil, or_false] at hx
    rcases hx with rfl | rfl
    · exact .inr ⟨rfl, rfl⟩
    · exact .inr ⟨rfl, rfl⟩
  intro L h₁ A' tk cells hL R' hA' S hC
  obtain ⟨o3, o2, o1, rfl, d3, d2, d1⟩ := hC.three
  clear hC
  replace d1 : o1.data = .cell (some (.ref l)) := d1
  replace d2 : o2.data = .cell (some (.int 5 u)) := d2
  have S := Sm.hid (σ := [(44, o)]) S (fun r hr => by rw [List.mem_singleton.mp hr]; exact h44) (by simp)
  have k₁ : Kp h₀ (hideAll s.heap (([(44, o)] : Lg).map (·.1))) := kp_hide k₀ fun r hr => by rw [List.mem_singleton.mp hr]; exact hn44
  have B₁ := B.keeps k₁
  have CH : CodeHd h₀ 48 44 := ⟨_, _, _, _, _, _, _, _, _, B.K 48 _ rfl, rfl, rfl, rfl, rfl, rfl, rfl, rfl, rfl, by decide⟩
  have CH₁ := CH.keeps k₁
  have hT₁ : TbH ⟨50, 4, 55, 55⟩ "_digits2int.<locals>.inner" (hideAll s.heap (([(44, o)] : Lg).map (·.1))) o := hT.x kpx_hide fun r hr => by rw [List.mem_singleton.mp hr]; exact ⟨h44, hT.nc⟩
  have hl₁ : (hideAll s.heap (([(44, o)] : Lg).map (·.1))).IsList l #[.int a ta, .int b tb] := by
    obtain ⟨ol, e, c, nl, dl⟩ := hl
    refine ⟨ol, hideAll_get _ e (fun z => ?_), c, nl, dl⟩
    rw [List.mem_singleton.mp z, h44] at e
    cases e
    rcases hT with rfl | ⟨c', rfl, _⟩ <;> cases c
  generalize hp : hideAll s.heap (([(44, o)] : Lg).map (·.1)) = p at S k₁ B₁ CH₁ hT₁ hl₁
  have S := (S.perm (List.perm_middle (l₁ := [_, _, _]))).freeze (by omega)
  have S := (S.perm (List.perm_middle (l₁ := [_, _]))).freeze (by omega)
  refine wpAny_execs_cons ?_
  refine nestDef_K rfl rfl rfl ?_
  refine mkS B₁ S CH₁ (hT₁.keeps S.F.keep) (by rfl) rfl rfl ?_
  intro f c' ctv doc pm h₅ tk₅ o' g₁ S hrec ho' hf hg₁
  try dsimp only
  have hM3 := S.M _ (List.Mem.tail _ (List.Mem.head _))
  refine stC S (List.perm_middle (l₁ := [_])) d3 (by omega) rfl (by rfl) (by rfl) fun h₆ o3' d3' S kc => ?_
  try dsimp only
  have hrec₆ : h₆.CodeRec (.ref c') "_digits2int.<locals>.inner" := crX (σ := [(L + 3, o3)]) hrec (fun b y hb e => kc b y (fun z => hb (by rw [z]; exact .head _)) e) fun r hr => by rw [List.mem_singleton.mp hr]; exact ⟨hM3.1, nc_cell d3⟩
  obtain ⟨G, hG, S⟩ := S.named
  have mf := hd2 hG
  have m3 := hd1 hG
  have m2 : (L + 2, o2) ∈ G := by rw [hG]; walk_at "wo mem"
  have m1 : (L + 1, o1) ∈ G := by rw [hG]; walk_at "wo mem"
  have hlK : ∀ {h' : Heap}, Kp p h' → h'.IsList l #[.int a ta, .int b tb] := fun k => by obtain ⟨o, e, r⟩ := hl₁; exact ⟨o, k _ _ e, r⟩
  have base : ∀ {A : Around} {E : Value → Shared → Prop} {s : Shared} {i : Nat} {x : Int} {tx tl tr : Tok} {Q : Value → Shared → Prop}, Rm A 1 → Kp p s.heap → Lv s.heap G → s.heap.CodeRec (.ref c') "_digits2int.<locals>.inner" →
      (#[Value.int a ta, .int b tb] : Array Value)[i]? = some (.int x tx) → i < 2 → (∀ h' tk, Kp s.heap h' → Q (.int x tx) { s with heap := h', toks := tk }) →
      wpAny (model pw w) A (call (.ref f) [.int i tl, .int ((i : Int) + 1) tr]) Q E s := by
    intro A E s i x tx tl tr Q R kp lg hr hx hi hQ
    refine enterU (n := 0) R B₁ kp (lg _ mf) hr (binds := [("L", .int i tl), ("R", .int ((i : Int) + 1) tr)]) (BindsTo.of_eq rfl) (by decide) (locs rfl) rfl rfl rfl ?_
    intro L' h₁ A' tk hL R' hA' F
    simp only [List.foldl_cons, List.foldl_nil, upB] at F
    have S := Sm.init F
    clear F
    refine wpAny_execs_cons ?_
    refine wpAny_If ?_
    refine wpAny_isTrue_Compare1 ?_
    refine wpAny_BinOp ?_
    refine nmS (by assumption) (by walk_at "wo look") ?_ rfl (by rfl) (by decide +kernel)
    refine wpAny_Constant_int ?_
    refine addR _ rfl fun _ _ => ?_
    refine nmS (by assumption) (by walk_at "wo look") ?_ rfl (by rfl) (by decide +kernel)
    refine eq_int ?_
    refine wpAny_truthy_bool ?_
    rw [if_pos (by simp)]
    refine wpAny_execs_cons ?_
    refine wpAny_Return_some ?_
    refine Subscript_ ?_
    refine nmFS (by assumption) (by assumption) (by rfl) (by walk_at "wo mem") (by assumption) ?_ rfl (by rfl) (by decide +kernel) (by decide +kernel)
    refine nmS (by assumption) (by walk_at "wo look") ?_ rfl (by rfl) (by decide +kernel)
    refine subscriptTail_builtin (hlK (kp.trans S.F.keep)).typeIs slot_list_getitem.lookup ?_
    refine wpAny_getItem_list (hlK (kp.trans S.F.keep)) (by omega) (by omega) (by rw [Int.toNat_natCast]; exact hx) ?_
    try dsimp only
    exact hQ _ _ S.F.keep
  have two : ∀ {A : Around} {E : Value → Shared → Prop} {s : Shared} {tl tr : Tok} {Q : Value → Shared → Prop}, Rm A 2 → Kp p s.heap → Lv s.heap G → s.heap.CodeRec (.ref c') "_digits2int.<locals>.inner" →
      (∀ h' tk t, Kp s.heap h' → Q (.int (b * 32 + a) t) { s with heap := h', toks := tk }) →
      wpAny (model pw w) A (call (.ref f) [.int 0 tl, .int 2 tr]) Q E s := by
    intro A E s tl tr Q R kp lg hr hQ
    refine enterU (n := 1) R B₁ kp (lg _ mf) hr (binds := [("L", .int 0 tl), ("R", .int 2 tr)]) (BindsTo.of_eq rfl) (by decide) (locs rfl) rfl rfl rfl ?_
    intro L' h₁ A' tk hL R' hA' F
    simp only [List.foldl_cons, List.foldl_nil, upB] at F
    have S := Sm.init F
    clear F
    refine wpAny_execs_cons ?_
    refine wpAny_If ?_
    refine wpAny_isTrue_Compare1 ?_
    refine wpAny_BinOp ?_
    refine nmS (by assumption) (by walk_at "wo look") ?_ rfl (by rfl) (by decide +kernel)
    refine wpAny_Constant_int ?_
    refine addR 1 rfl fun _ _ => ?_
    refine nmS (by assumption) (by walk_at "wo look") ?_ rfl (by rfl) (by decide +kernel)
    refine eq_int ?_
    refine wpAny_truthy_bool ?_
    rw [if_neg (by decide)]
    refine wpAny_execs_nil ?_
    refine wpAny_execs_cons ?_
    refine wpAny_Assign_Name ?_
    refine wpAny_BinOp ?_
    refine wpAny_BinOp ?_
    refine nmS (by assumption) (by walk_at "wo look") ?_ rfl (by rfl) (by decide +kernel)
    refine nmS (by assumption) (by walk_at "wo look") ?_ rfl (by rfl) (by decide +kernel)
    refine addR 2 rfl fun _ _ => ?_
    refine wpAny_Constant_int ?_
    refine shrR 1 (by decide) (by decide) fun _ _ => ?_
    refine stS S rfl (by rfl) fun h₂ tk₂ S => ?_
    try dsimp only
    refine wpAny_execs_cons ?_
    refine wpAny_Assign_Name ?_
    refine wpAny_BinOp ?_
    refine wpAny_BinOp ?_
    refine nmS (by assumption) (by walk_at "wo look") ?_ rfl (by rfl) (by decide +kernel)
    refine nmS (by assumption) (by walk_at "wo look") ?_ rfl (by rfl) (by decide +kernel)
    refine subR 1 rfl fun _ _ => ?_
    refine nmFS (by assumption) (by assumption) (by rfl) (by walk_at "wo mem") (by assumption) ?_ rfl (by rfl) (by decide +kernel) (by decide +kernel)
    refine mulR 5 rfl (by decide) fun _ _ => ?_
    refine stS S rfl (by rfl) fun h₂ tk₂ S => ?_
    try dsimp only
    refine wpAny_execs_cons ?_
    refine wpAny_Return_some ?_
    refine wpAny_BinOp ?_
    refine wpAny_BinOp ?_
    refine Call_ ?_
    refine nmFS (by assumption) (by assumption) (by rfl) (by walk_at "wo mem") (by assumption) ?_ rfl (by rfl) (by decide +kernel) (by decide +kernel)
    refine cwS (p := s.heap) ⟨_, _, lg _ mf, rfl⟩ ?_
    refine args_cons ?_
    refine nmS (by assumption) (by walk_at "wo look") ?_ rfl (by rfl) (by decide +kernel)
    refine args_cons ?_
    refine nmS (by assumption) (by walk_at "wo look") ?_ rfl (by rfl) (by decide +kernel)
    refine args_nil ?_
    refine ⟨S.F.keep, base (i := 1) R' (kp.trans S.F.keep) (lg.keeps S.F.keep) (hr.keeps S.F.keep) rfl (by decide) fun h₃ tk₃ k₃ => ?_⟩
    try dsimp only
    have S := S.keeps k₃
    refine nmS (by assumption) (by walk_at "wo look") ?_ rfl (by rfl) (by decide +kernel)
    refine shlR (b * 32) (by decide) (by decide) (by omega) (by rw [show (2 : Int) ^ (5 : Int).toNat = 32 from by decide]) fun _ _ => ?_
    refine Call_ ?_
    refine nmFS (by assumption) (by assumption) (by rfl) (by walk_at "wo mem") (by assumption) ?_ rfl (by rfl) (by decide +kernel) (by decide +kernel)
    refine cwS (p := s.heap) ⟨_, _, lg _ mf, rfl⟩ ?_
    refine args_cons ?_
    refine nmS (by assumption) (by walk_at "wo look") ?_ rfl (by rfl) (by decide +kernel)
    refine args_cons ?_
    refine nmS (by assumption) (by walk_at "wo look") ?_ rfl (by rfl) (by decide +kernel)
    refine args_nil ?_
    refine ⟨S.F.keep, base (i := 0) R' (kp.trans S.F.keep) (lg.keeps S.F.keep) (hr.keeps S.F.keep) rfl (by decide) fun h₄ tk₄ k₄ => ?_⟩
    try dsimp only
    have S := S.keeps k₄
    refine addR _ rfl fun _ _ => ?_
    exact hQ _ _ _ S.F.keep
  refine wpAny_execs_cons ?_
  refine wpAny_Return_some ?_
  refine IfExp_ ?_
  refine wpAny_isTrue_value ?_
  refine nmCS (by assumption) (by rfl) (by walk_at "wo mem") (by assumption) ?_ rfl (by rfl) (by decide +kernel)
  refine wpAny_truthy_list (hlK S.F.keep) (by simp) ?_
  rw [if_pos (by rfl)]
  refine Call_ ?_
  refine nmCS (by assumption) (by rfl) (by walk_at "wo mem") (by assumption) ?_ rfl (by rfl) (by decide +kernel)
  refine cwS (p := h₆) ⟨_, _, S.lv _ mf, rfl⟩ ?_
  refine args_cons ?_
  refine wpAny_Constant_int ?_
  refine args_cons ?_
  refine Call_ ?_
  refine nmSB (by assumption) (by assumption) (by kernel_rfl) b_len (by decide +kernel) ?_ rfl rfl rfl (by rfl) (by decide +kernel)
  refine PyProof.Rows.callWith_builtin1 ?_
  refine args_cons ?_
  refine nmCS (by assumption) (by rfl) (by walk_at "wo mem") (by assumption) ?_ rfl (by rfl) (by decide +kernel)
  refine args_nil ?_
  refine call_len_list (hlK S.F.keep) (by simp) ?_
  refine args_nil ?_
  refine ⟨Kp.rfl, two (R'.le) S.F.keep S.lv hrec₆ fun h₇ tk₇ t₇ k₇ => ?_⟩
  try dsimp only
  have S := S.keeps k₇
  refine h h₇ tk₇ t₇ G o' (kpx_of hp.symm S.F.keep) (fun q hq => ⟨(S.G q hq).1, hL ▸ (S.G q hq).2.1⟩) (S.M _ (.head _)).1 (ho'.imp id fun T => T.mono fun q hq => ?_)
  rw [hG]
  exact .tail _ (.tail _ (List.mem_append_left _ hq))

theorem Sm.callX {p h h' : Heap} {n : Nat} {L : Addr} {m : Lm} {μ g g' ω ω' : Lg} (S : Sm p n L h m (ω ++ μ) g) (he : ω'.map (·.1) = ω.map (·.1)) (k : KpX (ω.map (·.1)) h h') (ha : ∀ q ∈ ω', h'.get? q.1 = some q.2)
    (hg : ∀ q ∈ g', h'.get? q.1 = some q.2 ∧ h.objs.size ≤ q.1) : Sm p n L h' m (ω' ++ μ) (g' ++ g) :=
  (S.chgs he k ha).addG fun q hq => ⟨(hg q hq).1, Nat.le_trans S.low (hg q hq).2, fun e => absurd S.lt (Nat.not_lt.mpr (by rw [← e]; exact (hg q hq).2)), fun r hr e => by
    have : r.1 < h.objs.size := by
      rcases List.mem_append.mp hr with hr | hr
      · have : r.1 ∈ ω.map (·.1) := he ▸ mem1 hr rfl
        obtain ⟨z, hz, ez⟩ := List.mem_map.mp this
        have ez' : z.1 = r.1 := ez
        rw [← ez']; exact Heap.lt_size (S.M z (List.mem_append_left _ hz)).1
      · exact Heap.lt_size (S.M r (List.mem_append_right _ hr)).1
    exact absurd this (Nat.not_lt.mpr (by rw [e]; exact (hg q hq).2))⟩

section
variable {w : World} {A : Around} {E : Value → Shared → Prop} {s : Shared} {env : Env} {envs : Addr → Env} {p : Heap} {n : Nat} {L : Addr} {m : Lm} {μ g : Lg} {Q : Value → Shared → Prop}
theorem hd_rev {x : Str} {px : Pos} {I l : Addr} {items : Array Value} (hA : A.handled = none) (hf : Fnk env) (hx : env.kindOf x = some .local) (hIl : l ≠ I) :
    Hd w A env (.Name x px) I items.size (fun i ω => ∃ o, ω = [(I, o)] ∧ (o.cls = .type "list_reverseiterator" ∧ o.data = .fields #[.ref l, rawInt ((items.size : Int) - 1 - i)])) (fun h => h.IsList l items)
      (fun i m m' => ∃ v, items[items.size - 1 - i]? = some v ∧ m' = m.up x v) := by
  refine hd_one hf hx (fun i s o Q E hi ho hI hR hQ => ?_) (fun s o Q E ho hI hR hQ => ?_)
  · have e : (items.size : Int) - 1 - (i : Int) = ((items.size - 1 - i : Nat) : Int) := by omega
    rw [e] at ho
    have hx' : items[items.size - 1 - i]? = some (items[items.size - 1 - i]'(by omega)) := Array.getElem?_eq_getElem (by omega)
    refine wpAny_pyNext_rev_item ⟨o, hI, ho⟩ hR hx' fun h' hit' hs' => ?_
    obtain ⟨o', hI', hc, hd⟩ := hit'
    have e2 : ((items.size - 1 - i : Nat) : Int) - 1 = (items.size : Int) - 1 - ((i + 1 : Nat) : Int) := by omega
    rw [e2] at hd
    exact hQ _ h' s.toks o' hx' ⟨hc, hd⟩ hI' fun b x hb e => hs'.extBut b x hb e
  · rw [show (items.size : Int) - 1 - ((items.size : Nat) : Int) = -1 from by omega] at ho
    exact wpAny_pyNext_rev_end hA ⟨o, hI, ho⟩ fun h' he => hQ h' s.toks fun b x hb e => he b x hb e
end

abbrev tupO (vs : Array Value) : Obj := { cls := .type "tuple", data := .seq vs }
theorem divS {w : World} {A : Around} {E : Value → Shared → Prop} {s : Shared} {p : Heap} {n : Nat} {L : Addr} {m : Lm} {μ g : Lg} {a b : Int} {t u : Tok} {Q : Value → Shared → Prop} (S : Sm p n L s.heap m μ g) (hb : 1 ≤ b ∧ b < 1000)
    (h : ∀ T h' tk t1 t2, Sm p n L h' m μ ((T, tupO #[.int (a / b) t1, .int (a % b) t2]) :: g) → s.heap.objs.size ≤ T → Q (.ref T) { s with heap := h', toks := tk }) :
    wpAny (model pw w) A (call (.builtin "divmod") [.int a t, .int b u]) Q E s := by
  refine divmod_int (by omega) ?_ (.inl (PyProof.noPylong_small (by omega)))
  rw [Int.fdiv_eq_ediv_of_nonneg _ (by omega), Int.fmod_eq_emod_of_nonneg _ (by omega)]
  exact h _ _ _ _ _ S.alG (Nat.le_refl _)
theorem listM {w : World} {A : Around} {E : Value → Shared → Prop} {s : Shared} {p : Heap} {n : Nat} {L : Addr} {m : Lm} {μ g : Lg} {vs : List Value} {Q : Value → Shared → Prop} (S : Sm p n L s.heap m μ g) (hsz : vs.length ≤ sizeLine)
    (h : ∀ a h', Sm p n L h' m ((a, listOf vs.toArray 0) :: μ) g → s.heap.objs.size ≤ a → Q (.ref a) { s with heap := h' }) : wpAny (model pw w) A (newList vs) Q E s :=
  wpAny_newObj_type (h _ _ S.alM (Nat.le_refl _)) (by show vs.toArray.size ≤ sizeLine; rw [List.size_toArray]; exact hsz)
theorem g_DIV {w : World} : nsIn (KK w) mainGlobals "_DIV_LIMIT" = some (some (.int 4000 196)) := by kernel_rfl

theorem bits_le {a : Int} (h : 0 ≤ a ∧ a < 3000) : (Builtin.Int.intBits a : Int) - 5 ≤ 4000 := by
  unfold Builtin.Int.intBits
  split
  · decide
  · have := Nat.log2_le_self a.natAbs
    omega
set_option maxHeartbeats 4000000 in
theorem ct_21 {w : World} {A : Around} {E : Value → Shared → Prop} {s : Shared} {mg mb : Lm} {a b : Int} {ta tb tn : Tok} {Q : Value → Shared → Prop}
    (R : Rm A 2) (B : Bs w mg mb s.heap) (ha : 0 ≤ a ∧ a < 3000) (hb : 1 ≤ b ∧ b < 1000)
    (h : ∀ h' tk T t1 t2, Kp s.heap h' → h'.get? T = some { cls := .type "tuple", data := .seq #[.int (a / b) t1, .int (a % b) t2] } → s.heap.objs.size ≤ T → Q (.ref T) { s with heap := h', toks := tk }) :
    wpAny (model pw w) A (call (.ref 28) [.int a ta, .int b tb, .int 5 tn]) Q E s := by
  refine enterU (n := 1) R B Kp.rfl (B.K 28 _ rfl) (codeRec_of B.K (by kernel_rfl)) (binds := [("a", .int a ta), ("b", .int b tb), ("n", .int 5 tn)]) (BindsTo.of_eq rfl) (by decide) (locs rfl) rfl rfl rfl ?_
  intro L h₁ A' tk hL R' hA' F
  simp only [List.foldl_cons, List.foldl_nil, upB] at F
  have S := Sm.init F
  clear F
  refine wpAny_execs_cons ?_
  refine wpAny_If ?_
  refine wpAny_isTrue_Compare1 ?_
  refine wpAny_BinOp ?_
  refine MethodCall_ ?_
  refine nmS (by assumption) (by walk_at "wo look") ?_ rfl (by rfl) (by decide +kernel)
  refine getMethod_int_bit_length ?_
  refine callWith_method0 ?_
  refine call_int_bit_length ?_
  refine nmS (by assumption) (by walk_at "wo look") ?_ rfl (by rfl) (by decide +kernel)
  refine subR _ rfl fun _ _ => ?_
  refine nmSG B S g_DIV ?_ rfl rfl (by rfl) (by decide +kernel)
  refine P.le_int ?_
  refine wpAny_truthy_bool ?_
  rw [if_pos (by simpa using bits_le ha)]
  refine wpAny_execs_cons ?_
  refine wpAny_Return_some ?_
  refine Call_ ?_
  refine nmSB (by assumption) (by assumption) (by kernel_rfl) b_divmod (by decide +kernel) ?_ rfl rfl rfl (by rfl) (by decide +kernel)
  refine PyProof.Rows.callWith_builtin1 ?_
  refine args_cons ?_
  refine nmS (by assumption) (by walk_at "wo look") ?_ rfl (by rfl) (by decide +kernel)
  refine args_cons ?_
  refine nmS (by assumption) (by walk_at "wo look") ?_ rfl (by rfl) (by decide +kernel)
  refine args_nil ?_
  refine divS S hb fun T h₂ tk₂ t1 t2 S hT => ?_
  exact h _ _ T t1 t2 S.F.keep (S.lv _ (.head _)) (hL ▸ (S.G _ (.head _)).2.1)

abbrev q37 : Str := "_int2digits.<locals>.inner"
abbrev q44 : Str := "_digits2int.<locals>.inner"
abbrev p37 : Pos := ⟨35, 4, 44, 28⟩
abbrev p44 : Pos := ⟨50, 4, 55, 55⟩
noncomputable def dg (k : Nat) (i : Nat) : Nat := if i = 0 then k else 0
noncomputable def rr (k b : Nat) : Nat → Nat
  | 0 => 0
  | i + 1 => (32 * rr k b i + dg k i) % b
noncomputable def qd (k b : Nat) : Nat → List Nat
  | 0 => []
  | i + 1 => qd k b i ++ [(32 * rr k b i + dg k i) / b]
theorem rr_lt (k b : Nat) (hb : 1 ≤ b) (hb2 : b < 32) : ∀ i, rr k b i < 32
  | 0 => by show 0 < 32; decide
  | i + 1 => Nat.lt_trans (Nat.mod_lt _ hb) hb2
theorem qd_len (k b : Nat) : ∀ i, (qd k b i).length = i
  | 0 => rfl
  | i + 1 => by rw [qd, List.length_append, qd_len k b i]; rfl
theorem fin_q : ∀ k : Nat, k < 32 → ∀ b : Nat, b < 32 → 1 ≤ b → (k / b) * 32 + (32 * (k % b)) / b = 32 * k / b ∧ (32 * (k % b)) % b = 32 * k % b := by decide +kernel
theorem bits_b : ∀ b : Nat, b < 32 → 16 ≤ b → (Builtin.Int.intBits (b : Int) : Int) = 5 := by decide +kernel

set_option maxHeartbeats 4000000 in
theorem ct_dp {w : World} {A : Around} {E : Value → Shared → Prop} {s : Shared} {mg mb : Lm} {h₀ : Heap} {k b : Nat} {ta tb : Tok} {o37 o44 : Obj} {Q : Value → Shared → Prop}
    (R : Rm A 6) (B : Bs w mg mb h₀) (k₀ : Kp h₀ s.heap) (hk1 : 1 ≤ k) (hk2 : k < 32) (hb1 : 16 ≤ b) (hb2 : b < 32)
    (h37 : s.heap.get? 37 = some o37) (hT37 : TbH p37 q37 s.heap o37) (hn37 : h₀.get? 37 = none) (h44 : s.heap.get? 44 = some o44) (hT44 : TbH p44 q44 s.heap o44) (hn44 : h₀.get? 44 = none)
    (h : ∀ h' tk T g o37' o44', KpX [37, 44] s.heap h' → (∀ q ∈ g, h'.get? q.1 = some q.2 ∧ s.heap.objs.size ≤ q.1) → h'.get? 37 = some o37' → (o37' = o37 ∨ TbG p37 q37 g o37') → h'.get? 44 = some o44' → (o44' = o44 ∨ TbG p44 q44 g o44') →
      DatIn g (.ref T) (.tuple [.int (32 * k / b : Nat), .int (32 * k % b : Nat)]) → Q (.ref T) { s with heap := h', toks := tk }) :
    wpAny (model pw w) A (call (.ref 56) [.int (32 * (k : Int)) ta, .int b tb]) Q E s := by
  refine enterU (n := 5) R B k₀ (k₀ _ _ (B.K 56 _ rfl)) (codeRec_of (B.keeps k₀).K (by kernel_rfl)) (binds := [("a", .int (32 * (k : Int)) ta), ("b", .int b tb)]) (BindsTo.of_eq rfl) (by decide) (locs rfl) rfl rfl rfl ?_
  intro L h₁ A' tk hL R' hA' F
  simp only [List.foldl_cons, List.foldl_nil, upB] at F
  have hσ : ∀ r ∈ ([(37, o37), (44, o44)] : Lg), s.heap.get? r.1 = some r.2 ∧ NoCode r.2 := fun r hr => by
    simp only [List.mem_cons, List.not_mem_nil, or_false] at hr
    rcases hr with rfl | rfl
    · exact ⟨h37, hT37.nc⟩
    · exact ⟨h44, hT44.nc⟩
  have S := Sm.hide (σ := [(37, o37), (44, o44)]) F (fun r hr => (hσ r hr).1) (by simp)
  have k₁ : Kp h₀ (hideAll s.heap (([(37, o37), (44, o44)] : Lg).map (·.1))) := kp_hide k₀ fun r hr => by
    simp only [List.mem_cons, List.not_mem_nil, or_false] at hr
    rcases hr with rfl | rfl
    · exact hn37
    · exact hn44
  have B₁ := B.keeps k₁
  have hT37₁ := hT37.x (kpx_hide (h := s.heap)) hσ
  have hT44₁ := hT44.x (kpx_hide (h := s.heap)) hσ
  generalize hp : hideAll s.heap (([(37, o37), (44, o44)] : Lg).map (·.1)) = p at S k₁ B₁ hT37₁ hT44₁
  clear F
  refine wpAny_execs_cons ?_
  refine wpAny_Assign_Name ?_
  refine MethodCall_ ?_
  refine nmS (by assumption) (by walk_at "wo look") ?_ rfl (by rfl) (by decide +kernel)
  refine getMethod_int_bit_length ?_
  refine callWith_method0 ?_
  refine call_int_bit_length ?_
  rw [bits_b b hb2 hb1]
  refine stS S rfl (by rfl) fun h₂ tk₂ S => ?_
  try dsimp only
  refine wpAny_execs_cons ?_
  refine wpAny_Assign_Name ?_
  refine Call_ ?_
  refine nmSG (by assumption) (by assumption) g_int2digits ?_ rfl rfl (by rfl) (by decide +kernel)
  refine cwS (fn_int2digits (by assumption)) ?_
  refine args_cons ?_
  refine nmS (by assumption) (by walk_at "wo look") ?_ rfl (by rfl) (by decide +kernel)
  refine args_cons ?_
  refine nmS (by assumption) (by walk_at "wo look") ?_ rfl (by rfl) (by decide +kernel)
  refine args_nil ?_
  have hn37' := (S.M _ (.head _)).2.2
  refine ⟨S.F.keep, ct_i2d (k := k) (R'.le) B₁ S.F.keep hk1 hk2 (S.M _ (.head _)).1 (hT37₁.keeps S.F.keep) hn37' fun h₃ tk₃ d g₃ o37' kx hg₃ h37' ho37 hd₃ => ?_⟩
  try dsimp only
  have S := Sm.callX (ω := [(37, o37)]) (ω' := [(37, o37')]) S rfl kx (fun q hq => by rw [List.mem_singleton.mp hq]; exact h37') hg₃
  refine stS S rfl (by rfl) fun h₄ tk₄ S => ?_
  try dsimp only
  refine wpAny_execs_cons ?_
  refine wpAny_Assign_Name ?_
  refine wpAny_Constant_int ?_
  refine stS S rfl (by rfl) fun h₅ tk₅ S => ?_
  try dsimp only
  refine wpAny_execs_cons ?_
  refine wpAny_Assign_Name ?_
  refine List_ ?_
  refine args_nil ?_
  refine listM S (by walk_at "wo sz") fun D h₅ S2 hD => ?_
  have hLD : L ≤ D := Nat.le_trans S.low hD
  replace S := S2
  refine stS S rfl (by rfl) fun h₆ tk₆ S => ?_
  try dsimp only
  refine wpAny_execs_cons ?_
  refine wpAny_For ?_
  refine Call_ ?_
  refine nmSB (by assumption) (by assumption) (by kernel_rfl) b_reversed (by decide +kernel) ?_ rfl rfl rfl (by rfl) (by decide +kernel)
  refine PyProof.Rows.callWith_type1 ?_
  refine args_cons ?_
  refine nmS (by assumption) (by walk_at "wo look") ?_ rfl (by rfl) (by decide +kernel)
  refine args_nil ?_
  obtain ⟨vs, nn, hmd, hall⟩ := dlist hd₃
  have hvl : vs.length = 2 := by simpa using hall.length
  obtain ⟨v0, v1, rfl⟩ : ∃ v0 v1, vs = [v0, v1] := by
    match vs, hvl with
    | [a, b], _ => exact ⟨a, b, rfl⟩
  obtain ⟨t0, rfl⟩ : ∃ t0, v0 = .int 0 t0 := by cases hall with | cons h r => exact dint h
  obtain ⟨t1, rfl⟩ : ∃ t1, v1 = .int k t1 := by
    cases hall with
    | cons h r =>
      cases r with
      | cons h r => exact dint h
  obtain ⟨G, hG, S⟩ := S.named
  have mdG : (d, listOf #[.int 0 t0, .int k t1] nn) ∈ G := by rw [hG]; exact List.mem_append_left _ hmd
  have ilG : ∀ {h'' : Heap}, Lv h'' G → h''.IsList d #[.int 0 t0, .int k t1] := fun l => ⟨_, l _ mdG, rfl, _, rfl⟩
  refine call_reversed_list (ilG S.lv) ?_
  have hne : d ≠ h₆.objs.size := Nat.ne_of_lt (Heap.lt_size (S.lv _ mdG))
  refine wpAny_pyIter_revIter ⟨_, Heap.get?_push_size _ rfl, rfl, rfl⟩ ?_
  have SI := S.alM (o := revObj d (((#[.int 0 t0, .int k t1] : Array Value).size : Int) - 1))
  refine forH (fun i m μ g => ∃ vs nn, μ = [(D, listOf vs.toArray nn), (37, o37'), (44, o44)] ∧ DatAll [] vs ((qd k b i).map fun x : Nat => Dat.int x) ∧ (∃ t, m "r" = some (.int (rr k b i : Nat) t)) ∧ (∃ t, m "n" = some (.int 5 t)) ∧ m "b" = some (.int b tb) ∧ m "q_digits" = some (.ref D) ∧ ∀ q ∈ G, q ∈ g)
    (hd_rev (l := d) (items := #[.int 0 t0, .int k t1]) R'.h rfl (by rfl) hne) (ω := [_]) ⟨_, rfl, rfl, by simp [revObj]⟩ SI ?_ ?_ ?_ ?_
  · exact ⟨[], 0, rfl, .nil, ⟨_, (by walk_at "wo look" : _ = some (Value.int 0 _))⟩, ⟨_, by walk_at "wo look"⟩, by walk_at "wo look", by walk_at "wo look", fun q hq => hq⟩
  · rintro h' i m' ω' μ' g' ⟨vs, nn, rfl, _, _, _, _, _, hsub⟩ S
    exact ilG fun q hq => S.lv _ (hsub q hq)
  · rintro i m₁ m₂ μ' g' ω' h' tk' hi ⟨vs, nn, rfl, hvs, ⟨tr, mr⟩, ⟨tn, mn⟩, mb', mq, hsub⟩ ⟨v, hv, rfl⟩ S
    obtain ⟨t, rfl⟩ : ∃ t, v = .int (dg k i : Nat) t := by
      have : i = 0 ∨ i = 1 := by simp at hi; omega
      rcases this with rfl | rfl
      · exact ⟨t1, by simpa [dg] using hv.symm⟩
      · exact ⟨t0, by simpa [dg] using hv.symm⟩
    have hr := rr_lt k b (by omega) hb2 i
    have hdg : dg k i < 32 := by unfold dg; split <;> omega
    refine wpAny_execs_cons ?_
    refine Assign_Tuple ?_
    refine Call_ ?_
    refine nmSG (by assumption) (by assumption) g_div2n1n ?_ rfl rfl (by rfl) (by decide +kernel)
    refine cwS (fn_div2n1n (by assumption)) ?_
    refine args_cons ?_
    refine wpAny_BinOp ?_
    refine wpAny_BinOp ?_
    refine nmS (by assumption) (by walk_at "wo look") ?_ rfl (by rfl) (by decide +kernel)
    refine nmS (by assumption) (by walk_at "wo look") ?_ rfl (by rfl) (by decide +kernel)
    refine shlR (32 * (rr k b i : Nat)) (by decide) (by decide) (by omega) (by rw [show (2 : Int) ^ (5 : Int).toNat = 32 from by decide]; omega) fun _ _ => ?_
    refine nmS (by assumption) (by walk_at "wo look") ?_ rfl (by rfl) (by decide +kernel)
    refine addR _ rfl fun _ _ => ?_
    refine args_cons ?_
    refine nmS (by assumption) (by walk_at "wo look") ?_ rfl (by rfl) (by decide +kernel)
    refine args_cons ?_
    refine nmS (by assumption) (by walk_at "wo look") ?_ rfl (by rfl) (by decide +kernel)
    refine args_nil ?_
    refine ⟨S.F.keep, ct_21 (R'.le) (B₁.keeps S.F.keep) (by omega) (by omega) fun h₇ tk₇ T t2 t3 k₇ hT hTs => ?_⟩
    try dsimp only
    have S := S.keeps k₇
    have ea : (32 * ((rr k b i : Nat) : Int) + ((dg k i : Nat) : Int)) / (b : Int) = (((32 * rr k b i + dg k i) / b : Nat) : Int) := by push_cast; rfl
    have em : (32 * ((rr k b i : Nat) : Int) + ((dg k i : Nat) : Int)) % (b : Int) = (((32 * rr k b i + dg k i) % b : Nat) : Int) := by push_cast; rfl
    rw [ea, em] at hT
    refine asg2 (n := L) R'.h rfl (by rfl) (by rfl) ⟨_, hT, rfl, _, rfl⟩ S fun h₈ tk₈ S => ?_
    try dsimp only
    refine wpAny_execs_cons ?_
    refine wpAny_Expr_any ?_
    refine MethodCall_ ?_
    refine nmS (by assumption) (by walk_at "wo look") ?_ rfl (by rfl) (by decide +kernel)
    refine lmeth (S.M _ (List.mem_append_right _ (.head _))).1 PySem.F.slot_list_append PySem.F.type_list_append ?_
    refine callWith_method1 ?_
    refine args_cons ?_
    refine nmS (by assumption) (by walk_at "wo look") ?_ rfl (by rfl) (by decide +kernel)
    refine args_nil ?_
    try dsimp only [List.cons_append, List.nil_append]
    refine appS (S.perm List.perm_middle) (by have := hvs.length; simp [qd_len] at this; rw [sizeLine_eq]; simp at hi; omega) fun h₉ n₉ S _ => ?_
    refine wpAny_execs_nil ?_
    try dsimp only
    refine ⟨.inl rfl, _, _, _, _, _, rfl, S.perm List.perm_middle.symm, _, _, rfl, ?_, ⟨t3, up_hit⟩, ⟨tn, by walk_at "wo look"⟩, by walk_at "wo look", by walk_at "wo look", hsub⟩
    show DatAll [] (vs ++ [_]) ((qd k b i ++ [_]).map _)
    rw [List.map_append]
    exact hvs.append (.one (.int _ _))
  · rintro m' μ' g' h' tk' ⟨vs, nn, rfl, hvs, ⟨tr, mr⟩, ⟨tn, mn⟩, mb', mq, hsub⟩ S
    try dsimp only
    refine wpAny_execs_cons ?_
    refine wpAny_Expr_any ?_
    refine MethodCall_ ?_
    refine nmS (by assumption) (by walk_at "wo look") ?_ rfl (by rfl) (by decide +kernel)
    refine lmeth (S.M _ (.head _)).1 PySem.F.slot_list_reverse PySem.F.type_list_reverse ?_
    refine callWith_method0 ?_
    refine revS S (by have := hvs.length; simp [qd_len] at this; rw [sizeLine_eq]; omega) fun h₇ n₇ S => ?_
    try dsimp only
    obtain ⟨z0, z1, rfl⟩ : ∃ z0 z1, vs = [z0, z1] := by
      have hl : vs.length = 2 := by have := hvs.length; simp [qd_len] at this; omega
      match vs, hl with
      | [a, b], _ => exact ⟨a, b, rfl⟩
    have e2 : qd k b 2 = [k / b, 32 * (k % b) / b] := by simp [qd, rr, dg]
    have e3 : rr k b 2 = (32 * (k % b)) % b := by simp [rr, dg]
    have mr' : m' "r" = some (.int (rr k b 2 : Nat) tr) := mr
    have hvs' : DatAll [] [z0, z1] ((qd k b 2).map fun x : Nat => Dat.int x) := hvs
    rw [e2] at hvs'
    rw [e3] at mr'
    obtain ⟨s0, rfl⟩ : ∃ s0, z0 = .int (k / b : Nat) s0 := by cases hvs' with | cons h r => exact dint h
    obtain ⟨s1, rfl⟩ : ∃ s1, z1 = .int (32 * (k % b) / b : Nat) s1 := by
      cases hvs' with
      | cons h r =>
        cases r with
        | cons h r => exact dint h
    have nb : ∀ x : Nat, x < 1024 → 0 ≤ (x : Int) ∧ (x : Int) < 1000000 := fun x hx => by omega
    have hk3 : k / b < 32 := Nat.lt_of_le_of_lt (Nat.div_le_self _ _) hk2
    have hk4 : 32 * (k % b) / b < 1024 := by
      have := Nat.mod_lt k (show 0 < b by omega)
      exact Nat.lt_of_le_of_lt (Nat.div_le_self _ _) (by omega)
    refine wpAny_execs_cons ?_
    refine wpAny_Assign_Name ?_
    refine Call_ ?_
    refine nmSG (by assumption) (by assumption) g_digits2int ?_ rfl rfl (by rfl) (by decide +kernel)
    refine cwS (fn_digits2int (by assumption)) ?_
    refine args_cons ?_
    refine nmS (by assumption) (by walk_at "wo look") ?_ rfl (by rfl) (by decide +kernel)
    refine args_cons ?_
    refine nmS (by assumption) (by walk_at "wo look") ?_ rfl (by rfl) (by decide +kernel)
    refine args_nil ?_
    refine ⟨S.F.keep, ct_d2i (R'.le) B₁ S.F.keep (nb _ hk4) (nb _ (Nat.lt_trans hk3 (by decide))) ⟨_, (S.M _ (.head _)).1, rfl, _, rfl⟩ (S.M _ (.tail _ (.tail _ (.head _)))).1 (hT44₁.keeps S.F.keep) (S.M _ (.tail _ (.tail _ (.head _)))).2.2 fun h₈ tk₈ t₈ g₈ o44' kx hg₈ h44' ho44 => ?_⟩
    try dsimp only
    have S := Sm.callX (ω := [(44, o44)]) (ω' := [(44, o44')]) (S.perm (List.perm_middle (l₁ := [_, _]))) rfl kx (fun q hq => by rw [List.mem_singleton.mp hq]; exact h44') hg₈
    have fq := fin_q k hk2 b hb2 (by omega)
    rw [show (((k / b : Nat) : Int) * 32 + ((32 * (k % b) / b : Nat) : Int)) = ((32 * k / b : Nat) : Int) from by rw [← fq.1]; push_cast; rfl]
    refine stS S rfl (by rfl) fun h₉ tk₉ S => ?_
    try dsimp only
    rw [fq.2] at mr'
    clear mr
    refine wpAny_execs_cons ?_
    refine wpAny_Return_some ?_
    refine Tuple_ ?_
    refine args_cons ?_
    refine nmS (by assumption) (by walk_at "wo look") ?_ rfl (by rfl) (by decide +kernel)
    refine args_cons ?_
    refine nmS (by assumption) (by walk_at "wo look") ?_ rfl (by rfl) (by decide +kernel)
    refine args_nil ?_
    refine tupS S (by walk_at "wo sz") fun T h₁₀ S hT k => ?_
    try dsimp only
    refine h _ _ T _ o37' o44' (kpx_of hp.symm S.F.keep) (fun q hq => ⟨(S.G q hq).1, hL ▸ (S.G q hq).2.1⟩) (S.M _ (.tail _ (.tail _ (.head _)))).1 (ho37.imp id fun T => T.mono fun q hq => ?_) (S.M _ (.head _)).1 (ho44.imp id fun T => T.mono fun q hq => ?_) (.tuple (.head _) (.cons (.int _ _) (.cons (.int _ _) .nil)))
    · exact .tail _ (List.mem_append_right _ (hsub _ (hG ▸ List.mem_append_left _ hq)))
    · exact .tail _ (List.mem_append_left _ hq)

set_option maxHeartbeats 4000000 in
theorem ct_imp {w : World} {A : Around} {E : Value → Shared → Prop} {s : Shared} {mg mb : Lm} {h₀ : Heap} {k b : Nat} {x y : Int} {ta tb : Tok} {o37 o44 : Obj} {Q : Value → Shared → Prop}
    (R : Rm A 7) (B : Bs w mg mb h₀) (k₀ : Kp h₀ s.heap) (hk1 : 1 ≤ k) (hk2 : k < 32) (hb1 : 16 ≤ b) (hb2 : b < 32) (hx : x = 32 * (k : Int)) (hy : y = b)
    (h37 : s.heap.get? 37 = some o37) (hT37 : TbH p37 q37 s.heap o37) (hn37 : h₀.get? 37 = none) (h44 : s.heap.get? 44 = some o44) (hT44 : TbH p44 q44 s.heap o44) (hn44 : h₀.get? 44 = none)
    (h : ∀ h' tk T g o37' o44', KpX [37, 44] s.heap h' → (∀ q ∈ g, h'.get? q.1 = some q.2 ∧ s.heap.objs.size ≤ q.1) → h'.get? 37 = some o37' → (o37' = o37 ∨ TbG p37 q37 g o37') → h'.get? 44 = some o44' → (o44' = o44 ∨ TbG p44 q44 g o44') →
      DatIn g (.ref T) (.tuple [.int (32 * k / b : Nat), .int (32 * k % b : Nat)]) → Q (.ref T) { s with heap := h', toks := tk }) :
    wpAny (model pw w) A (call (.ref 63) [.int x ta, .int y tb]) Q E s := by
  refine enterU (n := 6) R B k₀ (k₀ _ _ (B.K 63 _ rfl)) (codeRec_of (B.keeps k₀).K (by kernel_rfl)) (binds := [("a", .int x ta), ("b", .int y tb)]) (BindsTo.of_eq rfl) (by decide) (locs rfl) rfl rfl rfl ?_
  intro L h₁ A' tk hL R' hA' F
  simp only [List.foldl_cons, List.foldl_nil, upB] at F
  have hσ : ∀ r ∈ ([(37, o37), (44, o44)] : Lg), s.heap.get? r.1 = some r.2 ∧ NoCode r.2 := fun r hr => by
    simp only [List.mem_cons, List.not_mem_nil, or_false] at hr
    rcases hr with rfl | rfl
    · exact ⟨h37, hT37.nc⟩
    · exact ⟨h44, hT44.nc⟩
  have S := Sm.hide (σ := [(37, o37), (44, o44)]) F (fun r hr => (hσ r hr).1) (by simp)
  have k₁ : Kp h₀ (hideAll s.heap (([(37, o37), (44, o44)] : Lg).map (·.1))) := kp_hide k₀ fun r hr => by
    simp only [List.mem_cons, List.not_mem_nil, or_false] at hr
    rcases hr with rfl | rfl
    · exact hn37
    · exact hn44
  have B₁ := B.keeps k₁
  have hT37₁ := hT37.x (kpx_hide (h := s.heap)) hσ
  have hT44₁ := hT44.x (kpx_hide (h := s.heap)) hσ
  generalize hp : hideAll s.heap (([(37, o37), (44, o44)] : Lg).map (·.1)) = p at S k₁ B₁ hT37₁ hT44₁
  clear F
  have hn37' := (S.M _ (.head _)).2.2
  have hn44' := (S.M _ (.tail _ (.head _))).2.2
  refine wpAny_execs_cons ?_
  refine wpAny_If ?_
  refine wpAny_isTrue_Compare1 ?_
  refine nmS (by assumption) (by walk_at "wo look") ?_ rfl (by rfl) (by decide +kernel)
  refine wpAny_Constant_int ?_
  refine eq_int ?_
  refine wpAny_truthy_bool ?_
  rw [if_neg (by simp; omega)]
  refine wpAny_execs_cons ?_
  refine wpAny_If ?_
  refine wpAny_isTrue_Compare1 ?_
  refine nmS (by assumption) (by walk_at "wo look") ?_ rfl (by rfl) (by decide +kernel)
  refine wpAny_Constant_int ?_
  refine lt_int ?_
  refine wpAny_truthy_bool ?_
  rw [if_neg (by simp; omega)]
  refine wpAny_execs_cons ?_
  refine wpAny_If ?_
  refine wpAny_isTrue_Compare1 ?_
  refine nmS (by assumption) (by walk_at "wo look") ?_ rfl (by rfl) (by decide +kernel)
  refine wpAny_Constant_int ?_
  refine lt_int ?_
  refine wpAny_truthy_bool ?_
  rw [if_neg (by simp; omega)]
  refine wpAny_execs_cons ?_
  refine wpAny_Return_some ?_
  refine Call_ ?_
  refine nmSG (by assumption) (by assumption) g_divmod_pos ?_ rfl rfl (by rfl) (by decide +kernel)
  refine cwS (fn_divmod_pos (by assumption)) ?_
  refine args_cons ?_
  refine nmS (by assumption) (by walk_at "wo look") ?_ rfl (by rfl) (by decide +kernel)
  refine args_cons ?_
  refine nmS (by assumption) (by walk_at "wo look") ?_ rfl (by rfl) (by decide +kernel)
  refine args_nil ?_
  subst hx hy
  refine ⟨S.F.keep, ct_dp R' B₁ S.F.keep hk1 hk2 hb1 hb2 (S.M _ (.head _)).1 (hT37₁.keeps S.F.keep) hn37' (S.M _ (.tail _ (.head _))).1 (hT44₁.keeps S.F.keep) hn44' fun h₃ tk₃ T g₃ o37' o44' kx hg₃ a1 a2 a3 a4 hd => ?_⟩
  try dsimp only
  have S := Sm.callX (ω := [(37, o37), (44, o44)]) (ω' := [(37, o37'), (44, o44')]) (μ := []) S rfl kx (fun q hq => by
    simp only [List.mem_cons, List.not_mem_nil, or_false] at hq
    rcases hq with rfl | rfl
    · exact a1
    · exact a3) hg₃
  exact h _ _ T _ o37' o44' (kpx_of hp.symm S.F.keep) (fun q hq => ⟨(S.G q hq).1, hL ▸ (S.G q hq).2.1⟩) a1 (a2.imp id fun T => T.mono fun q hq => List.mem_append_left _ hq) a3 (a4.imp id fun T => T.mono fun q hq => List.mem_append_left _ hq) (hd.mono fun q hq => List.mem_append_left _ hq)

set_option maxHeartbeats 4000000 in
theorem ct_imn {w : World} {A : Around} {E : Value → Shared → Prop} {s : Shared} {mg mb : Lm} {h₀ : Heap} {k b : Nat} {x y : Int} {ta tb : Tok} {o37 o44 : Obj} {Q : Value → Shared → Prop}
    (R : Rm A 8) (B : Bs w mg mb h₀) (k₀ : Kp h₀ s.heap) (hk1 : 1 ≤ k) (hk2 : k < 32) (hb1 : 16 ≤ b) (hb2 : b < 32) (hx : x = -(32 * (k : Int))) (hy : y = -(b : Int))
    (h37 : s.heap.get? 37 = some o37) (hT37 : TbH p37 q37 s.heap o37) (hn37 : h₀.get? 37 = none) (h44 : s.heap.get? 44 = some o44) (hT44 : TbH p44 q44 s.heap o44) (hn44 : h₀.get? 44 = none)
    (h : ∀ h' tk T g o37' o44', KpX [37, 44] s.heap h' → (∀ q ∈ g, h'.get? q.1 = some q.2 ∧ s.heap.objs.size ≤ q.1) → h'.get? 37 = some o37' → (o37' = o37 ∨ TbG p37 q37 g o37') → h'.get? 44 = some o44' → (o44' = o44 ∨ TbG p44 q44 g o44') →
      DatIn g (.ref T) (.tuple [.int (32 * k / b : Nat), .int (-((32 * k % b : Nat) : Int))]) → Q (.ref T) { s with heap := h', toks := tk }) :
    wpAny (model pw w) A (call (.ref 63) [.int x ta, .int y tb]) Q E s := by
  refine enterU (n := 7) R B k₀ (k₀ _ _ (B.K 63 _ rfl)) (codeRec_of (B.keeps k₀).K (by kernel_rfl)) (binds := [("a", .int x ta), ("b", .int y tb)]) (BindsTo.of_eq rfl) (by decide) (locs rfl) rfl rfl rfl ?_
  intro L h₁ A' tk hL R' hA' F
  simp only [List.foldl_cons, List.foldl_nil, upB] at F
  have hσ : ∀ r ∈ ([(37, o37), (44, o44)] : Lg), s.heap.get? r.1 = some r.2 ∧ NoCode r.2 := fun r hr => by
    simp only [List.mem_cons, List.not_mem_nil, or_false] at hr
    rcases hr with rfl | rfl
    · exact ⟨h37, hT37.nc⟩
    · exact ⟨h44, hT44.nc⟩
  have S := Sm.hide (σ := [(37, o37), (44, o44)]) F (fun r hr => (hσ r hr).1) (by simp)
  have k₁ : Kp h₀ (hideAll s.heap (([(37, o37), (44, o44)] : Lg).map (·.1))) := kp_hide k₀ fun r hr => by
    simp only [List.mem_cons, List.not_mem_nil, or_false] at hr
    rcases hr with rfl | rfl
    · exact hn37
    · exact hn44
  have B₁ := B.keeps k₁
  have hT37₁ := hT37.x (kpx_hide (h := s.heap)) hσ
  have hT44₁ := hT44.x (kpx_hide (h := s.heap)) hσ
  generalize hp : hideAll s.heap (([(37, o37), (44, o44)] : Lg).map (·.1)) = p at S k₁ B₁ hT37₁ hT44₁
  clear F
  have hn37' := (S.M _ (.head _)).2.2
  have hn44' := (S.M _ (.tail _ (.head _))).2.2
  refine wpAny_execs_cons ?_
  refine wpAny_If ?_
  refine wpAny_isTrue_Compare1 ?_
  refine nmS (by assumption) (by walk_at "wo look") ?_ rfl (by rfl) (by decide +kernel)
  refine wpAny_Constant_int ?_
  refine eq_int ?_
  refine wpAny_truthy_bool ?_
  rw [if_neg (by simp; omega)]
  refine wpAny_execs_cons ?_
  refine wpAny_If ?_
  refine wpAny_isTrue_Compare1 ?_
  refine nmS (by assumption) (by walk_at "wo look") ?_ rfl (by rfl) (by decide +kernel)
  refine wpAny_Constant_int ?_
  refine lt_int ?_
  refine wpAny_truthy_bool ?_
  rw [if_pos (by simp; omega)]
  refine wpAny_execs_cons ?_
  refine Assign_Tuple ?_
  refine Call_ ?_
  refine nmSG (by assumption) (by assumption) g_int_divmod ?_ rfl rfl (by rfl) (by decide +kernel)
  refine cwS (fn_int_divmod (by assumption)) ?_
  refine args_cons ?_
  refine wpAny_UnaryOp ?_
  refine nmS (by assumption) (by walk_at "wo look") ?_ rfl (by rfl) (by decide +kernel)
  refine P.neg_int ?_
  refine args_cons ?_
  refine wpAny_UnaryOp ?_
  refine nmS (by assumption) (by walk_at "wo look") ?_ rfl (by rfl) (by decide +kernel)
  refine P.neg_int ?_
  refine args_nil ?_
  refine ⟨S.F.keep, ct_imp R' B₁ S.F.keep hk1 hk2 hb1 hb2 (by omega) (by omega) (S.M _ (.head _)).1 (hT37₁.keeps S.F.keep) hn37' (S.M _ (.tail _ (.head _))).1 (hT44₁.keeps S.F.keep) hn44' fun h₃ tk₃ T g₃ o37' o44' kx hg₃ a1 a2 a3 a4 hd => ?_⟩
  try dsimp only
  have S := Sm.callX (ω := [(37, o37), (44, o44)]) (ω' := [(37, o37'), (44, o44')]) (μ := []) S rfl kx (fun q hq => by
    simp only [List.mem_cons, List.not_mem_nil, or_false] at hq
    rcases hq with rfl | rfl
    · exact a1
    · exact a3) hg₃
  obtain ⟨vs, nn, hm, hall⟩ := dtup hd
  obtain ⟨v0, v1, rfl⟩ : ∃ v0 v1, vs = [v0, v1] := by
    have hl : vs.length = 2 := by simpa using hall.length
    match vs, hl with
    | [a, b], _ => exact ⟨a, b, rfl⟩
  obtain ⟨s0, rfl⟩ : ∃ s0, v0 = .int (32 * k / b : Nat) s0 := by cases hall with | cons h r => exact dint h
  obtain ⟨s1, rfl⟩ : ∃ s1, v1 = .int (32 * k % b : Nat) s1 := by
    cases hall with
    | cons h r =>
      cases r with
      | cons h r => exact dint h
  refine asg2 (n := L) R'.h rfl (by rfl) (by rfl) ⟨_, S.lv _ (List.mem_append_left _ hm), rfl, _, rfl⟩ S fun h₈ tk₈ S => ?_
  try dsimp only
  refine wpAny_execs_cons ?_
  refine wpAny_Return_some ?_
  refine Tuple_ ?_
  refine args_cons ?_
  refine nmS (by assumption) (by walk_at "wo look") ?_ rfl (by rfl) (by decide +kernel)
  refine args_cons ?_
  refine wpAny_UnaryOp ?_
  refine nmS (by assumption) (by walk_at "wo look") ?_ rfl (by rfl) (by decide +kernel)
  refine P.neg_int ?_
  refine args_nil ?_
  refine tupS S (by walk_at "wo sz") fun T h₁₀ S hT k => ?_
  try dsimp only
  refine h _ _ T _ o37' o44' (kpx_of hp.symm S.F.keep) (fun q hq => ⟨(S.G q hq).1, hL ▸ (S.G q hq).2.1⟩) (S.M _ (.head _)).1 (a2.imp id fun T => T.mono fun q hq => .tail _ (List.mem_append_left _ hq)) (S.M _ (.tail _ (.head _))).1 (a4.imp id fun T => T.mono fun q hq => .tail _ (List.mem_append_left _ hq)) (.tuple (.head _) (.cons (.int _ _) (.cons (.int _ _) .nil)))

section
variable {w : World} {M : Model} {h : Heap} {mg mb : Lm}
noncomputable def accMro : List Value := [.ref 170, .type "list", .type "object"]
theorem acc_cls (w : World) : ∃ cd, clsIn (KK w) 170 = some cd ∧ cd.mro = accMro ∧ cd.hasDict = true ∧ cd.abstract = false ∧ cd.hasDel = false := ⟨_, rfl, rfl, rfl, rfl, rfl⟩
theorem acc_mro (X : (KK w).In h) : Looks M h (mroOf (.ref 170)) accMro := by
  obtain ⟨cd, hc, hm, _⟩ := acc_cls w
  exact hm ▸ (looks_clsIn X hc).andThen .now
theorem acc_made (X : (KK w).In h) : Looks M h (Bind.madeBy (.ref 170)) (some "list.__new__") := by
  intro A Q E s k q
  unfold Bind.madeBy
  refine wpAny_bind (acc_mro X A _ E s k ?_)
  unfold accMro
  rw [List.forIn_cons]
  refine wpAny_bind (wpAny_bind (wpAny_bind (wpAny_bind (wpAny_loadPart (k _ _ (X 170 _ rfl)) (wpAny_pure ?_)))))
  exact wpAny_pure (wpAny_pure (wpAny_pure q))
theorem acc_base (X : (KK w).In h) : Looks M h (Bind.staticBase (.ref 170)) (.ref 170) := by
  intro A Q E s k q
  unfold Bind.staticBase
  refine wpAny_bind (acc_mro X A _ E s k ?_)
  unfold accMro
  rw [List.forIn_cons]
  exact wpAny_bind (wpAny_bind (wpAny_bind (acc_made X A _ E s k (wpAny_pure (wpAny_pure (wpAny_pure q))))))
theorem acc_sub (X : (KK w).In h) {b : Value} (hb : accMro.contains b = true) : Looks M h (isSubtype (.ref 170) b) true := by
  obtain ⟨cd, hc, hm, _⟩ := acc_cls w
  refine looks_mroIn X ?_
  unfold mroIn
  rw [hc, Option.bind_some, hm, hb]
  rfl
end

abbrev accO (dx : Addr) (vs : List Value) (n : Nat) : Obj := { cls := .ref 170, dict := some dx, data := .seq vs.toArray n }

section
variable {w : World} {A : Around} {R : Result → Shared → Prop} {h : Heap} {g : Array GenState} {d : Drawn} {t : Nat} {os : OsState}
theorem sigL : argsOk "list.__new__" ⟨[.ref 170], []⟩ := by unfold argsOk; kernel_rfl
theorem acc_new (X : (KK w).In h) 
    (hq : R (.ok (.ret (.ref (h.objs.size + 1)))) ⟨(h.push emptyDict).push (accO h.objs.size [] 0), g, d, t, os⟩) :
    codeAny (model pw w) A (.call (.builtin "list.__new__") ⟨[.ref 170], []⟩) R ⟨h, g, d, t, os⟩ := by
  have made := acc_made (M := model pw w) X
  have base := acc_base (M := model pw w) X
  have self := acc_sub (M := model pw w) X (b := .type "list") rfl
  refine codeAny_call_builtin_code (Code.quiet_builtin _ (by decide +kernel)) ?_
  have k1 : builtinKind "list.__new__" = some .builtinFn := by decide +kernel
  have k2 : splitId "list.__new__" = some ("list", "__new__") := by decide +kernel
  have k4 := sigL
  have ty : Looks (model pw w) h (isType (.ref 170)) true := fun A Q E s k q => ks_wpAny_isType_cls (h := s.heap) (g := s.gens) (d := s.drawn) (t := s.toks) (os := s.os) (k _ _ (X 170 _ rfl)) rfl q
  simp only [checkBuiltinCall, k1, k2]
  have fin : codeAny (model pw w) A (.builtin "list.__new__" ⟨[.ref 170], []⟩) R ⟨h, g, d, t, os⟩ := by
    refine codeAny_builtin_stack F.entry_list_new rfl fun p st => ?_
    rw [Around.under_plainId F.plain_list_new _]
    have hown := owner_list_new
    simp only [hown]
    repeat (first | simp only [bne_self_eq_false, Bool.false_eq_true, if_false, beq_self_eq_true, if_true, Bool.not_true] | lk)
    refine nd_load (Heap.get?_push_of_some _ (Heap.get?_push_of_some _ (X 170 _ rfl))) ?_
    refine nd_pure ?_
    refine wpAny_pure ?_
    rw [if_neg (by decide)]
    refine wpAny_pure (wpAny_pure ?_)
    rw [Heap.size_push]
    exact hq
  cases hs : Manifest.signature? "list.__new__" with
  | none =>
    repeat (first | simp only [bne_self_eq_false, Bool.false_eq_true, if_false, beq_self_eq_true, if_true, Bool.not_true] | lk)
    exact fin
  | some sg =>
    simp only [argsOk, hs] at k4
    have h2 : Bind.checkArgs "list.__new__" sg ⟨[.ref 170], []⟩ = pure () := k4
    simp only [h2]
    repeat (first | simp only [bne_self_eq_false, Bool.false_eq_true, if_false, beq_self_eq_true, if_true, Bool.not_true] | lk)
    exact fin

theorem acc_make (X : (KK w).In h)
    (hq : codeAny (model pw w) (A.under (.builtin "type.__call__" ⟨[.ref 170], []⟩)) (.call (.ref 107) ⟨[.ref (h.objs.size + 1)], []⟩) (InitBack (h.objs.size + 1) R) ⟨(h.push emptyDict).push (accO h.objs.size [] 0), g, d, t, os⟩) :
    codeAny (model pw w) A (.call (.ref 170) ⟨[], []⟩) R ⟨h, g, d, t, os⟩ := by
  have made := acc_made (M := model pw w) X
  have self := acc_sub (M := model pw w) X (b := .ref 170) rfl
  have hm := acc_mro (M := model pw w) X
  have call : Looks (model pw w) h (specialOf (.ref 170) "__call__") (some (.builtin "type.__call__")) := looks_specialIn X (by kernel_rfl)
  have typ : Looks (model pw w) h (isInstance (.ref 170) (.type "type")) true := looks_instIn X (by kernel_rfl)
  have hi : Looks (model pw w) h (typeLookup (.ref 170) "__init__") (some (.ref 107)) := looks_findIn X (by kernel_rfl)
  have hb : ∀ self, Looks (model pw w) h (bindSpecial (.ref 107) self) (.ref 107, [self]) := fun self => bind_fn X self (by kernel_rfl)
  refine codeAny_of_tree ?_
  show wpAny _ _ (callAny (.ref 170) _) _ _ _
  refine nd_load (X 170 _ rfl) ?_
  show wpAny _ _ (callAny.viaDunder (.ref 170) _) _ _ _
  unfold callAny.viaDunder
  refine wpAny_bind (call.at ?_)
  dsimp only
  rw [tc_bind]
  refine wpAny_bind (wpAny_pure (wpAny_bind (wpAny_pure ?_)))
  refine wpAny_pure (a := Fin.again (.call (.builtin "type.__call__") ⟨.ref 170 :: [], []⟩)) (And.intro rfl ?_)
  refine codeAny_call_builtin_at (Code.quiet_builtin _ (by decide +kernel)) entry_typeCall (check_slot tc_kind tc_split typ (tc_args _ _ _) ?_)
  unfold Builtin.«type.__call__»
  have e4 : accMro.isEmpty = false := rfl
  repeat (first | simp only [e4, Bool.false_eq_true, if_false] | with_reducible refine wpAny_call ?_ | lk)
  refine acc_new X ?_
  have k : ∀ b o, h.get? b = some o → ((h.push emptyDict).push (accO h.objs.size [] 0)).get? b = some o := fun b o e => Heap.get?_push_of_some _ (Heap.get?_push_of_some _ e)
  have hx : ((h.push emptyDict).push (accO h.objs.size [] 0)).get? (h.objs.size + 1) = some (accO h.objs.size [] 0) := by
    have := Heap.get?_push_size (o := accO h.objs.size [] 0) (h.push emptyDict) rfl
    rwa [Heap.size_push] at this
  have t1 : Looks (model pw w) ((h.push emptyDict).push (accO h.objs.size [] 0)) (typeOf (.ref (h.objs.size + 1))) (.ref 170) := (Looks.ld hx).andThen .now
  have s1 := self.keeps k
  have i1 := hi.keeps k
  have b1 := (hb (.ref (h.objs.size + 1))).keeps k
  unfold isInstance callSpecial? specialOf
  repeat (first | with_reducible refine wpAny_call ?_ | lk)
  refine codeAny_mono hq fun r s' z => ?_
  rcases r with e | (v | _ | _ | _) <;> first | exact z | exact z.elim | skip
  obtain ⟨rfl, z⟩ := z
  exact wpAny_pure (wpAny_pure z)
end
theorem Rm.mk170 {A : Around} {n : Nat} (R : Rm A (n + 1)) : Rm (A.under (.builtin "type.__call__" ⟨[.ref 170], []⟩)) n := by
  have h1 : (Code.builtin "type.__call__" ⟨[.ref 170], []⟩).weight ≤ 1 := by decide +kernel
  have h2 : (Code.builtin "type.__call__" ⟨[.ref 170], []⟩).cUnits ≤ 12 := by decide +kernel
  refine ⟨R.h, ?_, ?_⟩
  · have := R.d
    show A.depth + (Code.builtin "type.__call__" ⟨[.ref 170], []⟩).weight + n < 900
    omega
  · have := R.u
    show A.units + (Code.builtin "type.__call__" ⟨[.ref 170], []⟩).cUnits + 12 * n < 9000
    omega

noncomputable def DctOk (o : Obj) : Prop := ∃ e n t, o = dictOf [e] n ∧ e.key = .str "_initial_size" t

section
variable {w : World} {A : Around} {R : Result → Shared → Prop} {E : Value → Shared → Prop} {s : Shared}
theorem refuse_list (self : Value) : refuseLoop self "__setattr__" accMro = pure () := by
  unfold accMro
  rw [refuseLoop_ref]
  kernel_rfl

theorem acc_inst {h : Heap} {x dx : Addr} {vs : List Value} {n : Nat} {od : Obj} (hx : h.get? x = some (accO dx vs n)) (hd : h.get? dx = some od) : InstAt h x (accO dx vs n) 170 (some od) := ⟨hx, rfl, rfl, hd⟩

theorem acc_osa {x dx : Addr} {vs : List Value} {n : Nat} {tk : Tok} {v : Value} (X : (KK w).In s.heap) (hx : s.heap.get? x = some (accO dx vs n)) (hd : s.heap.get? dx = some emptyDict)
    (h : ∀ h' tk od', DctOk od' → h'.get? dx = some od' → (∀ b o, b ≠ dx → s.heap.get? b = some o → h'.get? b = some o) → R (.ok (.ret .none)) { s with heap := h', toks := tk }) :
    codeAny (model pw w) A (.call (.builtin "object.__setattr__") ⟨[.ref x, .str "_initial_size" tk, v], []⟩) R s := by
  have SF := PySem.F.store_object
  have I := acc_inst hx hd
  have sub : Looks (model pw w) s.heap (isInstance (.ref x) (.type "object")) true := I.type.andThen (acc_sub X rfl)
  refine codeAny_call_builtin SF.slot.plain SF.entry (@check_slot (model pw w) _ _ s "object.__setattr__" "object" "__setattr__" (.ref x) [.str "_initial_size" tk, v] [] _ SF.kind SF.split sub (SF.args (.ref x) (.str "_initial_size" tk) v) ?_)
  have hm : Looks (model pw w) s.heap (mroOf (.ref 170)) accMro := acc_mro X
  have ha : Looks (model pw w) s.heap (typeLookup (.ref 170) "_initial_size") none := looks_findIn X (by kernel_rfl)
  rw [osa_eq, refuse_eq]
  refine wpAny_bind (wpAny_bind (I.type.here (wpAny_bind (hm.here ?_))))
  rw [refuse_list]
  refine wpAny_pure (wpAny_bind (I.type.here (wpAny_bind (ha.here (wpAny_bind ((Looks.now (M := model pw w) (h := s.heap) (a := (none : Option Value))).here ?_))))))
  obtain ⟨cd, hc, _, hd', _⟩ := acc_cls w
  have e : Obj.putName "_initial_size" (PyData.keyHash w.params "_initial_size") (.str "_initial_size" s.toks) v emptyDict = dictOf (putL "_initial_size" (PyData.keyHash w.params "_initial_size") (.str "_initial_size" s.toks) v []) (putN "_initial_size" [] 0) := putName_dict _ _ _ _ [] 0
  refine wpAny_bind (wpAny_pure (wpAny_bind (wpAny_bind (wpAny_loadPart hx (wpAny_bind ((looks_clsIn X hc).here ?_))))))
  rw [hd']
  refine wpAny_pure (a := some dx) (wpAny_bind (wpAny_pure (wpAny_bind ?_)))
  unfold nsSet
  refine wpAny_bind (wpAny_bind (wpAny_askSetting (wpAny_pure (wpAny_bind (wpAny_mkText (wpAny_bind (wpAny_loadPart hd ?_)))))))
  dsimp only
  have c : (!(#[] : Array DictEntry).any (·.key.isStr "_initial_size") && (#[] : Array DictEntry).any (·.refKey)) = false := by simp
  rw [aRefKeyMayBeTheName_at, c]
  have D' : (s.heap.update dx (Obj.putName "_initial_size" (PyData.keyHash w.params "_initial_size") (.str "_initial_size" s.toks) v)).get? dx = some (dictOf (putL "_initial_size" (PyData.keyHash w.params "_initial_size") (.str "_initial_size" s.toks) v []) (putN "_initial_size" [] 0)) := by
    have := Heap.get?_update_self (Obj.putName "_initial_size" (PyData.keyHash w.params "_initial_size") (.str "_initial_size" s.toks) v) hd (by rw [e]; rfl)
    rw [e] at this
    exact this
  refine wpAny_updatePart hd ?_
  refine wpAny_bind (wpAny_lookBehind D' (pastItsLine_dict (by show 1 ≤ _; rw [sizeLine_eq]; omega)) ?_)
  exact wpAny_pure (h _ _ _ ⟨_, _, _, rfl, rfl⟩ D' fun b o hb e => (Heap.SameBut.update (a := dx) (h := s.heap) ..).extBut b o hb e)
theorem acc_set {x dx : Addr} {vs : List Value} {n : Nat} {v : Value} {Q : Unit → Shared → Prop} (X : (KK w).In s.heap) (hx : s.heap.get? x = some (accO dx vs n)) (hd : s.heap.get? dx = some emptyDict)
    (h : ∀ h' tk od', DctOk od' → h'.get? dx = some od' → (∀ b o, b ≠ dx → s.heap.get? b = some o → h'.get? b = some o) → Q () { s with heap := h', toks := tk }) :
    wpAny (model pw w) A (setAttr (.ref x) "_initial_size" v) Q E s :=
  set_plain X (acc_inst hx hd) (by kernel_rfl) (acc_osa (s := { s with toks := s.toks + 1 }) X hx hd fun h' tk od' a b c => h h' tk od' a b c)

theorem lgaC : (Manifest.canonical "list.__getattribute__" != "object.__getattribute__") = false := by decide +kernel
theorem acc_meth {x dx : Addr} {vs : List Value} {n : Nat} {od : Obj} {name : Str} {f : Value} {tf : Value} {pl : Sem Bool} {Q : Value × List Value → Shared → Prop} (X : (KK w).In s.heap) (hx : s.heap.get? x = some (accO dx vs n)) (hd : s.heap.get? dx = some od) (ho : DctOk od)
    (hf : findIn (KK w) (.ref 170) name = some (some f)) (ht : typeIn (KK w) f = some tf) (htf : (tf != .type "function" && tf != .type "method_descriptor" && tf != .type "wrapper_descriptor") = false) (hn : (("_initial_size" : Str) == name) = false) (h : Q (f, [.ref x]) s) :
    wpAny (model pw w) A (getMethod (.ref x) name pl) Q E s := by
  have I := acc_inst hx hd
  obtain ⟨e, ne, t, rfl, he⟩ := ho
  have hga : findIn (KK w) (.ref 170) "__getattribute__" = some (some (.builtin "list.__getattribute__")) := by kernel_rfl
  have hk : findIn (KK w) (.ref 170) "__getattr__" = some none := by kernel_rfl
  unfold getMethod specialOf
  refine wpAny_bind (wpAny_bind (I.type.here ((looks_findIn X hga).here ?_)))
  dsimp only
  rw [if_neg (by rw [lgaC]; exact Bool.false_ne_true)]
  refine wpAny_bind (wpAny_bind (I.type.here ((looks_findIn X hk).here ?_)))
  refine wpAny_bind (wpAny_bind (I.type.here ((looks_findIn X hf).here (wpAny_bind ((looks_typeIn X ht).here ?_)))))
  rw [if_neg (by rw [htf]; exact Bool.false_ne_true)]
  refine wpAny_bind (wpAny_loadPart hx ?_)
  refine wpAny_bind (wpAny_bind (wpAny_loadPart hd ?_))
  have hl : lookIn name (dictOf [e] ne) = some none := by
    rw [lookIn_dict]
    unfold getL
    simp only [List.find?_cons, List.find?_nil]
    have e1 : e.key.isStr name = false := by rw [he]; exact hn
    rw [e1]
    simp [DictEntry.refKey, he]
  rw [nsLook_of hl]
  exact wpAny_pure (wpAny_bind (wpAny_rule (wpAny_pure h)))
end

section
variable {w : World} {A : Around} {R : Result → Shared → Prop} {E : Value → Shared → Prop} {s : Shared} {x dx : Addr} {vs : List Value} {n : Nat}

theorem check_meth {M : Model} {A : Around} {E : Value → Shared → Prop} {s : Shared} {i owner n : String} {self : Value} {rest : List Value} {kw : List (Str × Value)} {Q : Unit → Shared → Prop}
    (hk : builtinKind i = some .method) (hs : splitId i = some (owner, n)) (hi : Looks M s.heap (isInstance self (.type owner)) true) (ha : argsOk i ⟨self :: rest, kw⟩) (q : Q () s) :
    wpAny M A (checkBuiltinCall i ⟨self :: rest, kw⟩) Q E s := by
  simp only [checkBuiltinCall, hk, hs]
  refine wpAny_bind (hi.here ?_)
  simp only [Bool.not_true, Bool.false_eq_true, if_false]
  cases hsig : Manifest.signature? i with
  | none => exact wpAny_pure q
  | some sig =>
    simp only [argsOk, hsig] at ha
    have h2 : Bind.checkArgs i sig ⟨self :: rest, kw⟩ = pure () := ha
    show wpAny M A (Bind.checkArgs i sig ⟨self :: rest, kw⟩) Q E s
    rw [h2]; exact wpAny_pure q

theorem acc_isList {M : Model} {h : Heap} (X : (KK w).In h) (hx : h.get? x = some (accO dx vs n)) : Looks M h (isInstance (.ref x) (.type "list")) true := ((Looks.ld (part := none) hx).andThen .now).andThen (acc_sub X rfl)

theorem acc_callM {id n' : String} {B : Builtin} {rest : List Value} {Q : Value → Shared → Prop} (X : (KK w).In s.heap) (hx : s.heap.get? x = some (accO dx vs n)) (hk : builtinKind id = some .method) (hs : splitId id = some ("list", n')) (hp : plainId id = true)
    (he : entryFor table id = some B) (ha : argsOk id ⟨.ref x :: rest, []⟩)
    (h : wpAny (model pw w) A.in1 (B ⟨.ref x :: rest, []⟩) (fun fin s' => match fin with | .done f => wants Q E (.ok f) s' | .again c' => c'.quiet = true ∧ codeAny (model pw w) A c' (wants Q E) s') (fun e s' => wants Q E (.error e) s') s) :
    wpAny (model pw w) A (call (.builtin id) (.ref x :: rest)) Q E s :=
  wpAny_call (codeAny_call_builtin hp he (check_meth hk hs (acc_isList X hx) ha h))
theorem acc_callS {id n' : String} {B : Builtin} {rest : List Value} {Q : Value → Shared → Prop} (X : (KK w).In s.heap) (hx : s.heap.get? x = some (accO dx vs n)) (hk : builtinKind id = some .slot) (hs : splitId id = some ("list", n')) (hp : plainId id = true)
    (he : entryFor table id = some B) (ha : argsOk id ⟨.ref x :: rest, []⟩)
    (h : wpAny (model pw w) A.in1 (B ⟨.ref x :: rest, []⟩) (fun fin s' => match fin with | .done f => wants Q E (.ok f) s' | .again c' => c'.quiet = true ∧ codeAny (model pw w) A c' (wants Q E) s') (fun e s' => wants Q E (.error e) s') s) :
    wpAny (model pw w) A (call (.builtin id) (.ref x :: rest)) Q E s :=
  wpAny_call (codeAny_call_builtin hp he (check_slot hk hs (acc_isList X hx) ha h))

theorem acc_upd {h : Heap} {f : Array Value → Array Value} {ws : List Value} (hx : h.get? x = some (accO dx vs n)) (he : f vs.toArray = ws.toArray) : ∃ n', (h.update x (Obj.mapSeq f)).get? x = some (accO dx ws n') := by
  obtain ⟨n', hd'⟩ := Obj.data_mapSeq (o := accO dx vs n) rfl f
  refine ⟨n', ?_⟩
  have := Heap.get?_update_self (Obj.mapSeq f) hx (Obj.isFreed_of_seq hd')
  rw [this]
  have : Obj.mapSeq f (accO dx vs n) = { accO dx vs n with data := (Obj.mapSeq f (accO dx vs n)).data } := rfl
  rw [this, hd', he]
theorem acc_sb {h : Heap} (f) : ∀ b o, b ≠ x → h.get? b = some o → (h.update x f).get? b = some o := fun b o hb e => (Heap.SameBut.update (a := x) (h := h) ..).extBut b o hb e

theorem acc_append {y : Value} {Q : Value → Shared → Prop} (X : (KK w).In s.heap) (hx : s.heap.get? x = some (accO dx vs n)) (hz : vs.length ≤ 1000)
    (h : ∀ h' n', h'.get? x = some (accO dx (vs ++ [y]) n') → (∀ b o, b ≠ x → s.heap.get? b = some o → h'.get? b = some o) → Q .none { s with heap := h' }) :
    wpAny (model pw w) A (call (.builtin "list.append") [.ref x, y]) Q E s := by
  refine acc_callM (n' := "append") X hx (by decide +kernel) (by decide +kernel) (by decide +kernel) PySem.F.entry_list_append (PySem.F.args_list_append_2 _ _) ?_
  show wpAny _ _ (updateSeq x (·.push y) >>= fun _ => ret .none) _ _ s
  refine wpAny_bind ?_
  obtain ⟨n', e⟩ := acc_upd (f := (·.push y)) hx (ws := vs ++ [y]) (by simp)
  refine wpAny_updateSeq hx rfl (wpAny_pure (h _ n' e (acc_sb _))) (hz := ?_) (_hz' := ?_)
  · rw [List.size_toArray, sizeLine_eq]; omega
  · rw [Array.size_push, List.size_toArray, sizeLine_eq]; omega
theorem len_body {P : Fin → Shared → Prop} (hx : s.heap.get? x = some (accO dx vs n)) (h : ∀ tk t, P (.done (.ret (.int vs.length t))) { s with toks := tk }) : wpAny (model pw w) A (Builtin.«list.__len__» ⟨[.ref x], []⟩) P E s := by
  show wpAny _ _ (do retInt (← seqSize x)) _ _ s
  unfold seqSize
  refine wpAny_bind (wpAny_bind (wpAny_load hx ?_))
  refine wpAny_pure (wpAny_bind (wpAny_mkInt (wpAny_pure ?_)))
  have := h (s.toks + 1) s.toks
  rwa [← List.size_toArray] at this
theorem pop_body {y : Value} {P : Fin → Shared → Prop} (hx : s.heap.get? x = some (accO dx (vs ++ [y]) n)) (hz : vs.length ≤ 1000)
    (h : ∀ h' n', h'.get? x = some (accO dx vs n') → (∀ b o, b ≠ x → s.heap.get? b = some o → h'.get? b = some o) → P (.done (.ret y)) { s with heap := h' }) :
    wpAny (model pw w) A (Builtin.«list.pop» ⟨[.ref x], []⟩) P E s := by
  have hk0 : (vs ++ [y]).toArray.size - 1 = vs.length := by simp
  have hy : (vs ++ [y]).toArray[(vs ++ [y]).toArray.size - 1]? = some y := by rw [hk0]; simp
  have hne : ¬ (vs ++ [y]).toArray.isEmpty = true := by simp
  have hk : seqIndex? (-1) (vs ++ [y]).toArray.size = some ((vs ++ [y]).toArray.size - 1) := by
    have e : ((vs ++ [y]).toArray.size : Int) = (vs.length : Int) + 1 := by simp
    have q := PySem.MeetsSeq.seqIndex_neg (k := -1) (n := (vs ++ [y]).toArray.size) (by decide) (by omega)
    rw [q, hk0]
    congr 1
    omega
  have hs1 : (vs ++ [y]).toArray.size ≤ sizeLine := by rw [sizeLine_eq]; simp; omega
  have hz' : ((vs ++ [y]).toArray.eraseIdxIfInBounds ((vs ++ [y]).toArray.size - 1)).size ≤ sizeLine + 1 := Nat.le_trans (MeetsSeq.size_erased _ _) (Nat.le_succ_of_le hs1)
  obtain ⟨n', e⟩ := acc_upd (f := fun xs => xs.eraseIdxIfInBounds ((vs ++ [y]).toArray.size - 1)) hx (ws := vs) (by rw [hk0]; have := kl_erase vs [] y; simpa using this)
  have sb := acc_sb (x := x) (h := s.heap) (Obj.mapSeq fun xs => xs.eraseIdxIfInBounds ((vs ++ [y]).toArray.size - 1))
  obtain ⟨hp, g, d, tk, os⟩ := s
  dsimp only at hx
  wp_walk using (wpAny_loadPart' hx)
  simp only [hk, hy, Option.bind_some, Option.map_some]
  wp_walk using (wpAny_updateSeq hx rfl (hz := hs1) (_hz' := hz')), (wpAny_loadPart' hx)
  exact h _ n' e sb
theorem init_body {P : Fin → Shared → Prop} (hx : s.heap.get? x = some (accO dx [] n))
    (h : ∀ h' n', h'.get? x = some (accO dx [] n') → (∀ b o, b ≠ x → s.heap.get? b = some o → h'.get? b = some o) → P (.done (.ret .none)) { s with heap := h' }) :
    wpAny (model pw w) A (Builtin.«list.__init__» ⟨[.ref x], []⟩) P E s := by
  obtain ⟨n', e⟩ := acc_upd (f := fun _ => #[]) hx (ws := []) rfl
  have sb := acc_sb (x := x) (h := s.heap) (Obj.mapSeq fun _ => #[])
  obtain ⟨hp, g, d, tk, os⟩ := s
  dsimp only at hx
  unfold Builtin.«list.__init__»
  wp_walk using (wpAny_updateSeq hx rfl), (wpAny_loadPart' hx)
  exact h _ n' e sb
end

section
variable {w : World} {A : Around} {R : Result → Shared → Prop} {E : Value → Shared → Prop} {s : Shared} {x dx : Addr} {vs : List Value} {n : Nat}

theorem acc_type {M : Model} {h : Heap} (hx : h.get? x = some (accO dx vs n)) : Looks M h (typeOf (.ref x)) (.ref 170) := (Looks.ld (part := none) hx).andThen .now
theorem acc_special {name : Str} {id : String} {args : List Value} {Q : Option Value → Shared → Prop} (X : (KK w).In s.heap) (hx : s.heap.get? x = some (accO dx vs n)) (hf : findIn (KK w) (.ref 170) name = some (some (.builtin id)))
    (slot : Slot "list" name id) (h : wpAny (model pw w) A (call (.builtin id) (.ref x :: args)) (fun v => Q (some v)) E s) : wpAny (model pw w) A (callSpecial? (.ref x) name args) Q E s := by
  unfold callSpecial? specialOf
  refine wpAny_bind (wpAny_bind ((acc_type hx).here ((looks_findIn X hf).here (wpAny_holding ?_))))
  rw [slot.bind]
  exact wpAny_bind (wpAny_pure (wpAny_bind (wpAny_mono h (fun _ _ z => wpAny_pure z) fun _ _ z => z)))
theorem acc_getItem {k : Int} {t : Tok} {y : Value} {Q : Value → Shared → Prop} (X : (KK w).In s.heap) (hx : s.heap.get? x = some (accO dx vs n)) (h0 : 0 ≤ k) (hfit : k < 2 ^ 63) (hy : vs.toArray[k.toNat]? = some y) (h : Q y s) :
    wpAny (model pw w) A (getItem (.ref x) (.int k t)) Q E s := by
  unfold getItem sequenceKey
  refine wpAny_holding (wpAny_bind (wpAny_bind ((acc_type hx).here ?_)))
  refine wpAny_bind ((anyM_none (C := 170) X (by kernel_rfl)).here ?_)
  rw [if_pos (show (!false) = true from rfl)]
  refine wpAny_pure (wpAny_bind (acc_special X hx (by kernel_rfl) slot_list_getitem ?_))
  refine acc_callM (n' := "__getitem__") X hx (by decide +kernel) (by decide +kernel) (by decide +kernel) entry_list_getitem (args_list_getitem _ _) ?_
  show wpAny _ _ (Builtin.List.listSubscript? (.int k t) >>= _) _ _ s
  refine wpAny_bind (wpAny_listSubscript_int (fitsIndex_of h0 hfit) ?_)
  clear hfit
  obtain ⟨j, rfl⟩ := Int.eq_ofNat_of_zero_le h0
  have hy' : vs.toArray[j]? = some y := hy
  show wpAny _ _ ((seqItemAt x j >>= fun r => pure (r.map (j, ·))) >>= _) _ _ s
  refine wpAny_bind (wpAny_bind (wpAny_seqItemAt hx rfl (wpAny_pure ?_)))
  rw [hy']
  exact wpAny_pure (wpAny_pure h)
theorem acc_sub' {value slice : Expr} {k : Int} {t : Tok} {Q : Value → Shared → Prop} (X : (KK w).In s.heap) (hx : s.heap.get? x = some (accO dx vs n)) (h : wpAny (model pw w) A (getItem (.ref x) (.int k t)) Q E s)
    (hsl : ∃ us, subscripted slice false (.ref x) (.int k t) = operate us (getItem (.ref x) (.int k t))) : wpAny (model pw w) A (subscriptTail value slice (.ref x) (.int k t)) Q E s := by
  obtain ⟨us, hsl⟩ := hsl
  unfold subscriptTail getitemInPython
  refine wpAny_bind (wpAny_bind (wpAny_bind ((acc_type hx).here ((looks_findIn X (by kernel_rfl : findIn (KK w) (.ref 170) "__getitem__" = some (some (.builtin "list.__getitem__")))).here ?_))))
  refine wpAny_pure ?_
  rw [hsl]
  refine wpAny_bind (wpAny_operating (wpAny_mono h (fun r s' z => ?_) fun _ _ z => z))
  show wpAny (model pw w) A (letTemporaryGo value (.ref x) r >>= fun _ => pure r) Q E s'
  exact wpAny_bind (wpAny_letTemporaryGo (wpAny_pure z))
theorem acc_iter {Q : Value → Shared → Prop} (X : (KK w).In s.heap) (hx : s.heap.get? x = some (accO dx vs n)) (h : Q (.ref s.heap.objs.size) { s with heap := s.heap.push (liO x 0) }) : wpAny (model pw w) A (pyIter (.ref x)) Q E s := by
  have hf : findIn (KK w) (.ref 170) "__iter__" = some (some (.builtin "list.__iter__")) := by kernel_rfl
  unfold pyIter specialOf
  refine wpAny_bind (wpAny_bind ((acc_type hx).here ((looks_findIn X hf).here ?_)))
  dsimp only
  refine wpAny_bind ?_
  simp only [callSpecialIfBoundUnlessNone?, bindSpecialIfBound?, specialOf]
  refine wpAny_holding (wpAny_bind (wpAny_bind (wpAny_bind ((acc_type hx).here ((looks_findIn X hf).here ?_)))))
  simp only [slot_list_iter.bind]
  refine wpAny_bind (wpAny_askSetting (wpAny_ite ?_))
  have body : wpAny (model pw w) A (call (.builtin "list.__iter__") [.ref x]) (fun v s' => v = .ref s.heap.objs.size ∧ s' = { s with heap := s.heap.push (liO x 0) }) E s := by
    refine acc_callS (n' := "__iter__") X hx (by decide +kernel) (by decide +kernel) (by decide +kernel) entry_list_iter (args_list_iter _) ?_
    show wpAny _ _ (do ret (← newFields "list_iterator" [.ref x, rawInt 0])) _ _ s
    exact wpAny_bind (wpAny_newObj_type (wpAny_pure ⟨rfl, rfl⟩))
  have L1 : Looks (model pw w) (s.heap.push (liO x 0)) (typeOf (.ref s.heap.objs.size)) (.type "list_iterator") := (Looks.ld (part := none) (Heap.get?_push_size _ rfl)).andThen .now
  split
  · refine wpAny_bind (wpAny_pure (wpAny_pure ?_))
    simp only [builtin_beq_none, Bool.false_eq_true, if_false]
    refine wpAny_bind (wpAny_mono body (fun v s' h' => ?_) fun _ _ z => z)
    obtain ⟨rfl, rfl⟩ := h'
    refine wpAny_pure ?_
    refine wpAny_bind (wpAny_bind (L1.here ((Looks.of_pure slot_listiter_next.lookup).here ?_)))
    exact wpAny_pure h
  · refine wpAny_tryCatch (wpAny_bind (wpAny_pure (wpAny_pure ?_)))
    simp only [builtin_beq_none, Bool.false_eq_true, if_false]
    refine wpAny_bind (wpAny_mono body (fun v s' h' => ?_) fun _ _ z => z)
    obtain ⟨rfl, rfl⟩ := h'
    refine wpAny_pure ?_
    refine wpAny_bind (wpAny_bind (L1.here ((Looks.of_pure slot_listiter_next.lookup).here ?_)))
    exact wpAny_pure h

theorem accNext {I : Addr} {o : Obj} {i : Nat} {y : Value} {Q : Option Value → Shared → Prop} (hI : s.heap.get? I = some o) (hc : o.cls = .type "list_iterator") (hd : o.data = .fields #[.ref x, .int i 0]) (hx : s.heap.get? x = some (accO dx vs n)) (hy : vs.toArray[i]? = some y)
    (hQ : ∀ h' o', h'.get? I = some o' → o'.cls = .type "list_iterator" → o'.data = .fields #[.ref x, .int (i + 1 : Nat) 0] → (∀ b x, b ≠ I → s.heap.get? b = some x → h'.get? b = some x) → Q (some y) { s with heap := h' }) :
    wpAny (model pw w) A (pyNext (.ref I)) Q E s := by
  have hT : s.TypeIs (.ref I) "list_iterator" := ⟨o, hI, hc⟩
  unfold pyNext
  refine wpAny_bind (wpAny_attempt (wpAny_callSpecial?_slot (name := Str.ofString "__next__") hT slot_listiter_next
    (wpAny_call_entry slot_listiter_next hT entry_listiter_next ?_ (args_listiter_next _))))
  show wpAny _ _ (field (.ref I) 0 >>= _) _ _ s
  refine wpAny_bind (wpAny_field hI hd (x := .ref x) rfl ?_)
  show wpAny _ _ (if (Value.ref x == Value.none) = true then _ else _) _ _ s
  rw [if_neg (show ¬ ((Value.ref x == Value.none) = true) from Bool.false_ne_true)]
  show wpAny _ _ (field (.ref I) 1 >>= _) _ _ s
  refine wpAny_bind (wpAny_field hI hd (x := .int i 0) rfl ?_)
  show wpAny _ _ (seqItems? (.ref x) >>= _) _ _ s
  refine wpAny_bind (wpAny_seqItems hx rfl ?_)
  simp only [Int.toNat_natCast, hy]
  refine wpAny_bind (wpAny_setField hI hd (by simp) (wpAny_pure ⟨y, rfl, wpAny_pure (hQ _ _ (Heap.get?_update_self _ hI (Obj.isFreed_of_fields (Obj.data_mapFields hd _))) ((Obj.cls_mapFields ..).trans hc) (by rw [Obj.data_mapFields hd]; simp [rawInt]) fun b y hb e => (Heap.SameBut.update (a := I) (h := s.heap) ..).extBut b y hb e)⟩))
theorem accStop {I : Addr} {o : Obj} {i : Nat} {Q : Option Value → Shared → Prop} (hh : A.handled = none) (hI : s.heap.get? I = some o) (hc : o.cls = .type "list_iterator") (hd : o.data = .fields #[.ref x, .int i 0]) (hx : s.heap.get? x = some (accO dx vs n)) (hy : vs.toArray[i]? = none)
    (hQ : ∀ h', (∀ b x, b ≠ I → s.heap.get? b = some x → h'.get? b = some x) → Q none { s with heap := h' }) :
    wpAny (model pw w) A (pyNext (.ref I)) Q E s := by
  have hT : s.TypeIs (.ref I) "list_iterator" := ⟨o, hI, hc⟩
  unfold pyNext
  refine wpAny_bind (wpAny_attempt (wpAny_callSpecial?_slot (name := Str.ofString "__next__") hT slot_listiter_next
    (wpAny_call_entry slot_listiter_next hT entry_listiter_next ?_ (args_listiter_next _))))
  show wpAny _ _ (field (.ref I) 0 >>= _) _ _ s
  refine wpAny_bind (wpAny_field hI hd (x := .ref x) rfl ?_)
  show wpAny _ _ (if (Value.ref x == Value.none) = true then _ else _) _ _ s
  rw [if_neg (show ¬ ((Value.ref x == Value.none) = true) from Bool.false_ne_true)]
  show wpAny _ _ (field (.ref I) 1 >>= _) _ _ s
  refine wpAny_bind (wpAny_field hI hd (x := .int i 0) rfl ?_)
  show wpAny _ _ (seqItems? (.ref x) >>= _) _ _ s
  refine wpAny_bind (wpAny_seqItems hx rfl ?_)
  simp only [Int.toNat_natCast, hy]
  refine wpAny_bind (wpAny_rule (wpAny_bind (wpAny_setField hI hd (by simp) ?_)))
  show wpAny _ _ (newExc (.type "StopIteration") [] >>= _) _ _ _
  refine wpAny_bind ?_
  simp only [newExc, newTuple]
  refine wpAny_bind (wpAny_newObj_type ?_ (by size_fits))
  refine wpAny_bind (m := firstArgMember _ _) (wpAny_of_eq (a := Value.none) (by first | rfl | (simp only [firstArgMember]; rfl)) ?_)
  refine wpAny_newObj_type ?_ (by size_fits)
  simp only [raiseNew]
  refine wpAny_bind (wpAny_handled ?_)
  rw [show A.in1.handled = none from hh]
  refine wpAny_bind (wpAny_pure (wpAny_throw ?_))
  refine wpAny_bind (wpAny_isInstance (T := "StopIteration") (b := true) ⟨_, Heap.get?_push_size _ rfl, rfl⟩ isSubtype_stop ?_)
  refine wpAny_pure (hQ _ ?_)
  intro b y hb e
  exact Heap.get?_push_of_some _ (Heap.get?_push_of_some _ ((Heap.SameBut.update (a := I) (h := s.heap) ..).extBut b y hb e))
end

abbrev bndO (k : String) (id : String) (x : Addr) : Obj := { cls := .type k, data := .fields #[.builtin id, .ref x] }
theorem slot_mdget : Slot "method_descriptor" "__get__" "method_descriptor.__get__" := .of (owner := "method_descriptor") (n := "__get__") (by rw [typeLookup_type, builtinLookup_eq_fast]; kernel_rfl) (by decide +kernel) (by decide +kernel) (by decide +kernel)
  (by first | exact .inl (by decide +kernel) | exact .inr (by decide +kernel)) (by rw [isSubtype_type]; kernel_rfl)
theorem slot_wdget : Slot "wrapper_descriptor" "__get__" "wrapper_descriptor.__get__" := .of (owner := "wrapper_descriptor") (n := "__get__") (by rw [typeLookup_type, builtinLookup_eq_fast]; kernel_rfl) (by decide +kernel) (by decide +kernel) (by decide +kernel)
  (by first | exact .inl (by decide +kernel) | exact .inr (by decide +kernel)) (by rw [isSubtype_type]; kernel_rfl)
theorem entry_mdget : entryFor table "method_descriptor.__get__" = some Builtin.«method_descriptor.__get__» := entryFor_of_tree (by kernel_rfl)
theorem entry_wdget : entryFor table "wrapper_descriptor.__get__" = some Builtin.«wrapper_descriptor.__get__» := entryFor_of_tree (by kernel_rfl)
theorem args_mdget (a b c : Value) : argsOk "method_descriptor.__get__" ⟨[a, b, c], []⟩ := by unfold argsOk; kernel_rfl
theorem args_wdget (a b c : Value) : argsOk "wrapper_descriptor.__get__" ⟨[a, b, c], []⟩ := by unfold argsOk; kernel_rfl
section
variable {w : World} {A : Around} {R : Result → Shared → Prop} {E : Value → Shared → Prop} {x dx : Addr} {vs : List Value} {n : Nat} {h : Heap} {g : Array GenState} {d : Drawn} {t : Nat} {os : OsState}

theorem md_get {Q : Fin → Shared → Prop} (X : (KK w).In h) (hx : h.get? x = some (accO dx vs n))
    (hq : Q (.done (.ret (.ref h.objs.size))) ⟨h.push (bndO "builtin_function_or_method" "list.pop" x), g, d, t, os⟩) :
    wpAny (model pw w) A (Builtin.«method_descriptor.__get__» ⟨[.builtin "list.pop", .ref x, .ref 170], []⟩) Q E ⟨h, g, d, t, os⟩ := by
  have hT := acc_isList (M := model pw w) X hx
  have hc : Manifest.toldItsClass.contains "list.pop" = false := by decide +kernel
  have ho : (kfb_private% "ownerAndName") "list.pop" = ("list", "pop") := by first | decide +kernel | kernel_rfl
  unfold Builtin.«method_descriptor.__get__»
  refine wpAny_bind (wpAny_of_eq (a := (.builtin "list.pop", some (.ref x), some (.ref 170))) (by first | rfl | kernel_rfl) ?_)
  simp only [hc]
  repeat (first | simp only [ho] | simp only [bne_self_eq_false, Bool.false_eq_true, if_false, beq_self_eq_true, if_true, Bool.not_true] | lk)
  exact hq
theorem wd_get1 {Q : Fin → Shared → Prop} (X : (KK w).In h) (hx : h.get? x = some (accO dx vs n))
    (hq : Q (.done (.ret (.ref h.objs.size))) ⟨h.push (bndO "method-wrapper" "list.__len__" x), g, d, t, os⟩) :
    wpAny (model pw w) A (Builtin.«wrapper_descriptor.__get__» ⟨[.builtin "list.__len__", .ref x, .ref 170], []⟩) Q E ⟨h, g, d, t, os⟩ := by
  have hT := acc_isList (M := model pw w) X hx
  have ho : (kfb_private% "ownerAndName") "list.__len__" = ("list", "__len__") := by first | decide +kernel | kernel_rfl
  unfold Builtin.«wrapper_descriptor.__get__»
  refine wpAny_bind (wpAny_of_eq (a := (.builtin "list.__len__", some (.ref x), some (.ref 170))) (by first | rfl | kernel_rfl) ?_)
  repeat (first | simp only [ho] | simp only [bne_self_eq_false, Bool.false_eq_true, if_false, beq_self_eq_true, if_true, Bool.not_true] | lk)
  exact hq
theorem wd_get2 {Q : Fin → Shared → Prop} (X : (KK w).In h) (hx : h.get? x = some (accO dx vs n))
    (hq : Q (.done (.ret (.ref h.objs.size))) ⟨h.push (bndO "method-wrapper" "list.__init__" x), g, d, t, os⟩) :
    wpAny (model pw w) A (Builtin.«wrapper_descriptor.__get__» ⟨[.builtin "list.__init__", .ref x, .ref 170], []⟩) Q E ⟨h, g, d, t, os⟩ := by
  have hT := acc_isList (M := model pw w) X hx
  have ho : (kfb_private% "ownerAndName") "list.__init__" = ("list", "__init__") := by first | decide +kernel | kernel_rfl
  unfold Builtin.«wrapper_descriptor.__get__»
  refine wpAny_bind (wpAny_of_eq (a := (.builtin "list.__init__", some (.ref x), some (.ref 170))) (by first | rfl | kernel_rfl) ?_)
  repeat (first | simp only [ho] | simp only [bne_self_eq_false, Bool.false_eq_true, if_false, beq_self_eq_true, if_true, Bool.not_true] | lk)
  exact hq

theorem sup_ga {so : Addr} {name : Str} {tk : Tok} {k kb id gid : String} {Bg : Builtin} {Q : Fin → Shared → Prop} (X : (KK w).In h) (hx : h.get? x = some (accO dx vs n)) (hso : h.get? so = some (ks_superObj 170 x 170))
    (hf : alongIn (KK w) name [.type "list", .type "object"] = some (some (.builtin id))) (hty : typeOf (.builtin id) = pure (.type k)) (slot : Slot k "__get__" gid) (entry : entryFor table gid = some Bg) (hargs : argsOk gid ⟨[.builtin id, .ref x, .ref 170], []⟩)
    (hn : (name == ("__class__" : Str)) = false)
    (hq : ∀ (Q : Fin → Shared → Prop) (E : Value → Shared → Prop) (A : Around), Q (.done (.ret (.ref h.objs.size))) ⟨h.push (bndO kb id x), g, d, t, os⟩ → wpAny (model pw w) A (Bg ⟨[.builtin id, .ref x, .ref 170], []⟩) Q E ⟨h, g, d, t, os⟩)
    (hQ : Q (.done (.ret (.ref h.objs.size))) ⟨h.push (bndO kb id x), g, d, t, os⟩) :
    wpAny (model pw w) A (Builtin.«super.__getattribute__» ⟨[.ref so, .str name tk], []⟩) Q E ⟨h, g, d, t, os⟩ := by
  have hno : Looks (model pw w) h (opaqueClassAbove (.ref 170)) none := looks_opaque X (by kernel_rfl)
  have hC := acc_mro (M := model pw w) X
  have hx170 : x ≠ 170 := fun e => by
    have := X 170 _ rfl
    rw [← e, hx] at this
    cases this
  have hne : (Value.ref x == Value.ref 170) = false := by simp [hx170]
  have hdt : (ks_superObj 170 x 170).data = .fields #[.ref 170, .ref x, .ref 170] := rfl
  have f0 : (#[.ref 170, .ref x, .ref 170] : Array Value)[0]? = some (.ref 170) := rfl
  have f1 : (#[.ref 170, .ref x, .ref 170] : Array Value)[1]? = some (.ref x) := rfl
  have f2 : (#[.ref 170, .ref x, .ref 170] : Array Value)[2]? = some (.ref 170) := rfl
  have hl : (accMro.dropWhile (· != .ref 170)).drop 1 = [.type "list", .type "object"] := by unfold accMro; simp
  have hlk := slot.lookup
  unfold Builtin.«super.__getattribute__»
  repeat (first
    | (with_reducible refine wpAny_field hso hdt f0 ?_) | (with_reducible refine wpAny_field hso hdt f1 ?_) | (with_reducible refine wpAny_field hso hdt f2 ?_)
    | (with_reducible refine ks_wpAny_notOpaque hno ?_)
    | (with_reducible refine Looks.at hC ?_; rw [hl])
    | (refine ks_forIn_along X (fun _ _ => rfl) rfl ?_ hf)
    | (with_reducible refine wpAny_of_eq hty ?_)
    | (simp only [hn, hne, Bool.or_false, Bool.false_eq_true, if_false])
    | wp_step
    | dsimp only)
  refine codeAny_call_builtin slot.plain entry (slot.check _ _ _ _ _ _ _ _ hty hargs (hq _ _ _ ?_))
  exact wpAny_bind (wpAny_pure (wpAny_pure (wpAny_pure hQ)))

theorem sup_meth {so : Addr} {name : Str} {k kb id gid : String} {Bg : Builtin} {pl : Sem Bool} {Q : Value × List Value → Shared → Prop} (X : (KK w).In h) (hx : h.get? x = some (accO dx vs n)) (hso : h.get? so = some (ks_superObj 170 x 170))
    (hf : alongIn (KK w) name [.type "list", .type "object"] = some (some (.builtin id))) (hty : typeOf (.builtin id) = pure (.type k)) (slot : Slot k "__get__" gid) (entry : entryFor table gid = some Bg) (hargs : argsOk gid ⟨[.builtin id, .ref x, .ref 170], []⟩)
    (hn : (name == ("__class__" : Str)) = false)
    (hq : ∀ (Q : Fin → Shared → Prop) (E : Value → Shared → Prop) (A : Around) (t : Nat), Q (.done (.ret (.ref h.objs.size))) ⟨h.push (bndO kb id x), g, d, t, os⟩ → wpAny (model pw w) A (Bg ⟨[.builtin id, .ref x, .ref 170], []⟩) Q E ⟨h, g, d, t, os⟩)
    (hQ : Q (.ref h.objs.size, []) ⟨h.push (bndO kb id x), g, d, t + 1, os⟩) :
    wpAny (model pw w) A (getMethod (.ref so) name pl) Q E ⟨h, g, d, t, os⟩ := by
  have hlk := F.ks_slot_super_ga.lookup
  have hcan := F.ks_canon_super_ga
  have hT : ∀ t', (⟨h, g, d, t', os⟩ : Shared).TypeIs (.ref so) "super" := fun _ => ⟨_, hso, rfl⟩
  unfold getMethod
  refine wpAny_bind (wpAny_specialOf (hT _) hlk ?_)
  show wpAny _ _ (if (Manifest.canonical "super.__getattribute__" != "object.__getattribute__") = true then _ else _) _ _ _
  rw [if_pos hcan]
  unfold getAttr getAttrBy
  refine wpAny_bind (wpAny_bind (wpAny_mkText (wpAny_holding (wpAny_bind (wpAny_typeOf (hT _) (wpAny_bind (wpAny_of_eq hlk ?_)))))))
  show wpAny _ _ (getAttrByItsOwn (.ref so) (.str name t) (.type "super") (.builtin "super.__getattribute__") true false) _ _ _
  unfold getAttrByItsOwn hookBefore callGetattribute boundAndCalled
  refine wpAny_bind (wpAny_of_eq (show (if onTheHeap (.type "super") then typeLookup (.type "super") "__getattr__" else pure none) = pure none from rfl) ?_)
  refine wpAny_bind (wpAny_attempt (wpAny_holding ?_))
  show wpAny _ _ (bindSpecial (.builtin "super.__getattribute__") (.ref so) >>= _) _ _ _
  refine wpAny_bind (wpAny_of_eq (F.ks_slot_super_ga.bind _) ?_)
  refine wpAny_mono (Q := fun v s' => v = .ref h.objs.size ∧ s' = ⟨h.push (bndO kb id x), g, d, t + 1, os⟩) (E := fun _ _ => False)
    (wpAny_call_entry F.ks_slot_super_ga (hT _) F.ks_entry_super_ga (sup_ga X hx hso hf hty slot entry hargs hn (fun Q E A z => hq Q E A _ z) ⟨_, rfl, rfl, rfl⟩) (F.ks_gaArgs_super _ _)) (fun v s' hv => ?_) fun _ _ z => z.elim
  obtain ⟨rfl, rfl⟩ := hv
  exact wpAny_pure (wpAny_pure hQ)

end
section
variable {w : World} {A : Around} {E : Value → Shared → Prop} {s : Shared} {x dx : Addr} {vs : List Value} {n : Nat}
theorem bnd_callWith {env : Env} {b : Addr} {k id : String} {pos : Pos} {Q : Value → Shared → Prop} (hb : s.heap.get? b = some (bndO k id x)) (hk : k = "builtin_function_or_method" ∨ k = "method-wrapper")
    (h : wpAny (model pw w) A (call (.ref b) []) Q E s) : wpAny (model pw w) A (callWith pos (.ref b) [] (backTo pos (starEach [] env)) []) Q E s := by
  unfold callWith
  refine wpAny_bind (wpAny_holding (PyProof.Rows.evalArgs_none (wpAny_bind (wpAny_standAt ?_))))
  show wpAny _ _ (keeperOf (.ref b) >>= _) _ _ _
  refine wpAny_bind ?_
  unfold keeperOf
  refine wpAny_bind (wpAny_load hb ?_)
  rcases hk with rfl | rfl
  · simp only [bndO, show (Value.type "builtin_function_or_method" != Value.type "method") = true by decide, show (Value.type "builtin_function_or_method" == Value.type "builtin_function_or_method" || Value.type "builtin_function_or_method" == Value.type "method-wrapper") = true by decide, if_true]
    refine wpAny_pure ?_
    exact wpAny_bind (wpAny_mono h (fun r s₂ hr => wpAny_bind (wpAny_holding (wpAny_point (wpAny_pure hr)))) fun _ _ x => x)
  · simp only [bndO, show (Value.type "method-wrapper" != Value.type "method") = true by decide, show (Value.type "method-wrapper" == Value.type "builtin_function_or_method" || Value.type "method-wrapper" == Value.type "method-wrapper") = true by decide, if_true]
    refine wpAny_pure ?_
    exact wpAny_bind (wpAny_mono h (fun r s₂ hr => wpAny_bind (wpAny_holding (wpAny_point (wpAny_pure hr)))) fun _ _ x => x)

theorem bnd_call {b : Addr} {k id : String} {B : Builtin} {Q : Value → Shared → Prop} (hb : s.heap.get? b = some (bndO k id x)) (hk : k = "builtin_function_or_method" ∨ k = "method-wrapper") (hp : plainId id = true) (he : entryFor table id = some B)
    (hc : ∀ {Q' : Unit → Shared → Prop} {A' E'}, Q' () s → wpAny (model pw w) A' (checkBoundCall id ⟨[.ref x], []⟩) Q' E' s)
    (h : wpAny (model pw w) A.in1 (B ⟨[.ref x], []⟩) (fun fin s' => match fin with | .done f => wants Q E (.ok f) s' | .again c' => c'.quiet = true ∧ codeAny (model pw w) A c' (wants Q E) s') (fun e s' => wants Q E (.error e) s') s) :
    wpAny (model pw w) A (call (.ref b) []) Q E s := by
  refine wpAny_call (codeAny_of_tree ?_)
  show wpAny _ A.in1 (callAny (.ref b) _) _ _ _
  unfold callAny
  refine wpAny_bind (wpAny_load hb ?_)
  have fin : codeAny (model pw w) A (.builtin id ⟨[.ref x], []⟩) (fun r s' => match r with | .ok (.ret v) => Q v s' | .ok _ => False | .error e => E e s') s := by
    refine codeAny_builtin he ?_
    rw [Around.under_plainId hp _]
    exact h
  rcases hk with rfl | rfl
  · simp only [bndO, show (Value.type "builtin_function_or_method" == Value.type "method") = false by decide, show (Value.type "builtin_function_or_method" == Value.type "builtin_function_or_method") = true by decide, Bool.or_true, Bool.true_or, Bool.false_or, if_true]
    show wpAny _ _ (if (Value.type "builtin_function_or_method" != Value.type "method") = true then _ else _) _ _ _
    rw [if_pos (by decide)]
    exact wpAny_bind (hc (wpAny_pure ⟨plainId_quiet hp _, fin⟩))
  · simp only [bndO, show (Value.type "method-wrapper" == Value.type "method") = false by decide, show (Value.type "method-wrapper" == Value.type "builtin_function_or_method") = false by decide, show (Value.type "method-wrapper" == Value.type "method-wrapper") = true by decide, Bool.or_true, Bool.true_or, Bool.false_or, if_true]
    show wpAny _ _ (if (Value.type "method-wrapper" != Value.type "method") = true then _ else _) _ _ _
    rw [if_pos (by decide)]
    exact wpAny_bind (hc (wpAny_pure ⟨plainId_quiet hp _, fin⟩))

theorem cb_slot {M : Model} {id : String} (hk : builtinKind id = some .slot) (ha : argsOk id ⟨[.ref x], []⟩) {Q' : Unit → Shared → Prop} {A' : Around} {E' : Value → Shared → Prop} (q : Q' () s) : wpAny M A' (checkBoundCall id ⟨[.ref x], []⟩) Q' E' s := by
  unfold checkBoundCall
  cases hs : Manifest.signature? id with
  | none => exact wpAny_pure q
  | some sig =>
    simp only [argsOk, hs] at ha
    have h2 : Bind.checkArgs id sig ⟨[.ref x], []⟩ = pure () := ha
    simp only [hk]
    rw [if_pos (by decide)]
    rw [h2]; exact wpAny_pure q
noncomputable def popFull : String := toString ((("_Accumulator" : Str)).toString) ++ toString "." ++ toString (Bind.lastOf "list.pop")
noncomputable def popOk (x : Addr) : Prop := (match Manifest.signature? "list.pop" with | some sig => Bind.checkArgs "list.pop" { sig with full := popFull } ⟨[.ref x], []⟩ | none => pure ()) = pure ()
theorem popOk_all (x : Addr) : popOk x := by unfold popOk; kernel_rfl
theorem acc_qual (w : World) : ∃ cd, clsIn (KK w) 170 = some cd ∧ cd.qualname = "_Accumulator" := ⟨_, rfl, rfl⟩
theorem cb_pop (X : (KK w).In s.heap) (hx : s.heap.get? x = some (accO dx vs n)) {Q' : Unit → Shared → Prop} {A' : Around} {E' : Value → Shared → Prop} (q : Q' () s) : wpAny (model pw w) A' (checkBoundCall "list.pop" ⟨[.ref x], []⟩) Q' E' s := by
  have hk : builtinKind "list.pop" = some .method := by decide +kernel
  unfold checkBoundCall
  cases hs : Manifest.signature? "list.pop" with
  | none => exact wpAny_pure q
  | some sig =>
    simp only [hk]
    rw [if_neg (by decide)]
    have m1 : Looks (model pw w) s.heap (isInstance (.ref x) (.type "module")) false := (acc_type hx).andThen (looks_mroIn X (by kernel_rfl))
    have m2 : Looks (model pw w) s.heap (isType (.ref x)) false := fun A Q E s k q => ks_wpAny_isType_inst (h := s.heap) (g := s.gens) (d := s.drawn) (t := s.toks) (os := s.os) (k _ _ hx) (fun c e => by cases e) q
    have m3 := acc_type (M := model pw w) hx
    have m4 : Looks (model pw w) s.heap (typeOf (.ref 170)) (.type "type") := looks_typeIn X (by kernel_rfl)
    have hv : Manifest.varargsMethods.contains "list.pop" = false := by decide +kernel
    obtain ⟨cd, hcd, hqn⟩ := acc_qual w
    have m5 := looks_clsIn (M := model pw w) X hcd
    have m6 : Bind.checkArgs "list.pop" { sig with full := toString cd.qualname.toString ++ toString "." ++ toString (Bind.lastOf "list.pop") } ⟨[.ref x], []⟩ = pure () := by
      have := popOk_all x
      unfold popOk at this
      rw [hs] at this
      rw [hqn]
      exact this
    obtain ⟨hp, g, d, tk, os⟩ := s
    dsimp only at m1 m2 m3 m4 m5
    repeat (first | simp only [hv] | simp only [m6] | simp only [Bool.or_false, bne_self_eq_false, Bool.false_eq_true, if_false, beq_self_eq_true, if_true, Bool.not_true] | lk)
    all_goals exact q
end

section
variable {w : World} {A : Around} {E : Value → Shared → Prop} {s : Shared} {mg mb : Lm} {h₀ : Heap} {p : Heap} {n : Nat} {L : Addr} {m : Lm} {μ g : Lg}

theorem enterS {f c : Addr} {name qual : Str} {params : Arguments} {body : List Stmt} {scope : Scope} {cl : List (Str × Addr)} {dV kV doc pm ct oc : Value} {an od : Option Addr} {osl : Array (Option Value)} {pos : List Value} {kw : List (Str × Value)} {binds : List (Str × Value)} {n : Nat} {Q : Value → Shared → Prop}
    (R : Rm A (n + 1)) (B : Bs w mg mb h₀) (k : Kp h₀ s.heap)
    (hf : s.heap.get? f = some ⟨oc, od, .func (fnX name qual params body scope cl dV kV doc pm an (.ref c) ct), osl⟩) (hc : s.heap.CodeRec (.ref c) qual)
    (hb : BindsTo s (fnX name qual params body scope cl dV kV doc pm an (.ref c) ct) ⟨pos, kw⟩ binds)
    (hcell : ∀ x ∈ scope.names, x.2 ≠ .cell) (hloc : ∀ x ∈ binds, scope.names.lookup x.1 = some .local)
    (hco : scope.isCoroutine = false) (hgen : scope.isGenerator = false) (hk : scope.kind = .function)
    (h : ∀ (L : Addr) (h₁ : Heap) (A' : Around) (tk : Nat), L = s.heap.objs.size → Rm A' n → A' = A.deeper (envX qual scope L f (.ref c) cl) → Fr s.heap L h₁ (binds.foldl upB (fun _ => none)) →
      _root_.PySem.wpAt (model pw w) A' (.func body (envX qual scope L f (.ref c) cl)) (execs body (envX qual scope L f (.ref c) cl)) (fun fl s' => Q (match fl with | .ret v => v | _ => .none) s') (fun _ _ => False) { s with heap := h₁, toks := tk }) :
    codeAny (model pw w) A (.call (.ref f) ⟨pos, kw⟩) (wants Q E) s := by
  refine ks_codeAny_call_defAt (fd := fnX name qual params body scope cl dV kV doc pm an (.ref c) ct) (body := body) (binds := binds) R.room hf rfl (B.nl.keeps k) hc rfl hb hcell hloc (fun h₁ hns hk₁ => ?_) hco hgen hk
  exact ks_wpAt_mono (h s.heap.objs.size h₁ _ _ rfl (R.deeper _) rfl (up_binds binds ▸ ⟨hns, hk₁, Nat.le_refl _⟩)) (fun fl s' hq => hq) fun _ _ x => x.elim

theorem supS {f cda : Addr} {q : Str} {scope : Scope} {body : List Stmt} {p0 p1 : Pos} {attr : Str} {whole : Sem Value} {of oc : Obj} {fd : FuncData} {ar : Arg} {cv : Array Value} {file : Str} {tf : Tok} {x dx : Addr} {vs : List Value} {nn : Nat} {Q : Value → Shared → Prop}
    (B : Bs w mg mb p) (S : Sm p n L s.heap m μ g) (hx : s.heap.get? x = some (accO dx vs nn)) (hv : m ar.arg = some (.ref x))
    (hf : (KK w).lookup f = some of) (hfd : of.data = .func fd) (hp : (fd.params.posonlyargs ++ fd.params.args).head? = some ar) (hcode : (KK w).lookup cda = some oc) (hoc : oc.data = .fields cv) (hvs : cv[2]? = some (.str file tf))
    (hfile : ((pw.main.file : Str) == file) = true) (hat : (attr == ("__class__" : Str)) = false) (hks : scope.names.lookup ("super" : Str) = some .globalImplicit) (hkc : scope.names.lookup ("__class__" : Str) = some .free) (hka : scope.names.lookup ar.arg = some .local) (hk : scope.kind = .function)
    (htop : (pw.main.scope.names.lookup ("super" : Str)).isSome = false) (hboot : bootBuiltins "super" = some (.type "super"))
    (h : ∀ so h', h'.get? so = some (ks_superObj 170 x 170) → Kp s.heap h' → s.heap.objs.size ≤ so → Q (.ref so) { s with heap := h' }) :
    _root_.PySem.wpAt (model pw w) A (.func body (envX q scope L f (.ref cda) [("__class__", 94)])) (attributeBase (.Call (.Name "super" p0) [] [] p1) attr (envX q scope L f (.ref cda) [("__class__", 94)]) whole) Q E s := by
  have X : (KK w).In s.heap := (B.keeps S.F.keep).K
  obtain ⟨hh, gg, d, t, os⟩ := s
  refine ks_wpAt_super_base (env := envX q scope L f (.ref cda) [("__class__", 94)]) hks hkc hat rfl (X _ _ hf) hfd hp rfl (X _ _ hcode) hoc hvs hfile htop ?_
  refine ks_loadName_global hk hks (loadGlobal_builtin (env := envX q scope L f (.ref cda) [("__class__", 94)]) (B.g.keeps S.F.keep) (mgNo B (by kernel_rfl)) (B.b.keeps S.F.keep) ((B.bi _ (by decide +kernel)).trans hboot) ⟨rfl, ?_⟩)
  refine wpAny_loadName_free hk hkc rfl ⟨_, X 94 _ rfl, rfl⟩ ?_
  refine wpAny_loadName_local hk hka S.F.ns hv ?_
  refine ks_wpAny_isType_cls (X 170 _ rfl) rfl ⟨rfl, ?_⟩
  refine ks_wpAny_call_super (X 170 _ rfl) rfl hx rfl (fun c e => by cases e) (acc_sub X rfl) fun h' e k => ?_
  exact h _ h' e k (Nat.le_refl _)
end
theorem ty_len : typeOf (.builtin "list.__len__") = pure (.type "wrapper_descriptor") := by show builtinType _ = _; rw [builtinType_eq_fast]; kernel_rfl
theorem args_init (x : Addr) : argsOk "list.__init__" ⟨[.ref x], []⟩ := by unfold argsOk; kernel_rfl
theorem ty_init : typeOf (.builtin "list.__init__") = pure (.type "wrapper_descriptor") := by show builtinType _ = _; rw [builtinType_eq_fast]; kernel_rfl
section
variable {w : World} {A : Around} {E : Value → Shared → Prop} {s : Shared} {x dx : Addr} {vs : List Value} {nn : Nat} {so : Addr} {pos : Pos} {env : Env} {pl : Sem Bool} {Q : Value → Shared → Prop}
theorem sup_len (X : (KK w).In s.heap) (hx : s.heap.get? x = some (accO dx vs nn)) (hso : s.heap.get? so = some (ks_superObj 170 x 170)) (h : ∀ h' tk t, Kp s.heap h' → Q (.int vs.length t) { s with heap := h', toks := tk }) :
    wpAny (model pw w) A (getMethod (.ref so) "__len__" pl) (fun fx s₂ => wpAny (model pw w) A (callWith pos fx.1 fx.2 (backTo pos (starEach [] env)) []) Q E s₂) E s := by
  obtain ⟨hh, g, d, t, os⟩ := s
  have k : Kp hh (hh.push (bndO "method-wrapper" "list.__len__" x)) := fun b o e => Heap.get?_push_of_some _ e
  refine sup_meth X hx hso (by kernel_rfl) ty_len slot_wdget entry_wdget (args_wdget _ _ _) (by decide) (fun Q E A t q => wd_get1 X hx q) ?_
  have hb : (hh.push (bndO "method-wrapper" "list.__len__" x)).get? hh.objs.size = some (bndO "method-wrapper" "list.__len__" x) := Heap.get?_push_size _ rfl
  refine bnd_callWith hb (.inr rfl) (bnd_call hb (.inr rfl) (by decide +kernel) PySem.F.entry_list_len (fun q => cb_slot (by decide +kernel) (PySem.F.args_list_len_1 _) q) (len_body (s := ⟨hh.push (bndO "method-wrapper" "list.__len__" x), g, d, t + 1, os⟩) (k _ _ hx) fun tk t => h (hh.push (bndO "method-wrapper" "list.__len__" x)) tk t k))
set_option maxHeartbeats 4000000 in
theorem sup_init (X : (KK w).In s.heap) (hx : s.heap.get? x = some (accO dx [] nn)) (hso : s.heap.get? so = some (ks_superObj 170 x 170))
    (h : ∀ h' tk n', h'.get? x = some (accO dx [] n') → (∀ b o, b ≠ x → s.heap.get? b = some o → h'.get? b = some o) → Q .none { s with heap := h', toks := tk }) :
    wpAny (model pw w) A (getMethod (.ref so) "__init__" pl) (fun fx s₂ => wpAny (model pw w) A (callWith pos fx.1 fx.2 (backTo pos (starEach [] env)) []) Q E s₂) E s := by
  obtain ⟨hh, g, d, t, os⟩ := s
  have k : Kp hh (hh.push (bndO "method-wrapper" "list.__init__" x)) := fun b o e => Heap.get?_push_of_some _ e
  refine sup_meth X hx hso (by kernel_rfl) ty_init slot_wdget entry_wdget (args_wdget _ _ _) (by decide) (fun Q E A t q => wd_get2 X hx q) ?_
  have hb : (hh.push (bndO "method-wrapper" "list.__init__" x)).get? hh.objs.size = some (bndO "method-wrapper" "list.__init__" x) := Heap.get?_push_size _ rfl
  refine bnd_callWith hb (.inr rfl) (bnd_call hb (.inr rfl) (by decide +kernel) PySem.F.entry_list_init (fun q => cb_slot (by decide +kernel) (args_init x) q) (init_body (k _ _ hx) fun h' n' e kk => h _ _ n' e fun b o hb e => kk b o hb (k _ _ e)))
theorem sup_pop {y : Value} (X : (KK w).In s.heap) (hx : s.heap.get? x = some (accO dx (vs ++ [y]) nn)) (hz : vs.length ≤ 1000) (hso : s.heap.get? so = some (ks_superObj 170 x 170))
    (h : ∀ h' tk n', h'.get? x = some (accO dx vs n') → (∀ b o, b ≠ x → s.heap.get? b = some o → h'.get? b = some o) → Q y { s with heap := h', toks := tk }) :
    wpAny (model pw w) A (getMethod (.ref so) "pop" pl) (fun fx s₂ => wpAny (model pw w) A (callWith pos fx.1 fx.2 (backTo pos (starEach [] env)) []) Q E s₂) E s := by
  obtain ⟨hh, g, d, t, os⟩ := s
  have k : Kp hh (hh.push (bndO "builtin_function_or_method" "list.pop" x)) := fun b o e => Heap.get?_push_of_some _ e
  refine sup_meth X hx hso (by kernel_rfl) PySem.F.type_list_pop slot_mdget entry_mdget (args_mdget _ _ _) (by decide) (fun Q E A t q => md_get X hx q) ?_
  have hb : (hh.push (bndO "builtin_function_or_method" "list.pop" x)).get? hh.objs.size = some (bndO "builtin_function_or_method" "list.pop" x) := Heap.get?_push_size _ rfl
  refine bnd_callWith hb (.inl rfl) (bnd_call hb (.inl rfl) (by decide +kernel) PySem.F.entry_list_pop (fun q => cb_pop (fun a o e => k _ _ (X a o e)) (k _ _ hx) q) (pop_body (k _ _ hx) hz fun h' n' e kk => h _ _ n' e fun b o hb e => kk b o hb (k _ _ e)))
end
theorem b_super : bootBuiltins "super" = some (.type "super") := by kernel_rfl

set_option maxHeartbeats 4000000 in
theorem ct_pc {w : World} {A : Around} {E : Value → Shared → Prop} {s : Shared} {mg mb : Lm} {x dx : Addr} {vs : List Value} {nn : Nat} {Q : Value → Shared → Prop}
    (R : Rm A 2) (B : Bs w mg mb s.heap) (hx : s.heap.get? x = some (accO dx vs nn))
    (h : ∀ h' tk t, Kp s.heap h' → Q (.int vs.length t) { s with heap := h', toks := tk }) :
    wpAny (model pw w) A (call (.ref 167) [.ref x]) Q E s := by
  refine wpAny_call (enterS (n := 1) R B Kp.rfl (B.K 167 _ rfl) (codeRec_of B.K (by kernel_rfl)) (binds := [("self", .ref x)]) (BindsTo.of_eq rfl) (by decide) (locs rfl) rfl rfl rfl ?_)
  intro L h₁ A' tk hL R' hA' F
  simp only [List.foldl_cons, List.foldl_nil, upB] at F
  have S := Sm.init F
  clear F
  refine ks_wpAt_execs_cons ?_
  refine ks_wpAt_Return_some ?_
  refine ks_wpAt_MethodCall ?_
  refine supS (ar := ⟨"self", none, _⟩) B S (S.F.keep _ _ hx) (by walk_at "wo look") rfl rfl rfl rfl rfl rfl rfl (by decide) rfl rfl rfl rfl rfl b_super fun so h₂ hso k₂ hs => ?_
  try dsimp only
  have S := S.keeps k₂
  refine sup_len (B.keeps S.F.keep).K (S.F.keep _ _ hx) hso fun h₃ tk₃ t₃ k₃ => ?_
  try dsimp only
  exact h _ _ _ (S.keeps k₃).F.keep

set_option maxHeartbeats 4000000 in
theorem ct_push {w : World} {A : Around} {E : Value → Shared → Prop} {s : Shared} {mg mb : Lm} {h₀ : Heap} {x dx : Addr} {vs : List Value} {nn : Nat} {od : Obj} {a b : Value} {Q : Value → Shared → Prop}
    (R : Rm A 2) (B : Bs w mg mb h₀) (k₀ : Kp h₀ s.heap) (hx : s.heap.get? x = some (accO dx vs nn)) (hx0 : h₀.get? x = none) (hd : s.heap.get? dx = some od) (ho : DctOk od) (hz : vs.length ≤ 1000)
    (h : ∀ h' tk T n', KpX [x] s.heap h' → h'.get? x = some (accO dx (vs ++ [.ref T]) n') → h'.get? T = some { cls := .type "tuple", data := .seq #[a, b] } → s.heap.objs.size ≤ T → Q .none { s with heap := h', toks := tk }) :
    wpAny (model pw w) A (call (.ref 114) [.ref x, a, b]) Q E s := by
  refine enterU (n := 1) R B k₀ (k₀ _ _ (B.K 114 _ rfl)) (codeRec_of (B.keeps k₀).K (by kernel_rfl)) (binds := [("self", .ref x), ("fws", a), ("string", b)]) (BindsTo.of_eq rfl) (by decide) (locs rfl) rfl rfl rfl ?_
  intro L h₁ A' tk hL R' hA' F
  simp only [List.foldl_cons, List.foldl_nil, upB] at F
  have S := Sm.hide (σ := [(x, accO dx vs nn)]) F (fun r hr => by rw [List.mem_singleton.mp hr]; exact hx) (by simp)
  have k₁ : Kp h₀ (hideAll s.heap (([(x, accO dx vs nn)] : Lg).map (·.1))) := kp_hide k₀ fun r hr => by rw [List.mem_singleton.mp hr]; exact hx0
  have B₁ := B.keeps k₁
  have hne : dx ≠ x := fun e => by
    rw [e, hx] at hd
    obtain ⟨_, _, _, q, _⟩ := ho
    rw [q] at hd; cases hd
  have hd₁ : (hideAll s.heap (([(x, accO dx vs nn)] : Lg).map (·.1))).get? dx = some od := hideAll_get _ hd fun z => hne (List.mem_singleton.mp z)
  generalize hp : hideAll s.heap (([(x, accO dx vs nn)] : Lg).map (·.1)) = p at S k₁ B₁ hd₁
  clear F
  refine wpAny_execs_cons ?_
  refine wpAny_Expr_any ?_
  refine MethodCall_ ?_
  refine nmS (by assumption) (by walk_at "wo look") ?_ rfl (by rfl) (by decide +kernel)
  refine acc_meth (B₁.keeps S.F.keep).K (S.M _ (.head _)).1 (S.F.keep _ _ hd₁) ho (f := .builtin "list.append") (tf := .type "method_descriptor") (by kernel_rfl) (by kernel_rfl) (by decide) (by decide +kernel) ?_
  refine callWith_method1 ?_
  refine args_cons ?_
  refine Tuple_ ?_
  refine args_cons ?_
  refine nmS (by assumption) (by walk_at "wo look") ?_ rfl (by rfl) (by decide +kernel)
  refine args_cons ?_
  refine nmS (by assumption) (by walk_at "wo look") ?_ rfl (by rfl) (by decide +kernel)
  refine args_nil ?_
  refine tupS S (by walk_at "wo sz") fun T h₂ S hT _ => ?_
  try dsimp only
  refine args_nil ?_
  try dsimp only [List.cons_append, List.nil_append]
  refine acc_append (B₁.keeps S.F.keep).K (S.M _ (.head _)).1 hz fun h₃ n₃ e kx => ?_
  have S := Sm.chg S kx e
  refine wpAny_execs_nil ?_
  try dsimp only
  exact h _ _ T _ (kpx_of hp.symm S.F.keep) (S.M _ (.head _)).1 (S.lv _ (.head _)) (hL ▸ (S.G _ (.head _)).2.1)

set_option maxHeartbeats 4000000 in
theorem ct_popA {w : World} {A : Around} {E : Value → Shared → Prop} {s : Shared} {mg mb : Lm} {h₀ : Heap} {x dx : Addr} {vs : List Value} {y : Value} {nn : Nat} {od : Obj} {Q : Value → Shared → Prop}
    (R : Rm A 4) (B : Bs w mg mb h₀) (k₀ : Kp h₀ s.heap) (hx : s.heap.get? x = some (accO dx (vs ++ [y]) nn)) (hx0 : h₀.get? x = none) (hd : s.heap.get? dx = some od) (ho : DctOk od) (hz : vs.length ≤ 1000)
    (h : ∀ h' tk n', KpX [x] s.heap h' → h'.get? x = some (accO dx vs n') → Q y { s with heap := h', toks := tk }) :
    wpAny (model pw w) A (call (.ref 130) [.ref x]) Q E s := by
  refine wpAny_call (enterS (n := 3) R B k₀ (k₀ _ _ (B.K 130 _ rfl)) (codeRec_of (B.keeps k₀).K (by kernel_rfl)) (binds := [("self", .ref x)]) (BindsTo.of_eq rfl) (by decide) (locs rfl) rfl rfl rfl ?_)
  intro L h₁ A' tk hL R' hA' F
  simp only [List.foldl_cons, List.foldl_nil, upB] at F
  have S := Sm.hide (σ := [(x, accO dx (vs ++ [y]) nn)]) F (fun r hr => by rw [List.mem_singleton.mp hr]; exact hx) (by simp)
  have k₁ : Kp h₀ (hideAll s.heap (([(x, accO dx (vs ++ [y]) nn)] : Lg).map (·.1))) := kp_hide k₀ fun r hr => by rw [List.mem_singleton.mp hr]; exact hx0
  have B₁ := B.keeps k₁
  have hne : dx ≠ x := fun e => by
    rw [e, hx] at hd
    obtain ⟨_, _, _, q, _⟩ := ho
    rw [q] at hd; cases hd
  have hd₁ : (hideAll s.heap (([(x, accO dx (vs ++ [y]) nn)] : Lg).map (·.1))).get? dx = some od := hideAll_get _ hd fun z => hne (List.mem_singleton.mp z)
  generalize hp : hideAll s.heap (([(x, accO dx (vs ++ [y]) nn)] : Lg).map (·.1)) = p at S k₁ B₁ hd₁
  clear F
  refine ks_wpAt_execs_cons ?_
  refine ks_wpAt_If (wpAt_of_wpAny ?_)
  refine wpAny_isTrue_Compare1 ?_
  refine MethodCall_ ?_
  refine nmS (by assumption) (by walk_at "wo look") ?_ rfl (by rfl) (by decide +kernel)
  refine acc_meth (B₁.keeps S.F.keep).K (S.M _ (.head _)).1 (S.F.keep _ _ hd₁) ho (f := .ref 167) (tf := .type "function") (by kernel_rfl) (by kernel_rfl) (by decide) (by decide +kernel) ?_
  try dsimp only
  refine callWith_F0 ⟨_, _, _, _, (B₁.keeps S.F.keep).K 167 _ rfl⟩ ?_
  refine ct_pc (R'.le) (B₁.keeps S.F.keep) (S.M _ (.head _)).1 fun h₂ tk₂ t₂ k₂ => ?_
  try dsimp only
  have S := S.keeps k₂
  refine wpAny_Constant_int ?_
  refine eq_int ?_
  refine wpAny_truthy_bool ?_
  rw [if_neg (by simp; omega)]
  refine wpAt_of_wpAny (wpAny_execs_nil ?_)
  try dsimp only
  refine ks_wpAt_execs_cons ?_
  refine ks_wpAt_Return_some ?_
  refine ks_wpAt_MethodCall ?_
  refine supS (ar := ⟨"self", none, _⟩) B₁ S (S.M _ (.head _)).1 (by walk_at "wo look") rfl rfl rfl rfl rfl rfl rfl (by decide) rfl rfl rfl rfl rfl b_super fun so h₃ hso k₃ hs => ?_
  try dsimp only
  have S := S.keeps k₃
  refine sup_pop (B₁.keeps S.F.keep).K (S.M _ (.head _)).1 hz hso fun h₄ tk₄ n₄ e kx => ?_
  try dsimp only
  have S := Sm.chg S kx e
  exact h _ _ _ (kpx_of hp.symm S.F.keep) (S.M _ (.head _)).1

set_option maxHeartbeats 4000000 in
theorem ct_mk {w : World} {A : Around} {E : Value → Shared → Prop} {s : Shared} {mg mb : Lm} {Q : Value → Shared → Prop}
    (R : Rm A 4) (B : Bs w mg mb s.heap)
    (h : ∀ h' tk x dx od nn, Kp s.heap h' → h'.get? x = some (accO dx [] nn) → h'.get? dx = some od → DctOk od → s.heap.objs.size ≤ dx → s.heap.objs.size ≤ x → x ≠ dx → Q (.ref x) { s with heap := h', toks := tk }) :
    wpAny (model pw w) A (call (.ref 170) []) Q E s := by
  obtain ⟨hh, gg, dd, tt, os⟩ := s
  refine wpAny_call (acc_make B.K ?_)
  have k₀ : Kp hh ((hh.push emptyDict).push (accO hh.objs.size [] 0)) := fun b o e => Heap.get?_push_of_some _ (Heap.get?_push_of_some _ e)
  have hx : ((hh.push emptyDict).push (accO hh.objs.size [] 0)).get? (hh.objs.size + 1) = some (accO hh.objs.size [] 0) := by
    have := Heap.get?_push_size (o := accO hh.objs.size [] 0) (hh.push emptyDict) rfl
    rwa [Heap.size_push] at this
  have hd : ((hh.push emptyDict).push (accO hh.objs.size [] 0)).get? hh.objs.size = some emptyDict := Heap.get?_push_of_some _ (Heap.get?_push_size _ rfl)
  generalize hH : (hh.push emptyDict).push (accO hh.objs.size [] 0) = H at k₀ hx hd
  have hnone : ∀ b, hh.objs.size ≤ b → hh.get? b = none := fun b hb => Heap.get?_none_of_le hb
  refine codeAny_mono (R := wants (fun v s' => v = .none ∧ Q (.ref (hh.objs.size + 1)) s') E) (enterS (w := w) (s := ⟨H, gg, dd, tt, os⟩) (n := 2) R.mk170 B k₀ (k₀ _ _ (B.K 107 _ rfl)) (codeRec_of (B.keeps k₀).K (by kernel_rfl)) (binds := [("self", .ref (hh.objs.size + 1)), ("initial_size", _)]) (BindsTo.of_defaults (T := 99) rfl (k₀ _ _ (B.K 99 _ rfl)) rfl rfl rfl) (by decide) (locs rfl) rfl rfl rfl ?_) ?_
  · intro L h₁ A' tk hL R' hA' F
    simp only [List.foldl_cons, List.foldl_nil, upB] at F
    have hσ : ∀ r ∈ ([(hh.objs.size + 1, accO hh.objs.size [] 0), (hh.objs.size, emptyDict)] : Lg), H.get? r.1 = some r.2 ∧ hh.get? r.1 = none := fun r hr => by
      simp only [List.mem_cons, List.not_mem_nil, or_false] at hr
      rcases hr with rfl | rfl
      · exact ⟨hx, hnone _ (Nat.le_succ _)⟩
      · exact ⟨hd, hnone _ (Nat.le_refl _)⟩
    have S := Sm.hide (σ := [(hh.objs.size + 1, accO hh.objs.size [] 0), (hh.objs.size, emptyDict)]) F (fun r hr => (hσ r hr).1) (by simp)
    have k₁ : Kp hh (hideAll H (([(hh.objs.size + 1, accO hh.objs.size [] 0), (hh.objs.size, emptyDict)] : Lg).map (·.1))) := kp_hide k₀ fun r hr => (hσ r hr).2
    have B₁ := B.keeps k₁
    generalize hp : hideAll H (([(hh.objs.size + 1, accO hh.objs.size [] 0), (hh.objs.size, emptyDict)] : Lg).map (·.1)) = p at S k₁ B₁
    clear F
    refine ks_wpAt_execs_cons ?_
    refine ks_wpAt_Assign_Attr (wpAt_of_wpAny ?_)
    refine nmS (by assumption) (by walk_at "wo look") ?_ rfl (by rfl) (by decide +kernel)
    refine nmS (by assumption) (by walk_at "wo look") ?_ rfl (by rfl) (by decide +kernel)
    have e1 : h₁.get? (hh.objs.size + 1) = some (accO hh.objs.size [] 0) := (S.M _ (.head _)).1
    have e2 : h₁.get? hh.objs.size = some emptyDict := (S.M _ (.tail _ (.head _))).1
    refine acc_set (B₁.keeps S.F.keep).K e1 e2 fun h₂ tk₂ od ho e kx => ?_
    try dsimp only
    have S := Sm.chg (S.perm (List.Perm.swap ..)) kx e
    have S := S.perm (List.Perm.swap ..)
    refine ks_wpAt_execs_cons ?_
    refine ks_wpAt_Expr_any ?_
    refine ks_wpAt_MethodCall ?_
    refine supS (ar := ⟨"self", none, _⟩) B₁ S (S.M _ (.head _)).1 (by walk_at "wo look") rfl rfl rfl rfl rfl rfl rfl (by decide) rfl rfl rfl rfl rfl b_super fun so h₃ hso k₃ hs => ?_
    try dsimp only
    have S := S.keeps k₃
    refine sup_init (B₁.keeps S.F.keep).K (S.M _ (.head _)).1 hso fun h₄ tk₄ n₄ e kx => ?_
    try dsimp only
    have S := Sm.chg S kx e
    refine wpAt_of_wpAny (wpAny_execs_nil ?_)
    try dsimp only
    exact ⟨rfl, h _ _ _ _ od n₄ (k₁.trans S.F.keep) (S.M _ (.head _)).1 (S.M _ (.tail _ (.head _))).1 ho (Nat.le_refl _) (Nat.le_succ _) (Nat.succ_ne_self _)⟩
  · intro r s' hr
    rcases r with e | (v | _ | _ | _)
    · exact hr
    · exact hr.elim
    · exact hr.elim
    · exact hr.elim
    · exact hr

section
variable {w : World} {A : Around} {E : Value → Shared → Prop} {s : Shared} {Q : Value → Shared → Prop}
theorem preSum_eq (ns : List Int) : ∀ k, k ≤ ns.length → preSum (fun i => ns.getD i 0) k = (ns.take k).sum := by
  intro k
  induction k with
  | zero => intro _; simp [preSum]
  | succ k ih =>
    intro hk
    rw [preSum, ih (by omega), List.take_succ, List.sum_append]
    rw [List.getElem?_eq_getElem (by omega), List.getD_eq_getElem?_getD, List.getElem?_eq_getElem (by omega)]
    simp
theorem sumS {l : Addr} {vs : List Value} {ns : List Int} (hA : A.handled = none) (hl : s.heap.IsList l vs.toArray) (hi : IntsAre vs ns)
    (h : ∀ h' tk t, Kp s.heap h' → Q (.int ns.sum t) { s with heap := h', toks := tk }) : wpAny (model pw w) A (call (.builtin "sum") [.ref l]) Q E s := by
  have hne : l ≠ s.heap.objs.size := by
    obtain ⟨o, ho, _⟩ := id hl
    exact Nat.ne_of_lt (Heap.lt_size ho)
  have k : Kp s.heap (s.heap.push (liO l 0)) := fun b o e => Heap.get?_push_of_some _ e
  refine call_sum_walkG (wpAny_pyIter_list hl ⟨s.heap.objs.size, _, _, _, _, _, fun i => ns.getD i 0, rfl, Walks.list (A := A.in1) hA _ l hne vs.toArray, ⟨⟨_, Heap.get?_push_size _ rfl, rfl, rfl⟩, ?_⟩, ?_, ?_, ?_⟩)
  · obtain ⟨o, ho, r⟩ := hl
    exact ⟨o, k _ _ ho, r⟩
  · intro b hb
    have hlt : l < s.heap.objs.size := by obtain ⟨o, ho, _⟩ := hl; exact Heap.lt_size ho
    simp only [List.mem_cons, List.not_mem_nil, or_false] at hb
    show b < (s.heap.push (liO l 0)).objs.size
    rw [Heap.size_push]
    rcases hb with hb | hb
    · rw [hb]; exact Nat.lt_succ_self _
    · rw [hb]; exact Nat.lt_succ_of_lt hlt
  · intro i v hv
    exact hi.int_at i v (by simpa using hv)
  · intro h' tk t' hk
    have e : preSum (fun i => ns.getD i 0) vs.toArray.size = ns.sum := by
      rw [List.size_toArray, hi.length, preSum_eq ns _ (Nat.le_refl _), List.take_length]
    rw [e]
    exact h h' tk t' fun b o e => hk b o (fun z => by rw [List.mem_singleton.mp z] at e; exact absurd (Heap.lt_size e) (Nat.lt_irrefl _)) (k _ _ e)
noncomputable def txts (cs : List Nat) : List Str := cs.map fun c => ⟨#[c]⟩
theorem join_chars (cs : List Nat) : Txt.join ⟨#[]⟩ (txts cs) = ⟨cs.toArray⟩ := by
  rw [show Txt.join ⟨#[]⟩ (txts cs) = Str.join ⟨#[]⟩ (txts cs) from eq_of_beq (join_plain_closes _ _)]
  induction cs with
  | nil => rfl
  | cons c cs ih =>
    show Str.join ⟨#[]⟩ (⟨#[c]⟩ :: txts cs) = _
    rw [join_nil_cons, ih]
    show Str.mk (#[c] ++ cs.toArray) = _
    simp
theorem strs_of {g : Lg} {vs : List Value} {ts : List Str} (h : DatAll g vs (ts.map Dat.str)) : ∃ l : List (Str × Tok), vs = strValues l ∧ l.map (·.1) = ts := by
  induction vs generalizing ts with
  | nil =>
    have := h.length
    cases ts with
    | nil => exact ⟨[], rfl, rfl⟩
    | cons t ts => simp at this
  | cons v vs ih =>
    cases ts with
    | nil => cases h
    | cons x ts =>
      rw [List.map_cons] at h
      cases h with
      | cons h r =>
        obtain ⟨t, rfl⟩ := dstr h
        obtain ⟨l, rfl, e⟩ := ih r
        exact ⟨(x, t) :: l, rfl, by simp [e]⟩
theorem fold_one (cs : List Nat) : ∀ k, (txts cs).foldl (fun (n : Nat) (y : Str) => n + y.length + (⟨#[]⟩ : Str).length) k = k + cs.length := by
  induction cs with
  | nil => intro k; rfl
  | cons c cs ih =>
    intro k
    show (txts cs).foldl _ (k + 1 + 0) = _
    rw [ih]
    simp
    omega
theorem joinS {D : Addr} {g : Lg} {vs : List Value} {cs : List Nat} {t : Tok} (hl : s.heap.IsList D vs.toArray) (hd : DatAll g vs (cs.map chD)) (hn : cs.length ≤ 1000)
    (h : ∀ tk t', Q (.str ⟨cs.toArray⟩ t') { s with toks := tk }) : wpAny (model pw w) A (call (.builtin "str.join") [.str ⟨#[]⟩ t, .ref D]) Q E s := by
  have hd' : DatAll g vs ((txts cs).map Dat.str) := by unfold txts; rw [List.map_map]; exact hd
  obtain ⟨l, rfl, e⟩ := strs_of hd'
  refine SC.join hl e ?_ fun t' k => ?_
  · unfold JoinOk
    rw [List.foldl_toArray, fold_one]
    simp only [Builtin.Str.tooLong, Bool.not_eq_true', decide_eq_false_iff_not]
    rw [sizeLine_eq]
    omega
  · rw [join_chars]
    exact h k t'
theorem tupAt {value slice : Expr} {T : Addr} {items : Array Value} {k : Int} {j : Nat} {u : Tok} {y : Value} (hT : IsTup s.heap T items) (hk : k = j) (hj : items[j]? = some y) (hj2 : items.size ≤ 1000) (h : Q y s)
    (hs : ∃ us, subscripted slice false (.ref T) (.int k u) = operate us (getItem (.ref T) (.int k u))) (ht : ∀ r, letTemporaryGo value (.ref T) r = pure ()) : wpAny (model pw w) A (subscriptTail value slice (.ref T) (.int k u)) Q E s := by
  obtain ⟨us, hs⟩ := hs
  obtain ⟨o, ho, hc, r⟩ := id hT
  have hlt : j < items.size := by
    rcases Nat.lt_or_ge j items.size with q | q
    · exact q
    · rw [Array.getElem?_eq_none q] at hj; cases hj
  refine tailB (T := "tuple") ⟨o, ho, hc⟩ PySem.F.slot_tuple_getitem.lookup (getItem_tuple hT (by omega) (by omega) (j := j) ?_ hj h) hs ht
  unfold seqIndex?
  subst hk
  have e : (if ((j : Nat) : Int) < 0 then (j : Int) + (items.size : Int) else (j : Int)) = j := if_neg (by omega)
  simp only [e]
  simp [hlt]
end
theorem Sm.thaw {p h : Heap} {n : Nat} {L a : Addr} {o : Obj} {m : Lm} {μ g : Lg} (S : Sm p n L h m μ ((a, o) :: g)) (ha : p.get? a = Option.none) (hg : ∀ q ∈ g, q.1 ≠ a) : Sm p n L h m ((a, o) :: μ) g := by
  have A := S.G _ (.head _)
  refine ⟨S.F, fun q hq => ?_, ?_, fun q hq => ?_, S.N⟩
  · rcases List.mem_cons.mp hq with rfl | hq
    · exact ⟨A.1, A.2.2.1, ha⟩
    · exact S.M q hq
  · refine List.nodup_cons.mpr ⟨fun z => ?_, S.D⟩
    obtain ⟨r, hr, e⟩ := List.mem_map.mp z
    exact A.2.2.2 r hr e
  · have Z := S.G q (.tail _ hq)
    refine ⟨Z.1, Z.2.1, Z.2.2.1, fun r hr => ?_⟩
    rcases List.mem_cons.mp hr with rfl | hr
    · exact fun e => hg q hq e.symm
    · exact Z.2.2.2 r hr
section
variable {w : World} {A : Around} {E : Value → Shared → Prop} {s : Shared} {env : Env} {p : Heap} {n : Nat} {L : Addr} {m : Lm} {μ g : Lg} {up : Lm → Addr → Lm} {elt iter : Expr} {scope : Scope} {cl : List (Str × Addr)} {Q : Value → Shared → Prop} {x1 : Str} {p1 : Pos}
theorem hd_acc {x : Str} {px : Pos} {I xa dx : Addr} {vs : List Value} (hA : A.handled = none) (hf : Fnk env) (hx : env.kindOf x = some .local) (hne : xa ≠ I) :
    Hd w A env (.Name x px) I vs.length (liΩ I xa) (fun h => ∃ n, h.get? xa = some (accO dx vs n)) (fun i m m' => ∃ v, vs[i]? = some v ∧ m' = m.up x v) := by
  refine hd_one hf hx (fun i s o Q E hi ho hI hR hQ => ?_) (fun s o Q E ho hI hR hQ => ?_)
  · obtain ⟨nn, hR⟩ := hR
    refine accNext hI ho.1 ho.2 hR (y := vs[i]) (by simp [hi]) fun h' o' hI' hc hd hs' => ?_
    exact hQ _ h' s.toks o' (by simp [hi]) ⟨hc, hd⟩ hI' hs'
  · obtain ⟨nn, hR⟩ := hR
    exact accStop hA hI ho.1 ho.2 hR (by simp) fun h' he => hQ h' s.toks he
theorem accC {xa dx : Addr} {vs : List Value} {nn : Nat} (X : (KK w).In s.heap) (S : Sm p n L s.heap m μ g) (hl : s.heap.get? xa = some (accO dx vs nn)) (hA : A.handled = none) (sz : vs.length ≤ sizeLine) (d : Nat → Dat)
    (el : ∀ (i : Nat) (C : Addr) (p' : Heap) (n' : Nat) (m₀ : Lm) (μ' g' : Lg) (h : Heap) (tk : Nat) (v1 : Value), i < vs.length → vs[i]? = some v1 → Kp p p' → Lv p' g → Lv p' μ → s.heap.objs.size ≤ n' → Sm p' n' C h (m₀.up x1 v1) μ' g' → ElP w A elt (compEnvC scope cl C env) s p' n' C h (m₀.up x1 v1) μ' g' tk (d i))
    (fin : FinP s p n L s.heap (up m) μ g Q ((List.range vs.length).map d))
    (hf : ∀ C, Fnk (compEnvC scope cl C env) := by exact fun _ => rfl) (h1 : ∀ C, (compEnvC scope cl C env).kindOf x1 = some .local := by exact fun _ => by rfl) :
    wpAny (model pw w) A (pyIter (.ref xa)) (fun it s₂ => CGX w A env elt (.Name x1 p1) iter [] scope cl L up Q it s₂) E s := by
  have k : Kp s.heap (s.heap.push (liO xa 0)) := fun b o e => Heap.get?_push_of_some _ e
  have ne : xa ≠ s.heap.objs.size := Nat.ne_of_lt (Heap.lt_size hl)
  have hsz : s.heap.objs.size ≤ (s.heap.push (liO xa 0)).objs.size := by rw [Heap.size_push]; omega
  have src : Src w A (fun C => compEnvC scope cl C env) (.Name x1 p1) (s.heap.push (liO xa 0)) s.heap.objs.size vs.length (liΩ s.heap.objs.size xa) (fun h => ∃ n, h.get? xa = some (accO dx vs n)) (fun i m m' => ∃ v, vs[i]? = some v ∧ m' = m.up x1 v) (· = xa) [(s.heap.objs.size, liO xa 0)] :=
    ⟨fun C => hd_acc hA (hf C) (h1 C) ne, ⟨_, rfl, rfl, rfl⟩, fun q hq => by rw [List.mem_singleton.mp hq]; exact Heap.get?_push_size _ rfl, by simp, fun b hb => by rw [hb]; exact mem_1 ne, fun h' k' => ⟨nn, k' _ _ rfl (k _ _ hl)⟩, li_self⟩
  refine acc_iter X hl ⟨p, n, m, μ, g, src.go (S.alM (o := liO xa 0)) sz d ?_ fun D h' tk g' S' hg hD => fin D h' tk g' S' (fun q hq => Nat.le_trans hsz (hg q hq)) hD⟩
  rintro i C p' n' m₀ m' μ' g' h₅ tk₅ hik ⟨v1, e1, rfl⟩ kp lg lm hn' S'
  exact el i C p' n' m₀ μ' g' h₅ tk₅ v1 hik e1 kp lg lm (Nat.le_trans hsz hn') S'
end

noncomputable def spD (k : Nat) : Dat := .str ⟨(List.replicate k 32).toArray⟩
noncomputable def pcD (q : Nat × List Nat) : Dat := .tuple [spD q.1, strD q.2]
noncomputable def ntD (q : Nat × Nat × Nat) : Dat := .tuple [.int q.1, .int q.2.1, .int q.2.2]
noncomputable def mrg (e l : List Nat) : List Nat := l.foldl insL e
theorem insL_len (cs : List Nat) (c : Nat) : (insL cs c).length = cs.length + 1 := by
  unfold insL
  rw [List.length_append, List.length_cons, List.length_take, List.length_drop]
  omega
theorem mrg_len (l : List Nat) : ∀ e, (mrg e l).length = e.length + l.length := by
  induction l with
  | nil => intro e; rfl
  | cons c l ih =>
    intro e
    show (mrg (insL e c) l).length = _
    rw [ih, insL_len, List.length_cons]; omega
theorem two_of {α : Type} {l : List α} (h : l.length = 2) : ∃ a b, l = [a, b] := by
  match l, h with
  | [a, b], _ => exact ⟨a, b, rfl⟩
theorem last_two {α : Type} {l : List α} {n : Nat} (h : l.length = n + 2) : ∃ r a b, l = (r ++ [a]) ++ [b] ∧ r.length = n := by
  refine ⟨l.take n, l[n], l[n + 1], ?_, by simp; omega⟩
  apply List.ext_getElem
  · simp; omega
  · intro i h1 h2
    by_cases hi : i < n
    · rw [List.getElem_append_left (by simp; omega), List.getElem_append_left (by simp; omega)]; simp
    · by_cases hi2 : i = n
      · subst hi2; rw [List.getElem_append_left (by simp; omega), List.getElem_append_right (by simp; omega)]; simp
      · have : i = n + 1 := by omega
        subst this; rw [List.getElem_append_right (by simp; omega)]; simp
theorem castSum (ps : List (Nat × List Nat)) : (ps.map fun q => ((q.2.length : Nat) : Int)).sum = (((ps.map fun q => q.2.length).sum : Nat) : Int) := by
  induction ps with
  | nil => rfl
  | cons a r ih => simp only [List.map_cons, List.sum_cons]; rw [ih]; push_cast; rfl
theorem chars0 {g : Lg} {vs : List Value} {cs : List Nat} (h : DatAll g vs (cs.map chD)) : DatAll [] vs (cs.map chD) := by
  induction vs generalizing cs with
  | nil =>
    have := h.length
    cases cs with
    | nil => exact .nil
    | cons c cs => simp at this
  | cons v vs ih =>
    cases cs with
    | nil => cases h
    | cons c cs =>
      rw [List.map_cons] at h ⊢
      cases h with
      | cons h r =>
        obtain ⟨t, rfl⟩ := dstr h
        exact .cons (.str _ _) (ih r)
theorem piece {g : Lg} {v : Value} {k : Nat} {e : List Nat} (h : DatIn g v (pcD (k, e))) : ∃ T t u n, v = .ref T ∧ (T, ({ cls := .type "tuple", data := .seq #[.str ⟨(List.replicate k 32).toArray⟩ t, .str ⟨e.toArray⟩ u] n } : Obj)) ∈ g := by
  unfold pcD at h
  cases h with
  | tuple hm r =>
    obtain ⟨a, b, rfl⟩ := two_of (by simpa using r.length)
    cases r with
    | cons h1 r =>
      cases r with
      | cons h2 r =>
        obtain ⟨t, rfl⟩ := dstr h1
        obtain ⟨u, rfl⟩ := dstr h2
        exact ⟨_, t, u, _, rfl, hm⟩

set_option maxHeartbeats 4000000 in
theorem ct_join {w : World} {A : Around} {E : Value → Shared → Prop} {s : Shared} {mg mb : Lm} {h₀ : Heap} {x dx nl : Addr} {vs ws : List Value} {nn mm : Nat} {od : Obj} {ps : List (Nat × List Nat)} {k1 k2 : Nat} {e l : List Nat} {ns : List (Nat × Nat × Nat)} {g₀ : Lg} {Q : Value → Shared → Prop}
    (R : Rm A 6) (B : Bs w mg mb h₀) (k₀ : Kp h₀ s.heap) (hx : s.heap.get? x = some (accO dx vs nn)) (hx0 : h₀.get? x = none) (hdx : s.heap.get? dx = some od) (ho : DctOk od) (hnl : s.heap.get? nl = some (listOf ws.toArray mm)) (hnl0 : h₀.get? nl = none)
    (hg : ∀ q ∈ g₀, s.heap.get? q.1 = some q.2 ∧ q.1 ≠ x ∧ q.1 ≠ nl) (hvs : DatAll g₀ vs ((ps ++ [(k1, e)] ++ [(k2, l)]).map pcD)) (hws : DatAll g₀ ws (ns.map ntD))
    (z1 : ps.length ≤ 100) (z2 : ∀ q ∈ ps, q.2.length ≤ 100) (z3 : e.length ≤ 100) (z4 : l.length ≤ 100) (z5 : ns.length ≤ 100) (z6 : ∀ c ∈ e, c < 128) (z7 : ∀ c ∈ l, c < 128)
    (h : ∀ h' tk vs' ws' n' m' g', KpX [x, nl] s.heap h' → (∀ q ∈ g', h'.get? q.1 = some q.2 ∧ s.heap.objs.size ≤ q.1) → h'.get? x = some (accO dx vs' n') → h'.get? nl = some (listOf ws'.toArray m') →
      DatAll (g' ++ g₀) vs' ((ps ++ [(k1, mrg e l)]).map pcD) → DatAll (g' ++ g₀) ws' ((ns ++ [((ps.map fun q => q.2.length).sum, (ps.map fun q => q.2.length).sum + e.length, (ps.map fun q => q.2.length).sum + e.length + l.length)]).map ntD) → Q .none { s with heap := h', toks := tk }) :
    wpAny (model pw w) A (call (.ref 198) [.ref x, .ref nl]) Q E s := by
  obtain ⟨vs, v1, v2, rfl, hvl⟩ := last_two (n := ps.length) (l := vs) (by simpa using hvs.length)
  refine enterU (n := 5) R B k₀ (k₀ _ _ (B.K 198 _ rfl)) (codeRec_of (B.keeps k₀).K (by kernel_rfl)) (binds := [("pile", .ref x), ("noted", .ref nl)]) (BindsTo.of_eq rfl) (by decide) (locs rfl) rfl rfl rfl ?_
  intro L h₁ A' tk hL R' hA' F
  simp only [List.foldl_cons, List.foldl_nil, upB] at F
  have hxn : x ≠ nl := fun q => by rw [q, hnl] at hx; cases hx
  have hσ : ∀ r ∈ ([(x, accO dx (vs ++ [v1] ++ [v2]) nn), (nl, listOf ws.toArray mm)] : Lg), s.heap.get? r.1 = some r.2 ∧ h₀.get? r.1 = none := fun r hr => by
    simp only [List.mem_cons, List.not_mem_nil, or_false] at hr
    rcases hr with rfl | rfl
    · exact ⟨hx, hx0⟩
    · exact ⟨hnl, hnl0⟩
  have S := Sm.hide (σ := [(x, accO dx (vs ++ [v1] ++ [v2]) nn), (nl, listOf ws.toArray mm)]) F (fun r hr => (hσ r hr).1) (by simpa using hxn)
  have k₁ : Kp h₀ (hideAll s.heap (([(x, accO dx (vs ++ [v1] ++ [v2]) nn), (nl, listOf ws.toArray mm)] : Lg).map (·.1))) := kp_hide k₀ fun r hr => (hσ r hr).2
  have B₁ := B.keeps k₁
  have hd1 : dx ≠ x := fun e => by
    rw [e, hx] at hdx
    obtain ⟨_, _, _, q, _⟩ := ho
    rw [q] at hdx; cases hdx
  have hd2 : dx ≠ nl := fun e => by
    rw [e, hnl] at hdx
    obtain ⟨_, _, _, q, _⟩ := ho
    rw [q] at hdx
    exact absurd (Value.type.inj (congrArg Obj.cls (Option.some.inj hdx))) (by decide)
  have hd₁ : (hideAll s.heap (([(x, accO dx (vs ++ [v1] ++ [v2]) nn), (nl, listOf ws.toArray mm)] : Lg).map (·.1))).get? dx = some od := hideAll_get _ hdx fun z => by
    simp only [List.map_cons, List.map_nil, List.mem_cons, List.not_mem_nil, or_false] at z
    exact z.elim hd1 hd2
  have lg : Lv (hideAll s.heap (([(x, accO dx (vs ++ [v1] ++ [v2]) nn), (nl, listOf ws.toArray mm)] : Lg).map (·.1))) g₀ := fun q hq => hideAll_get _ (hg q hq).1 fun z => by
    simp only [List.map_cons, List.map_nil, List.mem_cons, List.not_mem_nil, or_false] at z
    exact z.elim (hg q hq).2.1 (hg q hq).2.2
  generalize hp : hideAll s.heap (([(x, accO dx (vs ++ [v1] ++ [v2]) nn), (nl, listOf ws.toArray mm)] : Lg).map (·.1)) = p at S k₁ B₁ hd₁ lg
  clear F
  rw [List.map_append, List.map_append] at hvs
  obtain ⟨es, d2, ed, hv1, hw2⟩ := hvs.snoc
  obtain ⟨e1, e2⟩ := List.append_inj' ed rfl
  cases e2; subst e1
  obtain ⟨es, d1, ed, hv0, hw1⟩ := hv1.snoc
  obtain ⟨e1, e2⟩ := List.append_inj' ed rfl
  cases e2; subst e1
  obtain ⟨T2, t1, u1, n1, rfl, hT2⟩ := piece hw2
  obtain ⟨T1, t2, u2, n2, rfl, hT1⟩ := piece hw1
  refine wpAny_execs_cons ?_
  refine Assign_Tuple ?_
  refine MethodCall_ ?_
  refine nmS (by assumption) (by walk_at "wo look") ?_ rfl (by rfl) (by decide +kernel)
  refine acc_meth (B₁.keeps S.F.keep).K (S.M _ (.head _)).1 (S.F.keep _ _ hd₁) ho (f := .ref 130) (tf := .type "function") (by kernel_rfl) (by kernel_rfl) (by decide) (by decide +kernel) ?_
  try dsimp only
  refine callWith_F0 ⟨_, _, _, _, (B₁.keeps S.F.keep).K 130 _ rfl⟩ ?_
  refine ct_popA (R'.le) B₁ S.F.keep (S.M _ (.head _)).1 (S.M _ (.head _)).2.2 (S.F.keep _ _ hd₁) ho (by simp; omega) fun h₂ tk₂ n₂ kx hx₂ => ?_
  try dsimp only
  have S := Sm.chg S (fun b y hb e => kx b y (fun z => hb (List.mem_singleton.mp z)) e) hx₂
  refine asg2 (n := L) R'.h rfl (by rfl) (by rfl) ⟨_, S.F.keep _ _ (lg _ hT2), rfl, _, rfl⟩ S fun h₃ tk₃ S => ?_
  try dsimp only
  refine wpAny_execs_cons ?_
  refine Assign_Tuple ?_
  refine MethodCall_ ?_
  refine nmS (by assumption) (by walk_at "wo look") ?_ rfl (by rfl) (by decide +kernel)
  refine acc_meth (B₁.keeps S.F.keep).K (S.M _ (.head _)).1 (S.F.keep _ _ hd₁) ho (f := .ref 130) (tf := .type "function") (by kernel_rfl) (by kernel_rfl) (by decide) (by decide +kernel) ?_
  try dsimp only
  refine callWith_F0 ⟨_, _, _, _, (B₁.keeps S.F.keep).K 130 _ rfl⟩ ?_
  refine ct_popA (R'.le) B₁ S.F.keep (S.M _ (.head _)).1 (S.M _ (.head _)).2.2 (S.F.keep _ _ hd₁) ho (by omega) fun h₄ tk₄ n₄ kx hx₄ => ?_
  try dsimp only
  have S := Sm.chg S (fun b y hb e => kx b y (fun z => hb (List.mem_singleton.mp z)) e) hx₄
  refine asg2 (n := L) R'.h rfl (by rfl) (by rfl) ⟨_, S.F.keep _ _ (lg _ hT1), rfl, _, rfl⟩ S fun h₅ tk₅ S => ?_
  try dsimp only
  refine wpAny_execs_cons ?_
  refine wpAny_Assign_Name ?_
  refine Call_ ?_
  refine nmSB (by assumption) (by assumption) (by kernel_rfl) b_sum (by decide +kernel) ?_ rfl rfl rfl (by rfl) (by decide +kernel)
  refine PyProof.Rows.callWith_builtin1 ?_
  refine args_cons ?_
  refine evX L (by rfl) (by decide) rfl (by decide) ?_
  refine nmS (by assumption) (by walk_at "wo look") ?_ rfl (by rfl) (by decide +kernel)
  refine accC (B₁.keeps S.F.keep).K S (S.M _ (.head _)).1 R'.h (by rw [sizeLine_eq]; omega) (fun i => .int ((ps.map fun q => q.2.length).getD i 0 : Nat)) ?_ ?_
  · rintro i C p' n' m₀ μ' g' h₆ tk₆ v1 hi e1 kp lg' lm hn' S'
    have B' := B₁.keeps kp
    obtain ⟨q, hq⟩ : ∃ q, ps[i]? = some q := ⟨_, List.getElem?_eq_getElem (by omega)⟩
    obtain ⟨v, ev, hv⟩ := datGet hv0 (k := i) (d := pcD q) (by simp [hq])
    rw [e1] at ev; cases ev
    obtain ⟨T, t, u, n₀, rfl, hT⟩ := piece hv
    refine Call_ ?_
    refine nmSB (by assumption) (by assumption) (by kernel_rfl) b_len (by decide +kernel) ?_ rfl rfl rfl (by rfl) (by decide +kernel)
    refine PyProof.Rows.callWith_builtin1 ?_
    refine args_cons ?_
    refine Subscript_ ?_
    refine nmS (by assumption) (by walk_at "wo look") ?_ rfl (by rfl) (by decide +kernel)
    refine wpAny_Constant_int ?_
    refine tupAt (j := 1) (y := .str ⟨q.2.toArray⟩ u) ⟨_, S'.F.keep _ _ (kp _ _ (lg _ hT)), rfl, _, rfl⟩ rfl rfl (by simp) ?_ ⟨[_, _], by with_unfolding_all rfl⟩ (by intro _; with_unfolding_all rfl)
    refine args_nil ?_
    have hq2 : q.2.length ≤ 100 := z2 q (List.mem_of_getElem? hq)
    refine P.len_str (by show ¬ ((q.2.toArray.size : Nat) : Int) ≥ 2 ^ 63; rw [List.size_toArray]; omega) ?_
    try dsimp only
    have ev : (ps.map fun q => q.2.length).getD i 0 = q.2.length := by rw [List.getD_eq_getElem?_getD, List.getElem?_map, hq]; rfl
    rw [ev]
    exact ⟨_, _, [], rfl, S', by show DatIn _ (.int ((q.2.toArray.size : Nat) : Int) _) _; rw [List.size_toArray]; exact .int _ _⟩
  · intro D h₆ tk₆ g' S hg' hD
    dsimp only at S
    try dsimp only
    refine args_nil ?_
    obtain ⟨bs, nb, hmb, hall⟩ := dlist hD
    have hal : (List.range vs.length).map (fun i => Dat.int ((ps.map fun q => q.2.length).getD i 0 : Nat)) = ((ps.map fun q => ((q.2.length : Nat) : Int)).map Dat.int) := by
      apply List.ext_getElem
      · simp [hvl]
      · intro i h1 h2
        simp at h1 h2
        simp [h2]
    rw [hal] at hall
    refine sumS R'.h (S.lv.list (List.mem_append_left _ hmb)) (dints hall) fun h₇ tk₇ t₇ k₇ => ?_
    try dsimp only
    have S := S.keeps k₇
    rw [castSum ps]
    refine stS S rfl (by rfl) fun h₈ tk₈ S => ?_
    try dsimp only
    refine wpAny_execs_cons ?_
    refine wpAny_Assign_Name ?_
    refine wpAny_BinOp ?_
    refine nmS (by assumption) (by walk_at "wo look") ?_ rfl (by rfl) (by decide +kernel)
    refine Call_ ?_
    refine nmSB (by assumption) (by assumption) (by kernel_rfl) b_len (by decide +kernel) ?_ rfl rfl rfl (by rfl) (by decide +kernel)
    refine PyProof.Rows.callWith_builtin1 ?_
    refine args_cons ?_
    refine nmS (by assumption) (by walk_at "wo look") ?_ rfl (by rfl) (by decide +kernel)
    refine args_nil ?_
    refine P.len_str (by show ¬ ((e.toArray.size : Nat) : Int) ≥ 2 ^ 63; rw [List.size_toArray]; omega) ?_
    try dsimp only
    refine addR (((ps.map fun q => q.2.length).sum + e.length : Nat) : Int) (by show _ + ((e.toArray.size : Nat) : Int) = _; rw [List.size_toArray]; push_cast; rfl) fun _ _ => ?_
    refine stS S rfl (by rfl) fun h₉ tk₉ S => ?_
    try dsimp only
    refine wpAny_execs_cons ?_
    refine wpAny_Expr_any ?_
    refine MethodCall_ ?_
    refine nmS (by assumption) (by walk_at "wo look") ?_ rfl (by rfl) (by decide +kernel)
    refine lmeth (S.M _ (.tail _ (.head _))).1 PySem.F.slot_list_append PySem.F.type_list_append ?_
    refine callWith_method1 ?_
    refine args_cons ?_
    refine Tuple_ ?_
    refine args_cons ?_
    refine nmS (by assumption) (by walk_at "wo look") ?_ rfl (by rfl) (by decide +kernel)
    refine args_cons ?_
    refine nmS (by assumption) (by walk_at "wo look") ?_ rfl (by rfl) (by decide +kernel)
    refine args_cons ?_
    refine wpAny_BinOp ?_
    refine nmS (by assumption) (by walk_at "wo look") ?_ rfl (by rfl) (by decide +kernel)
    refine Call_ ?_
    refine nmSB (by assumption) (by assumption) (by kernel_rfl) b_len (by decide +kernel) ?_ rfl rfl rfl (by rfl) (by decide +kernel)
    refine PyProof.Rows.callWith_builtin1 ?_
    refine args_cons ?_
    refine nmS (by assumption) (by walk_at "wo look") ?_ rfl (by rfl) (by decide +kernel)
    refine args_nil ?_
    refine P.len_str (by show ¬ ((l.toArray.size : Nat) : Int) ≥ 2 ^ 63; rw [List.size_toArray]; omega) ?_
    try dsimp only
    refine addR (((ps.map fun q => q.2.length).sum + e.length + l.length : Nat) : Int) (by show _ + ((l.toArray.size : Nat) : Int) = _; rw [List.size_toArray]; push_cast; rfl) fun _ _ => ?_
    refine args_nil ?_
    refine tupS S (by walk_at "wo sz") fun T h₁₀ S hT _ => ?_
    try dsimp only
    refine args_nil ?_
    try dsimp only [List.cons_append, List.nil_append]
    refine appS (S.perm (List.Perm.swap ..)) (by have := hws.length; simp at this; rw [sizeLine_eq]; omega) fun h₁₁ n₁₁ S _ => ?_
    refine wpAny_execs_cons ?_
    refine usX (by rfl) (by rfl) (by decide) rfl (by decide) rfl (by rfl) ?_
    refine nmS (by assumption) (by walk_at "wo look") ?_ rfl (by rfl) (by decide +kernel)
    have S0 := S
    refine strC S (by rw [List.all_toArray]; simpa using z6) R'.h (by rw [List.size_toArray, sizeLine_eq]; omega) (fun i => chD (e.getD i 0)) ?_ ?_
    · rintro i C p' n' m₀ μ' g' h₆ tk₆ v1 hi ⟨c, t, hc, rfl⟩ kp lg' lm hn' S'
      refine nmS (by assumption) (by walk_at "wo look") ?_ rfl (by rfl) (by decide +kernel)
      have : e.getD i 0 = c := by rw [List.getD_eq_getElem?_getD]; simpa using congrArg (·.getD 0) hc
      rw [this]
      exact ⟨_, _, [], rfl, S', .str _ _⟩
    · intro D₂ h₁₂ tk₁₂ g₂ S hg₂ hD₂
      dsimp only at S
      try dsimp only at hg₂
      obtain ⟨rs, nr, hmr, hall₂⟩ := dlist hD₂
      have hal₂ : (List.range (⟨e.toArray⟩ : Str).cps.size).map (fun i => chD (e.getD i 0)) = e.map chD := by
        apply List.ext_getElem
        · simp
        · intro i h1 h2
          simp at h1 h2
          simp [h2]
      rw [hal₂] at hall₂
      replace hall₂ := chars0 hall₂
      have S := S.gsub (g' := (D₂, listOf rs.toArray nr) :: _) (fun q hq => by
        rcases List.mem_cons.mp hq with rfl | hq
        · exact List.mem_append_left _ hmr
        · exact List.mem_append_right _ hq)
      have S := S.thaw (S0.none (hg₂ _ hmr)) fun q hq z => absurd (Heap.lt_size (S0.G q hq).1) (Nat.not_lt.mpr (by rw [z]; exact hg₂ _ hmr))
      try dsimp only
      refine wpAny_execs_cons ?_
      refine wpAny_For ?_
      refine nmS (by assumption) (by walk_at "wo look") ?_ rfl (by rfl) (by decide +kernel)
      refine wpAny_pyIter_ascii (by rw [List.all_toArray]; simpa using z7) ?_
      obtain ⟨G, hG, S⟩ := S.named
      have SI := S.alM (o := { cls := .type "str_ascii_iterator", data := .fields #[.str ⟨l.toArray⟩ u1, .int 0 0] })
      refine forH (fun i m μ g => ∃ rs nr, μ = [(D₂, listOf rs.toArray nr), (nl, listOf (ws ++ [Value.ref T]).toArray n₁₁), (x, accO dx vs n₄)] ∧ DatAll [] rs ((mrg e (l.take i)).map chD) ∧ m "row" = some (.ref D₂) ∧ m "pile" = some (.ref x) ∧ m "front" = some (.str ⟨(List.replicate k1 32).toArray⟩ t2) ∧ ∀ q ∈ G, q ∈ g)
        (hd_str (X := ⟨l.toArray⟩) (t₀ := u1) R'.h rfl (by rfl)) (ω := [_]) ⟨_, rfl, rfl, rfl⟩ SI ?_ ?_ ?_ ?_
      · exact ⟨rs, nr, rfl, hall₂, by walk_at "wo look", by walk_at "wo look", by walk_at "wo look", fun q hq => hq⟩
      · intros; trivial
      · rintro i m₁ m₂ μ' g' ω' h' tk' hi ⟨rs, nr, rfl, hrs, r1, r2, r3, hsub⟩ ⟨_, ⟨c, t', hc, rfl⟩, rfl⟩ S
        have hc' : l[i]? = some c := by simpa using hc
        have hil : i < l.length := by simpa using hi
        have hst : mrg e (l.take (i + 1)) = insL (mrg e (l.take i)) c := by
          unfold mrg
          rw [List.take_add_one, hc', Option.toList_some, List.foldl_append]; rfl
        refine wpAny_execs_cons ?_
        refine wpAny_Expr_any ?_
        refine CallKw ?_
        refine nmSG (by assumption) (by assumption) g_insort_right ?_ rfl rfl (by rfl) (by decide +kernel)
        refine cwKw (fn_insort_right B₁) ?_
        refine args_cons ?_
        refine nmS (by assumption) (by walk_at "wo look") ?_ rfl (by rfl) (by decide +kernel)
        refine args_cons ?_
        refine nmS (by assumption) (by walk_at "wo look") ?_ rfl (by rfl) (by decide +kernel)
        refine args_nil ?_
        refine nmSG (by assumption) (by assumption) g_law_rank ?_ rfl rfl (by rfl) (by decide +kernel)
        refine ⟨S.F.keep, ct_ins R' B₁ S.F.keep (S.M _ (List.mem_append_right _ (.head _))).1 (S.M _ (List.mem_append_right _ (.head _))).2.2 hrs (by rw [mrg_len, List.length_take]; omega) fun h₁₃ tk₁₃ rs' n' kx hrow hd' => ?_⟩
        try dsimp only
        have S := Sm.chg (S.perm List.perm_middle) (fun b y hb e => kx b y (fun z => hb (List.mem_singleton.mp z)) e) hrow
        refine wpAny_execs_nil ?_
        refine ⟨.inl rfl, _, _, _, _, _, rfl, S.perm List.perm_middle.symm, rs', n', rfl, by rw [hst]; exact hd', by walk_at "wo look", by walk_at "wo look", by walk_at "wo look", hsub⟩
      · rintro m' μ' g' h' tk' ⟨rs, nr, rfl, hrs, r1, r2, r3, hsub⟩ S
        have hrs' : DatAll [] rs ((mrg e l).map chD) := by
          have := hrs
          rwa [List.take_of_length_le (by simp)] at this
        try dsimp only
        refine wpAny_execs_cons ?_
        refine wpAny_Expr_any ?_
        refine MethodCall_ ?_
        refine nmS (by assumption) (by walk_at "wo look") ?_ rfl (by rfl) (by decide +kernel)
        refine acc_meth (B₁.keeps S.F.keep).K (S.M _ (.tail _ (.tail _ (.head _)))).1 (S.F.keep _ _ hd₁) ho (f := .ref 114) (tf := .type "function") (by kernel_rfl) (by kernel_rfl) (by decide) (by decide +kernel) ?_
        try dsimp only
        refine callWith_F ⟨_, _, _, _, (B₁.keeps S.F.keep).K 114 _ rfl⟩ ?_
        refine args_cons ?_
        refine nmS (by assumption) (by walk_at "wo look") ?_ rfl (by rfl) (by decide +kernel)
        refine args_cons ?_
        refine MethodCall_ ?_
        refine Calls.Constant_str ?_
        refine getMethod_builtin (T := "str") (typeIs_str _ _ _) PySem.F.plainAttrs_str PySem.F.slot_str_join PySem.F.type_str_join (fun a e => by cases e) ?_
        refine callWith_method1 ?_
        refine args_cons ?_
        refine nmS (by assumption) (by walk_at "wo look") ?_ rfl (by rfl) (by decide +kernel)
        refine args_nil ?_
        try dsimp only [List.cons_append, List.nil_append]
        refine joinS (cs := mrg e l) ⟨_, (S.M _ (.head _)).1, rfl, _, rfl⟩ hrs' (by rw [mrg_len]; omega) fun tk₁₄ t₁₄ => ?_
        refine args_nil ?_
        refine ⟨⟨_, _, _, _, (B₁.keeps S.F.keep).K 114 _ rfl⟩, ct_push (R'.le) B₁ S.F.keep (S.M _ (.tail _ (.tail _ (.head _)))).1 (S.M _ (.tail _ (.tail _ (.head _)))).2.2 (S.F.keep _ _ hd₁) ho (by omega) fun h₁₅ tk₁₅ T₃ n₁₅ kx hx₁₅ hT₃ hsz₃ => ?_⟩
        try dsimp only
        have S := Sm.callX (ω := [(x, _)]) (ω' := [(x, accO dx (vs ++ [.ref T₃]) n₁₅)]) (g' := [(T₃, _)]) (S.perm (List.perm_middle (l₁ := [_, _]))) rfl kx (fun q hq => by rw [List.mem_singleton.mp hq]; exact hx₁₅) (fun q hq => by rw [List.mem_singleton.mp hq]; exact ⟨hT₃, hsz₃⟩)
        refine wpAny_execs_nil ?_
        try dsimp only
        have mT := Wo.hd1 hG
        refine h _ _ _ _ _ _ _ (kpx_of hp.symm S.F.keep) (fun q hq => ⟨(S.G q hq).1, hL ▸ (S.G q hq).2.1⟩) (S.M _ (.head _)).1 (S.M _ (.tail _ (.tail _ (.head _)))).1 ?_ ?_
        · rw [List.map_append]
          exact (hv0.mono fun q hq => List.mem_append_right _ hq).append (.one (.tuple (List.mem_append_left _ (.head _)) (.cons (.str _ _) (.cons (.str _ _) .nil))))
        · rw [List.map_append]
          exact (hws.mono fun q hq => List.mem_append_right _ hq).append (.one (.tuple (List.mem_append_left _ (List.mem_append_right _ (hsub _ mT))) (.cons (.int _ _) (.cons (.int _ _) (.cons (.int _ _) .nil)))))

section
variable {w : World} {A : Around} {E : Value → Shared → Prop} {s : Shared} {env : Env} {p : Heap} {n : Nat} {m : Lm} {μ g : Lg}
theorem swT2 {x1 x2 : Str} {T : Addr} {v1 v2 : Value} {Q : Unit → Shared → Prop} (hA : A.handled = none) (hf : Fnk env) (h1 : env.kindOf x1 = some .local) (h2 : env.kindOf x2 = some .local)
    (hT : IsTup s.heap T #[v1, v2]) (S : Sm p n env.locals s.heap m μ g) (h : ∀ h' tk, Sm p n env.locals h' ((m.up x2 v2).up x1 v1) μ g → Q () { s with heap := h', toks := tk }) :
    wpAny (model pw w) A (unpackItems (.ref T) [x1, x2].length none) (fun items s₂ => wpAny (model pw w) A (assignInOrder ([x1, x2].reverse.map fun n => bindName env n) items.reverse) Q E s₂) E s := by
  refine unpackItems_tuple (items := #[v1, v2]) (Q := fun items s₂ => wpAny (model pw w) A (assignInOrder ([x1, x2].reverse.map fun n => bindName env n) items.reverse) Q E s₂) hA hT fun h' hk => ?_
  show wpAny (model pw w) A (assignInOrder [bindName env x2, bindName env x1] [v2, v1]) Q E _
  have S1 := S.keeps (h' := h') fun b x e => hk b x (Nat.ne_of_lt (Heap.lt_size e)) e
  refine assignInOrder_cons (bindName_ (stS S1 hf h2 fun h2' tk2 S2 => ?_))
  exact assignInOrder_cons (bindName_ (stS S2 hf h1 fun h3' tk3 S3 => assignInOrder_nil (h _ _ S3)))
theorem tailC {value slice : Expr} {o i : Value} {T id : String} {us : List Value} {Q : Value → Shared → Prop} (hT : s.TypeIs o T)
    (hl : typeLookup (.type T) "__getitem__" = pure (some (.builtin id))) (h : wpAny (model pw w) A (getItem o i) Q E s)
    (hs : subscripted slice false o i = operate us (getItem o i)) : wpAny (model pw w) A (subscriptTail value slice o i) Q E s := by
  unfold subscriptTail
  refine wpAny_bind ?_
  rw [getitemInPython_of_ne hT.not_modules]
  refine wpAny_bind (wpAny_specialOf hT hl (wpAny_pure (wpAny_bind ?_)))
  rw [hs]
  exact wpAny_operating (wpAny_mono h (fun r s₃ h₃ => wpAny_bind (wpAny_letTemporaryGo (wpAny_pure h₃))) fun _ _ x => x)
theorem tupAt' {value slice : Expr} {T : Addr} {items : Array Value} {k : Int} {j : Nat} {u : Tok} {y : Value} {Q : Value → Shared → Prop} (hT : IsTup s.heap T items) (hk : k = j) (hj : items[j]? = some y) (hj2 : items.size ≤ 1000) (h : Q y s)
    (hs : ∃ us, subscripted slice false (.ref T) (.int k u) = operate us (getItem (.ref T) (.int k u))) : wpAny (model pw w) A (subscriptTail value slice (.ref T) (.int k u)) Q E s := by
  obtain ⟨us, hs⟩ := hs
  obtain ⟨o, ho, hc, r⟩ := id hT
  have hlt : j < items.size := by
    rcases Nat.lt_or_ge j items.size with q | q
    · exact q
    · rw [Array.getElem?_eq_none q] at hj; cases hj
  refine tailC (T := "tuple") ⟨o, ho, hc⟩ PySem.F.slot_tuple_getitem.lookup (getItem_tuple hT (by omega) (by omega) (j := j) ?_ hj h) hs
  unfold seqIndex?
  subst hk
  have e : (if ((j : Nat) : Int) < 0 then (j : Int) + (items.size : Int) else (j : Int)) = j := if_neg (by omega)
  simp only [e]
  simp [hlt]
theorem pcS {mg mb : Lm} {h₀ : Heap} {x dx : Addr} {vs : List Value} {nn : Nat} {od : Obj} {pos : Pos} {pl : Sem Bool} {Q : Value → Shared → Prop} (R : Rm A 2) (B : Bs w mg mb h₀) (k₀ : Kp h₀ s.heap) (hx : s.heap.get? x = some (accO dx vs nn)) (hd : s.heap.get? dx = some od) (ho : DctOk od)
    (h : ∀ h' tk t, Kp s.heap h' → Q (.int vs.length t) { s with heap := h', toks := tk }) :
    wpAny (model pw w) A (getMethod (.ref x) "part_count" pl) (fun fx s₂ => wpAny (model pw w) A (callWith pos fx.1 fx.2 (backTo pos (starEach [] env)) []) Q E s₂) E s := by
  refine acc_meth (B.keeps k₀).K hx hd ho (f := .ref 167) (tf := .type "function") (by kernel_rfl) (by kernel_rfl) (by decide) (by decide +kernel) ?_
  refine callWith_F0 ⟨_, _, _, _, (B.keeps k₀).K 167 _ rfl⟩ ?_
  exact ct_pc R (B.keeps k₀) hx h
theorem forZip {E' : Value → Shared → Prop} {x1 x2 : Str} {p1 p2 pos : Pos} {kk : Nat} {body : List Stmt} {l1 l2 : Addr} {xs ys : Array Value} {k : Nat} {R : Result → Shared → Prop} (J : Nat → Lm → Lg → Lg → Prop)
    (S : Sm p n env.locals s.heap m μ g) (hl1 : s.heap.IsList l1 xs) (hl2 : s.heap.IsList l2 ys) (hk : k = min xs.size ys.size) (hA : A.handled = none) (hf : Fnk env) (h1 : env.kindOf x1 = some .local) (h2 : env.kindOf x2 = some .local)
    (hJ : J 0 m μ g) (hR : ∀ (h' : Heap) (i : Nat) (m' : Lm) (ω' μ' g' : Lg), J i m' μ' g' → Sm p n env.locals h' m' (ω' ++ μ') g' → h'.IsList l1 xs ∧ h'.IsList l2 ys)
    (turn : ∀ i m₁ v1 v2 μ' g' ω' h' tk, i < k → J i m₁ μ' g' → xs[i]? = some v1 → ys[i]? = some v2 → Sm p n env.locals h' ((m₁.up x1 v1).up x2 v2) (ω' ++ μ') g' →
      wpAny (model pw w) A (execs body env) (fun f s' => (f = .next ∨ f = .cont) ∧ ∃ h'' tk' m₃ μ'' g'', s' = { s with heap := h'', toks := tk' } ∧ Sm p n env.locals h'' m₃ (ω' ++ μ'') g'' ∧ J (i + 1) m₃ μ'' g'') (fun _ _ => False) { s with heap := h', toks := tk })
    (done : ∀ m' μ' g' h' tk, J k m' μ' g' → Sm p n env.locals h' m' μ' g' → R (.ok .next) { s with heap := h', toks := tk }) :
    wpAny (model pw w) A (call (.type "zip") [.ref l1, .ref l2]) (fun xv s₁ => wpAny (model pw w) A (pyIter xv) (fun it s₂ => codeAny (model pw w) A (.forLoop (.Tuple [.Name x1 p1, .Name x2 p2] kk pos) it body [] env) R s₂) E' s₁) E s := by
  refine zipS (p1 := p1) (p2 := p2) (pos := pos) (kk := kk) (envs := fun _ => env) S hl1 hl2 hk hA (fun _ => hf) (fun _ => h1) (fun _ => h2) fun z h₆ ω X S k' hz => ?_
  refine X.self _ _ _ _ X.om X.al (forH (env := env) J (X.hd 0) X.om S hJ hR ?_ done)
  rintro i m₁ m₂ μ' g' ω' h' tk hi hJ' ⟨v1, v2, e1, e2, rfl⟩ S'
  exact turn i m₁ v1 v2 μ' g' ω' h' tk hi hJ' e1 e2 S'
theorem whE {test : Expr} {body : List Stmt} {R : Result → Shared → Prop} (J : Nat → Lm → Lg → Lg → Prop) (X : Lm → Lg → Lg → Prop) (k : Nat) (S : Sm p n env.locals s.heap m μ g) (hJ : J k m μ g)
    (turn : ∀ k m₁ μ₁ g₁ h tk, J k m₁ μ₁ g₁ → Sm p n env.locals h m₁ μ₁ g₁ → wpAny (model pw w) A (isTrue test env (eval test env)) (fun b s₂ => if b = true then
        wpAny (model pw w) A (execs body env) (fun f s₃ => f = .next ∧ ∃ k' h' tk' m' μ' g', s₃ = { s with heap := h', toks := tk' } ∧ k' < k ∧ J k' m' μ' g' ∧ Sm p n env.locals h' m' μ' g') (fun _ _ => False) s₂
      else ∃ h' tk' m' μ' g', s₂ = { s with heap := h', toks := tk' } ∧ Sm p n env.locals h' m' μ' g' ∧ X m' μ' g') (fun _ _ => False) { s with heap := h, toks := tk })
    (done : ∀ m' μ' g' h' tk', X m' μ' g' → Sm p n env.locals h' m' μ' g' → R (.ok .next) { s with heap := h', toks := tk' }) :
    codeAny (model pw w) A (.whileLoop test body [] env) R s := by
  refine whS J k S hJ fun k m₁ μ₁ g₁ h tk hJ' S' => wpAny_mono (turn k m₁ μ₁ g₁ h tk hJ' S') (fun b s₂ h₂ => ?_) fun _ _ e => e
  cases b with
  | true => exact h₂
  | false =>
    rw [if_neg Bool.false_ne_true] at h₂ ⊢
    obtain ⟨h', tk', m', μ', g', rfl, S'', hX⟩ := h₂
    exact done _ _ _ _ _ hX S''
theorem spS {k : Nat} {t u : Tok} {Q : Value → Shared → Prop} (hk : k ≤ 100) (h : ∀ tk t', Q (.str ⟨(List.replicate k 32).toArray⟩ t') { s with toks := tk }) : wpAny (model pw w) A (binaryOp .Mult (.str ⟨#[32]⟩ t) (.int k u)) Q E s := by
  have e : Txt.mul ⟨#[32]⟩ (k : Int) = ⟨(List.replicate k 32).toArray⟩ := by
    have := mul_one_list 32 (k : Int)
    have z : (Txt.mul ⟨#[32]⟩ (k : Int)).cps = (List.replicate k 32).toArray := by
      rw [Int.toNat_natCast] at this
      rw [← this, Array.toArray_toList]
    rw [← z]
  have ok : MulOk ⟨#[32]⟩ (k : Int) := by
    refine ⟨by simp; omega, fun h1 _ => ?_, fun h1 _ => ?_⟩
    · show ¬ ((1 : Nat) : Int) > (2 ^ 63 - 1) / (k : Int)
      have : (1 : Int) ≤ (2 ^ 63 - 1) / (k : Int) := by
        rw [Int.le_ediv_iff_mul_le (by omega)]; omega
      omega
    · show Builtin.Str.tooLong (1 * ((k : Nat) : Int).toNat) = false
      rw [Int.toNat_natCast]
      unfold Builtin.Str.tooLong
      rw [decide_eq_false_iff_not, sizeLine_eq]; omega
  refine SB.mul ok fun t' k' => ?_
  rw [e]; exact h _ _
end

noncomputable def joinP (ps : List (Nat × List Nat)) : List (Nat × List Nat) := match ps.reverse with
  | b :: a :: r => r.reverse ++ [(a.1, mrg a.2 b.2)]
  | _ => ps
noncomputable def joinN (ps : List (Nat × List Nat)) : Nat × Nat × Nat := match ps.reverse with
  | b :: a :: r => ((r.reverse.map fun q => q.2.length).sum, (r.reverse.map fun q => q.2.length).sum + a.2.length, (r.reverse.map fun q => q.2.length).sum + a.2.length + b.2.length)
  | _ => (0, 0, 0)
theorem joinP_eq (r : List (Nat × List Nat)) (a b : Nat × List Nat) : joinP (r ++ [a] ++ [b]) = r ++ [(a.1, mrg a.2 b.2)] := by unfold joinP; simp
theorem joinN_eq (r : List (Nat × List Nat)) (a b : Nat × List Nat) : joinN (r ++ [a] ++ [b]) = ((r.map fun q => q.2.length).sum, (r.map fun q => q.2.length).sum + a.2.length, (r.map fun q => q.2.length).sum + a.2.length + b.2.length) := by unfold joinN; simp
abbrev PSt := List (Nat × List Nat) × List (Nat × Nat × Nat)
noncomputable def popW (t : Nat → Bool) : Nat → PSt → PSt
  | 0, st => st
  | f + 1, st => if 1 < st.1.length ∧ t (st.1.getLastD (0, [])).1 = true then popW t f (joinP st.1, st.2 ++ [joinN st.1]) else st
noncomputable def pileT (st : PSt) (q : Nat × List Nat) : PSt := let st' := popW (fun k => decide (q.1 < k)) st.1.length st; (st'.1 ++ [q], st'.2)
noncomputable def pileF (qs : List (Nat × List Nat)) : PSt := let st := qs.foldl pileT ([], []); popW (fun _ => true) st.1.length st

structure POk (st : PSt) (b c : Nat) : Prop where
  len : st.1.length + st.2.length ≤ b
  sum : (st.1.map fun q => q.2.length).sum ≤ c
  asc : ∀ q ∈ st.1, ∀ c ∈ q.2, c < 128
  pow : ∀ q ∈ st.1, q.1 ≤ 100
theorem mem_insL {cs : List Nat} {c d : Nat} (h : d ∈ insL cs c) : d = c ∨ d ∈ cs := by
  unfold insL at h
  rcases List.mem_append.mp h with h | h
  · exact .inr (List.mem_of_mem_take h)
  · rcases List.mem_cons.mp h with h | h
    · exact .inl h
    · exact .inr (List.mem_of_mem_drop h)
theorem mem_mrg {l : List Nat} : ∀ {e : List Nat} {d : Nat}, d ∈ mrg e l → d ∈ e ∨ d ∈ l := by
  induction l with
  | nil => intro e d h; exact .inl h
  | cons c l ih =>
    intro e d h
    rcases ih (e := insL e c) h with h | h
    · rcases mem_insL h with rfl | h
      · exact .inr (.head _)
      · exact .inl h
    · exact .inr (.tail _ h)
theorem POk.join {r : List (Nat × List Nat)} {a b : Nat × List Nat} {ns : List (Nat × Nat × Nat)} {k c : Nat} (h : POk (r ++ [a] ++ [b], ns) k c) : POk (joinP (r ++ [a] ++ [b]), ns ++ [joinN (r ++ [a] ++ [b])]) k c := by
  obtain ⟨h1, h2, h3, h4⟩ := h
  rw [joinP_eq]
  refine ⟨?_, ?_, ?_, ?_⟩
  · simp at h1 ⊢; omega
  · simp [mrg_len] at h2 ⊢; omega
  · intro q hq c hc
    rcases List.mem_append.mp hq with hq | hq
    · exact h3 q (by simp [hq]) c hc
    · rw [List.mem_singleton.mp hq] at hc
      rcases mem_mrg hc with hc | hc
      · exact h3 a (by simp) c hc
      · exact h3 b (by simp) c hc
  · intro q hq
    rcases List.mem_append.mp hq with hq | hq
    · exact h4 q (by simp [hq])
    · rw [List.mem_singleton.mp hq]; exact h4 a (by simp)
theorem POk.popW {t : Nat → Bool} {b c : Nat} : ∀ {f : Nat} {st : PSt}, POk st b c → POk (popW t f st) b c := by
  intro f
  induction f with
  | zero => intro st h; exact h
  | succ f ih =>
    intro st h
    show POk (if 1 < st.1.length ∧ t (st.1.getLastD (0, [])).1 = true then _ else _) b c
    split
    · rename_i hh
      obtain ⟨r, x, y, e, _⟩ := last_two (n := st.1.length - 2) (l := st.1) (by omega)
      obtain ⟨ps, ns⟩ := st
      cases e
      exact ih h.join
    · exact h
theorem POk.push {st : PSt} {b c : Nat} {q : Nat × List Nat} (h : POk st b c) (h1 : q.1 ≤ 100) (h2 : ∀ d ∈ q.2, d < 128) : POk (st.1 ++ [q], st.2) (b + 1) (c + q.2.length) := by
  obtain ⟨a1, a2, a3, a4⟩ := h
  refine ⟨by simp; omega, by simp; omega, fun r hr => ?_, fun r hr => ?_⟩
  · rcases List.mem_append.mp hr with hr | hr
    · exact a3 r hr
    · rw [List.mem_singleton.mp hr]; exact h2
  · rcases List.mem_append.mp hr with hr | hr
    · exact a4 r hr
    · rw [List.mem_singleton.mp hr]; exact h1

section
variable {w : World} {A : Around} {x dx T : Addr} {n : Nat}
theorem acc_walks {va vb : Value} (hA : A.handled = none) {I : Addr} (hxI : x ≠ I) (hTI : T ≠ I) :
    WalksU pw w A I [I, x, T] [I] 1 (fun _ v => v = #[va, vb])
      (fun j h => h.IsListIter I x j ∧ h.get? x = some (accO dx [.ref T] n) ∧ h.IsTuple T #[va, vb])
      (fun j T' h => (j < 1 ∧ T' = T) ∧ h.IsListIter I x (j + 1) ∧ h.get? x = some (accO dx [.ref T] n) ∧ h.IsTuple T #[va, vb]) where
  sub := fun b hb => by simp at hb; simp [hb]
  frame := fun _ _ _ st hk => ⟨st.1.at fun o e => hk I (by simp) o e, hk x (by simp) _ st.2.1, st.2.2.at fun o e => hk T (by simp) o e⟩
  item := fun i s Q E hi st hQ => by
    obtain rfl : i = 0 := by omega
    obtain ⟨⟨o, hI, hc, hd⟩, hx, hT⟩ := st
    refine accNext hI hc hd hx (y := .ref T) rfl fun h' o' hI' hc' hd' hk => ?_
    have hT' : h'.IsTuple T #[va, vb] := hT.at fun o e => hk _ _ hTI e
    exact hQ T _ h' s.toks rfl hT' ⟨⟨hi, rfl⟩, ⟨o', hI', hc', hd'⟩, hk _ _ hxI hx, hT'⟩ fun b o hb e => hk b o (fun z => hb (by simp [z])) e
  go := fun _ _ _ _ _ s Q _ hm hQ => wpAny_letOwnedTupleGo_listiter hm.2.1 (hQ s.heap hm.2 fun _ _ _ e => e)
  apart := fun j T' _ hm hmem => hTI (hm.1.2 ▸ List.mem_singleton.mp hmem)
  done := fun s Q E st hQ => by
    obtain ⟨⟨o, hI, hc, hd⟩, hx, hT⟩ := st
    exact accStop hA hI hc hd hx rfl fun h' hk => hQ h' s.toks fun b o hb e => hk b o (fun z => hb (by simp [z])) e
  self := fun _ _ _ _ st hQ => wpAny_pyIter_listiter st.1 hQ
end
theorem g_EMPTY {w : World} : nsIn (KK w) mainGlobals "EMPTYSTRING" = some (some (.str ⟨#[]⟩ 321)) := by kernel_rfl
set_option maxHeartbeats 4000000 in
theorem ct_str {w : World} {A : Around} {E : Value → Shared → Prop} {s : Shared} {mg mb : Lm} {h₀ : Heap} {x dx T : Addr} {nn : Nat} {cs : List Nat} {t u : Tok} {Q : Value → Shared → Prop}
    (R : Rm A 2) (B : Bs w mg mb h₀) (k₀ : Kp h₀ s.heap) (hx : s.heap.get? x = some (accO dx [.ref T] nn)) (hT : IsTup s.heap T #[.str ⟨#[]⟩ t, .str ⟨cs.toArray⟩ u]) (h139 : s.heap.get? 139 = some (tabObj #[])) (hn139 : h₀.get? 139 = none) (G : AllBare s.gens) (hcs : cs.length ≤ 1000)
    (h : ∀ s' t' ps, KpX [139] s.heap s'.heap → s'.heap.get? 139 = some (tabObj ps) → AllBare s'.gens → s'.os = s.os → Q (.str ⟨cs.toArray⟩ t') s') :
    wpAny (model pw w) A (call (.ref 144) [.ref x]) Q E s := by
  refine enterU (n := 1) R B k₀ (k₀ _ _ (B.K 144 _ rfl)) (codeRec_of (B.keeps k₀).K (by kernel_rfl)) (binds := [("self", .ref x)]) (BindsTo.of_eq rfl) (by decide) (locs rfl) rfl rfl rfl ?_
  intro L h₁ A' tk hL R' hA' F
  simp only [List.foldl_cons, List.foldl_nil, upB] at F
  have S := Sm.init F
  have B₁ := B.keeps k₀
  refine wpAny_execs_cons ?_
  refine wpAny_Return_some ?_
  refine MethodCall_ ?_
  refine nmSG B₁ S g_EMPTY ?_ rfl rfl (by rfl) (by decide +kernel)
  refine getMethod_builtin (T := "str") (typeIs_str _ _ _) PySem.F.plainAttrs_str PySem.F.slot_str_join PySem.F.type_str_join (fun a e => by cases e) ?_
  refine callWith_method1 ?_
  refine args_cons ?_
  have hcode : s.heap.IsCode 143 139 #[] := ⟨_, _, _, _, _, _, _, _, _, _, B₁.K 143 _ rfl, rfl, rfl, rfl, rfl, rfl, rfl, h139, rfl, trivial, by decide⟩
  have htab : s.heap.TableAt 143 139 #[] := ⟨⟨_, _, B₁.K 143 _ rfl, rfl, rfl, rfl⟩, h139⟩
  have kRe : ∀ ps : Array Value, Kp h₀ (regrown s.heap 139 ps) := fun ps b o e => (Heap.get?_update_other _ _ (fun z => by rw [← z, hn139] at e; cases e)).trans (k₀ _ _ e)
  have Bd : Based s.heap s.heap 143 139 #[] := .start hcode htab (by decide)
  obtain ⟨bm, ob, b1, b2, b3, b4, b5, b6⟩ := B₁.bm
  refine GeneratorExp_rowsTF (L := L) (m := Lm.up (fun _ => none) "self" (.ref x)) Bd ⟨B₁.g, b1, b2, b3, b4, b5, b6⟩ rfl rfl R'.h rfl (cl := []) rfl (by decide) rfl rfl rfl (by decide) rfl R'.room ?_ (by intro _; rfl)
  refine nmS S (by walk_at "wo look") ?_ rfl (by rfl) (by decide +kernel)
  refine acc_iter (B.keeps (k₀.trans F.keep)).K (F.keep _ _ hx) ?_
  have hxl : x < h₁.objs.size := Heap.lt_size (F.keep _ _ hx)
  have hTl : T < h₁.objs.size := by obtain ⟨o, e, _⟩ := hT; exact Heap.lt_size (F.keep _ _ e)
  refine ⟨F.keeps fun b o e => Heap.get?_push_of_some _ e, G, (B.nl.keeps (k₀.trans F.keep)).push _, L, h₁.objs.size, [h₁.objs.size, x, T], [h₁.objs.size], 1, _, _, _, fun _ => true, fun _ y => ∃ t, y = .str ⟨cs.toArray⟩ t, Nat.le_refl _, ?_, rfl,
    fun A'' hA => acc_walks (va := .str ⟨#[]⟩ t) (vb := .str ⟨cs.toArray⟩ u) (dx := dx) (n := nn) hA (Nat.ne_of_lt hxl) (Nat.ne_of_lt hTl), fun i vals e => ⟨_, _, e⟩, ?_, ?_, ?_, ?_, ?_, ?_, ?_⟩
  · show L < (h₁.push _).objs.size
    rw [Heap.size_push]; exact Nat.lt_succ_of_lt F.ns.lt
  · exact ⟨⟨_, Heap.get?_push_size _ rfl, rfl, rfl⟩, Heap.get?_push_of_some _ (F.keep _ _ hx), by obtain ⟨o, e, r⟩ := hT; exact ⟨o, Heap.get?_push_of_some _ (F.keep _ _ e), r⟩⟩
  · intro b hb
    show b < (h₁.push _).objs.size
    rw [Heap.size_push]
    simp only [List.mem_cons, List.not_mem_nil, or_false] at hb
    rcases hb with rfl | rfl | rfl
    · exact Nat.lt_succ_self _
    · exact Nat.lt_succ_of_lt hxl
    · exact Nat.lt_succ_of_lt hTl
  · intro hb
    simp only [List.mem_cons, List.not_mem_nil, or_false] at hb
    rcases hb with e | e | e
    · exact absurd (e ▸ Heap.lt_size (F.keep _ _ h139)) (Nat.lt_irrefl _)
    · rw [← e, h139] at hx; cases hx
    · obtain ⟨o, eo, ec, _⟩ := hT
      rw [← e, h139] at eo; cases eo; cases ec
  · intro b hb
    rw [List.mem_singleton.mp hb]; exact F.ns.lt
  · rintro c' C A'' E'' i va vb t₂ m₂ hA'' hd hu e F₂ ma mb hC hk
    exact wpAny_pure ⟨rfl, t₂.heap, t₂.toks, rfl, fun _ _ e => e⟩
  · rintro c' C A'' E'' i va vb t₂ m₂ hA'' hd hu e _ F₂ ma mb' hC hk
    cases e
    generalize hre : regrown s.heap 139 _ = hr at F₂
    have B₂ : Bs w mg mb hr := hre ▸ B.keeps (kRe _)
    have S₂ := Sm.init F₂
    refine MethodCall_ ?_
    refine nmSG B₂ S₂ g_EMPTY ?_ rfl rfl (by rfl) (by decide +kernel)
    refine getMethod_builtin (T := "str") (typeIs_str _ _ _) PySem.F.plainAttrs_str PySem.F.slot_str_join PySem.F.type_str_join (fun a e => by cases e) ?_
    refine callWith_method1 ?_
    refine args_cons ?_
    refine Tuple_ ?_
    refine args_cons ?_
    refine nmS (by assumption) (by walk_at "wo look") ?_ rfl (by rfl) (by decide +kernel)
    refine args_cons ?_
    refine nmS (by assumption) (by walk_at "wo look") ?_ rfl (by rfl) (by decide +kernel)
    refine args_nil ?_
    refine tupS S₂ (by walk_at "wo sz") fun T₂ h₂ S₂ hT₂ kT => ?_
    try dsimp only
    refine args_nil ?_
    try dsimp only [List.cons_append, List.nil_append]
    refine join_tuple (ys := [⟨#[]⟩, ⟨cs.toArray⟩]) (S₂.lv.tup (.head _)) (.cons _ _ (.cons _ _ .nil)) (by show (0 + (cs.toArray.size + 0)) + 2 * 0 ≤ 16777216; rw [List.size_toArray]; omega) fun t₃ k₃ => ?_
    refine ⟨⟨t₃, ?_⟩, _, _, rfl, kT⟩
    rw [show Txt.join ⟨#[]⟩ [⟨#[]⟩, ⟨cs.toArray⟩] = Str.join ⟨#[]⟩ [⟨#[]⟩, ⟨cs.toArray⟩] from eq_of_beq (join_plain_closes _ _)]
    show Value.str (Str.mk (#[] ++ #[] ++ cs.toArray)) t₃ = _
    simp
  · rintro c' a s₅ B₅ F₅ G₅ os₅ k₅ X₅
    refine args_nil ?_
    try dsimp only [List.cons_append, List.nil_append]
    refine join_rows F₅ G₅ X₅ (fun _ => ⟨cs.toArray⟩) (fun j v hv => ?_) ?_ ?_ (by decide)
    · obtain ⟨i, _, q⟩ := hv; exact q
    · exact joinOk_of (by show (cs.toArray.size + 0) + 1 * 0 ≤ 16777216; rw [List.size_toArray]; omega)
    · intro s' t' F' G' os'
      try dsimp only
      refine h s' t' _ (fun b o hb e => F'.keep b o ((Heap.get?_update_other _ _ fun z => hb (by simp [← z])).trans e)) (F'.keep _ _ (Heap.get?_update_self _ h139 rfl)) G' ?_
      rw [os', os₅]

noncomputable def PJ (b c : Nat) (x dx nl : Addr) (od : Obj) (ω : Lg) (m : Lm) (μ g : Lg) (st : PSt) : Prop :=
  ∃ vs ws nn mm, μ = ω ++ [(x, accO dx vs nn), (nl, listOf ws.toArray mm), (139, tabObj #[])] ∧ DatAll g vs (st.1.map pcD) ∧ DatAll g ws (st.2.map ntD) ∧ (dx, od) ∈ g ∧ m "pile" = some (.ref x) ∧ m "noted" = some (.ref nl) ∧ POk st b c

theorem popW_step {t : Nat → Bool} {r : List (Nat × List Nat)} {a b : Nat × List Nat} {ns : List (Nat × Nat × Nat)} (h : t b.1 = true) :
    popW t (r ++ [a] ++ [b]).length (r ++ [a] ++ [b], ns) = popW t (joinP (r ++ [a] ++ [b])).length (joinP (r ++ [a] ++ [b]), ns ++ [joinN (r ++ [a] ++ [b])]) := by
  have e : (joinP (r ++ [a] ++ [b])).length = r.length + 1 := by rw [joinP_eq]; simp
  rw [e, show (r ++ [a] ++ [b]).length = (r.length + 1) + 1 from by simp]
  show (if 1 < (r ++ [a] ++ [b]).length ∧ t ((r ++ [a] ++ [b]).getLastD (0, [])).1 = true then _ else _) = _
  rw [if_pos ⟨by simp, by simpa using h⟩]
theorem popW_stop {t : Nat → Bool} {st : PSt} (h : ¬ (1 < st.1.length ∧ t (st.1.getLastD (0, [])).1 = true)) : popW t st.1.length st = st := by
  cases hl : st.1.length with
  | zero => rfl
  | succ f =>
    show (if 1 < st.1.length ∧ t (st.1.getLastD (0, [])).1 = true then _ else _) = _
    rw [if_neg h]
theorem le_sumN {l : List (Nat × List Nat)} {q : Nat × List Nat} (h : q ∈ l) : q.2.length ≤ (l.map fun q => q.2.length).sum := by
  induction l with
  | nil => cases h
  | cons a l ih =>
    rw [List.map_cons, List.sum_cons]
    rcases List.mem_cons.mp h with rfl | h
    · exact Nat.le_add_right _ _
    · exact Nat.le_trans (ih h) (Nat.le_add_left _ _)

section
variable {w : World} {A : Around} {E : Value → Shared → Prop} {s : Shared} {mg mb : Lm} {p : Heap} {n : Nat} {L : Addr} {m : Lm} {μ g ω : Lg} {x dx nl : Addr} {od : Obj} {st : PSt} {B0 C0 : Nat}
theorem join_pj {Q : Value → Shared → Prop} (R : Rm A 6) (B : Bs w mg mb p) (S : Sm p n L s.heap m μ g) (ho : DctOk od) (J : PJ B0 C0 x dx nl od ω m μ g st) (hb : B0 ≤ 100) (hc : C0 ≤ 100) (h2 : 1 < st.1.length)
    (h : ∀ h' tk μ' g' r a b ns, st = (r ++ [a] ++ [b], ns) → Sm p n L h' m μ' (g' ++ g) → PJ B0 C0 x dx nl od ω m μ' (g' ++ g) (joinP (r ++ [a] ++ [b]), ns ++ [joinN (r ++ [a] ++ [b])]) → Q .none { s with heap := h', toks := tk }) :
    wpAny (model pw w) A (call (.ref 198) [.ref x, .ref nl]) Q E s := by
  obtain ⟨ps, ns⟩ := st
  obtain ⟨r, ⟨k1, e⟩, ⟨k2, l⟩, rfl, _⟩ := last_two (n := ps.length - 2) (l := ps) (by simp only at h2; omega)
  obtain ⟨vs, ws, nn, mm, rfl, hv, hw, hd, m1, m2, ok⟩ := J
  have mx : (x, accO dx vs nn) ∈ ω ++ [(x, accO dx vs nn), (nl, listOf ws.toArray mm), (139, tabObj #[])] := List.mem_append_right _ (.head _)
  have mn : (nl, listOf ws.toArray mm) ∈ ω ++ [(x, accO dx vs nn), (nl, listOf ws.toArray mm), (139, tabObj #[])] := List.mem_append_right _ (.tail _ (.head _))
  have hsum := ok.sum
  simp at hsum
  have hlen := ok.len
  simp at hlen
  refine ct_join R B S.F.keep (S.M _ mx).1 (S.M _ mx).2.2 (S.lv _ hd) ho (S.M _ mn).1 (S.M _ mn).2.2 (fun q hq => ⟨(S.G q hq).1, fun z => (S.G q hq).2.2.2 _ mx z.symm, fun z => (S.G q hq).2.2.2 _ mn z.symm⟩) hv hw (by omega) (fun q hq => ?_) (by omega) (by omega) (Nat.le_trans (Nat.le_trans (Nat.le_add_left _ _) hlen) hb) (fun c hc => ok.asc (k1, e) (by simp) c hc) (fun c hc => ok.asc (k2, l) (by simp) c hc) fun h' tk vs' ws' n' m' g' kx hg' hx' hn' hv' hw' => ?_
  · have := le_sumN hq
    omega
  · have S' := Sm.callX (ω := [(x, accO dx vs nn), (nl, listOf ws.toArray mm)]) (μ := [(139, tabObj #[])] ++ ω) (ω' := [(x, accO dx vs' n'), (nl, listOf ws'.toArray m')]) (S.perm List.perm_append_comm) rfl kx (fun q hq => by
      simp only [List.mem_cons, List.not_mem_nil, or_false] at hq
      rcases hq with rfl | rfl
      · exact hx'
      · exact hn') hg'
    refine h h' tk _ g' r (k1, e) (k2, l) ns rfl (S'.perm (List.perm_append_comm (l₁ := [(x, accO dx vs' n'), (nl, listOf ws'.toArray m'), (139, tabObj #[])]))) ⟨vs', ws', n', m', rfl, ?_, ?_, List.mem_append_right _ hd, m1, m2, ok.join⟩
    · rw [joinP_eq]; exact hv'
    · rw [joinN_eq]; exact hw'
end

set_option maxHeartbeats 4000000 in
theorem ct_pile {w : World} {A : Around} {E : Value → Shared → Prop} {s : Shared} {mg mb : Lm} {h₀ : Heap} {rl pl : Addr} {rvs pvs : List Value} {qs : List (Nat × List Nat)} {cs : List Nat} {ns : List (Nat × Nat × Nat)} {g₀ : Lg} {Q : Value → Shared → Prop}
    (R : Rm A 8) (B : Bs w mg mb h₀) (k₀ : Kp h₀ s.heap) (hrl : s.heap.IsList rl rvs.toArray) (hpl : s.heap.IsList pl pvs.toArray) (hr : DatAll g₀ rvs (qs.map fun q => strD q.2)) (hpv : DatAll g₀ pvs (qs.map fun q => Dat.int q.1))
    (h139 : s.heap.get? 139 = some (tabObj #[])) (hn139 : h₀.get? 139 = none) (G : AllBare s.gens)
    (z1 : qs.length ≤ 50) (z2 : (qs.map fun q => q.2.length).sum ≤ 100) (z3 : ∀ q ∈ qs, ∀ c ∈ q.2, c < 128) (z4 : ∀ q ∈ qs, q.1 ≤ 100) (z5 : pileF qs = ([(0, cs)], ns))
    (h : ∀ s' T g ps, KpX [139] s.heap s'.heap → s'.heap.get? 139 = some (tabObj ps) → AllBare s'.gens → s'.os = s.os → (∀ q ∈ g, s'.heap.get? q.1 = some q.2 ∧ s.heap.objs.size ≤ q.1) → DatIn g (.ref T) (.tuple [strD cs, .list (ns.map ntD)]) → Q (.ref T) s') :
    wpAny (model pw w) A (call (.ref 205) [.ref rl, .ref pl]) Q E s := by
  have hrvl : rvs.length = qs.length := by simpa using hr.length
  have hpvl : pvs.length = qs.length := by simpa using hpv.length
  refine enterU (n := 7) R B k₀ (k₀ _ _ (B.K 205 _ rfl)) (codeRec_of (B.keeps k₀).K (by kernel_rfl)) (binds := [("runs", .ref rl), ("powers", .ref pl)]) (BindsTo.of_eq rfl) (by decide) (locs rfl) rfl rfl rfl ?_
  intro L h₁ A' tk hL R' hA' F
  simp only [List.foldl_cons, List.foldl_nil, upB] at F
  have S := Sm.hide (σ := [(139, tabObj #[])]) F (fun r hr => by rw [List.mem_singleton.mp hr]; exact h139) (by simp)
  have B := B.keeps (kp_hide (σ := [(139, tabObj #[])]) k₀ fun r hr => by rw [List.mem_singleton.mp hr]; exact hn139)
  have hlS : ∀ {h' : Heap} {l : Addr} {its : Array Value}, s.heap.IsList l its → Kp (hideAll s.heap (([(139, tabObj #[])] : Lg).map (·.1))) h' → h'.IsList l its := fun hl k => by
    obtain ⟨o, e, c, r⟩ := hl
    exact ⟨o, k _ _ (hideAll_get _ e fun z => by rw [List.mem_singleton.mp z, h139] at e; cases e; cases c), c, r⟩
  generalize hp : hideAll s.heap (([(139, tabObj #[])] : Lg).map (·.1)) = p at S B hlS
  clear F
  refine wpAny_execs_cons ?_
  refine Assign_Tuple_swapped ?_
  refine Tuple_ ?_
  refine args_cons ?_
  refine Call_ ?_
  refine nmSG (by assumption) (by assumption) g_Accumulator ?_ rfl rfl (by rfl) (by decide +kernel)
  refine callWith_K0 (K := KK w) (B.keeps S.F.keep).K (by kernel_rfl) ?_
  refine ct_mk (R'.le) (B.keeps S.F.keep) fun h₂ tk₂ x dx od nn k₂ hx hdx ho y1 y2 y3 => ?_
  try dsimp only
  have S2 := S.joinM (ω := [(dx, od), (x, accO dx [] nn)]) k₂ (fun q hq => by
    simp only [List.mem_cons, List.not_mem_nil, or_false] at hq
    rcases hq with rfl | rfl
    · exact ⟨hdx, y1⟩
    · exact ⟨hx, y2⟩) (by simp; exact Ne.symm y3)
  have hLn := S2.low
  have S := Sm.freeze S2 (Nat.le_trans S.low y1)
  clear S2
  refine args_cons ?_
  refine List_ ?_
  refine args_nil ?_
  refine listM S (by walk_at "wo sz") fun nl h₃ S hnl => ?_
  try dsimp only
  refine args_nil ?_
  refine tupS S (by walk_at "wo sz") fun T h₄ S hT _ => ?_
  try dsimp only
  refine swT2 (x1 := "pile") (x2 := "noted") R'.h rfl (by rfl) (by rfl) (S.lv.tup (.head _)) S fun h₅ tk₅ S => ?_
  try dsimp only
  refine wpAny_execs_cons ?_
  refine wpAny_For ?_
  refine Call_ ?_
  refine nmSB (by assumption) (by assumption) (by kernel_rfl) b_zip (by decide +kernel) ?_ rfl rfl rfl (by rfl) (by decide +kernel)
  refine PyProof.Rows.callWith_type1 ?_
  refine args_cons ?_
  refine nmS (by assumption) (by walk_at "wo look") ?_ rfl (by rfl) (by decide +kernel)
  refine args_cons ?_
  refine nmS (by assumption) (by walk_at "wo look") ?_ rfl (by rfl) (by decide +kernel)
  refine args_nil ?_
  have hqs : ∀ i, i < qs.length → ∃ q, qs[i]? = some q := fun i hi => ⟨_, List.getElem?_eq_getElem hi⟩
  refine forZip (fun i m μ g => ∃ st, st = (qs.take i).foldl pileT ([], []) ∧ PJ i ((qs.take i).map fun q => q.2.length).sum x dx nl od [] m μ g st) (k := qs.length) (S.perm (List.Perm.swap ..)) (hlS hpl S.F.keep) (hlS hrl S.F.keep) (by simp; omega) R'.h rfl (by rfl) (by rfl) ?_ ?_ ?_ ?_
  · exact ⟨_, rfl, [], [], _, _, rfl, .nil, .nil, .tail _ (.head _), by walk_at "wo look", by walk_at "wo look", ⟨by simp, by simp, by simp, by simp⟩⟩
  · intro h' i m' ω' μ' g' _ S
    exact ⟨hlS hpl S.F.keep, hlS hrl S.F.keep⟩
  · rintro i m₁ v1 v2 μ' g' ω' h' tk' hi ⟨st, hst, J⟩ e1 e2 S
    obtain ⟨q, hq⟩ := hqs i hi
    obtain ⟨_, ev, hv⟩ := datGet hpv (k := i) (d := Dat.int q.1) (by simp [hq])
    rw [show pvs.toArray[i]? = pvs[i]? from by simp, ev] at e1
    cases e1
    obtain ⟨tp, rfl⟩ := dint hv
    obtain ⟨_, ev, hv⟩ := datGet hr (k := i) (d := strD q.2) (by simp [hq])
    rw [show rvs.toArray[i]? = rvs[i]? from by simp, ev] at e2
    cases e2
    obtain ⟨tr, rfl⟩ := dstr hv
    have hmem : q ∈ qs := List.mem_of_getElem? hq
    have hc0 : ((qs.take i).map fun q => q.2.length).sum + q.2.length = ((qs.take (i + 1)).map fun q => q.2.length).sum := by
      rw [List.take_add_one, hq]; simp
    have hc1 : ((qs.take (i + 1)).map fun q => q.2.length).sum ≤ 100 := Nat.le_trans (by
      conv => rhs; rw [← List.take_append_drop (i + 1) qs]
      rw [List.map_append, List.sum_append]; exact Nat.le_add_right _ _) z2
    have hst' : (qs.take (i + 1)).foldl pileT ([], []) = pileT st q := by
      rw [List.take_add_one, hq, Option.toList_some, List.foldl_append, ← hst]; rfl
    clear hst
    generalize ((qs.take i).map fun q => q.2.length).sum = c0 at J hc0
    refine wpAny_execs_cons ?_
    refine wpAny_While ?_
    refine whE (fun k m μ g => ∃ st', k = st'.1.length ∧ PJ i c0 x dx nl od ω' m μ g st' ∧ popW (fun k => decide (q.1 < k)) st'.1.length st' = popW (fun k => decide (q.1 < k)) st.1.length st ∧ m "power" = some (.int q.1 tp) ∧ m "run" = some (.str ⟨q.2.toArray⟩ tr)) (fun m μ g => ∃ st', PJ i c0 x dx nl od ω' m μ g st' ∧ st' = popW (fun k => decide (q.1 < k)) st.1.length st ∧ m "power" = some (.int q.1 tp) ∧ m "run" = some (.str ⟨q.2.toArray⟩ tr)) st.1.length S ?_ ?_ ?_
    · obtain ⟨vs, ws, nn, mm, rfl, hv, hw, hd, m1, m2, ok⟩ := J
      exact ⟨st, rfl, ⟨vs, ws, nn, mm, rfl, hv, hw, hd, by walk_at "wo look", by walk_at "wo look", ok⟩, rfl, by walk_at "wo look", by walk_at "wo look"⟩
    · clear J S
      rintro k m₂ μ₁ g₁ h₃ tk₃ ⟨st', rfl, J, hp, p1, p2⟩ S
      have J' := J
      obtain ⟨vs, ws, nn, mm, rfl, hv, hw, hd, m1, m2, ok⟩ := J'
      have mx : (x, accO dx vs nn) ∈ ω' ++ [(x, accO dx vs nn), (nl, listOf ws.toArray mm), (139, tabObj #[])] := List.mem_append_right _ (.head _)
      have hvl : vs.length = st'.1.length := by simpa using hv.length
      have hlen := ok.len
      refine wpAny_isTrue_BoolOp ?_
      refine wpAny_allTrue_And_cons ?_
      refine wpAny_isTrue_Compare1 ?_
      refine MethodCall_ ?_
      refine nmS (by assumption) (by walk_at "wo look") ?_ rfl (by rfl) (by decide +kernel)
      refine pcS (R'.le) B S.F.keep (S.M _ mx).1 (S.lv _ hd) ho fun h₄ tk₄ t₄ k₄ => ?_
      try dsimp only
      have S := S.keeps k₄
      refine wpAny_Constant_int ?_
      refine gt_int ?_
      refine wpAny_truthy_bool ?_
      by_cases hlt : 1 < st'.1.length
      · rw [if_pos (by simp; omega)]
        obtain ⟨r, a, ⟨k2, e2⟩, hst1, _⟩ := last_two (n := st'.1.length - 2) (l := st'.1) (by omega)
        obtain ⟨v, ev, hv2⟩ := datGet hv (k := vs.length - 1) (d := pcD (k2, e2)) (by rw [hvl, hst1]; simp)
        obtain ⟨T, t, u, n₀, rfl, hT⟩ := piece hv2
        refine wpAny_allTrue_And_cons ?_
        refine wpAny_isTrue_Compare1 ?_
        refine Call_ ?_
        refine nmSB (by assumption) (by assumption) (by kernel_rfl) b_len (by decide +kernel) ?_ rfl rfl rfl (by rfl) (by decide +kernel)
        refine PyProof.Rows.callWith_builtin1 ?_
        refine args_cons ?_
        refine Subscript_ ?_
        refine Subscript_ ?_
        refine nmS (by assumption) (by walk_at "wo look") ?_ rfl (by rfl) (by decide +kernel)
        refine wpAny_BinOp ?_
        refine MethodCall_ ?_
        refine nmS (by assumption) (by walk_at "wo look") ?_ rfl (by rfl) (by decide +kernel)
        refine pcS (R'.le) B S.F.keep (S.M _ mx).1 (S.lv _ hd) ho fun h₅ tk₅ t₅ k₅ => ?_
        try dsimp only
        have S := S.keeps k₅
        refine wpAny_Constant_int ?_
        refine subR ((vs.length - 1 : Nat) : Int) (by omega) fun _ _ => ?_
        refine acc_sub' (B.keeps S.F.keep).K (S.M _ mx).1 (acc_getItem (B.keeps S.F.keep).K (S.M _ mx).1 (y := .ref T) (by omega) (by omega) (by simpa using ev) ?_) ⟨[_, _], by with_unfolding_all rfl⟩
        refine wpAny_Constant_int ?_
        refine tupAt' (j := 0) (y := .str ⟨(List.replicate k2 32).toArray⟩ t) (S.lv.tup hT) rfl rfl (by simp) ?_ ⟨[_, _], by with_unfolding_all rfl⟩
        refine args_nil ?_
        have hk2 : k2 ≤ 100 := ok.pow (k2, e2) (by rw [hst1]; simp)
        refine P.len_str (by show ¬ (((List.replicate k2 32).toArray.size : Nat) : Int) ≥ 2 ^ 63; simp; omega) ?_
        try dsimp only
        rw [show ((⟨(List.replicate k2 32).toArray⟩ : Str).length : Int) = (k2 : Int) from by show (((List.replicate k2 32).toArray.size : Nat) : Int) = _; simp]
        refine nmS (by assumption) (by walk_at "wo look") ?_ rfl (by rfl) (by decide +kernel)
        refine gt_int ?_
        refine wpAny_truthy_bool ?_
        have hlast : (st'.1.getLastD (0, [])).1 = k2 := by rw [hst1]; simp
        by_cases hgt : q.1 < k2
        · rw [if_pos (by simp; omega)]
          refine wpAny_allTrue_And_nil ?_
          rw [if_pos rfl]
          refine wpAny_execs_cons ?_
          refine wpAny_Expr_any ?_
          refine Call_ ?_
          refine nmSG (by assumption) (by assumption) g_law_joined ?_ rfl rfl (by rfl) (by decide +kernel)
          refine cwS (fn_law_joined (by assumption)) ?_
          refine args_cons ?_
          refine nmS (by assumption) (by walk_at "wo look") ?_ rfl (by rfl) (by decide +kernel)
          refine args_cons ?_
          refine nmS (by assumption) (by walk_at "wo look") ?_ rfl (by rfl) (by decide +kernel)
          refine args_nil ?_
          refine ⟨S.F.keep, join_pj (R'.le) B S ho ⟨vs, ws, nn, mm, rfl, hv, hw, hd, m1, m2, ok⟩ (by omega) (by omega) hlt fun h₆ tk₆ μ₂ g₂ r' a' b' ns' est S₂ J₂ => ?_⟩
          try dsimp only
          refine wpAny_execs_nil ?_
          refine ⟨rfl, _, _, _, _, _, _, rfl, ?_, ⟨_, rfl, J₂, ?_, p1, p2⟩, S₂⟩ <;> subst est
          · simp only [joinP_eq]; simp
          · rw [← hp]
            refine (popW_step ?_).symm
            simp at hlast
            rw [hlast]; exact decide_eq_true hgt
        · rw [if_neg (by simp; omega), if_neg Bool.false_ne_true]
          refine ⟨_, _, _, _, _, rfl, S, st', ⟨vs, ws, nn, mm, rfl, hv, hw, hd, m1, m2, ok⟩, ?_, p1, p2⟩
          rw [← hp, popW_stop]
          rintro ⟨_, z⟩
          rw [hlast] at z
          exact hgt (of_decide_eq_true z)
      · rw [if_neg (by simp; omega), if_neg Bool.false_ne_true]
        refine ⟨_, _, _, _, _, rfl, S, st', ⟨vs, ws, nn, mm, rfl, hv, hw, hd, m1, m2, ok⟩, ?_, p1, p2⟩
        rw [← hp, popW_stop]
        rintro ⟨z, _⟩
        exact hlt z
    · clear J S
      rintro m₂ μ₁ g₁ h₃ tk₃ ⟨st', J, hp, p1, p2⟩ S
      obtain ⟨vs, ws, nn, mm, rfl, hv, hw, hd, m1, m2, ok⟩ := J
      have mx : (x, accO dx vs nn) ∈ ω' ++ [(x, accO dx vs nn), (nl, listOf ws.toArray mm), (139, tabObj #[])] := List.mem_append_right _ (.head _)
      have hvl : vs.length = st'.1.length := by simpa using hv.length
      have hlen := ok.len
      try dsimp only
      refine wpAny_execs_cons ?_
      refine wpAny_Expr_any ?_
      refine MethodCall_ ?_
      refine nmS (by assumption) (by walk_at "wo look") ?_ rfl (by rfl) (by decide +kernel)
      refine acc_meth (B.keeps S.F.keep).K (S.M _ mx).1 (S.lv _ hd) ho (f := .ref 114) (tf := .type "function") (by kernel_rfl) (by kernel_rfl) (by decide) (by decide +kernel) ?_
      try dsimp only
      refine callWith_F ⟨_, _, _, _, (B.keeps S.F.keep).K 114 _ rfl⟩ ?_
      refine args_cons ?_
      refine wpAny_BinOp ?_
      refine Calls.Constant_str ?_
      refine nmS (by assumption) (by walk_at "wo look") ?_ rfl (by rfl) (by decide +kernel)
      refine spS (z4 q hmem) fun tk₄ t₄ => ?_
      refine args_cons ?_
      refine nmS (by assumption) (by walk_at "wo look") ?_ rfl (by rfl) (by decide +kernel)
      refine args_nil ?_
      refine ⟨⟨_, _, _, _, (B.keeps S.F.keep).K 114 _ rfl⟩, ct_push (R'.le) B S.F.keep (S.M _ mx).1 (S.M _ mx).2.2 (S.lv _ hd) ho (by omega) fun h₅ tk₅ T₅ n₅ kx hx₅ hT₅ hsz₅ => ?_⟩
      try dsimp only
      have S := Sm.callX (ω := [(x, _)]) (ω' := [(x, accO dx (vs ++ [.ref T₅]) n₅)]) (g' := [(T₅, _)]) (S.perm (List.perm_middle (l₂ := [_, _]))) rfl kx (fun q hq => by rw [List.mem_singleton.mp hq]; exact hx₅) (fun q hq => by rw [List.mem_singleton.mp hq]; exact ⟨hT₅, hsz₅⟩)
      refine wpAny_execs_nil ?_
      refine ⟨.inl rfl, _, _, _, _, _, rfl, S.perm (List.perm_middle (l₂ := [_, _])).symm, pileT st q, hst'.symm, vs ++ [.ref T₅], ws, n₅, mm, rfl, ?_, ?_, .tail _ hd, m1, m2, ?_⟩
      · rw [show (pileT st q).1 = st'.1 ++ [q] from by rw [hp]; rfl, List.map_append]
        exact (hv.mono fun q hq => .tail _ hq).append (.one (.tuple (.head _) (.cons (.str _ _) (.cons (.str _ _) .nil))))
      · rw [show (pileT st q).2 = st'.2 from by rw [hp]; rfl]
        exact hw.mono fun q hq => .tail _ hq
      · rw [← hc0]
        have := ok.push (z4 q hmem) (z3 q hmem)
        rw [hp] at this
        exact this
  · rintro m' μ' g' h' tk' ⟨st, hst, J⟩ S
    rw [List.take_of_length_le (Nat.le_refl _)] at hst J
    try dsimp only
    refine wpAny_execs_cons ?_
    refine wpAny_While ?_
    refine whE (fun k m μ g => ∃ st', k = st'.1.length ∧ PJ qs.length (qs.map fun q => q.2.length).sum x dx nl od [] m μ g st' ∧ popW (fun _ => true) st'.1.length st' = popW (fun _ => true) st.1.length st) (fun m μ g => ∃ st', PJ qs.length (qs.map fun q => q.2.length).sum x dx nl od [] m μ g st' ∧ st' = pileF qs) st.1.length S ⟨st, rfl, J, rfl⟩ ?_ ?_
    · clear J S
      rintro k m₂ μ₁ g₁ h₃ tk₃ ⟨st', rfl, J, hp⟩ S
      obtain ⟨vs, ws, nn, mm, rfl, hv, hw, hd, m1, m2, ok⟩ := J
      have mx : (x, accO dx vs nn) ∈ [(x, accO dx vs nn), (nl, listOf ws.toArray mm), (139, tabObj #[])] := .head _
      have hvl : vs.length = st'.1.length := by simpa using hv.length
      refine wpAny_isTrue_Compare1 ?_
      refine MethodCall_ ?_
      refine nmS (by assumption) (by walk_at "wo look") ?_ rfl (by rfl) (by decide +kernel)
      refine pcS (R'.le) B S.F.keep (S.M _ mx).1 (S.lv _ hd) ho fun h₄ tk₄ t₄ k₄ => ?_
      try dsimp only
      have S := S.keeps k₄
      refine wpAny_Constant_int ?_
      refine gt_int ?_
      refine wpAny_truthy_bool ?_
      by_cases hlt : 1 < st'.1.length
      · rw [show decide ((1 : Int) < (vs.length : Nat)) = true from by simp; omega, if_pos rfl]
        refine wpAny_execs_cons ?_
        refine wpAny_Expr_any ?_
        refine Call_ ?_
        refine nmSG (by assumption) (by assumption) g_law_joined ?_ rfl rfl (by rfl) (by decide +kernel)
        refine cwS (fn_law_joined (by assumption)) ?_
        refine args_cons ?_
        refine nmS (by assumption) (by walk_at "wo look") ?_ rfl (by rfl) (by decide +kernel)
        refine args_cons ?_
        refine nmS (by assumption) (by walk_at "wo look") ?_ rfl (by rfl) (by decide +kernel)
        refine args_nil ?_
        refine ⟨S.F.keep, join_pj (R'.le) B S ho ⟨vs, ws, nn, mm, rfl, hv, hw, hd, m1, m2, ok⟩ (by omega) z2 hlt fun h₆ tk₆ μ₂ g₂ r' a' b' ns' est S₂ J₂ => ?_⟩
        try dsimp only
        refine wpAny_execs_nil ?_
        refine ⟨rfl, _, _, _, _, _, _, rfl, ?_, ⟨_, rfl, J₂, ?_⟩, S₂⟩ <;> subst est
        · simp only [joinP_eq]; simp
        · rw [← hp]
          exact (popW_step rfl).symm
      · rw [show decide ((1 : Int) < (vs.length : Nat)) = false from by simp; omega, if_neg Bool.false_ne_true]
        refine ⟨_, _, _, _, _, rfl, S, st', ⟨vs, ws, nn, mm, rfl, hv, hw, hd, m1, m2, ok⟩, ?_⟩
        show st' = popW (fun _ => true) (qs.foldl pileT ([], [])).1.length (qs.foldl pileT ([], []))
        rw [← hst, ← hp, popW_stop]
        rintro ⟨z, _⟩
        exact hlt z
    · clear J S
      rintro m₂ μ₁ g₁ h₃ tk₃ ⟨st', J, rfl⟩ S
      rw [z5] at J
      obtain ⟨vs, ws, nn, mm, rfl, hv, hw, hd, m1, m2, ok⟩ := J
      obtain ⟨v, rfl⟩ : ∃ v, vs = [v] := List.length_eq_one_iff.mp (by simpa using hv.length)
      obtain ⟨v', hv1, hv2⟩ := datGet hv (k := 0) (d := pcD (0, cs)) rfl
      cases hv1
      obtain ⟨T, t, u, n₀, rfl, hT⟩ := piece hv2
      try dsimp only
      refine wpAny_execs_cons ?_
      refine wpAny_Return_some ?_
      refine Tuple_ ?_
      refine args_cons ?_
      refine Call_ ?_
      refine nmSB (by assumption) (by assumption) (by kernel_rfl) b_str (by decide +kernel) ?_ rfl rfl rfl (by rfl) (by decide +kernel)
      refine PyProof.Rows.callWith_type1 ?_
      refine args_cons ?_
      refine nmS (by assumption) (by walk_at "wo look") ?_ rfl (by rfl) (by decide +kernel)
      refine args_nil ?_
      refine kso_call (K := KK w) (by have := R'.u; show A'.units + 1 + 1 < cLine; unfold cLine; omega) (B.keeps S.F.keep).K (acc_inst (S.M _ (.head _)).1 (S.lv _ hd)) (f := 144) (by kernel_rfl) (by kernel_rfl) ?_
      have hcs : cs.length + 0 ≤ (qs.map fun q => q.2.length).sum := ok.sum
      have R2 : Rm A'.in1.in1 2 := ⟨R'.h, by have := R'.d; show A'.depth + 2 < 900; omega, by have := R'.u; show A'.units + 1 + 1 + 12 * 2 < 9000; omega⟩
      refine ct_str R2 B S.F.keep (S.M _ (.head _)).1 (S.lv.tup hT) (S.M _ (.tail _ (.tail _ (.head _)))).1 (S.M _ (.tail _ (.tail _ (.head _)))).2.2 G (by omega) fun s₂ t₂ ps k₂ e139 G₂ os₂ => ?_
      have S := Sm.chg (S.perm (List.perm_middle (l₁ := [_, _]))) (fun b y hb e => k₂ b y (fun z => hb (List.mem_singleton.mp z)) e) e139
      have S := Sm.freeze (S.perm (List.perm_middle (l₁ := [_, _]))) (Nat.le_trans hLn hnl)
      show wpAny _ _ _ _ _ s₂
      refine args_cons ?_
      refine nmS (by assumption) (by walk_at "wo look") ?_ rfl (by rfl) (by decide +kernel)
      refine args_nil ?_
      refine tupS S (by walk_at "wo sz") fun T₃ h₃ S hT₃ _ => ?_
      try dsimp only
      exact h _ T₃ _ ps (kpx_of hp.symm S.F.keep) (S.M _ (.head _)).1 G₂ os₂ (fun q hq => ⟨(S.G q hq).1, hL ▸ (S.G q hq).2.1⟩) (.tuple (.head _) (.cons (.str _ _) (.cons (.list (.tail _ (.head _)) (hw.mono fun q hq => .tail _ (.tail _ hq))) .nil)))

noncomputable def halF (ms : List Int) : Nat → Nat → Nat → Int → Int → Option (List (Nat × Nat × Nat))
  | 0, _, _, _, _ => none
  | f + 1, a, b, pt, st => if b < a + 2 then some [] else
    match halF ms f a (bs (fun i => decide (pt ≤ ms.getD i 0)) a b) (pt - st) (st / 2), halF ms f (bs (fun i => decide (pt ≤ ms.getD i 0)) a b) b (pt + st) (st / 2) with
    | some x, some y => some (x ++ y ++ if a < bs (fun i => decide (pt ≤ ms.getD i 0)) a b ∧ bs (fun i => decide (pt ≤ ms.getD i 0)) a b < b then [(a, bs (fun i => decide (pt ≤ ms.getD i 0)) a b, b)] else [])
    | _, _ => none
theorem halF_len {ms : List Int} : ∀ (f a b : Nat) (pt st : Int) (r : List (Nat × Nat × Nat)), halF ms f a b pt st = some r → r.length ≤ b - a - 1 := by
  intro f
  induction f with
  | zero => intro a b pt st r h; cases h
  | succ f ih =>
    intro a b pt st r h
    unfold halF at h
    by_cases hlt : b < a + 2
    · rw [if_pos hlt] at h; cases h; simp
    · rw [if_neg hlt] at h
      generalize hc : bs (fun i => decide (pt ≤ ms.getD i 0)) a b = c at h
      have hcb : a ≤ c ∧ c ≤ b := hc ▸ bs_le _ _ a b (Nat.le_refl _) (by omega)
      cases hx : halF ms f a c (pt - st) (st / 2) with
      | none => rw [hx] at h; cases h
      | some xs =>
      cases hy : halF ms f c b (pt + st) (st / 2) with
      | none => rw [hx, hy] at h; cases h
      | some ys =>
      rw [hx, hy] at h
      cases h
      have h1 := ih _ _ _ _ _ hx
      have h2 := ih _ _ _ _ _ hy
      rw [List.length_append, List.length_append]
      by_cases hk : a < c ∧ c < b
      · rw [if_pos hk, List.length_singleton]; omega
      · rw [if_neg hk, List.length_nil]; omega
set_option maxHeartbeats 4000000 in
theorem ct_hal {w : World} {mg mb : Lm} {l : Addr} {vs : List Value} {ms : List Int} (hi : IntsAre vs ms) (hn : ms.length ≤ 1000) : ∀ (f : Nat) {A : Around} {E : Value → Shared → Prop} {s : Shared} {a b : Nat} {pt st : Int} {ta tb tp ts : Tok} {r : List (Nat × Nat × Nat)} {Q : Value → Shared → Prop}
    (R : Rm A (f + 4)) (B : Bs w mg mb s.heap) (hl : s.heap.IsList l vs.toArray) (hb : b ≤ ms.length) (hr : halF ms f a b pt st = some r)
    (h : ∀ h' tk T g, Kp s.heap h' → (∀ q ∈ g, h'.get? q.1 = some q.2 ∧ s.heap.objs.size ≤ q.1) → DatIn g (.ref T) (.list (r.map ntD)) → Q (.ref T) { s with heap := h', toks := tk }),
    wpAny (model pw w) A (call (.ref 212) [.ref l, .int a ta, .int b tb, .int pt tp, .int st ts]) Q E s := by
  intro f
  induction f with
  | zero => intro A E s a b pt st ta tb tp ts r Q R B hl hb hr; cases hr
  | succ f ih =>
    intro A E s a b pt st ta tb tp ts r Q R B hl hb hr h
    refine enterU (n := f + 4) R B Kp.rfl (B.K 212 _ rfl) (codeRec_of B.K (by kernel_rfl)) (binds := [("middles", .ref l), ("first", .int a ta), ("last", .int b tb), ("point", .int pt tp), ("step", .int st ts)]) (BindsTo.of_eq rfl) (by decide) (locs rfl) rfl rfl rfl ?_
    intro L h₁ A' tk hL R' hA' F
    simp only [List.foldl_cons, List.foldl_nil, upB] at F
    have S := Sm.init F
    clear F
    have hlS : ∀ {h' : Heap}, Kp s.heap h' → h'.IsList l vs.toArray := fun k => by obtain ⟨o, e, r⟩ := hl; exact ⟨o, k _ _ e, r⟩
    refine wpAny_execs_cons ?_
    refine wpAny_If ?_
    refine wpAny_isTrue_Compare1 ?_
    refine wpAny_BinOp ?_
    refine nmS (by assumption) (by walk_at "wo look") ?_ rfl (by rfl) (by decide +kernel)
    refine nmS (by assumption) (by walk_at "wo look") ?_ rfl (by rfl) (by decide +kernel)
    refine subR ((b : Int) - a) rfl fun _ _ => ?_
    refine wpAny_Constant_int ?_
    refine lt_int ?_
    refine wpAny_truthy_bool ?_
    unfold halF at hr
    by_cases hlt : b < a + 2
    · rw [if_pos hlt] at hr
      cases hr
      rw [if_pos (by simp; omega)]
      refine wpAny_execs_cons ?_
      refine wpAny_Return_some ?_
      refine List_ ?_
      refine args_nil ?_
      refine listS S (by walk_at "wo sz") fun T h₂ S hT _ => ?_
      try dsimp only
      exact h _ _ _ _ S.F.keep (fun q hq => ⟨(S.G q hq).1, hL ▸ (S.G q hq).2.1⟩) (.list (.head _) .nil)
    · rw [if_neg hlt] at hr
      rw [if_neg (by simp; omega)]
      generalize hc : bs (fun i => decide (pt ≤ ms.getD i 0)) a b = c at hr
      have hcb : c ≤ b := hc ▸ (bs_le _ _ a b (Nat.le_refl _) (by omega)).2
      try dsimp only
      refine wpAny_execs_nil ?_
      refine wpAny_execs_cons ?_
      refine wpAny_Assign_Name ?_
      refine Call_ ?_
      refine nmSG (by assumption) (by assumption) g_bisect_left ?_ rfl rfl (by rfl) (by decide +kernel)
      refine cwS (fn_bisect_left (by assumption)) ?_
      refine args_cons ?_
      refine nmS (by assumption) (by walk_at "wo look") ?_ rfl (by rfl) (by decide +kernel)
      refine args_cons ?_
      refine nmS (by assumption) (by walk_at "wo look") ?_ rfl (by rfl) (by decide +kernel)
      refine args_cons ?_
      refine nmS (by assumption) (by walk_at "wo look") ?_ rfl (by rfl) (by decide +kernel)
      refine args_cons ?_
      refine nmS (by assumption) (by walk_at "wo look") ?_ rfl (by rfl) (by decide +kernel)
      refine args_nil ?_
      refine ⟨S.F.keep, ct_bl (R'.le) (B.keeps S.F.keep) (hlS S.F.keep) hi hn hb fun h₂ tk₂ t₂ k₂ => ?_⟩
      rw [hc]
      try dsimp only
      have S := S.keeps k₂
      refine stS S rfl (by rfl) fun h₃ tk₃ S => ?_
      try dsimp only
      refine wpAny_execs_cons ?_
      refine wpAny_Assign_Name ?_
      refine Call_ ?_
      refine nmSG (by assumption) (by assumption) g_law_halved ?_ rfl rfl (by rfl) (by decide +kernel)
      refine cwS (fn_law_halved (by assumption)) ?_
      refine args_cons ?_
      refine nmS (by assumption) (by walk_at "wo look") ?_ rfl (by rfl) (by decide +kernel)
      refine args_cons ?_
      refine nmS (by assumption) (by walk_at "wo look") ?_ rfl (by rfl) (by decide +kernel)
      refine args_cons ?_
      refine nmS (by assumption) (by walk_at "wo look") ?_ rfl (by rfl) (by decide +kernel)
      refine args_cons ?_
      refine wpAny_BinOp ?_
      refine nmS (by assumption) (by walk_at "wo look") ?_ rfl (by rfl) (by decide +kernel)
      refine nmS (by assumption) (by walk_at "wo look") ?_ rfl (by rfl) (by decide +kernel)
      have e2 : st.fdiv 2 = st / 2 := Int.fdiv_eq_ediv_of_nonneg _ (by decide)
      cases hx : halF ms f a c (pt - st) (st / 2) with
      | none => rw [hx] at hr; cases hr
      | some xs =>
      cases hy : halF ms f c b (pt + st) (st / 2) with
      | none => rw [hx, hy] at hr; cases hr
      | some ys =>
      rw [hx, hy] at hr
      cases hr
      refine subR (pt - st) rfl fun _ _ => ?_
      refine args_cons ?_
      refine wpAny_BinOp ?_
      refine nmS (by assumption) (by walk_at "wo look") ?_ rfl (by rfl) (by decide +kernel)
      refine wpAny_Constant_int ?_
      refine fdivR (st / 2) (by decide) e2 (by decide) fun _ _ => ?_
      refine args_nil ?_
      try dsimp only
      refine ⟨S.F.keep, ih R' (B.keeps S.F.keep) (hlS S.F.keep) (by omega) hx fun h₄ tk₄ T₁ g₁ k₄ hg₁ hD₁ => ?_⟩
      try dsimp only
      have S := S.join k₄ hg₁
      refine stS S rfl (by rfl) fun h₅ tk₅ S => ?_
      try dsimp only
      refine wpAny_execs_cons ?_
      refine wpAny_Assign_Name ?_
      refine Call_ ?_
      refine nmSG (by assumption) (by assumption) g_law_halved ?_ rfl rfl (by rfl) (by decide +kernel)
      refine cwS (fn_law_halved (by assumption)) ?_
      refine args_cons ?_
      refine nmS (by assumption) (by walk_at "wo look") ?_ rfl (by rfl) (by decide +kernel)
      refine args_cons ?_
      refine nmS (by assumption) (by walk_at "wo look") ?_ rfl (by rfl) (by decide +kernel)
      refine args_cons ?_
      refine nmS (by assumption) (by walk_at "wo look") ?_ rfl (by rfl) (by decide +kernel)
      refine args_cons ?_
      refine wpAny_BinOp ?_
      refine nmS (by assumption) (by walk_at "wo look") ?_ rfl (by rfl) (by decide +kernel)
      refine nmS (by assumption) (by walk_at "wo look") ?_ rfl (by rfl) (by decide +kernel)
      refine addR (pt + st) rfl fun _ _ => ?_
      refine args_cons ?_
      refine wpAny_BinOp ?_
      refine nmS (by assumption) (by walk_at "wo look") ?_ rfl (by rfl) (by decide +kernel)
      refine wpAny_Constant_int ?_
      refine fdivR (st / 2) (by decide) e2 (by decide) fun _ _ => ?_
      refine args_nil ?_
      try dsimp only
      refine ⟨S.F.keep, ih R' (B.keeps S.F.keep) (hlS S.F.keep) hb hy fun h₆ tk₆ T₂ g₂ k₆ hg₂ hD₂ => ?_⟩
      try dsimp only
      have S := S.join k₆ hg₂
      refine stS S rfl (by rfl) fun h₇ tk₇ S => ?_
      try dsimp only
      refine wpAny_execs_cons ?_
      refine wpAny_Return_some ?_
      refine wpAny_BinOp ?_
      refine wpAny_BinOp ?_
      refine nmS (by assumption) (by walk_at "wo look") ?_ rfl (by rfl) (by decide +kernel)
      refine nmS (by assumption) (by walk_at "wo look") ?_ rfl (by rfl) (by decide +kernel)
      obtain ⟨v1, n1, hm1, ha1⟩ := dlist hD₁
      obtain ⟨v2, n2, hm2, ha2⟩ := dlist hD₂
      have l1 : v1.length = xs.length := by simpa using ha1.length
      have l2 : v2.length = ys.length := by simpa using ha2.length
      have l3 := halF_len _ _ _ _ _ _ hx
      have l4 := halF_len _ _ _ _ _ _ hy
      refine catS S (S.lv.list (by walk_at "wo mem")) (S.lv.list (by walk_at "wo mem")) (by rw [sizeLine_eq]; omega) fun T₃ h₈ S hT₃ _ => ?_
      try dsimp only
      refine IfExp_ ?_
      refine isTrue_chain ?_
      refine nmS (by assumption) (by walk_at "wo look") ?_ rfl (by rfl) (by decide +kernel)
      refine test_link ?_
      refine nmS (by assumption) (by walk_at "wo look") ?_ rfl (by rfl) (by decide +kernel)
      refine lt_int ?_
      refine wpAny_truthy_bool ?_
      have fin : ∀ (T₅ : Addr) (h₉ : Heap) (tk₉ : Nat) (n₉ : Nat) (us : List Value) (m₉ : Lm) (g₉ : Lg) (zs : List (Nat × Nat × Nat)), Sm s.heap L L h₉ m₉ [] ((T₅, listOf us.toArray n₉) :: g₉) → DatAll ((T₅, listOf us.toArray n₉) :: g₉) us ((xs ++ ys ++ zs).map ntD) → zs = (if a < c ∧ c < b then [(a, c, b)] else []) → Q (.ref T₅) { s with heap := h₉, toks := tk₉ } := by
        intro T₅ h₉ tk₉ n₉ us m₉ g₉ zs S hD e
        subst e
        exact h _ _ _ _ S.F.keep (fun q hq => ⟨(S.G q hq).1, hL ▸ (S.G q hq).2.1⟩) (.list (.head _) hD)
      by_cases hac : a < c
      · rw [if_pos (by simp; omega)]
        refine test_last ?_
        refine nmS (by assumption) (by walk_at "wo look") ?_ rfl (by rfl) (by decide +kernel)
        refine lt_int ?_
        refine wpAny_truthy_bool ?_
        by_cases hcb' : c < b
        · rw [if_pos (by simp; omega)]
          refine List_ ?_
          refine args_cons ?_
          refine Tuple_ ?_
          refine args_cons ?_
          refine nmS (by assumption) (by walk_at "wo look") ?_ rfl (by rfl) (by decide +kernel)
          refine args_cons ?_
          refine nmS (by assumption) (by walk_at "wo look") ?_ rfl (by rfl) (by decide +kernel)
          refine args_cons ?_
          refine nmS (by assumption) (by walk_at "wo look") ?_ rfl (by rfl) (by decide +kernel)
          refine args_nil ?_
          refine tupS S (by walk_at "wo sz") fun T₄ h₉ S hT₄ _ => ?_
          try dsimp only
          refine args_nil ?_
          refine listS S (by walk_at "wo sz") fun T₅ h₁₀ S hT₅ _ => ?_
          try dsimp only
          refine catS S (vs := v1 ++ v2) (ws := [_]) (S.lv.list (by walk_at "wo mem")) (S.lv.list (by walk_at "wo mem")) (by rw [sizeLine_eq, List.length_append, List.length_singleton]; omega) fun T₆ h₁₁ S hT₆ _ => ?_
          try dsimp only
          refine fin T₆ _ _ _ _ _ _ [(a, c, b)] S ?_ (if_pos ⟨hac, hcb'⟩).symm
          rw [List.map_append, List.map_append]
          exact ((ha1.mono fun q hq => by walk_at "wo mem").append (ha2.mono fun q hq => by walk_at "wo mem")).append (.one (.tuple (n := 0) (by walk_at "wo mem") (.cons (.int _ _) (.cons (.int _ _) (.cons (.int _ _) .nil)))))
        · rw [if_neg (by simp; omega)]
          refine List_ ?_
          refine args_nil ?_
          refine listS S (by walk_at "wo sz") fun T₅ h₁₀ S hT₅ _ => ?_
          try dsimp only
          refine catS S (vs := v1 ++ v2) (ws := []) (S.lv.list (by walk_at "wo mem")) (S.lv.list (.head _)) (by rw [sizeLine_eq, List.length_append, List.length_nil]; omega) fun T₆ h₁₁ S hT₆ _ => ?_
          try dsimp only
          refine fin T₆ _ _ _ _ _ _ [] S ?_ (if_neg (by omega)).symm
          simp only [List.append_nil, List.map_append]
          exact (ha1.mono fun q hq => by walk_at "wo mem").append (ha2.mono fun q hq => by walk_at "wo mem")
      · rw [if_neg (by simp; omega), if_neg Bool.false_ne_true]
        refine List_ ?_
        refine args_nil ?_
        refine listS S (by walk_at "wo sz") fun T₅ h₁₀ S hT₅ _ => ?_
        try dsimp only
        refine catS S (vs := v1 ++ v2) (ws := []) (S.lv.list (by walk_at "wo mem")) (S.lv.list (.head _)) (by rw [sizeLine_eq, List.length_append, List.length_nil]; omega) fun T₆ h₁₁ S hT₆ _ => ?_
        try dsimp only
        refine fin T₆ _ _ _ _ _ _ [] S ?_ (if_neg (by omega)).symm
        simp only [List.append_nil, List.map_append]
        exact (ha1.mono fun q hq => by walk_at "wo mem").append (ha2.mono fun q hq => by walk_at "wo mem")

section
variable {w : World} {A : Around} {E : Value → Shared → Prop} {s : Shared} {a b : Int} {t u : Tok} {Q : Value → Shared → Prop}
theorem modR (r : Int) (hb : b ≠ 0) (hr : a.fmod b = r) (h : ∀ tk t', Q (.int r t') { s with toks := tk }) : wpAny (model pw w) A (binaryOp .Mod (.int a t) (.int b u)) Q E s := mod_int' hb (by rw [hr]; exact h _ _)
theorem pow106 (h : ∀ tk t', Q (.int 1000000 t') { s with toks := tk }) : wpAny (model pw w) A (binaryOp .Pow (.int 10 t) (.int 6 u)) Q E s := by
  refine PySem.AutoIntOps.pow_4 (by decide) (by decide) (by decide) (by decide) (by decide +kernel) ?_
  have e : (10 : Int) ^ (6 : Int).toNat = 1000000 := by decide +kernel
  rw [e]
  exact h _ _
theorem neD {p : Heap} {n : Nat} {L x y : Addr} {m : Lm} {μ g : Lg} {ds : List Dat} (S : Sm p n L s.heap m μ g) (hx : DatIn g (.ref x) (.list ds)) (hy : DatIn g (.ref y) (.list ds)) (hd : ∀ d ∈ ds, kqdOk 8 d = true) (hu : A.units + 64 < cLine) (h : Q (.bool false) s) :
    wpAny (model pw w) A (compareOp .NotEq (.ref x) (.ref y)) Q E s := by
  obtain ⟨xs, n1, m1, d1⟩ := dlist hx
  obtain ⟨ys, n2, m2, d2⟩ := dlist hy
  have N : News {} L s.heap g := fun q hq => ⟨(S.G q hq).1, (S.G q hq).2.2.1, rfl⟩
  refine kqd_ne N m1 rfl rfl d1 (fun _ hq => hq) m2 rfl rfl d2 (fun _ hq => hq) hd hd hu ?_
  simpa using h
theorem rng1 {p : Heap} {n : Nat} {L : Addr} {m : Lm} {μ g : Lg} {x : Int} {t : Tok} (S : Sm p n L s.heap m μ g)
    (h : ∀ r h' tk t u v, Sm p n L h' m μ g → IsRange h' r 0 x 1 t u v → Q (.ref r) { s with heap := h', toks := tk }) : wpAny (model pw w) A (call (.type "range") [.int x t]) Q E s :=
  call_range_1 (h _ _ _ _ _ _ (S.keeps fun _ _ e => Heap.get?_push_of_some _ e) (IsRange.new ..))
theorem rng2 {p : Heap} {n : Nat} {L : Addr} {m : Lm} {μ g : Lg} {x y : Int} {t u : Tok} (S : Sm p n L s.heap m μ g)
    (h : ∀ r h' tk t u v, Sm p n L h' m μ g → IsRange h' r x y 1 t u v → Q (.ref r) { s with heap := h', toks := tk }) : wpAny (model pw w) A (call (.type "range") [.int x t, .int y u]) Q E s :=
  call_range_2 (h _ _ _ _ _ _ (S.keeps fun _ _ e => Heap.get?_push_of_some _ e) (IsRange.new ..))
theorem nmCF {env : Env} {p : Heap} {n : Nat} {m : Lm} {μ g : Lg} {x : Str} {pos : Pos} {c : Addr} {o : Obj} {v : Value} {g₀ : Lg} (S : Sm p n env.locals s.heap m μ g) (l : Lv p g₀) (hc : env.cells.lookup x = some c) (hm : (c, o) ∈ g₀) (hd : o.data = .cell (some v)) (h : Q v s)
    (hk : env.scope.kind = .function) (hl : env.kindOf x = some .cell) (hb : (x == ("__debug__" : Str)) = false) : wpAny (model pw w) A (eval (.Name x pos) env) Q E s :=
  nmC hc (S.F.keep _ _ (l _ hm)) hd h hk hl hb
theorem listCS {s : Shared} {env : Env} {p : Heap} {n : Nat} {L : Addr} {m : Lm} {μ g : Lg} {up : Lm → Addr → Lm} {elt iter : Expr} {scope : Scope} {cl : List (Str × Addr)} {x1 : Str} {p1 : Pos} {l : Addr} {xs : Array Value} {σ : Lg} (Js : Nat → Lg → Lg → Prop) (S : Sm p n L s.heap m (σ ++ μ) g) (hl : s.heap.IsList l xs) (hσl : l ∉ σ.map (·.1)) (hA : A.handled = none) (sz : xs.size ≤ sizeLine) (d : Nat → Dat)
    (js : Js 0 σ []) (jm : ∀ i σ g g', Js i σ g → (∀ q ∈ g, q ∈ g') → Js i σ g')
    (el : ∀ (i : Nat) (C : Addr) (p' : Heap) (n' : Nat) (m₀ : Lm) (μ' g' σ' : Lg) (h : Heap) (tk : Nat) (v1 : Value), i < xs.size → xs[i]? = some v1 → Js i σ' g' → Kp p p' → Lv p' g → s.heap.objs.size ≤ n' → Sm p' n' C h (m₀.up x1 v1) (σ' ++ μ') g' →
      wpAny (model pw w) A (eval elt (compEnvC scope cl C env)) (fun y s' => ∃ h' tk' σ'' g'', s' = { s with heap := h', toks := tk' } ∧ Sm p' n' C h' (m₀.up x1 v1) (σ'' ++ μ') (g'' ++ g') ∧ σ''.map (·.1) = σ'.map (·.1) ∧ Js (i + 1) σ'' (g'' ++ g') ∧ DatIn g'' y (d i)) (fun _ _ => False) { s with heap := h, toks := tk })
    (fin : ∀ D h' tk σ' g', Js xs.size σ' g' → Sm p n L h' (up m D) (σ' ++ μ) (g' ++ g) → (∀ q ∈ g', s.heap.objs.size ≤ q.1) → DatIn g' (.ref D) (.list ((List.range xs.size).map d)) → Q (.ref D) { s with heap := h', toks := tk })
    (hf : ∀ C, Fnk (compEnvC scope cl C env) := by exact fun _ => rfl) (h1 : ∀ C, (compEnvC scope cl C env).kindOf x1 = some .local := by exact fun _ => by rfl) :
    wpAny (model pw w) A (pyIter (.ref l)) (fun it s₂ => CGX w A env elt (.Name x1 p1) iter [] scope cl L up Q it s₂) E s := by
  refine srcL (envs := fun C => compEnvC scope cl C env) (x := x1) (px := p1) S hl hA hf h1 fun z h₄ ω X S k' hz => ?_
  refine ⟨p, n, m, μ, g, z, xs.size, _, _, _, ω, σ, Js, fun _ => true, d, rfl, X.cmp (σ := σ) (fun b hb => hb ▸ hσl) S js jm sz ?_ ?_, X.self, S, fun D h' tk σ' g' hJ _ S' hg hD => ?_⟩
  · rintro i C p' n' m₀ m' μ' g' σ' h tk hi hj hB k1 k2 k3 hn S'
    exact tst0 ⟨rfl, h, tk, rfl, Kp.rfl, fun e => by cases e⟩
  · rintro i C p' n' m₀ m' μ' g' σ' h tk hi _ hj ⟨v1, e1, rfl⟩ k1 k2 k3 hn S'
    exact el i C p' n' m₀ μ' g' σ' h tk v1 hi e1 hj k1 k2 (Nat.le_trans hz.2 hn) S'
  · have e : (List.range xs.size).filter (fun _ => true) = List.range xs.size := by simp
    rw [e] at hD
    exact fin D h' tk σ' g' hJ S' (fun q hq => Nat.le_trans hz.2 (hg q hq)) hD
noncomputable def TJ (σ g : Lg) : Prop := ∃ o37 o44, σ = [(37, o37), (44, o44)] ∧ TbG p37 q37 g o37 ∧ TbG p44 q44 g o44
theorem wtk {α : Type} {c : Sem α} {A : Around} {E : Value → Shared → Prop} {s : Shared} {h : Heap} {Q : α → Shared → Prop} {tk : Nat} (H : ∀ tk, wpAny (model pw w) A c Q E { s with heap := h, toks := tk }) : wpAny (model pw w) A c Q E { s with heap := h, toks := tk } := H tk
theorem Sm.chgJ {p h h' : Heap} {n : Nat} {L a : Addr} {o o' : Obj} {m : Lm} {μ g g' : Lg} (S : Sm p n L h m ((a, o) :: μ) g) (hs : KpX [a] h h') (ha : h'.get? a = some o') (hg : ∀ q ∈ g', h'.get? q.1 = some q.2 ∧ h.objs.size ≤ q.1) : Sm p n L h' m ((a, o') :: μ) (g' ++ g) :=
  Sm.callX (ω := [(a, o)]) (ω' := [(a, o')]) S rfl hs (fun q hq => by rw [List.mem_singleton.mp hq]; exact ha) hg
theorem TbG.tab {pos : Pos} {qual : Str} {g : Lg} {o : Obj} (T : TbG pos qual g o) : ∃ ps, o = tabObj ps := by
  rcases T with rfl | ⟨_, _, _, _, rfl, _⟩ <;> exact ⟨_, rfl⟩
inductive LitI : List Expr → List Int → Prop
  | nil : LitI [] []
  | cons (k : Int) (n : Nat) (p : Pos) {es : List Expr} {ks : List Int} (h : LitI es ks) : LitI (.Constant (.int k) n p :: es) (k :: ks)
theorem litArgs {env : Env} {pos : Pos} {es : List Expr} {ks : List Int} (hl : LitI es ks) : ∀ {s : Shared} {Q : List Value → Shared → Prop}, (∀ vs tk, DatAll [] vs (ks.map Dat.int) → Q vs { s with toks := tk }) → wpAny (model pw w) A (spliced (backTo pos (starEach es env))) Q E s := by
  induction hl with
  | nil => intro s Q h; exact args_nil (h [] s.toks .nil)
  | cons k n p _ ih =>
    intro s Q h
    refine args_cons (wpAny_Constant_int ?_)
    exact ih fun vs tk hd => h (_ :: vs) tk (.cons (.int _ _) hd)
end
section
variable {w : World} {A : Around} {E : Value → Shared → Prop} {s : Shared} {env : Env} {p : Heap} {n : Nat} {m : Lm} {μ g : Lg}
theorem forZipC {E' : Value → Shared → Prop} {x1 x2 : Str} {p1 p2 pos : Pos} {kk : Nat} {body : List Stmt} {l1 l2 c : Addr} {o : Obj} {w₀ : Option Value} {xs ys : Array Value} {k : Nat} {R : Result → Shared → Prop} (J : Nat → Lm → Lg → Lg → Prop)
    (S : Sm p n env.locals s.heap m ((c, o) :: μ) g) (ho : o.data = .cell w₀) (hl1 : s.heap.IsList l1 xs) (hl2 : s.heap.IsList l2 ys) (hk : k = min xs.size ys.size) (hA : A.handled = none) (hf : Fnk env) (h1 : env.kindOf x1 = some .cell) (hc : env.cells.lookup x1 = some c) (h2 : env.kindOf x2 = some .local)
    (hJ : J 0 m μ g) (hR : ∀ (h' : Heap) (i : Nat) (m' : Lm) (ω' μ' g' : Lg), J i m' μ' g' → Sm p n env.locals h' m' (ω' ++ μ') g' → h'.IsList l1 xs ∧ h'.IsList l2 ys)
    (turn : ∀ i m₁ v1 v2 μ' g' ω' o' h' tk, i < k → J i m₁ μ' g' → xs[i]? = some v1 → ys[i]? = some v2 → o'.data = .cell (some v1) → (c, o') ∈ ω' ++ μ' → Sm p n env.locals h' (m₁.up x2 v2) (ω' ++ μ') g' →
      wpAny (model pw w) A (execs body env) (fun f s' => (f = .next ∨ f = .cont) ∧ ∃ h'' tk' m₃ μ'' g'', s' = { s with heap := h'', toks := tk' } ∧ Sm p n env.locals h'' m₃ (ω' ++ μ'') g'' ∧ J (i + 1) m₃ μ'' g'') (fun _ _ => False) { s with heap := h', toks := tk })
    (done : ∀ m' μ' g' h' tk, J k m' μ' g' → Sm p n env.locals h' m' μ' g' → R (.ok .next) { s with heap := h', toks := tk }) :
    wpAny (model pw w) A (call (.type "zip") [.ref l1, .ref l2]) (fun xv s₁ => wpAny (model pw w) A (pyIter xv) (fun it s₂ => codeAny (model pw w) A (.forLoop (.Tuple [.Name x1 p1, .Name x2 p2] kk pos) it body [] env) R s₂) E' s₁) E s := by
  refine zipS (x1 := x2) (x2 := x2) (p1 := p1) (p2 := p2) (pos := pos) (kk := kk) (envs := fun _ => env) S hl1 hl2 hk hA (fun _ => hf) (fun _ => h2) (fun _ => h2) fun z h₆ ω X S k' hz => ?_
  obtain ⟨TI, TO, i1, i2, a, b, o1, o2, rfl, e1, e2⟩ := id X.om
  refine X.self _ _ _ _ X.om X.al ?_
  refine forHO (env := env) (ω := [(z, zipO TI TO .none), (TI, pairO (.ref i1) (.ref i2)), (TO, pairO a b), (i1, o1), (i2, o2)] ++ [(c, o)]) J (hd_zipG (l1 := l1) (l2 := l2) (xs := xs) (ys := ys) (up := fun m _ v2 => m.up x2 v2) (Κ := fun i ω => ∃ o', ω = [(c, o')] ∧ ∃ w, o'.data = .cell w ∧ ∀ j v, i = j + 1 → xs[j]? = some v → w = some v) hk hA ?_) ⟨[(c, o)], ⟨o, rfl, w₀, ho, fun j v e => by cases e⟩, TI, TO, i1, i2, a, b, o1, o2, rfl, e1, e2⟩ (by rw [List.append_assoc]; exact S) hJ hR ?_ done
  · rintro i s T v1 v2 p n m μ g ω₂ Q E hv1 hv2 hT ⟨o', rfl, w₁, hw, _⟩ S' hQ
    refine assign_Tuple_tuple hA hT rfl rfl fun h' hk => ?_
    have S1 := S'.keeps (h' := h') fun b x e => hk b x (Nat.ne_of_lt (Heap.lt_size e)) e
    refine assignInOrder_cons (wpAny_assign_Name (stCm S1 (List.Perm.refl _) hw hf h1 hc fun h₂ o₂ d₂ S2 => ?_))
    refine assignInOrder_cons (wpAny_assign_Name (stS S2 hf h2 fun h₃ tk₃ S3 => assignInOrder_nil ?_))
    exact hQ _ _ [(c, o₂)] ⟨o₂, rfl, _, d₂, fun j v e hv => by cases e; rw [hv1] at hv; exact hv⟩ S3
  · rintro i m₁ m₂ μ' g' ω' h' tk hi hJ' ⟨v1, v2, hv1, hv2, rfl⟩ ⟨ω₂, ⟨o', rfl, w₁, hw, hwv⟩, TI, TO, i1, i2, a, b, o1, o2, rfl, _⟩ S'
    have := hwv i v1 rfl hv1
    subst this
    exact turn i m₁ v1 v2 μ' g' _ o' h' tk hi hJ' hv1 hv2 hw (List.mem_append_left _ (List.mem_append_right _ (.head _))) S'
end
theorem ints0 {g : Lg} {vs : List Value} {ns : List Int} (h : DatAll g vs (ns.map Dat.int)) : DatAll [] vs (ns.map Dat.int) := by
  induction vs generalizing ns with
  | nil =>
    have := h.length
    cases ns with
    | nil => exact .nil
    | cons c cs => simp at this
  | cons v vs ih =>
    cases ns with
    | nil => cases h
    | cons c cs =>
      rw [List.map_cons] at h ⊢
      cases h with
      | cons h r =>
        obtain ⟨t, rfl⟩ := dint h
        exact .cons (.int _ _) (ih r)
theorem ints0' {g : Lg} {vs : List Value} {k : Nat} {f : Nat → Int} (h : DatAll g vs ((List.range k).map fun i => Dat.int (f i))) : DatAll [] vs ((List.range k).map fun i => Dat.int (f i)) := by
  have e : (List.range k).map (fun i => Dat.int (f i)) = ((List.range k).map f).map Dat.int := by rw [List.map_map]; rfl
  rw [e] at h ⊢
  exact ints0 h
theorem rngMap {α β : Type} {f : Nat → β} {l : List α} {g : α → β} {k : Nat} (hk : k = l.length) (h : ∀ i a, l[i]? = some a → f i = g a) : (List.range k).map f = l.map g := by
  apply List.ext_getElem
  · simp [hk]
  · intro i h1 h2
    simp at h1 h2
    simp
    exact h i _ (by simp [h2])
theorem lget {g : Lg} {vs : List Value} {ds : List Dat} {i : Nat} {v : Value} {d : Dat} (h : DatAll g vs ds) (e : vs.toArray[i]? = some v) (hd : ds[i]? = some d) : DatIn g v d := by
  obtain ⟨y, ey, hy⟩ := datGet h hd
  rw [show vs.toArray[i]? = vs[i]? from by simp, ey] at e
  cases e; exact hy
theorem Sm.nameM {p h : Heap} {n : Nat} {L : Addr} {m : Lm} {μ g : Lg} (S : Sm p n L h m μ g) : ∃ M, M = m ∧ Sm p n L h M μ g := ⟨m, rfl, S⟩
noncomputable def ltr (k : Nat) : Nat := [97, 65, 98, 66, 99, 67, 100, 68].getD k 0
theorem bs_uniq {p : Nat → Bool} {q : Nat} : ∀ (d lo hi : Nat), hi - lo ≤ d → lo ≤ q → q ≤ hi → (∀ i, lo ≤ i → i < hi → (p i = true ↔ q ≤ i)) → bs p lo hi = q := by
  intro d
  induction d with
  | zero => intro lo hi h1 h2 h3 _; rw [bs_ge (by omega)]; omega
  | succ d ih =>
    intro lo hi h1 h2 h3 hp
    by_cases hlt : lo < hi
    · rw [bs_lt hlt]
      have hm := hp ((lo + hi) / 2) (by omega) (by omega)
      by_cases hq : p ((lo + hi) / 2) = true
      · rw [if_pos hq]
        exact ih _ _ (by omega) h2 (hm.mp hq) fun i a b => hp i a (by omega)
      · rw [if_neg hq]
        have : ¬ q ≤ (lo + hi) / 2 := fun z => hq (hm.mpr z)
        exact ih _ _ (by omega) (by omega) h3 fun i a b => hp i (by omega) b
    · rw [bs_ge hlt]; omega
theorem bsPts {N m : Nat} (h1 : m < 2 * N) : bs (fun j => decide ((32 * (m : Int)) < ((List.range 31).map fun i => ((2 * N * (i + 1) : Nat) : Int)).getD j 0)) 0 ((List.range 31).map fun i => ((2 * N * (i + 1) : Nat) : Int)).length = 32 * m / (2 * N) := by
  refine bs_uniq 31 0 _ (by simp) (Nat.zero_le _) ?_ fun i _ hi => ?_
  · have : 32 * m / (2 * N) < 32 := (Nat.div_lt_iff_lt_mul (by omega)).mpr (by omega)
    simp; omega
  · have hi' : i < 31 := by simpa using hi
    have e : ((List.range 31).map fun i => ((2 * N * (i + 1) : Nat) : Int)).getD i 0 = ((2 * N * (i + 1) : Nat) : Int) := by simp [List.getD_eq_getElem?_getD, hi']
    rw [e, decide_eq_true_eq]
    have z : 32 * m / (2 * N) < i + 1 ↔ 32 * m < (i + 1) * (2 * N) := Nat.div_lt_iff_lt_mul (by omega)
    rw [Nat.mul_comm (i + 1)] at z
    omega
theorem filtRange {α : Type} [Inhabited α] (l : List α) (P : α → Bool) : ((List.range l.length).filter fun j => P (l.getD j default)).length = (l.filter P).length := by
  have e : l.filter P = ((List.range l.length).map fun j => l.getD j default).filter P := by
    congr 1
    apply List.ext_getElem
    · simp
    · intro i h1 h2; simp at h1 h2; simp [h1]
  rw [e, List.filter_map, List.length_map]; rfl
theorem castS (l : List (List Nat)) : (l.map fun r => ((r.length : Nat) : Int)).sum = (((l.map List.length).sum : Nat) : Int) := by
  induction l with
  | nil => rfl
  | cons a r ih => simp only [List.map_cons, List.sum_cons]; rw [ih]; push_cast; rfl
theorem letS {w : World} {A : Around} {E : Value → Shared → Prop} {s : Shared} {t u : Tok} {Q : Value → Shared → Prop} {x : Int} (h : ∀ tk t', Q (.str ⟨#[ltr (x % 8).toNat]⟩ t') { s with toks := tk }) :
    wpAny (model pw w) A (getItem (.str "aAbBcCdD" t) (.int (x % 8) u)) Q E s := by
  obtain ⟨k, hk, e⟩ : ∃ k : Nat, k < 8 ∧ x % 8 = k := ⟨(x % 8).toNat, by omega, by omega⟩
  rw [e] at h ⊢
  rw [Int.toNat_natCast] at h
  refine P.getItem_str (by simp; omega) ?_ (h _ _)
  have key : ∀ k < 8, (seqIndex? ((k : Nat) : Int) (Str.length "aAbBcCdD")).bind (("aAbBcCdD" : Str).cps[·]?) = some (ltr k) := by decide +kernel
  exact key k hk
noncomputable def cellsOf (is : List Int) : List Int := (is.take 5).map (· % 1000000) ++ [6, 2, 7, 0, 1, 4, 5, 3, 0]
noncomputable def txtOf (is : List Int) : List Nat := (cellsOf is).map fun c => ltr (c % 8).toNat
noncomputable def stO (rs : List (List Nat)) (i : Nat) : Nat := ((rs.take i).map List.length).sum
noncomputable def mdO (rs : List (List Nat)) (i : Nat) : Nat := stO rs i + stO rs (i + 1)
noncomputable def mkO (rs : List (List Nat)) (N i : Nat) : Nat := 32 * mdO rs i / (2 * N)
noncomputable def mksO (rs : List (List Nat)) (N : Nat) : List Int := (List.range rs.length).map fun i => ((mkO rs N i : Nat) : Int)
noncomputable def pwsO (rs : List (List Nat)) (N : Nat) : List Nat := (powL (mksO rs N)).map Int.toNat
noncomputable def qsO (rs : List (List Nat)) (N : Nat) : List (Nat × List Nat) := (List.range rs.length).map fun i => ((pwsO rs N).getD i 0, rs.getD i [])
noncomputable def depO (ns : List (Nat × Nat × Nat)) (st : Nat) : Nat := (ns.filter fun t => decide (t.1 ≤ st) && decide (st < t.2.2)).length
noncomputable def rkO (cs : List Nat) : List Nat := (List.range 4).flatMap fun j => cs.filter fun c => decide (c % 32 = j + 1)
noncomputable def h32 (rs : List (List Nat)) : List Int := (List.range rs.length).map fun i => ((32 * mdO rs i : Nat) : Int)
structure LawOk (cs : List Nat) (rs : List (List Nat)) (N : Nat) (ns tr : List (Nat × Nat × Nat)) : Prop where
  eR : runsOf cs = rs
  eN : cs.length = N
  n1 : 9 ≤ N
  n2 : N ≤ 14
  k : 1 ≤ rs.length ∧ rs.length ≤ 14
  asc : ∀ c ∈ cs, c < 128
  asr : ∀ r ∈ rs, ∀ c ∈ r, c < 128
  rl : ∀ j (h : j < rs.length), rs[j].length ≤ 14
  mid : ∀ i, i < rs.length → 1 ≤ mdO rs i ∧ mdO rs i < 2 * N
  st : ∀ i, stO rs i ≤ 14
  qlen : (qsO rs N).length ≤ 50
  qsum : ((qsO rs N).map fun q => q.2.length).sum ≤ 100
  qasc : ∀ q ∈ qsO rs N, ∀ c ∈ q.2, c < 128
  qstr : ((qsO rs N).map fun q => strD q.2) = rs.map strD
  qint : ((qsO rs N).map fun q => Dat.int q.1) = (powL (mksO rs N)).map Dat.int
  p100 : ∀ q ∈ qsO rs N, q.1 ≤ 100
  pile : pileF (qsO rs N) = ([(0, rkO cs)], ns)
  nsl : ns.length ≤ 100
  dep : ∀ i, i < rs.length → (rs.getD i []).length * 2 ^ depO ns (stO rs i) < 4 * N
  hal : halF (h32 rs) 6 0 rs.length (((32 * N : Nat)) : Int) (((16 * N : Nat)) : Int) = some tr
  trl : ∀ t ∈ tr, t.1 ≤ rs.length ∧ t.2.1 ≤ rs.length ∧ t.2.2 ≤ rs.length
  nts : ns = tr.map fun t => (stO rs t.1, stO rs t.2.1, stO rs t.2.2)

abbrev LC2 (elt : Expr) (x1 : Str) (q1 : Pos) (iter1 : Expr) (x2 : Str) (q2 : Pos) (iter2 c : Expr) (scope : Scope) (pos : Pos) : Expr := .ListComp elt [⟨.Name x1 q1, iter1, [], 0⟩, ⟨.Name x2 q2, iter2, [c], 0⟩] scope pos
section
variable {w : World} {A : Around} {E : Value → Shared → Prop} {s : Shared} {env : Env} {R : Result → Shared → Prop} {elt iter1 iter2 c : Expr} {x1 x2 : Str} {q1 q2 pos : Pos} {scope : Scope} {it acc : Value}
theorem turn0 : compTurn (LC2 elt x1 q1 iter1 x2 q2 iter2 c scope pos) 0 it acc env = (do
    standAt iter1.pos
    match ← pyNext it with
    | none => pure (.done .next)
    | some v =>
      letOwnedTupleGo (.Name x1 q1) it v
      assign (.Name x1 q1) env v
      let x ← eval iter2 env
      standAt iter2.pos
      let x ← foldedSetIterable iter2 env x
      let _ ← runOwn (.compStart (LC2 elt x1 q1 iter1 x2 q2 iter2 c scope pos) 1 (← holding [x] (pyIter x)) acc env) env
      again (.compLoop (LC2 elt x1 q1 iter1 x2 q2 iter2 c scope pos) 0 it acc env)) := by rfl
theorem turn1 : compTurn (LC2 elt x1 q1 iter1 x2 q2 iter2 c scope pos) 1 it acc env = (do
    standAt iter2.pos
    match ← pyNext it with
    | none => pure (.done .next)
    | some v =>
      letOwnedTupleGo (.Name x2 q2) it v
      assign (.Name x2 q2) env v
      let mut ok := true
      for c in [c] do
        if ok then ok ← isTrue c env (eval c env)
      if ok then
        (do let _ ← call (.builtin "list.append") [acc, ← eval elt env])
      again (.compLoop (LC2 elt x1 q1 iter1 x2 q2 iter2 c scope pos) 1 it acc env)) := by
  rfl
theorem loop0 (I : Nat → Shared → Prop) (hs : ∀ x, foldedSetIterable iter2 env x = pure x)
    (turn : ∀ n s, I n s → wpAny (model pw w) A (pyNext it) (fun r s₁ => match r with
      | none => R (.ok .next) s₁
      | some v => wpAny (model pw w) A (letOwnedTupleGo (.Name x1 q1) it v) (fun _ s₁' => wpAny (model pw w) A (assign (.Name x1 q1) env v) (fun _ s₂ => wpAny (model pw w) A (eval iter2 env) (fun x s₃ => wpAny (model pw w) A (pyIter x) (fun it2 s₄ =>
          codeAny (model pw w) A (.compStart (LC2 elt x1 q1 iter1 x2 q2 iter2 c scope pos) 1 it2 acc env) (fun r s' => r = .ok .next ∧ ∃ m, m < n ∧ I m s') s₄) (fun _ _ => False) s₃) (fun _ _ => False) s₂) (fun _ _ => False) s₁') (fun _ _ => False) s₁) (fun _ _ => False) s)
    (n : Nat) (h : I n s) : codeAny (model pw w) A (.compLoop (LC2 elt x1 q1 iter1 x2 q2 iter2 c scope pos) 0 it acc env) R s := by
  refine codeAny_loop rfl I (fun n s hI => ?_) n h
  show wpAny _ A ((compTurn (LC2 elt x1 q1 iter1 x2 q2 iter2 c scope pos) 0 it acc env).onRaise (fun x => do noteFrame x env; theTreesLotGoes x)) _ _ s
  refine wpAny_noted ?_
  rw [turn0]
  refine wpAny_bind (wpAny_standAt (wpAny_bind (wpAny_mono (turn n s hI) (fun r s₁ h₁ => ?_) fun _ _ h' => h'.elim)))
  cases r with
  | none => exact wpAny_pure h₁
  | some v =>
    refine wpAny_bind (wpAny_mono h₁ (fun _ s₁' h₁' => ?_) fun _ _ h' => h'.elim)
    refine wpAny_bind (wpAny_mono h₁' (fun _ s₂ h₂ => wpAny_bind (wpAny_mono h₂ (fun x s₃ h₃ => ?_) fun _ _ h' => h'.elim)) fun _ _ h' => h'.elim)
    refine wpAny_bind (wpAny_standAt (wpAny_bind (wpAny_of_eq (hs x) ?_)))
    refine wpAny_bind (wpAny_holding (wpAny_mono h₃ (fun it2 s₄ h₄ => ?_) fun _ _ h' => h'.elim))
    refine wpAny_bind (wpAny_runOwn (codeAny_mono h₄ fun r s' hr => ?_))
    obtain ⟨rfl, hr⟩ := hr
    exact wpAny_pure ⟨rfl, hr⟩
theorem loop1 (I : Nat → Shared → Prop)
    (turn : ∀ n s, I n s → wpAny (model pw w) A (pyNext it) (fun r s₁ => match r with
      | none => R (.ok .next) s₁
      | some v => wpAny (model pw w) A (letOwnedTupleGo (.Name x2 q2) it v) (fun _ s₁' => wpAny (model pw w) A (assign (.Name x2 q2) env v) (fun _ s₂ =>
          wpAny (model pw w) A (isTrue c env (eval c env)) (fun ok s₃ =>
            if ok = true then wpAny (model pw w) A (eval elt env) (fun x s₄ =>
              wpAny (model pw w) A (call (.builtin "list.append") [acc, x]) (fun _ s₅ => ∃ m, m < n ∧ I m s₅) (fun _ _ => False) s₄) (fun _ _ => False) s₃
            else ∃ m, m < n ∧ I m s₃) (fun _ _ => False) s₂) (fun _ _ => False) s₁') (fun _ _ => False) s₁) (fun _ _ => False) s)
    (n : Nat) (h : I n s) : codeAny (model pw w) A (.compLoop (LC2 elt x1 q1 iter1 x2 q2 iter2 c scope pos) 1 it acc env) R s := by
  refine codeAny_loop rfl I (fun n s hI => ?_) n h
  show wpAny _ A ((compTurn (LC2 elt x1 q1 iter1 x2 q2 iter2 c scope pos) 1 it acc env).onRaise (fun x => do noteFrame x env; theTreesLotGoes x)) _ _ s
  refine wpAny_noted ?_
  rw [turn1]
  refine wpAny_bind (wpAny_standAt (wpAny_bind (wpAny_mono (turn n s hI) (fun r s₁ h₁ => ?_) fun _ _ h' => h'.elim)))
  cases r with
  | none => exact wpAny_pure h₁
  | some v =>
    refine wpAny_bind (wpAny_mono h₁ (fun _ s₁' h₁' => ?_) fun _ _ h' => h'.elim)
    refine wpAny_bind (wpAny_mono h₁' (fun _ s₂ h₂ => wpAny_bind (wpAny_mono (tst1 h₂) (fun ok s₃ h₃ => ?_) fun _ _ h' => h'.elim)) fun _ _ h' => h'.elim)
    cases ok with
    | false => exact wpAny_pure ⟨rfl, by simpa using h₃⟩
    | true =>
      rw [if_pos rfl] at h₃
      exact wpAny_bind (wpAny_bind (wpAny_mono h₃ (fun x s₄ h₄ => wpAny_bind (wpAny_mono h₄ (fun _ s₅ h₅ => wpAny_pure (wpAny_pure ⟨rfl, h₅⟩)) fun _ _ h' => h'.elim)) fun _ _ h' => h'.elim))
theorem start1 (h0 : codeAny (model pw w) A (.compLoop (LC2 elt x1 q1 iter1 x2 q2 iter2 c scope pos) 1 it acc env) R s)
    (h : wpAny (model pw w) A (pyIter it) (fun it' s' => codeAny (model pw w) A (.compLoop (LC2 elt x1 q1 iter1 x2 q2 iter2 c scope pos) 1 it' acc env) R s') (notedBy (model pw w) A env fun x s' => R (.error x) s') s) :
    codeAny (model pw w) A (.compStart (LC2 elt x1 q1 iter1 x2 q2 iter2 c scope pos) 1 it acc env) R s := by
  refine codeAny_of_tree ?_
  show wpAny _ _ ((compStart (LC2 elt x1 q1 iter1 x2 q2 iter2 c scope pos) 1 it acc env).onRaise (fun x => do noteFrame x env; standAt theWindowsPlace)) _ _ s
  refine wpAny_notedAt ?_
  unfold compStart
  show wpAny _ _ (ask >>= _) _ _ s
  refine wpAny_bind (wpAny_askSetting (wpAny_ite ?_))
  split
  · first
      | exact wpAny_bind (wpAny_pure (wpAny_pure (And.intro rfl h0)))
      | exact wpAny_pure (And.intro rfl h0)
  · first
      | exact wpAny_bind (wpAny_rule (wpAny_bind (wpAny_standAt (wpAny_bind (wpAny_mono h (fun it' s' h' => wpAny_pure (And.intro rfl h')) fun _ _ x => x)))))
      | (refine wpAny_bind (wpAny_rule ?_); show wpAny _ _ (standAt iter2.pos >>= _) _ _ s; exact wpAny_bind (wpAny_standAt (wpAny_bind (wpAny_mono h (fun it' s' h' => wpAny_pure (And.intro rfl h')) fun _ _ x => x))))
noncomputable def rkA (cs : List Nat) (i : Nat) : List Nat := (List.range i).flatMap fun j => cs.filter fun c => decide (c % 32 = j + 1)
theorem rkA_succ (cs : List Nat) (i : Nat) : rkA cs (i + 1) = rkA cs i ++ cs.filter fun c => decide (c % 32 = i + 1) := by
  unfold rkA
  rw [List.range_succ, List.flatMap_append]; simp
noncomputable def C2X (w : World) (A : Around) (env : Env) (scope : Scope) (cl : List (Str × Addr)) (cs : List Nat) (x1 : Str) (q1 : Pos) (p : Heap) (L : Addr) (g₀ : Lg) (Q : Value → Shared → Prop) (it : Value) (s₂ : Shared) : Prop :=
  ∃ n m μ g I ω, it = .ref I ∧
      Src w A (fun C => compEnvC scope cl C env) (.Name x1 q1) s₂.heap I 4 (riΩ I 1 4) (fun _ => True) (fun i m m' => ∃ v, (∃ t, v = .int (1 + (i : Nat)) t) ∧ m' = m.up x1 v) (fun _ => False) ω ∧ Sm p n L s₂.heap m (ω ++ μ) g ∧ (∀ q ∈ g₀, q ∈ g) ∧
      (∀ D h' tk ys nn, Sm p n L h' m μ ((D, listOf ys.toArray nn) :: g) → DatAll [] ys ((rkA cs 4).map chD) → Q (.ref D) { s₂ with heap := h', toks := tk })
theorem rkA_len (cs : List Nat) : ∀ i, (rkA cs i).length ≤ i * cs.length := by
  intro i
  induction i with
  | zero => simp [rkA]
  | succ i ih =>
    rw [rkA_succ, List.length_append, Nat.succ_mul]
    exact Nat.add_le_add ih (List.length_filter_le _ _)
set_option maxHeartbeats 2000000 in
theorem cmp2 {cl : List (Str × Addr)} {cs : List Nat} {t₀ : Tok} {p : Heap} {L : Addr} {g₀ : Lg} {Q : Value → Shared → Prop}
    (hclos : closureFor scope env = pure cl) (hcell : ∀ y ∈ scope.names, y.2 ≠ .cell) (hkind : scope.kind = .function) (hnames : ∀ y ∈ scope.names, y.2 = .local → scope.names.lookup y.1 = some .local)
    (hfn : ∀ C, Fnk (compEnvC scope cl C env)) (hk1 : ∀ C, (compEnvC scope cl C env).kindOf x1 = some .local) (hk2 : ∀ C, (compEnvC scope cl C env).kindOf x2 = some .local) (hx : x1 ≠ x2) (hs1 : ∀ x, foldedSetIterable iter1 env x = pure x) (hs2 : ∀ C x, foldedSetIterable iter2 (compEnvC scope cl C env) x = pure x)
    (has : ∀ c ∈ cs, c < 128) (hcs : cs.length ≤ 100) (hA : A.handled = none)
    (hi2 : ∀ C p' n' m' μ' g' (s' : Shared) Q', Kp p p' → Lv p' g₀ → Sm p' n' C s'.heap m' μ' g' → Q' (.str ⟨cs.toArray⟩ t₀) s' → wpAny (model pw w) A (eval iter2 (compEnvC scope cl C env)) Q' (fun _ _ => False) s')
    (hc : ∀ C p' n' m' μ' g' (s' : Shared) i d t1 t2, i < 4 → Kp p p' → Sm p' n' C s'.heap m' μ' g' → m' x1 = some (.int (1 + (i : Nat)) t1) → m' x2 = some (.str ⟨#[d]⟩ t2) →
      wpAny (model pw w) A (isTrue c (compEnvC scope cl C env) (eval c (compEnvC scope cl C env))) (fun ok s₃ => ok = decide (d % 32 = i + 1) ∧ ∃ h' tk', s₃ = { s' with heap := h', toks := tk' } ∧ Kp s'.heap h') (fun _ _ => False) s')
    (he : ∀ C p' n' m' μ' g' (s' : Shared) v Q', Sm p' n' C s'.heap m' μ' g' → m' x2 = some v → Q' v s' → wpAny (model pw w) A (eval elt (compEnvC scope cl C env)) Q' (fun _ _ => False) s')
    (h : wpAny (model pw w) A (eval iter1 env) (fun xv s₁ => wpAny (model pw w) A (pyIter xv) (fun it s₂ => C2X w A env scope cl cs x1 q1 p L g₀ Q it s₂) E s₁) E s) :
    wpAny (model pw w) A (eval (LC2 elt x1 q1 iter1 x2 q2 iter2 c scope pos) env) Q E s := by
  rw [eval_ListComp]
  refine wpAny_comprehension_free (use := none) rfl hs1 hclos hkind hnames (wpAny_mono h (fun xv s₁ h₁ => wpAny_mono h₁ (fun it s₂ h₂ => ?_) fun _ _ e => e) fun _ _ e => e)
  obtain ⟨n, m, μ, g, I, ω, rfl, X, S, hg₀, hfin⟩ := h₂
  refine wpAny_newObj_type (wpAny_newFunctionEnv hcell (by intro y hy; simp at hy) (fun h₁ hns₁ hsb₁ => ?_) hkind)
  dsimp only at hns₁ hsb₁ ⊢
  generalize hH2 : s₂.heap.push { cls := .type "list", dict := none, data := .seq ([] : List Value).toArray } = H2 at hns₁ hsb₁ ⊢
  have hC : H2.objs.size = s₂.heap.objs.size + 1 := by rw [← hH2, Heap.size_push]
  have hDC : s₂.heap.objs.size ≠ H2.objs.size := by omega
  have below : ∀ b, b < s₂.heap.objs.size → b ≠ H2.objs.size := fun b hb => by omega
  have old : ∀ b o, s₂.heap.get? b = some o → h₁.get? b = some o := fun b o e => hsb₁.extBut b o (below b (Heap.lt_size e)) (Heap.get?_push_of_some _ (hH2 ▸ Heap.get?_push_of_some _ e))
  have hD : h₁.get? s₂.heap.objs.size = some (listOf #[] 0) := hsb₁.extBut _ _ hDC (Heap.get?_push_of_some _ (hH2 ▸ Heap.get?_push_size _ rfl))
  have hlt : ∀ q ∈ ω, q.1 < s₂.heap.objs.size := fun q hq => Heap.lt_size (X.al q hq)
  have S₀ : Sm (hideAll s₂.heap (ω.map (·.1))) s₂.heap.objs.size H2.objs.size h₁ (fun _ => none) (ω ++ [(s₂.heap.objs.size, listOf #[] 0)]) [] := by
    have hDω : s₂.heap.objs.size ∉ ω.map (·.1) := fun q => by
      obtain ⟨r, hr, e⟩ := List.mem_map.mp q
      exact absurd (hlt r hr) (Nat.not_lt.mpr (Nat.le_of_eq (show s₂.heap.objs.size = r.1 from e.symm)))
    refine ⟨⟨by simpa using hns₁, fun b o e => old b o (of_hideAll _ e), by rw [hideAll_size]; omega⟩, fun q hq => ?_, ?_, fun q hq => (nomatch hq), by omega⟩
    · rcases List.mem_append.mp hq with hq | hq
      · exact ⟨old _ _ (X.al q hq), below _ (hlt q hq), hideAll_none _ (mem1 hq rfl)⟩
      · rw [List.mem_singleton.mp hq]
        refine ⟨hD, hDC, ?_⟩
        cases z : (hideAll s₂.heap (ω.map (·.1))).get? s₂.heap.objs.size with
        | none => rfl
        | some o => exact absurd (Heap.lt_size (of_hideAll _ z)) (Nat.lt_irrefl _)
    · rw [List.map_append]
      refine List.nodup_append.mpr ⟨X.nd, by simp, fun a ha b hb e => ?_⟩
      have e' : a = s₂.heap.objs.size := by rw [e, List.mem_singleton.mp hb]
      exact hDω (e' ▸ ha)
  have kp : Kp p (hideAll s₂.heap (ω.map (·.1))) := fun b o e => hideAll_get _ (S.F.keep b o e) fun z => by
    obtain ⟨r, hr, er⟩ := List.mem_map.mp z
    have er' : r.1 = b := er
    rw [← er', (S.M r (List.mem_append_left _ hr)).2.2] at e; cases e
  have lg : Lv (hideAll s₂.heap (ω.map (·.1))) g₀ := fun q hq => hideAll_get _ (S.G q (hg₀ q hq)).1 fun z => by
    obtain ⟨r, hr, er⟩ := List.mem_map.mp z
    exact (S.G q (hg₀ q hq)).2.2.2 r (List.mem_append_left _ hr) er
  generalize hp₀ : hideAll s₂.heap (ω.map (·.1)) = p₀ at S₀ kp lg
  have fin : ∀ h' tk ys nn m' g', Sm p₀ s₂.heap.objs.size H2.objs.size h' m' [(s₂.heap.objs.size, listOf ys.toArray nn)] g' → DatAll [] ys ((rkA cs 4).map chD) → compPost (model pw w) A E none Q (.ref s₂.heap.objs.size) H2.objs.size (.ok .next) { s₂ with heap := h', toks := tk } := by
    intro h' tk ys nn m' g' S' hys
    refine ⟨m', S'.F.ns, fun h'' hs'' => hfin _ h'' tk ys nn ?_ hys⟩
    have k : ∀ b x, b ∉ ω.map (·.1) → s₂.heap.get? b = some x → h''.get? b = some x := fun b x hb e => (hs''.2 _ (below b (Heap.lt_size e))).trans (S'.F.keep b x (hp₀ ▸ hideAll_get _ e hb))
    refine (S.cuts k).addG (g' := [(s₂.heap.objs.size, listOf ys.toArray nn)]) fun q hq => ?_
    rw [List.mem_singleton.mp hq]
    exact ⟨(hs''.2 _ hDC).trans (S'.M _ (.head _)).1, S.low, fun e => absurd S.lt (Nat.not_lt.mpr (Nat.le_of_eq e)), fun r hr e => absurd (Heap.lt_size (S.M r (List.mem_append_right _ hr)).1) (Nat.not_lt.mpr (Nat.le_of_eq e.symm))⟩
  have loop : ∀ s₃ : Shared, s₃ = { s₂ with heap := h₁, toks := s₂.toks + ([] : List (Str × Value)).length } →
      codeAny (model pw w) A (.compLoop (LC2 elt x1 q1 iter1 x2 q2 iter2 c scope pos) 0 (.ref I) (.ref s₂.heap.objs.size) (compEnvC scope cl H2.objs.size env)) (compPost (model pw w) A E none Q (.ref s₂.heap.objs.size) H2.objs.size) s₃ := by
    rintro s₃ rfl
    refine loop0 (fun kk s' => ∃ i h' tk ys nn m' ω' g', s' = { s₂ with heap := h', toks := tk } ∧ i ≤ 4 ∧ kk = 5 - i ∧ riΩ I 1 4 i ω' ∧ Sm p₀ s₂.heap.objs.size H2.objs.size h' m' (ω' ++ [(s₂.heap.objs.size, listOf ys.toArray nn)]) g' ∧ DatAll [] ys ((rkA cs i).map chD)) (hs2 _) ?_ 5
      ⟨0, h₁, _, [], 0, _, ω, [], rfl, Nat.zero_le _, rfl, X.om, S₀, .nil⟩
    rintro kk s' ⟨i, h', tk, ys, nn, m', ω', g', rfl, hi, rfl, hΩ', S', hys⟩
    have jump := X.hd H2.objs.size i { s₂ with heap := h', toks := tk } (fun _ _ => False) p₀ _ m' _ g' ω' (fun b s₁ => if b = true then
        wpAny (model pw w) A (eval iter2 (compEnvC scope cl H2.objs.size env)) (fun x s₃ => wpAny (model pw w) A (pyIter x) (fun it2 s₄ =>
          codeAny (model pw w) A (.compStart (LC2 elt x1 q1 iter1 x2 q2 iter2 c scope pos) 1 it2 (.ref s₂.heap.objs.size) (compEnvC scope cl H2.objs.size env)) (fun r s' => r = .ok .next ∧ ∃ mm, mm < 5 - i ∧ ∃ i h' tk ys nn m' ω' g', s' = { s₂ with heap := h', toks := tk } ∧ i ≤ 4 ∧ mm = 5 - i ∧ riΩ I 1 4 i ω' ∧ Sm p₀ s₂.heap.objs.size H2.objs.size h' m' (ω' ++ [(s₂.heap.objs.size, listOf ys.toArray nn)]) g' ∧ DatAll [] ys ((rkA cs i).map chD)) s₄) (fun _ _ => False) s₃) (fun _ _ => False) s₁
        else compPost (model pw w) A E none Q (.ref s₂.heap.objs.size) H2.objs.size (.ok .next) s₁) hi hΩ' trivial S' ?_ ?_
    · refine wpAny_mono jump (fun r s₁ h₁ => ?_) fun _ _ e => e
      cases r with
      | none => rw [if_neg Bool.false_ne_true] at h₁; exact h₁
      | some v => exact wpAny_mono h₁ (fun _ s₂ h₂ => wpAny_mono h₂ (fun _ s₃ h₃ => by rw [if_pos rfl] at h₃; exact h₃) fun _ _ e => e) fun _ _ e => e
    · rintro h₂ tk₂ ω₂ m₂ hlt hΩ₂ ⟨v, ⟨t1, rfl⟩, rfl⟩ S₂
      rw [if_pos rfl]
      refine hi2 H2.objs.size p₀ _ _ _ _ _ _ kp lg S₂ ?_
      refine wpAny_pyIter_ascii (by simpa using has) ?_
      have S₃ := S₂.alM (o := { cls := .type "str_ascii_iterator", data := .fields #[.str ⟨cs.toArray⟩ t₀, .int 0 0] })
      generalize hI2 : h₂.objs.size = I2 at S₃ ⊢
      generalize hH3 : h₂.push { cls := .type "str_ascii_iterator", data := .fields #[.str ⟨cs.toArray⟩ t₀, .int 0 0] } = h₃ at S₃ ⊢
      have inner : codeAny (model pw w) A (.compLoop (LC2 elt x1 q1 iter1 x2 q2 iter2 c scope pos) 1 (.ref I2) (.ref s₂.heap.objs.size) (compEnvC scope cl H2.objs.size env)) (fun r s' => r = .ok .next ∧ ∃ mm, mm < 5 - i ∧ ∃ i h' tk ys nn m' ω' g', s' = { s₂ with heap := h', toks := tk } ∧ i ≤ 4 ∧ mm = 5 - i ∧ riΩ I 1 4 i ω' ∧ Sm p₀ s₂.heap.objs.size H2.objs.size h' m' (ω' ++ [(s₂.heap.objs.size, listOf ys.toArray nn)]) g' ∧ DatAll [] ys ((rkA cs i).map chD)) { s₂ with heap := h₃, toks := tk₂ } := by
        refine loop1 (fun kk s' => ∃ j h' tk ys nn m' o2 g', s' = { s₂ with heap := h', toks := tk } ∧ j ≤ cs.length ∧ kk = cs.length + 1 - j ∧ (o2.cls = .type "str_ascii_iterator" ∧ o2.data = .fields #[.str ⟨cs.toArray⟩ t₀, .int j 0]) ∧ m' x1 = some (.int (1 + (i : Nat)) t1) ∧ Sm p₀ s₂.heap.objs.size H2.objs.size h' m' ((I2, o2) :: (ω₂ ++ [(s₂.heap.objs.size, listOf ys.toArray nn)])) g' ∧ DatAll [] ys ((rkA cs i ++ (cs.take j).filter fun c => decide (c % 32 = i + 1)).map chD)) ?_ (cs.length + 1)
          ⟨0, h₃, tk₂, ys, nn, _, _, g', rfl, Nat.zero_le _, rfl, ⟨rfl, rfl⟩, up_hit, S₃, by simpa using hys⟩
        clear hys S₃
        rintro kk s' ⟨j, h', tk, ys, nn, m', o2, g', rfl, hj, rfl, ho2, hm1, S', hys⟩
        have jump2 := hd_str (w := w) (X := ⟨cs.toArray⟩) (t₀ := t₀) (x := x2) (px := q2) (I := I2) hA (hfn H2.objs.size) (hk2 H2.objs.size) j { s₂ with heap := h', toks := tk } (fun _ _ => False) p₀ _ m' _ g' [(I2, o2)] (fun b s₁ => if b = true then
            wpAny (model pw w) A (isTrue c (compEnvC scope cl H2.objs.size env) (eval c (compEnvC scope cl H2.objs.size env))) (fun ok s₃ =>
              if ok = true then wpAny (model pw w) A (eval elt (compEnvC scope cl H2.objs.size env)) (fun x s₄ =>
                wpAny (model pw w) A (call (.builtin "list.append") [.ref s₂.heap.objs.size, x]) (fun _ s₅ => ∃ m, m < cs.length + 1 - j ∧ ∃ j h' tk ys nn m' o2 g', s₅ = { s₂ with heap := h', toks := tk } ∧ j ≤ cs.length ∧ m = cs.length + 1 - j ∧ (o2.cls = .type "str_ascii_iterator" ∧ o2.data = .fields #[.str ⟨cs.toArray⟩ t₀, .int j 0]) ∧ m' x1 = some (.int (1 + (i : Nat)) t1) ∧ Sm p₀ s₂.heap.objs.size H2.objs.size h' m' ((I2, o2) :: (ω₂ ++ [(s₂.heap.objs.size, listOf ys.toArray nn)])) g' ∧ DatAll [] ys ((rkA cs i ++ (cs.take j).filter fun c => decide (c % 32 = i + 1)).map chD)) (fun _ _ => False) s₄) (fun _ _ => False) s₃
              else ∃ m, m < cs.length + 1 - j ∧ ∃ j h' tk ys nn m' o2 g', s₃ = { s₂ with heap := h', toks := tk } ∧ j ≤ cs.length ∧ m = cs.length + 1 - j ∧ (o2.cls = .type "str_ascii_iterator" ∧ o2.data = .fields #[.str ⟨cs.toArray⟩ t₀, .int j 0]) ∧ m' x1 = some (.int (1 + (i : Nat)) t1) ∧ Sm p₀ s₂.heap.objs.size H2.objs.size h' m' ((I2, o2) :: (ω₂ ++ [(s₂.heap.objs.size, listOf ys.toArray nn)])) g' ∧ DatAll [] ys ((rkA cs i ++ (cs.take j).filter fun c => decide (c % 32 = i + 1)).map chD)) (fun _ _ => False) s₁
          else Flow.next = Flow.next ∧ ∃ mm, mm < 5 - i ∧ ∃ i h' tk ys nn m' ω' g', s₁ = { s₂ with heap := h', toks := tk } ∧ i ≤ 4 ∧ mm = 5 - i ∧ riΩ I 1 4 i ω' ∧ Sm p₀ s₂.heap.objs.size H2.objs.size h' m' (ω' ++ [(s₂.heap.objs.size, listOf ys.toArray nn)]) g' ∧ DatAll [] ys ((rkA cs i).map chD)) (by simpa using hj) ⟨o2, rfl, ho2⟩ trivial S' ?_ ?_
        · refine wpAny_mono jump2 (fun r s₁ h₁ => ?_) fun _ _ e => e
          cases r with
          | none => rw [if_neg Bool.false_ne_true] at h₁; exact ⟨rfl, h₁.2⟩
          | some v => exact wpAny_mono h₁ (fun _ s₂ h₂ => wpAny_mono h₂ (fun _ s₃ h₃ => by rw [if_pos rfl] at h₃; exact h₃) fun _ _ e => e) fun _ _ e => e
        · rintro h₄ tk₄ ω₄ m₄ hj4 ⟨o4, rfl, ho4⟩ ⟨v, ⟨d, t2, hd, rfl⟩, rfl⟩ S₄
          rw [if_pos rfl]
          have hj' : j < cs.length := by simpa using hj4
          have hd' : cs[j]? = some d := by simpa using hd
          have tk1 : (cs.take (j + 1)).filter (fun c => decide (c % 32 = i + 1)) = (cs.take j).filter (fun c => decide (c % 32 = i + 1)) ++ (if d % 32 = i + 1 then [d] else []) := by
            rw [List.take_add_one, hd', Option.toList_some, List.filter_append, List.filter_cons, List.filter_nil]
            by_cases e : d % 32 = i + 1
            · rw [if_pos e, if_pos (decide_eq_true e)]
            · rw [if_neg e, if_neg (by simpa using e)]
          refine wpAny_mono (hc H2.objs.size p₀ _ _ _ _ { s₂ with heap := h₄, toks := tk₄ } i d t1 t2 hlt kp S₄ (up_ne hx hm1) up_hit) (fun ok s₃ h₃ => ?_) fun _ _ e => e
          obtain ⟨rfl, h₅, tk₅, rfl, k₅⟩ := h₃
          have S₅ := S₄.keeps k₅
          by_cases e : d % 32 = i + 1
          · rw [if_pos (decide_eq_true e)]
            refine he H2.objs.size p₀ _ _ _ _ { s₂ with heap := h₅, toks := tk₅ } _ _ S₅ up_hit ?_
            have P₅ : ((I2, o4) :: (ω₂ ++ [(s₂.heap.objs.size, listOf ys.toArray nn)])).Perm ((s₂.heap.objs.size, listOf ys.toArray nn) :: ((I2, o4) :: ω₂)) := by
              refine (List.perm_append_comm (l₁ := (I2, o4) :: ω₂) (l₂ := [(s₂.heap.objs.size, listOf ys.toArray nn)]))
            have S₆ := S₅.perm P₅
            have hyl : ys.length ≤ 1000 := by
              have a1 := hys.length
              have a2 := rkA_len cs i
              have a3 := List.length_filter_le (fun c => decide (c % 32 = i + 1)) (cs.take j)
              rw [List.length_map, List.length_append] at a1
              rw [List.length_take] at a3
              have a4 : i * cs.length ≤ 4 * 100 := Nat.mul_le_mul (by omega) hcs
              omega
            refine appS S₆ (by rw [sizeLine_eq]; omega) fun h₆ nn' S₆ _ => ?_
            refine ⟨cs.length + 1 - (j + 1), by omega, j + 1, h₆, tk₅, _, nn', _, o4, g', rfl, hj', rfl, ho4, up_ne hx hm1, S₆.perm (List.perm_append_comm (l₁ := (I2, o4) :: ω₂) (l₂ := [(s₂.heap.objs.size, _)])).symm, ?_⟩
            rw [tk1, if_pos e, ← List.append_assoc, List.map_append]
            exact hys.append (.one (.str _ _))
          · rw [if_neg (by simpa using e)]
            refine ⟨cs.length + 1 - (j + 1), by omega, j + 1, h₅, tk₅, ys, nn, _, o4, g', rfl, hj', rfl, ho4, up_ne hx hm1, S₅, ?_⟩
            rw [tk1, if_neg e, List.append_nil]
            exact hys
        · intro h₄ tk₄ e S₄
          rw [if_neg Bool.false_ne_true]
          have e' : j = cs.length := by simpa using e
          subst e'
          rw [List.take_length, ← rkA_succ] at hys
          exact ⟨rfl, 5 - (i + 1), by omega, i + 1, h₄, tk₄, ys, nn, m', ω₂, g', rfl, hlt, rfl, hΩ₂, S₄, hys⟩
      exact start1 inner (wpAny_pyIter_striter_ascii ⟨_, (S₃.M _ (.head _)).1, rfl, rfl⟩ inner)
    · rintro h₂ tk₂ e S₂
      rw [if_neg Bool.false_ne_true]
      subst e
      exact fin _ _ _ _ _ _ S₂ hys
  exact codeAny_compStart_list (loop _ rfl) (X.self _ _ _ ω X.om (fun q hq => old _ _ (X.al q hq)) (loop _ rfl))
theorem src2 {cl : List (Str × Addr)} {cs : List Nat} {p : Heap} {n : Nat} {L r : Addr} {m : Lm} {μ g g₀ : Lg} {t u v : Tok} {Q : Value → Shared → Prop} (S : Sm p n L s.heap m μ g) (hr : IsRange s.heap r 1 5 1 t u v) (hA : A.handled = none) (hg : ∀ q ∈ g₀, q ∈ g)
    (fin : ∀ D h' tk ys nn, Sm p n L h' m μ ((D, listOf ys.toArray nn) :: g) → DatAll [] ys ((rkA cs 4).map chD) → Q (.ref D) { s with heap := h', toks := tk })
    (hf : ∀ C, Fnk (compEnvC scope cl C env) := by exact fun _ => rfl) (h1 : ∀ C, (compEnvC scope cl C env).kindOf x1 = some .local := by exact fun _ => by rfl) :
    wpAny (model pw w) A (pyIter (.ref r)) (fun it s₂ => C2X w A env scope cl cs x1 q1 p L g₀ Q it s₂) E s :=
  srcR (envs := fun C => compEnvC scope cl C env) (k := 4) S hr (by decide) (by decide) (by decide) (by decide) hA hf h1 fun I h' ω X S _ _ => ⟨n, m, μ, g, I, ω, rfl, X, S, hg, fin⟩
end

theorem cellsUncons {cm : Lm} {x : Str} {c : Addr} {cs : List (Str × Addr)} {cells : Lg} (h : CellsAre cm ((x, c) :: cs) cells) : ∃ o r, cells = (c, o) :: r ∧ o.data = .cell (cm x) ∧ CellsAre cm cs r := by
  cases h with
  | cons hd hr => exact ⟨_, _, rfl, hd, hr⟩
theorem cellsUnnil {cm : Lm} {cells : Lg} (h : CellsAre cm [] cells) : cells = [] := by cases h; rfl
noncomputable def lawCl (L : Addr) : List (Str × Addr) := [("start", L + 7), ("points", L + 6), ("side", L + 5), ("starts", L + 4), ("count", L + 3), ("runs", L + 2), ("text", L + 1)]
set_option maxHeartbeats 4000000 in
theorem ct_law {w : World} {A : Around} {E : Value → Shared → Prop} {s : Shared} {mg mb : Lm} {h₀ : Heap} {l : Addr} {vs : List Value} {is : List Int} {Q : Value → Shared → Prop}
    (R : Rm A 20) (B : Bs w mg mb h₀) (k₀ : Kp h₀ s.heap) (hl : s.heap.IsList l vs.toArray) (hi : IntsAre vs is) (hn : is.length ≤ 63) (GB : AllBare s.gens)
    (h37 : s.heap.get? 37 = some (tabObj #[])) (h44 : s.heap.get? 44 = some (tabObj #[])) (h139 : s.heap.get? 139 = some (tabObj #[])) (hn37 : h₀.get? 37 = none) (hn44 : h₀.get? 44 = none) (hn139 : h₀.get? 139 = none)
    {rs : List (List Nat)} {N : Nat} {ns tr : List (Nat × Nat × Nat)} (ok : LawOk (txtOf is) rs N ns tr)
    (h : ∀ s' p1 p2 p3, KpX [37, 44, 139] s.heap s'.heap → s'.heap.get? 37 = some (tabObj p1) → s'.heap.get? 44 = some (tabObj p2) → s'.heap.get? 139 = some (tabObj p3) → AllBare s'.gens → s'.os = s.os → Q (.bool true) s') :
    wpAny (model pw w) A (call (.ref 217) [.ref l]) Q E s := by
  have hvl : vs.length = is.length := hi.length
  refine enterC (n := 19) R B k₀ (k₀ _ _ (B.K 217 _ rfl)) (codeRec_of (B.keeps k₀).K (by kernel_rfl)) (binds := [("script", .ref l)]) (BindsTo.of_eq rfl)
    (cls := lawCl) (m₀ := Lm.up (fun _ => none) "script" (.ref l)) (cm := fun _ => none) (fun _ => rfl) (fun _ => by simp only [lawCl, List.map]; decide) (fun _ => by simp [lawCl]) ?_ (fun _ => rfl) (fun _ => rfl) rfl rfl rfl ?_
  · intro L x hx
    rw [List.mem_singleton.mp hx]
    exact .inl rfl
  intro L h₁ A' tk cells hL R' hA' S hC
  unfold lawCl at hC
  obtain ⟨o7, _, rfl, d7, hC⟩ := cellsUncons hC
  obtain ⟨o6, _, rfl, d6, hC⟩ := cellsUncons hC
  obtain ⟨o5, _, rfl, d5, hC⟩ := cellsUncons hC
  obtain ⟨o4, _, rfl, d4, hC⟩ := cellsUncons hC
  obtain ⟨o3, _, rfl, d3, hC⟩ := cellsUncons hC
  obtain ⟨o2, _, rfl, d2, hC⟩ := cellsUncons hC
  obtain ⟨o1, _, rfl, d1, hC⟩ := cellsUncons hC
  obtain rfl := cellsUnnil hC
  have hσ : ∀ r ∈ ([(37, tabObj #[]), (44, tabObj #[]), (139, tabObj #[])] : Lg), s.heap.get? r.1 = some r.2 ∧ h₀.get? r.1 = none := fun r hr => by
    simp only [List.mem_cons, List.not_mem_nil, or_false] at hr
    rcases hr with rfl | rfl | rfl
    · exact ⟨h37, hn37⟩
    · exact ⟨h44, hn44⟩
    · exact ⟨h139, hn139⟩
  have S := Sm.hid (σ := [(37, tabObj #[]), (44, tabObj #[]), (139, tabObj #[])]) S (fun r hr => (hσ r hr).1) (by decide)
  have B := B.keeps (kp_hide (σ := [(37, tabObj #[]), (44, tabObj #[]), (139, tabObj #[])]) k₀ fun r hr => (hσ r hr).2)
  have hl₁ : (hideAll s.heap (([(37, tabObj #[]), (44, tabObj #[]), (139, tabObj #[])] : Lg).map (·.1))).IsList l vs.toArray := by
    obtain ⟨ol, e, c, r⟩ := hl
    refine ⟨ol, hideAll_get _ e fun z => ?_, c, r⟩
    obtain ⟨q, hq, e'⟩ := List.mem_map.mp z
    have e1 := (hσ q hq).1
    simp only [List.mem_cons, List.not_mem_nil, or_false] at hq
    have e'' : q.1 = l := e'
    rw [e'', e] at e1
    rcases hq with rfl | rfl | rfl <;> (cases e1; cases c)
  generalize hp : hideAll s.heap (([(37, tabObj #[]), (44, tabObj #[]), (139, tabObj #[])] : Lg).map (·.1)) = p at S B hl₁
  clear hσ
  replace S : Sm p L L h₁ _ [(37, tabObj #[]), (44, tabObj #[]), (139, tabObj #[]), (L + 7, o7), (L + 6, o6), (L + 5, o5), (L + 4, o4), (L + 3, o3), (L + 2, o2), (L + 1, o1)] [] := S
  have hlS : ∀ {h' : Heap}, Kp p h' → h'.IsList l vs.toArray := fun k => by obtain ⟨o, e, r⟩ := hl₁; exact ⟨o, k _ _ e, r⟩
  have u0 : A'.units + 64 < cLine := by have := R'.u; unfold cLine; omega
  clear hA'
  refine wpAny_execs_cons ?_
  refine wpAny_Assign_Name ?_
  refine wpAny_BinOp ?_
  refine evX L (by rfl) (by decide) rfl (by decide) ?_
  refine Subscript_ ?_
  refine nmS (by assumption) (by walk_at "wo look") ?_ rfl (by rfl) (by decide +kernel)
  refine wpAny_Slice ?_
  refine wpAny_evalPart_none ?_
  refine wpAny_evalPart_some ?_
  refine wpAny_Constant_int ?_
  refine wpAny_evalPart_none ?_
  try dsimp only
  refine sliceT S (hlS S.F.keep) .none (.int _ _) (by rw [List.size_toArray, sizeLine_eq]; omega) (fun b h₂ S hb k => ?_) (fun _ _ => ⟨[_, _], by with_unfolding_all rfl⟩) (by intro _ _; with_unfolding_all rfl)
  try dsimp only
  have hb := S.lv.list (.head _)
  have eb : slicePick vs.toArray none (some 5) none = (vs.take 5).toArray := by
    have z := slicePick_upto' vs.toArray 5
    simpa using z
  rw [eb] at hb
  refine listC S hb R'.h (by rw [List.size_toArray, List.length_take, sizeLine_eq]; omega) (fun i => .int (is.getD i 0 % 1000000)) ?_ ?_
  · rintro i C p' n' m₀ μ' g' h₅ tk₅ v1 hik e1 kp lg lm hn' S'
    have B' := B.keeps kp
    have hik' : i < 5 ∧ i < is.length := by simp at hik; omega
    obtain ⟨t1, e3⟩ := hi.int_at i v1 (by
      have e1' := e1
      simp [List.getElem?_take, hik'.1] at e1'; exact e1')
    subst e3
    refine wpAny_BinOp ?_
    refine Call_ ?_
    refine nmSB (by assumption) (by assumption) (by kernel_rfl) b_int (by decide +kernel) ?_ rfl rfl rfl (by rfl) (by decide +kernel)
    refine PyProof.Rows.callWith_type1 ?_
    refine args_cons ?_
    refine nmS (by assumption) (by walk_at "wo look") ?_ rfl (by rfl) (by decide +kernel)
    refine args_nil ?_
    refine call_int_int ?_
    refine wpAny_BinOp ?_
    refine wpAny_Constant_int ?_
    refine wpAny_Constant_int ?_
    refine pow106 fun _ _ => ?_
    refine modR (is.getD i 0 % 1000000) (by decide) (Int.fmod_eq_emod_of_nonneg _ (by decide)) fun _ _ => ?_
    exact ⟨_, _, [], rfl, S', .int _ _⟩
  · intro D h₃ tk₃ g' S hg hD
    try dsimp only
    refine List_ (litArgs (ks := [6, 2, 7, 0, 1, 4, 5, 3, 0]) (.cons _ _ _ (.cons _ _ _ (.cons _ _ _ (.cons _ _ _ (.cons _ _ _ (.cons _ _ _ (.cons _ _ _ (.cons _ _ _ (.cons _ _ _ .nil))))))))) fun v2 tk₄ hv2 => ?_)
    have l2 : v2.length = 9 := by have := hv2.length; simpa using this
    try dsimp only
    refine listS S (by rw [l2, sizeLine_eq]; omega) fun D₂ h₄ S hD₂ _ => ?_
    try dsimp only
    obtain ⟨v1, n1, hm1, ha1⟩ := dlist hD
    have l1 : v1.length ≤ 5 := by have := ha1.length; simp at this; omega
    refine catS S (S.lv.list (by walk_at "wo mem")) (S.lv.list (.head _)) (by rw [l2, sizeLine_eq]; omega) fun D₃ h₅ S hD₃ _ => ?_
    have hcD : DatAll [] (v1 ++ v2) ((cellsOf is).map Dat.int) := by
      rw [cellsOf, List.map_append]
      rw [rngMap (f := fun i => Dat.int (is.getD i 0 % 1000000)) (l := (is.take 5).map (· % 1000000)) (g := Dat.int) (by simp; omega) (fun i a e => by
        simp only [List.getElem?_map, Option.map_eq_some_iff] at e
        obtain ⟨x, hx, rfl⟩ := e
        rw [List.getElem?_take] at hx
        split at hx
        · rw [List.getD_eq_getElem?_getD, hx]; rfl
        · cases hx)] at ha1
      exact (ints0 ha1).append hv2
    try dsimp only
    refine stS S rfl (by rfl) fun h₆ tk₆ S => ?_
    obtain ⟨m, hm, S⟩ := S.nameM
    have m_script : m "script" = some (.ref l) := by rw [hm]; rfl
    have m_cells : m "cells" = some (.ref D₃) := by rw [hm]; rfl
    clear hm
    have S := S.gsub (g' := [(D₃, listOf (v1 ++ v2).toArray 0)]) fun q hq => by rw [List.mem_singleton.mp hq]; walk_at "wo mem"
    clear hg hD hm1
    have hcl : (v1 ++ v2).length = (cellsOf is).length := by simpa using hcD.length
    have hc14 : (cellsOf is).length ≤ 14 := by simp [cellsOf]; omega
    try dsimp only
    refine wpAny_execs_cons ?_
    refine wpAny_Assign_Name ?_
    refine MethodCall_ ?_
    refine Calls.Constant_str ?_
    refine getMethod_builtin (T := "str") (typeIs_str _ _ _) PySem.F.plainAttrs_str PySem.F.slot_str_join PySem.F.type_str_join (fun a e => by cases e) ?_
    refine callWith_method1 ?_
    refine args_cons ?_
    refine evX L (by rfl) (by decide) rfl (by decide) ?_
    refine nmS (by assumption) (by walk_at "wo look") ?_ rfl (by rfl) (by decide +kernel)
    refine listC S (S.lv.list (.head _)) R'.h (by rw [List.size_toArray, hcl, sizeLine_eq]; omega) (fun i => chD ((txtOf is).getD i 0)) ?_ ?_
    · rintro i C p' n' m₀ μ' g' h₇ tk₇ y hik e1 kp lg lm hn' S'
      have B' := B.keeps kp
      have hik' : i < (cellsOf is).length := by simpa [hcl] using hik
      obtain ⟨t, rfl⟩ := dint (lget hcD e1 (d := .int (cellsOf is)[i]) (by simp [hik']))
      refine Subscript_ ?_
      refine Calls.Constant_str ?_
      refine wpAny_BinOp ?_
      refine nmS (by assumption) (by walk_at "wo look") ?_ rfl (by rfl) (by decide +kernel)
      refine wpAny_Constant_int ?_
      refine modR ((cellsOf is)[i] % 8) (by decide) (Int.fmod_eq_emod_of_nonneg _ (by decide)) fun _ _ => ?_
      refine subscriptTail_builtin (typeIs_str _ _ _) PySem.F.slot_str_getitem.lookup ?_
      refine letS fun _ _ => ?_
      refine ⟨_, _, [], rfl, S', ?_⟩
      rw [show (txtOf is).getD i 0 = ltr ((cellsOf is)[i] % 8).toNat from by simp [txtOf, hik']]
      exact .str _ _
    · intro D₄ h₇ tk₇ g' S hg hD
      try dsimp only at S hg hD ⊢
      obtain ⟨v3, n3, hm3, ha3⟩ := dlist hD
      rw [rngMap (f := fun i => chD ((txtOf is).getD i 0)) (l := txtOf is) (g := chD) (by rw [List.size_toArray, hcl]; simp [txtOf]) (fun i a e => by simp only [List.getD_eq_getElem?_getD, e]; rfl)] at ha3
      have hN := ok.eN
      have hn2 := ok.n2
      refine args_nil ?_
      try dsimp only [List.cons_append, List.nil_append]
      refine joinS (cs := txtOf is) (S.lv.list (List.mem_append_left _ hm3)) ha3 (by omega) fun tk₈ t₈ => ?_
      generalize txtOf is = cs at *
      refine stC S (List.perm_middle (l₁ := [_, _, _, _, _, _, _, _, _])) d1 (by omega) rfl (by rfl) (by rfl) fun h₈ o1' d1' S kc => ?_
      have S := S.gsub (g' := [(L + 1, o1')]) fun q hq => by rw [List.mem_singleton.mp hq]; exact .head _
      clear hg hD hm3 ha3 kc hcD hcl hc14 m_cells
      have hRs := ok.eR
      try dsimp only
      refine wpAny_execs_cons ?_
      refine Assign_Tuple ?_
      refine Tuple_ ?_
      refine args_cons ?_
      refine Call_ ?_
      refine nmSG (by assumption) (by assumption) g_law_runs ?_ rfl rfl (by rfl) (by decide +kernel)
      refine cwS (fn_law_runs (by assumption)) ?_
      refine args_cons ?_
      refine nmCS (by assumption) (by rfl) (by walk_at "wo mem") (by assumption) ?_ rfl (by rfl) (by decide +kernel)
      refine args_nil ?_
      refine ⟨S.F.keep, ct_runs (R'.le) (B.keeps S.F.keep) (by omega) ok.asc fun h₉ tk₉ D₅ g₅ k₅ hg₅ hD₅ => ?_⟩
      rw [hRs] at hD₅
      try dsimp only
      have S := S.join k₅ hg₅
      refine args_cons ?_
      refine Call_ ?_
      refine nmSB (by assumption) (by assumption) (by kernel_rfl) b_len (by decide +kernel) ?_ rfl rfl rfl (by rfl) (by decide +kernel)
      refine PyProof.Rows.callWith_builtin1 ?_
      refine args_cons ?_
      refine nmCS (by assumption) (by rfl) (by walk_at "wo mem") (by assumption) ?_ rfl (by rfl) (by decide +kernel)
      refine args_nil ?_
      refine P.len_str (by show ¬ ((cs.toArray.size : Nat) : Int) ≥ 2 ^ 63; rw [List.size_toArray]; omega) ?_
      try dsimp only
      rw [show ((⟨cs.toArray⟩ : Str).length : Int) = (N : Int) from by rw [← hN]; show ((cs.toArray.size : Nat) : Int) = _; rw [List.size_toArray]]
      refine args_nil ?_
      refine tupS S (by walk_at "wo sz") fun T₁ h₁₀ S hT₁ _ => ?_
      try dsimp only
      refine assign_Tuple_tuple R'.h (S.lv.tup (.head _)) rfl rfl fun h₁₁ hk₁₁ => ?_
      have S := S.keeps (h' := h₁₁) fun b x e => hk₁₁ b x (Nat.ne_of_lt (Heap.lt_size e)) e
      refine assignInOrder_cons (wpAny_assign_Name (stC S (List.perm_middle (l₁ := [_, _, _, _, _, _, _, _])) d2 (by omega) rfl (by rfl) (by rfl) fun h₁₂ o2' d2' S _ => ?_))
      refine assignInOrder_cons (wpAny_assign_Name (stC S (List.perm_middle (l₁ := [_, _, _, _, _, _, _])) d3 (by omega) rfl (by rfl) (by rfl) fun h₁₃ o3' d3' S _ => assignInOrder_nil ?_))
      obtain ⟨G, hG, S⟩ := S.named
      have c1 : (L + 1, o1') ∈ G := by rw [hG]; walk_at "wo mem"
      have c2 : (L + 2, o2') ∈ G := by rw [hG]; walk_at "wo mem"
      have c3 : (L + 3, o3') ∈ G := by rw [hG]; walk_at "wo mem"
      replace hD₅ : DatIn G (.ref D₅) (.list (rs.map strD)) := hD₅.mono fun q hq => by rw [hG]; walk_at "wo mem"
      clear hG hg₅ k₅
      try dsimp only
      refine wpAny_execs_cons ?_
      refine wpAny_Assign_Name ?_
      obtain ⟨rvs, rn, mR, hrv⟩ := dlist hD₅
      have hrl : rvs.length = rs.length := by simpa using hrv.length
      have hK := ok.k
      refine evX L (by rfl) (by decide) rfl (by decide) ?_
      refine Call_ ?_
      refine nmSB (by assumption) (by assumption) (by kernel_rfl) b_range (by decide +kernel) ?_ rfl rfl rfl (by rfl) (by decide +kernel)
      refine PyProof.Rows.callWith_type1 ?_
      refine args_cons ?_
      refine wpAny_BinOp ?_
      refine Call_ ?_
      refine nmSB (by assumption) (by assumption) (by kernel_rfl) b_len (by decide +kernel) ?_ rfl rfl rfl (by rfl) (by decide +kernel)
      refine PyProof.Rows.callWith_builtin1 ?_
      refine args_cons ?_
      refine nmCS (by assumption) (by rfl) (by walk_at "wo mem") (by assumption) ?_ rfl (by rfl) (by decide +kernel)
      refine args_nil ?_
      refine call_len_list (S.lv.list mR) (by rw [List.size_toArray]; omega) ?_
      refine wpAny_Constant_int ?_
      refine addR ((rs.length + 1 : Nat) : Int) (by rw [List.size_toArray, hrl]; push_cast; rfl) fun _ _ => ?_
      refine args_nil ?_
      refine rng1 S fun r h₁₄ tk₁₄ _ _ _ S hr => ?_
      try dsimp only
      refine rangeC S hr (by rw [Int.zero_add]) (by decide) (by decide) (by omega) R'.h (by rw [sizeLine_eq]; omega) (fun i => .int ((stO rs i : Nat) : Int)) ?_ ?_
      · rintro i C p' n' m₀ μ' g' h₇ tk₇ y hik ⟨ty, rfl⟩ kp lg lm hn' S'
        have B' := B.keeps kp
        clear lm
        refine Call_ ?_
        refine nmSB (by assumption) (by assumption) (by kernel_rfl) b_sum (by decide +kernel) ?_ rfl rfl rfl (by rfl) (by decide +kernel)
        refine PyProof.Rows.callWith_builtin1 ?_
        refine args_cons ?_
        refine evX C (by rfl) (by decide) rfl (by decide) ?_
        refine Subscript_ ?_
        refine nmCF (by assumption) (by assumption) (by rfl) (by walk_at "wo mem") (by assumption) ?_ rfl (by rfl) (by decide +kernel)
        refine wpAny_Slice ?_
        refine wpAny_evalPart_none ?_
        refine wpAny_evalPart_some ?_
        refine nmS (by assumption) (by walk_at "wo look") ?_ rfl (by rfl) (by decide +kernel)
        refine wpAny_evalPart_none ?_
        try dsimp only
        refine sliceT S' (S'.F.keep |> fun k => (Lv.keeps lg k).list mR) .none (.int _ _) (by rw [List.size_toArray, sizeLine_eq]; omega) (fun b h₁₅ S' hb k => ?_) (fun _ _ => ⟨[_, _], by with_unfolding_all rfl⟩) (by intro _ _; with_unfolding_all rfl)
        try dsimp only
        have hb := S'.lv.list (.head _)
        have eb : slicePick rvs.toArray none (some (0 + (i : Int))) none = (rvs.take i).toArray := by
          have z := slicePick_upto' rvs.toArray i
          rw [Int.zero_add]; simpa using z
        rw [eb] at hb
        refine listC S' hb R'.h (by rw [List.size_toArray, List.length_take, sizeLine_eq]; omega) (fun j => .int (((rs.getD j []).length : Nat) : Int)) ?_ ?_
        · rintro j C₂ p₂ n₂ m₂ μ₂ g₂ h₁₆ tk₁₆ y hj e1 kp₂ lg₂ lm₂ hn₂ S₂
          have B₂ := B'.keeps kp₂
          have hj' : j < i ∧ j < rs.length := by simp [hrl] at hj; omega
          obtain ⟨tz, rfl⟩ := dstr (x := ⟨rs[j].toArray⟩) (lget (d := strD rs[j]) hrv (by have e1' := e1; simp [List.getElem?_take, hj'.1] at e1'; simpa using e1') (by simp [hj'.2]))
          refine Call_ ?_
          refine nmSB (by assumption) (by assumption) (by kernel_rfl) b_len (by decide +kernel) ?_ rfl rfl rfl (by rfl) (by decide +kernel)
          refine PyProof.Rows.callWith_builtin1 ?_
          refine args_cons ?_
          refine nmS (by assumption) (by walk_at "wo look") ?_ rfl (by rfl) (by decide +kernel)
          refine args_nil ?_
          refine P.len_str (by show ¬ ((rs[j].toArray.size : Nat) : Int) ≥ 2 ^ 63; have := ok.rl j hj'.2; rw [List.size_toArray]; omega) ?_
          refine ⟨_, _, [], rfl, S₂, ?_⟩
          rw [show ((⟨rs[j].toArray⟩ : Str).length : Int) = (((rs.getD j []).length : Nat) : Int) from by show ((rs[j].toArray.size : Nat) : Int) = _; simp [hj'.2]]
          exact .int _ _
        · intro D₆ h₁₆ tk₁₆ g₂ S' hg₂ hD₆
          try dsimp only at S' hD₆ ⊢
          obtain ⟨us, un, mU, hus⟩ := dlist hD₆
          rw [rngMap (f := fun j => Dat.int (((rs.getD j []).length : Nat) : Int)) (l := (rs.take i).map fun r => ((r.length : Nat) : Int)) (g := Dat.int) (by simp; omega) (fun j a e => by
            simp only [List.getElem?_map, Option.map_eq_some_iff] at e
            obtain ⟨x, hx, rfl⟩ := e
            rw [List.getElem?_take] at hx
            split at hx
            · rw [List.getD_eq_getElem?_getD, hx]; rfl
            · cases hx)] at hus
          refine args_nil ?_
          refine sumS R'.h (S'.lv.list (List.mem_append_left _ mU)) (dints hus) fun h₁₇ tk₁₇ t₁₇ k₁₇ => ?_
          rw [castS]
          exact ⟨_, _, [], rfl, (S'.keeps k₁₇).gsub fun q hq => List.mem_append_right _ (.tail _ hq), .int _ _⟩
      · intro D₆ h₁₅ tk₁₅ g' S hg hD
        try dsimp only at S hD ⊢
        obtain ⟨svs, sn, mS, hsv⟩ := dlist hD
        have hsl : svs.length = rs.length + 1 := by simpa using hsv.length
        refine stC S (List.perm_middle (l₁ := [_, _, _, _, _, _])) d4 (by omega) rfl (by rfl) (by rfl) fun h₁₆ o4' d4' S _ => ?_
        have hsv := ints0' hsv
        have S := S.gsub (g' := (L + 4, o4') :: (D₆, listOf svs.toArray sn) :: G) fun q hq => by
          rcases List.mem_cons.mp hq with rfl | hq
          · exact .head _
          · rcases List.mem_cons.mp hq with rfl | hq
            · exact .tail _ (List.mem_append_left _ mS)
            · exact .tail _ (List.mem_append_right _ hq)
        clear hg hD mS
        try dsimp only
        refine wpAny_execs_cons ?_
        refine usX (by rfl) (by rfl) (by decide) rfl (by decide) rfl (by rfl) ?_
        refine Call_ ?_
        refine nmSB (by assumption) (by assumption) (by kernel_rfl) b_zip (by decide +kernel) ?_ rfl rfl rfl (by rfl) (by decide +kernel)
        refine PyProof.Rows.callWith_type1 ?_
        refine args_cons ?_
        refine nmCS (by assumption) (by rfl) (by walk_at "wo mem") (by assumption) ?_ rfl (by rfl) (by decide +kernel)
        refine args_cons ?_
        refine Subscript_ ?_
        refine nmCS (by assumption) (by rfl) (by walk_at "wo mem") (by assumption) ?_ rfl (by rfl) (by decide +kernel)
        refine wpAny_Slice ?_
        refine wpAny_evalPart_some ?_
        refine wpAny_Constant_int ?_
        refine wpAny_evalPart_none ?_
        refine wpAny_evalPart_none ?_
        try dsimp only
        have hSt := S.lv.list (.tail _ (.head _))
        refine sliceT S hSt (.int _ _) .none (by rw [List.size_toArray, sizeLine_eq]; omega) (fun b h₁₇ S hb k₁₇ => ?_) (fun _ _ => ⟨[_, _], by with_unfolding_all rfl⟩) (by intro _ _; with_unfolding_all rfl)
        try dsimp only
        refine args_nil ?_
        have hb := S.lv.list (.head _)
        have eb : slicePick svs.toArray (some 1) none none = (svs.drop 1).toArray := by
          have z := slicePick_from' svs.toArray 1
          simpa using z
        rw [eb] at hb
        have hsi : ∀ j v, svs.toArray[j]? = some v → ∃ t, v = Value.int ((stO rs j : Nat) : Int) t := fun j v e => by
          have hj : j < rs.length + 1 := by have := (Array.getElem?_eq_some_iff.mp e).1; simpa [hsl] using this
          exact dint (lget (d := .int ((stO rs j : Nat) : Int)) hsv e (by simp [hj]))
        refine zipC (k := rs.length) S (S.lv.list (.tail _ (.tail _ (.head _)))) hb (by simp; omega) R'.h (by rw [sizeLine_eq]; omega) (fun i => .int ((mdO rs i : Nat) : Int)) ?_ ?_
        · rintro i C p' n' m₀ μ' g' h₇ tk₇ v1 v2 hik e1 e2 kp lg lm hn' S'
          have B' := B.keeps kp
          obtain ⟨t1, rfl⟩ := hsi i v1 e1
          obtain ⟨t2, rfl⟩ := hsi (i + 1) v2 (by simpa [Nat.add_comm] using e2)
          refine wpAny_BinOp ?_
          refine nmS (by assumption) (by walk_at "wo look") ?_ rfl (by rfl) (by decide +kernel)
          refine nmS (by assumption) (by walk_at "wo look") ?_ rfl (by rfl) (by decide +kernel)
          refine addR ((mdO rs i : Nat) : Int) (by unfold mdO; push_cast; rfl) fun _ _ => ?_
          exact ⟨_, _, [], rfl, S', .int _ _⟩
        · intro D₇ h₁₈ tk₁₈ g' S hg hD
          try dsimp only at S hD ⊢
          obtain ⟨mvs, mn, mM, hmv⟩ := dlist hD
          have hml : mvs.length = rs.length := by simpa using hmv.length
          have hmv := ints0' hmv
          obtain ⟨M, hM, S⟩ := S.nameM
          have m1 : M "script" = some (.ref l) := by rw [hM]; exact (up_ne (by decide +kernel) m_script)
          have m2 : M "middles" = some (.ref D₇) := by rw [hM]; exact up_hit
          have S := S.gsub (g' := (D₇, listOf mvs.toArray mn) :: (L + 4, o4') :: (D₆, listOf svs.toArray sn) :: G) fun q hq => by
            rcases List.mem_cons.mp hq with rfl | hq
            · exact List.mem_append_left _ mM
            · exact List.mem_append_right _ (.tail _ hq)
          clear hg hD mM hM m_script
          refine wpAny_execs_cons ?_
          refine wpAny_Assign_Name ?_
          refine wpAny_BinOp ?_
          refine wpAny_Constant_int ?_
          refine wpAny_BinOp ?_
          refine wpAny_Constant_int ?_
          refine wpAny_BinOp ?_
          refine Call_ ?_
          refine nmSB (by assumption) (by assumption) (by kernel_rfl) b_len (by decide +kernel) ?_ rfl rfl rfl (by rfl) (by decide +kernel)
          refine PyProof.Rows.callWith_builtin1 ?_
          refine args_cons ?_
          refine nmS (by assumption) (by walk_at "wo look") ?_ rfl (by rfl) (by decide +kernel)
          refine args_nil ?_
          refine call_len_list (hlS S.F.keep) (by rw [List.size_toArray, hvl]; omega) ?_
          refine wpAny_Constant_int ?_
          refine modR ((is.length % 2 : Nat) : Int) (by decide) (by rw [List.size_toArray, hvl, Int.fmod_eq_emod_of_nonneg _ (by decide)]; omega) fun _ _ => ?_
          refine mulR (2 * ((is.length % 2 : Nat) : Int)) rfl (by omega) fun _ _ => ?_
          refine subR (1 - 2 * ((is.length % 2 : Nat) : Int)) rfl fun _ _ => ?_
          have hsd : (1 - 2 * ((is.length % 2 : Nat) : Int)) = 1 ∨ (1 - 2 * ((is.length % 2 : Nat) : Int)) = -1 := by omega
          generalize (1 - 2 * ((is.length % 2 : Nat) : Int)) = sd at hsd
          refine stC S (List.perm_middle (l₁ := [_, _, _, _, _])) d5 (by omega) rfl (by rfl) (by rfl) fun h₁₉ o5' d5' S _ => ?_
          obtain ⟨G₁, hG₁, S⟩ := S.named
          have hsub : ∀ q ∈ G, q ∈ G₁ := fun q hq => by rw [hG₁]; walk_at "wo mem"
          replace c1 := hsub _ c1
          replace c2 := hsub _ c2
          replace c3 := hsub _ c3
          have c4 : (L + 4, o4') ∈ G₁ := by rw [hG₁]; walk_at "wo mem"
          have c5 : (L + 5, o5') ∈ G₁ := by rw [hG₁]; walk_at "wo mem"
          have mM : (D₇, listOf mvs.toArray mn) ∈ G₁ := by rw [hG₁]; walk_at "wo mem"
          have mS : (D₆, listOf svs.toArray sn) ∈ G₁ := by rw [hG₁]; walk_at "wo mem"
          replace mR := hsub _ mR
          replace hrv := hrv.mono hsub
          clear hG₁ hD₅ hsub
          try dsimp only
          refine wpAny_execs_cons ?_
          refine usX (by rfl) (by rfl) (by decide) rfl (by decide) rfl (by rfl) ?_
          refine nmS (by assumption) (by walk_at "wo look") ?_ rfl (by rfl) (by decide +kernel)
          have n37 := (S.M _ (.head _)).2.2
          have n44 := (S.M _ (.tail _ (.head _))).2.2
          have hσD : D₇ ∉ ([(37, tabObj #[]), (44, tabObj #[])] : Lg).map (·.1) := fun z => by
            simp only [List.map_cons, List.map_nil, List.mem_cons, List.not_mem_nil, or_false] at z
            rcases z with e | e
            · exact (S.G _ mM).2.2.2 _ (.head _) e.symm
            · exact (S.G _ mM).2.2.2 _ (.tail _ (.head _)) e.symm
          refine listCS (σ := [(37, tabObj #[]), (44, tabObj #[])]) (fun _ => TJ) S (S.lv.list mM) ?_ R'.h (by rw [List.size_toArray, hml, sizeLine_eq]; omega) (fun i => .tuple [.int ((mkO rs N i : Nat) : Int), .int (sd * ((32 * mdO rs i % (2 * N) : Nat) : Int))]) ⟨_, _, rfl, .inl rfl, .inl rfl⟩ (fun i σ g g' hJ hs => by
            obtain ⟨o37, o44, e, a, b⟩ := hJ; exact ⟨o37, o44, e, a.mono hs, b.mono hs⟩) ?_ ?_
          · exact hσD
          · rintro i C p' n' m₀ μ' g' σ' h₂₀ tk₂₀ y hik e1 ⟨o37, o44, rfl, T37, T44⟩ kp lg hn' S'
            have B' := B.keeps kp
            have hik' : i < rs.length := by simpa [hml] using hik
            obtain ⟨ty, rfl⟩ := dint (lget (d := .int ((mdO rs i : Nat) : Int)) hmv e1 (by simp [hik']))
            have hmd := ok.mid i hik'
            have hn1 := ok.n1
            refine Call_ ?_
            refine nmSG (by assumption) (by assumption) g_int_divmod ?_ rfl rfl (by rfl) (by decide +kernel)
            refine cwS (fn_int_divmod (by assumption)) ?_
            refine args_cons ?_
            refine wpAny_BinOp ?_
            refine wpAny_BinOp ?_
            refine nmCF (by assumption) (by assumption) (by rfl) (by walk_at "wo mem") (by assumption) ?_ rfl (by rfl) (by decide +kernel)
            refine nmS (by assumption) (by walk_at "wo look") ?_ rfl (by rfl) (by decide +kernel)
            have hn2 := ok.n2
            refine mulR (sd * ((mdO rs i : Nat) : Int)) rfl (by omega) fun _ _ => ?_
            refine wpAny_Constant_int ?_
            refine mulR (sd * ((mdO rs i : Nat) : Int) * 32) rfl (by rcases hsd with e | e <;> (rw [e]; omega)) fun _ _ => ?_
            refine args_cons ?_
            refine wpAny_BinOp ?_
            refine wpAny_BinOp ?_
            refine nmCF (by assumption) (by assumption) (by rfl) (by walk_at "wo mem") (by assumption) ?_ rfl (by rfl) (by decide +kernel)
            refine nmCF (by assumption) (by assumption) (by rfl) (by walk_at "wo mem") (by assumption) ?_ rfl (by rfl) (by decide +kernel)
            refine mulR (sd * (N : Int)) rfl (by omega) fun _ _ => ?_
            refine wpAny_Constant_int ?_
            refine mulR (sd * (N : Int) * 2) rfl (by rcases hsd with e | e <;> (rw [e]; omega)) fun _ _ => ?_
            refine args_nil ?_
            have M37 := S'.M _ (.head _)
            have M44 := S'.M _ (.tail _ (.head _))
            have fin : ∀ h' tk T g o37' o44', KpX [37, 44] h₂₀ h' → (∀ q ∈ g, h'.get? q.1 = some q.2 ∧ h₂₀.objs.size ≤ q.1) → h'.get? 37 = some o37' → (o37' = o37 ∨ TbG p37 q37 g o37') → h'.get? 44 = some o44' → (o44' = o44 ∨ TbG p44 q44 g o44') →
                DatIn g (.ref T) (.tuple [.int ((mkO rs N i : Nat) : Int), .int (sd * ((32 * mdO rs i % (2 * N) : Nat) : Int))]) →
                ∃ h'' tk'' σ'' g'', ({ s with heap := h', toks := tk } : Shared) = { s with heap := h'', toks := tk'' } ∧ Sm p' n' C h'' (m₀.up "middle" (.int ((mdO rs i : Nat) : Int) ty)) (σ'' ++ μ') (g'' ++ g') ∧ σ''.map (·.1) = [37, 44] ∧ TJ σ'' (g'' ++ g') ∧ DatIn g'' (.ref T) (.tuple [.int ((mkO rs N i : Nat) : Int), .int (sd * ((32 * mdO rs i % (2 * N) : Nat) : Int))]) := by
              intro h' tk T g o37' o44' kx hg h7 t7 h4 t4 hD
              refine ⟨h', tk, [(37, o37'), (44, o44')], g, rfl, Sm.callX (ω := [(37, o37), (44, o44)]) S' rfl kx (fun q hq => ?_) hg, rfl, ⟨_, _, rfl, ?_, ?_⟩, hD⟩
              · simp only [List.mem_cons, List.not_mem_nil, or_false] at hq
                rcases hq with rfl | rfl
                · exact h7
                · exact h4
              · rcases t7 with rfl | t7
                · exact T37.mono fun q hq => List.mem_append_right _ hq
                · exact t7.mono fun q hq => List.mem_append_left _ hq
              · rcases t4 with rfl | t4
                · exact T44.mono fun q hq => List.mem_append_right _ hq
                · exact t4.mono fun q hq => List.mem_append_left _ hq
            refine ⟨S'.F.keep, ?_⟩
            rcases hsd with e | e
            · refine ct_imp (k := mdO rs i) (b := 2 * N) (h₀ := p) (R'.le) B (kp.trans S'.F.keep) hmd.1 (by omega) (by omega) (by omega) (by rw [e]; omega) (by rw [e]; push_cast; omega) M37.1 (T37.h S'.lv) n37 M44.1 (T44.h S'.lv) n44 fun h' tk T g o37' o44' a1 a2 a3 a4 a5 a6 a7 => ?_
              exact fin h' tk T g o37' o44' a1 a2 a3 a4 a5 a6 (by rw [e, Int.one_mul]; exact a7)
            · refine ct_imn (k := mdO rs i) (b := 2 * N) (h₀ := p) (R'.le) B (kp.trans S'.F.keep) hmd.1 (by omega) (by omega) (by omega) (by rw [e]; omega) (by rw [e]; push_cast; omega) M37.1 (T37.h S'.lv) n37 M44.1 (T44.h S'.lv) n44 fun h' tk T g o37' o44' a1 a2 a3 a4 a5 a6 a7 => ?_
              exact fin h' tk T g o37' o44' a1 a2 a3 a4 a5 a6 (by rw [e, Int.neg_one_mul]; exact a7)
          · intro D₈ h₂₀ tk₂₀ σ' g' hJ S hg hD
            obtain ⟨o37, o44, rfl, T37, T44⟩ := hJ
            obtain ⟨ps37, rfl⟩ := T37.tab
            obtain ⟨ps44, rfl⟩ := T44.tab
            clear T37 T44
            try dsimp only at S hD ⊢
            obtain ⟨M₂, hM, S⟩ := S.nameM
            obtain ⟨G₂, hG₂, S⟩ := S.named
            replace m1 : M₂ "script" = some (.ref l) := by rw [hM]; exact (up_ne (by decide +kernel) m1)
            replace m2 : M₂ "middles" = some (.ref D₇) := by rw [hM]; exact (up_ne (by decide +kernel) m2)
            have m3 : M₂ "marked" = some (.ref D₈) := by rw [hM]; exact up_hit
            have hsub : ∀ q ∈ G₁, q ∈ G₂ := fun q hq => by rw [hG₂]; exact List.mem_append_right _ hq
            replace c1 := hsub _ c1
            replace c2 := hsub _ c2
            replace c3 := hsub _ c3
            replace c4 := hsub _ c4
            replace c5 := hsub _ c5
            replace mM := hsub _ mM
            replace mS := hsub _ mS
            replace mR := hsub _ mR
            replace hrv := hrv.mono hsub
            have hD₈ : DatIn G₂ (.ref D₈) (.list ((List.range rs.length).map fun i => .tuple [.int ((mkO rs N i : Nat) : Int), .int (sd * ((32 * mdO rs i % (2 * N) : Nat) : Int))])) := by
              rw [List.size_toArray, hml] at hD
              exact hD.mono fun q hq => by rw [hG₂]; exact List.mem_append_left _ hq
            clear hD hsub hG₂ hM hg
            replace S : Sm p L L h₂₀ M₂ [(37, tabObj ps37), (44, tabObj ps44), (139, tabObj #[]), (L + 7, o7), (L + 6, o6)] G₂ := S
            refine wtk (s := s) fun tk₂₁ => ?_
            refine wpAny_execs_cons ?_
            refine wpAny_Assign_Name ?_
            refine evX L (by rfl) (by decide) rfl (by decide) ?_
            refine Call_ ?_
            refine nmSB (by assumption) (by assumption) (by kernel_rfl) b_range (by decide +kernel) ?_ rfl rfl rfl (by rfl) (by decide +kernel)
            refine PyProof.Rows.callWith_type1 ?_
            refine args_cons ?_
            refine wpAny_Constant_int ?_
            refine args_cons ?_
            refine wpAny_Constant_int ?_
            refine args_nil ?_
            refine rng2 S fun r h₂₁ tk₂₁ _ _ _ S hr => ?_
            try dsimp only
            refine rangeC S hr (k := 31) (by decide) (by decide) (by decide) (by omega) R'.h (by rw [sizeLine_eq]; omega) (fun i => .int ((2 * N * (i + 1) : Nat) : Int)) ?_ ?_
            · rintro i C p' n' m₀ μ' g' h₇ tk₇ y hik ⟨ty, rfl⟩ kp lg lm hn' S'
              have B' := B.keeps kp
              clear lm
              refine wpAny_BinOp ?_
              refine wpAny_BinOp ?_
              refine wpAny_Constant_int ?_
              refine nmCF (by assumption) (by assumption) (by rfl) (by walk_at "wo mem") (by assumption) ?_ rfl (by rfl) (by decide +kernel)
              refine mulR (2 * (N : Int)) rfl (by omega) fun _ _ => ?_
              refine nmS (by assumption) (by walk_at "wo look") ?_ rfl (by rfl) (by decide +kernel)
              have eN : 2 * (N : Int) * (1 + (i : Int)) = ((2 * N * (i + 1) : Nat) : Int) := by push_cast; rw [Int.add_comm 1]
              refine mulR _ eN (by omega) fun _ _ => ?_
              exact ⟨_, _, [], rfl, S', .int _ _⟩
            · intro D₉ h₂₂ tk₂₂ g' S hg hD
              try dsimp only at S hD ⊢
              obtain ⟨pvs, pn, mP, hpv⟩ := dlist hD
              have hpl : pvs.length = 31 := by simpa using hpv.length
              have hpv := ints0' hpv
              refine stC S (List.perm_middle (l₁ := [_, _, _, _])) d6 (by omega) rfl (by rfl) (by rfl) fun h₂₃ o6' d6' S _ => ?_
              obtain ⟨G₃, hG₃, S⟩ := S.named
              have hsub : ∀ q ∈ G₂, q ∈ G₃ := fun q hq => by rw [hG₃]; walk_at "wo mem"
              replace mP : (D₉, listOf pvs.toArray pn) ∈ G₃ := by rw [hG₃]; walk_at "wo mem"
              replace c1 := hsub _ c1
              replace c2 := hsub _ c2
              replace c3 := hsub _ c3
              replace c4 := hsub _ c4
              replace c5 := hsub _ c5
              have c6 : (L + 6, o6') ∈ G₃ := by rw [hG₃]; walk_at "wo mem"
              replace mM := hsub _ mM
              replace mS := hsub _ mS
              replace mR := hsub _ mR
              replace hrv := hrv.mono hsub
              replace hD₈ := hD₈.mono hsub
              clear hD hsub hG₃ hg
              replace S : Sm p L L h₂₃ M₂ [(37, tabObj ps37), (44, tabObj ps44), (139, tabObj #[]), (L + 7, o7)] G₃ := S
              try dsimp only
              refine wtk (s := s) fun tk₂₃ => ?_
              refine wpAny_execs_cons ?_
              refine usX (by rfl) (by rfl) (by decide) rfl (by decide) rfl (by rfl) ?_
              refine nmS (by assumption) (by walk_at "wo look") ?_ rfl (by rfl) (by decide +kernel)
              refine listC S (S.lv.list mM) R'.h (by rw [List.size_toArray, hml, sizeLine_eq]; omega) (fun i => .int ((mkO rs N i : Nat) : Int)) ?_ ?_
              · rintro i C p' n' m₀ μ' g' h₇ tk₇ y hik e1 kp lg lm hn' S'
                have B' := B.keeps kp
                clear lm
                have hik' : i < rs.length := by simpa [hml] using hik
                obtain ⟨ty, rfl⟩ := dint (lget (d := .int ((mdO rs i : Nat) : Int)) hmv e1 (by simp [hik']))
                have hmd := ok.mid i hik'
                refine Call_ ?_
                refine nmSG (by assumption) (by assumption) g_bisect_right ?_ rfl rfl (by rfl) (by decide +kernel)
                refine cwS (fn_bisect_right (by assumption)) ?_
                refine args_cons ?_
                refine nmCF (by assumption) (by assumption) (by rfl) (by walk_at "wo mem") (by assumption) ?_ rfl (by rfl) (by decide +kernel)
                refine args_cons ?_
                refine wpAny_BinOp ?_
                refine wpAny_Constant_int ?_
                refine nmS (by assumption) (by walk_at "wo look") ?_ rfl (by rfl) (by decide +kernel)
                refine mulR (32 * ((mdO rs i : Nat) : Int)) rfl (by omega) fun _ _ => ?_
                refine args_nil ?_
                have eP : (List.range 31).map (fun i => Dat.int ((2 * N * (i + 1) : Nat) : Int)) = ((List.range 31).map fun i => ((2 * N * (i + 1) : Nat) : Int)).map Dat.int := by rw [List.map_map]; rfl
                refine ⟨S'.F.keep, ct_br (R'.le) (B'.keeps S'.F.keep) ((lg.keeps S'.F.keep).list mP) (dints (eP ▸ hpv)) (by simp) fun h₂₄ tk₂₄ t₂₄ k₂₄ => ?_⟩
                refine ⟨_, _, [], rfl, S'.keeps k₂₄, ?_⟩
                have : bs (fun j => decide ((32 * ((mdO rs i : Nat) : Int)) < ((List.range 31).map fun i => ((2 * N * (i + 1) : Nat) : Int)).getD j 0)) 0 ((List.range 31).map fun i => ((2 * N * (i + 1) : Nat) : Int)).length = mkO rs N i := by
                  exact bsPts hmd.2
                rw [this]
                exact .int _ _
              · intro D₁₀ h₂₄ tk₂₄ g' S hg hD
                try dsimp only at S hD ⊢
                obtain ⟨kvs, kn, mK, hkv⟩ := dlist hD
                rw [List.size_toArray, hml] at hkv
                have hkl : kvs.length = rs.length := by simpa using hkv.length
                have hkv := ints0' hkv
                obtain ⟨M₃, hM, S⟩ := S.nameM
                obtain ⟨G₄, hG₄, S⟩ := S.named
                replace m1 : M₃ "script" = some (.ref l) := by rw [hM]; exact (up_ne (by decide +kernel) m1)
                replace m2 : M₃ "middles" = some (.ref D₇) := by rw [hM]; exact (up_ne (by decide +kernel) m2)
                replace m3 : M₃ "marked" = some (.ref D₈) := by rw [hM]; exact (up_ne (by decide +kernel) m3)
                have m4 : M₃ "marks" = some (.ref D₁₀) := by rw [hM]; exact up_hit
                have hsub : ∀ q ∈ G₃, q ∈ G₄ := fun q hq => by rw [hG₄]; exact List.mem_append_right _ hq
                replace mK : (D₁₀, listOf kvs.toArray kn) ∈ G₄ := by rw [hG₄]; exact List.mem_append_left _ mK
                replace c1 := hsub _ c1
                replace c2 := hsub _ c2
                replace c3 := hsub _ c3
                replace c4 := hsub _ c4
                replace c5 := hsub _ c5
                replace mM := hsub _ mM
                replace mS := hsub _ mS
                replace mR := hsub _ mR
                replace hrv := hrv.mono hsub
                replace hD₈ := hD₈.mono hsub
                clear hD hsub hG₄ hg hM c6 mP
                refine wtk (s := s) fun tk₂₅ => ?_
                refine wpAny_execs_cons ?_
                refine wpAny_If ?_
                refine wpAny_isTrue_Compare1 ?_
                refine nmS (by assumption) (by walk_at "wo look") ?_ rfl (by rfl) (by decide +kernel)
                refine evX L (by rfl) (by decide) rfl (by decide) ?_
                refine Call_ ?_
                refine nmSB (by assumption) (by assumption) (by kernel_rfl) b_zip (by decide +kernel) ?_ rfl rfl rfl (by rfl) (by decide +kernel)
                refine PyProof.Rows.callWith_type1 ?_
                refine args_cons ?_
                refine nmS (by assumption) (by walk_at "wo look") ?_ rfl (by rfl) (by decide +kernel)
                refine args_cons ?_
                refine nmS (by assumption) (by walk_at "wo look") ?_ rfl (by rfl) (by decide +kernel)
                refine args_nil ?_
                try dsimp only
                refine zipC (k := rs.length) S (S.lv.list mK) (S.lv.list mM) (by simp; omega) R'.h (by rw [sizeLine_eq]; omega) (fun i => .tuple [.int ((mkO rs N i : Nat) : Int), .int (sd * ((32 * mdO rs i % (2 * N) : Nat) : Int))]) ?_ ?_
                · rintro i C p' n' m₀ μ' g' h₇ tk₇ v1 v2 hik e1 e2 kp lg lm hn' S'
                  have B' := B.keeps kp
                  clear lm
                  obtain ⟨t1, rfl⟩ := dint (lget (d := .int ((mkO rs N i : Nat) : Int)) hkv e1 (by simp [hik]))
                  obtain ⟨t2, rfl⟩ := dint (lget (d := .int ((mdO rs i : Nat) : Int)) hmv e2 (by simp [hik]))
                  have hmd := ok.mid i hik
                  have hmk : mkO rs N i < 32 := (Nat.div_lt_iff_lt_mul (by omega)).mpr (by omega)
                  refine Tuple_ ?_
                  refine args_cons ?_
                  refine nmS (by assumption) (by walk_at "wo look") ?_ rfl (by rfl) (by decide +kernel)
                  refine args_cons ?_
                  refine wpAny_BinOp ?_
                  refine nmCF (by assumption) (by assumption) (by rfl) (by walk_at "wo mem") (by assumption) ?_ rfl (by rfl) (by decide +kernel)
                  refine wpAny_BinOp ?_
                  refine wpAny_BinOp ?_
                  refine wpAny_Constant_int ?_
                  refine nmS (by assumption) (by walk_at "wo look") ?_ rfl (by rfl) (by decide +kernel)
                  refine mulR (32 * ((mdO rs i : Nat) : Int)) rfl (by omega) fun _ _ => ?_
                  refine wpAny_BinOp ?_
                  refine wpAny_BinOp ?_
                  refine wpAny_Constant_int ?_
                  refine nmCF (by assumption) (by assumption) (by rfl) (by walk_at "wo mem") (by assumption) ?_ rfl (by rfl) (by decide +kernel)
                  refine mulR (2 * (N : Int)) rfl (by omega) fun _ _ => ?_
                  refine nmS (by assumption) (by walk_at "wo look") ?_ rfl (by rfl) (by decide +kernel)
                  have hb : 2 * N * mkO rs N i ≤ 32 * mdO rs i := Nat.mul_div_le _ _
                  have eM : 2 * (N : Int) * ((mkO rs N i : Nat) : Int) = ((2 * N * mkO rs N i : Nat) : Int) := by push_cast; rfl
                  refine mulR _ eM (by omega) fun _ _ => ?_
                  refine subR ((32 * mdO rs i % (2 * N) : Nat) : Int) (by have : 2 * N * (32 * mdO rs i / (2 * N)) + 32 * mdO rs i % (2 * N) = 32 * mdO rs i := Nat.div_add_mod _ _; unfold mkO; unfold mkO at eM; omega) fun _ _ => ?_
                  have hr : 32 * mdO rs i % (2 * N) < 2 * N := Nat.mod_lt _ (by omega)
                  refine mulR (sd * ((32 * mdO rs i % (2 * N) : Nat) : Int)) rfl (by omega) fun _ _ => ?_
                  refine args_nil ?_
                  refine tupS S' (by walk_at "wo sz") fun T h₈ S' hT _ => ?_
                  exact ⟨_, _, [_], rfl, S', .tuple (.head _) (.cons (.int _ _) (.cons (.int _ _) .nil))⟩
                · intro D₁₁ h₂₆ tk₂₆ g' S hg hD
                  try dsimp only at S hD ⊢
                  refine neD S (hD₈.mono fun q hq => List.mem_append_right _ hq) (hD.mono fun q hq => List.mem_append_left _ hq) (fun d hd => ?_) u0 ?_
                  · obtain ⟨i, _, rfl⟩ := List.mem_map.mp hd
                    rfl
                  refine wpAny_truthy_bool ?_
                  rw [if_neg Bool.false_ne_true]
                  replace S := S.gsub (g' := G₄) fun q hq => List.mem_append_right _ hq
                  clear hg hD
                  refine wtk (s := s) fun tk₂₇ => ?_
                  refine wpAny_execs_nil ?_
                  refine wpAny_execs_cons ?_
                  refine Assign_Tuple ?_
                  refine Call_ ?_
                  refine nmSG (by assumption) (by assumption) g_law_piled ?_ rfl rfl (by rfl) (by decide +kernel)
                  refine cwS (fn_law_piled (by assumption)) ?_
                  refine args_cons ?_
                  refine nmCS (by assumption) (by rfl) (by walk_at "wo mem") (by assumption) ?_ rfl (by rfl) (by decide +kernel)
                  refine args_cons ?_
                  refine Call_ ?_
                  refine nmSG (by assumption) (by assumption) g_law_powers ?_ rfl rfl (by rfl) (by decide +kernel)
                  refine cwS (fn_law_powers (by assumption)) ?_
                  refine args_cons ?_
                  refine evX L (by rfl) (by decide) rfl (by decide) ?_
                  refine nmS (by assumption) (by walk_at "wo look") ?_ rfl (by rfl) (by decide +kernel)
                  obtain ⟨dvs, dn, mD, hdv⟩ := dlist hD₈
                  have hdl : dvs.length = rs.length := by simpa using hdv.length
                  refine list2C (P := fun i v1 v2 => ∃ t, v1 = Value.int ((mkO rs N i : Nat) : Int) t) S (S.lv.list mD) (fun i v e => ?_) R'.h (by rw [List.size_toArray, hdl, sizeLine_eq]; omega) (fun i => .int ((mkO rs N i : Nat) : Int)) ?_ ?_
                  · have hi : i < rs.length := by have := (Array.getElem?_eq_some_iff.mp e).1; simpa [hdl] using this
                    have hd := lget (d := .tuple [.int ((mkO rs N i : Nat) : Int), .int (sd * ((32 * mdO rs i % (2 * N) : Nat) : Int))]) hdv e (by simp [hi])
                    cases hd with
                    | tuple hm r =>
                      obtain ⟨a, b, rfl⟩ := two_of (by simpa using r.length)
                      cases r with
                      | cons h1 r => exact ⟨_, a, b, rfl, S.lv.tup hm, dint h1⟩
                  · rintro i C p' n' m₀ μ' g' h₇ tk₇ v1 v2 hik ⟨t, rfl⟩ kp lg lm hn' S'
                    refine nmS (by assumption) (by walk_at "wo look") ?_ rfl (by rfl) (by decide +kernel)
                    exact ⟨_, _, [], rfl, S', .int _ _⟩
                  · intro D₁₂ h₂₈ tk₂₈ g' S hg hD
                    try dsimp only at S hD ⊢
                    obtain ⟨evs, en, mE, hev⟩ := dlist hD
                    rw [List.size_toArray, hdl] at hev
                    have eM : (List.range rs.length).map (fun i => Dat.int ((mkO rs N i : Nat) : Int)) = (mksO rs N).map Dat.int := by unfold mksO; rw [List.map_map]; rfl
                    rw [eM] at hev
                    refine args_nil ?_
                    refine ⟨S.F.keep, ct_pow (R'.le) (B.keeps S.F.keep) (S.lv.list (List.mem_append_left _ mE)) (dints hev) (by unfold mksO; simp; omega) fun h₂₉ tk₂₉ D₁₃ g₁₃ k₂₉ hg₁₃ hD₁₃ => ?_⟩
                    have S := S.join k₂₉ hg₁₃
                    try dsimp only
                    refine args_nil ?_
                    obtain ⟨wvs, wn, mW, hwv⟩ := dlist hD₁₃
                    rw [← ok.qint] at hwv
                    have M139 := S.M _ (.tail _ (.tail _ (.head _)))
                    refine ⟨S.F.keep, ct_pile (h₀ := p) (R'.le) B S.F.keep (S.lv.list (by walk_at "wo mem")) (S.lv.list (by walk_at "wo mem")) (g₀ := g₁₃ ++ G₄) (by rw [ok.qstr]; exact hrv.mono fun q hq => List.mem_append_right _ hq) (hwv.mono fun q hq => List.mem_append_left _ hq) M139.1 M139.2.2 GB ok.qlen ok.qsum ok.qasc ok.p100 ok.pile fun s₂ T₁₄ g₁₄ ps139 kx e139 G₂' os₂ hg₁₄ hD₁₄ => ?_⟩
                    have S := (S.perm (List.perm_middle (l₁ := [_, _]))).chgJ kx e139 hg₁₄
                    obtain ⟨G₅, hG₅, S⟩ := S.named
                    have hsub : ∀ q ∈ G₄, q ∈ G₅ := fun q hq => by rw [hG₅]; walk_at "wo mem"
                    replace hD₁₄ := hD₁₄.mono (news' := G₅) fun q hq => by rw [hG₅]; exact List.mem_append_left _ hq
                    replace c1 := hsub _ c1
                    replace c2 := hsub _ c2
                    replace c3 := hsub _ c3
                    replace c4 := hsub _ c4
                    replace mM := hsub _ mM
                    replace mS := hsub _ mS
                    replace mR := hsub _ mR
                    replace hrv := hrv.mono hsub
                    clear hsub hG₅ hg₁₄ hg₁₃ hg hD hD₁₃ mW hwv mE kx M139 c5 hD₈ mD hdv mK
                    obtain ⟨tvs, tn, mT, htv⟩ := dtup hD₁₄
                    obtain ⟨v1, v2, rfl⟩ := two_of (l := tvs) (by simpa using htv.length)
                    obtain ⟨t₁₅, D₁₅, rfl, rfl, hD₁₅⟩ : ∃ t D, v1 = Value.str ⟨(rkO cs).toArray⟩ t ∧ v2 = .ref D ∧ DatIn G₅ (.ref D) (.list (ns.map ntD)) := by
                      cases htv with
                      | cons h1 r =>
                        cases r with
                        | cons h2 r =>
                          obtain ⟨t, rfl⟩ := dstr h1
                          obtain ⟨a, rfl⟩ := dref h2
                          exact ⟨t, a, rfl, rfl, h2⟩
                    refine asg2 (n := L) (s := s₂) R'.h rfl (by rfl) (by rfl) (S.lv.tup mT) S fun h₃₀ tk₃₀ S => ?_
                    obtain ⟨M₄, hM, S⟩ := S.nameM
                    replace m2 : M₄ "middles" = some (.ref D₇) := by rw [hM]; exact up_ne (by decide +kernel) (up_ne (by decide +kernel) m2)
                    have m5 : M₄ "row" = some (.str ⟨(rkO cs).toArray⟩ t₁₅) := by rw [hM]; exact up_ne (by decide +kernel) up_hit
                    have m6 : M₄ "noted" = some (.ref D₁₅) := by rw [hM]; exact up_hit
                    clear hM m1 m3 m4
                    replace S : Sm p L L h₃₀ M₄ [(139, tabObj ps139), (37, tabObj ps37), (44, tabObj ps44), (L + 7, o7)] G₅ := S
                    obtain ⟨nvs, nn, mN, hnv⟩ := dlist hD₁₅
                    have hnl : nvs.length = ns.length := by simpa using hnv.length
                    have hns := ok.nsl
                    try dsimp only
                    refine wtk (s := s₂) fun tk₃₁ => ?_
                    refine wpAny_execs_cons ?_
                    refine wpAny_For ?_
                    refine Call_ ?_
                    refine nmSB (by assumption) (by assumption) (by kernel_rfl) b_zip (by decide +kernel) ?_ rfl rfl rfl (by rfl) (by decide +kernel)
                    refine PyProof.Rows.callWith_type1 ?_
                    refine args_cons ?_
                    refine nmCS (by assumption) (by rfl) (by walk_at "wo mem") (by assumption) ?_ rfl (by rfl) (by decide +kernel)
                    refine args_cons ?_
                    refine nmCS (by assumption) (by rfl) (by walk_at "wo mem") (by assumption) ?_ rfl (by rfl) (by decide +kernel)
                    refine args_nil ?_
                    try dsimp only
                    refine forZipC (k := rs.length) (fun i m μ g => μ = [(139, tabObj ps139), (37, tabObj ps37), (44, tabObj ps44)] ∧ m "middles" = some (.ref D₇) ∧ m "row" = some (.str ⟨(rkO cs).toArray⟩ t₁₅) ∧ m "noted" = some (.ref D₁₅) ∧ ∀ q ∈ G₅, q ∈ g) (S.perm (List.perm_middle (l₁ := [_, _, _]))) d7 (S.lv.list mS) (S.lv.list mR) (by simp; omega) R'.h rfl (by rfl) (by rfl) (by rfl) ⟨rfl, m2, m5, m6, fun q hq => hq⟩ ?_ ?_ ?_
                    · rintro h' i m' ω' μ' g' ⟨_, _, _, _, hs⟩ S
                      exact ⟨S.lv.list (hs _ mS), S.lv.list (hs _ mR)⟩
                    · rintro i m₁ v1 v2 μ' g' ω' o' h' tk hi ⟨rfl, n2, n5, n6, hs⟩ hv1 hv2 ho' mo S
                      obtain ⟨t1, rfl⟩ := dint (lget (d := .int ((stO rs i : Nat) : Int)) hsv hv1 (by simp [Nat.lt_succ_of_lt hi]))
                      obtain ⟨t2, rfl⟩ := dstr (x := ⟨rs[i].toArray⟩) (lget (d := strD rs[i]) hrv hv2 (by simp [hi]))
                      replace c3 := hs _ c3
                      refine wpAny_execs_cons ?_
                      refine wpAny_Assign_Name ?_
                      refine Call_ ?_
                      refine nmSB (by assumption) (by assumption) (by kernel_rfl) b_len (by decide +kernel) ?_ rfl rfl rfl (by rfl) (by decide +kernel)
                      refine PyProof.Rows.callWith_builtin1 ?_
                      refine args_cons ?_
                      refine evX L (by rfl) (by decide) rfl (by decide) ?_
                      refine nmS (by assumption) (by walk_at "wo look") ?_ rfl (by rfl) (by decide +kernel)
                      refine list3CF (P := fun j v1 v2 v3 => ∃ t1 t2 t3, v1 = Value.int (((ns.getD j default).1 : Nat) : Int) t1 ∧ v2 = Value.int (((ns.getD j default).2.1 : Nat) : Int) t2 ∧ v3 = Value.int (((ns.getD j default).2.2 : Nat) : Int) t3) S (S.lv.list (hs _ mN)) (fun j v e => ?_) R'.h (by rw [List.size_toArray, hnl, sizeLine_eq]; omega) (fun j => decide ((ns.getD j default).1 ≤ stO rs i) && decide (stO rs i < (ns.getD j default).2.2)) (fun j => .int (((ns.getD j default).2.2 : Nat) : Int)) ?_ ?_ ?_
                      · have hj : j < ns.length := by have := (Array.getElem?_eq_some_iff.mp e).1; simpa [hnl] using this
                        have hd := lget (d := ntD ns[j]) hnv e (by simp [hj])
                        have e0 : ns.getD j default = ns[j] := by simp [hj]
                        rw [e0]
                        unfold ntD at hd
                        cases hd with
                        | tuple hm r =>
                          cases r with
                          | cons h1 r =>
                            cases r with
                            | cons h2 r =>
                              cases r with
                              | cons h3 r =>
                                cases r
                                obtain ⟨a1, rfl⟩ := dint h1
                                obtain ⟨a2, rfl⟩ := dint h2
                                obtain ⟨a3, rfl⟩ := dint h3
                                exact ⟨_, _, _, _, rfl, S.lv.tup (hs _ hm), _, _, _, rfl, rfl, rfl⟩
                      · rintro j C p' n' m₀ μ' g₂ h₇ tk₇ v1 v2 v3 hj ⟨a1, a2, a3, rfl, rfl, rfl⟩ kp lg lm hn' S'
                        refine isTrue_chain ?_
                        refine nmS (by assumption) (by walk_at "wo look") ?_ rfl (by rfl) (by decide +kernel)
                        refine test_link ?_
                        refine nmCF S' lm (by rfl) mo ho' ?_ rfl (by rfl) (by decide +kernel)
                        refine P.le_int ?_
                        refine wpAny_truthy_bool ?_
                        by_cases b1 : (ns.getD j default).1 ≤ stO rs i
                        · rw [if_pos (decide_eq_true (by omega))]
                          refine test_last ?_
                          refine nmS (by assumption) (by walk_at "wo look") ?_ rfl (by rfl) (by decide +kernel)
                          refine lt_int ?_
                          refine wpAny_truthy_bool ?_
                          refine ⟨?_, _, _, rfl, Kp.rfl⟩
                          rw [decide_eq_true b1, Bool.true_and]
                          exact decide_eq_decide.mpr (by omega)
                        · rw [if_neg (by rw [decide_eq_true_eq]; omega)]
                          refine ⟨?_, _, _, rfl, Kp.rfl⟩
                          rw [decide_eq_false b1, Bool.false_and]
                      · rintro j C p' n' m₀ μ' g₂ h₇ tk₇ v1 v2 v3 hj _ ⟨a1, a2, a3, rfl, rfl, rfl⟩ kp lg lm hn' S'
                        refine nmS (by assumption) (by walk_at "wo look") ?_ rfl (by rfl) (by decide +kernel)
                        exact ⟨_, _, [], rfl, S', .int _ _⟩
                      · intro D₁₆ h₃₁ tk₃₁ g₂ S hg₂ hD₁₆
                        try dsimp only at S hD₁₆ ⊢
                        rw [List.size_toArray, hnl] at hD₁₆
                        obtain ⟨uvs, un, mU, huv⟩ := dlist hD₁₆
                        have hul : uvs.length = depO ns (stO rs i) := by
                          have z := huv.length
                          rw [List.length_map] at z
                          rw [z]; exact filtRange ns (fun t => decide (t.1 ≤ stO rs i) && decide (stO rs i < t.2.2))
                        have hdl2 : uvs.length ≤ 100 := by
                          have z := huv.length
                          rw [List.length_map] at z
                          rw [z]; exact Nat.le_trans (List.length_filter_le _ _) (by simpa using hns)
                        refine args_nil ?_
                        refine call_len_list (S.lv.list (List.mem_append_left _ mU)) (by rw [List.size_toArray]; omega) ?_
                        refine stS S rfl (by rfl) fun h₃₂ tk₃₂ S => ?_
                        rw [List.size_toArray] at S
                        replace c3 := List.mem_append_right g₂ c3
                        try dsimp only
                        refine wtk (s := s₂) fun tk₃₃ => ?_
                        refine wpAny_execs_cons ?_
                        refine wpAny_If ?_
                        refine wpAny_isTrue_Compare1 ?_
                        refine wpAny_BinOp ?_
                        refine Call_ ?_
                        refine nmSB (by assumption) (by assumption) (by kernel_rfl) b_len (by decide +kernel) ?_ rfl rfl rfl (by rfl) (by decide +kernel)
                        refine PyProof.Rows.callWith_builtin1 ?_
                        refine args_cons ?_
                        refine nmS (by assumption) (by walk_at "wo look") ?_ rfl (by rfl) (by decide +kernel)
                        refine args_nil ?_
                        have hrl14 := ok.rl i hi
                        refine P.len_str (by show ¬ ((rs[i].toArray.size : Nat) : Int) ≥ 2 ^ 63; rw [List.size_toArray]; omega) ?_
                        refine nmS (by assumption) (by walk_at "wo look") ?_ rfl (by rfl) (by decide +kernel)
                        have hdep := ok.dep i hi
                        have e0 : rs.getD i [] = rs[i] := by simp [hi]
                        rw [e0, ← hul] at hdep
                        refine shlR ((rs[i].length * 2 ^ uvs.length : Nat) : Int) (by omega) (by omega) (by show ((rs[i].toArray.size : Nat) : Int).natAbs < 2 ^ 64; rw [List.size_toArray]; omega) (by show ((rs[i].toArray.size : Nat) : Int) * 2 ^ ((uvs.length : Int)).toNat = _; rw [List.size_toArray, Int.toNat_natCast]; push_cast; rfl) fun _ _ => ?_
                        refine wpAny_BinOp ?_
                        refine wpAny_Constant_int ?_
                        refine nmCS (by assumption) (by rfl) (by walk_at "wo mem") (by assumption) ?_ rfl (by rfl) (by decide +kernel)
                        refine mulR (4 * (N : Int)) rfl (by omega) fun _ _ => ?_
                        refine ge_int ?_
                        refine wpAny_truthy_bool ?_
                        rw [if_neg (by rw [decide_eq_true_eq]; omega)]
                        refine wpAny_execs_nil ?_
                        refine wpAny_execs_nil ?_
                        refine ⟨.inl rfl, _, _, _, _, _, rfl, S, rfl, ?_, ?_, ?_, fun q hq => List.mem_append_right _ (hs q hq)⟩
                        · walk_at "wo look"
                        · walk_at "wo look"
                        · walk_at "wo look"
                    · rintro m' μ' g' h' tk' ⟨rfl, n2, n5, n6, hs⟩ S
                      replace c1 := hs _ c1
                      replace c2 := hs _ c2
                      replace c3 := hs _ c3
                      replace c4 := hs _ c4
                      replace mM := hs _ mM
                      replace mS := hs _ mS
                      replace mR := hs _ mR
                      replace hD₁₅ := hD₁₅.mono hs
                      clear hs hrv mT mN hnv htv hD₁₄
                      try dsimp only
                      refine wtk (s := s₂) fun tk₃₄ => ?_
                      refine wpAny_execs_cons ?_
                      refine wpAny_Assign_Name ?_
                      refine Call_ ?_
                      refine nmSG (by assumption) (by assumption) g_law_halved ?_ rfl rfl (by rfl) (by decide +kernel)
                      refine cwS (fn_law_halved (by assumption)) ?_
                      refine args_cons ?_
                      refine evX L (by rfl) (by decide) rfl (by decide) ?_
                      refine nmS (by assumption) (by walk_at "wo look") ?_ rfl (by rfl) (by decide +kernel)
                      refine listC S (S.lv.list mM) R'.h (by rw [List.size_toArray, hml, sizeLine_eq]; omega) (fun i => .int ((32 * mdO rs i : Nat) : Int)) ?_ ?_
                      · rintro i C p' n' m₀ μ' g' h₇ tk₇ y hik e1 kp lg lm hn' S'
                        have hik' : i < rs.length := by simpa [hml] using hik
                        obtain ⟨ty, rfl⟩ := dint (lget (d := .int ((mdO rs i : Nat) : Int)) hmv e1 (by simp [hik']))
                        have hmd := ok.mid i hik'
                        refine wpAny_BinOp ?_
                        refine wpAny_Constant_int ?_
                        refine nmS (by assumption) (by walk_at "wo look") ?_ rfl (by rfl) (by decide +kernel)
                        refine mulR ((32 * mdO rs i : Nat) : Int) (by push_cast; rfl) (by omega) fun _ _ => ?_
                        exact ⟨_, _, [], rfl, S', .int _ _⟩
                      · intro D₁₇ h₃₅ tk₃₅ g₂ S hg₂ hD₁₇
                        try dsimp only at S hD₁₇ ⊢
                        rw [List.size_toArray, hml] at hD₁₇
                        obtain ⟨qvs, qn, mQ, hqv⟩ := dlist hD₁₇
                        have eQ : (List.range rs.length).map (fun i => Dat.int ((32 * mdO rs i : Nat) : Int)) = (h32 rs).map Dat.int := by unfold h32; rw [List.map_map]; rfl
                        rw [eQ] at hqv
                        have hqi := dints hqv
                        replace c1 := List.mem_append_right g₂ c1
                        replace c2 := List.mem_append_right g₂ c2
                        replace c3 := List.mem_append_right g₂ c3
                        replace c4 := List.mem_append_right g₂ c4
                        refine args_cons ?_
                        refine wpAny_Constant_int ?_
                        refine args_cons ?_
                        refine Call_ ?_
                        refine nmSB (by assumption) (by assumption) (by kernel_rfl) b_len (by decide +kernel) ?_ rfl rfl rfl (by rfl) (by decide +kernel)
                        refine PyProof.Rows.callWith_builtin1 ?_
                        refine args_cons ?_
                        refine nmCS (by assumption) (by rfl) (by walk_at "wo mem") (by assumption) ?_ rfl (by rfl) (by decide +kernel)
                        refine args_nil ?_
                        refine call_len_list (S.lv.list (List.mem_append_right _ mR)) (by rw [List.size_toArray]; omega) ?_
                        rw [List.size_toArray, hrl]
                        refine args_cons ?_
                        refine wpAny_BinOp ?_
                        refine wpAny_Constant_int ?_
                        refine nmCS (by assumption) (by rfl) (by walk_at "wo mem") (by assumption) ?_ rfl (by rfl) (by decide +kernel)
                        refine mulR ((32 * N : Nat) : Int) (by push_cast; rfl) (by omega) fun _ _ => ?_
                        refine args_cons ?_
                        refine wpAny_BinOp ?_
                        refine wpAny_Constant_int ?_
                        refine nmCS (by assumption) (by rfl) (by walk_at "wo mem") (by assumption) ?_ rfl (by rfl) (by decide +kernel)
                        refine mulR ((16 * N : Nat) : Int) (by push_cast; rfl) (by omega) fun _ _ => ?_
                        refine args_nil ?_
                        refine ⟨S.F.keep, ct_hal hqi (by unfold h32; simp; omega) 6 (a := 0) (b := rs.length) (R'.le) (B.keeps S.F.keep) (S.lv.list (List.mem_append_left _ mQ)) (by unfold h32; simp) ok.hal fun h₃₆ tk₃₆ D₁₈ g₃ k₃₆ hg₃ hD₁₈ => ?_⟩
                        have S := S.join k₃₆ hg₃
                        refine stS S rfl (by rfl) fun h₃₇ tk₃₇ S => ?_
                        obtain ⟨M₅, hM, S⟩ := S.nameM
                        obtain ⟨G₆, hG₆, S⟩ := S.named
                        replace n5 : M₅ "row" = some (.str ⟨(rkO cs).toArray⟩ t₁₅) := by rw [hM]; exact up_ne (by decide +kernel) n5
                        replace n6 : M₅ "noted" = some (.ref D₁₅) := by rw [hM]; exact up_ne (by decide +kernel) n6
                        have n7 : M₅ "tree" = some (.ref D₁₈) := by rw [hM]; exact up_hit
                        replace c1 : (L + 1, o1') ∈ G₆ := by rw [hG₆]; exact List.mem_append_right _ c1
                        replace c4 : (L + 4, o4') ∈ G₆ := by rw [hG₆]; exact List.mem_append_right _ c4
                        replace mS : (D₆, listOf svs.toArray sn) ∈ G₆ := by rw [hG₆]; exact List.mem_append_right _ (List.mem_append_right _ mS)
                        replace hD₁₅ : DatIn G₆ (.ref D₁₅) (.list (ns.map ntD)) := hD₁₅.mono fun q hq => by rw [hG₆]; exact List.mem_append_right _ (List.mem_append_right _ hq)
                        replace hD₁₈ : DatIn G₆ (.ref D₁₈) (.list (tr.map ntD)) := hD₁₈.mono fun q hq => by rw [hG₆]; exact List.mem_append_left _ hq
                        clear hM hG₆ hg₃ k₃₆ hg₂ hD₁₇ mQ hqv hqi mR mM c2 c3 n2
                        try dsimp only
                        refine wtk (s := s₂) fun tk₃₈ => ?_
                        refine wpAny_execs_cons ?_
                        refine wpAny_If ?_
                        refine wpAny_isTrue_Compare1 ?_
                        refine nmS (by assumption) (by walk_at "wo look") ?_ rfl (by rfl) (by decide +kernel)
                        refine evX L (by rfl) (by decide) rfl (by decide) ?_
                        refine nmS (by assumption) (by walk_at "wo look") ?_ rfl (by rfl) (by decide +kernel)
                        obtain ⟨zvs, zn, mZ, hzv⟩ := dlist hD₁₈
                        have hzl : zvs.length = tr.length := by simpa using hzv.length
                        have htl : tr.length = ns.length := by rw [ok.nts, List.length_map]
                        refine list3C (P := fun j v1 v2 v3 => ∃ t1 t2 t3, v1 = Value.int (((tr.getD j default).1 : Nat) : Int) t1 ∧ v2 = Value.int (((tr.getD j default).2.1 : Nat) : Int) t2 ∧ v3 = Value.int (((tr.getD j default).2.2 : Nat) : Int) t3) S (S.lv.list mZ) (fun j v e => ?_) R'.h (by rw [List.size_toArray, hzl, sizeLine_eq]; omega) (fun j => ntD (stO rs (tr.getD j default).1, stO rs (tr.getD j default).2.1, stO rs (tr.getD j default).2.2)) ?_ ?_
                        · have hj : j < tr.length := by have := (Array.getElem?_eq_some_iff.mp e).1; simpa [hzl] using this
                          have hd := lget (d := ntD tr[j]) hzv e (by simp [hj])
                          have e0 : tr.getD j default = tr[j] := by simp [hj]
                          rw [e0]
                          unfold ntD at hd
                          cases hd with
                          | tuple hm r =>
                            cases r with
                            | cons h1 r =>
                              cases r with
                              | cons h2 r =>
                                cases r with
                                | cons h3 r =>
                                  cases r
                                  obtain ⟨a1, rfl⟩ := dint h1
                                  obtain ⟨a2, rfl⟩ := dint h2
                                  obtain ⟨a3, rfl⟩ := dint h3
                                  exact ⟨_, _, _, _, rfl, S.lv.tup hm, _, _, _, rfl, rfl, rfl⟩
                        · rintro j C p' n' m₀ μ' g₂ h₇ tk₇ v1 v2 v3 hj ⟨a1, a2, a3, rfl, rfl, rfl⟩ kp lg lm hn' S'
                          clear lm
                          have hj' : j < tr.length := by simpa [hzl] using hj
                          have hb := ok.trl (tr.getD j default) (by rw [show tr.getD j default = tr[j] from by simp [hj']]; exact List.getElem_mem hj')
                          have item : ∀ k, k ≤ rs.length → ∃ t, svs.toArray[k]? = some (Value.int ((stO rs k : Nat) : Int) t) := fun k hk => by
                            obtain ⟨v, e1, e2⟩ := datGet hsv (k := k) (d := .int ((stO rs k : Nat) : Int)) (by simp [Nat.lt_succ_of_le hk])
                            obtain ⟨t, rfl⟩ := dint e2
                            exact ⟨t, by simpa using e1⟩
                          obtain ⟨s1, i1⟩ := item _ hb.1
                          obtain ⟨s2, i2⟩ := item _ hb.2.1
                          obtain ⟨s3, i3⟩ := item _ hb.2.2
                          have hst : ∀ {h' : Heap}, Kp p' h' → h'.IsList D₆ svs.toArray := fun k => (lg.keeps k).list mS
                          refine Tuple_ ?_
                          refine args_cons ?_
                          refine Subscript_ ?_
                          refine nmCF (by assumption) (by assumption) (by rfl) (by walk_at "wo mem") (by assumption) ?_ rfl (by rfl) (by decide +kernel)
                          refine nmS (by assumption) (by walk_at "wo look") ?_ rfl (by rfl) (by decide +kernel)
                          refine subscriptTail_builtin (hst S'.F.keep).typeIs slot_list_getitem.lookup ?_
                          refine wpAny_getItem_list (x := .int ((stO rs (tr.getD j default).1 : Nat) : Int) s1) (hst S'.F.keep) (by omega) (by omega) (by rw [Int.toNat_natCast]; exact i1) ?_
                          refine args_cons ?_
                          refine Subscript_ ?_
                          refine nmCF (by assumption) (by assumption) (by rfl) (by walk_at "wo mem") (by assumption) ?_ rfl (by rfl) (by decide +kernel)
                          refine nmS (by assumption) (by walk_at "wo look") ?_ rfl (by rfl) (by decide +kernel)
                          refine subscriptTail_builtin (hst S'.F.keep).typeIs slot_list_getitem.lookup ?_
                          refine wpAny_getItem_list (x := .int ((stO rs (tr.getD j default).2.1 : Nat) : Int) s2) (hst S'.F.keep) (by omega) (by omega) (by rw [Int.toNat_natCast]; exact i2) ?_
                          refine args_cons ?_
                          refine Subscript_ ?_
                          refine nmCF (by assumption) (by assumption) (by rfl) (by walk_at "wo mem") (by assumption) ?_ rfl (by rfl) (by decide +kernel)
                          refine nmS (by assumption) (by walk_at "wo look") ?_ rfl (by rfl) (by decide +kernel)
                          refine subscriptTail_builtin (hst S'.F.keep).typeIs slot_list_getitem.lookup ?_
                          refine wpAny_getItem_list (x := .int ((stO rs (tr.getD j default).2.2 : Nat) : Int) s3) (hst S'.F.keep) (by omega) (by omega) (by rw [Int.toNat_natCast]; exact i3) ?_
                          refine args_nil ?_
                          refine tupS S' (by walk_at "wo sz") fun T h₈ S' hT _ => ?_
                          exact ⟨_, _, [_], rfl, S', .tuple (.head _) (.cons (.int _ _) (.cons (.int _ _) (.cons (.int _ _) .nil)))⟩
                        · intro D₁₉ h₃₉ tk₃₉ g₂ S hg hD
                          try dsimp only at S hD ⊢
                          rw [List.size_toArray, hzl] at hD
                          have eZ : (List.range tr.length).map (fun j => ntD (stO rs (tr.getD j default).1, stO rs (tr.getD j default).2.1, stO rs (tr.getD j default).2.2)) = ns.map ntD := by
                            rw [ok.nts, List.map_map]
                            exact rngMap rfl fun i a e => by simp [List.getD_eq_getElem?_getD, e]
                          rw [eZ] at hD
                          refine neD S (hD₁₅.mono fun q hq => List.mem_append_right _ hq) (hD.mono fun q hq => List.mem_append_left _ hq) (fun d hd => ?_) u0 ?_
                          · obtain ⟨i, _, rfl⟩ := List.mem_map.mp hd
                            rfl
                          refine wpAny_truthy_bool ?_
                          rw [if_neg Bool.false_ne_true]
                          replace S := S.gsub (g' := G₆) fun q hq => List.mem_append_right _ hq
                          clear hg hD
                          refine wtk (s := s₂) fun tk₄₀ => ?_
                          refine wpAny_execs_nil ?_
                          refine wpAny_execs_cons ?_
                          refine wpAny_Return_some ?_
                          refine wpAny_Compare1 ?_
                          refine nmS (by assumption) (by walk_at "wo look") ?_ rfl (by rfl) (by decide +kernel)
                          refine MethodCall_ ?_
                          refine Calls.Constant_str ?_
                          refine getMethod_builtin (T := "str") (typeIs_str _ _ _) PySem.F.plainAttrs_str PySem.F.slot_str_join PySem.F.type_str_join (fun a e => by cases e) ?_
                          refine callWith_method1 ?_
                          refine args_cons ?_
                          refine cmp2 (L := L) (p := p) (g₀ := G₆) (cs := cs) (t₀ := t₈) (by rfl) (by decide) rfl (by decide) (fun _ => rfl) (fun _ => by rfl) (fun _ => by rfl) (by decide) (by intro _; rfl) (by intro _ _; rfl) ok.asc (by omega) R'.h ?_ ?_ ?_ ?_
                          · intro C p' n' m' μ' g' s' Q' kp lg S' hq
                            exact nmCF S' lg (by rfl) c1 d1' hq rfl (by rfl) (by decide +kernel)
                          · intro C p' n' m' μ' g' s' i d t1 t2 hi kp S' e1 e2
                            have B' := B.keeps kp
                            refine wpAny_isTrue_Compare1 ?_
                            refine Call_ ?_
                            refine nmSG (by assumption) (by assumption) g_law_rank ?_ rfl rfl (by rfl) (by decide +kernel)
                            refine cwS (fn_law_rank (by assumption)) ?_
                            refine args_cons ?_
                            refine nmS (by assumption) (by walk_at "wo look") ?_ rfl (by rfl) (by decide +kernel)
                            refine args_nil ?_
                            refine ⟨S'.F.keep, ct_rank (n := 1) (R'.le) (B'.keeps S'.F.keep) rfl fun h₄₁ tk₄₁ t₄₁ k₄₁ => ?_⟩
                            have S' := S'.keeps k₄₁
                            try dsimp only
                            refine nmS (by assumption) (by walk_at "wo look") ?_ rfl (by rfl) (by decide +kernel)
                            refine eq_int ?_
                            refine wpAny_truthy_bool ?_
                            refine ⟨?_, _, _, rfl, k₄₁⟩
                            show (((d % 32 : Nat) : Int) == 1 + (i : Int)) = decide (d % 32 = i + 1)
                            rw [Bool.eq_iff_iff, beq_iff_eq, decide_eq_true_eq]
                            omega
                          · intro C p' n' m' μ' g' s' v Q' S' e hq
                            exact nmS S' e hq rfl (by rfl) (by decide +kernel)
                          · refine Call_ ?_
                            refine nmSB (by assumption) (by assumption) (by kernel_rfl) b_range (by decide +kernel) ?_ rfl rfl rfl (by rfl) (by decide +kernel)
                            refine PyProof.Rows.callWith_type1 ?_
                            refine args_cons ?_
                            refine wpAny_Constant_int ?_
                            refine args_cons ?_
                            refine wpAny_Constant_int ?_
                            refine args_nil ?_
                            refine rng2 S fun r h₄₁ tk₄₁ _ _ _ S hr => ?_
                            try dsimp only
                            refine src2 S hr R'.h (fun q hq => hq) fun D h₄₃ tk₄₃ ys nn S hys => ?_
                            try dsimp only
                            refine args_nil ?_
                            try dsimp only [List.cons_append, List.nil_append]
                            refine joinS (cs := rkA cs 4) (S.lv.list (.head _)) hys (by have := rkA_len cs 4; omega) fun tk₄₄ t₄₄ => ?_
                            refine eq_str ?_
                            rw [show ((⟨(rkO cs).toArray⟩ : Str) == ⟨(rkA cs 4).toArray⟩) = true from beq_self_eq_true _]
                            exact h _ _ _ _ (kpx_of hp.symm S.F.keep) (S.M _ (.tail _ (.head _))).1 (S.M _ (.tail _ (.tail _ (.head _)))).1 (S.M _ (.head _)).1 G₂' os₂

/- the shape of the runs -/
noncomputable def absStep (st : List Nat × Nat) (k : Nat) : List Nat × Nat := (if st.1 = [] ∨ ¬ st.2 ≤ k then st.1 ++ [1] else st.1.dropLast ++ [st.1.getLastD 0 + 1], k)
noncomputable def absR (acc : List (List Nat)) : List Nat × Nat := (acc.map List.length, rk ((acc.getLastD []).getLastD 0))
theorem absR_step (acc : List (List Nat)) (c : Nat) : absR (runStep acc c) = absStep (absR acc) (rk c) := by
  rcases List.eq_nil_or_concat acc with rfl | ⟨as, r, rfl⟩
  · simp [runStep, absR, absStep]
  · rw [List.concat_eq_append]
    unfold runStep absR absStep
    simp only [List.getLast?_append, List.getLast?_singleton, Option.some_or, List.getLastD_concat, List.map_append, List.map_cons, List.map_nil, List.dropLast_concat]
    have e0 : (as ++ [r]).getLastD [] = r := List.getLastD_concat ..
    by_cases h : rk (r.getLastD 0) ≤ rk c
    · rw [if_pos h, if_neg (fun q => q.elim (fun q => by simp at q) fun q => q h)]
      simp
    · rw [if_neg h, if_pos (.inr h)]
      simp
theorem absR_runs (cs : List Nat) : absR (runsOf cs) = (cs.map rk).foldl absStep ([], 0) := by
  have key : ∀ (cs : List Nat) (acc : List (List Nat)), absR (cs.foldl runStep acc) = (cs.map rk).foldl absStep (absR acc) := by
    intro cs
    induction cs with
    | nil => intro acc; rfl
    | cons c cs ih => intro acc; rw [List.foldl_cons, ih, absR_step]; rfl
  have := key cs []
  rw [runsOf, this]; rfl
noncomputable def shapes : Nat → List (List Nat)
  | 0 => [[]]
  | k + 1 => (shapes k).flatMap fun ls => [ls ++ [1], ls.dropLast ++ [ls.getLastD 0 + 1]]
theorem mem_shapes (ks : List Nat) (h4 : ∀ k ∈ ks, k ≤ 4) : ∀ (n : Nat) (st : List Nat × Nat), st.1 ∈ shapes n → st.2 ≤ 4 → (ks.foldl absStep st).1 ∈ shapes (n + ks.length) ∧ (ks.foldl absStep st).2 ≤ 4 := by
  induction ks with
  | nil => intro n st h1 h2; exact ⟨h1, h2⟩
  | cons k ks ih =>
    intro n st h1 h2
    have := ih (fun k hk => h4 k (.tail _ hk)) (n + 1) (absStep st k) (by
      unfold shapes absStep
      refine List.mem_flatMap.mpr ⟨_, h1, ?_⟩
      by_cases h : st.1 = [] ∨ ¬ st.2 ≤ k
      · simp only [h, if_true]; exact .head _
      · simp only [h, if_false]; exact .tail _ (.head _)) (h4 k (.head _))
    rw [List.foldl_cons, List.length_cons]
    rw [show n + (ks.length + 1) = n + 1 + ks.length from by omega]
    exact this
noncomputable def finSh (ls : List Nat) : List Nat := ([4, 2, 4, 1, 1, 3, 3, 2, 1].foldl absStep (ls, 0)).1
theorem flat_step (acc : List (List Nat)) (c : Nat) : (runStep acc c).flatten = acc.flatten ++ [c] := by
  rcases List.eq_nil_or_concat acc with rfl | ⟨as, r, rfl⟩
  · simp [runStep]
  · rw [List.concat_eq_append]
    unfold runStep
    simp only [List.getLast?_append, List.getLast?_singleton, Option.some_or, List.dropLast_concat]
    by_cases h : rk (r.getLastD 0) ≤ rk c
    · rw [if_pos h]; simp
    · rw [if_neg h]; simp
theorem flat_runs (cs : List Nat) : (runsOf cs).flatten = cs := by
  have key : ∀ (cs : List Nat) (acc : List (List Nat)), (cs.foldl runStep acc).flatten = acc.flatten ++ cs := by
    intro cs
    induction cs with
    | nil => intro acc; simp
    | cons c cs ih => intro acc; rw [List.foldl_cons, ih, flat_step]; simp
  have := key cs []
  rw [runsOf, this]; rfl
/- order by rank -/
noncomputable def okc (c : Nat) : Prop := 1 ≤ c % 32 ∧ c % 32 ≤ 4
theorem insL_split {X Y : List Nat} {c : Nat} (hX : ∀ x ∈ X, ¬ c % 32 < x % 32) (hY : ∀ y ∈ Y, c % 32 < y % 32) : insL (X ++ Y) c = X ++ c :: Y := by
  have e : bs (fun i => decide (c % 32 < (X ++ Y).getD i 0 % 32)) 0 (X ++ Y).length = X.length := by
    refine bs_uniq (X ++ Y).length 0 _ (by simp) (Nat.zero_le _) (by simp) fun i _ hi => ?_
    rw [decide_eq_true_eq]
    constructor
    · intro h
      rcases Nat.lt_or_ge i X.length with q | q
      · rw [List.getD_eq_getElem?_getD, List.getElem?_append_left q, List.getElem?_eq_getElem q] at h
        exact absurd h (hX _ (List.getElem_mem q))
      · exact q
    · intro h
      have q : i - X.length < Y.length := by simp at hi; omega
      rw [List.getD_eq_getElem?_getD, List.getElem?_append_right h, List.getElem?_eq_getElem q]
      exact hY _ (List.getElem_mem q)
  unfold insL
  rw [e]; simp
noncomputable def fr (a : List Nat) (j : Nat) : List Nat := a.filter fun c => decide (c % 32 = j)
theorem rkO_eq (a : List Nat) : rkO a = fr a 1 ++ (fr a 2 ++ (fr a 3 ++ fr a 4)) := by
  unfold rkO fr
  simp [List.range, List.range.loop, List.flatMap]
theorem fr_mem {a : List Nat} {j x : Nat} (h : x ∈ fr a j) : x % 32 = j := by
  have := (List.mem_filter.mp h).2
  simpa using this
theorem fr_add (a b : List Nat) (j : Nat) : fr (a ++ b) j = fr a j ++ fr b j := List.filter_append ..
theorem fr_one {c j : Nat} : fr [c] j = if c % 32 = j then [c] else [] := by
  unfold fr
  by_cases h : c % 32 = j <;> simp [h]
theorem insL_rk {a : List Nat} {c : Nat} (hc : okc c) : insL (rkO a) c = rkO (a ++ [c]) := by
  rw [rkO_eq, rkO_eq]
  simp only [fr_add, fr_one]
  obtain ⟨h1, h2⟩ := hc
  rcases (by omega : c % 32 = 1 ∨ c % 32 = 2 ∨ c % 32 = 3 ∨ c % 32 = 4) with h | h | h | h
  · simp only [h]
    rw [insL_split (X := fr a 1)]
    · simp
    · intro x hx; rw [fr_mem hx]; omega
    · intro y hy
      simp only [List.mem_append] at hy
      rcases hy with hy | hy | hy <;> (rw [fr_mem hy]; omega)
  · simp only [h]
    rw [← List.append_assoc, insL_split (X := fr a 1 ++ fr a 2)]
    · simp
    · intro x hx
      simp only [List.mem_append] at hx
      rcases hx with hx | hx <;> (rw [fr_mem hx]; omega)
    · intro y hy
      simp only [List.mem_append] at hy
      rcases hy with hy | hy <;> (rw [fr_mem hy]; omega)
  · simp only [h]
    rw [← List.append_assoc, ← List.append_assoc, insL_split (X := fr a 1 ++ fr a 2 ++ fr a 3)]
    · simp
    · intro x hx
      simp only [List.mem_append] at hx
      rcases hx with (hx | hx) | hx <;> (rw [fr_mem hx]; omega)
    · intro y hy; rw [fr_mem hy]; omega
  · simp only [h]
    have := insL_split (X := fr a 1 ++ (fr a 2 ++ (fr a 3 ++ fr a 4))) (Y := []) (c := c) (fun x hx => by
      simp only [List.mem_append] at hx
      rcases hx with hx | hx | hx | hx <;> (rw [fr_mem hx]; omega)) (fun y hy => by cases hy)
    rw [List.append_nil] at this
    rw [this]; simp
theorem mrg_rk {l : List Nat} (hl : ∀ c ∈ l, okc c) : ∀ a, mrg (rkO a) l = rkO (a ++ l) := by
  induction l with
  | nil => intro a; simp [mrg]
  | cons c l ih =>
    intro a
    show mrg (insL (rkO a) c) l = _
    rw [insL_rk (hl c (.head _)), ih (fun d hd => hl d (.tail _ hd))]
    simp
theorem fr_fr (a : List Nat) {i j : Nat} : fr (fr a i) j = if i = j then fr a j else [] := by
  by_cases h : i = j
  · subst h; rw [if_pos rfl]; unfold fr; rw [List.filter_filter]; simp
  · rw [if_neg h]
    refine List.filter_eq_nil_iff.mpr fun x hx => ?_
    rw [fr_mem hx]; simpa using h
theorem fr_rk (a : List Nat) {j : Nat} (h1 : 1 ≤ j) (h2 : j ≤ 4) : fr (rkO a) j = fr a j := by
  rw [rkO_eq]
  simp only [fr_add, fr_fr]
  rcases (by omega : j = 1 ∨ j = 2 ∨ j = 3 ∨ j = 4) with rfl | rfl | rfl | rfl <;> simp
theorem rk_rk (a b : List Nat) : rkO (a ++ rkO b) = rkO (a ++ b) := by
  rw [rkO_eq, rkO_eq (a ++ b)]
  simp only [fr_add]
  rw [fr_rk b (by omega) (by omega), fr_rk b (by omega) (by omega), fr_rk b (by omega) (by omega), fr_rk b (by omega) (by omega)]
theorem mem_rk {a : List Nat} {x : Nat} (h : x ∈ rkO a) : x ∈ a := by
  rw [rkO_eq] at h
  simp only [List.mem_append] at h
  rcases h with h | h | h | h <;> exact (List.mem_filter.mp h).1
/- a run is in order -/
noncomputable def Rn (r : List Nat) : Prop := rkO r = r ∧ ∀ d ∈ r, rk d ≤ rk (r.getLastD 0)
theorem rn_one {c : Nat} (hc : okc c) : Rn [c] := by
  refine ⟨?_, fun d hd => by rw [List.mem_singleton.mp hd]; simp⟩
  have := insL_rk (a := []) hc
  rw [List.nil_append] at this
  rw [← this]; rfl
theorem rn_step {acc : List (List Nat)} {c : Nat} (hc : okc c) (h : ∀ r ∈ acc, Rn r) : ∀ r ∈ runStep acc c, Rn r := by
  rcases List.eq_nil_or_concat acc with rfl | ⟨as, r, rfl⟩
  · intro q hq
    have : q = [c] := by simpa [runStep] using hq
    rw [this]; exact rn_one hc
  · rw [List.concat_eq_append] at h ⊢
    have hr := h r (by simp)
    unfold runStep
    simp only [List.getLast?_append, List.getLast?_singleton, Option.some_or, List.dropLast_concat]
    by_cases e : rk (r.getLastD 0) ≤ rk c
    · rw [if_pos e]
      intro q hq
      rcases List.mem_append.mp hq with hq | hq
      · exact h q (by simp [hq])
      · rw [List.mem_singleton.mp hq]
        have le : ∀ d ∈ r, rk d ≤ rk c := fun d hd => Nat.le_trans (hr.2 d hd) e
        refine ⟨?_, fun d hd => ?_⟩
        · have := insL_rk (a := r) hc
          rw [hr.1] at this
          rw [← this]
          have z := insL_split (X := r) (Y := []) (c := c) (fun x hx => by have := le x hx; unfold rk at this; omega) (fun y hy => by cases hy)
          rw [List.append_nil] at z
          exact z
        · rw [List.getLastD_concat]
          rcases List.mem_append.mp hd with hd | hd
          · exact le d hd
          · rw [List.mem_singleton.mp hd]; exact Nat.le_refl _
    · rw [if_neg e]
      intro q hq
      rcases List.mem_append.mp hq with hq | hq
      · exact h q hq
      · rw [List.mem_singleton.mp hq]; exact rn_one hc
theorem rn_runs {cs : List Nat} (hc : ∀ c ∈ cs, okc c) : ∀ r ∈ runsOf cs, Rn r := by
  have key : ∀ (cs : List Nat) (acc : List (List Nat)), (∀ c ∈ cs, okc c) → (∀ r ∈ acc, Rn r) → ∀ r ∈ cs.foldl runStep acc, Rn r := by
    intro cs
    induction cs with
    | nil => intro acc _ h; exact h
    | cons c cs ih => intro acc hc h; exact ih _ (fun d hd => hc d (.tail _ hd)) (rn_step (hc c (.head _)) h)
  exact key cs [] hc (fun r hr => by cases hr)

noncomputable def stL (ls : List Nat) (i : Nat) : Nat := (ls.take i).sum
noncomputable def mdL (ls : List Nat) (i : Nat) : Nat := stL ls i + stL ls (i + 1)
noncomputable def mksL (ls : List Nat) (N : Nat) : List Int := (List.range ls.length).map fun i => ((32 * mdL ls i / (2 * N) : Nat) : Int)
noncomputable def pwsL (ls : List Nat) (N : Nat) : List Nat := (powL (mksL ls N)).map Int.toNat
noncomputable def qsL (ls : List Nat) (N : Nat) : List (Nat × Nat) := (List.range ls.length).map fun i => ((pwsL ls N).getD i 0, ls.getD i 0)
noncomputable def h32L (ls : List Nat) : List Int := (List.range ls.length).map fun i => ((32 * mdL ls i : Nat) : Int)
noncomputable def joinPL (ps : List (Nat × Nat)) : List (Nat × Nat) := match ps.reverse with
  | b :: a :: r => r.reverse ++ [(a.1, a.2 + b.2)]
  | _ => ps
noncomputable def joinNL (ps : List (Nat × Nat)) : Nat × Nat × Nat := match ps.reverse with
  | b :: a :: r => ((r.reverse.map fun q => q.2).sum, (r.reverse.map fun q => q.2).sum + a.2, (r.reverse.map fun q => q.2).sum + a.2 + b.2)
  | _ => (0, 0, 0)
abbrev PStL := List (Nat × Nat) × List (Nat × Nat × Nat)
noncomputable def popWL (t : Nat → Bool) : Nat → PStL → PStL
  | 0, st => st
  | f + 1, st => if 1 < st.1.length ∧ t (st.1.getLastD (0, 0)).1 = true then popWL t f (joinPL st.1, st.2 ++ [joinNL st.1]) else st
noncomputable def pileTL (st : PStL) (q : Nat × Nat) : PStL := let st' := popWL (fun k => decide (q.1 < k)) st.1.length st; (st'.1 ++ [q], st'.2)
noncomputable def pileFL (qs : List (Nat × Nat)) : PStL := let st := qs.foldl pileTL ([], []); popWL (fun _ => true) st.1.length st
noncomputable def phi (q : Nat × List Nat) : Nat × Nat := (q.1, q.2.length)
noncomputable def Phi (st : PSt) : PStL := (st.1.map phi, st.2)
theorem joinP_phi (ps : List (Nat × List Nat)) : (joinP ps).map phi = joinPL (ps.map phi) := by
  unfold joinP joinPL
  rw [← List.map_reverse]
  rcases h : ps.reverse with _ | ⟨b, _ | ⟨a, r⟩⟩
  · rfl
  · rfl
  · simp [phi, mrg_len]
theorem joinN_phi (ps : List (Nat × List Nat)) : joinN ps = joinNL (ps.map phi) := by
  unfold joinN joinNL
  rw [← List.map_reverse]
  rcases h : ps.reverse with _ | ⟨b, _ | ⟨a, r⟩⟩
  · rfl
  · rfl
  · simp [phi, Function.comp_def]
theorem last_phi (l : List (Nat × List Nat)) : ((l.map phi).getLastD (0, 0)).1 = (l.getLastD (0, [])).1 := by
  rcases List.eq_nil_or_concat l with rfl | ⟨as, r, rfl⟩
  · rfl
  · rw [List.concat_eq_append, List.map_append, List.map_cons, List.map_nil, List.getLastD_concat, List.getLastD_concat]; rfl
theorem popW_phi (t : Nat → Bool) : ∀ (f : Nat) (st : PSt), Phi (popW t f st) = popWL t f (Phi st) := by
  intro f
  induction f with
  | zero => intro st; rfl
  | succ f ih =>
    intro st
    show Phi (if 1 < st.1.length ∧ t (st.1.getLastD (0, [])).1 = true then _ else st) = if 1 < (st.1.map phi).length ∧ t ((st.1.map phi).getLastD (0, 0)).1 = true then _ else _
    rw [last_phi, List.length_map]
    by_cases h : 1 < st.1.length ∧ t (st.1.getLastD (0, [])).1 = true
    · rw [if_pos h, if_pos h, ih]
      unfold Phi
      rw [joinP_phi, joinN_phi]
    · rw [if_neg h, if_neg h]
theorem pileT_phi (st : PSt) (q : Nat × List Nat) : Phi (pileT st q) = pileTL (Phi st) (phi q) := by
  have := popW_phi (fun k => decide (q.1 < k)) st.1.length st
  unfold pileT pileTL
  show ((_ ++ [q]).map phi, _) = ((popWL (fun k => decide (q.1 < k)) (st.1.map phi).length (Phi st)).1 ++ [phi q], (popWL (fun k => decide (q.1 < k)) (st.1.map phi).length (Phi st)).2)
  rw [List.length_map, ← this, List.map_append]; rfl
theorem pileF_phi (qs : List (Nat × List Nat)) : Phi (pileF qs) = pileFL (qs.map phi) := by
  have key : ∀ (qs : List (Nat × List Nat)) (st : PSt), Phi (qs.foldl pileT st) = (qs.map phi).foldl pileTL (Phi st) := by
    intro qs
    induction qs with
    | nil => intro st; rfl
    | cons q qs ih => intro st; rw [List.foldl_cons, ih, pileT_phi]; rfl
  have h1 := key qs ([], [])
  unfold pileF pileFL
  show Phi (popW (fun _ => true) (qs.foldl pileT ([], [])).1.length (qs.foldl pileT ([], []))) = popWL (fun _ => true) ((qs.map phi).foldl pileTL (Phi ([], []))).1.length ((qs.map phi).foldl pileTL (Phi ([], [])))
  rw [popW_phi, ← h1]
  congr 1
  show _ = (List.map phi _).length
  rw [List.length_map]
/- what the pieces hold -/
noncomputable def PInv (ps : List (Nat × List Nat)) (dn : List Nat) : Prop := ∃ segs : List (List Nat), ps.map (·.2) = segs.map rkO ∧ segs.flatten = dn
theorem PInv.join {ps : List (Nat × List Nat)} {dn : List Nat} (hok : ∀ c ∈ dn, okc c) (h : PInv ps dn) : PInv (joinP ps) dn := by
  obtain ⟨segs, h1, h2⟩ := h
  by_cases hl : 1 < ps.length
  · obtain ⟨r, a, b, rfl, _⟩ := last_two (n := ps.length - 2) (l := ps) (by omega)
    have hs : segs.length = r.length + 2 := by have := congrArg List.length h1; simp at this; omega
    obtain ⟨sr, sa, sb, rfl, hsr⟩ := last_two (n := r.length) (l := segs) (by omega)
    rw [joinP_eq]
    simp only [List.map_append, List.map_cons, List.map_nil] at h1
    obtain ⟨h3, h4⟩ := List.append_inj' h1 rfl
    obtain ⟨h5, h6⟩ := List.append_inj' h3 rfl
    have hb : b.2 = rkO sb := by simpa using h4
    have ha : a.2 = rkO sa := by simpa using h6
    refine ⟨sr ++ [sa ++ sb], ?_, by rw [← h2]; simp⟩
    simp only [List.map_append, List.map_cons, List.map_nil]
    rw [h5, ha, hb, mrg_rk (fun c hc => hok c (by rw [← h2]; simp [mem_rk hc])), rk_rk]
  · have e : joinP ps = ps := by
      unfold joinP
      rcases h : ps.reverse with _ | ⟨b, _ | ⟨a, r⟩⟩
      · rfl
      · rfl
      · have := congrArg List.length h; simp at this; omega
    rw [e]; exact ⟨segs, h1, h2⟩
theorem PInv.popW {t : Nat → Bool} {dn : List Nat} (hok : ∀ c ∈ dn, okc c) : ∀ (f : Nat) (st : PSt), PInv st.1 dn → PInv (popW t f st).1 dn := by
  intro f
  induction f with
  | zero => intro st h; exact h
  | succ f ih =>
    intro st h
    show PInv (if 1 < st.1.length ∧ t (st.1.getLastD (0, [])).1 = true then _ else st).1 dn
    split
    · exact ih _ (h.join hok)
    · exact h
theorem PInv.pile {qs : List (Nat × List Nat)} (hq : ∀ q ∈ qs, rkO q.2 = q.2) (hok : ∀ c ∈ (qs.map (·.2)).flatten, okc c) : PInv (pileF qs).1 (qs.map (·.2)).flatten := by
  have key : ∀ (qs : List (Nat × List Nat)) (st : PSt) (dn : List Nat), (∀ q ∈ qs, rkO q.2 = q.2) → (∀ c ∈ dn ++ (qs.map (·.2)).flatten, okc c) → PInv st.1 dn → PInv (qs.foldl pileT st).1 (dn ++ (qs.map (·.2)).flatten) := by
    intro qs
    induction qs with
    | nil => intro st dn _ _ h; simpa using h
    | cons q qs ih =>
      intro st dn hq hok h
      rw [List.foldl_cons]
      have h1 := PInv.popW (t := fun k => decide (q.1 < k)) (fun c hc => hok c (by simp [hc])) st.1.length st h
      obtain ⟨segs, e1, e2⟩ := h1
      have := ih (pileT st q) (dn ++ q.2) (fun q hq' => hq q (.tail _ hq')) (fun c hc => hok c (by simpa using hc)) ⟨segs ++ [q.2], by
        show (_ ++ [q]).map (·.2) = _
        rw [List.map_append, List.map_append, e1]; simp [hq q (.head _)], by simp [e2]⟩
      rw [List.map_cons, List.flatten_cons, ← List.append_assoc]
      exact this
  have h := key qs ([], []) [] hq (by simpa using hok) ⟨[], rfl, rfl⟩
  rw [List.nil_append] at h
  exact PInv.popW hok _ _ h
/- the shapes, all of them -/
noncomputable def nsL (ls : List Nat) : List (Nat × Nat × Nat) := (pileFL (qsL ls ls.sum)).2
noncomputable def trL (ls : List Nat) : List (Nat × Nat × Nat) := (halF (h32L ls) 6 0 ls.length ((32 * ls.sum : Nat) : Int) ((16 * ls.sum : Nat) : Int)).getD []
structure ShOk (ls : List Nat) : Prop where
  n1 : 9 ≤ ls.sum
  n2 : ls.sum ≤ 14
  k : 1 ≤ ls.length ∧ ls.length ≤ 14
  mid : ∀ i, i < ls.length → 1 ≤ mdL ls i ∧ mdL ls i < 2 * ls.sum
  pow : powL (mksL ls ls.sum) = (pwsL ls ls.sum).map fun i : Nat => (i : Int)
  pl : (pwsL ls ls.sum).length = ls.length
  p100 : ∀ k ∈ pwsL ls ls.sum, k ≤ 100
  pile : (pileFL (qsL ls ls.sum)).1 = [(0, ls.sum)]
  nsl : (nsL ls).length ≤ 100
  dep : ∀ i, i < ls.length → ls.getD i 0 * 2 ^ depO (nsL ls) (stL ls i) < 4 * ls.sum
  hal : halF (h32L ls) 6 0 ls.length ((32 * ls.sum : Nat) : Int) ((16 * ls.sum : Nat) : Int) = some (trL ls)
  trl : ∀ t ∈ trL ls, t.1 ≤ ls.length ∧ t.2.1 ≤ ls.length ∧ t.2.2 ≤ ls.length
  nts : nsL ls = (trL ls).map fun t => (stL ls t.1, stL ls t.2.1, stL ls t.2.2)
noncomputable def ckL (ls : List Nat) : Bool :=
  decide (9 ≤ ls.sum) && decide (ls.sum ≤ 14) && decide (1 ≤ ls.length ∧ ls.length ≤ 14) && (List.range ls.length).all (fun i => decide (1 ≤ mdL ls i ∧ mdL ls i < 2 * ls.sum)) &&
  decide (powL (mksL ls ls.sum) = (pwsL ls ls.sum).map fun i : Nat => (i : Int)) && decide ((pwsL ls ls.sum).length = ls.length) && (pwsL ls ls.sum).all (fun k => decide (k ≤ 100)) && decide ((pileFL (qsL ls ls.sum)).1 = [(0, ls.sum)]) &&
  decide ((nsL ls).length ≤ 100) && (List.range ls.length).all (fun i => decide (ls.getD i 0 * 2 ^ depO (nsL ls) (stL ls i) < 4 * ls.sum)) && (halF (h32L ls) 6 0 ls.length ((32 * ls.sum : Nat) : Int) ((16 * ls.sum : Nat) : Int)).isSome &&
  (trL ls).all (fun t => decide (t.1 ≤ ls.length ∧ t.2.1 ≤ ls.length ∧ t.2.2 ≤ ls.length)) && decide (nsL ls = (trL ls).map fun t => (stL ls t.1, stL ls t.2.1, stL ls t.2.2))
theorem ShOk.of {ls : List Nat} (h : ckL ls = true) : ShOk ls := by
  unfold ckL at h
  simp only [Bool.and_eq_true, decide_eq_true_eq, List.all_eq_true, List.mem_range] at h
  obtain ⟨⟨⟨⟨⟨⟨⟨⟨⟨⟨⟨⟨h1, h2⟩, h3⟩, h4⟩, h5⟩, h6⟩, h7⟩, h8⟩, h9⟩, h10⟩, h11⟩, h12⟩, h13⟩ := h
  refine ⟨h1, h2, h3, h4, h5, h6, h7, h8, h9, h10, ?_, h12, h13⟩
  obtain ⟨r, hr⟩ := Option.isSome_iff_exists.mp h11
  unfold trL
  rw [hr]; rfl
theorem sh0 : ((shapes 0).all fun ls => ckL (finSh ls)) = true := by decide +kernel
theorem sh1 : ((shapes 1).all fun ls => ckL (finSh ls)) = true := by decide +kernel
theorem sh2 : ((shapes 2).all fun ls => ckL (finSh ls)) = true := by decide +kernel
theorem sh3 : ((shapes 3).all fun ls => ckL (finSh ls)) = true := by decide +kernel
theorem sh4 : ((shapes 4).all fun ls => ckL (finSh ls)) = true := by decide +kernel
theorem sh5 : ((shapes 5).all fun ls => ckL (finSh ls)) = true := by decide +kernel

theorem ltr_ok (c : Int) : ltr (c % 8).toNat < 128 ∧ okc (ltr (c % 8).toNat) := by
  have key : ∀ k < 8, ltr k < 128 ∧ 1 ≤ ltr k % 32 ∧ ltr k % 32 ≤ 4 := by decide
  exact key _ (by omega)
theorem sh_txt (is : List Int) : ShOk ((runsOf (txtOf is)).map List.length) := by
  have e := congrArg Prod.fst (absR_runs (txtOf is))
  replace e : (runsOf (txtOf is)).map List.length = (((txtOf is).map rk).foldl absStep ([], 0)).1 := e
  have e2 : (txtOf is).map rk = (((is.take 5).map (· % 1000000)).map fun c => rk (ltr (c % 8).toNat)) ++ [4, 2, 4, 1, 1, 3, 3, 2, 1] := by
    unfold txtOf cellsOf
    rw [List.map_append, List.map_append, List.map_map]
    rfl
  rw [e, e2, List.foldl_append]
  have hm := mem_shapes (((is.take 5).map (· % 1000000)).map fun c => rk (ltr (c % 8).toNat)) (fun k hk => by
    obtain ⟨c, _, rfl⟩ := List.mem_map.mp hk
    exact (ltr_ok c).2.2) 0 ([], 0) (.head _) (Nat.zero_le _)
  have hl : (((is.take 5).map (· % 1000000)).map fun c => rk (ltr (c % 8).toNat)).length ≤ 5 := by simp; omega
  generalize (((is.take 5).map (· % 1000000)).map fun c => rk (ltr (c % 8).toNat)) = ks at hm hl
  rw [Nat.zero_add] at hm
  generalize ks.foldl absStep ([], 0) = st at hm
  have e3 : ([4, 2, 4, 1, 1, 3, 3, 2, 1].foldl absStep st).1 = finSh st.1 := by
    have : absStep st 4 = absStep (st.1, 0) 4 := by
      unfold absStep
      simp [hm.2]
    show ([2, 4, 1, 1, 3, 3, 2, 1].foldl absStep (absStep st 4)).1 = ([2, 4, 1, 1, 3, 3, 2, 1].foldl absStep (absStep (st.1, 0) 4)).1
    rw [this]
  rw [e3]
  refine ShOk.of ?_
  generalize ks.length = n at hm hl
  have pick : ∀ {k : Nat}, ((shapes k).all fun ls => ckL (finSh ls)) = true → st.1 ∈ shapes k → ckL (finSh st.1) = true := fun h hk => List.all_eq_true.mp h _ hk
  rcases (by omega : n = 0 ∨ n = 1 ∨ n = 2 ∨ n = 3 ∨ n = 4 ∨ n = 5) with rfl | rfl | rfl | rfl | rfl | rfl
  · exact pick sh0 hm.1
  · exact pick sh1 hm.1
  · exact pick sh2 hm.1
  · exact pick sh3 hm.1
  · exact pick sh4 hm.1
  · exact pick sh5 hm.1
theorem le_sumL {l : List Nat} {x : Nat} (h : x ∈ l) : x ≤ l.sum := by
  induction l with
  | nil => cases h
  | cons a l ih =>
    rw [List.sum_cons]
    rcases List.mem_cons.mp h with rfl | h
    · exact Nat.le_add_right _ _
    · exact Nat.le_trans (ih h) (Nat.le_add_left _ _)
theorem law_ok (is : List Int) : ∃ rs N ns tr, LawOk (txtOf is) rs N ns tr := by
  have sh := sh_txt is
  have hcs : ∀ c ∈ txtOf is, c < 128 ∧ okc c := fun c hc => by
    unfold txtOf at hc
    obtain ⟨d, _, rfl⟩ := List.mem_map.mp hc
    exact ltr_ok d
  have hrn := rn_runs fun c hc => (hcs c hc).2
  have hfl := flat_runs (txtOf is)
  generalize hcs0 : txtOf is = cs at *
  generalize hrs : runsOf cs = rs at *
  generalize hls : rs.map List.length = ls at *
  have hk : rs.length = ls.length := by rw [← hls, List.length_map]
  have hN : cs.length = ls.sum := by rw [← hfl, List.length_flatten, hls]
  have e1 : ∀ i, stO rs i = stL ls i := fun i => by unfold stO stL; rw [← hls, List.map_take]
  have e2 : ∀ i, mdO rs i = mdL ls i := fun i => by unfold mdO mdL; rw [e1, e1]
  have e3 : mksO rs ls.sum = mksL ls ls.sum := by unfold mksO mksL mkO; simp only [e2, hk]
  have e4 : pwsO rs ls.sum = pwsL ls ls.sum := by unfold pwsO pwsL; rw [e3]
  have e5 : h32 rs = h32L ls := by unfold h32 h32L; simp only [e2, hk]
  have hg : ∀ i, i < rs.length → (rs.getD i []).length = ls.getD i 0 := fun i hi => by
    rw [← hls]; simp [List.getD_eq_getElem?_getD, hi]
  have e6 : (qsO rs ls.sum).map phi = qsL ls ls.sum := by
    unfold qsO qsL
    rw [List.map_map, e4, hk]
    refine List.map_congr_left fun i hi => ?_
    show ((pwsL ls ls.sum).getD i 0, (rs.getD i []).length) = _
    rw [hg i (by rw [hk]; exact List.mem_range.mp hi)]
  have e7 : (qsO rs ls.sum).map (·.2) = rs := by
    unfold qsO
    rw [List.map_map]
    apply List.ext_getElem
    · simp
    · intro i h1 h2; simp at h1; simp [h1]
  have hmem : ∀ q ∈ qsO rs ls.sum, q.2 ∈ rs := fun q hq => by rw [← e7]; exact List.mem_map_of_mem (f := fun q : Nat × List Nat => q.2) hq
  have hasr : ∀ r ∈ rs, ∀ c ∈ r, c < 128 := fun r hr c hc => (hcs c (by rw [← hfl]; exact List.mem_flatten.mpr ⟨r, hr, hc⟩)).1
  have hpile : pileF (qsO rs ls.sum) = ([(0, rkO cs)], nsL ls) := by
    have a1 := pileF_phi (qsO rs ls.sum)
    rw [e6] at a1
    have a2 := PInv.pile (qs := qsO rs ls.sum) (fun q hq => (hrn _ (hmem q hq)).1) (fun c hc => (hcs c (by rw [e7, hfl] at hc; exact hc)).2)
    rw [e7, hfl] at a2
    have a3 : (pileF (qsO rs ls.sum)).1.map phi = [(0, ls.sum)] := by
      have := congrArg Prod.fst a1
      rw [sh.pile] at this; exact this
    have a4 : (pileF (qsO rs ls.sum)).2 = nsL ls := congrArg Prod.snd a1
    obtain ⟨q, hq⟩ : ∃ q, (pileF (qsO rs ls.sum)).1 = [q] := List.length_eq_one_iff.mp (by have := congrArg List.length a3; simpa using this)
    obtain ⟨segs, b1, b2⟩ := a2
    rw [hq] at a3 b1
    obtain ⟨sg, rfl⟩ : ∃ sg, segs = [sg] := List.length_eq_one_iff.mp (by have := congrArg List.length b1; simpa using this.symm)
    have c1 : q.1 = 0 := by have := List.cons.inj a3; exact congrArg Prod.fst this.1
    have c2 : q.2 = rkO cs := by
      have d1 : q.2 = rkO sg := (List.cons.inj b1).1
      have d2 : sg = cs := by simpa using b2
      rw [d1, d2]
    rw [show pileF (qsO rs ls.sum) = ((pileF (qsO rs ls.sum)).1, (pileF (qsO rs ls.sum)).2) from rfl, hq, a4]
    rw [show q = (q.1, q.2) from rfl, c1, c2]
  have hpl : (pwsO rs ls.sum).length = rs.length := by rw [e4, sh.pl, hk]
  have hp1 : (qsO rs ls.sum).map (·.1) = pwsO rs ls.sum := by
    unfold qsO
    rw [List.map_map]
    apply List.ext_getElem
    · simp [hpl]
    · intro i h1 h2
      simp at h1
      have : i < (pwsO rs ls.sum).length := by rw [hpl]; exact h1
      simp [this]
  refine ⟨rs, ls.sum, nsL ls, trL ls, ⟨hrs, hN, sh.n1, sh.n2, by rw [hk]; exact sh.k, fun c hc => (hcs c hc).1, hasr, fun j hj => ?_, fun i hi => by rw [e2]; exact sh.mid i (by rw [← hk]; exact hi), fun i => ?_, ?_, ?_, fun q hq c hc => hasr _ (hmem q hq) c hc, ?_, ?_, fun q hq => ?_, hpile, sh.nsl, fun i hi => ?_, by rw [e5, hk]; exact sh.hal, fun t ht => by rw [hk]; exact sh.trl t ht, by simp only [e1]; exact sh.nts⟩⟩
  · have : rs[j].length ∈ ls := by rw [← hls]; exact List.mem_map_of_mem (List.getElem_mem hj)
    exact Nat.le_trans (le_sumL this) sh.n2
  · rw [e1]
    unfold stL
    refine Nat.le_trans ?_ sh.n2
    conv => rhs; rw [← List.take_append_drop i ls]
    rw [List.sum_append]; exact Nat.le_add_right _ _
  · unfold qsO; rw [List.length_map, List.length_range, hk]; exact Nat.le_trans sh.k.2 (by decide)
  · have : (qsO rs ls.sum).map (fun q => q.2.length) = ls := by
      rw [show (qsO rs ls.sum).map (fun q => q.2.length) = ((qsO rs ls.sum).map (·.2)).map List.length from by rw [List.map_map]; rfl, e7, hls]
    rw [this]; exact Nat.le_trans sh.n2 (by decide)
  · rw [show (qsO rs ls.sum).map (fun q => strD q.2) = ((qsO rs ls.sum).map (·.2)).map strD from by rw [List.map_map]; rfl, e7]
  · rw [e3, sh.pow, ← e4, ← hp1]
    rw [List.map_map, List.map_map]; rfl
  · refine sh.p100 _ ?_
    rw [← e4, ← hp1]
    exact List.mem_map_of_mem (f := fun q : Nat × List Nat => q.1) hq
  · rw [hg i hi, e1]
    exact sh.dep i (by rw [← hk]; exact hi)

theorem mem_lookup {K : Frag} {a : Addr} {o : Obj} (h : K.lookup a = some o) : a ∈ K.map (·.1) := by
  induction K with
  | nil => cases h
  | cons p K ih =>
    obtain ⟨b, x⟩ := p
    rw [List.map_cons]
    by_cases e : a = b
    · rw [e]; exact .head _
    · refine .tail _ (ih ?_)
      have e2 : (a == b) = false := by simpa using e
      rw [List.lookup_cons, e2] at h
      exact h
theorem no_tab {h : Heap} {b : Addr} {o : Obj} (hT : ∀ P ∈ ([44, 37, 139] : List Addr), h.get? P = some (tabObj #[])) (e : h.get? b = some o) (ho : o ≠ tabObj #[]) : b ∉ ([44, 37, 139] : List Addr) := fun z => ho (Option.some.inj (e.symm.trans (hT b z)))
theorem oldK_of {K : Frag} {h h' : Heap} {p1 p2 p3 : Array Value} (X : K.In h) (hT : ∀ P ∈ ([44, 37, 139] : List Addr), h.get? P = some (tabObj #[])) (c1 : codeHdIn K 41 37 = true) (c2 : codeHdIn K 48 44 = true) (c3 : codeHdIn K 143 139 = true)
    (k : KpX [37, 44, 139] h h') (e1 : h'.get? 37 = some (tabObj p1)) (e2 : h'.get? 44 = some (tabObj p2)) (e3 : h'.get? 139 = some (tabObj p3)) : OldK h h' := by
  have key : ∀ (c P : Addr) (ps : Array Value) (o : Obj), P ∈ ([44, 37, 139] : List Addr) → codeHdIn K c P = true → h'.get? P = some (tabObj ps) → h.get? P = some o → asItWas h h' P o := by
    intro c P ps o hP hc e he
    have t := (codeHd_of_K X hc).tab (hT P hP)
    cases Option.some.inj (he.symm.trans (hT P hP))
    refine .inr (.inl ⟨t.isCodeTable, rfl, #[], ps, rfl, ?_⟩)
    rw [e]; simp
  refine ⟨fun b o e => ?_, fun b o e => ?_⟩
  · by_cases h1 : b = 37
    · subst h1; exact key 41 37 p1 o (by simp) c1 e1 e
    · by_cases h2 : b = 44
      · subst h2; exact key 48 44 p2 o (by simp) c2 e2 e
      · by_cases h3 : b = 139
        · subst h3; exact key 143 139 p3 o (by simp) c3 e3 e
        · exact .inl (k b o (by simp [h1, h2, h3]) e)
  · by_cases h1 : b = 37
    · subst h1; exact ⟨_, e1⟩
    · by_cases h2 : b = 44
      · subst h2; exact ⟨_, e2⟩
      · by_cases h3 : b = 139
        · subst h3; exact ⟨_, e3⟩
        · exact ⟨o, k b o (by simp [h1, h2, h3]) e⟩
set_option maxHeartbeats 4000000 in
theorem walk_end {q : Program} {loose : List Str} {XP : (Str → Option Value) → Heap → Prop} {as : List Addr} {e : ∀ P, as = (Wo.hd.heap_1 P).map (·.1)} {d : DefRec} {kwd : List (Str × Expr)} (hn : d.name = "law") (has : ∀ a ∈ as, a ∉ ([44, 37, 139] : List Addr)) :
    WalkO q loose XP ((kmHook Wo.hd.heap_1 as e [44, 37, 139]).says) PySem.Challenge.rw_wo0050_01.row.toRowW d kwd (fun f vs => PySem.call f vs) := by
  intro w s₀ s₁ mg mb G Y fa o pm cd doc dV kV ho hd hcd hD hmg hg args vals as' hpre hlay hrd hwl hlo
  have KX := km_in_of Y
  have hT := km_tabs_of Y
  have T := G.T
  wrow_args hpre hlay hrd hwl hlo
  rename_i is _ _ _ _ _ _ _ l vs _ hL _ _ _ hI _ hlen _
  have hle : is.length ≤ 63 := by omega
  have hfa : fa = 217 := by
    have h1 : mg "law" = some (.ref 217) := mg_of KX T.g (by kernel_rfl)
    rw [hn, h1] at hmg
    exact (Value.ref.inj (Option.some.inj hmg)).symm
  subst hfa
  have kH : Kp (hideAll s₁.heap [44, 37, 139]) s₁.heap := fun b o e => of_hideAll _ e
  have up : ∀ {b : Addr} {o : Obj}, s₁.heap.get? b = some o → o ≠ tabObj #[] → (hideAll s₁.heap [44, 37, 139]).get? b = some o := fun e ho => hideAll_get _ e (no_tab hT e ho)
  have nsUp : ∀ {a : Addr} {m : Str → Option Value}, s₁.heap.Ns a m → (hideAll s₁.heap [44, 37, 139]).Ns a m := fun hns => hns.at' fun o e => up e fun z => by
    obtain ⟨o', es, ep, ho', hd', _⟩ := hns
    rw [ho'] at e
    cases e
    rw [z] at hd'; cases hd'
  have B : Bs w mg mb (hideAll s₁.heap [44, 37, 139]) := by
    refine ⟨fun a o e' => hideAll_get _ (KX a o e') (has a ?_), nsUp T.g, nsUp T.b, T.builtins, ?_, ?_⟩
    · rw [e w.params]
      exact mem_lookup e'
    · obtain ⟨mc, h1, h2⟩ := T.nolimit
      exact ⟨mc, nsUp h1, h2⟩
    · obtain ⟨bm, ob, h1, h2, h3, h4, h5, h6⟩ := T.bmain
      exact ⟨bm, ob, h1, h2, up h3 (fun z => by rw [z] at h4; cases h4), h4, h5, h6⟩
  obtain ⟨rs, N, ns, tr, ok⟩ := law_ok is
  show wpAny (model pw w) callerA (call (.ref 217) [.ref l]) _ _ s₁
  refine ct_law ⟨rfl, by decide, by decide⟩ B kH hL hI hle (by rw [hg]; exact AllBare.empty) (hT _ (by simp)) (hT _ (by simp)) (hT _ (by simp)) (hideAll_none _ (by simp)) (hideAll_none _ (by simp)) (hideAll_none _ (by simp)) ok fun s' p1 p2 p3 k e1 e2 e3 hG hos => ?_
  exact ⟨.inl ⟨_, _, [], rfl, fun _ => rfl, ReadsW.bool true, by first | wrow_post | rfl | (with_unfolding_all rfl), fun _ => ⟨List.nodup_nil, fun _ hm => (nomatch hm)⟩⟩, oldK_of KX hT (by kernel_rfl) (by kernel_rfl) (by kernel_rfl) k e1 e2 e3, hos, hG⟩

noncomputable def keepI : List Nat := [0, 2, 3, 4, 5, 6, 7, 8, 14, 15, 17, 18, 19, 20, 21, 22, 23]
noncomputable def vw : Program := { pw with main := { pw.main with body := keepI.filterMap fun i => pw.main.body[i]? } }
noncomputable abbrev hk : Hook := kmHook Wo.hd.heap_1 [2,3,15,17,18,20,21,22,24,25,27,28,29,31,32,34,35,36,38,39,41,42,43,45,46,48,49,50,52,53,55,56,57,59,60,62,63,64,65,66,68,69,71,72,73,74,75,77,78,80,81,82,83,84,86,87,89,90,91,94,99,100,101,103,104,106,107,108,110,111,113,114,115,116,118,119,121,122,123,124,126,127,129,130,131,133,134,136,137,138,140,141,143,144,145,146,148,149,151,152,153,155,156,158,159,160,161,163,164,166,167,168,169,170,171,172,175,177,178,180,181,182,184,185,187,188,189,192,193,194,197,198,199,201,202,204,205,206,208,209,211,212,213,216,217] (fun _ => by kernel_rfl) [44, 37, 139]
noncomputable def lse : List Str := ["insort_right", "bisect_right", "bisect_left", "_Accumulator"]
set_option maxHeartbeats 8000000 in
theorem left_ok : LeftO pw vw lse (fun s => xlAt vw [] s && recOk (RowW.records PySem.Challenge.rw_wo0050_01.row.toRowW) s) (Hook.obs hk) (Hook.val hk) 2378 := by
  intro w
  kernel_rfl

end Wo

set_option maxHeartbeats 8000000 in
theorem PySem.Challenge.cw_wo0050_01_holds : PySem.Challenge.rw_wo0050_01.Holds := by
  refine holds_law Wo.ws fun said => ?_
  refine holds_open (q := Wo.vw) (loose := Wo.lse) (Xt := fun s => xlAt Wo.vw [] s && recOk (RowW.records PySem.Challenge.rw_wo0050_01.row.toRowW) s) (XP := XL Wo.vw []) (Yf := Hook.obs Wo.hk) (Ya := Hook.val Wo.hk) (YP := Hook.says Wo.hk) (N := 2378) Wo.left_ok (Hook.of Wo.hk) (Hook.keeps Wo.hk) (fun s e => xl_of s (Bool.and_eq_true_iff.mp e).1) XL.keeps (by rfl) (by rfl) (by rfl) (fun s e => recFacts_of (Bool.and_eq_true_iff.mp e).2) (by rfl) (by first | assumption | decide +kernel) (by decide +kernel) ⟨rfl, rfl, rfl, rfl, rfl, by decide +kernel⟩ ?hw ?hc
  case hw => w_witness2
  case hc => exact Wo.walk_end rfl (by decide)
