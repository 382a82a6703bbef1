import PyProof.Rows.All
import Wide.All
import OpenK.AllK
import Wide.FinOn
import PySem.Challenge.RW_rl0092_01
set_option Elab.async false
set_option maxRecDepth 100000
set_option linter.unusedVariables false
set_option compiler.extract_closed false
set_option genSizeOfSpec false
open PySem PySem.W PyProof.Rows
section
namespace Mine
noncomputable def topQ (p : Program) (w : World) (N : Nat) (s₀ : Shared) : Option Shared :=
  match s₀.heap.isNs mainGlobals && s₀.gens.size == 0 with
  | true => (PySem.W.Fast.tw14082659384304107361 PySem.W.Fast.tw14364793385576792824 p w s₀.heap.objs.size (s₀.heap.nsMap mainGlobals "__annotations__") N s₀ (topStub p)).bind fun s₁ => match staticsOk (importedModules p.main.body) s₀.heap s₁.heap && namesBound p s₁.heap && gensDone s₁ && laidKept s₀.heap s₁.heap with
      | true => some s₁
      | false => none
  | false => none
theorem topQ_eq (p : Program) (w : World) (N : Nat) (s : Shared) : topFrom treeTable p w N s = topQ p w N s := by
  unfold topFrom topQ
  rw [show @topRun = @PySem.W.Fast.tw14082659384304107361 from PySem.W.Fast.te14082659384304107361, show @treeTable = @PySem.W.Fast.tw14364793385576792824 from PySem.W.Fast.te14364793385576792824]
  rfl
noncomputable def hBoot (w : World) (os : OsState) : Shared := ⟨boot_heap w.params, Array.mk [], boot_drawn, boot_toks, os⟩
theorem left_boot {p q : Program} {loose : List Str} {Xt : Shared → Bool} {α : Type} {Yf : Shared → α} {Ya : World → α} {N : Nat} {g0 : Bool} (row : String) (e : opening p = plainProg p.main.scope.names) (hN : Nat.ble 600 N = true) (f : ∀ s, fenceModules? p s = some s)
    (h : ∀ b : Bool, ∀ (w : World) (os : OsState), (topQ p (w.withFollow row b) N (hBoot (w.withFollow row b) os)).map (fun s => (PySem.W.Fast.tw4187177175401517315 q loose (importedModules p.main.body) Xt g0 s, Yf s)) = some (openGood q loose, Ya (w.withFollow row b))) : LeftO p q loose Xt Yf Ya N g0 := by
  rw [← show @openSeen = @PySem.W.Fast.tw4187177175401517315 from PySem.W.Fast.te4187177175401517315] at h
  have side : ∀ (b : Bool) (w : World), (openEnds treeTable p (w.withFollow row b) N).map (fun s => (openSeen q loose (importedModules p.main.body) Xt g0 s, Yf s)) = some (openGood q loose, Ya (w.withFollow row b)) := fun b w => by
    obtain ⟨⟨hh, gs, d, k, os⟩, a, c⟩ := Option.map_eq_some_iff.mp (boot_open e hN f (w.withFollow row b))
    obtain ⟨rfl, rfl, rfl, rfl⟩ : hh = boot_heap (w.withFollow row b).params ∧ gs = Array.mk [] ∧ d = boot_drawn ∧ k = boot_toks := by simpa using c
    unfold openEnds
    rw [a]
    exact (congrArg _ (topQ_eq p _ N _)).trans (h b w os)
  exact fun w => byRow2 row (P := fun w => (openEnds treeTable p w N).map (fun s => (openSeen q loose (importedModules p.main.body) Xt g0 s, Yf s)) = some (openGood q loose, Ya w)) (side false) (side true) w
theorem hOpened : opening PySem.Challenge.pw_rl0092_01 = plainProg PySem.Challenge.pw_rl0092_01.main.scope.names := by kernel_rfl
theorem hFenced : ∀ s, fenceModules? PySem.Challenge.pw_rl0092_01 s = some s := by intro s; kernel_rfl
noncomputable def hSeen : Program := PySem.W.view PySem.Challenge.pw_rl0092_01 [0, 2, 4, 5, 6, 8, 10, 11, 12, 13, 14, 15, 16, 17, 18, 19]
theorem hSaid : PySem.Challenge.rw_rl0092_01.wellSaid = true := by
  rw [show @OpenLaw.wellSaid = @PySem.W.Fast.tw9446332074065402090 from PySem.W.Fast.te9446332074065402090]
  kernel_rfl
local macro_rules | `(tactic| o_law) => `(tactic| refine holds_law hSaid fun _ => ?_)
local macro_rules | `(tactic| o_head $_) => `(tactic| refine' (fun (_ : RowW.promised (OpenRow.toRowW (OpenLaw.row PySem.Challenge.rw_rl0092_01))) x => x) ?hw ?hc)
open_top hd for PySem.Challenge.rw_rl0092_01
noncomputable abbrev hHook : Hook := kmHook hd.heap_1 (2 :: 3 :: 15 :: 17 :: 18 :: 20 :: 21 :: 32 :: 34 :: 35 :: 37 :: 38 :: 39 :: 41 :: 42 :: 44 :: 45 :: 46 :: 48 :: 49 :: 51 :: 52 :: 53 :: 55 :: 56 :: 58 :: 59 :: 60 :: 62 :: 63 :: 65 :: 66 :: 67 :: 69 :: 70 :: 72 :: 73 :: 74 :: 76 :: 77 :: 79 :: 80 :: 81 :: 82 :: 83 :: 84 :: 85 :: 88 :: 90 :: 91 :: 93 :: 94 :: 95 :: 97 :: 98 :: 100 :: 101 :: 102 :: 104 :: 105 :: 107 :: 108 :: 116 :: 118 :: 119 :: 121 :: 122 :: 123 :: 125 :: 126 :: 128 :: 129 :: 130 :: 132 :: 133 :: 135 :: 136 :: 137 :: 139 :: 140 :: 142 :: 143 :: 144 :: 145 :: 146 :: 147 :: 148 :: 151 :: 153 :: 154 :: 156 :: 157 :: 158 :: 160 :: 161 :: 163 :: 164 :: 165 :: 168 :: 169 :: 170 :: 173 :: 174 :: 175 :: 177 :: 178 :: 180 :: 181 :: 182 :: 184 :: 185 :: 187 :: 188 :: 189 :: 191 :: 192 :: 194 :: 195 :: 196 :: 199 :: 200 :: 201 :: 204 :: 205 :: 206 :: 209 :: 210 :: []) (fun _ => by kernel_rfl) [152]
noncomputable abbrev hXt (s : Shared) : Bool := xlAt hSeen [] s && recOk (RowW.records (OpenRow.toRowW (OpenLaw.row PySem.Challenge.rw_rl0092_01))) s
theorem hSideF : ∀ (w : World) (os : OsState), (topQ PySem.Challenge.pw_rl0092_01 (w.withFollow "special-get-raises" false) 2676 (hBoot (w.withFollow "special-get-raises" false) os)).map (fun s => (PySem.W.Fast.tw4187177175401517315 hSeen [Str.ofString "Whitespace"] (importedModules PySem.Challenge.pw_rl0092_01.main.body) hXt true s, hHook.obs s)) = some (openGood hSeen [Str.ofString "Whitespace"], hHook.val (w.withFollow "special-get-raises" false)) := by intro w os; kernel_rfl
theorem hSideT : ∀ (w : World) (os : OsState), (topQ PySem.Challenge.pw_rl0092_01 (w.withFollow "special-get-raises" true) 2676 (hBoot (w.withFollow "special-get-raises" true) os)).map (fun s => (PySem.W.Fast.tw4187177175401517315 hSeen [Str.ofString "Whitespace"] (importedModules PySem.Challenge.pw_rl0092_01.main.body) hXt true s, hHook.obs s)) = some (openGood hSeen [Str.ofString "Whitespace"], hHook.val (w.withFollow "special-get-raises" true)) := by intro w os; kernel_rfl
theorem hLeft : LeftO PySem.Challenge.pw_rl0092_01 hSeen [Str.ofString "Whitespace"] hXt hHook.obs hHook.val 2676 := left_boot "special-get-raises" hOpened (by rfl) hFenced (fun b => by cases b; exact hSideF; exact hSideT)
theorem hChained : (chainsOk hSeen && opensWell PySem.Challenge.pw_rl0092_01 && (frees (OpenRow.toRowW (OpenLaw.row PySem.Challenge.rw_rl0092_01)) && (OpenLaw.row PySem.Challenge.rw_rl0092_01).within.isEmpty)) = true := by decide +kernel
theorem hBared : PySem.Challenge.pw_rl0092_01.bare := ⟨rfl, rfl, rfl, rfl, rfl, by decide +kernel⟩
theorem hPromised : RowW.promised (OpenRow.toRowW (OpenLaw.row PySem.Challenge.rw_rl0092_01)) := ⟨[WData.list []], by decide +kernel, by decide +kernel⟩
theorem hTop {d : DefRec} {kwd : List (Str × PySem.Expr)} (e1 : defOf hSeen (Str.ofString "law") = some (d, kwd)) (e2 : PySem.Challenge.pw_rl0092_01.theDef (Str.ofString "law") = some (d.params, d.body, d.scope)) (e3 : kwWritten? d.params.kwonlyargs d.params.kw_defaults = some kwd)
    (walk : WalkO hSeen [Str.ofString "Whitespace"] (XL hSeen []) hHook.says (OpenRow.toRowW (OpenLaw.row PySem.Challenge.rw_rl0092_01)) d kwd fun f vs => call f vs) : PySem.Challenge.rw_rl0092_01.Holds :=
  hd (holds_open (Xt := hXt) (N := 2676) hLeft (Hook.of hHook) (Hook.keeps hHook) (fun s e => xl_of s (Bool.and_eq_true_iff.mp e).1) XL.keeps e1 e2 e3 (fun s e => recFacts_of (Bool.and_eq_true_iff.mp e).2) (by rfl) (row_said hSaid) hChained hBared hPromised walk)
end Mine
end
section
open PySem PySem.W PySem.Calls PyProof.Rows
namespace Mine

noncomputable abbrev PG : Program := PySem.Challenge.rw_rl0092_01.row.prog


/-- locals: each name of the block, bound or not -/
noncomputable abbrev Lo := List (Str × Option Value)
noncomputable def lk (m : Lo) (x : Str) : Option Value := (m.lookup x).join

/-- what is known of an object -/
inductive OD where
  | list (vs : List Value)
  | tup (vs : List Value)
  | cell (v : Option Value)
  | inst (C dx : Addr)
  | ns (es : List (Str × Value))
  | raw (o : Obj)
  | flds (T : String) (vs : List Value)
noncomputable abbrev Nw := List (Addr × OD)

noncomputable def entryIs (e : DictEntry) (p : Str × Value) : Prop := (∃ t, e.key = .str p.1 t) ∧ e.val = p.2
inductive EntriesAre : List DictEntry → List (Str × Value) → Prop
  | nil : EntriesAre [] []
  | cons {e p es ps} : entryIs e p → EntriesAre es ps → EntriesAre (e :: es) (p :: ps)

noncomputable def Sat : OD → Obj → Prop
  | .list vs, o => ∃ k, o = { cls := .type "list", data := .seq vs.toArray k }
  | .tup vs, o => ∃ k, o = { cls := .type "tuple", data := .seq vs.toArray k }
  | .cell v, o => o.data = .cell v
  | .inst C dx, o => o = instObj C dx
  | .ns es, o => ∃ ds n, o = dictOf ds n ∧ EntriesAre ds es
  | .raw o', o => o = o'
  | .flds T vs, o => o.cls = .type T ∧ o.data = .fields vs.toArray

inductive Rel : Nw → List (Addr × Obj) → Prop
  | nil : Rel [] []
  | cons {a d o n os} : Sat d o → Rel n os → Rel ((a, d) :: n) ((a, o) :: os)

/-- the frame: its names, what stays, and that it is none of that -/
structure FrO (h₀ : Heap) (L : Addr) (h : Heap) (m : Str → Option Value) : Prop where
  ns : h.Ns L m
  keep : ∀ b o, h₀.get? b = some o → h.get? b = some o
  above : h₀.get? L = none
theorem FrO.set {h₀ h h' : Heap} {L : Addr} {m m' : Str → Option Value} (F : FrO h₀ L h m) (hn : h'.Ns L m') (hs : Heap.SameBut L h h') : FrO h₀ L h' m' :=
  ⟨hn, fun b o e => (hs.2 b (fun q => by rw [q, F.above] at e; cases e)).trans (F.keep b o e), F.above⟩

structure Cx where
  h₀ : Heap
  A : Around
  L : Addr
  env : Env
  gs : Array GenState
  os : OsState
  r : Nat
  gen : Bool

structure Seer0 (h : Heap) : Prop where
  seer : h.NoSeer
  bm : ∃ ob, h.get? 4 = some ob ∧ ob.cls = .type "module" ∧ ob.dict = some builtinsNs ∧ ob.data = .plain
theorem Seer0.keeps {h h' : Heap} (x : Seer0 h) (hk : ∀ b o, h.get? b = some o → h'.get? b = some o) : Seer0 h' := ⟨x.seer.keeps hk, let ⟨ob, a, r⟩ := x.bm; ⟨ob, hk _ _ a, r⟩⟩
structure Ok (w : World) (c : Cx) : Prop where
  X : (hd.heap_1 w.params).In c.h₀
  T : ∃ p loose mg mb, TopRead p loose mg mb c.h₀
  hh : c.A.handled = none
  S : Seer0 c.h₀
  frs : c.gen = false → ∃ e l, c.A.frames = some (e :: l) ∧ e.scope.isGenerator = false ∧ e.scope.isCoroutine = false ∧ e.builtins = builtinsNs ∧ e.globals = mainGlobals
  frm : ∃ l, c.A.frames = some l
  dep : c.A.depth + 10 * c.r ≤ 800
  uni : c.A.units + 100 * c.r ≤ 9000
  loc : c.env.locals = c.L
  glo : c.env.globals = mainGlobals
  bui : c.env.builtins = builtinsNs
  knd : c.env.scope.kind = .function

structure Hs (w : World) (c : Cx) (m : Lo) (n : Nw) (s : Shared) : Prop where
  ok : Ok w c
  fr : FrO c.h₀ c.L s.heap (lk m)
  nw : ∃ os, News c.h₀ c.L s.heap os ∧ Rel n os
  nd : (n.map (·.1)).Nodup
  ky : (m.map (·.1)).Nodup
  gens : ∀ (i : Nat) (x : GenState), c.gs[i]? = some x → s.gens[i]? = some x
  bare : AllBare s.gens
  os : s.os = c.os

/-- the triple -/
noncomputable def TT (w : World) {α : Type} (c : Cx) (m : Lo) (n : Nw) (t : Sem α) (Q : α → Lo → Nw → Prop) : Prop :=
  ∀ s, Hs w c m n s → ∀ E : Value → Shared → Prop, wpAny (model PG w) c.A t (fun a s' => ∃ m' n', Hs w c m' n' s' ∧ Q a m' n') E s

section
variable {w : World} {c : Cx} {m : Lo} {n : Nw} {α β : Type}

theorem t_pure {a : α} {Q : α → Lo → Nw → Prop} (h : Q a m n) : TT w c m n (Pure.pure a) Q := fun _ H _ => wpAny_pure ⟨m, n, H, h⟩
theorem t_bind {t : Sem α} {f : α → Sem β} {Q : β → Lo → Nw → Prop} (h : TT w c m n t (fun a m' n' => TT w c m' n' (f a) Q)) : TT w c m n (t >>= f) Q :=
  fun s H E => wpAny_bind (wpAny_mono (h s H E) (fun _ s' ⟨_, _, H', h'⟩ => h' s' H' E) fun _ _ x => x)
theorem t_mono {t : Sem α} {Q Q' : α → Lo → Nw → Prop} (h : TT w c m n t Q) (hq : ∀ a m' n', Q a m' n' → Q' a m' n') : TT w c m n t Q' :=
  fun s H E => wpAny_mono (h s H E) (fun _ _ ⟨m', n', H', h'⟩ => ⟨m', n', H', hq _ _ _ h'⟩) fun _ _ x => x
theorem t_holding {vs : List Value} {t : Sem α} {Q : α → Lo → Nw → Prop} (h : TT w c m n t Q) : TT w c m n (holding vs t) Q := fun s H E => wpAny_holding (h s H E)
theorem t_standAt {p : Pos} {Q : Unit → Lo → Nw → Prop} (h : Q () m n) : TT w c m n (standAt p) Q := fun _ H _ => wpAny_standAt ⟨m, n, H, h⟩
theorem t_of_ok {t : Sem α} {Q : α → Lo → Nw → Prop} (h : Ok w c → TT w c m n t Q) : TT w c m n t Q := fun s H E => h H.ok s H E

/-! the state moves on -/
theorem Hs.toks {s : Shared} (H : Hs w c m n s) (t : Nat) : Hs w c m n { s with toks := t } := ⟨H.ok, H.fr, H.nw, H.nd, H.ky, H.gens, H.bare, H.os⟩
theorem Hs.X {s : Shared} (H : Hs w c m n s) : (hd.heap_1 w.params).In s.heap := H.ok.X.keeps H.fr.keep
theorem Rel.mem {n : Nw} {os : List (Addr × Obj)} (R : Rel n os) : ∀ {a d}, (a, d) ∈ n → ∃ o, (a, o) ∈ os ∧ Sat d o := by
  induction R with
  | nil => intro a d h; cases h
  | cons hs _ ih =>
    intro a d h
    rcases List.mem_cons.mp h with e | h
    · cases e; exact ⟨_, List.mem_cons_self, hs⟩
    · obtain ⟨o, ho, h2⟩ := ih h; exact ⟨o, List.mem_cons_of_mem _ ho, h2⟩
theorem Rel.mem' {n : Nw} {os : List (Addr × Obj)} (R : Rel n os) : ∀ {a o}, (a, o) ∈ os → ∃ d, (a, d) ∈ n ∧ Sat d o := by
  induction R with
  | nil => intro a d h; cases h
  | cons hs _ ih =>
    intro a d h
    rcases List.mem_cons.mp h with e | h
    · cases e; exact ⟨_, List.mem_cons_self, hs⟩
    · obtain ⟨o, ho, h2⟩ := ih h; exact ⟨o, List.mem_cons_of_mem _ ho, h2⟩
theorem Rel.keys {n : Nw} {os : List (Addr × Obj)} (R : Rel n os) : os.map (·.1) = n.map (·.1) := by
  induction R with
  | nil => rfl
  | cons _ _ ih => simp [ih]
theorem Hs.get {s : Shared} (H : Hs w c m n s) {a d} (h : (a, d) ∈ n) : ∃ o, s.heap.get? a = some o ∧ Sat d o ∧ a ≠ c.L ∧ c.h₀.get? a = none := by
  obtain ⟨os, N, R⟩ := H.nw
  obtain ⟨o, ho, hs⟩ := R.mem h
  exact ⟨o, (N _ ho).1, hs, (N _ ho).2⟩
/-- growth alone -/
theorem Hs.grow {s s' : Shared} (H : Hs w c m n s) (hk : ∀ b o, s.heap.get? b = some o → s'.heap.get? b = some o) (hg : s'.gens = s.gens) (ho : s'.os = s.os) : Hs w c m n s' := by
  obtain ⟨os, N, R⟩ := H.nw
  obtain ⟨oL, es, ep, hL, r⟩ := H.fr.ns
  exact ⟨H.ok, ⟨⟨oL, es, ep, hk _ _ hL, r⟩, fun b o e => hk _ _ (H.fr.keep b o e), H.fr.above⟩, ⟨os, fun p hp => ⟨hk _ _ (N p hp).1, (N p hp).2⟩, R⟩, H.nd, H.ky, hg ▸ H.gens, hg ▸ H.bare, ho ▸ H.os⟩
theorem Hs.lt {s : Shared} (H : Hs w c m n s) {a d} (h : (a, d) ∈ n) : a < s.heap.objs.size := by
  obtain ⟨o, ho, _⟩ := H.get h; exact Heap.lt_size ho
/-- a new object joins the ledger -/
theorem Hs.add {s s' : Shared} (H : Hs w c m n s) {a : Addr} {o : Obj} {d : OD} (hk : ∀ b o, s.heap.get? b = some o → s'.heap.get? b = some o) (ha : s.heap.objs.size ≤ a) (ho : s'.heap.get? a = some o) (hs : Sat d o)
    (hg : s'.gens = s.gens) (hos : s'.os = s.os) : Hs w c m ((a, d) :: n) s' := by
  have H' := H.grow hk hg hos
  obtain ⟨os, N, R⟩ := H'.nw
  refine ⟨H'.ok, H'.fr, ⟨(a, o) :: os, fun p hp => ?_, .cons hs R⟩, ?_, H'.ky, H'.gens, H'.bare, H'.os⟩
  · rcases List.mem_cons.mp hp with rfl | hp
    · refine ⟨ho, ?_, ?_⟩
      · obtain ⟨oL, _, _, hL, _⟩ := H.fr.ns
        exact fun (e : a = c.L) => Nat.lt_irrefl _ (Nat.lt_of_lt_of_le (Heap.lt_size hL) (e ▸ ha))
      · cases q : c.h₀.get? a with
        | none => rfl
        | some o' => exact absurd (Nat.lt_of_lt_of_le (Heap.lt_size (H.fr.keep _ _ q)) ha) (Nat.lt_irrefl _)
    · exact N p hp
  · refine List.nodup_cons.mpr ⟨fun hm => ?_, H'.nd⟩
    obtain ⟨⟨b, d'⟩, hp, rfl⟩ := List.mem_map.mp hm
    exact Nat.lt_irrefl _ (Nat.lt_of_lt_of_le (H.lt hp) ha)
theorem Hs.push {s : Shared} (H : Hs w c m n s) {o : Obj} {d : OD} (hs : Sat d o) (hf : o.isFreed = false := by rfl) : Hs w c m ((s.heap.objs.size, d) :: n) { s with heap := s.heap.push o } :=
  H.add (fun _ _ e => Heap.get?_push_of_some _ e) (Nat.le_refl _) (Heap.get?_push_size _ hf) hs rfl rfl
theorem Hs.pushG {s : Shared} (H : Hs w c m n s) (o : Obj) : Hs w c m n { s with heap := s.heap.push o } := H.grow (fun _ _ e => Heap.get?_push_of_some _ e) rfl rfl

/-- one entry of the ledger, found and changed -/
inductive Up (a : Addr) (d d' : OD) : Nw → Nw → Prop
  | head {r} : Up a d d' ((a, d) :: r) ((a, d') :: r)
  | tail {p r r'} : Up a d d' r r' → Up a d d' (p :: r) (p :: r')
theorem Up.mem {a d d'} {n n' : Nw} (u : Up a d d' n n') : (a, d) ∈ n := by
  induction u with
  | head => exact List.mem_cons_self
  | tail _ ih => exact List.mem_cons_of_mem _ ih
theorem Up.keys {a d d'} {n n' : Nw} (u : Up a d d' n n') : n'.map (·.1) = n.map (·.1) := by
  induction u with
  | head => rfl
  | tail _ ih => simp [ih]
theorem Up.rel {a d d'} {n n' : Nw} (u : Up a d d' n n') {h₀ : Heap} {L : Addr} {h h' : Heap} {o' : Obj} (hs : Heap.SameBut a h h') (ho : h'.get? a = some o') (hd : Sat d' o') :
    (n.map (·.1)).Nodup → ∀ {os}, News h₀ L h os → Rel n os → ∃ os', News h₀ L h' os' ∧ Rel n' os' := by
  induction u with
  | @head r =>
    intro nd os N R
    cases R with
    | @cons _ _ o _ os hsat R =>
      refine ⟨(a, o') :: os, fun p hp => ?_, .cons hd R⟩
      rcases List.mem_cons.mp hp with rfl | hp
      · exact ⟨ho, (N _ List.mem_cons_self).2⟩
      · have P := N p (List.mem_cons_of_mem _ hp)
        refine ⟨(hs.2 p.1 fun e => ?_).trans P.1, P.2⟩
        have := (List.nodup_cons.mp nd).1
        rw [← R.keys] at this
        exact this (e ▸ List.mem_map_of_mem hp)
  | @tail p r r' u ih =>
    intro nd os N R
    cases R with
    | @cons b db ob _ os hsat R =>
      obtain ⟨os', N', R'⟩ := ih (List.nodup_cons.mp nd).2 (fun q hq => N q (List.mem_cons_of_mem _ hq)) R
      refine ⟨(b, ob) :: os', fun q hq => ?_, .cons hsat R'⟩
      rcases List.mem_cons.mp hq with rfl | hq
      · have P := N (b, ob) List.mem_cons_self
        refine ⟨(hs.2 b fun e => ?_).trans P.1, P.2⟩
        have z : a ∈ r.map (·.1) := List.mem_map_of_mem (f := (·.1)) u.mem
        exact (List.nodup_cons.mp nd).1 (e ▸ z)
      · exact N' q hq
theorem Hs.up {s : Shared} (H : Hs w c m n s) {a d d' n'} (u : Up a d d' n n') {h' : Heap} {o' : Obj} (hs : Heap.SameBut a s.heap h') (ho : h'.get? a = some o') (hd : Sat d' o') (tk : Nat) :
    Hs w c m n' { s with heap := h', toks := tk } := by
  obtain ⟨os, N, R⟩ := H.nw
  obtain ⟨o, hoa, _, haL, ha0⟩ := H.get u.mem
  obtain ⟨oL, es, ep, hL, r⟩ := H.fr.ns
  refine ⟨H.ok, ⟨⟨oL, es, ep, (hs.2 _ (Ne.symm haL)).trans hL, r⟩, fun b o e => (hs.2 b fun q => ?_).trans (H.fr.keep b o e), H.fr.above⟩, u.rel hs ho hd H.nd N R, u.keys ▸ H.nd, H.ky, H.gens, H.bare, H.os⟩
  rw [q, ha0] at e; cases e

/-- the locals -/
inductive LUp (x : Str) (v : Option Value) : Lo → Lo → Prop
  | head {o r} : LUp x v ((x, o) :: r) ((x, v) :: r)
  | tail {p r r'} : LUp x v r r' → LUp x v (p :: r) (p :: r')
inductive LAt (x : Str) (v : Option Value) : Lo → Prop
  | head {r} : LAt x v ((x, v) :: r)
  | tail {p r} : LAt x v r → LAt x v (p :: r)
theorem LAt.mem {x v} {m : Lo} (u : LAt x v m) : (x, v) ∈ m := by
  induction u with
  | head => exact List.mem_cons_self
  | tail _ ih => exact List.mem_cons_of_mem _ ih
theorem lookup_of_mem {x : Str} {v : Option Value} : ∀ {m : Lo}, (m.map (·.1)).Nodup → (x, v) ∈ m → m.lookup x = some v
  | (y, u) :: r, nd, h => by
    obtain ⟨h1, h2⟩ := List.nodup_cons.mp nd
    rcases List.mem_cons.mp h with e | h
    · cases e; simp [List.lookup]
    · have : (x == y) = false := by
        cases q : x == y with
        | false => rfl
        | true => exact absurd (List.mem_map_of_mem (f := (·.1)) h) (beq_iff_eq.mp q ▸ h1)
      rw [List.lookup_cons, this]; exact lookup_of_mem h2 h
theorem LAt.lk {x v} {m : Lo} (u : LAt x v m) (nd : (m.map (·.1)).Nodup) : lk m x = v := by
  unfold Mine.lk; rw [lookup_of_mem nd u.mem]; rfl
theorem LUp.keys {x v} {m m' : Lo} (u : LUp x v m m') : m'.map (·.1) = m.map (·.1) := by
  induction u with
  | head => rfl
  | tail _ ih => simp [ih]
theorem LUp.key {x v} {m m' : Lo} (u : LUp x v m m') : x ∈ m.map (·.1) := by
  induction u with
  | head => exact List.mem_cons_self
  | tail _ ih => exact List.mem_cons_of_mem _ ih
theorem LUp.lk {x v} {m m' : Lo} (u : LUp x v m m') : (m.map (·.1)).Nodup → lk m' = fun y => if y = x then v else lk m y := by
  induction u with
  | @head o r =>
    intro nd; funext y; unfold Mine.lk
    by_cases h : y = x
    · subst h; simp [List.lookup]
    · have : (y == x) = false := by simpa using h
      simp [List.lookup_cons, this, h]
  | @tail p r r' u ih =>
    intro nd; funext y
    obtain ⟨h1, h2⟩ := List.nodup_cons.mp nd
    have ih := congrFun (ih h2) y
    unfold Mine.lk at ih ⊢
    obtain ⟨k, vk⟩ := p
    rw [List.lookup_cons, List.lookup_cons]
    cases q : y == k with
    | false => exact ih
    | true =>
      have hyk := beq_iff_eq.mp q
      subst hyk
      have hne : y ≠ x := fun e => h1 (e ▸ u.key)
      simp [hne]
theorem Hs.store {s : Shared} (H : Hs w c m n s) {x v m'} (u : LUp x (some v) m m') {h' : Heap} (hn : h'.Ns c.L fun y => if y = x then some v else lk m y) (hs : Heap.SameBut c.L s.heap h') (tk : Nat) :
    Hs w c m' n { s with heap := h', toks := tk } := by
  obtain ⟨os, N, R⟩ := H.nw
  exact ⟨H.ok, by rw [u.lk H.ky]; exact H.fr.set hn hs, ⟨os, N.set hs, R⟩, H.nd, u.keys ▸ H.ky, H.gens, H.bare, H.os⟩
end
end Mine
end
section
open PySem PySem.W PySem.Calls PyProof.Rows
namespace Mine
section
variable {w : World} {c : Cx} {m : Lo} {n : Nw} {sc : Scope} {x : Str} {pos : Pos}

noncomputable abbrev EnvK (c : Cx) (sc : Scope) : Prop := c.env.scope = sc
theorem EnvK.kind (hE : EnvK c sc) {k : NameKind} (h : sc.names.lookup x = some k) : c.env.kindOf x = some k := by
  unfold Env.kindOf; rw [hE]; exact h
theorem Hs.ns {s : Shared} (H : Hs w c m n s) : s.heap.Ns c.env.locals (lk m) := H.ok.loc ▸ H.fr.ns

/-! names -/
theorem t_nameL {v : Value} {Q : Value → Lo → Nw → Prop} (hE : EnvK c sc) (hk : sc.names.lookup x = some .local) (hl : LAt x (some v) m) (hd : (x == ("__debug__" : Str)) = false) (h : Q v m n) : TT w c m n (eval (.Name x pos) c.env) Q :=
  fun s H E => wpAny_Name (wpAny_loadName_local H.ok.knd (hE.kind hk) H.ns (hl.lk H.ky) ⟨m, n, H, h⟩) hd
theorem t_loadL {v : Value} {Q : Value → Lo → Nw → Prop} (hE : EnvK c sc) (hk : sc.names.lookup x = some .local) (hl : LAt x (some v) m) (h : Q v m n) : TT w c m n (loadName c.env x) Q :=
  fun s H E => wpAny_loadName_local H.ok.knd (hE.kind hk) H.ns (hl.lk H.ky) ⟨m, n, H, h⟩
theorem t_nameK {v : Value} {Q : Value → Lo → Nw → Prop} (hE : EnvK c sc) (hk : sc.names.lookup x = some .globalImplicit) (hv : nsIn (hd.heap_1 w.params) mainGlobals x = some (some v)) (hd : (x == ("__debug__" : Str)) = false) (h : Q v m n) :
    TT w c m n (eval (.Name x pos) c.env) Q := fun s H E => by
  obtain ⟨p, lo, mg, mb, T⟩ := H.ok.T
  exact Name_function_global H.ok.knd (hE.kind hk) (loadGlobal_global (mg := mg) (by rw [H.ok.glo]; exact T.g.keeps H.fr.keep) (mg_of H.ok.X T.g hv) ⟨m, n, H, h⟩) hd
theorem t_nameB {v : Value} {Q : Value → Lo → Nw → Prop} (hE : EnvK c sc) (hk : sc.names.lookup x = some .globalImplicit) (hv : nsIn (hd.heap_1 w.params) mainGlobals x = some none) (hb : bootBuiltins x = some v) (hn : x ≠ "__name__") (hd : (x == ("__debug__" : Str)) = false) (h : Q v m n) :
    TT w c m n (eval (.Name x pos) c.env) Q := fun s H E => by
  obtain ⟨p, lo, mg, mb, T⟩ := H.ok.T
  exact Name_function_global H.ok.knd (hE.kind hk) (loadGlobal_builtin (mg := mg) (mb := mb) (by rw [H.ok.glo]; exact T.g.keeps H.fr.keep) (mg_none_of H.ok.X T.g hv) (by rw [H.ok.bui]; exact T.b.keeps H.fr.keep) ((T.builtins x hn).trans hb) ⟨m, n, H, h⟩) hd
theorem Hs.cell {s : Shared} (H : Hs w c m n s) {a v} (h : (a, OD.cell v) ∈ n) : s.heap.IsCell a v := by
  obtain ⟨o, ho, hs, _⟩ := H.get h; exact ⟨o, ho, hs⟩
theorem t_nameC {v : Value} {a : Addr} {Q : Value → Lo → Nw → Prop} (hE : EnvK c sc) (hk : sc.names.lookup x = some .cell) (hc : c.env.cells.lookup x = some a) (ha : (a, OD.cell (some v)) ∈ n) (hd : (x == ("__debug__" : Str)) = false) (h : Q v m n) :
    TT w c m n (eval (.Name x pos) c.env) Q := fun s H E => wpAny_Name (wpAny_loadName_cell H.ok.knd (hE.kind hk) hc (H.cell ha) ⟨m, n, H, h⟩) hd
theorem t_nameF {v : Value} {a : Addr} {Q : Value → Lo → Nw → Prop} (hE : EnvK c sc) (hk : sc.names.lookup x = some .free) (hc : c.env.cells.lookup x = some a) (ha : (a, OD.cell (some v)) ∈ n) (hd : (x == ("__debug__" : Str)) = false) (hcd : (x == ("__classdict__" : Str)) = false) (h : Q v m n) :
    TT w c m n (eval (.Name x pos) c.env) Q := fun s H E => wpAny_Name (wpAny_loadName_free H.ok.knd (hE.kind hk) hc (H.cell ha) ⟨m, n, H, h⟩ hcd) hd

/-! constants -/
theorem t_int {i k} {Q : Value → Lo → Nw → Prop} (h : ∀ t, Q (.int i t) m n) : TT w c m n (eval (.Constant (.int i) k pos) c.env) Q := fun s H _ => wpAny_Constant_int ⟨m, n, H.toks _, h _⟩
theorem t_str {i k} {Q : Value → Lo → Nw → Prop} (h : ∀ t, Q (.str i t) m n) : TT w c m n (eval (.Constant (.str i) k pos) c.env) Q := fun s H _ => wpAny_Constant_str ⟨m, n, H.toks _, h _⟩
theorem t_none {k} {Q : Value → Lo → Nw → Prop} (h : Q .none m n) : TT w c m n (eval (.Constant .none k pos) c.env) Q := fun s H _ => wpAny_Constant_none ⟨m, n, H, h⟩
theorem t_bool {b k} {Q : Value → Lo → Nw → Prop} (h : Q (.bool b) m n) : TT w c m n (eval (.Constant (.bool b) k pos) c.env) Q := fun s H _ => wpAny_Constant_bool ⟨m, n, H, h⟩

/-! operators and tests -/
theorem t_BinOp {l op r} {Q : Value → Lo → Nw → Prop}
    (h : TT w c m n (eval l c.env) fun a m1 n1 => TT w c m1 n1 (eval r c.env) fun b m2 n2 => TT w c m2 n2 (binaryOp op a b) Q) : TT w c m n (eval (.BinOp l op r pos) c.env) Q :=
  fun s H E => wpAny_BinOp (wpAny_mono (h s H E) (fun _ s1 ⟨_, _, H1, h1⟩ => wpAny_mono (h1 s1 H1 E) (fun _ s2 ⟨_, _, H2, h2⟩ => h2 s2 H2 E) fun _ _ x => x) fun _ _ x => x)
theorem t_Cmp {l op r} {Q : Value → Lo → Nw → Prop}
    (h : TT w c m n (eval l c.env) fun a m1 n1 => TT w c m1 n1 (eval r c.env) fun b m2 n2 => TT w c m2 n2 (compareOp op a b) Q) (hm : behindInMarks op r = false := by with_unfolding_all rfl) : TT w c m n (eval (.Compare l [op] [r] pos) c.env) Q :=
  fun s H E => wpAny_Compare1 (wpAny_mono (h s H E) (fun _ s1 ⟨_, _, H1, h1⟩ => wpAny_mono (h1 s1 H1 E) (fun _ s2 ⟨_, _, H2, h2⟩ => h2 s2 H2 E) fun _ _ x => x) fun _ _ x => x) hm
theorem t_isCmp {l op r whole} {Q : Bool → Lo → Nw → Prop}
    (h : TT w c m n (eval l c.env) fun a m1 n1 => TT w c m1 n1 (eval r c.env) fun b m2 n2 => TT w c m2 n2 (compareOp op a b) fun v m3 n3 => TT w c m3 n3 (truthy v) Q) (hm : behindInMarks op r = false := by with_unfolding_all rfl) :
    TT w c m n (isTrue (.Compare l [op] [r] pos) c.env whole) Q :=
  fun s H E => wpAny_isTrue_Compare1 (wpAny_mono (h s H E) (fun _ s1 ⟨_, _, H1, h1⟩ => wpAny_mono (h1 s1 H1 E) (fun _ s2 ⟨_, _, H2, h2⟩ => wpAny_mono (h2 s2 H2 E) (fun _ s3 ⟨_, _, H3, h3⟩ => h3 s3 H3 E) fun _ _ x => x) fun _ _ x => x) fun _ _ x => x) hm
theorem t_truthyB {b : Bool} {Q : Bool → Lo → Nw → Prop} (h : Q b m n) : TT w c m n (truthy (.bool b)) Q := fun s H _ => wpAny_truthy_bool ⟨m, n, H, h⟩
/-- a test by its value -/
theorem t_isVal {e : Expr} {Q : Bool → Lo → Nw → Prop} (h : TT w c m n (eval e c.env) fun v m1 n1 => TT w c m1 n1 (truthy v) Q)
    (he : isTrue e c.env (eval e c.env) = (do let v ← eval e c.env; standAt e.pos; holding [v] (truthy v)) := by rfl) : TT w c m n (isTrue e c.env (eval e c.env)) Q := by
  rw [he]
  exact t_bind (t_mono h fun _ _ _ h1 => t_bind (t_standAt (t_holding h1)))
theorem t_isNot {e : Expr} {whole} {Q : Bool → Lo → Nw → Prop} (h : TT w c m n (isTrue e c.env (eval e c.env)) fun b m1 n1 => Q (!b) m1 n1) : TT w c m n (isTrue (.UnaryOp .Not e pos) c.env whole) Q := by
  rw [arm_isTrue_UnaryOp]
  exact t_bind (t_mono h fun _ _ _ h1 => t_pure h1)
theorem t_Not {e : Expr} {Q : Value → Lo → Nw → Prop} (h : TT w c m n (eval e c.env) fun v m1 n1 => TT w c m1 n1 (unaryOp .Not v) Q) : TT w c m n (eval (.UnaryOp .Not e pos) c.env) Q := by
  rw [arm_eval_UnaryOp]
  exact t_bind (t_mono h fun _ _ _ h1 => t_bind (t_standAt (t_holding h1)))
theorem t_isBool {op vs whole} {Q : Bool → Lo → Nw → Prop} (h : TT w c m n (allTrue op vs c.env) Q) : TT w c m n (isTrue (.BoolOp op vs pos) c.env whole) Q := by
  rw [arm_isTrue_BoolOp]; exact h
theorem t_allNil {op} {Q : Bool → Lo → Nw → Prop} (h : Q (op == .And) m n) : TT w c m n (allTrue op [] c.env) Q := t_pure h
theorem t_allAnd {e : Expr} {vs} {Q : Bool → Lo → Nw → Prop} (h : TT w c m n (isTrue e c.env (eval e c.env)) fun b m1 n1 => if b then TT w c m1 n1 (allTrue .And vs c.env) Q else Q false m1 n1) : TT w c m n (allTrue .And (e :: vs) c.env) Q := by
  rw [arm_allTrue_cons]
  refine t_bind (t_mono h fun b _ _ h1 => ?_)
  cases b with
  | true => exact h1
  | false => exact t_pure h1
theorem t_allOr {e : Expr} {vs} {Q : Bool → Lo → Nw → Prop} (h : TT w c m n (isTrue e c.env (eval e c.env)) fun b m1 n1 => if b then Q true m1 n1 else TT w c m1 n1 (allTrue .Or vs c.env) Q) : TT w c m n (allTrue .Or (e :: vs) c.env) Q := by
  rw [arm_allTrue_cons]
  refine t_bind (t_mono h fun b _ _ h1 => ?_)
  cases b with
  | true => exact t_pure h1
  | false => exact h1
theorem t_BoolAnd {a b : Expr} {Q : Value → Lo → Nw → Prop} (h : TT w c m n (eval a c.env) fun v m1 n1 => TT w c m1 n1 (truthy v) fun t m2 n2 => if t then TT w c m2 n2 (eval b c.env) Q else Q v m2 n2) : TT w c m n (eval (.BoolOp .And [a, b] pos) c.env) Q := by
  rw [arm_eval_BoolOp]
  show TT w c m n (boolOp pos .And [eval a c.env, eval b c.env]) Q
  refine t_bind (t_mono h fun v _ _ h1 => t_bind (t_standAt (t_bind (t_holding (t_mono h1 fun t _ _ h2 => ?_)))))
  cases t with
  | true => exact h2
  | false => exact t_pure h2
theorem t_IfExp {t b o : Expr} {Q : Value → Lo → Nw → Prop} (h : TT w c m n (isTrue t c.env (eval t c.env)) fun r m1 n1 => if r then TT w c m1 n1 (eval b c.env) Q else TT w c m1 n1 (eval o c.env) Q) : TT w c m n (eval (.IfExp t b o pos) c.env) Q := by
  rw [arm_eval_IfExp]
  refine t_bind (t_mono h fun r _ _ h1 => ?_)
  cases r with
  | true => exact h1
  | false => exact h1

/-! statements -/
theorem t_nil {Q : Flow → Lo → Nw → Prop} (h : Q .next m n) : TT w c m n (execs [] c.env) Q := t_pure h
theorem t_cons {st rest} {Q : Flow → Lo → Nw → Prop} (h : TT w c m n (exec st c.env) fun f m1 n1 => match f with | .next => TT w c m1 n1 (execs rest c.env) Q | f => Q f m1 n1) : TT w c m n (execs (st :: rest) c.env) Q := by
  rw [execs_cons]
  refine t_bind (t_mono h fun f _ _ h1 => ?_)
  cases f <;> first | exact h1 | exact t_pure h1
theorem t_If {test body orelse} {Q : Flow → Lo → Nw → Prop} (h : TT w c m n (isTrue test c.env (eval test c.env)) fun b m1 n1 => if b then TT w c m1 n1 (execs body c.env) Q else TT w c m1 n1 (execs orelse c.env) Q) : TT w c m n (exec (.If test body orelse pos) c.env) Q := by
  rw [exec_If]
  refine t_bind (t_standAt (t_bind (t_mono h fun b _ _ h1 => ?_)))
  cases b with
  | true => exact h1
  | false => exact h1
theorem t_Ret {e} {Q : Flow → Lo → Nw → Prop} (h : TT w c m n (eval e c.env) fun v => Q (.ret v)) : TT w c m n (exec (.Return (some e) pos) c.env) Q := by
  rw [exec_Return_some]
  exact t_bind (t_standAt (t_bind (t_mono h fun _ _ _ h1 => t_pure h1)))
theorem t_Brk {Q : Flow → Lo → Nw → Prop} (h : Q .brk m n) : TT w c m n (exec (.Break pos) c.env) Q := t_bind (t_standAt (t_pure h))
theorem t_Cont {Q : Flow → Lo → Nw → Prop} (h : Q .cont m n) : TT w c m n (exec (.Continue pos) c.env) Q := t_bind (t_standAt (t_pure h))
theorem t_storeL {v : Value} {m'} {Q : Unit → Lo → Nw → Prop} (hE : EnvK c sc) (hk : sc.names.lookup x = some .local) (hl : LUp x (some v) m m') (h : Q () m' n) : TT w c m n (storeName c.env x v) Q :=
  fun s H E => wpAny_storeName_local (hE.kind hk) H.ns (fun h' hn hs => by rw [H.ok.loc] at hn hs; exact ⟨m', n, H.store hl hn hs _, h⟩) (by rw [H.ok.knd]; rfl)
theorem t_storeC {v : Value} {v₀ a n'} {Q : Unit → Lo → Nw → Prop} (hE : EnvK c sc) (hk : sc.names.lookup x = some .cell) (hc : c.env.cells.lookup x = some a) (hu : Up a (.cell v₀) (.cell (some v)) n n') (h : Q () m n') : TT w c m n (storeName c.env x v) Q :=
  fun s H E => wpAny_storeName_cell H.ok.knd (hE.kind hk) hc (H.cell hu.mem) fun h' ⟨o, ho, hd⟩ hs => ⟨m, n', H.up hu hs ho hd _, h⟩
theorem t_bindName {v : Value} {Q : Unit → Lo → Nw → Prop} (h : TT w c m n (storeName c.env x v) Q) : TT w c m n (bindName c.env x v) Q := fun s H E => wpAny_bindName (h s H E)
theorem t_Assign {e p'} {Q : Flow → Lo → Nw → Prop} (hs : swapsWith e (some (.Name x p')) pos.line c.env = pure false) (h : TT w c m n (eval e c.env) fun v m1 n1 => TT w c m1 n1 (storeName c.env x v) fun _ m2 n2 => Q .next m2 n2) : TT w c m n (exec (.Assign [.Name x p'] e pos) c.env) Q := by
  rw [exec_Assign_Name c.env x p' e pos hs]
  exact t_bind (t_standAt (t_bind (t_mono h fun v _ _ h1 => t_bind (t_standAt (t_bind (t_bindName (t_mono h1 fun _ _ _ h2 => t_pure h2)))))))
theorem t_operate {vs : List Value} {t : Sem Value} {Q : Value → Lo → Nw → Prop} (h : TT w c m n t Q) : TT w c m n (operate vs t) Q := fun s H E Γ p hΓ => by
  rw [Sem.wp_operate]; exact h s H E Γ p hΓ
theorem t_release {vs keep : List Value} {Q : Unit → Lo → Nw → Prop} (h : Q () m n) : TT w c m n (release vs keep) Q := fun s H E Γ p hΓ => by
  rw [Sem.wp_release]; exact ⟨m, n, H, h⟩
theorem t_Aug {op e p'} {Q : Flow → Lo → Nw → Prop} (h : TT w c m n (loadName c.env x) fun old m1 n1 => TT w c m1 n1 (eval e c.env) fun v m2 n2 => TT w c m2 n2 (inplaceOp op old v) fun r m3 n3 => TT w c m3 n3 (storeName c.env x r) fun _ m4 n4 => Q .next m4 n4) :
    TT w c m n (exec (.AugAssign (.Name x p') op e pos) c.env) Q := by
  rw [exec_AugAssign_Name]
  exact t_bind (t_standAt (t_bind (t_mono h fun _ _ _ h1 => t_bind (t_holding (t_mono h1 fun _ _ _ h2 => t_bind (t_standAt (t_bind (t_operate (t_mono h2 fun _ _ _ h3 => t_bind (t_standAt (t_bind (t_bindName (t_mono h3 fun _ _ _ h4 => t_pure h4)))))))))))))
theorem t_Expr {e} {Q : Flow → Lo → Nw → Prop} (hs : swapsWith e none pos.line c.env = pure false) (h : TT w c m n (eval e c.env) fun v m1 n1 => (∀ a, v ≠ .ref a) ∧ Q .next m1 n1) : TT w c m n (exec (.Expr e pos) c.env) Q := by
  refine t_of_ok fun ok => ?_
  have hi : interactive c.env = false := by unfold interactive; rw [ok.knd]; rfl
  rw [exec_Expr c.env e pos hi hs]
  refine t_bind (t_standAt (t_bind (t_mono h fun v _ _ h1 => ?_)))
  rw [dropValue_plain h1.1]; exact t_pure h1.2

/-! loops -/
noncomputable def CT (w : World) (c : Cx) (m : Lo) (n : Nw) (k : Code) (Q : Flow → Lo → Nw → Prop) : Prop :=
  ∀ s, Hs w c m n s → ∀ R : Result → Shared → Prop, (∀ f m' n' s', Hs w c m' n' s' → Q f m' n' → R (.ok f) s') → codeAny (model PG w) c.A k R s
theorem t_runOwn {k : Code} {Q : Flow → Lo → Nw → Prop} (h : CT w c m n k Q) : TT w c m n (runOwn k c.env) Q :=
  fun s H E => wpAny_runOwn (h s H _ fun f m' n' s' H' hq => ⟨m', n', H', hq⟩)
theorem t_For {target iter body orelse} {Q : Flow → Lo → Nw → Prop} (hs : ∀ x, foldedSetIterable iter c.env x = pure x)
    (h : TT w c m n (eval iter c.env) fun x m1 n1 => TT w c m1 n1 (pyIter x) fun it m2 n2 => CT w c m2 n2 (.forLoop target it body orelse c.env) Q) : TT w c m n (exec (.For target iter body orelse pos) c.env) Q := by
  rw [exec_For]
  refine t_bind (t_standAt (t_bind (t_mono h fun x _ _ h1 => ?_)))
  rw [hs]
  exact t_bind (t_pure (t_bind (t_standAt (t_bind (t_holding (t_mono h1 fun it _ _ h2 => t_runOwn h2))))))
theorem t_While {test body orelse} {Q : Flow → Lo → Nw → Prop} (h : CT w c m n (.whileLoop test body orelse c.env) Q) : TT w c m n (exec (.While test body orelse pos) c.env) Q := by
  rw [exec_While]; exact t_bind (t_standAt (t_runOwn h))
theorem ct_for {target it body orelse} {Q : Flow → Lo → Nw → Prop} (I : Nat → Lo → Nw → Prop)
    (turn : ∀ k m n, I k m n → TT w c m n (pyNext it) fun r m1 n1 => match r with
      | none => TT w c m1 n1 (execs orelse c.env) Q
      | some v => TT w c m1 n1 (letOwnedTupleGo target it v) fun _ m1' n1' => TT w c m1' n1' (assign target c.env v) fun _ m2 n2 => TT w c m2 n2 (execs body c.env) fun f m3 n3 => match f with
        | .next | .cont => ∃ k', k' < k ∧ I k' m3 n3
        | .brk => Q .next m3 n3
        | .ret v => Q (.ret v) m3 n3)
    (k : Nat) (h : I k m n) : CT w c m n (.forLoop target it body orelse c.env) Q := by
  intro s H R hR
  refine codeAny_forLoop_any (fun k s => ∃ m n, I k m n ∧ Hs w c m n s) ?_ k ⟨m, n, h, H⟩
  rintro k s ⟨m, n, hI, H⟩
  refine wpAny_mono (turn k m n hI s H _) ?_ fun _ _ e => e
  rintro r s1 ⟨m1, n1, H1, h1⟩
  cases r with
  | none => exact wpAny_mono (h1 s1 H1 _) (fun f s3 ⟨m3, n3, H3, h3⟩ => hR f m3 n3 s3 H3 h3) fun _ _ e => e
  | some v =>
    refine wpAny_mono (h1 s1 H1 _) (fun _ s1' ⟨_, _, H1', h1'⟩ => wpAny_mono (h1' s1' H1' _) (fun _ s2 ⟨_, _, H2, h2⟩ => wpAny_mono (h2 s2 H2 _) (fun f s3 ⟨m3, n3, H3, h3⟩ => ?_) fun _ _ e => e) fun _ _ e => e) fun _ _ e => e
    cases f with
    | next => obtain ⟨k', hk, hI'⟩ := h3; exact ⟨k', hk, m3, n3, hI', H3⟩
    | cont => obtain ⟨k', hk, hI'⟩ := h3; exact ⟨k', hk, m3, n3, hI', H3⟩
    | brk => exact hR _ m3 n3 s3 H3 h3
    | ret v => exact hR _ m3 n3 s3 H3 h3
theorem ct_while {test body orelse} {Q : Flow → Lo → Nw → Prop} (I : Nat → Lo → Nw → Prop)
    (turn : ∀ k m n, I k m n → TT w c m n (isTrue test c.env (eval test c.env)) fun b m1 n1 =>
      if b then TT w c m1 n1 (execs body c.env) fun f m3 n3 => match f with
        | .next | .cont => ∃ k', k' < k ∧ I k' m3 n3
        | .brk => Q .next m3 n3
        | .ret v => Q (.ret v) m3 n3
      else TT w c m1 n1 (execs orelse c.env) Q)
    (k : Nat) (h : I k m n) : CT w c m n (.whileLoop test body orelse c.env) Q := by
  intro s H R hR
  refine codeAny_whileLoop (fun k s => ∃ m n, I k m n ∧ Hs w c m n s) ?_ k ⟨m, n, h, H⟩
  rintro k s ⟨m, n, hI, H⟩
  refine wpAny_mono (turn k m n hI s H _) ?_ fun _ _ e => e
  rintro b s1 ⟨m1, n1, H1, h1⟩
  cases b with
  | false => exact wpAny_mono (h1 s1 H1 _) (fun f s3 ⟨m3, n3, H3, h3⟩ => hR f m3 n3 s3 H3 h3) fun _ _ e => e
  | true =>
    refine wpAny_mono (h1 s1 H1 _) (fun f s3 ⟨m3, n3, H3, h3⟩ => ?_) fun _ _ e => e
    cases f with
    | next => obtain ⟨k', hk, hI'⟩ := h3; exact ⟨k', hk, m3, n3, hI', H3⟩
    | cont => obtain ⟨k', hk, hI'⟩ := h3; exact ⟨k', hk, m3, n3, hI', H3⟩
    | brk => exact hR _ m3 n3 s3 H3 h3
    | ret v => exact hR _ m3 n3 s3 H3 h3
theorem t_asgName {p' v} {Q : Unit → Lo → Nw → Prop} (h : TT w c m n (storeName c.env x v) Q) : TT w c m n (assign (.Name x p') c.env v) Q := by
  rw [PySem.assign_Name]; exact t_bind (t_standAt (t_bindName h))

/-! arguments and calls -/
theorem t_argNil {Q : List Value → Lo → Nw → Prop} (h : Q [] m n) : TT w c m n (spliced (backTo pos (starEach [] c.env))) Q := fun s H E => args_nil ⟨m, n, H, h⟩
theorem t_argCons {e : Expr} {rest : List Expr} {Q : List Value → Lo → Nw → Prop} (he : starEach (e :: rest) c.env = (false, eval e c.env) :: starEach rest c.env)
    (h : TT w c m n (eval e c.env) fun v m1 n1 => TT w c m1 n1 (spliced (backTo pos (starEach rest c.env))) fun vs m2 n2 => Q (v :: vs) m2 n2) : TT w c m n (spliced (backTo pos (starEach (e :: rest) c.env))) Q :=
  fun s H E => args_cons (wpAny_mono (h s H E) (fun v s1 ⟨_, _, H1, h1⟩ => h1 s1 H1 E) fun _ _ x => x) he
end
end Mine
end
section
open PySem PySem.W PySem.Calls PyProof.Rows
namespace Mine

theorem mkNews {h₀ h : Heap} {L : Addr} : ∀ {n : Nw}, (∀ a d, (a, d) ∈ n → ∃ o, h.get? a = some o ∧ Sat d o ∧ a ≠ L ∧ h₀.get? a = none) → ∃ os, News h₀ L h os ∧ Rel n os
  | [], _ => ⟨[], News.nil, Rel.nil⟩
  | (a, d) :: n, H => by
    obtain ⟨os, N, R⟩ := mkNews (n := n) fun a' d' h' => H a' d' (List.mem_cons_of_mem _ h')
    obtain ⟨o, h1, h2, h3, h4⟩ := H a d List.mem_cons_self
    refine ⟨(a, o) :: os, fun p hp => ?_, .cons h2 R⟩
    rcases List.mem_cons.mp hp with rfl | hp
    · exact ⟨h1, h3, h4⟩
    · exact N p hp

inductive Sub : Nw → Nw → Nw → Nw → Prop
  | nil {n} : Sub [] [] n n
  | cons {a d d' r r' n n1 n'} : Up a d d' n n1 → Sub r r' n1 n' → Sub ((a, d) :: r) ((a, d') :: r') n n'
theorem Up.back {a d d'} {n n' : Nw} (u : Up a d d' n n') : (n.map (·.1)).Nodup → ∀ {b e}, (b, e) ∈ n' → (b = a ∧ e = d') ∨ ((b, e) ∈ n ∧ b ≠ a) := by
  induction u with
  | @head r =>
    intro nd b e h
    rcases List.mem_cons.mp h with q | h
    · cases q; exact .inl ⟨rfl, rfl⟩
    · refine .inr ⟨List.mem_cons_of_mem _ h, fun q => ?_⟩
      exact (List.nodup_cons.mp nd).1 (q ▸ List.mem_map_of_mem (f := (·.1)) h)
  | @tail p r r' u ih =>
    intro nd b e h
    rcases List.mem_cons.mp h with q | h
    · cases q
      refine .inr ⟨List.mem_cons_self, fun q => ?_⟩
      have z : a ∈ r.map (·.1) := List.mem_map_of_mem (f := (·.1)) u.mem
      exact (List.nodup_cons.mp nd).1 (q ▸ z)
    · rcases ih (List.nodup_cons.mp nd).2 h with q | ⟨q, q'⟩
      · exact .inl q
      · exact .inr ⟨List.mem_cons_of_mem _ q, q'⟩
theorem Sub.keys {r r' n n' : Nw} (u : Sub r r' n n') : n'.map (·.1) = n.map (·.1) := by
  induction u with
  | nil => rfl
  | cons u _ ih => exact ih.trans u.keys
theorem Sub.keys' {r r' n n' : Nw} (u : Sub r r' n n') : r'.map (·.1) = r.map (·.1) := by
  induction u with
  | nil => rfl
  | cons u _ ih => simp [ih]
theorem Sub.back {r r' n n' : Nw} (u : Sub r r' n n') : (n.map (·.1)).Nodup → ∀ {b e}, (b, e) ∈ n' → (b, e) ∈ r' ∨ ((b, e) ∈ n ∧ b ∉ r.map (·.1)) := by
  induction u with
  | nil => intro _ b e h; exact .inr ⟨h, List.not_mem_nil⟩
  | @cons a d d' r r' n n1 n' up _ ih =>
    intro nd b e h
    rcases ih (up.keys ▸ nd) h with q | ⟨q, q'⟩
    · exact .inl (List.mem_cons_of_mem _ q)
    · rcases up.back nd q with ⟨q1, q2⟩ | ⟨q1, q2⟩
      · subst q1 q2; exact .inl List.mem_cons_self
      · refine .inr ⟨q1, fun z => ?_⟩
        rcases List.mem_cons.mp z with z | z
        · exact q2 z
        · exact q' z
/-- the part that is handed on -/
noncomputable def Part (r n : Nw) : Prop := ∀ p ∈ r, p ∈ n

/-- what a call of a def comes to -/
noncomputable def CallT (w : World) (r : Nat) (f : Addr) (args : List Value) (n1 : Nw) (Q : Value → Nw → Nw → Prop) : Prop :=
  ∀ c m n s, Hs w c m n s → Part n1 n → (n1.map (·.1)).Nodup → r ≤ c.r → ∀ R : Result → Shared → Prop,
    (∀ v new n1' s', Q v new n1' → (∀ n', Sub n1 n1' n n' → Hs w c m (new ++ n') s') → R (.ok (.ret v)) s') → codeAny (model PG w) c.A (.call (.ref f) ⟨args, []⟩) R s

section
variable {w : World} {c : Cx} {m : Lo} {n : Nw}
theorem t_call {f : Addr} {args : List Value} {r : Nat} {n1 : Nw} {Q : Value → Nw → Nw → Prop} {Q' : Value → Lo → Nw → Prop} (hC : CallT w r f args n1 Q) (hr : r ≤ c.r) (hp : Part n1 n) (hnd : (n.map (·.1)).Nodup → (n1.map (·.1)).Nodup)
    (h : ∀ v new n1', Q v new n1' → ∃ n', Sub n1 n1' n n' ∧ Q' v m (new ++ n')) : TT w c m n (call (.ref f) args) Q' :=
  fun s H E => wpAny_call (hC c m n s H hp (hnd H.nd) hr _ fun v new n1' s' hq hs => by
    obtain ⟨n', hu, hq'⟩ := h v new n1' hq
    exact ⟨m, new ++ n', hs n' hu, hq'⟩)

theorem hide_new (h : Heap) (l : List Addr) : (hideAll h l).get? h.objs.size = none := by
  cases q : (hideAll h l).get? h.objs.size with
  | none => rfl
  | some o => exact absurd (Heap.lt_size (of_hideAll l q)) (Nat.lt_irrefl _)
theorem hide_keep {s : Shared} {n1 : Nw} (H : Hs w c m n s) (hp : Part n1 n) : ∀ b o, c.h₀.get? b = some o → (hideAll s.heap (n1.map (·.1))).get? b = some o := fun b o e => by
  refine hideAll_get _ (H.fr.keep b o e) fun q => ?_
  obtain ⟨⟨a, d⟩, hm, rfl⟩ := List.mem_map.mp q
  obtain ⟨_, _, _, _, z⟩ := H.get (hp _ hm)
  rw [z] at e; cases e
/-- back at the caller -/
theorem Hs.back {s s' : Shared} {n1 n1' new n' : Nw} {c' : Cx} {m' : Lo} (H : Hs w c m n s) (hp : Part n1 n) (h0 : c'.h₀ = hideAll s.heap (n1.map (·.1))) (hg : c'.gs = s.gens) (ho : c'.os = c.os) (H' : Hs w c' m' (new ++ n1') s') (u : Sub n1 n1' n n') : Hs w c m (new ++ n') s' := by
  have st := hide_keep H hp
  obtain ⟨oL, es, ep, hL, hLd, hLk, hLf⟩ := H.fr.ns
  have keep' : ∀ b o, s.heap.get? b = some o → b ∉ n1.map (·.1) → s'.heap.get? b = some o := fun b o e q => H'.fr.keep b o (by rw [h0]; exact hideAll_get _ e q)
  have nL : c.L ∉ n1.map (·.1) := fun q => by
    obtain ⟨⟨a, d⟩, hm, e⟩ := List.mem_map.mp q
    obtain ⟨_, _, _, z, _⟩ := H.get (hp _ hm)
    exact z e
  refine ⟨H.ok, ⟨⟨oL, es, ep, keep' _ _ hL nL, hLd, hLk, hLf⟩, fun b o e => H'.fr.keep b o (by rw [h0]; exact st b o e), H.fr.above⟩, mkNews fun a d hm => ?_, ?_, H.ky, fun i x e => H'.gens i x (by rw [hg]; exact H.gens i x e), H'.bare, H'.os.trans ho⟩
  · have back : ∀ {a d}, (a, d) ∈ new ++ n1' → ∃ o, s'.heap.get? a = some o ∧ Sat d o ∧ a ≠ c.L ∧ c.h₀.get? a = none := fun {a d} hm => by
      obtain ⟨o, h1, h2, h3, h4⟩ := H'.get hm
      rw [h0] at h4
      refine ⟨o, h1, h2, fun q => ?_, ?_⟩
      · rw [q, hideAll_get _ hL nL] at h4; cases h4
      · cases q : c.h₀.get? a with
        | none => rfl
        | some o' => rw [st _ _ q] at h4; cases h4
    rcases List.mem_append.mp hm with hm | hm
    · exact back (List.mem_append_left _ hm)
    · rcases u.back H.nd hm with hm | ⟨hm, hn⟩
      · exact back (List.mem_append_right _ hm)
      · obtain ⟨o, h1, h2, h3, h4⟩ := H.get hm
        exact ⟨o, keep' _ _ h1 hn, h2, h3, h4⟩
  · have nd' := H'.nd
    rw [List.map_append, List.nodup_append] at nd' ⊢
    refine ⟨nd'.1, u.keys ▸ H.nd, fun a ha b hb e => ?_⟩
    subst e
    rw [u.keys] at hb
    by_cases q : a ∈ n1.map (·.1)
    · exact nd'.2.2 a ha a (u.keys' ▸ q) rfl
    · obtain ⟨⟨a', d⟩, hm, rfl⟩ := List.mem_map.mp hb
      obtain ⟨o, h1, _⟩ := H.get hm
      obtain ⟨⟨a'', d'⟩, hm', e⟩ := List.mem_map.mp ha
      obtain ⟨_, _, _, _, z⟩ := H'.get (List.mem_append_left _ hm')
      have e' : a'' = a' := e
      rw [e', h0, hideAll_get _ h1 q] at z; cases z

theorem lk_some (l : List (Str × Value)) (ns : List Str) (y : Str) : lk (l.map (fun p => (p.1, some p.2)) ++ ns.map (·, none)) y = l.lookup y := by
  unfold lk
  induction l with
  | nil =>
    simp only [List.map_nil, List.nil_append, List.lookup_nil]
    induction ns with
    | nil => rfl
    | cons k r ih => rw [List.map_cons, List.lookup_cons]; cases y == k <;> simp_all
  | cons p l ih =>
    obtain ⟨k, v⟩ := p
    simp only [List.map_cons, List.cons_append, List.lookup_cons]
    cases y == k <;> simp_all
theorem lookup_rev {l : List (Str × Value)} (nd : (l.map (·.1)).Nodup) (y : Str) : l.reverse.lookup y = l.lookup y := by
  induction l with
  | nil => rfl
  | cons p l ih =>
    obtain ⟨k, v⟩ := p
    obtain ⟨h1, h2⟩ := List.nodup_cons.mp nd
    rw [List.reverse_cons, List.lookup_append, ih h2, List.lookup_cons]
    cases q : y == k with
    | false => simp [List.lookup_cons, q]
    | true =>
      have e := beq_iff_eq.mp q
      subst e
      have : l.lookup y = none := by
        cases z : l.lookup y with
        | none => rfl
        | some u => exact absurd (List.mem_map_of_mem (f := (·.1)) (mem_of_lookup z)) h1
      simp [this, List.lookup_cons]

noncomputable def retv : Flow → Value
  | .ret v => v
  | _ => .none

noncomputable def lo0 (ps : List Str) (args : List Value) (ns : List Str) : Lo := (ps.zip args).map (fun p => (p.1, some p.2)) ++ ns.map (·, none)
theorem zip_keys {ps : List Str} {args : List Value} (h : ps.length = args.length) : (ps.zip args).map (·.1) = ps := by
  induction ps generalizing args with
  | nil => rfl
  | cons p r ih => cases args with
    | nil => cases h
    | cons v vs => simp only [List.zip_cons_cons, List.map_cons]; rw [ih (by simpa using h)]

/-- a def of the text, entered -/
theorem callT_def {r : Nat} {f : Addr} {args : List Value} {n1 : Nw} {Q : Value → Nw → Nw → Prop} {name qual : Str} {params : Arguments} {body : List Stmt} {scope : Scope} {dV kV doc pm cdv ct oc : Value} {an od : Option Addr} {osl : Array (Option Value)}
    (ho : (hd.heap_1 w.params).lookup f = some ⟨oc, od, .func (fnOf name qual params body scope dV kV doc pm an cdv ct), osl⟩) (hcd : codeIn (hd.heap_1 w.params) cdv qual = true)
    (ps ns : List Str) (m₀ : Lo) (hm : m₀ = lo0 ps args ns) (hln : ps.length = args.length)
    (hbind : bindArgs (fnOf name qual params body scope dV kV doc pm an cdv ct) ⟨args, []⟩ = pure (ps.zip args)) (hloc : (ps.all fun x => decide (scope.names.lookup x = some .local)) = true) (hcell : (scope.names.all fun x => x.2 != .cell) = true) (hky : (ps ++ ns).Nodup)
    (hco : scope.isCoroutine = false) (hgen : scope.isGenerator = false) (hk : scope.kind = .function)
    (h : ∀ c', EnvK c' scope → r ≤ c'.r → c'.gen = false → TT w c' m₀ n1 (execs body c'.env) fun fl _ n2 => ∃ new n1', (new ++ n1').Sublist n2 ∧ Q (retv fl) new n1') : CallT w (r + 1) f args n1 Q := by
  subst hm
  unfold lo0 at h
  have hky : ((ps.zip args).map (·.1) ++ ns).Nodup := by rw [zip_keys hln]; exact hky
  have hloc : ((ps.zip args).all fun x => decide (scope.names.lookup x.1 = some .local)) = true := by
    rw [List.all_eq_true] at hloc ⊢
    intro x hx
    exact hloc x.1 (List.of_mem_zip hx).1
  have hcell : ∀ x ∈ scope.names, x.2 ≠ .cell := fun x hx => by simpa using List.all_eq_true.mp hcell x hx
  generalize ps.zip args = binds at *
  intro c m n s H hp hnd hr R hR
  obtain ⟨p, lo, mg, mb, T⟩ := H.ok.T
  have hdep : c.A.depth < recursionLimit := by have := H.ok.dep; show c.A.depth < 1000; omega
  refine codeAny_call_def (fd := fnOf name qual params body scope dV kV doc pm an cdv ct) (body := body) (binds := binds) hdep (H.X _ _ ho) rfl (T.nolimit.keeps H.fr.keep) (codeRec_of H.X hcd) rfl (BindsTo.of_eq hbind) hcell (locs hloc) (fun h₁ hns hk₁ => ?_) hco hgen hk
  have st := hide_keep H hp
  let env' := callEnv (fnOf name qual params body scope dV kV doc pm an cdv ct) s.heap.objs.size f
  let c' : Cx := ⟨hideAll s.heap (n1.map (·.1)), c.A.deeper env', s.heap.objs.size, env', s.gens, c.os, c.r - 1, false⟩
  have K1 : ((binds.map (fun p => (p.1, some p.2)) ++ ns.map (·, none) : Lo).map (·.1)) = binds.map (·.1) ++ ns := by simp [List.map_append, List.map_map, Function.comp_def]
  have ok' : Ok w c' := ⟨H.ok.X.keeps st, ⟨p, lo, mg, mb, T.keeps st⟩, H.ok.hh, H.ok.S.keeps st, (fun _ => by
      obtain ⟨l, hl⟩ := H.ok.frm
      exact ⟨env', l, by show c.A.frames.map _ = _; rw [hl]; rfl, hgen, hco, rfl, rfl⟩), (by
      obtain ⟨l, hl⟩ := H.ok.frm
      exact ⟨env' :: l, by show c.A.frames.map _ = _; rw [hl]; rfl⟩), (by
      have := H.ok.dep; show (c.A.depth + 1) + 10 * (c.r - 1) ≤ 800; omega), (by have := H.ok.uni; show (c.A.units + 3) + 100 * (c.r - 1) ≤ 9000; omega), rfl, rfl, rfl, hk⟩
  have H1 : Hs w c' (binds.map (fun p => (p.1, some p.2)) ++ ns.map (·, none)) n1 { s with heap := h₁, toks := s.toks + binds.length } := by
    refine ⟨ok', ⟨?_, fun b o e => hk₁ b o (of_hideAll _ e), hide_new _ _⟩, mkNews fun a d hm => ?_, hnd, by rw [K1]; exact hky, fun i x e => e, H.bare, H.os⟩
    · have : lk (binds.map (fun p => (p.1, some p.2)) ++ ns.map (·, none)) = fun x => binds.reverse.lookup x := by
        funext y; rw [lk_some, lookup_rev (List.nodup_append.mp hky).1]
      rw [this]; exact hns
    · obtain ⟨o, h1, h2, h3, h4⟩ := H.get (hp _ hm)
      exact ⟨o, hk₁ _ _ h1, h2, Nat.ne_of_lt (Heap.lt_size h1), hideAll_none _ (List.mem_map_of_mem (f := (·.1)) hm)⟩
  refine wpAny_mono (h c' rfl (by show r ≤ c.r - 1; omega) rfl _ H1 _) ?_ fun _ _ x => x
  rintro fl s' ⟨m', n2, H2, new, n1', hsub, hq⟩
  have H2 : Hs w c' m' (new ++ n1') s' := ⟨H2.ok, H2.fr, mkNews fun a d hm => H2.get (hsub.subset hm), (hsub.map _).nodup H2.nd, H2.ky, H2.gens, H2.bare, H2.os⟩
  have key := hR _ new n1' s' hq fun n' u => Hs.back (c' := c') H hp rfl rfl rfl H2 u
  cases fl <;> exact key
end
end Mine
end
section
open PySem PySem.W PySem.Calls PyProof.Rows
namespace Mine
section
variable {w : World} {c : Cx} {m : Lo} {n : Nw} {sc : Scope} {x : Str} {pos : Pos}

/-! calls -/
theorem t_Call {func es} {Q : Value → Lo → Nw → Prop} (he : eval (.Call func es [] pos) c.env = (do callWith pos (← eval func c.env) [] (backTo pos (starEach es c.env)) (backToKw pos (keywordEach [] c.env))))
    (h : TT w c m n (eval func c.env) fun f m1 n1 => TT w c m1 n1 (callWith pos f [] (backTo pos (starEach es c.env)) []) Q) : TT w c m n (eval (.Call func es [] pos) c.env) Q := by
  rw [he]; exact t_bind h
theorem t_cwB {id first e rest} {Q : Value → Lo → Nw → Prop} (he : starEach (e :: rest) c.env = (false, eval e c.env) :: starEach rest c.env) (hp : (backTo pos (starEach rest c.env)).any (·.1) = false)
    (h : TT w c m n (spliced (backTo pos (starEach (e :: rest) c.env))) fun vs m1 n1 => TT w c m1 n1 (call (.builtin id) (first ++ vs)) Q) : TT w c m n (callWith pos (.builtin id) first (backTo pos (starEach (e :: rest) c.env)) []) Q := fun s H E => by
  rw [he] at h ⊢
  exact callWith_builtin (by show (false || (backTo pos (starEach rest c.env)).any (·.1)) = false; rw [hp]; rfl) (evalArgs_plain (wpAny_mono (h s H E) (fun vs s1 ⟨_, _, H1, h1⟩ => h1 s1 H1 E) fun _ _ x => x))
theorem t_cwT {id first e rest} {Q : Value → Lo → Nw → Prop} (he : starEach (e :: rest) c.env = (false, eval e c.env) :: starEach rest c.env) (hp : (backTo pos (starEach rest c.env)).any (·.1) = false)
    (h : TT w c m n (spliced (backTo pos (starEach (e :: rest) c.env))) fun vs m1 n1 => TT w c m1 n1 (call (.type id) (first ++ vs)) Q) : TT w c m n (callWith pos (.type id) first (backTo pos (starEach (e :: rest) c.env)) []) Q := fun s H E => by
  rw [he] at h ⊢
  exact PyProof.Rows.callWith_type (by show (false || (backTo pos (starEach rest c.env)).any (·.1)) = false; rw [hp]; rfl) (evalArgs_plain (wpAny_mono (h s H E) (fun vs s1 ⟨_, _, H1, h1⟩ => h1 s1 H1 E) fun _ _ x => x))
/-- a function or a class of the text -/
theorem t_cwK {f first e rest} {Q : Value → Lo → Nw → Prop} (hk : keepIn (hd.heap_1 w.params) f = true) (he : starEach (e :: rest) c.env = (false, eval e c.env) :: starEach rest c.env) (hp : (backTo pos (starEach rest c.env)).any (·.1) = false)
    (h : TT w c m n (spliced (backTo pos (starEach (e :: rest) c.env))) fun vs m1 n1 => TT w c m1 n1 (call f (first ++ vs)) Q) : TT w c m n (callWith pos f first (backTo pos (starEach (e :: rest) c.env)) []) Q := fun s H E => by
  rw [he] at h ⊢
  exact callWith_of (by show ((false || (backTo pos (starEach rest c.env)).any (·.1)) || false) = false; rw [hp]; rfl) (keeps_K hk) (evalArgs_plain (wpAny_mono (h s H E) (fun vs s1 ⟨_, _, H1, h1⟩ => ⟨H1.X, h1 s1 H1 E⟩) fun _ _ x => x))
theorem t_cwK0 {f first} {Q : Value → Lo → Nw → Prop} (hk : keepIn (hd.heap_1 w.params) f = true) (h : TT w c m n (call f (first ++ [])) Q) : TT w c m n (callWith pos f first (backTo pos (starEach [] c.env)) []) Q := fun s H E =>
  callWith_of rfl (keeps_K hk) (evalArgs_nil3 ⟨H.X, h s H E⟩)
theorem t_Meth {o name apos args} {Q : Value → Lo → Nw → Prop} (hbase : attributeBase o name c.env (eval o c.env) = eval o c.env)
    (hfew : methodCallForm (args.length + ([] : List Keyword).length) (backTo pos (starEach args c.env)) (backToKw pos (keywordEach [] c.env)) = true) (hline : (apos.endLine == pos.line) = true)
    (h : TT w c m n (eval o c.env) fun ov m1 n1 => ∀ pl, TT w c m1 n1 (getMethod ov name pl) fun p m2 n2 => TT w c m2 n2 (callWith pos p.1 p.2 (backTo pos (starEach args c.env)) []) Q) :
    TT w c m n (eval (.Call (.Attribute o name apos) args [] pos) c.env) Q := by
  rw [arm_eval_Call, hbase]
  refine t_bind (t_mono h fun ov _ _ h1 => t_bind (t_standAt ?_))
  have hpos : methodCallPos true o c.env apos pos = pure pos := by unfold methodCallPos; simp [hline]
  unfold methodCall
  rw [hfew]
  refine t_bind (t_holding ?_)
  show TT w c _ _ (getMethod ov name _) _
  refine t_mono (h1 _) fun p _ _ h2 => ?_
  rw [hpos]
  exact t_bind (t_pure h2)
theorem Hs.list {s : Shared} (H : Hs w c m n s) {a vs} (h : (a, OD.list vs) ∈ n) : s.heap.IsList a vs.toArray := by
  obtain ⟨o, ho, ⟨k, rfl⟩, _⟩ := H.get h; exact ⟨_, ho, rfl, k, rfl⟩
theorem Hs.tupl {s : Shared} (H : Hs w c m n s) {a vs} (h : (a, OD.tup vs) ∈ n) : IsTup s.heap a vs.toArray := by
  obtain ⟨o, ho, ⟨k, rfl⟩, _⟩ := H.get h; exact ⟨_, ho, rfl, k, rfl⟩
theorem t_gmList {a vs name id} {Q : Value × List Value → Lo → Nw → Prop} (ha : (a, OD.list vs) ∈ n) (slot : Slot "list" name id) (hty : typeOf (.builtin id) = pure (.type "method_descriptor")) (h : Q (.builtin id, [.ref a]) m n) :
    ∀ pl, TT w c m n (getMethod (.ref a) name pl) Q := fun pl s H E => by
  obtain ⟨o, ho, ⟨k, rfl⟩, _⟩ := H.get ha
  exact getMethod_builtin (H.list ha).typeIs PySem.F.plainAttrs_list slot hty (fun b e => by cases e; exact ⟨_, ho, rfl⟩) ⟨m, n, H, h⟩
theorem t_gmStr {y t name id} {Q : Value × List Value → Lo → Nw → Prop} (slot : Slot "str" name id) (hty : typeOf (.builtin id) = pure (.type "method_descriptor")) (h : Q (.builtin id, [.str y t]) m n) :
    ∀ pl, TT w c m n (getMethod (.str y t) name pl) Q := fun pl s H E =>
  getMethod_builtin (typeIs_str s y t) PySem.F.plainAttrs_str slot hty (fun b e => by cases e) ⟨m, n, H, h⟩

/-! arithmetic -/
theorem t_addI {a b t u} {Q : Value → Lo → Nw → Prop} (h : ∀ t', Q (.int (a + b) t') m n) : TT w c m n (binaryOp .Add (.int a t) (.int b u)) Q := fun s H E => PySem.P.add_int ⟨m, n, H.toks _, h _⟩
theorem t_iaddI {a b t u} {Q : Value → Lo → Nw → Prop} (h : ∀ t', Q (.int (a + b) t') m n) : TT w c m n (inplaceOp .Add (.int a t) (.int b u)) Q := fun s H E => PySem.P.iadd_int ⟨m, n, H.toks _, h _⟩
theorem t_subI {a b t u} {Q : Value → Lo → Nw → Prop} (h : ∀ t', Q (.int (a - b) t') m n) : TT w c m n (binaryOp .Sub (.int a t) (.int b u)) Q := fun s H E => PySem.P.sub_int ⟨m, n, H.toks _, h _⟩
theorem t_isubI {a b t u} {Q : Value → Lo → Nw → Prop} (h : ∀ t', Q (.int (a - b) t') m n) : TT w c m n (inplaceOp .Sub (.int a t) (.int b u)) Q := fun s H E => PySem.P.isub_int ⟨m, n, H.toks _, h _⟩
theorem t_eqI {a b t u} {Q : Value → Lo → Nw → Prop} (h : Q (.bool (a == b)) m n) : TT w c m n (compareOp .Eq (.int a t) (.int b u)) Q := fun s H E => PySem.P.eq_int ⟨m, n, H, h⟩
theorem t_neI {a b t u} {Q : Value → Lo → Nw → Prop} (h : Q (.bool (a != b)) m n) : TT w c m n (compareOp .NotEq (.int a t) (.int b u)) Q := fun s H E => PySem.P.ne_int ⟨m, n, H, h⟩
theorem t_ltI {a b t u} {Q : Value → Lo → Nw → Prop} (h : Q (.bool (decide (a < b))) m n) : TT w c m n (compareOp .Lt (.int a t) (.int b u)) Q := fun s H E => PySem.P.lt_int ⟨m, n, H, h⟩
theorem t_leI {a b t u} {Q : Value → Lo → Nw → Prop} (h : Q (.bool (decide (a ≤ b))) m n) : TT w c m n (compareOp .LtE (.int a t) (.int b u)) Q := fun s H E => PySem.P.le_int ⟨m, n, H, h⟩
theorem t_gtI {a b t u} {Q : Value → Lo → Nw → Prop} (h : Q (.bool (decide (a > b))) m n) : TT w c m n (compareOp .Gt (.int a t) (.int b u)) Q := fun s H E => PySem.P.gt_int ⟨m, n, H, h⟩
theorem t_geI {a b t u} {Q : Value → Lo → Nw → Prop} (h : Q (.bool (decide (a ≥ b))) m n) : TT w c m n (compareOp .GtE (.int a t) (.int b u)) Q := fun s H E => PySem.P.ge_int ⟨m, n, H, h⟩
theorem Hs.room {s : Shared} (H : Hs w c m n s) (hg : c.gen = false) : PySem.PylongRoom (model PG w) c.A s := by
  obtain ⟨p, lo, mg, mb, T⟩ := H.ok.T
  obtain ⟨e, l, h1, h2, h3, h4, h5⟩ := H.ok.frs hg
  exact PySem.PylongRoom.of (T.nolimit.keeps H.fr.keep) (by have := H.ok.dep; show c.A.depth + 100 < 1000; omega) (PySem.SeerAt.of (H.ok.S.keeps H.fr.keep).seer rfl h1 h2 h3 h4 h5)
theorem t_divI {a b t u} {Q : Value → Lo → Nw → Prop} (hg : c.gen = false) (hb : b ≠ 0) (h : ∀ t', Q (.int (a.fdiv b) t') m n) : TT w c m n (binaryOp .FloorDiv (.int a t) (.int b u)) Q := fun s H E => floordiv_int hb ⟨m, n, H.toks _, h _⟩ (.inr (H.room hg))
theorem t_modI {a b t u} {Q : Value → Lo → Nw → Prop} (hb : b ≠ 0) (h : ∀ t', Q (.int (a.fmod b) t') m n) : TT w c m n (binaryOp .Mod (.int a t) (.int b u)) Q := fun s H E => mod_int' hb ⟨m, n, H.toks _, h _⟩
theorem t_mulI {a b t u} {Q : Value → Lo → Nw → Prop} (hm : IntMulOk a b) (h : ∀ t', Q (.int (a * b) t') m n) : TT w c m n (binaryOp .Mult (.int a t) (.int b u)) Q := fun s H E => PySem.P.mul_int ⟨m, n, H.toks _, h _⟩ hm

/-! texts -/
variable {y z : Str} {t u : Tok}
theorem t_addS {Q : Value → Lo → Nw → Prop} (hsz : y.length + z.length ≤ sizeLine) (h : ∀ t', Q (.str (y ++ z) t') m n) : TT w c m n (binaryOp .Add (.str y t) (.str z u)) Q := fun s H E => PyProof.Rows.add_str (fun t' k => ⟨m, n, H.toks k, h t'⟩) hsz
theorem t_iaddS {Q : Value → Lo → Nw → Prop} (hsz : y.length + z.length ≤ sizeLine) (h : ∀ t', Q (.str (y ++ z) t') m n) : TT w c m n (inplaceOp .Add (.str y t) (.str z u)) Q := fun s H E => PyProof.Rows.iadd_str (fun t' k => ⟨m, n, H.toks k, h t'⟩) hsz
theorem t_eqS {Q : Value → Lo → Nw → Prop} (h : Q (.bool (y == z)) m n) : TT w c m n (compareOp .Eq (.str y t) (.str z u)) Q := fun s H E => PyProof.Rows.eq_str ⟨m, n, H, h⟩
theorem t_neS {Q : Value → Lo → Nw → Prop} (h : Q (.bool (y != z)) m n) : TT w c m n (compareOp .NotEq (.str y t) (.str z u)) Q := fun s H E => PyProof.Rows.ne_str ⟨m, n, H, h⟩
theorem t_inS {Q : Value → Lo → Nw → Prop} (h : Q (.bool !(Builtin.Str.occurrences y z 0 y.length 1).isEmpty) m n) : TT w c m n (compareOp .In (.str z u) (.str y t)) Q := fun s H E => PyProof.Rows.in_str ⟨m, n, H, h⟩
theorem t_notInS {Q : Value → Lo → Nw → Prop} (h : Q (.bool (!(!(Builtin.Str.occurrences y z 0 y.length 1).isEmpty))) m n) : TT w c m n (compareOp .NotIn (.str z u) (.str y t)) Q := fun s H E => PyProof.Rows.notIn_str ⟨m, n, H, h⟩
theorem t_lenS {Q : Value → Lo → Nw → Prop} (hfit : y.length ≤ sizeLine) (h : ∀ t', Q (.int y.length t') m n) : TT w c m n (call (.builtin "len") [.str y t]) Q := fun s H E => PyProof.Rows.len_str (by have : sizeLine = 2 ^ 24 := rfl; omega) ⟨m, n, H.toks _, h _⟩

/-! lists -/
theorem t_newList {vs : List Value} {Q : Value → Lo → Nw → Prop} (hsz : vs.length ≤ sizeLine) (h : ∀ a, Q (.ref a) m ((a, .list vs) :: n)) : TT w c m n (newList vs) Q := fun s H E =>
  wpAny_newObj_type ⟨m, _, H.push (d := .list vs) ⟨0, rfl⟩, h _⟩ (by show vs.toArray.size ≤ sizeLine; rw [List.size_toArray]; exact hsz)
theorem t_newTup {vs : List Value} {Q : Value → Lo → Nw → Prop} (hsz : vs.length ≤ sizeLine) (h : ∀ a, Q (.ref a) m ((a, .tup vs) :: n)) : TT w c m n (newTuple vs) Q := fun s H E =>
  wpAny_newObj_type ⟨m, _, H.push (d := .tup vs) ⟨0, rfl⟩, h _⟩ (by show vs.toArray.size ≤ sizeLine; rw [List.size_toArray]; exact hsz)
theorem t_List {elts} {Q : Value → Lo → Nw → Prop} (h : TT w c m n (spliced (backTo pos (starEach elts c.env))) fun vs m1 n1 => TT w c m1 n1 (newList vs) Q) : TT w c m n (eval (.List elts pos) c.env) Q := by
  rw [arm_eval_List]; exact t_bind (t_standAt (t_bind h))
theorem t_Tuple {elts k} {Q : Value → Lo → Nw → Prop} (h : TT w c m n (spliced (backTo pos (starEach elts c.env))) fun vs m1 n1 => TT w c m1 n1 (newTuple vs) Q) : TT w c m n (eval (.Tuple elts k pos) c.env) Q := by
  rw [arm_eval_Tuple]; exact t_bind (t_standAt (t_bind h))
theorem t_truthyL {a vs} {Q : Bool → Lo → Nw → Prop} (ha : (a, OD.list vs) ∈ n) (hsz : vs.length ≤ sizeLine) (h : Q (!vs.isEmpty) m n) : TT w c m n (truthy (.ref a)) Q := fun s H E =>
  wpAny_truthy_list (H.list ha) (by have : sizeLine = 2 ^ 24 := rfl; rw [List.size_toArray]; omega) ⟨m, n, H.toks _, by rw [show vs.toArray.isEmpty = vs.isEmpty from by cases vs <;> rfl]; exact h⟩
theorem t_append {a vs v n'} {Q : Value → Lo → Nw → Prop} (hu : Up a (.list vs) (.list (vs ++ [v])) n n') (hsz : vs.length ≤ sizeLine) (h : Q .none m n') : TT w c m n (call (.builtin "list.append") [.ref a, v]) Q := fun s H E => by
  obtain ⟨o, ho, ⟨k, rfl⟩, _⟩ := H.get hu.mem
  refine append_at ho (fun h' hs ho' => ⟨m, n', H.up hu hs ho' ⟨k + 1, ?_⟩ _, h⟩) (by rw [List.size_toArray]; exact hsz)
  simp
end
end Mine
end
section
open PySem PySem.W PySem.Calls PyProof.Rows
namespace Mine
section
variable {w : World} {c : Cx} {m : Lo} {n : Nw} {sc : Scope} {x : Str} {pos : Pos}

/-- a list to be read: of the ledger, or of old -/
inductive IsL (c : Cx) (n : Nw) (a : Addr) (vs : List Value) : Prop
  | new : (a, OD.list vs) ∈ n → IsL c n a vs
  | old : c.h₀.IsList a vs.toArray → IsL c n a vs
theorem Hs.isL {s : Shared} (H : Hs w c m n s) {a vs} (h : IsL c n a vs) : s.heap.IsList a vs.toArray := by
  cases h with
  | new h => exact H.list h
  | old h => obtain ⟨o, ho, r⟩ := h; exact ⟨o, H.fr.keep _ _ ho, r⟩

theorem t_Sub {value slice} {Q : Value → Lo → Nw → Prop} (h : TT w c m n (eval value c.env) fun o m1 n1 => TT w c m1 n1 (eval slice c.env) fun i m2 n2 => TT w c m2 n2 (subscriptTail value slice o i) Q) : TT w c m n (eval (.Subscript value slice pos) c.env) Q :=
  fun s H E => Subscript_ (wpAny_mono (h s H E) (fun _ s1 ⟨_, _, H1, h1⟩ => wpAny_mono (h1 s1 H1 E) (fun _ s2 ⟨_, _, H2, h2⟩ => h2 s2 H2 E) fun _ _ x => x) fun _ _ x => x)
theorem t_tailL {value slice a vs k t v} {Q : Value → Lo → Nw → Prop} (hs : subscripted slice false (.ref a) (.int k t) = operate [.ref a, .int k t] (getItem (.ref a) (.int k t))) (ha : IsL c n a vs) (h0 : 0 ≤ k) (hk : k < 2 ^ 63) (hx : vs[k.toNat]? = some v) (h : Q v m n) :
    TT w c m n (subscriptTail value slice (.ref a) (.int k t)) Q := fun s H E =>
  tail_any (H.isL ha).typeIs slot_list_getitem.lookup (wpAny_getItem_list (H.isL ha) h0 hk (by simpa using hx) ⟨m, n, H, h⟩) hs
/-- the last item -/
theorem t_tailLast {value slice a vs t v} {Q : Value → Lo → Nw → Prop} (hs : subscripted slice false (.ref a) (.int (-1) t) = operate [.ref a, .int (-1) t] (getItem (.ref a) (.int (-1) t))) (ha : IsL c n a vs) (hx : vs.getLast? = some v) (h : Q v m n) :
    TT w c m n (subscriptTail value slice (.ref a) (.int (-1) t)) Q := fun s H E => by
  have hne : vs ≠ [] := fun e => by rw [e] at hx; cases hx
  have hl : 1 ≤ vs.length := by cases vs with | nil => exact absurd rfl hne | cons => simp
  refine tail_any (H.isL ha).typeIs slot_list_getitem.lookup (wpAny_getItem_list_neg (H.isL ha) (by decide) (by rw [List.size_toArray]; omega) (by decide) ?_ ⟨m, n, H, h⟩) hs
  rw [List.size_toArray, show ((-1 : Int) + vs.length).toNat = vs.length - 1 from by omega]
  rw [List.getLast?_eq_getElem?] at hx
  simpa using hx
theorem t_tailT {value slice a vs k t v} {Q : Value → Lo → Nw → Prop} (hs : subscripted slice false (.ref a) (.int k t) = operate [.ref a, .int k t] (getItem (.ref a) (.int k t))) (ha : (a, OD.tup vs) ∈ n) {j : Nat} (hlo : -(2 ^ 63) ≤ k) (hhi : k < 2 ^ 63) (hj : seqIndex? k vs.length = some j) (hx : vs[j]? = some v) (h : Q v m n) :
    TT w c m n (subscriptTail value slice (.ref a) (.int k t)) Q := fun s H E => item_tupleT (H.tupl ha) hlo hhi hj hx ⟨m, n, H, h⟩ hs
theorem t_tailS {value slice y t k u d} {Q : Value → Lo → Nw → Prop} (hs : subscripted slice false (.str y t) (.int k u) = operate [.str y t, .int k u] (getItem (.str y t) (.int k u))) (hr : (decide (k < -(2 ^ 63 : Int)) || decide (k ≥ 2 ^ 63)) = false) (hc : (seqIndex? k y.length).bind (y.cps[·]?) = some d) (h : ∀ t', Q (.str ⟨#[d]⟩ t') m n) :
    TT w c m n (subscriptTail value slice (.str y t) (.int k u)) Q := fun s H E =>
  tail_any (typeIs_str s y t) PySem.F.slot_str_getitem.lookup (PySem.P.getItem_str hr hc ⟨m, n, H.toks _, h _⟩) hs

/-! slices -/
theorem t_partN {Q : Value → Lo → Nw → Prop} (h : Q .none m n) : TT w c m n (evalPart none c.env) Q := t_pure h
theorem t_partS {e : Expr} {Q : Value → Lo → Nw → Prop} (h : TT w c m n (eval e c.env) Q) : TT w c m n (evalPart (some e) c.env) Q := h
theorem t_SubSlice {value lo up st p} {Q : Value → Lo → Nw → Prop}
    (h : TT w c m n (eval value c.env) fun o m1 n1 => TT w c m1 n1 (evalPart lo c.env) fun vl m2 n2 => TT w c m2 n2 (evalPart up c.env) fun vu m3 n3 => TT w c m3 n3 (evalPart st c.env) fun vk m4 n4 =>
      ∀ s, Hs w c m4 n4 s → ∀ E : Value → Shared → Prop, wpAny (model PG w) c.A (subscriptTail value (.Slice lo up st p) o (.ref s.heap.objs.size)) (fun a s' => ∃ m' n', Hs w c m' n' s' ∧ Q a m' n') E { s with heap := s.heap.push { cls := .type "slice", data := .fields #[vl, vu, vk] } }) :
    TT w c m n (eval (.Subscript value (.Slice lo up st p) pos) c.env) Q := fun s H E =>
  Subscript_ (wpAny_mono (h s H E) (fun _ s1 ⟨_, _, H1, h1⟩ => wpAny_Slice (wpAny_mono (h1 s1 H1 E) (fun _ s2 ⟨_, _, H2, h2⟩ => wpAny_mono (h2 s2 H2 E) (fun _ s3 ⟨_, _, H3, h3⟩ => wpAny_mono (h3 s3 H3 E) (fun _ s4 ⟨_, _, H4, h4⟩ => h4 s4 H4 E) fun _ _ x => x) fun _ _ x => x) fun _ _ x => x)) fun _ _ x => x)
/-- of a list -/
theorem t_cutL {value lo up st p a vs vl vu vk l u k} {Q : Value → Lo → Nw → Prop} {ops : Addr → List Value} (hs : ∀ b, subscripted (.Slice lo up st p) false (.ref a) (.ref b) = operate (ops b) (getItem (.ref a) (.ref b))) (ht : ∀ r, letTemporaryGo value (.ref a) r = pure ()) (ha : IsL c n a vs) (pl : IsPart vl l) (pu : IsPart vu u) (pk : IsPart vk k) (h0 : k ≠ some 0) (hsz : vs.length ≤ sizeLine)
    (h : ∀ b, Q (.ref b) m ((b, .list (slicePick vs.toArray l u k).toList) :: n)) : ∀ s, Hs w c m n s → ∀ E : Value → Shared → Prop, wpAny (model PG w) c.A (subscriptTail value (.Slice lo up st p) (.ref a) (.ref s.heap.objs.size)) (fun a s' => ∃ m' n', Hs w c m' n' s' ∧ Q a m' n') E { s with heap := s.heap.push { cls := .type "slice", data := .fields #[vl, vu, vk] } } := fun s H E => by
  have HL := H.isL ha
  refine subscriptTail_ops (Heap.IsList.typeIs (s := { s with heap := s.heap.push { cls := .type "slice", data := .fields #[vl, vu, vk] } }) (HL.push _)) list_getitem_lookup
    (wpAny_getItem_list_slice (HL.push _) (Heap.IsSliceOf.new ..) pl pu pk h0 ⟨m, _, (H.pushG _).push (d := .list (slicePick vs.toArray l u k).toList) ⟨0, by simp⟩, h _⟩ (by rw [List.size_toArray]; exact hsz)) (hs _) ht
theorem t_neg {e : Expr} {Q : Value → Lo → Nw → Prop} (h : TT w c m n (eval e c.env) fun v m1 n1 => TT w c m1 n1 (unaryOp .USub v) Q) : TT w c m n (eval (.UnaryOp .USub e pos) c.env) Q := by
  rw [arm_eval_UnaryOp]
  exact t_bind (t_mono h fun _ _ _ h1 => t_bind (t_standAt (t_holding h1)))
theorem t_negI {a t} {Q : Value → Lo → Nw → Prop} (h : ∀ t', Q (.int (-a) t') m n) : TT w c m n (unaryOp .USub (.int a t)) Q := fun s H E => PySem.P.neg_int ⟨m, n, H.toks _, h _⟩
end
end Mine
end
section
open PySem PySem.W PySem.Calls PyProof.Rows
namespace Mine
section
variable {w : World} {c : Cx} {m : Lo} {n : Nw} {sc : Scope} {x : Str} {pos : Pos} {α : Type}

theorem sub_nd {n n' : Nw} (h : n'.Sublist n) (nd : (n.map (·.1)).Nodup) : (n'.map (·.1)).Nodup := (h.map _).nodup nd
/-- to forget -/
theorem Hs.sub {s : Shared} (H : Hs w c m n s) {n' : Nw} (h : n'.Sublist n) : Hs w c m n' s :=
  ⟨H.ok, H.fr, mkNews fun a d hm => H.get (h.subset hm), sub_nd h H.nd, H.ky, H.gens, H.bare, H.os⟩
theorem t_weak {t : Sem α} {Q : α → Lo → Nw → Prop} (h : TT w c m n t fun a m' n' => ∃ n'', n''.Sublist n' ∧ Q a m' n'') : TT w c m n t Q :=
  fun s H E => wpAny_mono (h s H E) (fun _ _ ⟨m', n', H', n'', hs, hq⟩ => ⟨m', n'', H'.sub hs, hq⟩) fun _ _ x => x
theorem t_forget {t : Sem α} {n' : Nw} {Q : α → Lo → Nw → Prop} (hs : n'.Sublist n) (h : TT w c m n' t Q) : TT w c m n t Q := fun s H E => h s (H.sub hs) E
/-- an object of the ledger is lost -/
theorem Hs.lose {s : Shared} {a d} (H : Hs w c m ((a, d) :: n) s) {h' : Heap} (hx : Heap.ExtBut a s.heap h') (tk : Nat) : Hs w c m n { s with heap := h', toks := tk } := by
  have nd := List.nodup_cons.mp H.nd
  obtain ⟨o, ho, _, haL, ha0⟩ := H.get List.mem_cons_self
  obtain ⟨oL, es, ep, hL, r⟩ := H.fr.ns
  refine ⟨H.ok, ⟨⟨oL, es, ep, hx _ _ (Ne.symm haL) hL, r⟩, fun b o e => hx b o (fun q => ?_) (H.fr.keep b o e), H.fr.above⟩, mkNews fun b d' hm => ?_, nd.2, H.ky, H.gens, H.bare, H.os⟩
  · rw [q, ha0] at e; cases e
  · obtain ⟨o', h1, h2, h3⟩ := H.get (List.mem_cons_of_mem _ hm)
    exact ⟨o', hx _ _ (fun q => nd.1 (q ▸ List.mem_map_of_mem (f := (·.1)) hm)) h1, h2, h3⟩
/-- the first object of the ledger changes, the heap may grow -/
theorem Hs.head {s : Shared} {a d d'} (H : Hs w c m ((a, d) :: n) s) {h' : Heap} {o' : Obj} (hx : Heap.ExtBut a s.heap h') (ho' : h'.get? a = some o') (hd : Sat d' o') (tk : Nat) : Hs w c m ((a, d') :: n) { s with heap := h', toks := tk } := by
  have H' := H.lose hx tk
  obtain ⟨o, ho, _, haL, ha0⟩ := H.get List.mem_cons_self
  refine ⟨H'.ok, H'.fr, mkNews fun b d'' hm => ?_, H.nd, H'.ky, H'.gens, H'.bare, H'.os⟩
  rcases List.mem_cons.mp hm with e | hm
  · cases e; exact ⟨o', ho', hd, haL, ha0⟩
  · exact H'.get hm

/-! what an iterator gives -/
noncomputable def Nexts (w : World) (c : Cx) (it : Addr) (D : Nat → OD) (len : Nat) (Pv : Nat → Value → Nw → Prop) (P : Nw → Prop) : Prop :=
  ∀ i m n, P n →
    (i < len → ∀ Q : Option Value → Lo → Nw → Prop, (∀ v new, Pv i v new → Q (some v) m (new ++ (it, D (i + 1)) :: n)) → TT w c m ((it, D i) :: n) (pyNext (.ref it)) Q) ∧
    (len ≤ i → ∀ Q : Option Value → Lo → Nw → Prop, Q none m n → TT w c m ((it, D i) :: n) (pyNext (.ref it)) Q)

theorem ct_forN {it D len Pv P tgt body} {Q : Flow → Lo → Nw → Prop} (N : Nexts w c it D len Pv P) (I : Nat → Lo → Nw → Prop) (hP : ∀ i m n, I i m n → P n) (h0 : I 0 m n)
    (step : ∀ i v new m n, i < len → I i m n → Pv i v new → ∀ d, d = D (i + 1) → TT w c m (new ++ (it, d) :: n) (letOwnedTupleGo tgt (.ref it) v) fun _ m1 n1 => TT w c m1 n1 (assign tgt c.env v) fun _ m2 n2 => TT w c m2 n2 (execs body c.env) fun f m3 n' =>
      ∃ n3, ((it, d) :: n3).Sublist n' ∧ match f with | .next | .cont => I (i + 1) m3 n3 | .brk => Q .next m3 n3 | .ret v => Q (.ret v) m3 n3)
    (fin : ∀ m n, I len m n → Q .next m n) : CT w c m ((it, D 0) :: n) (.forLoop tgt (.ref it) body [] c.env) Q := by
  refine ct_for (fun k m n' => ∃ i n, n' = (it, D i) :: n ∧ i ≤ len ∧ k = len - i ∧ I i m n) ?_ (len - 0) ⟨0, n, rfl, Nat.zero_le _, rfl, h0⟩
  rintro k m n' ⟨i, n, rfl, hi, rfl, hI⟩
  obtain ⟨h1, h2⟩ := N i m n (hP i m n hI)
  by_cases hlt : i < len
  · refine h1 hlt _ fun v new hv => ?_
    refine t_mono (step i v new m n hlt hI hv _ rfl) fun _ m1 n1 h1 => t_mono h1 fun _ m2 n2 h2 => t_weak (t_mono h2 fun f m3 n' h3 => ?_)
    obtain ⟨n3, hs, h3⟩ := h3
    cases f with
    | next => exact ⟨_, hs, len - (i + 1), by omega, i + 1, n3, rfl, hlt, rfl, h3⟩
    | cont => exact ⟨_, hs, len - (i + 1), by omega, i + 1, n3, rfl, hlt, rfl, h3⟩
    | brk => exact ⟨n3, (List.sublist_cons_self _ _).trans hs, h3⟩
    | ret v => exact ⟨n3, (List.sublist_cons_self _ _).trans hs, h3⟩
  · have e : i = len := by omega
    subst e
    exact h2 (Nat.le_refl _) _ (t_nil (fin _ _ hI))

/-! lists -/
theorem t_iterL {a vs} {Q : Value → Lo → Nw → Prop} (ha : IsL c n a vs) (h : ∀ it, Q (.ref it) m ((it, .flds "list_iterator" [.ref a, .int 0 0]) :: n)) : TT w c m n (pyIter (.ref a)) Q := fun s H E =>
  wpAny_pyIter_list (H.isL ha) ⟨m, _, H.push (d := .flds "list_iterator" [.ref a, .int 0 0]) ⟨rfl, rfl⟩, h _⟩
theorem IsL.tail {p : Addr × OD} {a vs} (h : IsL c n a vs) : IsL c (p :: n) a vs := by
  cases h with
  | new h => exact .new (List.mem_cons_of_mem _ h)
  | old h => exact .old h
theorem nexts_L {it a vs} : Nexts w c it (fun i => .flds "list_iterator" [.ref a, .int i 0]) vs.length (fun i v new => new = [] ∧ vs[i]? = some v) (fun n => IsL c n a vs) := by
  intro i m n ha
  refine ⟨fun hi Q hq s H E => ?_, fun hi Q hq s H E => ?_⟩
  · obtain ⟨o, ho, ⟨hc, hd⟩, _⟩ := H.get List.mem_cons_self
    have hx : vs.toArray[i]? = some vs[i] := by simp [hi]
    refine wpAny_pyNext_list_item ⟨o, ho, hc, hd⟩ (H.isL ha.tail) hx fun h' hit hs => ?_
    obtain ⟨o', ho', hc', hd'⟩ := hit
    exact ⟨m, _, H.head (d' := .flds "list_iterator" [.ref a, .int (i + 1 : Nat) 0]) hs.extBut ho' ⟨hc', hd'⟩ _, hq _ [] ⟨rfl, by simp [hi]⟩⟩
  · obtain ⟨o, ho, ⟨hc, hd⟩, _⟩ := H.get List.mem_cons_self
    exact wpAny_pyNext_list_end H.ok.hh ⟨o, ho, hc, hd⟩ (H.isL ha.tail) (by simp [hi]) fun h' hx => ⟨m, n, H.lose hx _, hq⟩

/-! texts -/
noncomputable abbrev strIter (y : Str) : String := strIterType y
theorem t_iterS {y t} {Q : Value → Lo → Nw → Prop} (h : ∀ it, Q (.ref it) m ((it, .flds (strIter y) [.str y t, .int 0 0]) :: n)) : TT w c m n (pyIter (.str y t)) Q := fun s H E => by
  cases ha : y.cps.all (· < 128) with
  | true => exact wpAny_pyIter_ascii ha ⟨m, _, H.push (d := .flds (strIter y) [.str y t, .int 0 0]) ⟨by unfold strIter strIterType; rw [ha]; rfl, rfl⟩, h _⟩
  | false => exact wpAny_pyIter_wide ha ⟨m, _, H.push (d := .flds (strIter y) [.str y t, .int 0 0]) ⟨by unfold strIter strIterType; rw [ha]; rfl, rfl⟩, h _⟩
theorem nexts_S {it y t} : Nexts w c it (fun i => .flds (strIter y) [.str y t, .int i 0]) y.cps.size (fun i v new => new = [] ∧ ∃ d t', y.cps[i]? = some d ∧ v = .str ⟨#[d]⟩ t') (fun n => True) := by
  intro i m n _
  refine ⟨fun hi Q hq s H E => ?_, fun hi Q hq s H E => ?_⟩
  · obtain ⟨o, ho, ⟨hc, hd⟩, _⟩ := H.get List.mem_cons_self
    have hx : y.cps[i]? = some y.cps[i] := by simp [hi]
    cases ha : y.cps.all (· < 128) with
    | true =>
      have e : strIter y = "str_ascii_iterator" := by unfold strIter strIterType; rw [ha]; rfl
      rw [e] at hc
      refine wpAny_pyNext_ascii_item ⟨o, ho, hc, hd⟩ hx fun h' hit hs => ?_
      obtain ⟨o', ho', hc', hd'⟩ := hit
      exact ⟨m, _, H.head (d' := .flds (strIter y) [.str y t, .int (i + 1 : Nat) 0]) hs.extBut ho' ⟨by rw [e]; exact hc', hd'⟩ _, hq _ [] ⟨rfl, _, _, hx, rfl⟩⟩
    | false =>
      have e : strIter y = "str_iterator" := by unfold strIter strIterType; rw [ha]; rfl
      rw [e] at hc
      refine wpAny_pyNext_wide_item ⟨o, ho, hc, hd⟩ hx fun h' hit hs => ?_
      obtain ⟨o', ho', hc', hd'⟩ := hit
      exact ⟨m, _, H.head (d' := .flds (strIter y) [.str y t, .int (i + 1 : Nat) 0]) hs.extBut ho' ⟨by rw [e]; exact hc', hd'⟩ _, hq _ [] ⟨rfl, _, _, hx, rfl⟩⟩
  · obtain ⟨o, ho, ⟨hc, hd⟩, _⟩ := H.get List.mem_cons_self
    have hx : y.cps[i]? = none := by simp [hi]
    cases ha : y.cps.all (· < 128) with
    | true =>
      have e : strIter y = "str_ascii_iterator" := by unfold strIter strIterType; rw [ha]; rfl
      rw [e] at hc
      exact wpAny_pyNext_ascii_end H.ok.hh ⟨o, ho, hc, hd⟩ hx fun h' hx => ⟨m, n, H.lose hx _, hq⟩
    | false =>
      have e : strIter y = "str_iterator" := by unfold strIter strIterType; rw [ha]; rfl
      rw [e] at hc
      exact wpAny_pyNext_wide_end H.ok.hh ⟨o, ho, hc, hd⟩ hx fun h' hx => ⟨m, n, H.lose hx _, hq⟩
theorem t_goName {px it v} {Q : Unit → Lo → Nw → Prop} (h : Q () m n) : TT w c m n (letOwnedTupleGo (.Name x px) it v) Q := t_pure h
end
end Mine
end
section
open PySem PySem.W PySem.Calls PyProof.Rows
namespace Mine
section
variable {w : World} {c : Cx} {m : Lo} {n : Nw} {sc : Scope} {x : Str} {pos : Pos} {α : Type}

theorem Hs.ext {s : Shared} (H : Hs w c m n s) {h' : Heap} (hx : Heap.ExtBut s.heap.objs.size s.heap h') : Hs w c m n { s with heap := h' } :=
  H.grow (fun b o e => hx b o (Nat.ne_of_lt (Heap.lt_size e)) e) rfl rfl
/-- a tuple of the ledger, taken apart -/
theorem t_asgTup {elts k v vs} {Q : Unit → Lo → Nw → Prop} (hv : v = .ref k) (ht : (k, OD.tup vs) ∈ n) {x1} (hn : (assignEach elts c.env).length = vs.length) (hstar : (assignEach elts c.env).findIdx? (·.1) = none)
    (h : TT w c m n (assignInOrder ((assignEach elts c.env).map (·.2)) vs) Q) : TT w c m n (assign (.Tuple elts x1 pos) c.env v) Q := fun s H E => by
  subst hv
  exact assign_Tuple_tuple H.ok.hh (H.tupl ht) (by rw [List.size_toArray]; exact hn) hstar fun h' hx => h _ (H.ext hx) E
theorem t_inNil {vs} {Q : Unit → Lo → Nw → Prop} (h : Q () m n) : TT w c m n (assignInOrder [] vs) Q := by
  cases vs <;> exact t_pure h
theorem t_inCons {t : Value → Sem Unit} {ts v vs} {Q : Unit → Lo → Nw → Prop} (h : TT w c m n (t v) fun _ m1 n1 => TT w c m1 n1 (assignInOrder ts vs) Q) : TT w c m n (assignInOrder (t :: ts) (v :: vs)) Q :=
  t_bind (t_holding h)

/-! enumerate over a text -/
noncomputable abbrev enumObj (it : Addr) (i : Int) (old : Value) : Obj := { cls := .type "enumerate", dict := none, data := .fields #[.none, .bool false, .ref it, rawInt i, .none, old], slots := #[] }
noncomputable abbrev enumOut (it : Addr) (i : Int) (item : Value) (a : Addr) : Obj := { cls := .type "enumerate", dict := none, data := .fields #[rawInt a, .bool false, .ref it, rawInt i, .none, item], slots := #[] }
theorem t_enumS {y t} {Q : Value → Lo → Nw → Prop} (h : ∀ e it, Q (.ref e) m ((e, .raw (enumObj it 0 .none)) :: (it, .flds (strIter y) [.str y t, .int 0 0]) :: n)) : TT w c m n (call (.type "enumerate") [.str y t]) Q := fun s H E => by
  refine call_enumerate_str fun h' he hit hz hk => ?_
  obtain ⟨o, ho, hc, hd⟩ := hit
  have hlt : s.heap.objs.size < h'.objs.size := by omega
  have H1 : Hs w c m ((s.heap.objs.size, .flds (strIter y) [.str y t, .int 0 0]) :: n) { s with heap := h' } := H.add hk (Nat.le_refl _) ho ⟨hc, hd⟩ rfl rfl
  refine ⟨m, _, ?_, h (s.heap.objs.size + 1) s.heap.objs.size⟩
  obtain ⟨os, N, R⟩ := H1.nw
  have H2 : Hs w c m n { s with heap := h' } := H.grow hk rfl rfl
  refine ⟨H1.ok, H1.fr, mkNews fun a d hm => ?_, ?_, H1.ky, H1.gens, H1.bare, H1.os⟩
  · rcases List.mem_cons.mp hm with e | hm
    · cases e
      refine ⟨_, he, rfl, ?_, ?_⟩
      · obtain ⟨oL, _, _, hL, _⟩ := H.fr.ns
        exact Nat.ne_of_gt (Nat.lt_succ_of_lt (Heap.lt_size hL))
      · cases q : c.h₀.get? (s.heap.objs.size + 1) with
        | none => rfl
        | some o' => exact absurd (Heap.lt_size (H.fr.keep _ _ q)) (Nat.not_lt.mpr (Nat.le_succ _))
    · exact H1.get hm
  · refine List.nodup_cons.mpr ⟨fun hm => ?_, H1.nd⟩
    rcases List.mem_cons.mp hm with e | hm
    · exact absurd e (by show ¬ (s.heap.objs.size + 1 = s.heap.objs.size); omega)
    · obtain ⟨⟨b, d'⟩, hp, e⟩ := List.mem_map.mp hm
      have e : b = s.heap.objs.size + 1 := e
      exact absurd (e ▸ H.lt hp) (Nat.not_lt.mpr (Nat.le_succ _))
theorem t_iterEnum {e it i old} {Q : Value → Lo → Nw → Prop} (he : (e, OD.raw (enumObj it i old)) ∈ n) (h : Q (.ref e) m n) : TT w c m n (pyIter (.ref e)) Q := fun s H E => by
  obtain ⟨o, ho, hs, _⟩ := H.get he
  subst hs
  exact wpAny_pyIter_enum ho ⟨m, n, H, h⟩
theorem drawsS {A : Around} (hh : A.handled = none) (it : Addr) (y : Str) (t : Tok) : Draws PG w A it [it] y.cps.size (SignAt y) (fun i h => h.IsStrIter it (strIter y) y t i) := by
  cases ha : y.cps.all (· < 128) with
  | true =>
    have e : strIter y = "str_ascii_iterator" := by unfold strIter strIterType; rw [ha]; rfl
    rw [e]; exact Draws.strAscii hh it y t
  | false =>
    have e : strIter y = "str_iterator" := by unfold strIter strIterType; rw [ha]; rfl
    rw [e]; exact Draws.strWide hh it y t
theorem t_nextEnum {e it y t} {i : Nat} {old : Value} {Q : Option Value → Lo → Nw → Prop} (hi : i < y.cps.size)
    (h : ∀ T tk tk' d, y.cps[i]? = some d → Q (some (.ref T)) m ((T, .tup [.int i tk, .str ⟨#[d]⟩ tk']) :: (e, .raw (enumOut it (i + 1) (.str ⟨#[d]⟩ tk') T)) :: (it, .flds (strIter y) [.str y t, .int (i + 1 : Nat) 0]) :: n)) :
    TT w c m ((e, .raw (enumObj it i old)) :: (it, .flds (strIter y) [.str y t, .int i 0]) :: n) (pyNext (.ref e)) Q := fun s H E => by
  obtain ⟨o, ho, hs, heL, he0⟩ := H.get (a := e) List.mem_cons_self
  subst hs
  obtain ⟨o2, ho2, ⟨hc2, hd2⟩, hiL, hi0⟩ := H.get (a := it) (List.mem_cons_of_mem _ List.mem_cons_self)
  have nd := List.nodup_cons.mp H.nd
  have nd2 := List.nodup_cons.mp nd.2
  have hne : e ≠ it := fun q => nd.1 (by rw [q]; exact List.mem_cons_self)
  refine wpAny_pyNext_enum_itemD (drawsS (A := c.A.in1) H.ok.hh it y t) ho ⟨o2, ho2, hc2, hd2⟩ hi hne (by simpa using hne) fun v h' tk hP he' hst ht hz hk => ?_
  obtain ⟨d, tk', hd, rfl⟩ := hP
  obtain ⟨o3, ho3, hc3, hd3⟩ := hst
  refine ⟨m, _, ?_, h s.heap.objs.size tk tk' d hd⟩
  obtain ⟨oL, es, ep, hL, r⟩ := H.fr.ns
  refine ⟨H.ok, ⟨⟨oL, es, ep, hk _ _ (Ne.symm heL) (Ne.symm hiL) hL, r⟩, fun b o q => hk b o (fun z => ?_) (fun z => ?_) (H.fr.keep b o q), H.fr.above⟩, mkNews fun a d' hm => ?_, ?_, H.ky, H.gens, H.bare, H.os⟩
  · rw [z, he0] at q; cases q
  · rw [z, hi0] at q; cases q
  · rcases List.mem_cons.mp hm with q | hm
    · cases q
      refine ⟨_, ht, ⟨0, rfl⟩, Nat.ne_of_gt (Heap.lt_size hL), ?_⟩
      cases q : c.h₀.get? s.heap.objs.size with
      | none => rfl
      | some o' => exact absurd (Heap.lt_size (H.fr.keep _ _ q)) (Nat.lt_irrefl _)
    · rcases List.mem_cons.mp hm with q | hm
      · cases q; exact ⟨_, he', rfl, heL, he0⟩
      · rcases List.mem_cons.mp hm with q | hm
        · cases q; exact ⟨o3, ho3, ⟨hc3, hd3⟩, hiL, hi0⟩
        · obtain ⟨o', h1, h2, h3⟩ := H.get (List.mem_cons_of_mem _ (List.mem_cons_of_mem _ hm))
          refine ⟨o', hk _ _ (fun z => nd.1 ?_) (fun z => nd2.1 ?_) h1, h2, h3⟩
          · rw [← z]; exact List.mem_cons_of_mem _ (List.mem_map_of_mem (f := (·.1)) hm)
          · rw [← z]; exact List.mem_map_of_mem (f := (·.1)) hm
  · refine List.nodup_cons.mpr ⟨fun hm => ?_, H.nd⟩
    have : s.heap.objs.size < s.heap.objs.size := by
      obtain ⟨⟨b, d'⟩, hp, q⟩ := List.mem_map.mp (show s.heap.objs.size ∈ List.map (·.1) ((e, OD.raw (enumObj it i old)) :: (it, .flds (strIter y) [.str y t, .int i 0]) :: n) from hm)
      have q : b = s.heap.objs.size := q
      exact q ▸ H.lt hp
    exact Nat.lt_irrefl _ this
theorem t_nextEnumEnd {e it y t} {old : Value} {i : Int} {Q : Option Value → Lo → Nw → Prop} (h : Q none m ((e, .raw (enumObj it i old)) :: n)) :
    TT w c m ((e, .raw (enumObj it i old)) :: (it, .flds (strIter y) [.str y t, .int (y.cps.size : Nat) 0]) :: n) (pyNext (.ref e)) Q := fun s H E => by
  obtain ⟨o, ho, hs, heL, he0⟩ := H.get (a := e) List.mem_cons_self
  subst hs
  obtain ⟨o2, ho2, ⟨hc2, hd2⟩, hiL, hi0⟩ := H.get (a := it) (List.mem_cons_of_mem _ List.mem_cons_self)
  refine wpAny_pyNext_enum_endD (drawsS (A := c.A.in1) H.ok.hh it y t) ho ⟨o2, ho2, hc2, hd2⟩ fun h' hx => ⟨m, _, ?_, h⟩
  have sw : Hs w c m ((it, .flds (strIter y) [.str y t, .int (y.cps.size : Nat) 0]) :: (e, .raw (enumObj it i old)) :: n) s := by
    refine ⟨H.ok, H.fr, mkNews fun a d hm => H.get ?_, ?_, H.ky, H.gens, H.bare, H.os⟩
    · simp only [List.mem_cons] at hm ⊢; rcases hm with h | h | h <;> simp [h]
    · have := H.nd; simp only [List.map_cons, List.nodup_cons, List.mem_cons, not_or] at this ⊢
      exact ⟨⟨fun z => this.1.1 z.symm, this.2.1⟩, this.1.2, this.2.2⟩
  exact sw.lose hx _
theorem t_goEnum {elts x1 e it i item T} {Q : Unit → Lo → Nw → Prop} {n'} (hu : Up e (.raw (enumOut it i item T)) (.raw (enumObj it i item)) n n') (h : Q () m n') : TT w c m n (letOwnedTupleGo (.Tuple elts x1 pos) (.ref e) (.ref T)) Q := fun s H E => by
  obtain ⟨o, ho, hs, heL, he0⟩ := H.get hu.mem
  subst hs
  exact wpAny_letOwnedTupleGo_enum ho fun h' he' hs' => ⟨m, n', H.up hu hs' he' rfl _, h⟩
end
end Mine
end
section
open PySem PySem.W PySem.Calls PyProof.Rows
namespace Mine
section
variable {w : World} {c : Cx} {m : Lo} {n : Nw} {sc : Scope} {x : Str} {pos : Pos} {α : Type}
theorem keptHs (s : Shared) : KeptH (fun h => Hs w c m n { s with heap := h }) := fun h ob H => H.grow (fun _ _ e => Heap.get?_push_of_some _ e) rfl rfl
/-- a piece of a text -/
theorem t_cutSss {value lo up st p y t i ui j uj} {Q : Value → Lo → Nw → Prop} {ops : Addr → List Value} (hs : ∀ b, subscripted (.Slice lo up st p) false (.str y t) (.ref b) = operate (ops b) (getItem (.str y t) (.ref b))) (ht : ∀ r, letTemporaryGo value (.str y t) r = pure ()) (hsz : y.length ≤ sizeLine)
    (h : ∀ t', Q (.str (Txt.slice y (some i) (some j)) t') m n) : ∀ s, Hs w c m n s → ∀ E : Value → Shared → Prop, wpAny (model PG w) c.A (subscriptTail value (.Slice lo up st p) (.str y t) (.ref s.heap.objs.size)) (fun a s' => ∃ m' n', Hs w c m' n' s' ∧ Q a m' n') E { s with heap := s.heap.push { cls := .type "slice", data := .fields #[.int i ui, .int j uj, .none] } } := fun s H E =>
  tail_of_ItemOn (SBH.sliceItem_ss (keptHs s) H (fun h' t' k hp => ⟨m, n, hp.toks k, h t'⟩) hsz) (hs _) ht
theorem t_cutSsn {value lo up st p y t i ui} {Q : Value → Lo → Nw → Prop} {ops : Addr → List Value} (hs : ∀ b, subscripted (.Slice lo up st p) false (.str y t) (.ref b) = operate (ops b) (getItem (.str y t) (.ref b))) (ht : ∀ r, letTemporaryGo value (.str y t) r = pure ()) (hsz : y.length ≤ sizeLine)
    (h : ∀ t', Q (.str (Txt.slice y (some i) none) t') m n) : ∀ s, Hs w c m n s → ∀ E : Value → Shared → Prop, wpAny (model PG w) c.A (subscriptTail value (.Slice lo up st p) (.str y t) (.ref s.heap.objs.size)) (fun a s' => ∃ m' n', Hs w c m' n' s' ∧ Q a m' n') E { s with heap := s.heap.push { cls := .type "slice", data := .fields #[.int i ui, .none, .none] } } := fun s H E =>
  tail_of_ItemOn (SBH.sliceItem_sn (keptHs s) H (fun h' t' k hp => ⟨m, n, hp.toks k, h t'⟩) hsz) (hs _) ht
theorem t_cutSns {value lo up st p y t j uj} {Q : Value → Lo → Nw → Prop} {ops : Addr → List Value} (hs : ∀ b, subscripted (.Slice lo up st p) false (.str y t) (.ref b) = operate (ops b) (getItem (.str y t) (.ref b))) (ht : ∀ r, letTemporaryGo value (.str y t) r = pure ()) (hsz : y.length ≤ sizeLine)
    (h : ∀ t', Q (.str (Txt.slice y none (some j)) t') m n) : ∀ s, Hs w c m n s → ∀ E : Value → Shared → Prop, wpAny (model PG w) c.A (subscriptTail value (.Slice lo up st p) (.str y t) (.ref s.heap.objs.size)) (fun a s' => ∃ m' n', Hs w c m' n' s' ∧ Q a m' n') E { s with heap := s.heap.push { cls := .type "slice", data := .fields #[.none, .int j uj, .none] } } := fun s H E =>
  tail_of_ItemOn (SBH.sliceItem_ns (keptHs s) H (fun h' t' k hp => ⟨m, n, hp.toks k, h t'⟩) hsz) (hs _) ht
/-- texts, joined -/
theorem t_join {y t a vs ys} {Q : Value → Lo → Nw → Prop} (ha : IsL c n a vs) (hv : StrsAre vs ys) (hok : (ys.map (·.length)).sum + ys.length * y.length ≤ 16777216) (h : ∀ t', Q (.str (Txt.join y ys) t') m n) : TT w c m n (call (.builtin "str.join") [.str y t, .ref a]) Q := fun s H E =>
  join_list (H.isL ha) (by simpa using hv) hok fun t' k => ⟨m, n, H.toks k, h t'⟩
theorem t_isN {v : Value} {Q : Value → Lo → Nw → Prop} (h : Q (.bool (v == .none)) m n) : TT w c m n (compareOp .Is v .none) Q := fun s H E => PyProof.Rows.is_none_gen ⟨m, n, H, h⟩
theorem t_isB {a b : Bool} {Q : Value → Lo → Nw → Prop} (h : Q (.bool (a == b)) m n) : TT w c m n (compareOp .Is (.bool a) (.bool b)) Q := fun s H E => PyProof.Rows.is_bool ⟨m, n, H, h⟩
end
end Mine
end
section
open PySem PySem.W PySem.Calls PyProof.Rows
namespace Mine

/-! the names of an object -/
noncomputable def putE (name : Str) (v : Value) : List (Str × Value) → List (Str × Value)
  | [] => [(name, v)]
  | (k, u) :: r => if k == name then (k, v) :: r else (k, u) :: putE name v r
noncomputable def getE (name : Str) : List (Str × Value) → Option Value
  | [] => none
  | (k, u) :: r => if k == name then some u else getE name r
theorem isStr_of {e : DictEntry} {p : Str × Value} (h : entryIs e p) (name : Str) : e.key.isStr name = (p.1 == name) := by
  obtain ⟨⟨t, h⟩, _⟩ := h; rw [h]; rfl
theorem refKey_of {e : DictEntry} {p : Str × Value} (h : entryIs e p) : e.refKey = false := by
  obtain ⟨⟨t, h⟩, _⟩ := h; unfold DictEntry.refKey; rw [h]
theorem entries_find {ds : List DictEntry} {es : List (Str × Value)} (h : EntriesAre ds es) (name : Str) : (ds.find? (·.key.isStr name)).map (·.val) = getE name es := by
  induction h with
  | nil => rfl
  | @cons e p es ps h1 _ ih =>
    obtain ⟨k, u⟩ := p
    rw [List.find?_cons]
    unfold getE
    rw [isStr_of h1]
    cases q : k == name with
    | true => simp only [if_true, Option.map_some]; rw [h1.2]
    | false => simp only [Bool.false_eq_true, if_false]; exact ih
theorem entries_refKey {ds : List DictEntry} {es : List (Str × Value)} (h : EntriesAre ds es) : ds.any (·.refKey) = false := by
  induction h with
  | nil => rfl
  | @cons e p es ps h1 _ ih => rw [List.any_cons, refKey_of h1, ih]; rfl
theorem entries_get {ds : List DictEntry} {es : List (Str × Value)} (h : EntriesAre ds es) (name : Str) : getL name ds = some (getE name es) := by
  have h1 := entries_find h name
  unfold getL
  cases q : ds.find? (·.key.isStr name) with
  | none => rw [q] at h1; dsimp only; rw [entries_refKey h, if_neg (by decide), ← h1]; rfl
  | some e => rw [q] at h1; rw [← h1]; rfl
theorem entries_put {ds : List DictEntry} {es : List (Str × Value)} (h : EntriesAre ds es) (name : Str) (hsh : Int) (t : Tok) (v : Value) : EntriesAre (putL name hsh (.str name t) v ds) (putE name v es) := by
  induction h with
  | nil => exact .cons ⟨⟨t, rfl⟩, rfl⟩ .nil
  | @cons e p es ps h1 h2 ih =>
    obtain ⟨k, u⟩ := p
    unfold putL putE
    rw [isStr_of h1]
    cases q : k == name with
    | true => rw [if_pos rfl, if_pos rfl]; exact .cons ⟨h1.1, rfl⟩ h2
    | false => rw [if_neg (by decide), if_neg (by decide)]; exact .cons h1 ih
theorem entries_len {ds : List DictEntry} {es : List (Str × Value)} (h : EntriesAre ds es) : ds.length = es.length := by
  induction h with
  | nil => rfl
  | cons _ _ ih => simp [ih]
theorem putE_len (name : Str) (v : Value) : ∀ es : List (Str × Value), (putE name v es).length ≤ es.length + 1
  | [] => Nat.le_refl _
  | (k, u) :: r => by
    unfold putE
    split
    · simp
    · have := putE_len name v r; simp; omega

section
variable {w : World} {c : Cx} {m : Lo} {n : Nw} {sc : Scope} {x : Str} {pos : Pos} {α : Type}

theorem Hs.inst {s : Shared} (H : Hs w c m n s) {a C dx es} (hx : (a, OD.inst C dx) ∈ n) (hdx : (dx, OD.ns es) ∈ n) : ∃ ds k, InstAt s.heap a (instObj C dx) C (some (dictOf ds k)) ∧ EntriesAre ds es := by
  obtain ⟨o, ho, hs, _⟩ := H.get hx
  obtain ⟨o2, ho2, ⟨ds, k, rfl, he⟩, _⟩ := H.get hdx
  cases hs
  exact ⟨ds, k, ⟨ho, rfl, rfl, ho2⟩, he⟩

theorem t_Attr {value attr} {Q : Value → Lo → Nw → Prop} (h : TT w c m n (eval value c.env) fun o m1 n1 => TT w c m1 n1 (getAttr o attr true) Q)
    (he : eval (.Attribute value attr pos) c.env = (do
      let o ← eval value c.env
      standAt pos.atName
      let r ← holding [o] (getAttr o attr true)
      letTemporaryGo value o r
      pure r) := by with_unfolding_all rfl) : TT w c m n (eval (.Attribute value attr pos) c.env) Q :=
  fun s H E => Attribute_any_ (wpAny_mono (h s H E) (fun _ s1 ⟨_, _, H1, h1⟩ => h1 s1 H1 E) fun _ _ x => x) he
theorem t_getOwn {a C dx es name v expr attr} {Q : Value → Lo → Nw → Prop} (hx : (a, OD.inst C dx) ∈ n) (hdx : (dx, OD.ns es) ∈ n) (hl : getE name es = some v) (hg : plainGet (hd.heap_1 w.params) C name = true) (hh : hasDictIn (hd.heap_1 w.params) C = true) (ha : findIn (hd.heap_1 w.params) (.ref C) name = some attr) (hn : noGet (hd.heap_1 w.params) attr = true)
    (hv : handedIn v = true) (h : Q v m n) : TT w c m n (getAttr (.ref a) name expr) Q := fun s H E => by
  obtain ⟨ds, k, I, he⟩ := H.inst hx hdx
  exact get_value H.X I (plainGet_of hg).1 (findObj_own hh ha hn (by show lookIn name (dictOf ds k) = _; rw [lookIn_dict, entries_get he, hl])) hv ⟨m, n, H.toks _, h⟩
theorem t_clsVal {C name v expr} {Q : Value → Lo → Nw → Prop} (hr : readsIn (hd.heap_1 w.params) C (.type "type") = true) (e : findCls (hd.heap_1 w.params) (.ref C) (.type "type") name = some (.val v)) (hh : handedIn v = true) (h : Q v m n) : TT w c m n (getAttr (.ref C) name expr) Q := fun s H E =>
  cls_value H.X hr e hh ⟨m, n, H.toks _, h⟩
theorem t_getBound {a C dx es name f expr} {Q : Value → Lo → Nw → Prop} (hx : (a, OD.inst C dx) ∈ n) (hdx : (dx, OD.ns es) ∈ n) (hl : getE name es = none) (hg : plainGet (hd.heap_1 w.params) C name = true) (hh : hasDictIn (hd.heap_1 w.params) C = true) (ha : findIn (hd.heap_1 w.params) (.ref C) name = some (some (.ref f))) (hf : isFn (hd.heap_1 w.params) (.ref f) = true)
    (hgf : specialIn (hd.heap_1 w.params) (.ref f) "__get__" = some (some (.builtin "function.__get__"))) (ht : takesIn (hd.heap_1 w.params) (.ref f) = some false) (hc : copiedNames.contains name = false)
    (h : ∀ q, Q (.ref q) m ((q, .raw (methodObj (.ref f) (.ref a))) :: n)) : TT w c m n (getAttr (.ref a) name expr) Q := fun s H E => by
  obtain ⟨ds, k, I, he⟩ := H.inst hx hdx
  refine get_bind H.X I (plainGet_of hg).1 (findObj_fn hh ha hgf ht hc (by show lookIn name (dictOf ds k) = _; rw [lookIn_dict, entries_get he, hl])) (plainGet_of hg).2 ?_
  exact wpAny_call (fn_get (s := { s with toks := s.toks + 1 }) H.X (beq_iff_eq.mp hf) (handed_on rfl ⟨m, _, (H.toks _).push (d := .raw _) rfl, h _⟩))
theorem t_gmMeth {a C dx es name f} {Q : Value × List Value → Lo → Nw → Prop} (hx : (a, OD.inst C dx) ∈ n) (hdx : (dx, OD.ns es) ∈ n) (hl : getE name es = none) (hga : findIn (hd.heap_1 w.params) (.ref C) "__getattribute__" = some (some (.builtin "object.__getattribute__"))) (hk : findIn (hd.heap_1 w.params) (.ref C) "__getattr__" = some none)
    (hf : findIn (hd.heap_1 w.params) (.ref C) name = some (some (.ref f))) (ht : typeIn (hd.heap_1 w.params) (.ref f) = some (.type "function")) (h : Q (.ref f, [.ref a]) m n) : ∀ pl, TT w c m n (getMethod (.ref a) name pl) Q := fun pl s H E => by
  obtain ⟨ds, k, I, he⟩ := H.inst hx hdx
  exact method_fn H.X I hga hk hf ht (by show (lookIn name (dictOf ds k)).map (·.isSome) = _; rw [lookIn_dict, entries_get he, hl]; rfl) ⟨m, n, H, h⟩
theorem t_gmOwn {a C dx es name v} {Q : Value × List Value → Lo → Nw → Prop} (hx : (a, OD.inst C dx) ∈ n) (hdx : (dx, OD.ns es) ∈ n) (hl : getE name es = some v) (hg : plainGet (hd.heap_1 w.params) C name = true) (hh : hasDictIn (hd.heap_1 w.params) C = true)
    (hf : findIn (hd.heap_1 w.params) (.ref C) name = some none) (hv : handedIn v = true) (h : Q (v, []) m n) : ∀ pl, TT w c m n (getMethod (.ref a) name pl) Q := fun pl s H E => by
  obtain ⟨ds, k, I, he⟩ := H.inst hx hdx
  refine method_usual H.X I (plainGet_of hg).1 (plainGet_of hg).2 hf rfl ?_
  exact t_getOwn hx hdx hl hg hh hf rfl hv (Q := fun v => Q (v, [])) h s H E
theorem t_setOwn {a C dx es name v n'} {Q : Unit → Lo → Nw → Prop} (hx : (a, OD.inst C dx) ∈ n) (hu : Up dx (.ns es) (.ns (putE name v es)) n n') (hs : findIn (hd.heap_1 w.params) (.ref C) "__setattr__" = some (some (.builtin "object.__setattr__"))) (hp : plainOver (hd.heap_1 w.params) C = true) (ht : takerIn (hd.heap_1 w.params) C name = some none) (hh : hasDictIn (hd.heap_1 w.params) C = true)
    (hz : es.length < 1000) (h : Q () m n') : TT w c m n (setAttr (.ref a) name v) Q := fun s H E => by
  obtain ⟨ds, k, I, he⟩ := H.inst hx hu.mem
  refine set_plain H.X I hs ?_
  refine osa_open (s := { s with toks := s.toks + 1 }) H.X I hp ht fun b => ?_
  obtain ⟨cd, hc, hd'⟩ := any_some hh
  obtain ⟨o2, D, ⟨ds', k', rfl, he'⟩, _⟩ := H.get hu.mem
  have e1 : ds' = ds ∧ k' = k := by
    have D2 : s.heap.get? dx = some (dictOf ds k) := I.dict
    rw [D] at D2
    have D2 := Option.some.inj D2
    injection D2 with _ _ D3 _
    injection D3 with D4 D5
    exact ⟨by simpa using D4, D5⟩
  obtain ⟨rfl, rfl⟩ := e1
  have hx' := I.at_
  refine wpAny_bind (wpAny_pure (wpAny_bind (wpAny_bind (wpAny_loadPart hx' (wpAny_bind ((looks_clsIn H.X hc).here (s := { s with toks := s.toks + 1 }) ?_))))))
  rw [hd']
  refine wpAny_pure (a := some dx) (wpAny_bind (wpAny_pure (wpAny_bind ?_)))
  unfold nsSet
  refine wpAny_bind (wpAny_bind (wpAny_askSetting (wpAny_pure (wpAny_bind (wpAny_mkText (wpAny_bind (wpAny_loadPart D ?_)))))))
  dsimp only
  have cc : (!ds'.toArray.any (·.key.isStr name) && ds'.toArray.any (·.refKey)) = false := by
    rw [← Array.any_toList, ← Array.any_toList]; simp [entries_refKey he]
  rw [aRefKeyMayBeTheName_at, cc]
  have HS : Heap.SameBut dx s.heap (s.heap.update dx (Obj.putName name (PyData.keyHash w.params name) (.str name (s.toks + 1)) v)) := Heap.SameBut.update ..
  have e2 := putName_dict name (PyData.keyHash w.params name) (.str name (s.toks + 1)) v ds' k'
  have D' := Heap.get?_update_self (h := s.heap) (Obj.putName name (PyData.keyHash w.params name) (.str name (s.toks + 1)) v) D (by rw [e2]; rfl)
  rw [e2] at D'
  refine wpAny_updatePart D ?_
  refine wpAny_bind (wpAny_lookBehind D' (pastItsLine_dict (by
    rw [List.size_toArray, sizeLine_eq, entries_len (entries_put he _ _ _ _)]
    have := putE_len name v es; omega)) ?_)
  exact wpAny_pure ⟨m, n', H.up hu HS D' ⟨_, _, rfl, entries_put he _ _ _ _⟩ _, h⟩
end
end Mine
end
section
open PySem PySem.W PySem.Calls PyProof.Rows
namespace Mine
section
variable {w : World} {c : Cx} {m : Lo} {n : Nw} {sc : Scope} {x : Str} {pos : Pos} {α : Type}

/-! one unit deeper -/
noncomputable abbrev Cx.in1 (c : Cx) : Cx := { c with A := c.A.in1, r := c.r - 1 }
theorem Ok.in1 (h : Ok w c) (hr : 1 ≤ c.r) : Ok w c.in1 :=
  ⟨h.X, h.T, h.hh, h.S, h.frs, h.frm, (by have := h.dep; show c.A.depth + 10 * (c.r - 1) ≤ 800; omega), (by have := h.uni; show (c.A.units + 1) + 100 * (c.r - 1) ≤ 9000; omega), h.loc, h.glo, h.bui, h.knd⟩
theorem Hs.to {s : Shared} {c' : Cx} (H : Hs w c m n s) (ok : Ok w c') (h0 : c'.h₀ = c.h₀) (hL : c'.L = c.L) (hg : c'.gs = c.gs) (ho : c'.os = c.os) : Hs w c' m n s := by
  obtain ⟨h₀, A, L, env, gs, os, r, gen⟩ := c
  obtain ⟨h₀', A', L', env', gs', os', r', gen'⟩ := c'
  dsimp only at h0 hL hg ho
  subst h0 hL hg ho
  exact ⟨ok, H.fr, H.nw, H.nd, H.ky, H.gens, H.bare, H.os⟩
theorem t_in1 {t : Sem α} {Q : α → Lo → Nw → Prop} {s : Shared} {E : Value → Shared → Prop} (H : Hs w c m n s) (hr : 1 ≤ c.r) (h : TT w c.in1 m n t Q) : wpAny (model PG w) c.A.in1 t (fun a s' => ∃ m' n', Hs w c m' n' s' ∧ Q a m' n') E s :=
  wpAny_mono (h s (H.to (c' := c.in1) (H.ok.in1 hr) rfl rfl rfl rfl) E) (fun a s' ⟨m', n', H', q⟩ => ⟨m', n', H'.to H.ok rfl rfl rfl rfl, q⟩) fun _ _ e => e

/-- the whole ledger was handed on -/
theorem Hs.backAll {s s' : Shared} {c' : Cx} {m' : Lo} {n' : Nw} (H : Hs w c m n s) (h0 : c'.h₀ = hideAll s.heap (n.map (·.1))) (hg : c'.gs = s.gens) (ho : c'.os = c.os) (H' : Hs w c' m' n' s') : Hs w c m n' s' := by
  have st := hide_keep H (fun _ h => h : Part n n)
  obtain ⟨oL, es, ep, hL, hLd, hLk, hLf⟩ := H.fr.ns
  have nL : c.L ∉ n.map (·.1) := fun q => by
    obtain ⟨⟨a, d⟩, hm, e⟩ := List.mem_map.mp q
    obtain ⟨_, _, _, z, _⟩ := H.get hm
    exact z e
  have keep' : ∀ b o, s.heap.get? b = some o → b ∉ n.map (·.1) → s'.heap.get? b = some o := fun b o e q => H'.fr.keep b o (by rw [h0]; exact hideAll_get _ e q)
  refine ⟨H.ok, ⟨⟨oL, es, ep, keep' _ _ hL nL, hLd, hLk, hLf⟩, fun b o e => H'.fr.keep b o (by rw [h0]; exact st b o e), H.fr.above⟩, mkNews fun a d hm => ?_, H'.nd, H.ky, fun i x e => H'.gens i x (by rw [hg]; exact H.gens i x e), H'.bare, H'.os.trans ho⟩
  obtain ⟨o, h1, h2, h3, h4⟩ := H'.get hm
  rw [h0] at h4
  refine ⟨o, h1, h2, fun q => ?_, ?_⟩
  · rw [q, hideAll_get _ hL nL] at h4; cases h4
  · cases q : c.h₀.get? a with
    | none => rfl
    | some o' => rw [st _ _ q] at h4; cases h4
theorem Hs.side {s : Shared} {a : Addr} {h' : Heap} (H : Hs w c m n s) (h1 : a ∉ n.map (·.1)) (h2 : a ≠ c.L) (h3 : c.h₀.get? a = none) (hx : Heap.ExtBut a s.heap h') (tk : Nat) : Hs w c m n { s with heap := h', toks := tk } := by
  obtain ⟨oL, es, ep, hL, r⟩ := H.fr.ns
  refine ⟨H.ok, ⟨⟨oL, es, ep, hx _ _ (Ne.symm h2) hL, r⟩, fun b o e => hx b o (fun q => ?_) (H.fr.keep b o e), H.fr.above⟩, mkNews fun b d' hm => ?_, H.nd, H.ky, H.gens, H.bare, H.os⟩
  · rw [q, h3] at e; cases e
  · obtain ⟨o', g1, g2, g3⟩ := H.get hm
    exact ⟨o', hx _ _ (fun q => h1 (q ▸ List.mem_map_of_mem (f := (·.1)) hm)) g1, g2, g3⟩

/-! calls -/
theorem Sub.tail {p : Addr × OD} {r r' n n' : Nw} (u : Sub r r' n n') : Sub r r' (p :: n) (p :: n') := by
  induction u with
  | nil => exact .nil
  | cons u _ ih => exact .cons (.tail u) ih
theorem callT_mono {r r' : Nat} {f : Addr} {args : List Value} {n1 : Nw} {Q Q' : Value → Nw → Nw → Prop} (h : CallT w r f args n1 Q) (hr : r ≤ r') (hq : ∀ v new n1', Q v new n1' → Q' v new n1') : CallT w r' f args n1 Q' :=
  fun c m n s H hp hnd hr' R hR => h c m n s H hp hnd (Nat.le_trans hr hr') R fun v new n1' s' q => hR v new n1' s' (hq _ _ _ q)
/-- a class of the text is called -/
theorem callT_cls {r : Nat} {C fI : Addr} {rest : List Value} {n1 : Nw} {Q : Value → Nw → Nw → Prop} (hm : makesIn (hd.heap_1 w.params) C = true) (hi : findIn (hd.heap_1 w.params) (.ref C) "__init__" = some (some (.ref fI))) (hf : typeIn (hd.heap_1 w.params) (.ref fI) = some (.type "function"))
    (hC : ∀ x dx, CallT w r fI (.ref x :: rest) ((x, .inst C dx) :: (dx, .ns []) :: n1) fun v new n2 => v = .none ∧ ∃ es n1', n2 = (x, .inst C dx) :: (dx, .ns es) :: n1' ∧ Q (.ref x) (new ++ [(x, .inst C dx), (dx, .ns es)]) n1') : CallT w (r + 1) C rest n1 Q := by
  intro c m n s H hp hnd hr R hR
  have H1 : Hs w c m ((s.heap.objs.size, .ns []) :: n) { s with heap := s.heap.push emptyDict } := H.push (d := .ns []) ⟨[], 0, rfl, .nil⟩
  have H2 := H1.push (o := instObj C s.heap.objs.size) (d := .inst C s.heap.objs.size) rfl
  have hz : (s.heap.push emptyDict).objs.size = s.heap.objs.size + 1 := Heap.size_push ..
  have H2 : Hs w c m ((s.heap.objs.size + 1, .inst C s.heap.objs.size) :: (s.heap.objs.size, .ns []) :: n) { s with heap := (s.heap.push emptyDict).push (instObj C s.heap.objs.size) } := by
    have e : ({ s with heap := s.heap.push emptyDict } : Shared).heap.objs.size = s.heap.objs.size + 1 := hz
    rw [e] at H2; exact H2
  let c' : Cx := { c with A := c.A.under (.builtin "type.__call__" ⟨.ref C :: rest, []⟩), r := c.r - 1 }
  have ok' : Ok w c' := ⟨H.ok.X, H.ok.T, H.ok.hh, H.ok.S, H.ok.frs, H.ok.frm, (by have := H.ok.dep; show (c.A.depth + 1) + 10 * (c.r - 1) ≤ 800; omega), (by have := H.ok.uni; show (c.A.units + 1) + 100 * (c.r - 1) ≤ 9000; omega), H.ok.loc, H.ok.glo, H.ok.bui, H.ok.knd⟩
  have H3 : Hs w c' m ((s.heap.objs.size + 1, .inst C s.heap.objs.size) :: (s.heap.objs.size, .ns []) :: n) _ := H2.to ok' rfl rfl rfl rfl
  obtain ⟨hh, g, d, t, os⟩ := s
  refine make_core (makes_of H.X hm) (looks_findIn H.X hi) (fun self => bind_fn H.X self hf) (.inl rfl) ?_
  refine hC (hh.objs.size + 1) hh.objs.size c' m _ _ H3 (fun p hpp => ?_) ?_ (by show r ≤ c.r - 1; omega) _ ?_
  · rcases List.mem_cons.mp hpp with rfl | hpp
    · exact List.mem_cons_self
    · rcases List.mem_cons.mp hpp with rfl | hpp
      · exact List.mem_cons_of_mem _ List.mem_cons_self
      · exact List.mem_cons_of_mem _ (List.mem_cons_of_mem _ (hp _ hpp))
  · have nd := H2.nd
    simp only [List.map_cons, List.nodup_cons, List.mem_cons, not_or] at nd ⊢
    have sub : ∀ a, a ∈ n1.map (·.1) → a ∈ n.map (·.1) := fun a ha => by
      obtain ⟨q, hq, rfl⟩ := List.mem_map.mp ha
      exact List.mem_map_of_mem (hp _ hq)
    exact ⟨⟨nd.1.1, fun q => nd.1.2 (sub _ q)⟩, fun q => nd.2.1 (sub _ q), hnd⟩
  · rintro v new n2 s' ⟨rfl, es, n1', rfl, hq⟩ hs
    refine ⟨rfl, hR _ _ n1' s' hq fun n' u => ?_⟩
    have H4 := (hs _ (Sub.cons .head (Sub.cons (.tail .head) (u.tail.tail)))).to H.ok rfl rfl rfl rfl
    rw [List.append_assoc]; exact H4
theorem up_same {a : Addr} {d d' : OD} {n n' : Nw} (u : Up a d d' n n') (h : d = d') : n' = n := by
  induction u with
  | head => rw [h]
  | tail _ ih => rw [ih]
/-- a bound method is called -/
theorem callT_meth {r : Nat} {f p : Addr} {self : Value} {args : List Value} {n1 : Nw} {Q : Value → Nw → Nw → Prop} (h : CallT w r f (self :: args) n1 Q) : CallT w r p args ((p, .raw (methodObj (.ref f) self)) :: n1) fun v new n2 => ∃ n1', n2 = (p, .raw (methodObj (.ref f) self)) :: n1' ∧ Q v new n1' := by
  intro c m n s H hp hnd hr R hR
  obtain ⟨o, ho, hs, _⟩ := H.get (hp _ List.mem_cons_self)
  subst hs
  refine method_call ho (h c m n s H (fun q hq => hp q (List.mem_cons_of_mem _ hq)) (List.nodup_cons.mp hnd).2 hr R fun v new n1' s' hq hs => hR v new _ s' ⟨n1', rfl, hq⟩ fun n' u => ?_)
  cases u with
  | cons up u =>
    rw [up_same up rfl] at u
    exact hs n' u
theorem t_cwF {q : Addr} {first e rest} {Q : Value → Lo → Nw → Prop} (he : starEach (e :: rest) c.env = (false, eval e c.env) :: starEach rest c.env) (hp : (backTo pos (starEach rest c.env)).any (·.1) = false)
    (h : TT w c m n (spliced (backTo pos (starEach (e :: rest) c.env))) fun vs m1 n1 => (∃ oc od fd sl, (q, OD.raw ⟨oc, od, .func fd, sl⟩) ∈ n1) ∧ TT w c m1 n1 (call (.ref q) (first ++ vs)) Q) : TT w c m n (callWith pos (.ref q) first (backTo pos (starEach (e :: rest) c.env)) []) Q := fun s H E => by
  rw [he] at h ⊢
  refine callWith_of (by show ((false || (backTo pos (starEach rest c.env)).any (·.1)) || false) = false; rw [hp]; rfl) keeps_F (evalArgs_plain (wpAny_mono (h s H E) (fun vs s1 ⟨_, _, H1, ⟨oc, od, fd, sl, hm⟩, h1⟩ => ⟨?_, h1 s1 H1 E⟩) fun _ _ x => x))
  obtain ⟨o, ho, hs, _⟩ := H1.get hm
  subst hs
  exact ⟨oc, od, fd, sl, ho⟩
end

end Mine
end
section
open PySem PySem.W PySem.Calls PyProof.Rows
namespace Mine
section
variable {w : World} {c : Cx} {m : Lo} {n : Nw} {sc : Scope} {x : Str} {pos : Pos} {α : Type}

/-! comprehensions -/
noncomputable def compTests (ifs : List Expr) (env : Env) : Sem Bool := forIn ifs true fun c r => if r = true then do let ok ← isTrue c env (eval c env); pure (ForInStep.yield ok) else pure (ForInStep.yield r)
theorem t_tests0 {Q : Bool → Lo → Nw → Prop} (h : Q true m n) : TT w c m n (compTests [] c.env) Q := t_pure h
theorem t_tests1 {e : Expr} {Q : Bool → Lo → Nw → Prop} (h : TT w c m n (isTrue e c.env (eval e c.env)) Q) : TT w c m n (compTests [e] c.env) Q := fun s H E => wpAny_tests_one (h s H E)
theorem compTurn_in (elt target iter : Expr) (ifs : List Expr) (g : Comprehension) (scope : Scope) (pos : Pos) (it acc : Value) (env : Env) :
    compTurn (.ListComp elt [g, ⟨target, iter, ifs, 0⟩] scope pos) 1 it acc env = (do
      standAt iter.pos
      match ← pyNext it with
      | none => pure (.done .next)
      | some v =>
        letOwnedTupleGo target it v
        assign target env v
        let mut ok := true
        for c in ifs do
          if ok then ok ← isTrue c env (eval c env)
        if ok then
          (do let _ ← call (.builtin "list.append") [acc, ← eval elt env])
        again (.compLoop (.ListComp elt [g, ⟨target, iter, ifs, 0⟩] scope pos) 1 it acc env)) := by rfl
theorem compTurn_out (elt target iter t2 i2 : Expr) (f2 : List Expr) (scope : Scope) (pos : Pos) (it acc : Value) (env : Env) :
    compTurn (.ListComp elt [⟨target, iter, [], 0⟩, ⟨t2, i2, f2, 0⟩] scope pos) 0 it acc env = (do
      standAt iter.pos
      match ← pyNext it with
      | none => pure (.done .next)
      | some v =>
        letOwnedTupleGo target it v
        assign target env v
        let mut ok := true
        for c in ([] : List Expr) do
          if ok then ok ← isTrue c env (eval c env)
        if ok then
          let x ← eval i2 env
          standAt i2.pos
          let x ← foldedSetIterable i2 env x
          let _ ← runOwn (.compStart (.ListComp elt [⟨target, iter, [], 0⟩, ⟨t2, i2, f2, 0⟩] scope pos) 1 (← holding [x] (pyIter x)) acc env) env
        again (.compLoop (.ListComp elt [⟨target, iter, [], 0⟩, ⟨t2, i2, f2, 0⟩] scope pos) 0 it acc env)) := by rfl

theorem ct_loop {cd : Code} {t : Sem PySem.Fin} {Q : Flow → Lo → Nw → Prop} (hq : cd.quiet = true) (hu : c.A.under cd = c.A) (hden : (model PG w).den cd = t.onRaise (fun x => do noteFrame x c.env; theTreesLotGoes x)) (I : Nat → Lo → Nw → Prop)
    (turn : ∀ k m n, I k m n → TT w c m n t fun f m1 n1 => match f with | .done fl => Q fl m1 n1 | .again c' => c' = cd ∧ ∃ k', k' < k ∧ I k' m1 n1)
    (k : Nat) (h : I k m n) : CT w c m n cd Q := by
  intro s H R hR
  refine codeAny_loop hq (fun k s => ∃ m n, I k m n ∧ Hs w c m n s) ?_ k ⟨m, n, h, H⟩
  rintro k s ⟨m, n, hI, H⟩
  rw [hu, hden]
  refine wpAny_noted (wpAny_mono (turn k m n hI s H _) ?_ fun _ _ e => e)
  rintro f s1 ⟨m1, n1, H1, h1⟩
  cases f with
  | done fl => exact hR fl m1 n1 s1 H1 h1
  | again c' =>
    obtain ⟨rfl, k', hk, hI'⟩ := h1
    exact ⟨rfl, k', hk, m1, n1, hI', H1⟩

/-- one generator, or the inner of two -/
noncomputable abbrev turnOf (w : World) (c : Cx) (target elt : Expr) (ifs : List Expr) (it acc : Value) (I : Nat → Lo → Nw → Prop) (Q : Flow → Lo → Nw → Prop) (k : Nat) (m : Lo) (n : Nw) : Prop :=
  TT w c m n (pyNext it) fun r m1 n1 => match r with
      | none => Q .next m1 n1
      | some v => TT w c m1 n1 (letOwnedTupleGo target it v) fun _ m2 n2 => TT w c m2 n2 (assign target c.env v) fun _ m3 n3 => TT w c m3 n3 (compTests ifs c.env) fun ok m4 n4 =>
          if ok then TT w c m4 n4 (eval elt c.env) fun x m5 n5 => TT w c m5 n5 (call (.builtin "list.append") [acc, x]) fun _ m6 n6 => ∃ k', k' < k ∧ I k' m6 n6
          else ∃ k', k' < k ∧ I k' m4 n4
theorem turn_of {cd : Code} {p : Pos} {target elt : Expr} {ifs : List Expr} {it acc : Value} {I : Nat → Lo → Nw → Prop} {Q : Flow → Lo → Nw → Prop} {k : Nat} (h : turnOf w c target elt ifs it acc I Q k m n) :
    TT w c m n (do
      standAt p
      match ← pyNext it with
      | none => pure (.done .next)
      | some v =>
        letOwnedTupleGo target it v
        assign target c.env v
        let mut ok := true
        for cc in ifs do
          if ok then ok ← isTrue cc c.env (eval cc c.env)
        if ok then
          (do let _ ← call (.builtin "list.append") [acc, ← eval elt c.env])
        again cd) fun f m1 n1 => match f with | .done fl => Q fl m1 n1 | .again c' => c' = cd ∧ ∃ k', k' < k ∧ I k' m1 n1 := by
  refine t_bind (t_standAt (t_bind (t_mono h fun r m1 n1 h1 => ?_)))
  cases r with
  | none => exact t_pure h1
  | some v =>
    refine t_bind (t_mono h1 fun _ m2 n2 h2 => t_bind (t_mono h2 fun _ m3 n3 h3 => t_bind (t_mono h3 fun ok m4 n4 h4 => ?_)))
    cases ok with
    | false => exact t_pure ⟨rfl, h4⟩
    | true => exact t_bind (t_bind (t_mono h4 fun x m5 n5 h5 => t_bind (t_mono h5 fun _ m6 n6 h6 => t_pure (t_pure ⟨rfl, h6⟩))))
theorem ct_comp1 {elt target iter : Expr} {ifs : List Expr} {it acc : Value} {Q : Flow → Lo → Nw → Prop} (I : Nat → Lo → Nw → Prop)
    (turn : ∀ k m n, I k m n → turnOf w c target elt ifs it acc I Q k m n) (k : Nat) (h : I k m n) : CT w c m n (.compLoop (.ListComp elt [⟨target, iter, ifs, 0⟩] sc pos) 0 it acc c.env) Q :=
  ct_loop (t := compTurn (.ListComp elt [⟨target, iter, ifs, 0⟩] sc pos) 0 it acc c.env) rfl rfl rfl I (fun k m n hI => by rw [compTurn_list]; exact turn_of (turn k m n hI)) k h
theorem ct_comp2i {elt target iter : Expr} {ifs : List Expr} {it acc : Value} {g : Comprehension} {Q : Flow → Lo → Nw → Prop} (I : Nat → Lo → Nw → Prop)
    (turn : ∀ k m n, I k m n → turnOf w c target elt ifs it acc I Q k m n) (k : Nat) (h : I k m n) : CT w c m n (.compLoop (.ListComp elt [g, ⟨target, iter, ifs, 0⟩] sc pos) 1 it acc c.env) Q :=
  ct_loop (t := compTurn (.ListComp elt [g, ⟨target, iter, ifs, 0⟩] sc pos) 1 it acc c.env) rfl rfl rfl I (fun k m n hI => by rw [compTurn_in]; exact turn_of (turn k m n hI)) k h
theorem ct_comp2o {elt target iter t2 i2 : Expr} {f2 : List Expr} {it acc : Value} {Q : Flow → Lo → Nw → Prop} (I : Nat → Lo → Nw → Prop) (hs : ∀ x, foldedSetIterable i2 c.env x = pure x)
    (turn : ∀ k m n, I k m n → TT w c m n (pyNext it) fun r m1 n1 => match r with
      | none => Q .next m1 n1
      | some v => TT w c m1 n1 (letOwnedTupleGo target it v) fun _ m2 n2 => TT w c m2 n2 (assign target c.env v) fun _ m3 n3 => TT w c m3 n3 (eval i2 c.env) fun x m4 n4 => TT w c m4 n4 (pyIter x) fun it' m5 n5 =>
          CT w c m5 n5 (.compStart (.ListComp elt [⟨target, iter, [], 0⟩, ⟨t2, i2, f2, 0⟩] sc pos) 1 it' acc c.env) fun _ m6 n6 => ∃ k', k' < k ∧ I k' m6 n6) (k : Nat) (h : I k m n) :
    CT w c m n (.compLoop (.ListComp elt [⟨target, iter, [], 0⟩, ⟨t2, i2, f2, 0⟩] sc pos) 0 it acc c.env) Q :=
  ct_loop (t := compTurn (.ListComp elt [⟨target, iter, [], 0⟩, ⟨t2, i2, f2, 0⟩] sc pos) 0 it acc c.env) rfl rfl rfl I (fun k m n hI => by
    rw [compTurn_out]
    refine t_bind (t_standAt (t_bind (t_mono (turn k m n hI) fun r m1 n1 h1 => ?_)))
    cases r with
    | none => exact t_pure h1
    | some v =>
      refine t_bind (t_mono h1 fun _ m2 n2 h2 => t_bind (t_mono h2 fun _ m3 n3 h3 => ?_))
      dsimp only [List.forIn_nil]
      refine t_bind (t_pure ?_)
      rw [if_pos rfl]
      refine t_bind (t_mono h3 fun x m4 n4 h4 => t_bind (t_standAt ?_))
      rw [hs]
      exact t_bind (t_pure (t_bind (t_holding (t_mono h4 fun it' m5 n5 h5 => t_bind (t_runOwn (fun s H R hR => h5 s H R fun f m' n' s' H' hq => hR f m' n' s' H' (t_pure ⟨rfl, hq⟩)))))))) k h
theorem ct_start {elt : Expr} {gens : List Comprehension} {d : Nat} {target iter : Expr} {ifs : List Expr} {it acc : Value} {Q : Flow → Lo → Nw → Prop} (hg : gens[d]? = some ⟨target, iter, ifs, 0⟩)
    (h0 : CT w c m n (.compLoop (.ListComp elt gens sc pos) d it acc c.env) Q) (h : TT w c m n (pyIter it) fun it' m' n' => CT w c m' n' (.compLoop (.ListComp elt gens sc pos) d it' acc c.env) Q) :
    CT w c m n (.compStart (.ListComp elt gens sc pos) d it acc c.env) Q := by
  intro s H R hR
  refine codeAny_of_tree ?_
  show wpAny _ _ ((compStart (.ListComp elt gens sc pos) d it acc c.env).onRaise (fun x => do noteFrame x c.env; standAt theWindowsPlace)) _ _ s
  refine wpAny_notedAt ?_
  unfold compStart
  have e1 : (clausesOf (.ListComp elt gens sc pos)) = gens := rfl
  rw [e1, hg]
  show wpAny _ _ (ask >>= _) _ _ s
  refine wpAny_bind (wpAny_askSetting (wpAny_ite ?_))
  split
  · first
      | exact wpAny_bind (wpAny_pure (wpAny_pure (And.intro rfl (h0 s H R hR))))
      | exact wpAny_pure (And.intro rfl (h0 s H R hR))
  · have go : ∀ E', wpAny (model PG w) c.A (pyIter it) (fun it' s' => codeAny (model PG w) c.A (.compLoop (.ListComp elt gens sc pos) d it' acc c.env) R s') E' s := fun E' => wpAny_mono (h s H E') (fun it' s' ⟨m', n', H', h'⟩ => h' s' H' R hR) fun _ _ e => e
    first
      | exact wpAny_bind (wpAny_rule (wpAny_bind (wpAny_standAt (wpAny_bind (wpAny_mono (go _) (fun it' s' h' => wpAny_pure (And.intro rfl h')) fun _ _ x => x)))))
      | (refine wpAny_bind (wpAny_rule ?_); show wpAny _ _ (standAt iter.pos >>= _) _ _ s; exact wpAny_bind (wpAny_standAt (wpAny_bind (wpAny_mono (go _) (fun it' s' h' => wpAny_pure (And.intro rfl h')) fun _ _ x => x))))
end

end Mine
end
section
open PySem PySem.W PySem.Calls PyProof.Rows
namespace Mine
section
variable {w : World} {c : Cx} {m : Lo} {n : Nw} {sc : Scope} {x : Str} {pos : Pos} {α : Type}

/-! into a comprehension -/
theorem compScope (e : EnvK c sc) (scope : Scope) (k : sc.kind = .function) : relabel scope c.env = { scope with names := scope.names.map fun (n, k) => if (k == .free && sc.names.lookup n == some .cell) then (n, .cell) else (n, k) } := by
  unfold relabel Env.kindOf
  rw [e, k]
  simp only [beq_self_eq_true, Bool.and_true]
theorem lk_nones (ns : List Str) (y : Str) : lk (ns.map (·, none)) y = none := by
  have := lk_some [] ns y
  simpa using this

/-- how the comprehension's frame stands -/
structure CompCx (c c' : Cx) (scope : Scope) (cl : List (Str × Addr)) : Prop where
  sc : c'.env.scope = relabel scope c.env
  cells : c'.env.cells = cl
  r : c'.r = c.r
  gen : c'.gen = c.gen

theorem comp_core {elt target iter : Expr} {ifs : List Expr} {gs : List Comprehension} {scope : Scope} {cl : List (Str × Addr)} {it : Value} {vars : List Str} {s : Shared} {E : Value → Shared → Prop} {RR : Value → Addr → Result → Shared → Prop} {Q : Addr → Lo → Nw → Prop}
    (H : Hs w c m n s) (hcell : ∀ x ∈ scope.names, x.2 ≠ .cell) (hkind : scope.kind = .function) (hvd : vars.Nodup)
    (h : ∀ acc c', CompCx c c' scope cl → CT w c' (vars.map (·, none)) ((acc, .list []) :: n) (.compStart (.ListComp elt (⟨target, iter, ifs, 0⟩ :: gs) scope pos) 0 it (.ref acc) c'.env) fun _ _ n3 => Q acc m n3)
    (hRR : ∀ acc C f n3 s' mC, Q acc m n3 → Hs w c m n3 s' → s'.heap.Ns C mC → C ∉ n3.map (·.1) → C ≠ c.L → c.h₀.get? C = none → RR (.ref acc) C (.ok f) s') :
    wpAny (model PG w) c.A (newList []) (fun acc s₃ => wpAny (model PG w) c.A (newFunctionEnv scope c.env.globals cl [] c.env.qual none .none (some c.env)) (fun cenv s₄ =>
      codeAny (model PG w) c.A (.compStart (.ListComp elt (⟨target, iter, ifs, 0⟩ :: gs) scope pos) 0 it acc { cenv with scope := relabel scope c.env }) (RR acc cenv.locals) s₄) E s₃) E s := by
  refine wpAny_newObj_type (wpAny_newFunctionEnv hcell (by intro y hy; simp at hy) (fun h₁ hns hsb => ?_) hkind)
  have H3 := H.push (o := { cls := .type "list", data := .seq ([] : List Value).toArray }) (d := .list []) ⟨0, rfl⟩
  have hns : h₁.Ns (s.heap.push { cls := .type "list", data := .seq ([] : List Value).toArray }).objs.size (fun x => ([] : List (Str × Value)).reverse.lookup x) := hns
  have hsb : Heap.SameBut (s.heap.push { cls := .type "list", data := .seq ([] : List Value).toArray }).objs.size ((s.heap.push { cls := .type "list", data := .seq ([] : List Value).toArray }).push { cls := .type "dict", data := .dict #[] }) h₁ := hsb
  generalize hh3 : s.heap.push { cls := .type "list", data := .seq ([] : List Value).toArray } = h3 at H3 hns hsb
  have hk₁ : ∀ b o, h3.get? b = some o → h₁.get? b = some o := fun b o e => hsb.extBut b o (Nat.ne_of_lt (Heap.lt_size e)) (Heap.get?_push_of_some _ e)
  let env' : Env := compEnvC scope cl h3.objs.size c.env
  let n3 : Nw := (s.heap.objs.size, .list []) :: n
  let c' : Cx := ⟨hideAll h3 (n3.map (·.1)), c.A, h3.objs.size, env', s.gens, c.os, c.r, c.gen⟩
  have st : ∀ b o, c.h₀.get? b = some o → (hideAll h3 (n3.map (·.1))).get? b = some o := hide_keep H3 fun _ h => h
  obtain ⟨p, lo, mg, mb, T⟩ := H.ok.T
  have ok' : Ok w c' := ⟨H.ok.X.keeps st, ⟨p, lo, mg, mb, T.keeps st⟩, H.ok.hh, H.ok.S.keeps st, H.ok.frs, H.ok.frm, H.ok.dep, H.ok.uni, rfl, H.ok.glo, H.ok.bui, hkind⟩
  have hle : s.heap.objs.size < h3.objs.size := by rw [← hh3, Heap.size_push]; exact Nat.lt_succ_self _
  have H4 : Hs w c' (vars.map (·, none)) n3 { s with heap := h₁, toks := s.toks + ([] : List (Str × Value)).length } := by
    refine ⟨ok', ⟨?_, fun b o e => hk₁ b o (of_hideAll _ e), hide_new _ _⟩, mkNews fun a d hm => ?_, H3.nd, by rw [List.map_map]; simpa [Function.comp_def] using hvd, fun i x e => e, H3.bare, H3.os⟩
    · have : lk (vars.map (·, none)) = fun x => ([] : List (Str × Value)).reverse.lookup x := by
        funext y; rw [lk_nones]; rfl
      rw [this]; exact hns
    · obtain ⟨o, h1, h2, h3', h4⟩ := H3.get hm
      exact ⟨o, hk₁ _ _ h1, h2, Nat.ne_of_lt (Heap.lt_size h1), hideAll_none _ (List.mem_map_of_mem (f := (·.1)) hm)⟩
  refine h s.heap.objs.size c' ⟨rfl, rfl, rfl, rfl⟩ _ H4 _ ?_
  intro f m' n4 s' H5 hq
  have H6 := H3.backAll (c' := c') rfl rfl rfl H5
  refine hRR _ _ f n4 s' _ hq H6 H5.fr.ns ?_ ?_ ?_
  · intro hm
    obtain ⟨⟨a, d⟩, hm, e⟩ := List.mem_map.mp hm
    have e : a = h3.objs.size := e
    obtain ⟨_, _, _, q, _⟩ := H5.get hm
    exact q e
  · obtain ⟨oL, _, _, hL, _⟩ := H.fr.ns
    exact fun (e : h3.objs.size = c.L) => Nat.lt_irrefl _ (Nat.lt_trans (e ▸ Heap.lt_size hL) hle)
  · show c.h₀.get? h3.objs.size = none
    cases q : c.h₀.get? h3.objs.size with
    | none => rfl
    | some o' => exact absurd (Nat.lt_trans (Heap.lt_size (H.fr.keep _ _ q)) hle) (Nat.lt_irrefl _)
theorem t_Comp {elt target iter : Expr} {ifs : List Expr} {gs : List Comprehension} {scope : Scope} {cl : List (Str × Addr)} (vars : List Str) {Q : Value → Lo → Nw → Prop} (hs : ∀ x, foldedSetIterable iter c.env x = pure x)
    (hclos : closureFor scope c.env = pure cl) (hcell : ∀ x ∈ scope.names, x.2 ≠ .cell) (hkind : scope.kind = .function) (hnames : ∀ x ∈ scope.names, x.2 = .local → scope.names.lookup x.1 = some .local) (hvd : vars.Nodup)
    (h : TT w c m n (eval iter c.env) fun x m1 n1 => TT w c m1 n1 (pyIter x) fun it m2 n2 => ∀ acc c', CompCx c c' scope cl → CT w c' (vars.map (·, none)) ((acc, .list []) :: n2) (.compStart (.ListComp elt (⟨target, iter, ifs, 0⟩ :: gs) scope pos) 0 it (.ref acc) c'.env) fun _ _ n3 => Q (.ref acc) m2 n3) :
    TT w c m n (eval (.ListComp elt (⟨target, iter, ifs, 0⟩ :: gs) scope pos) c.env) Q := fun s H E => by
  rw [eval_ListComp]
  refine wpAny_comprehension_free (use := none) rfl hs hclos hkind hnames (wpAny_mono (h s H E) (fun xv s₁ ⟨m1, n1, H1, h1⟩ => wpAny_mono (h1 s₁ H1 E) (fun it s₂ ⟨m2, n2, H2, h2⟩ => ?_) fun _ _ e => e) fun _ _ e => e)
  refine comp_core (Q := fun acc m n => Q (.ref acc) m n) (RR := compPost (model PG w) c.A E none _) H2 hcell hkind hvd h2 ?_
  intro acc C f n3 s' mC hq H3 hns hC1 hC2 hC3
  exact ⟨mC, hns, fun h' hsb => ⟨m2, n3, H3.side hC1 hC2 hC3 hsb.extBut _, hq⟩⟩
theorem t_AsgComp {elt target iter : Expr} {ifs : List Expr} {gs : List Comprehension} {scope : Scope} {cl : List (Str × Addr)} (vars : List Str) {spos py : Pos} {y : Str} {Q : Flow → Lo → Nw → Prop} (hE : EnvK c sc) (hk : sc.names.lookup y = some .local)
    (hsw : swapsWith (.ListComp elt (⟨target, iter, ifs, 0⟩ :: gs) scope pos) (some (.Name y py)) spos.line c.env = pure true) (hs : ∀ x, foldedSetIterable iter c.env x = pure x)
    (hclos : closureFor scope c.env = pure cl) (hcell : ∀ x ∈ scope.names, x.2 ≠ .cell) (hkind : scope.kind = .function) (hnames : ∀ x ∈ scope.names, x.2 = .local → scope.names.lookup x.1 = some .local) (hvd : vars.Nodup)
    (h : TT w c m n (eval iter c.env) fun x m1 n1 => TT w c m1 n1 (pyIter x) fun it m2 n2 => ∀ acc c', CompCx c c' scope cl → CT w c' (vars.map (·, none)) ((acc, .list []) :: n2) (.compStart (.ListComp elt (⟨target, iter, ifs, 0⟩ :: gs) scope pos) 0 it (.ref acc) c'.env) fun _ _ n3 =>
      ∃ m3, LUp y (some (.ref acc)) m2 m3 ∧ Q .next m3 n3) :
    TT w c m n (exec (.Assign [.Name y py] (.ListComp elt (⟨target, iter, ifs, 0⟩ :: gs) scope pos) spos) c.env) Q := fun s H E => by
  rw [exec_Assign_Name_used _ _ _ _ hsw]
  refine wpAny_bind (wpAny_standAt (wpAny_bind ?_))
  show wpAny _ c.A (do let _ ← comprehension (.ListComp elt (⟨target, iter, ifs, 0⟩ :: gs) scope pos) scope c.env _ (newList []) false (eval iter c.env) (some (assign (.Name y py) c.env))) _ _ s
  refine wpAny_bind (wpAny_mono (wpAny_comprehension_free (use := some (assign (.Name y py) c.env)) (Q := fun _ s' => ∃ m' n', Hs w c m' n' s' ∧ Q .next m' n') rfl hs hclos hkind hnames
    (wpAny_mono (h s H E) (fun xv s₁ ⟨m1, n1, H1, h1⟩ => wpAny_mono (h1 s₁ H1 E) (fun it s₂ ⟨m2, n2, H2, h2⟩ => ?_) fun _ _ e => e) fun _ _ e => e)) (fun _ s' hq => wpAny_pure (wpAny_pure hq)) fun _ _ e => e)
  refine comp_core (Q := fun acc m2 n3 => ∃ m3, LUp y (some (.ref acc)) m2 m3 ∧ Q .next m3 n3) (RR := compPost (model PG w) c.A E (some (assign (.Name y py) c.env)) _) H2 hcell hkind hvd h2 ?_
  intro acc C f n3 s' mC ⟨m3, hl, hq⟩ H3 hns hC1 hC2 hC3
  show wpAny _ c.A (assign (.Name y py) c.env (.ref acc)) _ _ _
  refine wpAny_assign_Name (wpAny_storeName_local (hE.kind hk) H3.ns (fun h' hn' hs' => ?_) (by rw [H3.ok.knd]; rfl))
  rw [H3.ok.loc] at hn' hs'
  have H4 := H3.store hl hn' hs' (s'.toks + 1)
  exact ⟨mC, hns.sameBut hs' hC2, fun h'' hsb => ⟨m3, n3, H4.side hC1 hC2 hC3 hsb.extBut _, hq⟩⟩
end

end Mine
end
section
open PySem PySem.W PySem.Calls PyProof.Rows
namespace Mine
section
variable {w : World} {c : Cx} {m : Lo} {n : Nw} {sc : Scope} {x : Str} {pos : Pos} {α : Type}

/-! defs with cells -/
noncomputable def cellNw (cm : Str → Option Value) (cs : List (Str × Addr)) : Nw := cs.map fun p => (p.2, .cell (cm p.1))

theorem callT_defC {r : Nat} {f : Addr} {args : List Value} {n1 : Nw} {Q : Value → Nw → Nw → Prop} {name qual : Str} {params : Arguments} {body : List Stmt} {scope : Scope} {dV kV doc pm cdv ct oc : Value} {an od : Option Addr} {osl : Array (Option Value)}
    (ho : (hd.heap_1 w.params).lookup f = some ⟨oc, od, .func (fnOf name qual params body scope dV kV doc pm an cdv ct), osl⟩) (hcd : codeIn (hd.heap_1 w.params) cdv qual = true)
    (binds : List (Str × Value)) (m₀ : Lo) (hm : ∀ y, lk m₀ y = bindL (fun y => scope.names.lookup y) binds (fun _ => none) y) (hky : (m₀.map (·.1)).Nodup)
    (hbind : bindArgs (fnOf name qual params body scope dV kV doc pm an cdv ct) ⟨args, []⟩ = pure binds)
    (hkind : ∀ n, ∀ x ∈ binds, scope.names.lookup x.1 = some .local ∨ (scope.names.lookup x.1 = some .cell ∧ ((cellsFrom n scope.names []).lookup x.1).isSome = true))
    (hnd : ((cellsFrom 0 scope.names []).map (·.1)).Nodup)
    (hco : scope.isCoroutine = false) (hgen : scope.isGenerator = false) (hk : scope.kind = .function)
    (h : ∀ c', EnvK c' scope → c'.env.cells = cellsFrom (c'.L + 1) scope.names [] → c'.env.code = cdv → r ≤ c'.r → c'.gen = false →
      TT w c' m₀ (cellNw (bindC (fun y => scope.names.lookup y) binds fun _ => none) (cellsFrom (c'.L + 1) scope.names []) ++ n1) (execs body c'.env) fun fl _ n2 => ∃ new n1', (new ++ n1').Sublist n2 ∧ Q (retv fl) new n1') : CallT w (r + 1) f args n1 Q := by
  intro c m n s H hp hnd1 hr R hR
  obtain ⟨p, lo, mg, mb, T⟩ := H.ok.T
  have hdep : c.A.depth < recursionLimit := by have := H.ok.dep; show c.A.depth < 1000; omega
  refine codeAny_call_function hdep (H.X _ _ ho) rfl hco hgen rfl (codeRec_of H.X hcd) ?_
  rw [hbind]
  refine wpAny_pure ?_
  refine wpAny_newFunctionEnv_cells hk (hkind _) fun env' he s' xc => ?_
  subst he
  refine ⟨(T.nolimit.keeps H.fr.keep).keeps xc.toInCall.keep, codeAny_func ?_⟩
  obtain ⟨h₁, tk, rfl, _⟩ := xc.done
  have hk₁ := xc.toInCall.keep
  have st := hide_keep H hp
  let env' : Env := newEnv scope s.heap.objs.size mainGlobals (cellsFrom (s.heap.objs.size + 1) scope.names []) (qual ++ ".<locals>.") (some f) cdv none builtinsNs
  let c' : Cx := ⟨hideAll s.heap (n1.map (·.1)), c.A.deeper env', s.heap.objs.size, env', s.gens, c.os, c.r - 1, false⟩
  have ok' : Ok w c' := ⟨H.ok.X.keeps st, ⟨p, lo, mg, mb, T.keeps st⟩, H.ok.hh, H.ok.S.keeps st, (fun _ => by
      obtain ⟨l, hl⟩ := H.ok.frm
      exact ⟨env', l, by show c.A.frames.map _ = _; rw [hl]; rfl, hgen, hco, rfl, rfl⟩), (by
      obtain ⟨l, hl⟩ := H.ok.frm
      exact ⟨env' :: l, by show c.A.frames.map _ = _; rw [hl]; rfl⟩), (by
      have := H.ok.dep; show (c.A.depth + 1) + 10 * (c.r - 1) ≤ 800; omega), (by have := H.ok.uni; show (c.A.units + 3) + 100 * (c.r - 1) ≤ 9000; omega), rfl, rfl, rfl, hk⟩
  let cs := cellsFrom (s.heap.objs.size + 1) scope.names []
  have hcn : cs.map (·.1) = (cellsFrom 0 scope.names []).map (·.1) := cellsFrom_names scope.names (s.heap.objs.size + 1) 0 [] [] rfl
  have hcl : ∀ q ∈ cs, s.heap.objs.size < q.2 := fun q hq => xc.above q.1 q.2 hq
  have lt1 : ∀ {a d}, (a, d) ∈ n1 → a < s.heap.objs.size := fun hm => H.lt (hp _ hm)
  have H1 : Hs w c' m₀ (cellNw (bindC (fun y => scope.names.lookup y) binds fun _ => none) cs ++ n1) { s with heap := h₁, toks := tk } := by
    refine ⟨ok', ⟨?_, fun b o e => hk₁ b o (of_hideAll _ e), hide_new _ _⟩, mkNews fun a d hm' => ?_, ?_, hky, fun i x e => e, H.bare, H.os⟩
    · have : lk m₀ = bindL (fun y => scope.names.lookup y) binds fun _ => none := funext hm
      rw [this]; exact xc.toInCall.ns
    · rcases List.mem_append.mp hm' with hm' | hm'
      · obtain ⟨⟨y, a'⟩, hq, e⟩ := List.mem_map.mp hm'
        cases e
        obtain ⟨o, ho', hd'⟩ := xc.cell y a' (lookup_of_mem_nodup (hcn ▸ hnd) hq)
        have hlt : s.heap.objs.size < a' := hcl _ hq
        refine ⟨o, ho', hd', Nat.ne_of_gt hlt, ?_⟩
        show (hideAll s.heap _).get? a' = none
        cases q : (hideAll s.heap (n1.map (·.1))).get? a' with
        | none => rfl
        | some o' => exact absurd (Heap.lt_size (of_hideAll _ q)) (Nat.not_lt.mpr (Nat.le_of_lt hlt))
      · obtain ⟨o, h1, h2, h3, h4⟩ := H.get (hp _ hm')
        exact ⟨o, hk₁ _ _ h1, h2, Nat.ne_of_lt (Heap.lt_size h1), hideAll_none _ (List.mem_map_of_mem (f := (·.1)) hm')⟩
    · rw [List.map_append, List.nodup_append]
      refine ⟨?_, hnd1, fun a ha b hb e => ?_⟩
      · have e : (cellNw (bindC (fun y => scope.names.lookup y) binds fun _ => none) cs).map (·.1) = cs.map (·.2) := by simp [cellNw, Function.comp_def]
        rw [e]
        exact List.pairwise_map.mpr xc.apart
      · subst e
        obtain ⟨⟨a1, d1⟩, h1, rfl⟩ := List.mem_map.mp ha
        obtain ⟨⟨y, a'⟩, hq, e⟩ := List.mem_map.mp h1
        obtain ⟨⟨b1, e1⟩, h2, e2⟩ := List.mem_map.mp hb
        have e2 : b1 = a1 := e2
        have e : a' = a1 := congrArg Prod.fst e
        have := hcl _ hq
        have h3 := lt1 h2
        subst e2 e
        exact absurd this (Nat.not_lt.mpr (Nat.le_of_lt h3))
  refine wpAny_mono (h c' rfl rfl rfl (by show r ≤ c.r - 1; omega) rfl _ H1 _) ?_ fun _ _ x => x
  rintro fl s' ⟨m', n2, H2, new, n1', hsub, hq⟩
  have H2 : Hs w c' m' (new ++ n1') s' := ⟨H2.ok, H2.fr, mkNews fun a d hm => H2.get (hsub.subset hm), (hsub.map _).nodup H2.nd, H2.ky, H2.gens, H2.bare, H2.os⟩
  have key := hR _ new n1' s' hq fun n' u => Hs.back (c' := c') H hp rfl rfl rfl H2 u
  cases fl <;> exact key

/-! a lambda is called -/
theorem callT_lam {r : Nat} {f : Addr} {args : List Value} {n1 : Nw} {Q : Value → Nw → Nw → Prop} {name qual : Str} {params : Arguments} {body : Expr} {scope : Scope} {cl : List (Str × Addr)} {pm ctv : Value} {c' : Addr} {oc : Obj} {vs : Array Value} {t : Tok}
    (ho : (f, .raw (kla_obj name qual params body scope cl pm c' ctv)) ∈ n1) (hc : (c', .raw oc) ∈ n1) (hd1 : oc.data = .fields vs) (hd2 : vs[1]? = some (.str qual t))
    (ps ns : List Str) (m₀ : Lo) (hm : m₀ = lo0 ps args ns) (hln : ps.length = args.length)
    (hbind : bindArgs (kla_fn name qual params body scope cl pm (.ref c') ctv) ⟨args, []⟩ = pure (ps.zip args)) (hloc : (ps.all fun x => decide (scope.names.lookup x = some .local)) = true) (hcell : (scope.names.all fun x => x.2 != .cell) = true) (hky : (ps ++ ns).Nodup)
    (hco : scope.isCoroutine = false) (hgen : scope.isGenerator = false) (hk : scope.kind = .function)
    (h : ∀ c', EnvK c' scope → c'.env.cells = cl → r ≤ c'.r → c'.gen = false → TT w c' m₀ n1 (eval body c'.env) fun v _ n2 => ∃ new n1', (new ++ n1').Sublist n2 ∧ Q v new n1') : CallT w (r + 1) f args n1 Q := by
  subst hm
  unfold lo0 at h
  have hky : ((ps.zip args).map (·.1) ++ ns).Nodup := by rw [zip_keys hln]; exact hky
  have hloc : ((ps.zip args).all fun x => decide (scope.names.lookup x.1 = some .local)) = true := by
    rw [List.all_eq_true] at hloc ⊢
    intro x hx
    exact hloc x.1 (List.of_mem_zip hx).1
  have hcell : ∀ x ∈ scope.names, x.2 ≠ .cell := fun x hx => by simpa using List.all_eq_true.mp hcell x hx
  generalize ps.zip args = binds at *
  intro c m n s H hp hnd hr R hR
  obtain ⟨p, lo, mg, mb, T⟩ := H.ok.T
  have hdep : c.A.depth < recursionLimit := by have := H.ok.dep; show c.A.depth < 1000; omega
  obtain ⟨of, hof, hsf, _⟩ := H.get (hp _ ho)
  obtain ⟨occ, hoc, hsc, _⟩ := H.get (hp _ hc)
  subst hsf hsc
  refine kla_callFunE hdep hof rfl hco hgen rfl ⟨c', _, vs, t, rfl, hoc, hd1, hd2⟩ ?_
  rw [hbind]
  refine wpAny_pure (wpAny_newFunctionEnv hcell (locs hloc) (fun h₁ hns hsb => ⟨(T.nolimit.keeps H.fr.keep).fresh _ hsb, kla_codeExpr ?_⟩) hk)
  have hk₁ : ∀ b o, s.heap.get? b = some o → h₁.get? b = some o := fun b o e => hsb.extBut b o (Nat.ne_of_lt (Heap.lt_size e)) (Heap.get?_push_of_some _ e)
  have st := hide_keep H hp
  let env' : Env := newEnv scope s.heap.objs.size mainGlobals cl (qual ++ ".<locals>.") (some f) (.ref c') none builtinsNs
  let cc : Cx := ⟨hideAll s.heap (n1.map (·.1)), c.A.deeper env', s.heap.objs.size, env', s.gens, c.os, c.r - 1, false⟩
  have K1 : ((binds.map (fun p => (p.1, some p.2)) ++ ns.map (·, none) : Lo).map (·.1)) = binds.map (·.1) ++ ns := by simp [List.map_append, List.map_map, Function.comp_def]
  have ok' : Ok w cc := ⟨H.ok.X.keeps st, ⟨p, lo, mg, mb, T.keeps st⟩, H.ok.hh, H.ok.S.keeps st, (fun _ => by
      obtain ⟨l, hl⟩ := H.ok.frm
      exact ⟨env', l, by show c.A.frames.map _ = _; rw [hl]; rfl, hgen, hco, rfl, rfl⟩), (by
      obtain ⟨l, hl⟩ := H.ok.frm
      exact ⟨env' :: l, by show c.A.frames.map _ = _; rw [hl]; rfl⟩), (by
      have := H.ok.dep; show (c.A.depth + 1) + 10 * (c.r - 1) ≤ 800; omega), (by have := H.ok.uni; show (c.A.units + 3) + 100 * (c.r - 1) ≤ 9000; omega), rfl, rfl, rfl, hk⟩
  have H1 : Hs w cc (binds.map (fun p => (p.1, some p.2)) ++ ns.map (·, none)) n1 { s with heap := h₁, toks := s.toks + binds.length } := by
    refine ⟨ok', ⟨?_, fun b o e => hk₁ b o (of_hideAll _ e), hide_new _ _⟩, mkNews fun a d hm => ?_, hnd, by rw [K1]; exact hky, fun i x e => e, H.bare, H.os⟩
    · have : lk (binds.map (fun p => (p.1, some p.2)) ++ ns.map (·, none)) = fun x => binds.reverse.lookup x := by
        funext y; rw [lk_some, lookup_rev (List.nodup_append.mp hky).1]
      rw [this]; exact hns
    · obtain ⟨o, h1, h2, h3, h4⟩ := H.get (hp _ hm)
      exact ⟨o, hk₁ _ _ h1, h2, Nat.ne_of_lt (Heap.lt_size h1), hideAll_none _ (List.mem_map_of_mem (f := (·.1)) hm)⟩
  refine wpAny_mono (h cc rfl rfl (by show r ≤ c.r - 1; omega) rfl _ H1 _) ?_ fun _ _ x => x
  rintro v s' ⟨m', n2, H2, new, n1', hsub, hq⟩
  have H2 : Hs w cc m' (new ++ n1') s' := ⟨H2.ok, H2.fr, mkNews fun a d hm => H2.get (hsub.subset hm), (hsub.map _).nodup H2.nd, H2.ky, H2.gens, H2.bare, H2.os⟩
  exact hR _ new n1' s' hq fun n' u => Hs.back (c' := cc) H hp rfl rfl rfl H2 u
end

end Mine
end
section
open PySem PySem.W PySem.Calls PyProof.Rows
namespace Mine
section
variable {w : World} {c : Cx} {m : Lo} {n : Nw} {sc : Scope} {x : Str} {pos : Pos} {α : Type}

/-! statements -/
theorem t_AsgAttr {o attr p' e} {Q : Flow → Lo → Nw → Prop} (hs : swapsWith e (some (.Attribute o attr p')) pos.line c.env = pure false)
    (h : TT w c m n (eval e c.env) fun v m1 n1 => TT w c m1 n1 (eval o c.env) fun ov m2 n2 => TT w c m2 n2 (setAttr ov attr v) fun _ m3 n3 => Q .next m3 n3) : TT w c m n (exec (.Assign [.Attribute o attr p'] e pos) c.env) Q := fun s H E =>
  plainObj_wpAny_Assign_Attribute (wpAny_mono (h s H E) (fun _ s1 ⟨_, _, H1, h1⟩ => wpAny_mono (h1 s1 H1 E) (fun _ s2 ⟨_, _, H2, h2⟩ => h2 s2 H2 E) fun _ _ x => x) fun _ _ x => x) hs
theorem t_AugAttr {o attr p' e op} {Q : Flow → Lo → Nw → Prop} (h : TT w c m n (eval o c.env) fun ov m1 n1 => TT w c m1 n1 (getAttr ov attr true) fun old m2 n2 => TT w c m2 n2 (eval e c.env) fun v m3 n3 => TT w c m3 n3 (inplaceOp op old v) fun r m4 n4 =>
      TT w c m4 n4 (setAttr ov attr r) fun _ m5 n5 => Q .next m5 n5) : TT w c m n (exec (.AugAssign (.Attribute o attr p') op e pos) c.env) Q := fun s H E =>
  wpAny_AugAssign_AttributeAny (wpAny_mono (h s H E) (fun _ s1 ⟨_, _, H1, h1⟩ => wpAny_mono (h1 s1 H1 E) (fun _ s2 ⟨_, _, H2, h2⟩ => wpAny_mono (h2 s2 H2 E) (fun _ s3 ⟨_, _, H3, h3⟩ => wpAny_mono (h3 s3 H3 E) (fun _ s4 ⟨_, _, H4, h4⟩ => h4 s4 H4 E) fun _ _ x => x) fun _ _ x => x) fun _ _ x => x) fun _ _ x => x)
theorem t_AsgSub {o i p' e} {Q : Flow → Lo → Nw → Prop} (hs : swapsWith e (some (.Subscript o i p')) pos.line c.env = pure false)
    (h : TT w c m n (eval e c.env) fun v m1 n1 => TT w c m1 n1 (eval o c.env) fun ov m2 n2 => TT w c m2 n2 (eval i c.env) fun iv m3 n3 => TT w c m3 n3 (setItem ov iv v) fun _ m4 n4 => Q .next m4 n4) : TT w c m n (exec (.Assign [.Subscript o i p'] e pos) c.env) Q := fun s H E =>
  wpAny_Assign_Subscript (wpAny_mono (h s H E) (fun _ s1 ⟨_, _, H1, h1⟩ => wpAny_mono (h1 s1 H1 E) (fun _ s2 ⟨_, _, H2, h2⟩ => wpAny_mono (h2 s2 H2 E) (fun _ s3 ⟨_, _, H3, h3⟩ => h3 s3 H3 E) fun _ _ x => x) fun _ _ x => x) fun _ _ x => x) hs
theorem t_Asg3 {t1 t2 t3 e} {Q : Flow → Lo → Nw → Prop} (he : (assignEach [t1, t2, t3] c.env).map (·.2) = [assign t1 c.env, assign t2 c.env, assign t3 c.env]) (hw : swappedStores [t1, t2, t3] e c.env = pure none)
    (h : TT w c m n (eval e c.env) fun v m1 n1 => TT w c m1 n1 (assign t1 c.env v) fun _ m2 n2 => TT w c m2 n2 (assign t2 c.env v) fun _ m3 n3 => TT w c m3 n3 (assign t3 c.env v) fun _ m4 n4 => Q .next m4 n4) : TT w c m n (exec (.Assign [t1, t2, t3] e pos) c.env) Q := fun s H E =>
  wpAny_Assign_three (wpAny_mono (h s H E) (fun _ s1 ⟨_, _, H1, h1⟩ => wpAny_mono (h1 s1 H1 E) (fun _ s2 ⟨_, _, H2, h2⟩ => wpAny_mono (h2 s2 H2 E) (fun _ s3 ⟨_, _, H3, h3⟩ => h3 s3 H3 E) fun _ _ x => x) fun _ _ x => x) fun _ _ x => x) he hw
theorem t_AsgTup {elts k p' e} {Q : Flow → Lo → Nw → Prop} (hs : swapsWithSole [.Tuple elts k p'] e pos.line c.env = pure false) (hw : swappedStores [.Tuple elts k p'] e c.env = pure none)
    (h : TT w c m n (eval e c.env) fun v m1 n1 => TT w c m1 n1 (assign (.Tuple elts k p') c.env v) fun _ m2 n2 => Q .next m2 n2) : TT w c m n (exec (.Assign [.Tuple elts k p'] e pos) c.env) Q := fun s H E =>
  Assign_Tuple (wpAny_mono (h s H E) (fun _ s1 ⟨_, _, H1, h1⟩ => h1 s1 H1 E) fun _ _ x => x) hs hw
theorem t_AsgSwap {elts k p' e} {names : List Str} {Q : Flow → Lo → Nw → Prop} (hs : swapsWithSole [.Tuple elts k p'] e pos.line c.env = pure false) (hw : swappedStores [.Tuple elts k p'] e c.env = pure (some names))
    (h : TT w c m n (eval e c.env) fun v m1 n1 => ∃ a vs, v = .ref a ∧ (a, OD.tup vs) ∈ n1 ∧ vs.length = names.length ∧ TT w c m1 n1 (assignInOrder (names.reverse.map fun y => bindName c.env y) vs.reverse) fun _ m2 n2 => Q .next m2 n2) :
    TT w c m n (exec (.Assign [.Tuple elts k p'] e pos) c.env) Q := fun s H E => by
  refine Assign_Tuple_swapped (wpAny_mono (h s H E) ?_ fun _ _ x => x) hs hw
  rintro _ s1 ⟨m1, n1, H1, a, vs, rfl, ha, hl, h1⟩
  have ht := H1.tupl ha
  have e1 : names.length = vs.toArray.size := by rw [List.size_toArray, hl]
  rw [e1]
  refine wpAny_unpackItems_tuple H1.ok.hh ht fun h' hx => ?_
  have H2 : Hs w c m1 n1 { s1 with heap := h' } := H1.ext hx
  exact h1 _ H2 E

/-! lists -/
theorem t_setL {a vs k t v n'} {Q : Unit → Lo → Nw → Prop} (h0 : 0 ≤ k) (hfit : k < 2 ^ 63) (hn : k < vs.length) (hu : Up a (.list vs) (.list (vs.set k.toNat v)) n n') (h : Q () m n') : TT w c m n (setItem (.ref a) (.int k t) v) Q := fun s H E => by
  obtain ⟨o, ho, ⟨kk, rfl⟩, _⟩ := H.get hu.mem
  refine ki_setAt ho h0 hfit (by rw [List.size_toArray]; exact hn) ⟨m, n', H.up hu (Heap.SameBut.update ..) (PySem.IsL.update ho _) ⟨if (vs.toArray.setIfInBounds k.toNat v).size == vs.toArray.size then kk else kk + 1, ?_⟩ s.toks, h⟩
  rw [show vs.toArray.setIfInBounds k.toNat v = (vs.set k.toNat v).toArray from by simp]
theorem t_lenL {a vs} {Q : Value → Lo → Nw → Prop} (ha : IsL c n a vs) (hfit : vs.length ≤ sizeLine) (h : ∀ t', Q (.int vs.length t') m n) : TT w c m n (call (.builtin "len") [.ref a]) Q := fun s H E =>
  Calls.call_len_list (H.isL ha) (by have : sizeLine = 2 ^ 24 := rfl; rw [List.size_toArray]; omega) ⟨m, n, H.toks _, by rw [List.size_toArray]; exact h _⟩
theorem t_addL {a b vs ws} {Q : Value → Lo → Nw → Prop} (ha : (a, OD.list vs) ∈ n) (hb : (b, OD.list ws) ∈ n) (hsz : vs.length + ws.length ≤ sizeLine) (h : ∀ r, Q (.ref r) m ((r, .list (vs ++ ws)) :: n)) : TT w c m n (binaryOp .Add (.ref a) (.ref b)) Q := fun s H E => by
  obtain ⟨o, ho, ⟨k, rfl⟩, _⟩ := H.get ha
  obtain ⟨o2, ho2, ⟨k2, rfl⟩, _⟩ := H.get hb
  refine PySem.P.add_list ho ho2 ⟨m, _, H.push (d := .list (vs ++ ws)) ⟨0, by simp⟩, h _⟩ (by rw [List.size_toArray, List.size_toArray]; exact hsz)
theorem t_mulL {a vs k u} {Q : Value → Lo → Nw → Prop} (ha : (a, OD.list vs) ∈ n) (hlo : -(2 ^ 63 : Int) ≤ k) (hhi : k < 2 ^ 63) (hsz : vs.length * k.toNat ≤ 2 ^ 24) (h : ∀ r, Q (.ref r) m ((r, .list (List.replicate k.toNat vs).flatten) :: n)) : TT w c m n (binaryOp .Mult (.ref a) (.int k u)) Q := fun s H E => by
  obtain ⟨o, ho, ⟨kk, rfl⟩, _⟩ := H.get ha
  have hsz' : vs.toArray.size * k.toNat ≤ 2 ^ 24 := by simpa using hsz
  refine wpAny_binaryOp_repeat_ref (T := "list") (U := "int") (by decide) ⟨_, ho, rfl⟩ (fun s' => typeIs_int s' k u) noFill_list_mul PySem.F.fills_int_mul PySem.F.slot_int_rmul repeat_list PySem.F.slot_int_index.lookup
    (call_meets PySem.F.slot_int_rmul (typeIs_int s k u) PySem.F.entry_int_rmul (PySem.F.args_int_rmul_2 _ _) (lm_int_rmul_list_any k u a vs.toArray kk none #[])
      ⟨ho, rfl, ⟨_, ho, rfl⟩, call_meets PySem.F.slot_list_mul ⟨_, ho, rfl⟩ PySem.F.entry_list_mul (PySem.F.args_list_mul_2 _ _)
        (lm_list_mul_any a vs.toArray kk none #[] k u (by simp [Builtin.List.listFitsIndex]; omega) (by omega) (by simp [Builtin.List.listTooLong, sizeLine]; omega))
        ⟨ho, ?_⟩⟩)
  rw [listMul_foldl_if]
  exact ⟨m, _, H.push (d := .list (List.replicate k.toNat vs).flatten) ⟨0, by simp⟩, h _⟩
theorem t_pop0 {a v vs u n'} {Q : Value → Lo → Nw → Prop} (hu : Up a (.list (v :: vs)) (.list vs) n n') (hsz : vs.length < sizeLine) (h : Q v m n') : TT w c m n (call (.builtin "list.pop") [.ref a, .int 0 u]) Q := fun s H E => by
  obtain ⟨o, ho, ⟨k, rfl⟩, _⟩ := H.get hu.mem
  refine call_meets PySem.F.slot_list_pop ⟨_, ho, rfl⟩ PySem.F.entry_list_pop (PySem.F.args_list_pop_2 _ _) (PySem.MeetsSeq.list_pop_at a (v :: vs).toArray k 0 u 0 v (by decide) (by simp [seqIndex?]) (by simp) (by simp; omega)) ⟨ho, ?_⟩
  refine ⟨m, n', H.up hu (Heap.SameBut.update ..) (PySem.IsL.update ho _) ⟨k + 1, ?_⟩ s.toks, h⟩
  have e : (v :: vs).toArray.eraseIdxIfInBounds 0 = vs.toArray := by simp [Array.eraseIdxIfInBounds]
  rw [e]; simp
theorem t_tupL {a vs} {Q : Value → Lo → Nw → Prop} (ha : IsL c n a vs) (hsz : vs.length ≤ sizeLine) (h : ∀ r, Q (.ref r) m ((r, .tup vs) :: n)) : TT w c m n (call (.type "tuple") [.ref a]) Q := fun s H E => by
  refine call_tuple_list (H.isL ha) (fun h' hk => ?_) (by rw [List.size_toArray]; exact hsz)
  have H1 : Hs w c m n { s with heap := h' } := H.grow hk rfl rfl
  exact ⟨m, _, H1.push (d := .tup vs) ⟨0, rfl⟩, h _⟩
end

end Mine
end
section
open PySem PySem.W PySem.Calls PyProof.Rows
namespace Mine
section
variable {w : World} {c : Cx} {m : Lo} {n : Nw} {sc : Scope} {x : Str} {pos : Pos} {α : Type}

theorem strs_of_get : ∀ {vs : List Value} {ys : List Str}, vs.length = ys.length → (∀ (j : Nat) (v : Value), vs[j]? = some v → ∃ t, ∃ y, ys[j]? = some y ∧ v = .str y t) → StrsAre vs ys
  | [], [], _, _ => .nil
  | [], _ :: _, h, _ => by cases h
  | _ :: _, [], h, _ => by cases h
  | v :: vs, y :: ys, h, g => by
    obtain ⟨t, y', h1, rfl⟩ := g 0 v rfl
    obtain rfl : y = y' := by simpa using h1
    exact .cons _ _ (strs_of_get (by simpa using h) fun j v hj => g (j + 1) v (by simpa using hj))
noncomputable def signsOf (x : Str) : List Str := x.cps.toList.map fun d => ⟨#[d]⟩
theorem t_listS {t} {Q : Value → Lo → Nw → Prop} (hsz : x.length ≤ sizeLine) (h : ∀ r vs, StrsAre vs (signsOf x) → Q (.ref r) m ((r, .list vs) :: n)) : TT w c m n (call (.type "list") [.str x t]) Q := fun s H E => by
  refine call_list_str H.ok.hh x t (fun h' tk acc k hk ho hi => ?_) hsz
  have H1 : Hs w c m n { s with heap := h', toks := tk } := H.grow hk rfl rfl
  refine ⟨m, _, Hs.add (H := H) (s' := { s with heap := h', toks := tk }) (d := .list acc.toList) hk (Nat.le_refl _) ho ⟨k, by simp⟩ rfl rfl, h _ _ ?_⟩
  refine strs_of_get (by rw [Array.length_toList, hi.1]; simp [signsOf]) fun j v hj => ?_
  obtain ⟨d, u, h1, rfl⟩ := hi.2 j v (by simpa using hj)
  exact ⟨u, _, by simp [signsOf, h1], rfl⟩
theorem t_sumI {a vs ns} {Q : Value → Lo → Nw → Prop} (ha : IsL c n a vs) (hi : IntsAre vs ns) (h : ∀ t', Q (.int ns.sum t') m n) : TT w c m n (call (.builtin "sum") [.ref a]) Q := fun s H E => by
  obtain ⟨xs, hx⟩ := hi.allInts.items
  have hl' : s.heap.IsList a (intItems xs) := hx ▸ H.isL ha
  refine sum_intListG H.ok.hh hl' fun h' tk t' hk => ?_
  have e1 : ns = xs.toList.map (·.1) := by
    rw [← nums_intItems, ← hx]
    exact (show numsOf vs.toArray.toList = ns from hi.numsOf).symm
  have e2 : preSum (numAt xs) xs.size = ns.sum := by
    rw [preSum_eq, List.take_of_length_le (by simp), e1]
  rw [e2]
  exact ⟨m, n, H.grow hk rfl rfl, h _⟩
theorem t_max {a b t u} {Q : Value → Lo → Nw → Prop} (h : ∀ t', Q (.int (max a b) t') m n) : TT w c m n (call (.builtin "max") [.int a t, .int b u]) Q := fun s H E => by
  refine max_two_ints H.ok.hh fun h' tk hk => ⟨m, n, H.grow hk rfl rfl, ?_⟩
  by_cases hb : b > a
  · rw [if_pos hb]; have := h u; rwa [show max a b = b from by omega] at this
  · rw [if_neg hb]; have := h t; rwa [show max a b = a from by omega] at this
theorem t_min {a b t u} {Q : Value → Lo → Nw → Prop} (h : ∀ t', Q (.int (min a b) t') m n) : TT w c m n (call (.builtin "min") [.int a t, .int b u]) Q := fun s H E => by
  refine min_two_ints H.ok.hh fun h' tk hk => ⟨m, n, H.grow hk rfl rfl, ?_⟩
  by_cases hb : b < a
  · rw [if_pos hb]; have := h u; rwa [show min a b = b from by omega] at this
  · rw [if_neg hb]; have := h t; rwa [show min a b = a from by omega] at this
theorem t_count {y t u} {Q : Value → Lo → Nw → Prop} (h : ∀ t', Q (.int (Txt.count x y) t') m n) : TT w c m n (call (.builtin "str.count") [.str x t, .str y u]) Q := fun s H E => PySem.SC.count ⟨m, n, H.toks _, h _⟩
theorem t_mulS {t k u} {Q : Value → Lo → Nw → Prop} (hok : MulOk x k) (h : ∀ t', Q (.str (Txt.mul x k) t') m n) : TT w c m n (binaryOp .Mult (.str x t) (.int k u)) Q := fun s H E => SB.mul hok fun t' k => ⟨m, n, H.toks _, h _⟩

/-! range -/
noncomputable abbrev rangeObj (k : Int) (t u v : Tok) : Obj := { cls := .type "range", data := .fields #[.int 0 t, .int k u, .int 1 v] }
noncomputable abbrev rIter (i k : Nat) : Obj := { cls := .type "range_iterator", data := .fields #[rawInt (i : Int), rawInt ((k : Int) - i), rawInt 1] }
theorem t_range {k t} {Q : Value → Lo → Nw → Prop} (h : ∀ r a b d, Q (.ref r) m ((r, .raw (rangeObj k a b d)) :: n)) : TT w c m n (call (.type "range") [.int k t]) Q := fun s H E =>
  call_range_1 ⟨m, _, (H.push (d := .raw _) rfl).toks _, h _ _ _ _⟩
theorem t_iterR {r k a b d} {Q : Value → Lo → Nw → Prop} (hr : (r, OD.raw (rangeObj k a b d)) ∈ n) (hk : k < 2 ^ 62) (hk' : -(2 ^ 62) ≤ k) (h : ∀ it, Q (.ref it) m ((it, .raw (rIter 0 k.toNat)) :: n)) : TT w c m n (pyIter (.ref r)) Q := fun s H E => by
  obtain ⟨o, ho, hs, _⟩ := H.get hr
  subst hs
  refine wpAny_pyIter_range ho (small_one (by decide) (by decide) hk' hk) ⟨m, _, H.push (d := .raw (rIter 0 k.toNat)) ?_, h _⟩
  show _ = _
  rw [rangeSize_one]
  have e : (if (0 : Int) < k then k - 0 else 0) = ((k.toNat : Nat) : Int) - ((0 : Nat) : Int) := by split <;> omega
  rw [e]; rfl
theorem nexts_R {it k : Nat} : Nexts w c it (fun i => .raw (rIter i k)) k (fun i v new => new = [] ∧ ∃ t, v = .int i t) (fun n => True) := by
  intro i m n _
  refine ⟨fun hi Q hq s H E => ?_, fun hi Q hq s H E => ?_⟩
  · obtain ⟨o, ho, hs, _⟩ := H.get List.mem_cons_self
    subst hs
    refine wpAny_pyNext_range_item (x := (i : Int)) (left := (k : Int) - i) (step := 1) ho (by omega) fun h' hit hs => ?_
    have e1 : ((i : Int) + 1) = ((i + 1 : Nat) : Int) := by omega
    have e2 : ((k : Int) - i - 1) = (k : Int) - ((i + 1 : Nat) : Int) := by omega
    rw [e1, e2] at hit
    exact ⟨m, _, H.head (d' := .raw (rIter (i + 1) k)) hs.extBut hit rfl _, hq _ [] ⟨rfl, _, rfl⟩⟩
  · obtain ⟨o, ho, hs, _⟩ := H.get List.mem_cons_self
    subst hs
    exact wpAny_pyNext_range_end H.ok.hh (x := (i : Int)) (left := (k : Int) - i) (step := 1) ho (by omega) fun h' hx => ⟨m, n, H.lose hx _, hq⟩
end

end Mine
end
section
open PySem PySem.W PySem.Calls PyProof.Rows
namespace Mine
open PySem.SeqAt
section
variable {w : World} {c : Cx} {m : Lo} {n : Nw} {sc : Scope} {x : Str} {pos : Pos} {α : Type}

theorem all_eq {β : Type} [DecidableEq β] (l1 l2 : List β) : ((List.range (min l1.length l2.length)).all (fun j => decide (l1[j]? = l2[j]?)) && (l1.length == l2.length)) = decide (l1 = l2) := by
  rw [Bool.eq_iff_iff]
  simp only [Bool.and_eq_true, List.all_eq_true, List.mem_range, decide_eq_true_eq, beq_iff_eq]
  constructor
  · rintro ⟨h1, h2⟩
    refine List.ext_getElem? fun j => ?_
    by_cases hj : j < l1.length
    · exact h1 j (by omega)
    · rw [List.getElem?_eq_none (by omega), List.getElem?_eq_none (by omega)]
  · rintro rfl
    exact ⟨fun _ _ => rfl, rfl⟩
theorem Ok.line (h : Ok w c) : c.A.units < cLine := by
  have := h.uni; have e := cLine_is; omega
theorem Ok.line1 (h : Ok w c) : c.A.in1.units < cLine := by
  have := h.uni; have e := cLine_is; show c.A.units + 1 < cLine; omega
theorem ints_get' {vs : List Value} {ns : List Int} (h : IntsAre vs ns) : ∀ {i : Nat} {v : Value}, vs[i]? = some v → ∃ k t, ns[i]? = some k ∧ v = .int k t := by
  induction h with
  | nil => intro i v h; simp at h
  | cons k t _ ih =>
    intro i v h
    cases i with
    | zero => simp at h; exact ⟨k, t, rfl, h.symm⟩
    | succ i => simpa using ih (by simpa using h)
theorem strs_get {vs : List Value} {ys : List Str} (h : StrsAre vs ys) : ∀ {i : Nat} {v : Value}, vs[i]? = some v → ∃ y t, ys[i]? = some y ∧ v = .str y t := by
  induction h with
  | nil => intro i v h; simp at h
  | cons k t _ ih =>
    intro i v h
    cases i with
    | zero => simp at h; exact ⟨k, t, rfl, h.symm⟩
    | succ i => simpa using ih (by simpa using h)
theorem strs_length {vs : List Value} {ys : List Str} (h : StrsAre vs ys) : vs.length = ys.length := by
  induction h with
  | nil => rfl
  | cons _ _ _ ih => simp [ih]
theorem t_neLS {a b vs ws ys zs} {Q : Value → Lo → Nw → Prop} (ha : IsL c n a vs) (hb : IsL c n b ws) (hy : StrsAre vs ys) (hz : StrsAre ws zs) (h : Q (.bool (!decide (ys = zs))) m n) : TT w c m n (compareOp .NotEq (.ref a) (.ref b)) Q := fun s H E => by
  have l1 := strs_length hy
  have l2 := strs_length hz
  by_cases hl : ys.length = zs.length
  · refine RcNeAt.lists (e := fun j => decide (ys[j]? = zs[j]?)) (H.isL ha) (H.isL hb) (by simp [l1, l2, hl]) H.ok.line (fun j h1 h2 => ?_) _ _ E _ ⟨m, n, H, ?_⟩
    · obtain ⟨y, t, g1, g2⟩ := strs_get hy (i := j) (v := vs.toArray[j]) (by simp)
      obtain ⟨z, u, g3, g4⟩ := strs_get hz (i := j) (v := ws.toArray[j]) (by simp)
      rw [g2, g4, g1, g3]
      have := EqAt.str_str (A := c.A.in1) (s := s) y t z u
      rw [show decide (some y = some z) = (y == z) from by by_cases e : y = z <;> simp [e]]
      exact this
    · have := all_eq ys zs
      rw [show (ys.length == zs.length) = true from by simp [hl], Bool.and_true, ← hl, Nat.min_self] at this
      rw [List.size_toArray, l1, this]; exact h
  · refine RcNeAt.lists_lengths (H.isL ha) (H.isL hb) (by simp [l1, l2, hl]) H.ok.line _ _ E _ ⟨m, n, H, ?_⟩
    rw [show decide (ys = zs) = false from by simp; intro e; exact hl (by rw [e])] at h
    exact h
theorem t_inT2 {a i t u1 u2} {p q : Int} {Q : Value → Lo → Nw → Prop} (ha : (a, OD.tup [.int p u1, .int q u2]) ∈ n) (h : Q (.bool (p == i || q == i)) m n) : TT w c m n (compareOp .In (.int i t) (.ref a)) Q := fun s H E => by
  refine in_tupleAt (fun y => match y with | .int k _ => k == i | _ => false) (H.tupl ha) (fun y hy => ?_) ⟨m, n, H, ?_⟩
  · simp at hy
    rcases hy with rfl | rfl
    · exact EqAt.int_int _ _ _ _
    · exact EqAt.int_int _ _ _ _
  · simpa using h
/-- two norms -/
theorem t_eqNorm {a1 a2 k1 k2 vs1 vs2 ns1 ns2 t1 t2} {b1 b2 : Int} {Q : Value → Lo → Nw → Prop} (h1 : (a1, OD.tup [.ref k1, .int b1 t1]) ∈ n) (h2 : (a2, OD.tup [.ref k2, .int b2 t2]) ∈ n) (g1 : (k1, OD.tup vs1) ∈ n) (g2 : (k2, OD.tup vs2) ∈ n) (i1 : IntsAre vs1 ns1) (i2 : IntsAre vs2 ns2)
    (h : Q (.bool (decide (ns1 = ns2) && (b1 == b2))) m n) : TT w c m n (compareOp .Eq (.ref a1) (.ref a2)) Q := fun s H E => by
  have inner : EqAt c.A.in1 s (.ref k1) (.ref k2) (decide (ns1 = ns2)) := by
    by_cases hk : k1 = k2
    · subst hk
      obtain ⟨o1, ho1, ⟨q1, rfl⟩, _⟩ := H.get g1
      obtain ⟨o2, ho2, ⟨q2, rfl⟩, _⟩ := H.get g2
      have e := ho1.symm.trans ho2
      have e := Option.some.inj e
      injection e with _ _ e _
      injection e with e _
      obtain rfl : vs1 = vs2 := by simpa using e
      have : ns1 = ns2 := by
        refine List.ext_getElem? fun j => ?_
        by_cases hj : j < vs1.length
        · obtain ⟨k, t, c1, c2⟩ := ints_get' i1 (i := j) (v := vs1[j]) (by simp [hj])
          obtain ⟨k', t', c1', c2'⟩ := ints_get' i2 (i := j) (v := vs1[j]) (by simp [hj])
          rw [c2] at c2'; cases c2'
          rw [c1, c1']
        · rw [List.getElem?_eq_none (by rw [← i1.length]; omega), List.getElem?_eq_none (by rw [← i2.length]; omega)]
      rw [this, decide_eq_true rfl]
      exact EqAt.same _
    · refine EqAt.of_refs hk ?_
      have := RcAt.tuples (A := c.A.in1) (e := fun j => decide (ns1[j]? = ns2[j]?)) (H.tupl g1) (H.tupl g2) H.ok.line1 fun j h1 h2 => ?_
      · rw [List.size_toArray, List.size_toArray, i1.length, i2.length, all_eq] at this; exact this
      · obtain ⟨y, t, g1, g2⟩ := ints_get' i1 (i := j) (v := vs1.toArray[j]) (by simp)
        obtain ⟨z, u, g3, g4⟩ := ints_get' i2 (i := j) (v := vs2.toArray[j]) (by simp)
        rw [g2, g4, g1, g3]
        rw [show decide (some y = some z) = (y == z) from by by_cases e : y = z <;> simp [e]]
        exact EqAt.int_int _ _ _ _
  refine eq_tupleAt (e := fun j => if j = 0 then decide (ns1 = ns2) else b1 == b2) (H.tupl h1) (H.tupl h2) H.ok.line (fun j q1 q2 => ?_) ⟨m, n, H, ?_⟩
  · match j with
    | 0 => exact inner
    | 1 => exact EqAt.int_int _ _ _ _
    | j + 2 => exact absurd q1 (by simp)
  · simpa [List.range_succ] using h
theorem t_mulIS {k u t} {Q : Value → Lo → Nw → Prop} (hok : MulOk x k) (h : ∀ t', Q (.str (Txt.mul x k) t') m n) : TT w c m n (binaryOp .Mult (.int k u) (.str x t)) Q := fun s H E => by
  have key : (if k < 1 then Made.str Str.empty else if (k == 1 || x.length == 0) = true then Made.val (.str x t) else Made.str ⟨(List.replicate k.toNat x.cps).foldl (· ++ ·) #[]⟩).post (fun v s' => ∃ m' n', Hs w c m' n' s' ∧ Q v m' n') s := by
    unfold Txt.mul at h
    by_cases h1 : k < 1
    · rw [if_pos h1]; rw [if_pos h1] at h; exact ⟨by decide, m, n, H.toks _, h _⟩
    · rw [if_neg h1]; rw [if_neg h1] at h
      refine post_val_or_made (fun hc => fits_reps (hok.2.2 h1 (by simpa using hc))) fun t' k => ?_
      exact ⟨m, n, H.toks _, h t'⟩
  exact lm_binaryOp_repeat_right (T := "str") (U := "int") (by decide) (fun s' => typeIs_int s' k u) (typeIs_str s x t) PySem.F.fills_int_mul noFill_str_mul PySem.F.slot_int_mul lm_noRepeat_int repeat_str PySem.F.slot_int_index.lookup
    (call_gives PySem.F.slot_int_mul (typeIs_int s k u) PySem.F.entry_int_mul (PySem.F.args_int_mul_2 _ _) (AutoIntG3.int___mul___int_str_0 k u x t)
      ⟨rfl, typeIs_str s x t, call_gives PySem.F.slot_str_mul (typeIs_str s x t) PySem.F.entry_str_mul (PySem.F.args_str_mul_2 _ _) (gives_str_mul x k t u hok.1 hok.2.1 hok.2.2) key⟩)
end

end Mine
end
section
open PySem PySem.W PySem.Calls PyProof.Rows
namespace Mine
open PySem.SeqAt
namespace CI
theorem slot_next : Slot "callable_iterator" "__next__" "callable_iterator.__next__" :=
  .of (owner := "callable_iterator") (n := "__next__") (by rw [typeLookup_type, builtinLookup_eq_fast]; kernel_rfl) (by decide +kernel) (by decide +kernel) (by decide +kernel)
    (by first | exact .inl (by decide +kernel) | exact .inr (by decide +kernel)) (by rw [isSubtype_type]; kernel_rfl)
theorem slot_iter : Slot "callable_iterator" "__iter__" "callable_iterator.__iter__" :=
  .of (owner := "callable_iterator") (n := "__iter__") (by rw [typeLookup_type, builtinLookup_eq_fast]; kernel_rfl) (by decide +kernel) (by decide +kernel) (by decide +kernel)
    (by first | exact .inl (by decide +kernel) | exact .inr (by decide +kernel)) (by rw [isSubtype_type]; kernel_rfl)
theorem entry_next : entryFor table "callable_iterator.__next__" = some Builtin.«callable_iterator.__next__» := entryFor_of_tree (by kernel_rfl)
theorem entry_iter : entryFor table "callable_iterator.__iter__" = some Builtin.«dict_keyiterator.__iter__» :=
  entryFor_alias (id' := "dict_keyiterator.__iter__") (by kernel_rfl) (by first | rfl | decide +kernel | (unfold String.splitOn; simp +decide [String.splitOnAux])) (by decide +kernel) (by kernel_rfl)
theorem args_next (a : Value) : argsOk "callable_iterator.__next__" ⟨[a], []⟩ := by unfold argsOk; kernel_rfl
theorem args_iter (a : Value) : argsOk "callable_iterator.__iter__" ⟨[a], []⟩ := by unfold argsOk; kernel_rfl
theorem kind_iter : builtinKind "iter" = none := by decide +kernel
theorem plain_iter : plainId "iter" = true := by decide +kernel
theorem entry_fiter : entryFor table "iter" = some Builtin.«iter» := entryFor_of_tree (by kernel_rfl)
theorem args_fiter (a b : Value) : argsOk "iter" ⟨[a, b], []⟩ := by unfold argsOk; kernel_rfl
theorem method_call_lookup : typeLookup (.type "method") "__call__" = pure (some (.builtin "method.__call__")) := by rw [typeLookup_type, builtinLookup_eq_fast]; kernel_rfl
end CI

section
variable {w : World} {c : Cx} {m : Lo} {n : Nw} {sc : Scope} {x : Str} {pos : Pos} {α : Type}
noncomputable abbrev ciObj (q : Addr) (y : Str) (t : Tok) : Obj := { cls := .type "callable_iterator", data := .fields #[.ref q, .str y t, .bool false] }
noncomputable abbrev ciEnd : Obj := { cls := .type "callable_iterator", data := .fields #[.none, .none, .bool true] }

theorem stop_raise {M : Model} {A : Around} {β : Type} {E : Value → Shared → Prop} {s : Shared} {Q : β → Shared → Prop} (hh : A.handled = none)
    (hE : ∀ h' e, (∀ b o, s.heap.get? b = some o → h'.get? b = some o) → (∃ o, h'.get? e = some o ∧ o.cls = .type "StopIteration") → E (.ref e) { s with heap := h' }) : wpAny M A (Builtin.SmallTypes.stopIteration : Sem β) Q E s := by
  show wpAny _ _ (newExc (.type "StopIteration") [] >>= _) _ _ _
  refine wpAny_bind ?_
  simp only [newExc, newTuple]
  refine wpAny_bind (wpAny_newObj_type ?_ (by size_fits))
  refine wpAny_bind (m := firstArgMember _ _) (wpAny_of_eq (a := Value.none) (by first | rfl | (simp only [firstArgMember]; rfl)) ?_)
  refine wpAny_newObj_type ?_ (by size_fits)
  simp only [raiseNew]
  refine wpAny_bind (wpAny_handled ?_)
  rw [hh]
  refine wpAny_bind (wpAny_pure (wpAny_throw ?_))
  exact hE _ _ (fun b o e => Heap.get?_push_of_some _ (Heap.get?_push_of_some _ e)) ⟨_, Heap.get?_push_size _ rfl, rfl⟩
theorem borrows_method {M : Model} {A : Around} {E : Value → Shared → Prop} {s : Shared} {q f : Addr} {self : Value} {Q : Bool → Shared → Prop} {of : Obj} {fd : FuncData} (hq : s.heap.get? q = some (methodObj (.ref f) self)) (hf : s.heap.get? f = some of) (hd : of.data = .func fd) (h : Q true s) :
    wpAny M A (borrowsExactly (.ref q)) Q E s := by
  unfold borrowsExactly
  refine wpAny_bind (wpAny_load hq ?_)
  show wpAny _ _ (if (Value.type "method" == Value.type "method") = true then _ else _) _ _ _
  rw [if_pos (by simp)]
  refine wpAny_bind (wpAny_load hf ?_)
  rw [hd]
  exact wpAny_pure h
theorem wp_callBorrowed {M : Model} {A : Around} {E : Value → Shared → Prop} {s : Shared} {f : Value} {Q : Value → Shared → Prop}
    (hc : codeAny M A (.call f ⟨[], []⟩) (fun r s' => match r with | .ok (.ret v) => Q v s' | .ok _ => False | .error e => E e s') s) : wpAny M A (callBorrowed f) Q E s := fun Γ p hΓ => by
  have h1 := hc _ p rfl (hΓ.enter (.call f ⟨[], []⟩) none p (by intro x; cases x))
  unfold callBorrowed
  rw [Sem.wp_call]
  have e : (fun r s' => Sem.wp M Γ ((fun r : Result => match r with
    | .ok (.ret v) => Sem.pure v
    | .ok _ => Sem.unsupported "internal:call-without-return-value"
    | .error e => Sem.raise e) r) (fun a _ s' => Q a s') (fun e _ s' => E e s') p s') = (fun r s' => match r with | .ok (.ret v) => Q v s' | .ok _ => False | .error e => E e s') := by
    funext r s'
    cases r with
    | error e => rfl
    | ok f => cases f <;> rfl
  rw [← e] at h1
  exact h1
end

section
variable {w : World} {c : Cx} {m : Lo} {n : Nw} {sc : Scope} {x : Str} {pos : Pos} {α : Type}
theorem Up.keep {a b : Addr} {d d' e : OD} {n n' : Nw} (u : Up a d d' n n') (h : (b, e) ∈ n) (hb : b ≠ a) : (b, e) ∈ n' := by
  induction u with
  | head =>
    rcases List.mem_cons.mp h with q | h
    · cases q; exact absurd rfl hb
    · exact List.mem_cons_of_mem _ h
  | tail _ ih =>
    rcases List.mem_cons.mp h with q | h
    · cases q; exact List.mem_cons_self
    · exact List.mem_cons_of_mem _ (ih h)
theorem Sub.keep {r r' n n' : Nw} (u : Sub r r' n n') {b : Addr} {e : OD} (h : (b, e) ∈ n) (hb : b ∉ r.map (·.1)) : (b, e) ∈ n' := by
  induction u with
  | nil => exact h
  | cons up _ ih =>
    rw [List.map_cons, List.mem_cons, not_or] at hb
    exact ih (up.keep h hb.1) hb.2
theorem t_iter2 {q o self y t} {Q : Value → Lo → Nw → Prop} (hq : (q, OD.raw (methodObj o self)) ∈ n) (h : ∀ r, Q (.ref r) m ((r, .raw (ciObj q y t)) :: n)) : TT w c m n (call (.builtin "iter") [.ref q, .str y t]) Q := fun s H E => by
  obtain ⟨ob, ho, hs, _⟩ := H.get hq
  subst hs
  refine Calls.call_function_entry CI.kind_iter CI.plain_iter CI.entry_fiter (CI.args_fiter _ _) ?_
  unfold Builtin.«iter»
  refine wpAny_bind (wpAny_of_eq (a := [.ref q, .str y t]) (by first | rfl | kernel_rfl) ?_)
  dsimp only
  refine wpAny_bind (wpAny_specialOf (T := "method") ⟨_, ho, rfl⟩ CI.method_call_lookup ?_)
  show wpAny _ _ (if false = true then _ else _) _ _ _
  rw [if_neg (by decide)]
  refine wpAny_bind (wpAny_rule (wpAny_bind ?_))
  exact wpAny_newObj_type (wpAny_pure ⟨_, rfl, m, _, H.push (d := .raw (ciObj q y t)) rfl, h _⟩) (by size_fits)
theorem t_iterCI {ci q y t} {Q : Value → Lo → Nw → Prop} (hi : (ci, OD.raw (ciObj q y t)) ∈ n) (h : Q (.ref ci) m n) : TT w c m n (pyIter (.ref ci)) Q := fun s H E => by
  obtain ⟨ob, ho, hs, _⟩ := H.get hi
  subst hs
  have hT : s.TypeIs (.ref ci) "callable_iterator" := ⟨_, ho, rfl⟩
  refine wpAny_pyIter_slot hT CI.slot_iter (wpAny_call_entry CI.slot_iter hT CI.entry_iter ?_ (CI.args_iter _))
  show wpAny _ _ (ret (.ref ci)) _ _ s
  exact wpAny_pure ⟨_, rfl, "callable_iterator", _, hT, CI.slot_next.lookup, m, n, H, h⟩
/-- a turn of a callable's iterator: the callable is a bound method of the text -/
theorem t_nextCI {ci q f : Addr} {self : Value} {y : Str} {t : Tok} {r : Nat} {n1 : Nw} {Q0 : Value → Nw → Nw → Prop} {Q : Option Value → Lo → Nw → Prop} {oc od fd sl} (hr : r + 2 ≤ c.r)
    (hfn : (hd.heap_1 w.params).lookup f = some ⟨oc, od, .func fd, sl⟩) (hC : CallT w r f (self :: []) n1 Q0) (hp : Part n1 n) (hnd : (n1.map (·.1)).Nodup) (hq : (q, OD.raw (methodObj (.ref f) self)) ∈ n) (hqn : q ∉ n1.map (·.1)) (hi : (ci, OD.raw (ciObj q y t)) ∈ n) (hin : ci ∉ n1.map (·.1))
    (h : ∀ v new n1', Q0 v new n1' → ∃ z u, v = .str z u ∧ ∃ n', Sub n1 n1' n n' ∧ (z ≠ y → Q (some v) m (new ++ n')) ∧ (z = y → ∃ n'', Up ci (.raw (ciObj q y t)) (.raw ciEnd) (new ++ n') n'' ∧ Q none m n'')) : TT w c m n (pyNext (.ref ci)) Q := fun s H E => by
  obtain ⟨obi, hoi, hsi, _⟩ := H.get hi
  obtain ⟨obq, hoq, hsq, _⟩ := H.get hq
  subst hsi hsq
  have hT : s.TypeIs (.ref ci) "callable_iterator" := ⟨_, hoi, rfl⟩
  have hof := H.X _ _ hfn
  have Hc : Hs w c.in1 m n s := H.to (c' := c.in1) (H.ok.in1 (by omega)) rfl rfl rfl rfl
  have key : wpAny (model PG w) c.A.in1 (Builtin.«callable_iterator.__next__» ⟨[.ref ci], []⟩) (fun fin s' => ∃ v, fin = .done (.ret v) ∧ ∃ m' n', Hs w c m' n' s' ∧ Q (some v) m' n')
      (fun e s' => (∃ a, e = .ref a ∧ ∃ o, s'.heap.get? a = some o ∧ o.cls = .type "StopIteration") ∧ ∃ m' n', Hs w c m' n' s' ∧ Q none m' n') s := by
    show wpAny _ _ (field (.ref ci) 2 >>= _) _ _ _
    refine wpAny_bind (wpAny_field hoi rfl (x := .bool false) rfl ?_)
    show wpAny _ _ (if (Value.bool false == Value.bool true) = true then _ else _) _ _ _
    rw [if_neg (by decide)]
    refine wpAny_bind (wpAny_field hoi rfl (x := .ref q) rfl ?_)
    refine wpAny_bind (wpAny_attempt ?_)
    unfold callOutOfASlot
    refine wpAny_bind (borrows_method hoq hof rfl ?_)
    rw [if_pos rfl]
    refine wp_callBorrowed (method_call hoq ?_)
    refine hC c.in1 m n s Hc hp hnd (by show r ≤ c.r - 1; omega) _ ?_
    intro v new n1' s' hq0 hs'
    obtain ⟨z, u, rfl, n', hsub, hne, heq⟩ := h v new n1' hq0
    have H1 : Hs w c m (new ++ n') s' := (hs' n' hsub).to H.ok rfl rfl rfl rfl
    have hi' : (ci, OD.raw (ciObj q y t)) ∈ new ++ n' := List.mem_append_right _ (Sub.keep hsub hi hin)
    have hq' : (q, OD.raw (methodObj (.ref f) self)) ∈ new ++ n' := List.mem_append_right _ (Sub.keep hsub hq hqn)
    obtain ⟨obi', hoi', hsi', _⟩ := H1.get hi'
    obtain ⟨obq', hoq', hsq', _⟩ := H1.get hq'
    subst hsi' hsq'
    show wpAny _ _ (field (.ref ci) 2 >>= _) _ _ _
    refine wpAny_bind (wpAny_field hoi' rfl (x := .bool false) rfl ?_)
    show wpAny _ _ (if (Value.bool false == Value.bool true) = true then _ else _) _ _ _
    rw [if_neg (by decide)]
    refine wpAny_bind (wpAny_field hoi' rfl (x := .str y t) rfl ?_)
    refine wpAny_bind (wpAny_holding ?_)
    refine EqAt.str_str y t z u _ _ _ _ ?_
    by_cases hzy : z = y
    · rw [show (y == z) = true from by simp [hzy]]
      show wpAny _ _ (if (!true) = true then _ else _) _ _ _
      rw [if_neg (by decide)]
      obtain ⟨n'', hu, hq2⟩ := heq hzy
      refine wpAny_bind (wpAny_rule (wpAny_bind ?_))
      show wpAny _ _ (field (.ref ci) 0 >>= _) _ _ _
      refine wpAny_bind (wpAny_field hoi' rfl (x := .ref q) rfl ?_)
      refine wpAny_bind ?_
      unfold slotLetsGo
      refine wpAny_bind (borrows_method hoq' (H1.X _ _ hfn) rfl ?_)
      rw [if_pos rfl]
      refine wpAny_pure ?_
      refine wpAny_bind (wpAny_setField_rec hoi' (by simp) fun h1 g1 k1 => ?_)
      refine wpAny_bind (wpAny_setField_rec g1 (by simp) fun h2 g2 k2 => ?_)
      refine wpAny_setField_rec g2 (by simp) fun h3 g3 k3 => ?_
      have H2 : Hs w c m n'' { s' with heap := h3, toks := s'.toks } := H1.up hu ((k1.trans k2).trans k3) g3 rfl _
      refine stop_raise H.ok.hh fun h4 e k4 he => ?_
      exact ⟨⟨e, rfl, he⟩, m, n'', H2.grow k4 rfl rfl, hq2⟩
    · rw [show (y == z) = false from by simp; exact fun e => hzy e.symm]
      show wpAny _ _ (if (!false) = true then _ else _) _ _ _
      rw [if_pos (by decide)]
      exact wpAny_bind (wpAny_pure (wpAny_pure ⟨_, rfl, m, _, H1, hne hzy⟩))
  unfold pyNext
  refine wpAny_bind (wpAny_attempt (wpAny_callSpecial?_slot (name := Str.ofString "__next__") hT CI.slot_next
    (wpAny_call_entry CI.slot_next hT CI.entry_next (wpAny_mono key (fun fin s' h' => ?_) fun e s' h' => ?_) (CI.args_next _))))
  · obtain ⟨v, rfl, m', n', H', q'⟩ := h'
    exact ⟨v, rfl, wpAny_pure ⟨m', n', H', q'⟩⟩
  · obtain ⟨⟨a, rfl, o, ho, hcls⟩, m', n', H', q'⟩ := h'
    refine wpAny_bind (wpAny_isInstance (T := "StopIteration") (b := true) ⟨o, ho, hcls⟩ isSubtype_stop ?_)
    exact wpAny_pure ⟨m', n', H', q'⟩
end

end Mine
end
section
open PySem PySem.W PySem.Calls PyProof.Rows
namespace Mine
namespace Z3
theorem typeCall (a b c : Value) : checkTypeCall "zip" ⟨[a, b, c], []⟩ = pure () := by kernel_rfl
theorem newCall (a b c : Value) : checkBuiltinCall "zip.__new__" ⟨[.type "zip", a, b, c], []⟩ = pure () := by kernel_rfl
theorem initArgs (a b c d : Value) : argsOk "object.__init__" ⟨[a, b, c, d], []⟩ := by
  unfold argsOk; rw [signature?_of (id := "object.__init__") (n := ['_', '_', 't', 'i', 'n', 'i', '_', '_']) (o := ['t', 'c', 'e', 'j', 'b', 'o']) (by kernel_rfl) PySem.F.owner_object]; kernel_rfl
noncomputable abbrev li (l : Addr) : Obj := { cls := .type "list_iterator", data := .fields #[.ref l, .int 0 0] }
noncomputable abbrev h1 (h : Heap) (l1 : Addr) : Heap := h.push (li l1)
noncomputable abbrev h2 (h : Heap) (l1 l2 : Addr) : Heap := (h1 h l1).push (li l2)
noncomputable abbrev h3 (h : Heap) (l1 l2 l3 : Addr) : Heap := (h2 h l1 l2).push (li l3)
noncomputable abbrev h4 (h : Heap) (l1 l2 l3 : Addr) : Heap := (h3 h l1 l2 l3).push { cls := .type "tuple", data := .seq #[.ref h.objs.size, .ref (h1 h l1).objs.size, .ref (h2 h l1 l2).objs.size] }
noncomputable abbrev h5 (h : Heap) (l1 l2 l3 : Addr) : Heap := (h4 h l1 l2 l3).push { cls := .type "tuple", data := .seq #[.none, .none, .none] }
noncomputable abbrev zObj (f0 : Value) (TI TO : Addr) : Obj := { cls := .type "zip", data := .fields #[f0, .bool false, .bool false, .ref TI, .ref TO] }
noncomputable abbrev h6 (h : Heap) (l1 l2 l3 : Addr) : Heap := (h5 h l1 l2 l3).push (zObj .none (h3 h l1 l2 l3).objs.size (h4 h l1 l2 l3).objs.size)
set_option maxHeartbeats 4000000 in
theorem meets_new (l1 l2 l3 : Addr) (xs ys zs : Array Value) :
    Meets (Builtin.«zip.__new__» ⟨[.type "zip", .ref l1, .ref l2, .ref l3], []⟩) (fun _ R s => s.heap.IsList l1 xs ∧ s.heap.IsList l2 ys ∧ s.heap.IsList l3 zs ∧
      R (.ok (.ret (.ref (h5 s.heap l1 l2 l3).objs.size))) { s with heap := h6 s.heap l1 l2 l3 }) :=
  .of_wp fun prog w A R s h => by
    obtain ⟨hp, g, d, tk, os⟩ := s; obtain ⟨hl1, hl2, hl3, h⟩ := h
    have hsub := sub_zip
    have hL1 : Heap.IsList (Shared.heap ⟨hp, g, d, tk, os⟩) l1 xs := hl1
    have hL2 : Heap.IsList (Shared.heap ⟨hp.push (li l1), g, d, tk, os⟩) l2 ys := Heap.IsList.push hl2 _
    have hL3 : Heap.IsList (Shared.heap ⟨(hp.push (li l1)).push (li l2), g, d, tk, os⟩) l3 zs := Heap.IsList.push (Heap.IsList.push hl3 _) _
    wp_walk using wpAny_pyIter_list hL1, wpAny_pyIter_list hL2, wpAny_pyIter_list hL3
    exact ⟨_, rfl, h⟩
end Z3
section
variable {w : World} {c : Cx} {m : Lo} {n : Nw} {sc : Scope} {x : Str} {pos : Pos} {α : Type}
noncomputable abbrev zipNw (z TI TO i1 i2 i3 l1 l2 l3 : Addr) (f0 : Value) (old : List Value) (k : Nat) : Nw :=
  [(z, .raw (Z3.zObj f0 TI TO)), (TO, .tup old), (TI, .tup [.ref i1, .ref i2, .ref i3]), (i3, .flds "list_iterator" [.ref l3, .int k 0]), (i2, .flds "list_iterator" [.ref l2, .int k 0]), (i1, .flds "list_iterator" [.ref l1, .int k 0])]
theorem Hs.pushAt {s : Shared} (H : Hs w c m n s) {o : Obj} {d : OD} {h : Heap} (e : s.heap = h) (hs : Sat d o) (hf : o.isFreed = false := by rfl) : Hs w c m ((h.objs.size, d) :: n) { s with heap := h.push o } := by
  subst e; exact H.push hs hf
theorem t_zip3 {l1 l2 l3 vs1 vs2 vs3} {Q : Value → Lo → Nw → Prop} (a1 : IsL c n l1 vs1) (a2 : IsL c n l2 vs2) (a3 : IsL c n l3 vs3) (h : ∀ z TI TO i1 i2 i3, Q (.ref z) m (zipNw z TI TO i1 i2 i3 l1 l2 l3 .none [.none, .none, .none] 0 ++ n)) :
    TT w c m n (call (.type "zip") [.ref l1, .ref l2, .ref l3]) Q := fun s H E => by
  refine callType_new PySem.F.called_zip (by decide) (Z3.typeCall _ _ _) (Z3.newCall _ _ _) (fun obj => Z3.initArgs obj _ _ _) PySem.F.entry_zip_new
    (Z3.meets_new l1 l2 l3 _ _ _) ⟨H.isL a1, H.isL a2, H.isL a3, ?_⟩
  have H1 := H.pushAt (o := Z3.li l1) (d := .flds "list_iterator" [.ref l1, .int (0 : Nat) 0]) rfl ⟨rfl, rfl⟩
  have H2 := H1.pushAt (o := Z3.li l2) (d := .flds "list_iterator" [.ref l2, .int (0 : Nat) 0]) rfl ⟨rfl, rfl⟩
  have H3 := H2.pushAt (o := Z3.li l3) (d := .flds "list_iterator" [.ref l3, .int (0 : Nat) 0]) rfl ⟨rfl, rfl⟩
  have H4 := H3.pushAt (o := { cls := .type "tuple", data := .seq #[.ref s.heap.objs.size, .ref (Z3.h1 s.heap l1).objs.size, .ref (Z3.h2 s.heap l1 l2).objs.size] }) (d := .tup [.ref s.heap.objs.size, .ref (Z3.h1 s.heap l1).objs.size, .ref (Z3.h2 s.heap l1 l2).objs.size]) rfl ⟨0, rfl⟩
  have H5 := H4.pushAt (o := { cls := .type "tuple", data := .seq #[.none, .none, .none] }) (d := .tup [.none, .none, .none]) rfl ⟨0, rfl⟩
  have H6 := H5.pushAt (o := Z3.zObj .none (Z3.h3 s.heap l1 l2 l3).objs.size (Z3.h4 s.heap l1 l2 l3).objs.size) (d := .raw (Z3.zObj .none (Z3.h3 s.heap l1 l2 l3).objs.size (Z3.h4 s.heap l1 l2 l3).objs.size)) rfl rfl
  exact ⟨⟨_, Heap.get?_push_size _ rfl, rfl⟩, m, _, H6, h _ _ _ _ _ _⟩
theorem t_iterZip {z f0 TI TO} {Q : Value → Lo → Nw → Prop} (hz : (z, OD.raw (Z3.zObj f0 TI TO)) ∈ n) (h : Q (.ref z) m n) : TT w c m n (pyIter (.ref z)) Q := fun s H E => by
  obtain ⟨o, ho, hs, _⟩ := H.get hz
  subst hs
  exact wpAny_pyIter_zip ho ⟨m, n, H, h⟩
theorem t_goZip {elts x1 z TI TO n'} {T : Addr} {Q : Unit → Lo → Nw → Prop} (hu : Up z (.raw (Z3.zObj (rawInt (T : Nat)) TI TO)) (.raw (Z3.zObj .none TI TO)) n n') (h : Q () m n') : TT w c m n (letOwnedTupleGo (.Tuple elts x1 pos) (.ref z) (.ref T)) Q := fun s H E => by
  obtain ⟨o, ho, hs, _⟩ := H.get hu.mem
  subst hs
  exact wpAny_letOwnedTupleGo_zip ho fun h' hz' hs' => ⟨m, n', H.up hu hs' hz' rfl _, h⟩
theorem Hs.flds {s : Shared} (H : Hs w c m n s) {a l k} (h : (a, OD.flds "list_iterator" [.ref l, .int k 0]) ∈ n) : ∀ {i : Nat}, (i : Int) = k → s.heap.IsListIter a l i := by
  intro i e; subst e
  obtain ⟨o, ho, ⟨h1, h2⟩, _⟩ := H.get h
  exact ⟨o, ho, h1, h2⟩
theorem tup_set {A : Around} {E : Value → Shared → Prop} {s : Shared} {H : Hs w c m n s} {T k v vs n'} {Q : Unit → Shared → Prop} (hz : vs.length ≤ 100) (hu : Up T (.tup vs) (.tup (vs.set k v)) n n') (h : ∀ h', Hs w c m n' { s with heap := h' } → Q () { s with heap := h' }) :
    wpAny (model PG w) A (updateSeq T (·.setIfInBounds k v)) Q E s := by
  obtain ⟨o, ho, ⟨kk, rfl⟩, _⟩ := H.get hu.mem
  have hz1 : vs.toArray.size ≤ sizeLine := by rw [List.size_toArray, sizeLine_eq]; omega
  have hz2 : (vs.toArray.setIfInBounds k v).size ≤ sizeLine + 1 := by rw [Array.size_setIfInBounds]; omega
  refine wpAny_updateSeq ho rfl (hz := hz1) (_hz' := hz2) (h _ (H.up hu (Heap.SameBut.update ..) (o' := { cls := .type "tuple", data := .seq (vs.toArray.setIfInBounds k v) (if (vs.toArray.setIfInBounds k v).size == vs.toArray.size then kk else kk + 1) }) ?_ ⟨_, by simp; rfl⟩ s.toks))
  rw [Heap.get?_update_self _ ho rfl]
  simp [Obj.mapSeq]
end

end Mine
end
section
open PySem PySem.W PySem.Calls PyProof.Rows
namespace Mine
section
variable {w : World} {c : Cx} {m : Lo} {n : Nw} {sc : Scope} {x : Str} {pos : Pos} {α : Type}

theorem zip_draw {k : Nat} {n'} {it l : Addr} {vs : List Value} {v : Value} {s : Shared} {Q : Value → Shared → Prop} {E : Value → Shared → Prop} (H : Hs w c m n s) (hl : IsL c n l vs) (hv : vs[k]? = some v) (hu : Up it (.flds "list_iterator" [.ref l, .int (k : Nat) 0]) (.flds "list_iterator" [.ref l, .int (k + 1 : Nat) 0]) n n')
    (h : ∀ h', Hs w c m n' { s with heap := h' } → Q v { s with heap := h' }) : wpAny (model PG w) c.A (Builtin.SmallTypes.nextOf (.ref it)) Q E s :=
  wpAny_nextOf_list_item (H.flds hu.mem rfl) (H.isL hl) (by simpa using hv) fun h' hit hs => by
    obtain ⟨o, ho, hc, hd⟩ := hit
    exact h h' (H.up hu hs ho (d' := .flds "list_iterator" [.ref l, .int (k + 1 : Nat) 0]) ⟨hc, hd⟩ s.toks)
/-- one turn of zip -/
theorem zip_next {z TI TO i1 i2 i3 l1 l2 l3 k o1 o2 o3 v1 v2 v3} {vs1 vs2 vs3 : List Value} {s : Shared} {Q : Value → Shared → Prop} {E : Value → Shared → Prop} (H : Hs w c m (zipNw z TI TO i1 i2 i3 l1 l2 l3 .none [o1, o2, o3] k ++ n) s)
    (a1 : IsL c n l1 vs1) (a2 : IsL c n l2 vs2) (a3 : IsL c n l3 vs3) (g1 : vs1[k]? = some v1) (g2 : vs2[k]? = some v2) (g3 : vs3[k]? = some v3)
    (h : ∀ T s', Hs w c m ((T, .tup [v1, v2, v3]) :: zipNw z TI TO i1 i2 i3 l1 l2 l3 (rawInt (T : Nat)) [v1, v2, v3] (k + 1) ++ n) s' → Q (.ref T) s') :
    wpAny (model PG w) c.A (Builtin.«zip.__next__» ⟨[.ref z], []⟩) (fun fin s' => ∃ v, fin = .done (.ret v) ∧ Q v s') E s := by
  have tl : ∀ {l vs} {q1 q2 q3 q4 q5 q6 : Addr × OD}, IsL c n l vs → IsL c (q1 :: q2 :: q3 :: q4 :: q5 :: q6 :: n) l vs := fun h => h.tail.tail.tail.tail.tail.tail
  obtain ⟨oz, hoz, hsz, _⟩ := H.get (a := z) List.mem_cons_self
  obtain ⟨oI, hoI, ⟨kI, rfl⟩, _⟩ := H.get (a := TI) (List.mem_cons_of_mem _ (List.mem_cons_of_mem _ List.mem_cons_self))
  subst hsz
  show wpAny _ _ (field (.ref z) 2 >>= _) _ _ _
  refine wpAny_bind (wpAny_field hoz rfl (x := .bool false) rfl ?_)
  show wpAny _ _ (field (.ref z) 3 >>= _) _ _ _
  refine wpAny_bind (wpAny_field hoz rfl (x := .ref TI) rfl ?_)
  refine wpAny_bind (wpAny_seqItems hoI rfl ?_)
  show wpAny _ _ (Builtin.SmallTypes.ownedTupleIsFree (.ref z) >>= _) _ _ _
  refine wpAny_bind ?_
  unfold Builtin.SmallTypes.ownedTupleIsFree
  refine wpAny_bind (wpAny_field hoz rfl (x := .none) rfl (wpAny_pure ?_))
  simp only [if_true]
  refine wpAny_bind (wpAny_rule ?_)
  refine wpAny_bind (wpAny_field hoz rfl (x := .ref TO) rfl ?_)
  refine wpAny_bind (wpAny_setField_rec hoz (by simp) fun h₁ hz₁ hs₁ => ?_)
  have H1 : Hs w c m (zipNw z TI TO i1 i2 i3 l1 l2 l3 .ellipsis [o1, o2, o3] k ++ n) { s with heap := h₁, toks := s.toks } := H.up (d' := .raw (Z3.zObj .ellipsis TI TO)) .head hs₁ hz₁ rfl _
  refine wpAny_bind ?_
  simp only [List.zipIdx_cons, List.zipIdx_nil, List.forIn_cons, List.forIn_nil]
  -- the first
  refine wpAny_bind (wpAny_bind (wpAny_onRaise ?_))
  show wpAny _ _ (Builtin.SmallTypes.nextOf (.ref i1) >>= _) _ _ _
  refine wpAny_bind (zip_draw H1 (tl a1) g1 (.tail (.tail (.tail (.tail (.tail .head))))) fun h₂ H2 => wpAny_pure ?_)
  obtain ⟨oO, hoO, ⟨kO, rfl⟩, _⟩ := H2.get (a := TO) (List.mem_cons_of_mem _ List.mem_cons_self)
  refine wpAny_bind (wpAny_seqItems hoO rfl ?_)
  refine wpAny_bind (tup_set (H := H2) (T := TO) (vs := [o1, o2, o3]) (k := 0) (v := v1) (by simp) (.tail .head) fun h₃ H3 => ?_)
  refine wpAny_bind (wpAny_letGo (wpAny_pure ?_))
  -- the second
  refine wpAny_bind (wpAny_bind (wpAny_onRaise ?_))
  show wpAny _ _ (Builtin.SmallTypes.nextOf (.ref i2) >>= _) _ _ _
  refine wpAny_bind (zip_draw H3 (tl a2) g2 (.tail (.tail (.tail (.tail .head)))) fun h₄ H4 => wpAny_pure ?_)
  obtain ⟨oO, hoO, ⟨kO, rfl⟩, _⟩ := H4.get (a := TO) (List.mem_cons_of_mem _ List.mem_cons_self)
  refine wpAny_bind (wpAny_seqItems hoO rfl ?_)
  refine wpAny_bind (tup_set (H := H4) (T := TO) (vs := [v1, o2, o3]) (k := 1) (v := v2) (by simp) (.tail .head) fun h₅ H5 => ?_)
  refine wpAny_bind (wpAny_letGo (wpAny_pure ?_))
  -- the third
  refine wpAny_bind (wpAny_bind (wpAny_onRaise ?_))
  show wpAny _ _ (Builtin.SmallTypes.nextOf (.ref i3) >>= _) _ _ _
  refine wpAny_bind (zip_draw H5 (tl a3) g3 (.tail (.tail (.tail .head))) fun h₆ H6 => wpAny_pure ?_)
  obtain ⟨oO, hoO, ⟨kO, rfl⟩, _⟩ := H6.get (a := TO) (List.mem_cons_of_mem _ List.mem_cons_self)
  refine wpAny_bind (wpAny_seqItems hoO rfl ?_)
  refine wpAny_bind (tup_set (H := H6) (T := TO) (vs := [v1, v2, o3]) (k := 2) (v := v3) (by simp) (.tail .head) fun h₇ H7 => ?_)
  refine wpAny_bind (wpAny_letGo (wpAny_pure (wpAny_pure ?_)))
  obtain ⟨oO, hoO, ⟨kO, rfl⟩, _⟩ := H7.get (a := TO) (List.mem_cons_of_mem _ List.mem_cons_self)
  refine wpAny_bind (wpAny_seqItems hoO rfl ?_)
  refine wpAny_bind (wpAny_newTuple (hsz := by simp [sizeLine_eq]) ?_)
  have H8 := H7.push (o := { cls := .type "tuple", data := .seq ([v1, v2, v3] : List Value).toArray }) (d := .tup [v1, v2, v3]) ⟨0, rfl⟩
  generalize hT : ({ s with heap := h₇, toks := s.toks } : Shared).heap.objs.size = T at H8
  refine wpAny_bind ?_
  unfold Builtin.SmallTypes.ownedTupleHandOut
  obtain ⟨oz, hoz, hsz, _⟩ := H8.get (a := z) (List.mem_cons_of_mem _ List.mem_cons_self)
  subst hsz
  refine wpAny_bind (wpAny_setField_rec hoz (by simp) fun h₉ hz₉ hs₉ => ?_)
  refine wpAny_setField_rec hz₉ (by simp) fun h₁₀ hz₁₀ hs₁₀ => ?_
  refine wpAny_pure ⟨_, rfl, h T _ ?_⟩
  exact H8.up (d' := .raw (Z3.zObj (rawInt (T : Nat)) TI TO)) (.tail .head) (hs₉.trans hs₁₀) hz₁₀ rfl _
end
section
variable {w : World} {c : Cx} {m : Lo} {n : Nw} {sc : Scope} {x : Str} {pos : Pos} {α : Type}
theorem IsL.in1 {a vs} (h : IsL c n a vs) : IsL c.in1 n a vs := by
  cases h with
  | new h => exact .new h
  | old h => exact .old h
theorem Hs.drop {s : Shared} {a d n'} {h' : Heap} (H : Hs w c m n s) (ha : (a, d) ∈ n) (hs : n'.Sublist n) (hn : a ∉ n'.map (·.1)) (hx : Heap.ExtBut a s.heap h') (tk : Nat) : Hs w c m n' { s with heap := h', toks := tk } := by
  obtain ⟨o, _, _, h1, h2⟩ := H.get ha
  exact (H.sub hs).side hn h1 h2 hx tk
theorem zip_end {z TI TO i1 i2 i3 l1 l2 l3 k o1 o2 o3} {vs1 : List Value} {s : Shared} {Q : PySem.Fin → Shared → Prop} {E : Value → Shared → Prop} (H : Hs w c m (zipNw z TI TO i1 i2 i3 l1 l2 l3 .none [o1, o2, o3] k ++ n) s)
    (a1 : IsL c n l1 vs1) (g1 : vs1.length ≤ k) (h : ∀ e s', Hs w c m n s' → (∃ o, s'.heap.get? e = some o ∧ o.cls = .type "StopIteration") → E (.ref e) s') :
    wpAny (model PG w) c.A (Builtin.«zip.__next__» ⟨[.ref z], []⟩) Q E s := by
  have nd := H.nd
  obtain ⟨oz, hoz, hsz, _⟩ := H.get (a := z) List.mem_cons_self
  obtain ⟨oI, hoI, ⟨kI, rfl⟩, _⟩ := H.get (a := TI) (List.mem_cons_of_mem _ (List.mem_cons_of_mem _ List.mem_cons_self))
  subst hsz
  show wpAny _ _ (field (.ref z) 2 >>= _) _ _ _
  refine wpAny_bind (wpAny_field hoz rfl (x := .bool false) rfl ?_)
  show wpAny _ _ (field (.ref z) 3 >>= _) _ _ _
  refine wpAny_bind (wpAny_field hoz rfl (x := .ref TI) rfl ?_)
  refine wpAny_bind (wpAny_seqItems hoI rfl ?_)
  show wpAny _ _ (Builtin.SmallTypes.ownedTupleIsFree (.ref z) >>= _) _ _ _
  refine wpAny_bind ?_
  unfold Builtin.SmallTypes.ownedTupleIsFree
  refine wpAny_bind (wpAny_field hoz rfl (x := .none) rfl (wpAny_pure ?_))
  simp only [if_true]
  refine wpAny_bind (wpAny_rule ?_)
  refine wpAny_bind (wpAny_field hoz rfl (x := .ref TO) rfl ?_)
  refine wpAny_bind (wpAny_setField_rec hoz (by simp) fun h₁ hz₁ hs₁ => ?_)
  have H1 : Hs w c m (zipNw z TI TO i1 i2 i3 l1 l2 l3 .ellipsis [o1, o2, o3] k ++ n) { s with heap := h₁, toks := s.toks } := H.up (d' := .raw (Z3.zObj .ellipsis TI TO)) .head hs₁ hz₁ rfl _
  refine wpAny_bind ?_
  simp only [List.zipIdx_cons, List.zipIdx_nil, List.forIn_cons, List.forIn_nil]
  refine wpAny_bind (wpAny_bind (wpAny_onRaise ?_))
  show wpAny _ _ (Builtin.SmallTypes.nextOf (.ref i1) >>= _) _ _ _
  have m1 : (i1, OD.flds "list_iterator" [.ref l1, .int (k : Nat) 0]) ∈ zipNw z TI TO i1 i2 i3 l1 l2 l3 .ellipsis [o1, o2, o3] k ++ n := by simp
  refine wpAny_bind (wpAny_nextOf_list_end H1.ok.hh (H1.flds m1 rfl) (H1.isL a1.tail.tail.tail.tail.tail.tail) (by simpa using g1) fun h₂ e hx he => ?_)
  simp only [List.map_cons, List.map_append, List.cons_append, List.nil_append, List.nodup_cons, List.mem_cons, List.map_nil, not_or] at nd
  have nz : z ≠ i1 := nd.1.2.2.2.2.1
  obtain ⟨oe, hoe, hce⟩ := he
  have hz₂ : h₂.get? z = some (Z3.zObj .ellipsis TI TO) := hx _ _ nz hz₁
  have H2 : Hs w c m n { s with heap := h₂, toks := s.toks } := H1.drop m1 (List.sublist_append_right _ _) (by simpa using nd.2.2.2.2.2.1) hx _
  refine wpAny_setField_rec hz₂ (by simp) fun h₃ hz₃ hs₃ => ?_
  have hzn : z ∉ n.map (·.1) := by simpa using nd.1.2.2.2.2.2
  obtain ⟨_, _, _, zL, z0⟩ := H.get (a := z) List.mem_cons_self
  refine h e _ (H2.side hzn zL z0 hs₃.extBut s.toks) ⟨oe, hs₃.extBut _ _ (fun q => ?_) hoe, hce⟩
  rw [q, hz₂] at hoe; cases hoe; simp at hce
theorem t_nextZip {z TI TO i1 i2 i3 l1 l2 l3 k o1 o2 o3 v1 v2 v3} {vs1 vs2 vs3 : List Value} {Q : Option Value → Lo → Nw → Prop} (hr : 1 ≤ c.r) (a1 : IsL c n l1 vs1) (a2 : IsL c n l2 vs2) (a3 : IsL c n l3 vs3) (g1 : vs1[k]? = some v1) (g2 : vs2[k]? = some v2) (g3 : vs3[k]? = some v3)
    (h : ∀ T : Addr, Q (some (.ref T)) m ((T, .tup [v1, v2, v3]) :: zipNw z TI TO i1 i2 i3 l1 l2 l3 (rawInt (T : Nat)) [v1, v2, v3] (k + 1) ++ n)) : TT w c m (zipNw z TI TO i1 i2 i3 l1 l2 l3 .none [o1, o2, o3] k ++ n) (pyNext (.ref z)) Q := fun s H E => by
  obtain ⟨oz, hoz, hsz, _⟩ := H.get (a := z) List.mem_cons_self
  subst hsz
  have hT : s.TypeIs (.ref z) "zip" := ⟨_, hoz, rfl⟩
  have Hc : Hs w c.in1 m _ s := H.to (c' := c.in1) (H.ok.in1 hr) rfl rfl rfl rfl
  unfold pyNext
  exact wpAny_bind (wpAny_attempt (wpAny_callSpecial?_slot (name := Str.ofString "__next__") hT PySem.F.slot_zip_next
    (wpAny_call_entry PySem.F.slot_zip_next hT PySem.F.entry_zip_next
      (zip_next (c := c.in1) Hc a1.in1 a2.in1 a3.in1 g1 g2 g3 fun T s' H' => wpAny_pure ⟨m, _, H'.to H.ok rfl rfl rfl rfl, h T⟩) (PySem.F.args_zip_next_1 _))))
theorem t_nextZipEnd {z TI TO i1 i2 i3 l1 l2 l3 k o1 o2 o3} {vs1 : List Value} {Q : Option Value → Lo → Nw → Prop} (hr : 1 ≤ c.r) (a1 : IsL c n l1 vs1) (g1 : vs1.length ≤ k) (h : Q none m n) : TT w c m (zipNw z TI TO i1 i2 i3 l1 l2 l3 .none [o1, o2, o3] k ++ n) (pyNext (.ref z)) Q := fun s H E => by
  obtain ⟨oz, hoz, hsz, _⟩ := H.get (a := z) List.mem_cons_self
  subst hsz
  have hT : s.TypeIs (.ref z) "zip" := ⟨_, hoz, rfl⟩
  have Hc : Hs w c.in1 m _ s := H.to (c' := c.in1) (H.ok.in1 hr) rfl rfl rfl rfl
  unfold pyNext
  refine wpAny_bind (wpAny_attempt (wpAny_callSpecial?_slot (name := Str.ofString "__next__") hT PySem.F.slot_zip_next
    (wpAny_call_entry PySem.F.slot_zip_next hT PySem.F.entry_zip_next (zip_end (c := c.in1) Hc a1.in1 g1 fun e s' H' he => ?_) (PySem.F.args_zip_next_1 _))))
  obtain ⟨o, ho, hc⟩ := he
  refine wpAny_bind (wpAny_isInstance (T := "StopIteration") (b := true) ⟨o, ho, hc⟩ isSubtype_stop ?_)
  exact wpAny_pure ⟨m, n, H'.to H.ok rfl rfl rfl rfl, h⟩
end

end Mine
end
section
open PySem PySem.W PySem.Calls PyProof.Rows
namespace Mine
section
variable {w : World} {c : Cx} {m : Lo} {n : Nw} {sc : Scope} {x : Str} {pos : Pos} {α : Type}
theorem Up.make {a : Addr} {d d' : OD} {n : Nw} (h : (a, d) ∈ n) : ∃ n', Up a d d' n n' := by
  induction n with
  | nil => cases h
  | cons p r ih =>
    rcases List.mem_cons.mp h with e | h
    · cases e; exact ⟨_, .head⟩
    · obtain ⟨n', u⟩ := ih h; exact ⟨_, .tail u⟩
theorem t_Lambda {params body scope clos} {Q : Value → Lo → Nw → Prop} (hdef : defaultsOf params c.env = ([], [])) (hcl : closureFor scope c.env = pure clos) (hcode : c.env.code = .ref 156) (hp : (152, OD.raw (tabObj #[])) ∈ n)
    (h : ∀ f c' pm ctv oc vs t n', oc.data = .fields vs → vs[1]? = some (.str (c.env.qual ++ "<lambda>") t) → Up 152 (.raw (tabObj #[])) (.raw (tabObj #[rawInt pos.line, rawInt pos.col, .ref c'])) n n' →
      Q (.ref f) m ((f, .raw (kla_obj "<lambda>" (c.env.qual ++ "<lambda>") params body scope clos pm c' ctv)) :: (c', .raw oc) :: n')) : TT w c m n (eval (.Lambda params body scope pos) c.env) Q := fun s H E => by
  obtain ⟨oP, hoP, hsP, hPL, hP0⟩ := H.get hp
  obtain ⟨oB, hoB0, hb1, hb2, hb3⟩ := H.ok.S.bm
  have hoB := H.fr.keep _ _ hoB0
  subst hsP
  obtain ⟨p, lo, mg, mb, T⟩ := H.ok.T
  refine kla_eval hdef ?_
  have hg := T.g.keeps H.fr.keep
  have e1 : mg "__builtins__" = some (.ref 4) := mg_of H.ok.X T.g (by kernel_rfl)
  have C : CodeHd s.heap 156 152 := by
    have e : (hd.heap_1 w.params).lookup 156 = some { cls := .type "code", data := .fields #[.str (Str.ofString "_law_stream") 392, .str (Str.ofString "_law_stream") 393,
              .str (Str.ofString "/claim/cut.py") 394, .int 149 0, .int 1 0, .int 0 0, .int 0 0, .int 3 0, .ref 151, .bool true, .int 181 0, .ref 152, .none,
              .ref 153, .ref 154, .ref 155, .int 398 0, .int 149 0, .str (Str.ofString "/claim/cut.py") 399] } := by kernel_rfl
    exact ⟨_, _, Str.ofString "/claim/cut.py", 399, 3, 0, true, 181, 0, H.X 156 _ e, rfl, rfl, rfl, rfl, rfl, rfl, rfl, rfl, by decide⟩
  have gp : mainGlobals ≠ 152 := by decide
  refine kla_makeFunction (mg := mg) (P := 152) (ps := #[]) hcl H.ok.glo hg hcode C hoP True.intro rfl gp ⟨4, oB, e1, by decide, by decide, by decide, hoB, hb1, hb2, hb3⟩ fun c' ctv h' tk hx hge hlt hrec htb => ?_
  obtain ⟨c₂, oc, vs, t, e2, hoc, hd, hv⟩ := hrec
  cases e2
  obtain ⟨n', hu⟩ := Up.make (d' := .raw (tabObj #[rawInt pos.line, rawInt pos.col, .ref c'])) hp
  have nd := H.nd
  have hL : c.L < s.heap.objs.size := by obtain ⟨oL, _, _, hL, _⟩ := H.fr.ns; exact Heap.lt_size hL
  have H1 : Hs w c m n' { s with heap := h', toks := tk } := by
    refine ⟨H.ok, ⟨?_, fun b o e => hx b o (fun q => by rw [q, hP0] at e; cases e) (H.fr.keep b o e), H.fr.above⟩, mkNews fun b d' hm => ?_, hu.keys ▸ H.nd, H.ky, H.gens, H.bare, H.os⟩
    · obtain ⟨oL, es, ep, hL, r⟩ := H.fr.ns
      exact ⟨oL, es, ep, hx _ _ (fun q => hPL q.symm) hL, r⟩
    · rcases hu.back nd hm with ⟨rfl, rfl⟩ | ⟨hm, hne⟩
      · exact ⟨_, by simpa using htb, rfl, hPL, hP0⟩
      · obtain ⟨o', g1, g2, g3⟩ := H.get hm
        exact ⟨o', hx _ _ hne g1, g2, g3⟩
  have fresh : ∀ b, s.heap.objs.size ≤ b → b ≠ c.L ∧ c.h₀.get? b = none ∧ b ∉ n'.map (·.1) := fun b hb => by
    refine ⟨Nat.ne_of_gt (Nat.lt_of_lt_of_le hL hb), ?_, fun hm => ?_⟩
    · cases q : c.h₀.get? b with
      | none => rfl
      | some o' => exact absurd (Nat.lt_of_lt_of_le (Heap.lt_size (H.fr.keep _ _ q)) hb) (Nat.lt_irrefl _)
    · rw [hu.keys] at hm
      obtain ⟨⟨a, d⟩, hq, e⟩ := List.mem_map.mp hm
      have e : a = b := e
      exact absurd (Nat.lt_of_lt_of_le (H.lt (e ▸ hq)) hb) (Nat.lt_irrefl _)
  have H2 : Hs w c m ((c', .raw oc) :: n') { s with heap := h', toks := tk } := by
    obtain ⟨f1, f2, f3⟩ := fresh c' hge
    refine ⟨H1.ok, H1.fr, mkNews fun b d' hm => ?_, List.nodup_cons.mpr ⟨f3, H1.nd⟩, H1.ky, H1.gens, H1.bare, H1.os⟩
    rcases List.mem_cons.mp hm with e | hm
    · cases e; exact ⟨oc, hoc, rfl, f1, f2⟩
    · exact H1.get hm
  have H3 := H2.push (o := kla_obj "<lambda>" (c.env.qual ++ "<lambda>") params body scope clos ((mg "__name__").getD .none) c' ctv) (d := .raw _) rfl
  exact ⟨m, _, H3, h _ c' _ ctv oc vs t n' hd hv hu⟩
end

end Mine
end
section
open PySem PySem.W PySem.Calls PyProof.Rows
namespace Mine
/-! a part of the ledger, in any order -/
inductive Rem (p : Addr × OD) : Nw → Nw → Prop
  | head {r} : Rem p (p :: r) r
  | tail {q r r'} : Rem p r r' → Rem p (q :: r) (q :: r')
noncomputable def Pick (n' n : Nw) : Prop := (∀ p, p ∈ n' → p ∈ n) ∧ ((n.map (·.1)).Nodup → (n'.map (·.1)).Nodup)
theorem Rem.mem {p : Addr × OD} {n n' : Nw} (h : Rem p n n') : p ∈ n := by
  induction h with
  | head => exact List.mem_cons_self
  | tail _ ih => exact List.mem_cons_of_mem _ ih
theorem Rem.sub {p : Addr × OD} {n n' : Nw} (h : Rem p n n') : n'.Sublist n := by
  induction h with
  | head => exact List.sublist_cons_self _ _
  | tail _ ih => exact ih.cons_cons _
theorem Rem.nd {p : Addr × OD} {n n' : Nw} (h : Rem p n n') : (n.map (·.1)).Nodup → p.1 ∉ n'.map (·.1) := by
  induction h with
  | head => intro nd; exact (List.nodup_cons.mp nd).1
  | @tail q r r' h ih =>
    intro nd
    obtain ⟨h1, h2⟩ := List.nodup_cons.mp nd
    rw [List.map_cons, List.mem_cons, not_or]
    have hm : p.1 ∈ r.map (·.1) := List.mem_map_of_mem h.mem
    refine ⟨fun e => ?_, ih h2⟩
    rw [e] at hm
    exact h1 hm
theorem Pick.nil {n : Nw} : Pick [] n := ⟨fun _ h => absurd h List.not_mem_nil, fun _ => List.nodup_nil⟩
theorem Pick.all {n : Nw} : Pick n n := ⟨fun _ h => h, fun h => h⟩
theorem Pick.mem {n n' : Nw} (h : Pick n' n) : ∀ p ∈ n', p ∈ n := h.1
theorem Pick.nd {n n' : Nw} (h : Pick n' n) : (n.map (·.1)).Nodup → (n'.map (·.1)).Nodup := h.2
theorem Pick.trans {a b d : Nw} (h : Pick a b) (g : Pick b d) : Pick a d := ⟨fun p hp => g.1 p (h.1 p hp), fun nd => h.2 (g.2 nd)⟩
theorem Pick.sublist {n' n : Nw} (h : n'.Sublist n) : Pick n' n := ⟨fun p hp => h.subset hp, (h.map _).nodup⟩
theorem Pick.cons {p : Addr × OD} {r n n' : Nw} (h : Rem p n n') (g : Pick r n') : Pick (p :: r) n := by
  refine ⟨fun q hq => ?_, fun nd => ?_⟩
  · rcases List.mem_cons.mp hq with rfl | hq
    · exact h.mem
    · exact h.sub.subset (g.1 q hq)
  · have nd' := (h.sub.map (·.1)).nodup nd
    rw [List.map_cons, List.nodup_cons]
    refine ⟨fun hm => ?_, g.2 nd'⟩
    obtain ⟨q, hq, e⟩ := List.mem_map.mp hm
    exact h.nd nd (e ▸ List.mem_map_of_mem (f := (·.1)) (g.1 q hq))
theorem Pick.of {p : Addr × OD} {n' n : Nw} (h : Pick (p :: n') n) : Pick n' n := (Pick.sublist (List.sublist_cons_self _ _)).trans h
section
variable {w : World} {c : Cx} {m : Lo} {n : Nw} {sc : Scope} {x : Str} {pos : Pos} {α : Type}
theorem Hs.pick {s : Shared} (H : Hs w c m n s) {n' : Nw} (h : Pick n' n) : Hs w c m n' s :=
  ⟨H.ok, H.fr, mkNews fun a d hm => H.get (h.mem _ hm), h.nd H.nd, H.ky, H.gens, H.bare, H.os⟩
theorem t_pick {t : Sem α} {n' : Nw} {Q : α → Lo → Nw → Prop} (hs : Pick n' n) (h : TT w c m n' t Q) : TT w c m n t Q := fun s H E => h s (H.pick hs) E
theorem t_weakP {t : Sem α} {Q : α → Lo → Nw → Prop} (h : TT w c m n t fun a m' n' => ∃ n'', Pick n'' n' ∧ Q a m' n'') : TT w c m n t Q :=
  fun s H E => wpAny_mono (h s H E) (fun _ _ ⟨m', n', H', n'', hs, hq⟩ => ⟨m', n'', H'.pick hs, hq⟩) fun _ _ x => x
theorem ct_weakP {k : Code} {Q : Flow → Lo → Nw → Prop} (h : CT w c m n k fun a m' n' => ∃ n'', Pick n'' n' ∧ Q a m' n'') : CT w c m n k Q :=
  fun s H R hR => h s H R fun f m' n' s' H' ⟨n'', hp, hq⟩ => hR f m' n'' s' (H'.pick hp) hq
theorem ct_pick {k : Code} {n' : Nw} {Q : Flow → Lo → Nw → Prop} (hs : Pick n' n) (h : CT w c m n' k Q) : CT w c m n k Q := fun s H R hR => h s (H.pick hs) R hR
theorem ct_mono {k : Code} {Q Q' : Flow → Lo → Nw → Prop} (h : CT w c m n k Q) (hq : ∀ a m' n', Q a m' n' → Q' a m' n') : CT w c m n k Q' := fun s H R hR => h s H R fun f m' n' s' H' q => hR f m' n' s' H' (hq _ _ _ q)
theorem ct_forP {it D len Pv P tgt body} {Q : Flow → Lo → Nw → Prop} (N : Nexts w c it D len Pv P) (I : Nat → Lo → Nw → Prop) (hP : ∀ i m n, I i m n → P n) (h0 : I 0 m n)
    (step : ∀ i v new m n, i < len → I i m n → Pv i v new → ∀ d, d = D (i + 1) → TT w c m (new ++ (it, d) :: n) (letOwnedTupleGo tgt (.ref it) v) fun _ m1 n1 => TT w c m1 n1 (assign tgt c.env v) fun _ m2 n2 => TT w c m2 n2 (execs body c.env) fun f m3 n' =>
      ∃ n3, Pick ((it, d) :: n3) n' ∧ match f with | .next | .cont => I (i + 1) m3 n3 | .brk => Q .next m3 n3 | .ret v => Q (.ret v) m3 n3)
    (fin : ∀ m n, I len m n → Q .next m n) : CT w c m ((it, D 0) :: n) (.forLoop tgt (.ref it) body [] c.env) Q := by
  refine ct_for (fun k m n' => ∃ i n, n' = (it, D i) :: n ∧ i ≤ len ∧ k = len - i ∧ I i m n) ?_ (len - 0) ⟨0, n, rfl, Nat.zero_le _, rfl, h0⟩
  rintro k m n' ⟨i, n, rfl, hi, rfl, hI⟩
  obtain ⟨h1, h2⟩ := N i m n (hP i m n hI)
  by_cases hlt : i < len
  · refine h1 hlt _ fun v new hv => ?_
    refine t_mono (step i v new m n hlt hI hv _ rfl) fun _ m1 n1 h1 => t_mono h1 fun _ m2 n2 h2 => t_weakP (t_mono h2 fun f m3 n' h3 => ?_)
    obtain ⟨n3, hs, h3⟩ := h3
    cases f with
    | next => exact ⟨_, hs, len - (i + 1), by omega, i + 1, n3, rfl, hlt, rfl, h3⟩
    | cont => exact ⟨_, hs, len - (i + 1), by omega, i + 1, n3, rfl, hlt, rfl, h3⟩
    | brk =>
      refine ⟨n3, ?_, h3⟩
      exact Pick.of hs
    | ret v => exact ⟨n3, Pick.of hs, h3⟩
  · have e : i = len := by omega
    subst e
    exact h2 (Nat.le_refl _) _ (t_nil (fin _ _ hI))
/-- a comprehension of one generator, upon an iterator -/
theorem ct_compN {it D len Pv P target elt iter ifs acc} {Q : Flow → Lo → Nw → Prop} (N : Nexts w c it D len Pv P) (self : ∀ (n : Nw) (Q : Value → Lo → Nw → Prop), Q (.ref it) m ((it, D 0) :: n) → TT w c m ((it, D 0) :: n) (pyIter (.ref it)) Q) (I : Nat → Lo → Nw → Prop) (hP : ∀ i m n, I i m n → P n) (h0 : I 0 m n)
    (step : ∀ i v new m n, i < len → I i m n → Pv i v new → ∀ d, d = D (i + 1) → TT w c m (new ++ (it, d) :: n) (letOwnedTupleGo target (.ref it) v) fun _ m2 n2 => TT w c m2 n2 (assign target c.env v) fun _ m3 n3 => TT w c m3 n3 (compTests ifs c.env) fun ok m4 n4 =>
          if ok then TT w c m4 n4 (eval elt c.env) fun x m5 n5 => TT w c m5 n5 (call (.builtin "list.append") [acc, x]) fun _ m6 n' => ∃ n3, Pick ((it, d) :: n3) n' ∧ I (i + 1) m6 n3
          else ∃ n3, Pick ((it, d) :: n3) n4 ∧ I (i + 1) m4 n3)
    (fin : ∀ m n, I len m n → Q .next m n) : CT w c m ((it, D 0) :: n) (.compStart (.ListComp elt [⟨target, iter, ifs, 0⟩] sc pos) 0 (.ref it) acc c.env) Q := by
  have key : CT w c m ((it, D 0) :: n) (.compLoop (.ListComp elt [⟨target, iter, ifs, 0⟩] sc pos) 0 (.ref it) acc c.env) Q := by
    refine ct_comp1 (fun k m n' => ∃ i n, n' = (it, D i) :: n ∧ i ≤ len ∧ k = len - i ∧ I i m n) ?_ (len - 0) ⟨0, n, rfl, Nat.zero_le _, rfl, h0⟩
    rintro k m n' ⟨i, n, rfl, hi, rfl, hI⟩
    obtain ⟨h1, h2⟩ := N i m n (hP i m n hI)
    by_cases hlt : i < len
    · refine h1 hlt _ fun v new hv => ?_
      refine t_mono (step i v new m n hlt hI hv _ rfl) fun _ m1 n1 h1 => t_mono h1 fun _ m2 n2 h2 => t_weakP (t_mono h2 fun ok m3 n' h3 => ?_)
      cases ok with
      | true =>
        rw [if_pos rfl] at h3
        refine ⟨n', .all, ?_⟩
        rw [if_pos rfl]
        refine t_mono h3 fun x m5 n5 h5 => t_weakP (t_mono h5 fun _ m6 n6 ⟨n3, hs, hI⟩ => ⟨_, hs, len - (i + 1), by omega, i + 1, n3, rfl, hlt, rfl, hI⟩)
      | false =>
        rw [if_neg (by decide)] at h3
        obtain ⟨n3, hs, hI⟩ := h3
        refine ⟨_, hs, ?_⟩
        rw [if_neg (by decide)]
        exact ⟨len - (i + 1), by omega, i + 1, n3, rfl, hlt, rfl, hI⟩
    · have e : i = len := by omega
      subst e
      exact h2 (Nat.le_refl _) _ (fin _ _ hI)
  exact ct_start rfl key (self n _ key)
theorem t_selfR {it i k : Nat} (n : Nw) (Q : Value → Lo → Nw → Prop) (h : Q (.ref it) m ((it, .raw (rIter i k)) :: n)) : TT w c m ((it, .raw (rIter i k)) :: n) (pyIter (.ref it)) Q := fun s H E => by
  obtain ⟨o, ho, hs, _⟩ := H.get List.mem_cons_self
  subst hs
  exact wpAny_pyIter_rangeiter ho ⟨m, _, H, h⟩
theorem t_selfL {it : Addr} {a : Value} {i : Nat} (n : Nw) (Q : Value → Lo → Nw → Prop) (h : Q (.ref it) m ((it, .flds "list_iterator" [a, .int i 0]) :: n)) (ha : ∃ l, a = .ref l) : TT w c m ((it, .flds "list_iterator" [a, .int i 0]) :: n) (pyIter (.ref it)) Q := fun s H E => by
  obtain ⟨l, rfl⟩ := ha
  exact wpAny_pyIter_listiter (H.flds List.mem_cons_self rfl) ⟨m, _, H, h⟩
theorem Up.same {a : Addr} {d : OD} {n : Nw} (h : (a, d) ∈ n) : Up a d d n n := by
  induction n with
  | nil => cases h
  | cons p r ih =>
    rcases List.mem_cons.mp h with e | h
    · cases e; exact .head
    · exact .tail (ih h)
theorem Sub.same : ∀ {r n : Nw}, (∀ p, p ∈ r → p ∈ n) → Sub r r n n
  | [], _, _ => .nil
  | (a, d) :: r, n, h => .cons (.same (h _ List.mem_cons_self)) (Sub.same fun p hp => h p (List.mem_cons_of_mem _ hp))
theorem t_callP {f : Addr} {args : List Value} {r : Nat} {n1 : Nw} {Q : Value → Nw → Nw → Prop} {Q' : Value → Lo → Nw → Prop} (hC : CallT w r f args n1 Q) (hr : r ≤ c.r) (hp : Pick n1 n)
    (h : ∀ v new n1', Q v new n1' → ∃ n', Sub n1 n1' n n' ∧ Q' v m (new ++ n')) : TT w c m n (call (.ref f) args) Q' := t_call hC hr hp.1 hp.2 h
/-- a call that leaves what it was handed -/
theorem t_callS {f : Addr} {args : List Value} {r : Nat} {n1 : Nw} {Q : Value → Nw → Nw → Prop} {Q' : Value → Lo → Nw → Prop} (hC : CallT w r f args n1 Q) (hr : r ≤ c.r) (hp : Pick n1 n)
    (h : ∀ v new n1', Q v new n1' → n1' = n1 ∧ Q' v m (new ++ n)) : TT w c m n (call (.ref f) args) Q' := t_callP hC hr hp fun v new n1' hq => by
  obtain ⟨e, h2⟩ := h v new n1' hq
  rw [e]
  exact ⟨n, Sub.same fun p hh => hp.1 p hh, h2⟩
end

end Mine
end
section
open PySem PySem.W PySem.Calls PyProof.Rows
namespace Mine
section
variable {w : World} {c : Cx} {m : Lo} {n : Nw} {sc : Scope} {x : Str} {pos : Pos} {α : Type}
theorem t_nextCIP {ci q f : Addr} {self : Value} {y : Str} {t : Tok} {r : Nat} {n1 : Nw} {Q0 : Value → Nw → Nw → Prop} {Q : Option Value → Lo → Nw → Prop} {oc od fd sl} (hr : r + 2 ≤ c.r)
    (hfn : (hd.heap_1 w.params).lookup f = some ⟨oc, od, .func fd, sl⟩) (hC : CallT w r f (self :: []) n1 Q0) (hp : Pick ((ci, .raw (ciObj q y t)) :: (q, .raw (methodObj (.ref f) self)) :: n1) n)
    (h : ∀ v new n1', Q0 v new n1' → ∃ z u, v = .str z u ∧ ∃ n', Sub n1 n1' n n' ∧ (z ≠ y → Q (some v) m (new ++ n')) ∧ (z = y → ∃ n'', Up ci (.raw (ciObj q y t)) (.raw ciEnd) (new ++ n') n'' ∧ Q none m n'')) : TT w c m n (pyNext (.ref ci)) Q := fun s H E => by
  have nd := hp.2 H.nd
  simp only [List.map_cons, List.nodup_cons, List.mem_cons, not_or] at nd
  exact t_nextCI hr hfn hC (fun p hh => hp.1 p (List.mem_cons_of_mem _ (List.mem_cons_of_mem _ hh))) nd.2.2 (hp.1 _ (List.mem_cons_of_mem _ List.mem_cons_self)) nd.2.1 (hp.1 _ List.mem_cons_self) nd.1.2 h s H E
theorem t_nextCIEnd {ci : Addr} {Q : Option Value → Lo → Nw → Prop} (hi : (ci, OD.raw ciEnd) ∈ n) (h : Q none m n) : TT w c m n (pyNext (.ref ci)) Q := fun s H E => by
  obtain ⟨obi, hoi, hsi, _⟩ := H.get hi
  subst hsi
  have hT : s.TypeIs (.ref ci) "callable_iterator" := ⟨_, hoi, rfl⟩
  have key : wpAny (model PG w) c.A.in1 (Builtin.«callable_iterator.__next__» ⟨[.ref ci], []⟩) (fun fin s' => ∃ v, fin = .done (.ret v) ∧ ∃ m' n', Hs w c m' n' s' ∧ Q (some v) m' n')
      (fun e s' => (∃ a, e = .ref a ∧ ∃ o, s'.heap.get? a = some o ∧ o.cls = .type "StopIteration") ∧ ∃ m' n', Hs w c m' n' s' ∧ Q none m' n') s := by
    show wpAny _ _ (field (.ref ci) 2 >>= _) _ _ _
    refine wpAny_bind (wpAny_field hoi rfl (x := .bool true) rfl ?_)
    show wpAny _ _ (if (Value.bool true == Value.bool true) = true then _ else _) _ _ _
    rw [if_pos (by decide)]
    refine wpAny_bind (wpAny_rule (wpAny_bind (stop_raise H.ok.hh fun h4 e k4 he => ?_)))
    exact ⟨⟨e, rfl, he⟩, m, n, H.grow k4 rfl rfl, h⟩
  unfold pyNext
  refine wpAny_bind (wpAny_attempt (wpAny_callSpecial?_slot (name := Str.ofString "__next__") hT CI.slot_next
    (wpAny_call_entry CI.slot_next hT CI.entry_next (wpAny_mono key (fun fin s' h' => ?_) fun e s' h' => ?_) (CI.args_next _))))
  · obtain ⟨v, rfl, m', n', H', q'⟩ := h'
    exact ⟨v, rfl, wpAny_pure ⟨m', n', H', q'⟩⟩
  · obtain ⟨⟨a, rfl, o, ho, hcls⟩, m', n', H', q'⟩ := h'
    refine wpAny_bind (wpAny_isInstance (T := "StopIteration") (b := true) ⟨o, ho, hcls⟩ isSubtype_stop ?_)
    exact wpAny_pure ⟨m', n', H', q'⟩
end

end Mine
end
section
open PySem PySem.W PySem.Calls PyProof.Rows
namespace Mine
theorem t_ifT {P R : Prop} {i : Decidable (true = true)} (h : P) : @ite Prop (true = true) i P R := by rw [if_pos rfl]; exact h
theorem t_ifF {P R : Prop} {i : Decidable (false = true)} (h : R) : @ite Prop (false = true) i P R := by rw [if_neg (by intro e; cases e)]; exact h

end Mine
end
section
open PySem PySem.W PySem.Calls PyProof.Rows
namespace Mine
section
variable {w : World} {c : Cx} {m : Lo} {n : Nw} {sc : Scope} {x : Str} {pos : Pos} {α : Type}
theorem t_selfS {it : Addr} {y : Str} {t : Tok} {i : Nat} (n : Nw) (Q : Value → Lo → Nw → Prop) (h : Q (.ref it) m ((it, .flds (strIter y) [.str y t, .int i 0]) :: n)) : TT w c m ((it, .flds (strIter y) [.str y t, .int i 0]) :: n) (pyIter (.ref it)) Q := fun s H E => by
  obtain ⟨o, ho, ⟨hc, hd⟩, _⟩ := H.get List.mem_cons_self
  cases ha : y.cps.all (· < 128) with
  | true =>
    have e : strIter y = "str_ascii_iterator" := by unfold strIter strIterType; rw [ha]; rfl
    rw [e] at hc
    exact wpAny_pyIter_striter_ascii (x := y) (t := t) (i := i) ⟨o, ho, hc, hd⟩ ⟨m, _, H, h⟩
  | false =>
    have e : strIter y = "str_iterator" := by unfold strIter strIterType; rw [ha]; rfl
    rw [e] at hc
    exact wpAny_pyIter_striter_wide (x := y) (t := t) (i := i) ⟨o, ho, hc, hd⟩ ⟨m, _, H, h⟩
end
section
variable {w : World} {c : Cx} {m : Lo} {n : Nw}
theorem t_truthyI {a t} {Q : Bool → Lo → Nw → Prop} (h : Q (a != 0) m n) : TT w c m n (truthy (.int a t)) Q := fun s H _ => PySem.P.truthy_int ⟨m, n, H, h⟩
end

end Mine
end
section
open PySem PySem.W PySem.Calls PyProof.Rows
namespace Mine
section
variable {w : World}
theorem Pick.perm {n n' : Nw} (h : n'.Perm n) : Pick n' n := ⟨fun p hp => h.mem_iff.mp hp, fun nd => (h.map _).nodup_iff.mpr nd⟩
theorem t_endP {c : Cx} {m : Lo} {n : Nw} {t : Sem Flow} {Q : Value → Nw → Nw → Prop} (h : TT w c m n t fun fl _ n2 => ∃ new n1', Pick (new ++ n1') n2 ∧ Q (retv fl) new n1') : TT w c m n t fun fl _ n2 => ∃ new n1', (new ++ n1').Sublist n2 ∧ Q (retv fl) new n1' :=
  t_weakP (t_mono h fun _ _ _ ⟨new, n1', hp, hq⟩ => ⟨new ++ n1', hp, new, n1', List.Sublist.refl _, hq⟩)
theorem callT_defP {r : Nat} {f : Addr} {args : List Value} {n1 : Nw} {Q : Value → Nw → Nw → Prop} {name qual : Str} {params : Arguments} {body : List Stmt} {scope : Scope} {dV kV doc pm cdv ct oc : Value} {an od : Option Addr} {osl : Array (Option Value)}
    (ho : (hd.heap_1 w.params).lookup f = some ⟨oc, od, .func (fnOf name qual params body scope dV kV doc pm an cdv ct), osl⟩) (hcd : codeIn (hd.heap_1 w.params) cdv qual = true)
    (ps ns : List Str) (m₀ : Lo) (hm : m₀ = lo0 ps args ns) (hln : ps.length = args.length)
    (hbind : bindArgs (fnOf name qual params body scope dV kV doc pm an cdv ct) ⟨args, []⟩ = pure (ps.zip args)) (hloc : (ps.all fun x => decide (scope.names.lookup x = some .local)) = true) (hcell : (scope.names.all fun x => x.2 != .cell) = true) (hky : (ps ++ ns).Nodup)
    (hco : scope.isCoroutine = false) (hgen : scope.isGenerator = false) (hk : scope.kind = .function)
    (h : ∀ c', EnvK c' scope → r ≤ c'.r → c'.gen = false → TT w c' m₀ n1 (execs body c'.env) fun fl _ n2 => ∃ new n1', Pick (new ++ n1') n2 ∧ Q (retv fl) new n1') : CallT w (r + 1) f args n1 Q :=
  callT_def ho hcd ps ns m₀ hm hln hbind hloc hcell hky hco hgen hk fun c' a b d => t_endP (Q := Q) (h c' a b d)
theorem callT_defCP {r : Nat} {f : Addr} {args : List Value} {n1 : Nw} {Q : Value → Nw → Nw → Prop} {name qual : Str} {params : Arguments} {body : List Stmt} {scope : Scope} {dV kV doc pm cdv ct oc : Value} {an od : Option Addr} {osl : Array (Option Value)}
    (ho : (hd.heap_1 w.params).lookup f = some ⟨oc, od, .func (fnOf name qual params body scope dV kV doc pm an cdv ct), osl⟩) (hcd : codeIn (hd.heap_1 w.params) cdv qual = true)
    (binds : List (Str × Value)) (m₀ : Lo) (hm : ∀ y, lk m₀ y = bindL (fun y => scope.names.lookup y) binds (fun _ => none) y) (hky : (m₀.map (·.1)).Nodup)
    (hbind : bindArgs (fnOf name qual params body scope dV kV doc pm an cdv ct) ⟨args, []⟩ = pure binds)
    (hkind : ∀ n, ∀ x ∈ binds, scope.names.lookup x.1 = some .local ∨ (scope.names.lookup x.1 = some .cell ∧ ((cellsFrom n scope.names []).lookup x.1).isSome = true))
    (hnd : ((cellsFrom 0 scope.names []).map (·.1)).Nodup)
    (hco : scope.isCoroutine = false) (hgen : scope.isGenerator = false) (hk : scope.kind = .function)
    (h : ∀ c', EnvK c' scope → c'.env.cells = cellsFrom (c'.L + 1) scope.names [] → c'.env.code = cdv → r ≤ c'.r → c'.gen = false →
      TT w c' m₀ (cellNw (bindC (fun y => scope.names.lookup y) binds fun _ => none) (cellsFrom (c'.L + 1) scope.names []) ++ n1) (execs body c'.env) fun fl _ n2 => ∃ new n1', Pick (new ++ n1') n2 ∧ Q (retv fl) new n1') : CallT w (r + 1) f args n1 Q :=
  callT_defC ho hcd binds m₀ hm hky hbind hkind hnd hco hgen hk fun c' a b d e f => t_endP (Q := Q) (h c' a b d e f)
end

end Mine
end
section
open PySem PySem.W PySem.Calls PyProof.Rows
namespace Mine
section
variable {w : World} {c : Cx} {m : Lo} {n : Nw} {pos : Pos}
theorem t_BOne {op e} {Q : Value → Lo → Nw → Prop} (h : TT w c m n (eval e c.env) Q) : TT w c m n (eval (.BoolOp op [e] pos) c.env) Q := fun s H E => BoolOp_one (h s H E)
theorem t_BAnd {e₁ e₂ rest} {Q : Value → Lo → Nw → Prop} (h : TT w c m n (eval e₁ c.env) fun v m1 n1 => TT w c m1 n1 (truthy v) fun b m2 n2 => if b then TT w c m2 n2 (eval (.BoolOp .And (e₂ :: rest) pos) c.env) Q else Q v m2 n2) :
    TT w c m n (eval (.BoolOp .And (e₁ :: e₂ :: rest) pos) c.env) Q := fun s H E =>
  BoolOp_and (wpAny_mono (h s H E) (fun v s1 ⟨m1, n1, H1, h1⟩ => wpAny_mono (h1 s1 H1 E) (fun b s2 ⟨m2, n2, H2, h2⟩ => by
    cases b with
    | true => exact h2 s2 H2 E
    | false => exact ⟨m2, n2, H2, h2⟩) fun _ _ x => x) fun _ _ x => x)
end

end Mine
end
section
open PySem PySem.W PySem.Calls PyProof.Rows
namespace Mine
section
variable {w : World} {c : Cx} {m : Lo} {n : Nw} {pos : Pos}
theorem t_goTupL {elts x1 it l} {a : Value} {k : Int} {Q : Unit → Lo → Nw → Prop} (hi : (it, OD.flds "list_iterator" [a, .int k 0]) ∈ n) (h : Q () m n) : TT w c m n (letOwnedTupleGo (.Tuple elts x1 pos) (.ref it) (.ref l)) Q := fun s H E => by
  obtain ⟨o, ho, ⟨h1, h2⟩, _⟩ := H.get hi
  unfold letOwnedTupleGo
  refine wpAny_bind (wpAny_load ho ?_)
  rw [h1, h2]
  dsimp only
  rw [if_neg (by simp)]
  exact wpAny_pure ⟨m, n, H, h⟩
theorem t_notIter {l vs} {Q : Bool → Lo → Nw → Prop} (hl : (l, OD.list vs) ∈ n) (h : Q false m n) : TT w c m n (notIterableAtAll (.ref l)) Q := fun s H E => by
  obtain ⟨o, ho, ⟨k, rfl⟩, _⟩ := H.get hl
  unfold notIterableAtAll
  refine wpAny_bind (wpAny_specialOf (H.list hl).typeIs PySem.F.slot_list_iter.lookup ?_)
  exact wpAny_pure ⟨m, n, H, h⟩
theorem t_drop {t : Sem Unit} {p : Addr × OD} {Q : Unit → Lo → Nw → Prop} (h : TT w c m n t Q) : TT w c m (p :: n) t Q := t_pick (Pick.sublist (List.sublist_cons_self _ _)) h
theorem t_asgTupL {elts x1 l v1 v2} {Q : Unit → Lo → Nw → Prop} (hl : (l, OD.list [v1, v2]) ∈ n) (hn : (assignEach elts c.env).length = 2) (hstar : (assignEach elts c.env).findIdx? (·.1) = none)
    (h : TT w c m n (assignInOrder ((assignEach elts c.env).map (·.2)) [v1, v2]) Q) : TT w c m n (assign (.Tuple elts x1 pos) c.env (.ref l)) Q := by
  rw [assign_Tuple]
  refine t_bind (t_standAt ?_)
  unfold unpack
  rw [hn, hstar]
  refine t_bind (t_holding ?_)
  unfold unpackItems
  refine t_bind (t_notIter hl ?_)
  rw [if_neg (by decide)]
  have hI : IsL c n l [v1, v2] := .new hl
  refine t_bind (t_holding (t_iterL hI fun it => ?_))
  have N := nexts_L (w := w) (c := c) (it := it) (a := l) (vs := [v1, v2])
  refine t_bind (t_holding ?_)
  refine t_bind ((N 0 m n hI).1 (by simp) _ ?_)
  rintro v new ⟨rfl, hv⟩
  cases hv
  refine t_bind (t_holding (t_bind ((N 1 m n hI).1 (by simp) _ ?_)))
  rintro v new ⟨rfl, hv⟩
  cases hv
  refine t_bind (t_holding (t_pure (t_pure (t_pure ?_))))
  rw [if_neg (by simp)]
  refine t_bind (t_holding ((N 2 m n hI).2 (by simp) _ ?_))
  rw [if_neg (by decide)]
  exact t_pure h
end
theorem Pick.skip {p : Addr × OD} {r n : Nw} (h : Pick r n) : Pick r (p :: n) := h.trans (Pick.sublist (List.sublist_cons_self _ _))
theorem t_isNotB {w : World} {c : Cx} {m : Lo} {n : Nw} {a b : Bool} {Q : Value → Lo → Nw → Prop} (h : Q (.bool (!(a == b))) m n) : TT w c m n (compareOp .IsNot (.bool a) (.bool b)) Q := fun s H E => by
  refine wpAny_isNot_plain rfl ⟨m, n, H, ?_⟩
  have e : ((Value.bool a == Value.bool b) : Bool) = (a == b) := by cases a <;> cases b <;> decide
  rw [e]; exact h

end Mine
end
section
open PySem PySem.W PySem.Calls PyProof.Rows
namespace Mine
structure Hid {α : Type} (P B : α → Lo → Nw → Prop) : Prop where
  out : ∀ a m n, P a m n → B a m n
theorem Hid.same {α : Type} {P : α → Lo → Nw → Prop} : Hid P P := ⟨fun _ _ _ x => x⟩
section
variable {w : World} {c : Cx} {m : Lo} {n : Nw} {pos p1 p2 : Pos} {x : Str} {sc : Scope} {α : Type}
/-- the post is given a name -/
theorem t_hid {t : Sem α} {Q : α → Lo → Nw → Prop} (h : ∀ B, Hid Q B → TT w c m n t B) : TT w c m n t Q := h _ .same
theorem t_via {t : Sem α} {Q Q' : α → Lo → Nw → Prop} (h : ∀ B, Hid Q B → TT w c m n t B) (hq : ∀ a m' n', Q a m' n' → Q' a m' n') : TT w c m n t Q' := t_mono (h _ .same) hq
theorem ite_joinH {b : Bool} {t1 t2 : Sem α} {K : α → Lo → Nw → Prop} (P : α → Lo → Nw → Prop) (h1 : b = true → ∀ B, Hid P B → TT w c m n t1 B) (h2 : b = false → ∀ B, Hid P B → TT w c m n t2 B) (h : ∀ a m' n', P a m' n' → K a m' n') : (if b then TT w c m n t1 K else TT w c m n t2 K) := by
  cases b with
  | true => rw [if_pos rfl]; exact t_mono (h1 rfl _ .same) h
  | false => rw [if_neg (by decide)]; exact t_mono (h2 rfl _ .same) h
theorem ct_forH {target it body orelse} {Q : Flow → Lo → Nw → Prop} (I : Nat → Lo → Nw → Prop)
    (turn : ∀ k m n, I k m n → ∀ B, Hid (fun f m3 n3 => match f with
        | .next | .cont => ∃ k', k' < k ∧ I k' m3 n3
        | .brk => Q .next m3 n3
        | .ret v => Q (.ret v) m3 n3) B → ∀ Q', Hid Q Q' → TT w c m n (pyNext it) fun r m1 n1 => match r with
      | none => TT w c m1 n1 (execs orelse c.env) Q'
      | some v => TT w c m1 n1 (letOwnedTupleGo target it v) fun _ m1' n1' => TT w c m1' n1' (assign target c.env v) fun _ m2 n2 => TT w c m2 n2 (execs body c.env) B)
    (k : Nat) (h : I k m n) : CT w c m n (.forLoop target it body orelse c.env) Q := ct_for I (fun k m n hI => turn k m n hI _ .same _ .same) k h
theorem ct_whileH {test body orelse} {Q : Flow → Lo → Nw → Prop} (I : Nat → Lo → Nw → Prop)
    (turn : ∀ k m n, I k m n → ∀ B, Hid (fun f m3 n3 => match f with
        | .next | .cont => ∃ k', k' < k ∧ I k' m3 n3
        | .brk => Q .next m3 n3
        | .ret v => Q (.ret v) m3 n3) B → ∀ Q', Hid Q Q' → TT w c m n (isTrue test c.env (eval test c.env)) fun b m1 n1 =>
      if b then TT w c m1 n1 (execs body c.env) B else TT w c m1 n1 (execs orelse c.env) Q')
    (k : Nat) (h : I k m n) : CT w c m n (.whileLoop test body orelse c.env) Q := ct_while I (fun k m n hI => turn k m n hI _ .same _ .same) k h
theorem ct_forNH {it D len Pv P tgt body} {Q : Flow → Lo → Nw → Prop} (N : Nexts w c it D len Pv P) (I : Nat → Lo → Nw → Prop) (hP : ∀ i m n, I i m n → P n) (h0 : I 0 m n)
    (step : ∀ i v new m n, i < len → I i m n → Pv i v new → ∀ d, d = D (i + 1) → ∀ B, Hid (fun f m3 n' =>
      ∃ n3, ((it, d) :: n3).Sublist n' ∧ match f with | .next | .cont => I (i + 1) m3 n3 | .brk => Q .next m3 n3 | .ret v => Q (.ret v) m3 n3) B → TT w c m (new ++ (it, d) :: n) (letOwnedTupleGo tgt (.ref it) v) fun _ m1 n1 => TT w c m1 n1 (assign tgt c.env v) fun _ m2 n2 => TT w c m2 n2 (execs body c.env) B)
    (fin : ∀ m n, I len m n → Q .next m n) : CT w c m ((it, D 0) :: n) (.forLoop tgt (.ref it) body [] c.env) Q := ct_forN N I hP h0 (fun i v new m n a b d e f => step i v new m n a b d e f _ .same) fin
theorem ct_forPH {it D len Pv P tgt body} {Q : Flow → Lo → Nw → Prop} (N : Nexts w c it D len Pv P) (I : Nat → Lo → Nw → Prop) (hP : ∀ i m n, I i m n → P n) (h0 : I 0 m n)
    (step : ∀ i v new m n, i < len → I i m n → Pv i v new → ∀ d, d = D (i + 1) → ∀ B, Hid (fun f m3 n' =>
      ∃ n3, Pick ((it, d) :: n3) n' ∧ match f with | .next | .cont => I (i + 1) m3 n3 | .brk => Q .next m3 n3 | .ret v => Q (.ret v) m3 n3) B → TT w c m (new ++ (it, d) :: n) (letOwnedTupleGo tgt (.ref it) v) fun _ m1 n1 => TT w c m1 n1 (assign tgt c.env v) fun _ m2 n2 => TT w c m2 n2 (execs body c.env) B)
    (fin : ∀ m n, I len m n → Q .next m n) : CT w c m ((it, D 0) :: n) (.forLoop tgt (.ref it) body [] c.env) Q := ct_forP N I hP h0 (fun i v new m n a b d e f => step i v new m n a b d e f _ .same) fin
theorem ct_compNH {it D len Pv P target elt iter ifs acc} {Q : Flow → Lo → Nw → Prop} (N : Nexts w c it D len Pv P) (self : ∀ (n : Nw) (Q : Value → Lo → Nw → Prop), Q (.ref it) m ((it, D 0) :: n) → TT w c m ((it, D 0) :: n) (pyIter (.ref it)) Q) (I : Nat → Lo → Nw → Prop) (hP : ∀ i m n, I i m n → P n) (h0 : I 0 m n)
    (step : ∀ i v new m n, i < len → I i m n → Pv i v new → ∀ d, d = D (i + 1) → ∀ B : Unit → Lo → Nw → Prop, Hid (fun _ m6 n' => ∃ n3, Pick ((it, d) :: n3) n' ∧ I (i + 1) m6 n3) B → TT w c m (new ++ (it, d) :: n) (letOwnedTupleGo target (.ref it) v) fun _ m2 n2 => TT w c m2 n2 (assign target c.env v) fun _ m3 n3 => TT w c m3 n3 (compTests ifs c.env) fun ok m4 n4 =>
          if ok then TT w c m4 n4 (eval elt c.env) fun x m5 n5 => TT w c m5 n5 (call (.builtin "list.append") [acc, x]) fun _ m6 n' => B () m6 n'
          else B () m4 n4)
    (fin : ∀ m n, I len m n → Q .next m n) : CT w c m ((it, D 0) :: n) (.compStart (.ListComp elt [⟨target, iter, ifs, 0⟩] sc pos) 0 (.ref it) acc c.env) Q := ct_compN N self I hP h0 (fun i v new m n a b d e f => step i v new m n a b d e f _ .same) fin
end
section
variable {w : World}
theorem callT_defH {r : Nat} {f : Addr} {args : List Value} {n1 : Nw} {Q : Value → Nw → Nw → Prop} {name qual : Str} {params : Arguments} {body : List Stmt} {scope : Scope} {dV kV doc pm cdv ct oc : Value} {an od : Option Addr} {osl : Array (Option Value)}
    (ho : (hd.heap_1 w.params).lookup f = some ⟨oc, od, .func (fnOf name qual params body scope dV kV doc pm an cdv ct), osl⟩) (hcd : codeIn (hd.heap_1 w.params) cdv qual = true)
    (ps ns : List Str) (m₀ : Lo) (hm : m₀ = lo0 ps args ns) (hln : ps.length = args.length)
    (hbind : bindArgs (fnOf name qual params body scope dV kV doc pm an cdv ct) ⟨args, []⟩ = pure (ps.zip args)) (hloc : (ps.all fun x => decide (scope.names.lookup x = some .local)) = true) (hcell : (scope.names.all fun x => x.2 != .cell) = true) (hky : (ps ++ ns).Nodup)
    (hco : scope.isCoroutine = false) (hgen : scope.isGenerator = false) (hk : scope.kind = .function)
    (h : ∀ c', EnvK c' scope → r ≤ c'.r → c'.gen = false → ∀ B, Hid (fun fl _ n2 => ∃ new n1', (new ++ n1').Sublist n2 ∧ Q (retv fl) new n1') B → TT w c' m₀ n1 (execs body c'.env) B) : CallT w (r + 1) f args n1 Q :=
  callT_def ho hcd ps ns m₀ hm hln hbind hloc hcell hky hco hgen hk fun c' a b d => h c' a b d _ .same
theorem callT_defPH {r : Nat} {f : Addr} {args : List Value} {n1 : Nw} {Q : Value → Nw → Nw → Prop} {name qual : Str} {params : Arguments} {body : List Stmt} {scope : Scope} {dV kV doc pm cdv ct oc : Value} {an od : Option Addr} {osl : Array (Option Value)}
    (ho : (hd.heap_1 w.params).lookup f = some ⟨oc, od, .func (fnOf name qual params body scope dV kV doc pm an cdv ct), osl⟩) (hcd : codeIn (hd.heap_1 w.params) cdv qual = true)
    (ps ns : List Str) (m₀ : Lo) (hm : m₀ = lo0 ps args ns) (hln : ps.length = args.length)
    (hbind : bindArgs (fnOf name qual params body scope dV kV doc pm an cdv ct) ⟨args, []⟩ = pure (ps.zip args)) (hloc : (ps.all fun x => decide (scope.names.lookup x = some .local)) = true) (hcell : (scope.names.all fun x => x.2 != .cell) = true) (hky : (ps ++ ns).Nodup)
    (hco : scope.isCoroutine = false) (hgen : scope.isGenerator = false) (hk : scope.kind = .function)
    (h : ∀ c', EnvK c' scope → r ≤ c'.r → c'.gen = false → ∀ B, Hid (fun fl _ n2 => ∃ new n1', Pick (new ++ n1') n2 ∧ Q (retv fl) new n1') B → TT w c' m₀ n1 (execs body c'.env) B) : CallT w (r + 1) f args n1 Q :=
  callT_defP ho hcd ps ns m₀ hm hln hbind hloc hcell hky hco hgen hk fun c' a b d => h c' a b d _ .same
theorem callT_defCH {r : Nat} {f : Addr} {args : List Value} {n1 : Nw} {Q : Value → Nw → Nw → Prop} {name qual : Str} {params : Arguments} {body : List Stmt} {scope : Scope} {dV kV doc pm cdv ct oc : Value} {an od : Option Addr} {osl : Array (Option Value)}
    (ho : (hd.heap_1 w.params).lookup f = some ⟨oc, od, .func (fnOf name qual params body scope dV kV doc pm an cdv ct), osl⟩) (hcd : codeIn (hd.heap_1 w.params) cdv qual = true)
    (binds : List (Str × Value)) (m₀ : Lo) (hm : ∀ y, lk m₀ y = bindL (fun y => scope.names.lookup y) binds (fun _ => none) y) (hky : (m₀.map (·.1)).Nodup)
    (hbind : bindArgs (fnOf name qual params body scope dV kV doc pm an cdv ct) ⟨args, []⟩ = pure binds)
    (hkind : ∀ n, ∀ x ∈ binds, scope.names.lookup x.1 = some .local ∨ (scope.names.lookup x.1 = some .cell ∧ ((cellsFrom n scope.names []).lookup x.1).isSome = true))
    (hnd : ((cellsFrom 0 scope.names []).map (·.1)).Nodup)
    (hco : scope.isCoroutine = false) (hgen : scope.isGenerator = false) (hk : scope.kind = .function)
    (h : ∀ c', EnvK c' scope → c'.env.cells = cellsFrom (c'.L + 1) scope.names [] → c'.env.code = cdv → r ≤ c'.r → c'.gen = false → ∀ B, Hid (fun fl _ n2 => ∃ new n1', (new ++ n1').Sublist n2 ∧ Q (retv fl) new n1') B → TT w c' m₀ (cellNw (bindC (fun y => scope.names.lookup y) binds fun _ => none) (cellsFrom (c'.L + 1) scope.names []) ++ n1) (execs body c'.env) B) : CallT w (r + 1) f args n1 Q :=
  callT_defC ho hcd binds m₀ hm hky hbind hkind hnd hco hgen hk fun c' a b d e f => h c' a b d e f _ .same
theorem callT_defCPH {r : Nat} {f : Addr} {args : List Value} {n1 : Nw} {Q : Value → Nw → Nw → Prop} {name qual : Str} {params : Arguments} {body : List Stmt} {scope : Scope} {dV kV doc pm cdv ct oc : Value} {an od : Option Addr} {osl : Array (Option Value)}
    (ho : (hd.heap_1 w.params).lookup f = some ⟨oc, od, .func (fnOf name qual params body scope dV kV doc pm an cdv ct), osl⟩) (hcd : codeIn (hd.heap_1 w.params) cdv qual = true)
    (binds : List (Str × Value)) (m₀ : Lo) (hm : ∀ y, lk m₀ y = bindL (fun y => scope.names.lookup y) binds (fun _ => none) y) (hky : (m₀.map (·.1)).Nodup)
    (hbind : bindArgs (fnOf name qual params body scope dV kV doc pm an cdv ct) ⟨args, []⟩ = pure binds)
    (hkind : ∀ n, ∀ x ∈ binds, scope.names.lookup x.1 = some .local ∨ (scope.names.lookup x.1 = some .cell ∧ ((cellsFrom n scope.names []).lookup x.1).isSome = true))
    (hnd : ((cellsFrom 0 scope.names []).map (·.1)).Nodup)
    (hco : scope.isCoroutine = false) (hgen : scope.isGenerator = false) (hk : scope.kind = .function)
    (h : ∀ c', EnvK c' scope → c'.env.cells = cellsFrom (c'.L + 1) scope.names [] → c'.env.code = cdv → r ≤ c'.r → c'.gen = false → ∀ B, Hid (fun fl _ n2 => ∃ new n1', Pick (new ++ n1') n2 ∧ Q (retv fl) new n1') B → TT w c' m₀ (cellNw (bindC (fun y => scope.names.lookup y) binds fun _ => none) (cellsFrom (c'.L + 1) scope.names []) ++ n1) (execs body c'.env) B) : CallT w (r + 1) f args n1 Q :=
  callT_defCP ho hcd binds m₀ hm hky hbind hkind hnd hco hgen hk fun c' a b d e f => h c' a b d e f _ .same
end

end Mine
end
section
open PySem PySem.W PySem.Calls PyProof.Rows
namespace Mine
noncomputable abbrev one (d : Nat) : Str := ⟨#[d]⟩
noncomputable abbrev sOf (l : List Nat) : Str := ⟨l.toArray⟩
theorem sOf_app (l k : List Nat) : sOf l ++ sOf k = sOf (l ++ k) := by
  show Str.append _ _ = _
  unfold Str.append sOf; simp
theorem sOf_one (l : List Nat) (d : Nat) : sOf l ++ one d = sOf (l ++ [d]) := sOf_app l [d]
theorem sOf_nil (l : List Nat) : sOf l ++ sOf [] = sOf l := by rw [sOf_app, List.append_nil]
theorem sOf_len (l : List Nat) : (sOf l).length = l.length := by show l.toArray.size = _; simp
theorem rep_len (k : Nat) (l : List Nat) : (List.replicate k l).flatten.length = k * l.length := by simp
section
variable {w : World} {c : Cx} {m : Lo} {n : Nw}
theorem t_addO {l k : List Nat} {t u : Tok} {Q : Value → Lo → Nw → Prop} (hsz : l.length + k.length ≤ 2 ^ 24) (h : ∀ t', Q (.str (sOf (l ++ k)) t') m n) : TT w c m n (binaryOp .Add (.str (sOf l) t) (.str (sOf k) u)) Q :=
  t_addS (by rw [sOf_len, sOf_len]; exact hsz) (by rw [sOf_app]; exact h)
theorem t_iaddO {l k : List Nat} {t u : Tok} {Q : Value → Lo → Nw → Prop} (hsz : l.length + k.length ≤ 2 ^ 24) (h : ∀ t', Q (.str (sOf (l ++ k)) t') m n) : TT w c m n (inplaceOp .Add (.str (sOf l) t) (.str (sOf k) u)) Q :=
  t_iaddS (by rw [sOf_len, sOf_len]; exact hsz) (by rw [sOf_app]; exact h)
theorem t_lenO {l : List Nat} {t : Tok} {Q : Value → Lo → Nw → Prop} (hsz : l.length ≤ 2 ^ 24) (h : ∀ t', Q (.int l.length t') m n) : TT w c m n (call (.builtin "len") [.str (sOf l) t]) Q :=
  t_lenS (by rw [sOf_len]; exact hsz) (by rw [sOf_len]; exact h)
end
theorem room_le {k N r : Nat} (h : N ≤ r) (d : Nat.ble k N = true) : k ≤ r := Nat.le_trans (Nat.le_of_ble_eq_true d) h
theorem line_le {k N : Nat} (h : k ≤ N) (d : Nat.ble N sizeLine = true) : k ≤ sizeLine := Nat.le_trans h (Nat.le_of_ble_eq_true d)
structure Kp (p : Prop) : Prop where
  out : p
theorem ite_T {p A B : Prop} [Decidable p] (h : p) (k : A) : if p then A else B := by rw [if_pos h]; exact k
theorem ite_F {p A B : Prop} [Decidable p] (h : ¬ p) (k : B) : if p then A else B := by rw [if_neg h]; exact k
theorem ite_dT {p A B : Prop} [Decidable p] (h : p) (k : A) : if decide p = true then A else B := ite_T (decide_eq_true h) k
theorem ite_dF {p A B : Prop} [Decidable p] (h : ¬ p) (k : B) : if decide p = true then A else B := ite_F (by rw [decide_eq_false h]; decide) k
theorem nil_app {w : World} {c : Cx} {m : Lo} {n : Nw} {α : Type} {t : Sem α} {Q : α → Lo → Nw → Prop} (h : TT w c m n t Q) : TT w c m ([] ++ n) t Q := h

inductive E2 {α1 : Type} {α2 : Type} (p : α1 → α2 → Prop) : Prop
  | mk (x1 : α1) (x2 : α2) (h : p x1 x2) : E2 p
inductive E3 {α1 : Type} {α2 : Type} {α3 : Type} (p : α1 → α2 → α3 → Prop) : Prop
  | mk (x1 : α1) (x2 : α2) (x3 : α3) (h : p x1 x2 x3) : E3 p
inductive E4 {α1 : Type} {α2 : Type} {α3 : Type} {α4 : Type} (p : α1 → α2 → α3 → α4 → Prop) : Prop
  | mk (x1 : α1) (x2 : α2) (x3 : α3) (x4 : α4) (h : p x1 x2 x3 x4) : E4 p
inductive E5 {α1 : Type} {α2 : Type} {α3 : Type} {α4 : Type} {α5 : Type} (p : α1 → α2 → α3 → α4 → α5 → Prop) : Prop
  | mk (x1 : α1) (x2 : α2) (x3 : α3) (x4 : α4) (x5 : α5) (h : p x1 x2 x3 x4 x5) : E5 p
inductive E6 {α1 : Type} {α2 : Type} {α3 : Type} {α4 : Type} {α5 : Type} {α6 : Type} (p : α1 → α2 → α3 → α4 → α5 → α6 → Prop) : Prop
  | mk (x1 : α1) (x2 : α2) (x3 : α3) (x4 : α4) (x5 : α5) (x6 : α6) (h : p x1 x2 x3 x4 x5 x6) : E6 p
inductive E7 {α1 : Type} {α2 : Type} {α3 : Type} {α4 : Type} {α5 : Type} {α6 : Type} {α7 : Type} (p : α1 → α2 → α3 → α4 → α5 → α6 → α7 → Prop) : Prop
  | mk (x1 : α1) (x2 : α2) (x3 : α3) (x4 : α4) (x5 : α5) (x6 : α6) (x7 : α7) (h : p x1 x2 x3 x4 x5 x6 x7) : E7 p
inductive E8 {α1 : Type} {α2 : Type} {α3 : Type} {α4 : Type} {α5 : Type} {α6 : Type} {α7 : Type} {α8 : Type} (p : α1 → α2 → α3 → α4 → α5 → α6 → α7 → α8 → Prop) : Prop
  | mk (x1 : α1) (x2 : α2) (x3 : α3) (x4 : α4) (x5 : α5) (x6 : α6) (x7 : α7) (x8 : α8) (h : p x1 x2 x3 x4 x5 x6 x7 x8) : E8 p
inductive E10 {α1 : Type} {α2 : Type} {α3 : Type} {α4 : Type} {α5 : Type} {α6 : Type} {α7 : Type} {α8 : Type} {α9 : Type} {α10 : Type} (p : α1 → α2 → α3 → α4 → α5 → α6 → α7 → α8 → α9 → α10 → Prop) : Prop
  | mk (x1 : α1) (x2 : α2) (x3 : α3) (x4 : α4) (x5 : α5) (x6 : α6) (x7 : α7) (x8 : α8) (x9 : α9) (x10 : α10) (h : p x1 x2 x3 x4 x5 x6 x7 x8 x9 x10) : E10 p
inductive E12 {α1 : Type} {α2 : Type} {α3 : Type} {α4 : Type} {α5 : Type} {α6 : Type} {α7 : Type} {α8 : Type} {α9 : Type} {α10 : Type} {α11 : Type} {α12 : Type} (p : α1 → α2 → α3 → α4 → α5 → α6 → α7 → α8 → α9 → α10 → α11 → α12 → Prop) : Prop
  | mk (x1 : α1) (x2 : α2) (x3 : α3) (x4 : α4) (x5 : α5) (x6 : α6) (x7 : α7) (x8 : α8) (x9 : α9) (x10 : α10) (x11 : α11) (x12 : α12) (h : p x1 x2 x3 x4 x5 x6 x7 x8 x9 x10 x11 x12) : E12 p
inductive A2 (p1 p2 : Prop) : Prop
  | mk (h1 : p1) (h2 : p2) : A2 p1 p2
inductive A3 (p1 p2 p3 : Prop) : Prop
  | mk (h1 : p1) (h2 : p2) (h3 : p3) : A3 p1 p2 p3
inductive A4 (p1 p2 p3 p4 : Prop) : Prop
  | mk (h1 : p1) (h2 : p2) (h3 : p3) (h4 : p4) : A4 p1 p2 p3 p4
inductive A5 (p1 p2 p3 p4 p5 : Prop) : Prop
  | mk (h1 : p1) (h2 : p2) (h3 : p3) (h4 : p4) (h5 : p5) : A5 p1 p2 p3 p4 p5
inductive A6 (p1 p2 p3 p4 p5 p6 : Prop) : Prop
  | mk (h1 : p1) (h2 : p2) (h3 : p3) (h4 : p4) (h5 : p5) (h6 : p6) : A6 p1 p2 p3 p4 p5 p6
inductive A7 (p1 p2 p3 p4 p5 p6 p7 : Prop) : Prop
  | mk (h1 : p1) (h2 : p2) (h3 : p3) (h4 : p4) (h5 : p5) (h6 : p6) (h7 : p7) : A7 p1 p2 p3 p4 p5 p6 p7
inductive A8 (p1 p2 p3 p4 p5 p6 p7 p8 : Prop) : Prop
  | mk (h1 : p1) (h2 : p2) (h3 : p3) (h4 : p4) (h5 : p5) (h6 : p6) (h7 : p7) (h8 : p8) : A8 p1 p2 p3 p4 p5 p6 p7 p8
inductive A9 (p1 p2 p3 p4 p5 p6 p7 p8 p9 : Prop) : Prop
  | mk (h1 : p1) (h2 : p2) (h3 : p3) (h4 : p4) (h5 : p5) (h6 : p6) (h7 : p7) (h8 : p8) (h9 : p9) : A9 p1 p2 p3 p4 p5 p6 p7 p8 p9
inductive A12 (p1 p2 p3 p4 p5 p6 p7 p8 p9 p10 p11 p12 : Prop) : Prop
  | mk (h1 : p1) (h2 : p2) (h3 : p3) (h4 : p4) (h5 : p5) (h6 : p6) (h7 : p7) (h8 : p8) (h9 : p9) (h10 : p10) (h11 : p11) (h12 : p12) : A12 p1 p2 p3 p4 p5 p6 p7 p8 p9 p10 p11 p12

end Mine
end
section
open PySem PySem.W PySem.Calls PyProof.Rows
namespace Mine
local macro_rules | `(tactic| walk_at "mt") => `(tactic| ((fail_if_success (with_reducible show TT _ _ _ _ (compTests _ _) _)); walk_at "m"))
local macro_rules | `(tactic| walk_at "mi") => `(tactic| ((fail_if_success (with_reducible show TT _ _ _ _ (exec (Stmt.If _ _ _ _) _) _)); walk_at "m"))
local macro_rules | `(tactic| walk_at "mf") => `(tactic| ((fail_if_success (with_reducible show TT _ _ _ _ (exec (Stmt.For _ _ _ _ _) _) _)); (fail_if_success (with_reducible show TT _ _ _ _ (exec (Stmt.While _ _ _ _) _) _)); walk_at "m"))
local macro_rules | `(tactic| walk_at "m lat") => `(tactic| first | with_reducible exact LAt.head | ((with_reducible refine' LAt.tail ?k); (case k => walk_at "m lat")))
local macro_rules | `(tactic| walk_at "m lup") => `(tactic| first | with_reducible exact LUp.head | ((with_reducible refine' LUp.tail ?k); (case k => walk_at "m lup")))
local macro_rules | `(tactic| walk_at "m up") => `(tactic| first | with_reducible exact Up.head | ((with_reducible refine' Up.tail ?k); (case k => walk_at "m up")))
local macro_rules | `(tactic| walk_at "m mem") => `(tactic| first | exact List.Mem.head _ | (refine' List.Mem.tail _ ?k; (case k => walk_at "m mem")))
local macro_rules | `(tactic| walk_at "m isl") => `(tactic| first | with_reducible assumption | ((with_reducible refine' IsL.new ?k); (case k => walk_at "m mem")) | ((with_reducible refine' IsL.old ?k); (case k => with_reducible assumption)))
local macro_rules | `(tactic| walk_at "m subl") => `(tactic| first | with_reducible exact List.Sublist.refl _ | ((with_reducible refine' List.Sublist.cons_cons _ ?k); (case k => walk_at "m subl")) | ((with_reducible refine' List.Sublist.cons _ ?k); (case k => walk_at "m subl")) | exact List.nil_sublist _)
local macro_rules | `(tactic| walk_at "m rem") => `(tactic| first | with_reducible exact Rem.head | ((with_reducible refine' Rem.tail ?k); (case k => walk_at "m rem")))
local macro_rules | `(tactic| walk_at "m pick") => `(tactic| first | with_reducible exact Pick.all | ((with_reducible refine' Pick.cons ?k1 ?k2); (case k1 => walk_at "m rem"); (case k2 => walk_at "m pick")) | exact Pick.nil | ((with_reducible refine' Pick.skip ?k); (case k => walk_at "m pick")))
local macro_rules | `(tactic| walk_at "m sub") => `(tactic| first | with_reducible exact Sub.nil | ((with_reducible refine' Sub.cons ?k1 ?k2); (case k1 => walk_at "m up"); (case k2 => walk_at "m sub")))
local macro_rules | `(tactic| walk_at "m part") => `(tactic| (refine List.forall_mem_cons.mpr ⟨?k1, ?k2⟩; (case k1 => walk_at "m mem"); (case k2 => first | exact List.forall_mem_nil _ | walk_at "m part")))
local macro_rules | `(tactic| walk_at "m size") => `(tactic| first | assumption | decide | (have hsl : sizeLine = 2 ^ 24 := rfl; walk_at "o") | (have hsl : sizeLine = 2 ^ 24 := rfl; simp only [List.length_append, List.length_cons, List.length_nil, List.length_map, Str.length_append]; walk_at "o"))
local macro_rules | `(tactic| walk_at "m sz") => `(tactic| first | (simp only [List.length_append, List.length_cons, List.length_nil, List.length_map, List.length_replicate, rep_len]; walk_at "o") | walk_at "o")
local macro_rules | `(tactic| walk_at "m slot") => `(tactic| first
  | exact PySem.F.slot_list_append
  | exact PySem.F.type_list_append
  | exact PySem.F.slot_list_pop
  | exact PySem.F.type_list_pop
  | exact PySem.F.slot_str_join
  | exact PySem.F.type_str_join
  | exact PySem.F.slot_str_count
  | exact PySem.F.type_str_count
  | exact PySem.F.type_str_count)
local macro_rules | `(tactic| walk_at "m name") => `(tactic| first
  | (with_reducible refine' t_nameL ?k0 ?k1 ?k2 ?k3 ?_); (case k0 => assumption); (case k1 => rfl); (case k2 => walk_at "m lat"); (case k3 => rfl)
  | (with_reducible refine' t_nameC ?k0 ?k1 ?k2 ?k3 ?k4 ?_); (case k0 => assumption); (case k1 => rfl); (case k2 => exact (congrArg (List.lookup _) (by assumption)).trans rfl); (case k3 => walk_at "m mem"); (case k4 => rfl)
  | (with_reducible refine' t_nameF ?k0 ?k1 ?k2 ?k3 ?k4 ?k5 ?_); (case k0 => assumption); (case k1 => rfl); (case k2 => exact (congrArg (List.lookup _) (by assumption)).trans rfl); (case k3 => walk_at "m mem"); (case k4 => rfl); (case k5 => rfl)
  | (with_reducible refine' t_nameK ?k0 ?k1 ?k2 ?k3 ?_); (case k0 => assumption); (case k1 => rfl); (case k2 => k_is); (case k3 => rfl)
  | (with_reducible refine' t_nameB ?k0 ?k1 ?k2 ?k3 ?k4 ?k5 ?_); (case k0 => assumption); (case k1 => rfl); (case k2 => k_is); (case k3 => boot_fast); (case k4 => decide); (case k5 => rfl))
local macro_rules | `(tactic| walk_at "m bin") => `(tactic| first
  | (with_reducible refine' t_addI ?_); intro _
  | (with_reducible refine' t_subI ?_); intro _
  | (with_reducible refine' t_divI ?k0 ?k1 ?_); (case k0 => assumption); (case k1 => decide); intro _
  | (with_reducible refine' t_modI ?k0 ?_); (case k0 => first | decide | assumption); intro _
  | (with_reducible refine' t_addO ?k0 ?_); (case k0 => walk_at "m sz"); intro _
  | (with_reducible refine' t_addS ?k0 ?_); (case k0 => walk_at "m size"); intro _
  | (with_reducible refine' t_addL ?k0 ?k1 ?k2 ?_); (case k0 => walk_at "m mem"); (case k1 => walk_at "m mem"); (case k2 => walk_at "m size"); intro _)
local macro_rules | `(tactic| walk_at "m ibin") => `(tactic| first
  | (with_reducible refine' t_iaddI ?_); intro _
  | (with_reducible refine' t_isubI ?_); intro _
  | (with_reducible refine' t_iaddO ?k0 ?_); (case k0 => walk_at "m sz"); intro _
  | (with_reducible refine' t_iaddS ?k0 ?_); (case k0 => walk_at "m size"); intro _)
local macro_rules | `(tactic| walk_at "m cmp") => `(tactic| first
  | with_reducible refine' t_eqI ?_
  | with_reducible refine' t_eqS ?_
  | with_reducible refine' t_neI ?_
  | with_reducible refine' t_neS ?_
  | with_reducible refine' t_ltI ?_
  | with_reducible refine' t_leI ?_
  | with_reducible refine' t_gtI ?_
  | with_reducible refine' t_geI ?_
  | with_reducible refine' t_notInS ?_
  | with_reducible refine' t_inS ?_
  | with_reducible refine' t_isN ?_
  | with_reducible refine' t_isB ?_
  | with_reducible refine' t_isNotB ?_)
local macro_rules | `(tactic| walk_at "m eval") => `(tactic| first
  | (with_reducible show TT _ _ _ _ (eval (Expr.Name _ _) _) _); walk_at "m name"
  | (with_reducible refine' t_int ?_); intro _
  | (with_reducible refine' t_str ?_); intro _
  | with_reducible refine' t_BinOp ?_
  | with_reducible refine' t_SubSlice ?_
  | with_reducible refine' t_Sub ?_
  | (with_reducible refine' t_Meth ?k0 ?k1 ?k2 ?_); (case k0 => rfl); (case k1 => rfl); (case k2 => rfl)
  | (with_reducible refine' t_Call ?k0 ?_); (case k0 => rfl)
  | (with_reducible refine' t_Cmp ?_ ?k); (case k => with_unfolding_all rfl)
  | with_reducible refine' t_BAnd ?_
  | with_reducible refine' t_BOne ?_
  | with_reducible refine' t_none ?_
  | with_reducible refine' t_bool ?_
  | with_reducible refine' t_IfExp ?_
  | with_reducible refine' t_neg ?_
  | with_reducible refine' t_Not ?_
  | (with_reducible refine' t_Attr ?_ ?k); (case k => with_unfolding_all rfl)
  | with_reducible refine' t_List ?_
  | with_reducible refine' t_Tuple ?_)
local macro_rules | `(tactic| walk_at "m exec") => `(tactic| first
  | (with_reducible refine' t_Assign ?k0 ?_); (case k0 => rfl)
  | (with_reducible refine' t_AsgAttr ?k0 ?_); (case k0 => rfl)
  | with_reducible refine' t_AugAttr ?_
  | (with_reducible refine' t_AsgSub ?k0 ?_); (case k0 => rfl)
  | (with_reducible refine' t_Asg3 ?k0 ?k1 ?_); (case k0 => rfl); (case k1 => rfl)
  | with_reducible refine' t_If ?_
  | with_reducible refine' t_Aug ?_
  | (with_reducible refine' t_Expr ?k0 ?_); (case k0 => rfl)
  | with_reducible refine' t_Ret ?_
  | (with_reducible refine' t_For ?k0 ?_); (case k0 => (intro _; rfl))
  | with_reducible refine' t_Brk ?_
  | with_reducible refine' t_Cont ?_
  | with_reducible refine' t_While ?_)
local macro_rules | `(tactic| walk_at "m test") => `(tactic| first
  | (with_reducible refine' t_isCmp ?_ ?k); (case k => with_unfolding_all rfl)
  | with_reducible refine' t_isNot ?_
  | with_reducible refine' t_isBool ?_
  | (with_reducible refine' t_isVal ?_ ?k); (case k => rfl))
local macro_rules | `(tactic| walk_at "m getattr") => `(tactic| first
  | (with_reducible refine' t_getOwn ?k0 ?k1 ?k2 ?k3 ?k4 ?k5 ?k6 ?k7 ?_); (case k0 => walk_at "m mem"); (case k1 => walk_at "m mem"); (case k2 => with_unfolding_all rfl); (case k3 => k_is); (case k4 => k_is); (case k5 => k_is); (case k6 => k_is); (case k7 => rfl)
  | (with_reducible refine' t_clsVal ?k0 ?k1 ?k2 ?_); (case k0 => k_is); (case k1 => k_is); (case k2 => rfl)
  | (with_reducible refine' t_getBound ?k0 ?k1 ?k2 ?k3 ?k4 ?k5 ?k6 ?k7 ?k8 ?k9 ?_); (case k0 => walk_at "m mem"); (case k1 => walk_at "m mem"); (case k2 => with_unfolding_all rfl); (case k3 => k_is); (case k4 => k_is); (case k5 => k_is); (case k6 => k_is); (case k7 => k_is); (case k8 => k_is); (case k9 => decide +kernel); intro _)
local macro_rules | `(tactic| walk_at "m setattr") => `(tactic| first
  | (with_reducible refine' t_setOwn ?k0 ?k1 ?k2 ?k3 ?k4 ?k5 ?k6 ?_); (case k0 => walk_at "m mem"); (case k1 => walk_at "m up"); (case k2 => k_is); (case k3 => k_is); (case k4 => k_is); (case k5 => k_is); (case k6 => exact Nat.le_of_ble_eq_true rfl))
local macro_rules | `(tactic| walk_at "m gm") => `(tactic| first
  | (with_reducible refine' t_gmList ?k0 ?k1 ?k2 ?_); (case k0 => walk_at "m mem"); (case k1 => walk_at "m slot"); (case k2 => walk_at "m slot")
  | (with_reducible refine' t_gmStr ?k0 ?k1 ?_); (case k0 => walk_at "m slot"); (case k1 => walk_at "m slot")
  | (with_reducible refine' t_gmMeth ?k0 ?k1 ?k2 ?k3 ?k4 ?k5 ?k6 ?_); (case k0 => walk_at "m mem"); (case k1 => walk_at "m mem"); (case k2 => with_unfolding_all rfl); (case k3 => k_is); (case k4 => k_is); (case k5 => k_is); (case k6 => k_is)
  | (with_reducible refine' t_gmOwn ?k0 ?k1 ?k2 ?k3 ?k4 ?k5 ?k6 ?_); (case k0 => walk_at "m mem"); (case k1 => walk_at "m mem"); (case k2 => with_unfolding_all rfl); (case k3 => k_is); (case k4 => k_is); (case k5 => k_is); (case k6 => rfl))
local macro_rules | `(tactic| walk_at "m call1") => `(tactic| first
  | (with_reducible refine' t_lenL ?k0 ?k1 ?_); (case k0 => walk_at "m isl"); (case k1 => walk_at "m size"); intro _
  | (with_reducible refine' t_range ?_); intro _ _ _ _
  | (with_reducible refine' t_listS ?k0 ?_); (case k0 => walk_at "m size"); intro _ _ _
  | (with_reducible refine' t_tupL ?k0 ?k1 ?_); (case k0 => walk_at "m isl"); (case k1 => walk_at "m size"); intro _
  | (with_reducible refine' t_lenO ?k0 ?_); (case k0 => walk_at "m sz"); intro _
  | (with_reducible refine' t_lenS ?k0 ?_); (case k0 => walk_at "m size"); intro _)
local macro_rules | `(tactic| walk_at "m call2") => `(tactic| first
  | (with_reducible refine' t_max ?_); intro _
  | (with_reducible refine' t_min ?_); intro _
  | (with_reducible refine' t_count ?_); intro _
  | (with_reducible refine' t_iter2 ?k0 ?_); (case k0 => walk_at "m mem"); intro _
  | (with_reducible refine' t_append ?k0 ?k1 ?_); (case k0 => walk_at "m up"); (case k1 => walk_at "m size"))
local macro_rules | `(tactic| walk_at "mh") => `(tactic| first
  | ((with_reducible show ∀ _, Hid _ _ → _); intro _ _))
local macro_rules | `(tactic| walk_at "mu") => `(tactic| first
  | (with_reducible refine' Hid.out ?k _ _ _ ?_); (case k => with_reducible assumption))
local macro_rules | `(tactic| walk_at "o") => `(tactic| first
  | with_reducible assumption
  | with_reducible exact Int.natCast_nonneg _
  | with_reducible exact Nat.zero_le _
  | (with_reducible refine' room_le ?k ?_); (case k => with_reducible assumption); exact rfl
  | lia
  | omega)
local macro_rules | `(tactic| walk_at "n") => `(tactic| first
  | with_reducible refine' nil_app ?_
  | rw [List.nil_append])
local macro_rules | `(tactic| walk_at "h") => `(tactic| first
  | (repeat first | walk_at "mh" | walk_at "mu"))
local macro_rules | `(tactic| walk_at "u") => `(tactic| first
  | (repeat walk_at "mu"))
local macro_rules | `(tactic| walk_at "m") => `(tactic| first
  | walk_at "mh"
  | (with_reducible show TT _ _ _ _ (eval _ _) _); walk_at "m eval"
  | (with_reducible show TT _ _ _ _ (execs _ _) _); walk_at "m execs"
  | (with_reducible show TT _ _ _ _ (exec _ _) _); walk_at "m exec"
  | (with_reducible show TT _ _ _ _ (storeName _ _ _) _); walk_at "m store"
  | (with_reducible show TT _ _ _ _ (spliced _) _); walk_at "m args"
  | (with_reducible show TT _ _ _ _ (binaryOp _ _ _) _); walk_at "m bin"
  | (with_reducible show TT _ _ _ _ (compareOp _ _ _) _); walk_at "m cmp"
  | (with_reducible show TT _ _ _ _ (isTrue _ _ _) _); walk_at "m test"
  | (with_reducible show TT _ _ _ _ (truthy _) _); walk_at "m truthy"
  | (with_reducible show TT _ _ _ _ (callWith _ _ _ _ _) _); walk_at "m cw"
  | (with_reducible show TT _ _ _ _ (call _ _) _); walk_at "m call"
  | (with_reducible show ∀ _, TT _ _ _ _ (getMethod _ _ _) _); walk_at "m gm"
  | (with_reducible show TT _ _ _ _ (getAttr _ _ _) _); walk_at "m getattr"
  | (with_reducible show TT _ _ _ _ (setAttr _ _ _) _); walk_at "m setattr"
  | (with_reducible refine' And.intro ?k ?_); (case k => (intro _ h; cases h))
  | (with_reducible show TT _ _ _ _ (inplaceOp _ _ _) _); walk_at "m ibin"
  | (with_reducible refine' t_loadL ?k0 ?k1 ?k2 ?_); (case k0 => assumption); (case k1 => rfl); (case k2 => walk_at "m lat")
  | with_reducible refine' t_partN ?_
  | with_reducible refine' t_partS ?_
  | (with_reducible refine' t_cutSss ?k0 ?k1 ?k2 ?_); (case k0 => (intro _; with_unfolding_all rfl)); (case k1 => (intro _; with_unfolding_all rfl)); (case k2 => walk_at "m size"); intro _
  | (with_reducible refine' t_cutSsn ?k0 ?k1 ?k2 ?_); (case k0 => (intro _; with_unfolding_all rfl)); (case k1 => (intro _; with_unfolding_all rfl)); (case k2 => walk_at "m size"); intro _
  | (with_reducible refine' t_cutSns ?k0 ?k1 ?k2 ?_); (case k0 => (intro _; with_unfolding_all rfl)); (case k1 => (intro _; with_unfolding_all rfl)); (case k2 => walk_at "m size"); intro _
  | (with_reducible refine' t_negI ?_); intro _
  | with_reducible refine' t_allAnd ?_
  | with_reducible refine' t_allOr ?_
  | with_reducible refine' t_allNil ?_
  | (with_reducible show TT _ _ _ _ (setItem _ _ _) _); walk_at "m seti"
  | with_reducible refine' t_asgName ?_
  | with_reducible refine' t_goName ?_
  | with_reducible refine' t_tests0 ?_
  | with_reducible refine' t_tests1 ?_
  | with_reducible refine' t_ifT ?_
  | with_reducible refine' t_ifF ?_
  | (with_reducible refine' t_newList ?k0 ?_); (case k0 => walk_at "m size"); intro _
  | (with_reducible refine' t_newTup ?k0 ?_); (case k0 => walk_at "m size"); intro _
  | walk_at "mu")
local macro_rules | `(tactic| walk_at "m seti") => `(tactic| first
  | ((with_reducible refine' t_setL ?k0 ?k1 ?k2 ?k3 ?_); (case k3 => walk_at "m up"); (case k0 => walk_at "o"); (case k1 => walk_at "o"); (case k2 => first | walk_at "o" | (simp; walk_at "o"))))
local macro_rules | `(tactic| walk_at "m swap") => `(tactic| first
  | (refine' ⟨_, _, rfl, ?ka, ?kb, ?_⟩; (case ka => walk_at "m mem"); (case kb => rfl))
  | (refine t_inCons (t_bindName ?_))
  | (refine t_inNil ?_))
local macro_rules | `(tactic| walk_at "m execs") => `(tactic| first
  | with_reducible refine' t_cons ?_
  | with_reducible refine' t_nil ?_)
local macro_rules | `(tactic| walk_at "m store") => `(tactic| first
  | (with_reducible refine' t_storeL ?k0 ?k1 ?k2 ?_); (case k0 => assumption); (case k1 => rfl); (case k2 => walk_at "m lup")
  | (with_reducible refine' t_storeC ?k0 ?k1 ?k2 ?k3 ?_); (case k0 => assumption); (case k1 => rfl); (case k2 => exact (congrArg (List.lookup _) (by assumption)).trans rfl); (case k3 => walk_at "m up"))
local macro_rules | `(tactic| walk_at "m args") => `(tactic| first
  | (with_reducible refine' t_argCons ?k0 ?_); (case k0 => rfl)
  | with_reducible refine' t_argNil ?_)
local macro_rules | `(tactic| walk_at "m truthy") => `(tactic| first
  | with_reducible refine' t_truthyB ?_
  | with_reducible refine' t_truthyI ?_
  | (with_reducible refine' t_truthyL ?k0 ?k1 ?_); (case k0 => walk_at "m mem"); (case k1 => walk_at "m size"))
local macro_rules | `(tactic| walk_at "m cw") => `(tactic| first
  | (with_reducible refine' t_cwB ?k0 ?k1 ?_); (case k0 => rfl); (case k1 => rfl)
  | (with_reducible refine' t_cwT ?k0 ?k1 ?_); (case k0 => rfl); (case k1 => rfl)
  | (with_reducible refine' t_cwK ?k0 ?k1 ?k2 ?_); (case k0 => k_is); (case k1 => rfl); (case k2 => rfl)
  | (with_reducible refine' t_cwK0 ?k0 ?_); (case k0 => k_is))
local macro_rules | `(tactic| walk_at "m call") => `(tactic| first
  | ((show TT _ _ _ _ (call _ [_]) _); walk_at "m call1")
  | ((show TT _ _ _ _ (call _ [_, _]) _); walk_at "m call2"))
theorem filled : hd.heap_1 = hd.heap_1 ∧ PySem.Challenge.rw_rl0092_01 = PySem.Challenge.rw_rl0092_01 := by
  k_fill
  exact ⟨rfl, rfl⟩
section
open PySem PySem.W PySem.Calls PyProof.Rows PySem.W.X
section
variable {w : World} {A : Around} {P : End → Shared → Prop} {cd : Code} {fs : List Frame} {s : Shared} {env : Env} {K : Flow → Sem Fin} {H : Value → Sem Fin} {gd : Bool → Bool} {lv : List Value → List Value} {α : Type}

/-! a generator's run, up to its next yield (SegX) -/
theorem sx_wrap {t : Sem α} {K : α → Sem Fin} (h : ∀ E, wpAny (model PG w) (A.over cd fs) t (fun a s' => SegX (model PG w) A cd (K a) fs s' P) E s) : SegX (model PG w) A cd (t.wrap K H gd lv) fs s P := by
  rintro Γ p rfl hΓ
  obtain ⟨e, s', hr, hq⟩ := runs_wrap_of_wp (Φ := fun e s' => e.quiet = true ∧ P e s') K H gd lv t (h (fun _ _ => False) (Γ.over fs) p (hΓ.over fs)) (fun a p' s' h' => h' Γ p' rfl hΓ) (fun _ _ _ h' => h'.elim)
  exact ⟨e, s', hr, hq⟩
theorem sx_at {p' : Pos} {k : Unit → Sem Fin} (h : SegX (model PG w) A cd (k ()) fs s P) : SegX (model PG w) A cd (.at p' k) fs s P :=
  sx_wrap (t := standAt p') (K := k) (H := .raise) (gd := id) (lv := id) fun _ => wpAny_standAt h
theorem sx_point {l : List Value} {k : Unit → Sem Fin} (h : SegX (model PG w) A cd (k ()) fs s P) : SegX (model PG w) A cd (.point l k) fs s P :=
  sx_wrap (t := point) (K := k) (H := .raise) (gd := id) (lv := fun _ => l) fun _ => wpAny_point h
theorem sx_cons {st : Stmt} {rest : List Stmt} (h : SegX (model PG w) A cd ((exec st env).wrap (fun f => match f with | .next => (execs rest env).wrap K H gd lv | f => K f) H gd lv) fs s P) :
    SegX (model PG w) A cd ((execs (st :: rest) env).wrap K H gd lv) fs s P := by rw [execs_cons_wrap]; exact h
theorem sx_If {t b o pos} (h : ∀ E, wpAny (model PG w) (A.over cd fs) (isTrue t env (eval t env)) (fun r s' => if r then SegX (model PG w) A cd ((execs b env).wrap K H gd lv) fs s' P else SegX (model PG w) A cd ((execs o env).wrap K H gd lv) fs s' P) E s) :
    SegX (model PG w) A cd ((exec (.If t b o pos) env).wrap K H gd lv) fs s P := by
  rw [exec_If]
  show SegX _ A cd (.at pos fun _ => ((isTrue t env (eval t env)) >>= fun r => if r = true then execs b env else execs o env).wrap K H gd lv) fs s P
  refine sx_at ?_
  rw [Sem.bind_eq_wrap', Sem.wrap_wrap]
  refine sx_wrap fun E => wpAny_mono (h E) (fun r s' h' => ?_) fun _ _ x => x
  cases r with
  | true => exact h'
  | false => exact h'
/-- a statement that does not yield -/
theorem sx_st {st : Stmt} (h : ∀ E, wpAny (model PG w) (A.over cd fs) (exec st env) (fun f s' => SegX (model PG w) A cd (K f) fs s' P) E s) : SegX (model PG w) A cd ((exec st env).wrap K H gd lv) fs s P := sx_wrap h
theorem sx_Yield {e : Expr} {ypos pos : Pos} (hfs : splitAtGen fs = none) (hgd : gd false = false) (hfg : fs.any Frame.guarded = false) (hco : env.scope.isCoroutine = false) (hi : interactive env = false)
    (h : ∀ E, wpAny (model PG w) (A.over cd fs) (eval e env) (fun v s' => ∀ p l k, (∀ s'', SegX (model PG w) A cd (K .next) fs s'' = SegX (model PG w) A cd (k (.send .none)) fs s'') → P (.susp v false l k cd p fs) s') E s) :
    SegX (model PG w) A cd ((exec (.Expr (.Yield (some e) ypos) pos) env).wrap K H gd lv) fs s P := by
  rw [exec_Expr env _ pos hi rfl]
  show SegX _ A cd (.at pos fun _ => ((eval e env >>= fun v => (standAt ypos >>= fun _ => yieldOut env v)) >>= fun x => dropValue (.Yield (some e) ypos) pos x).wrap K H gd lv) fs s P
  have hy : ∀ v, yieldOut env v = yieldValue v := fun v => by simp only [yieldOut, hco, Bool.false_eq_true, if_false]
  simp only [hy]
  refine sx_at ?_
  rw [Sem.bind_eq_wrap', Sem.bind_eq_wrap', Sem.wrap_wrap, Sem.wrap_wrap]
  refine sx_wrap fun E => wpAny_mono (h E) (fun v s' h' => ?_) fun _ _ x => x
  refine sx_at ?_
  have hg : gd (id false) = false := hgd
  show SegX _ A cd (.yield v (gd (id false)) _ _) fs s' P
  rw [hg]
  exact s_yield _ _ _ _ _ _ _ _ _ _ hfs hfg fun p => h' p _ _ fun s'' => rfl
theorem sx_For {tgt iter body orelse pos} (hs : ∀ x, foldedSetIterable iter env x = pure x)
    (h : ∀ E, wpAny (model PG w) (A.over cd fs) (eval iter env) (fun v s1 => ∀ E', wpAny (model PG w) (A.over cd fs) (pyIter v) (fun it s2 => ∀ p kk, (∀ s3 P, SegX (model PG w) A cd (K .next) fs s3 P → SegX (model PG w) A cd (kk (.ok .next)) fs s3 P) →
      SegX (model PG w) A (.forLoop tgt it body orelse env) ((model PG w).den (.forLoop tgt it body orelse env)) (.ret kk none (gd false) (lv []) cd p [] :: fs) s2 P) E' s1) E s) :
    SegX (model PG w) A cd ((exec (.For tgt iter body orelse pos) env).wrap K H gd lv) fs s P := by
  rw [exec_For]
  show SegX _ A cd (.at pos fun _ => (eval iter env >>= fun v => (foldedSetIterable iter env v >>= fun x => (standAt iter.pos >>= fun _ => (holding [x] (pyIter x) >>= fun it => runOwn (.forLoop tgt it body orelse env) env)))).wrap K H gd lv) fs s P
  refine sx_at ?_
  simp only [hs]
  rw [Sem.bind_eq_wrap', Sem.wrap_wrap]
  refine sx_wrap fun E => wpAny_mono (h E) (fun v s1 h1 => ?_) fun _ _ x => x
  show SegX _ A cd (.at iter.pos fun _ => ((holding [v] (pyIter v) >>= fun it => runOwn (.forLoop tgt it body orelse env) env)).wrap K H gd lv) fs s1 P
  refine sx_at ?_
  rw [Sem.bind_eq_wrap', Sem.wrap_wrap]
  refine sx_wrap fun E => wpAny_holding (wpAny_mono (h1 E) (fun it s2 h2 => ?_) fun _ _ x => x)
  exact s_call _ _ _ _ _ _ _ _ _ _ _ _ fun p => h2 p _ fun s3 P h3 => h3
theorem sx_forLoop {tgt it body env}
    (h : ∀ E, wpAny (model PG w) (A.over (.forLoop tgt it body [] env) fs) (pyNext it) (fun r s1 => match r with
      | none => SegX (model PG w) A (.block [] env) ((model PG w).den (.block [] env)) fs s1 P
      | some v => ∀ E, wpAny (model PG w) (A.over (.forLoop tgt it body [] env) fs) (letOwnedTupleGo tgt it v) (fun _ s2 => ∀ E, wpAny (model PG w) (A.over (.forLoop tgt it body [] env) fs) (assign tgt env v) (fun _ s3 =>
          ∀ H, SegX (model PG w) A (.forLoop tgt it body [] env) ((execs body env).wrap (fun f => match f with
            | .next | .cont => .pure (.again (.forLoop tgt it body [] env))
            | .brk => .pure (.done .next)
            | .ret v => .pure (.done (.ret v))) H id id) fs s3 P) E s2) E s1) E s) :
    SegX (model PG w) A (.forLoop tgt it body [] env) ((model PG w).den (.forLoop tgt it body [] env)) fs s P := by
  show SegX _ A _ ((forTurn tgt it body [] env).onRaise (fun x => do noteFrame x env; theTreesLotGoes x)) fs s P
  unfold forTurn
  rw [Sem.onRaise_eq_wrap]
  show SegX _ A _ (.at tgt.pos fun _ => (((pyNext it).onRaise (fun _ => standAt { tgt.pos with line := 0 })) >>= fun r => _).wrap _ _ _ _) fs s P
  refine sx_at ?_
  rw [Sem.bind_eq_wrap', Sem.wrap_wrap, Sem.onRaise_eq_wrap, Sem.wrap_wrap]
  refine sx_wrap fun E => wpAny_mono (h E) (fun r s1 h1 => ?_) fun _ _ x => x
  cases r with
  | none => exact s_again _ _ _ _ _ _ _ _ rfl h1
  | some v =>
    show SegX _ A _ ((letOwnedTupleGo tgt it v >>= fun _ => _).wrap _ _ _ _) fs s1 P
    rw [Sem.bind_eq_wrap', Sem.wrap_wrap]
    refine sx_wrap fun E => wpAny_mono (h1 E) (fun _ s2 h2 => ?_) fun _ _ x => x
    show SegX _ A _ ((assign tgt env v >>= fun _ => _).wrap _ _ _ _) fs s2 P
    rw [Sem.bind_eq_wrap', Sem.wrap_wrap]
    refine sx_wrap fun E => wpAny_mono (h2 E) (fun _ s3 h3 => ?_) fun _ _ x => x
    show SegX _ A _ ((execs body env >>= fun _ => _).wrap _ _ _ _) fs s3 P
    rw [Sem.bind_eq_wrap', Sem.wrap_wrap]
    rw [Sem.wrap_congr (execs body env) _ _ (K' := fun f => match f with
            | .next | .cont => .pure (.again (.forLoop tgt it body [] env))
            | .brk => .pure (.done .next)
            | .ret v => .pure (.done (.ret v)))
        (fun f => by cases f <;> rfl) (fun _ => rfl)]
    exact h3 _
theorem sx_blockNil {kk hd g l c₁ p₁ kp} (h : SegX (model PG w) A c₁ (kk (.ok .next)) fs s P) : SegX (model PG w) A (.block [] env) ((model PG w).den (.block [] env)) (.ret kk hd g l c₁ p₁ kp :: fs) s P :=
  s_pop _ _ _ _ _ _ _ (.ok .next) _ rfl _ _ _ _ _ _ _ h
theorem sx_func {body : List Stmt} (h : ∀ H, SegX (model PG w) A (.func body env) ((execs body env).wrap (fun f => .pure (.done (.ret (match f with | .ret v => v | _ => .none)))) H id id) fs s P) :
    SegX (model PG w) A (.func body env) ((model PG w).den (.func body env)) fs s P := by
  show SegX _ A _ (.point [] fun _ => ((execs body env).onRaise (leaving env)) >>= _) fs s P
  refine sx_point ?_
  rw [Sem.onRaise_eq_wrap, Sem.bind_eq_wrap', Sem.wrap_wrap]
  rw [Sem.wrap_congr (execs body env) _ _ (K' := fun f => .pure (.done (.ret (match f with | .ret v => v | _ => .none)))) (fun f => by cases f <;> rfl) (fun _ => rfl)]
  exact h _
end

end
section
open PySem PySem.W PySem.Calls PyProof.Rows PySem.W.X
/-- a generator, woken -/
noncomputable def Wk (w : World) (A : Around) (gs : GenState) (s : Shared) (P : End → Shared → Prop) : Prop := match gs with
  | .fresh c => SegX (model PG w) A c (denote table c) [] s P
  | .suspended k _ c _ fs _ => SegX (model PG w) A c (k (.send .none)) fs s P
  | _ => False
noncomputable def Gd (w : World) (h : Heap) : Prop := (hd.heap_1 w.params).In h ∧ (∃ p lo mg mb, TopRead p lo mg mb h) ∧ Seer0 h
theorem Gd.keeps {w : World} {h h' : Heap} (g : Gd w h) (k : ∀ b o, h.get? b = some o → h'.get? b = some o) : Gd w h' :=
  ⟨g.1.keeps k, let ⟨p, lo, mg, mb, T⟩ := g.2.1; ⟨p, lo, mg, mb, T.keeps k⟩, g.2.2.keeps k⟩
structure Gro (pr : List Addr) (s s' : Shared) : Prop where
  keep : ∀ b o, b ∉ pr → s.heap.get? b = some o → s'.heap.get? b = some o
  gens : ∀ (i : Nat) (x : GenState), s.gens[i]? = some x → s'.gens[i]? = some x
  bare : AllBare s'.gens
  os : s'.os = s.os

/-- a generator that is to give these -/
noncomputable def GOk (w : World) (A : Around) : List (Nat × Str) → List Addr → GenState → Shared → Prop
  | [], pr, gs, s => ∀ s', (∀ a ∈ pr, s'.heap.get? a = s.heap.get? a) → Gd w (hideAll s'.heap pr) → AllBare s'.gens → Wk w A gs s' fun e s2 => e = .ret (.ok (.ret .none)) ∧ Gro pr s' s2
  | it :: rest, pr, gs, s => ∀ s', (∀ a ∈ pr, s'.heap.get? a = s.heap.get? a) → Gd w (hideAll s'.heap pr) → AllBare s'.gens → Wk w A gs s' fun e s2 =>
      ∃ T tk tk' kk pr', (∃ l k cd p fs, e = .susp (.ref T) false l k cd p fs) ∧ (T ∈ pr ∨ s'.heap.get? T = none) ∧ s2.heap.get? T = some { cls := .type "tuple", data := .seq #[.int it.1 tk, .str it.2 tk'] kk } ∧ Gro pr s' s2 ∧
        (∀ a ∈ pr', (∃ o, s2.heap.get? a = some o) ∧ (a ∈ pr ∨ s'.heap.get? a = none)) ∧ T ∉ pr' ∧ GOk w A rest pr' e.genState s2
/-- one wakening's end -/
noncomputable def GPo (w : World) (A : Around) (items : List (Nat × Str)) (pr : List Addr) (s' : Shared) (e : End) (s2 : Shared) : Prop := match items with
  | [] => e = .ret (.ok (.ret .none)) ∧ Gro pr s' s2
  | it :: rest => ∃ T tk tk' kk pr', (∃ l k cd p fs, e = .susp (.ref T) false l k cd p fs) ∧ (T ∈ pr ∨ s'.heap.get? T = none) ∧ s2.heap.get? T = some { cls := .type "tuple", data := .seq #[.int it.1 tk, .str it.2 tk'] kk } ∧ Gro pr s' s2 ∧
        (∀ a ∈ pr', (∃ o, s2.heap.get? a = some o) ∧ (a ∈ pr ∨ s'.heap.get? a = none)) ∧ T ∉ pr' ∧ GOk w A rest pr' e.genState s2
theorem gok_of {w : World} {A : Around} {items : List (Nat × Str)} {pr : List Addr} {gs : GenState} {s : Shared} (h : ∀ s', (∀ a ∈ pr, s'.heap.get? a = s.heap.get? a) → Gd w (hideAll s'.heap pr) → AllBare s'.gens → Wk w A gs s' (GPo w A items pr s')) : GOk w A items pr gs s := by
  cases items <;> exact h

section
variable {w : World} {A : Around} {s : Shared} {E : Value → Shared → Prop}
theorem sx_quiet {cd : Code} {t : Sem Fin} {fs : List Frame} {P : End → Shared → Prop} (h : SegX (model PG w) A cd t fs s P) : SegX (model PG w) A cd t fs s (fun e s' => e.quiet = true ∧ P e s') := fun Γ p hc hΓ => by
  obtain ⟨e, s', hr, hq, hp⟩ := h Γ p hc hΓ
  exact ⟨e, s', hr, hq, hq, hp⟩
noncomputable def GPost (g : Nat) (Q : Option Value → Shared → Prop) (e : End) (s₁ : Shared) : Prop := match e with
  | .ret r => r = .ok (.ret .none) ∧ ∀ h', (∀ b o, s₁.heap.get? b = some o → h'.get? b = some o) → Q none { s₁.setGen g .finished with heap := h' }
  | .susp v gd l k cd p fs => (End.susp v gd l k cd p fs).quiet = true → Q (some v) (s₁.setGen g (End.susp v gd l k cd p fs).genState)
theorem next_gen {a : Addr} {g : Nat} {gs : GenState} {Q : Option Value → Shared → Prop} (hh : A.handled = none) (hl : s.heap.NoLimit) (hroom : A.depth < recursionLimit) (hg : s.heap.IsGen a g) (hgs : s.gens[g]? = some gs)
    (hw : Wk w A.in1 gs (s.setGen g .running) (GPost g Q)) :
    wpAny (model PG w) A (pyNext (.ref a)) Q E s := by
  unfold pyNext
  refine wpAny_bind (wpAny_attempt (wpAny_callSpecial?_slot (name := Str.ofString "__next__") hg.typeIs slot_gen_next
    (wpAny_call_entry slot_gen_next hg.typeIs entry_gen_next ?_ (args_gen_next _))))
  show wpAny _ _ (Builtin.Generator.genWake (.ref a) (.send .none)) _ _ s
  unfold Builtin.Generator.genWake
  refine wpAny_bind (wpAny_holding (wpAny_genNumber hg (wpAny_bind (wpAny_genState hgs ?_))))
  have go : ∀ {k : GenResult → Sem Fin} {Q' : Fin → Shared → Prop} {E' : Value → Shared → Prop}, (∀ (e : End) (s₁ : Shared), GPost g Q e s₁ → e.quiet = true → wpAny (model PG w) A.in1 (k e.result) Q' E' (s₁.setGen g e.genState)) →
      wpAny (model PG w) A.in1 (.resume g (.send .none) [] k) Q' E' s := by
    intro k Q' E' hk
    cases gs with
    | fresh c => exact fun Γ p hΓ => wake_any _ _ _ hgs (.inl ⟨rfl, rfl, rfl, rfl⟩) (fun Γ => Γ.In A.in1) (fun _ h => h) ((sx_quiet hw).mono fun e s₁ h Γ p hC => hk e s₁ h.2 h.1 Γ p hC) Γ p hΓ
    | suspended k₀ l₀ c₀ p₀ fs₀ cl => exact fun Γ p hΓ => wake_any _ _ _ hgs (.inr ⟨k₀, l₀, p₀, cl, rfl, rfl⟩) (fun Γ => Γ.In A.in1) (fun _ h => h) ((sx_quiet hw).mono fun e s₁ h Γ p hC => hk e s₁ h.2 h.1 Γ p hC) Γ p hΓ
    | running => exact hw.elim
    | finished => exact hw.elim
  cases gs with
  | running => exact hw.elim
  | finished => exact hw.elim
  | _ =>
    refine wpAny_bind (wpAny_roomToWake hl hroom ?_)
    refine go fun e s₁ he hq => ?_
    cases e with
    | ret r =>
      obtain ⟨rfl, hP⟩ := he
      show wpAny _ _ (newExc (.type "StopIteration") [] >>= _) _ _ _
      refine wpAny_bind ?_
      simp only [newExc, newTuple]
      refine wpAny_bind (wpAny_newObj_type ?_ (by size_fits))
      refine wpAny_bind (m := firstArgMember _ _) (wpAny_of_eq (a := Value.none) (by first | rfl | (simp only [firstArgMember]; rfl)) ?_)
      refine wpAny_newObj_type ?_ (by size_fits)
      simp only [raiseNew]
      refine wpAny_bind (wpAny_bind (wpAny_handled ?_))
      rw [show A.in1.handled = none from hh]
      refine wpAny_throw ?_
      refine wpAny_bind (wpAny_isInstance (T := "StopIteration") (b := true) ⟨_, Heap.get?_push_size _ rfl, rfl⟩ isSubtype_stop ?_)
      exact wpAny_pure (hP _ fun b o hb => Heap.get?_push_of_some _ (Heap.get?_push_of_some _ hb))
    | susp v gd l k cd p fs => exact wpAny_pure ⟨v, rfl, wpAny_pure (he hq)⟩
end

end
section
open PySem PySem.W PySem.Calls PyProof.Rows PySem.W.X
section
variable {w : World} {c : Cx} {m : Lo} {n : Nw} {s : Shared}

theorem Hs.gd (H : Hs w c m n s) : Gd w s.heap := ⟨H.X, let ⟨p, lo, mg, mb, T⟩ := H.ok.T; ⟨p, lo, mg, mb, T.keeps H.fr.keep⟩, H.ok.S.keeps H.fr.keep⟩
theorem Hs.gdh (H : Hs w c m n s) {pr : List Addr} (hp : ∀ a ∈ pr, c.h₀.get? a = none) : Gd w (hideAll s.heap pr) := by
  have k : ∀ b o, c.h₀.get? b = some o → (hideAll s.heap pr).get? b = some o := fun b o e => hideAll_get _ (H.fr.keep b o e) fun q => by rw [hp b q] at e; cases e
  obtain ⟨p, lo, mg, mb, T⟩ := H.ok.T
  exact ⟨H.ok.X.keeps k, ⟨p, lo, mg, mb, T.keeps k⟩, H.ok.S.keeps k⟩
theorem Hs.nolimit (H : Hs w c m n s) : s.heap.NoLimit := let ⟨p, lo, mg, mb, T⟩ := H.ok.T; T.nolimit.keeps H.fr.keep
theorem Hs.dep (H : Hs w c m n s) : c.A.depth < recursionLimit := by have := H.ok.dep; show c.A.depth < 1000; omega

/-- the context, with all that is no part of the ledger frozen -/
noncomputable def Cx.fix (c : Cx) (n : Nw) (s : Shared) : Cx := { c with h₀ := hideAll s.heap (c.L :: n.map (·.1)), gs := s.gens }
theorem fix_keep (H : Hs w c m n s) : ∀ b o, c.h₀.get? b = some o → (c.fix n s).h₀.get? b = some o := fun b o e => by
  refine hideAll_get _ (H.fr.keep b o e) fun q => ?_
  rcases List.mem_cons.mp q with q | q
  · rw [q, H.fr.above] at e; cases e
  · obtain ⟨⟨a, d⟩, hm, rfl⟩ := List.mem_map.mp q
    obtain ⟨_, _, _, _, z⟩ := H.get hm
    rw [z] at e; cases e
theorem Hs.fix (H : Hs w c m n s) : Hs w (c.fix n s) m n s := by
  have st := fix_keep H
  obtain ⟨p, lo, mg, mb, T⟩ := H.ok.T
  refine ⟨⟨H.ok.X.keeps st, ⟨p, lo, mg, mb, T.keeps st⟩, H.ok.hh, H.ok.S.keeps st, H.ok.frs, H.ok.frm, H.ok.dep, H.ok.uni, H.ok.loc, H.ok.glo, H.ok.bui, H.ok.knd⟩,
    ⟨H.fr.ns, fun b o e => of_hideAll _ e, hideAll_none _ List.mem_cons_self⟩, mkNews fun a d hm => ?_, H.nd, H.ky, fun _ _ e => e, H.bare, H.os⟩
  obtain ⟨o, h1, h2, h3, h4⟩ := H.get hm
  exact ⟨o, h1, h2, h3, hideAll_none _ (List.mem_cons_of_mem _ (List.mem_map_of_mem (f := (·.1)) hm))⟩
theorem Hs.unfix {s' : Shared} {m' n'} (H : Hs w c m n s) (H' : Hs w (c.fix n s) m' n' s') : Hs w c m' n' s' := by
  have st := fix_keep H
  refine ⟨H.ok, ⟨H'.fr.ns, fun b o e => H'.fr.keep b o (st b o e), H.fr.above⟩, mkNews fun a d hm => ?_, H'.nd, H'.ky, fun i x e => H'.gens i x (H.gens i x e), H'.bare, H'.os⟩
  obtain ⟨o, h1, h2, h3, h4⟩ := H'.get hm
  refine ⟨o, h1, h2, h3, ?_⟩
  cases q : c.h₀.get? a with
  | none => rfl
  | some o' => rw [st _ _ q] at h4; cases h4

/-- a live generator beside the state -/
structure GLive (w : World) (c : Cx) (n : Nw) (items : List (Nat × Str)) (ga : Addr) (g : Nat) (s : Shared) (pr : List Addr) (gs : GenState) : Prop where
  isG : s.heap.IsGen ga g
  at_ : s.gens[g]? = some gs
  past : c.gs.size ≤ g
  ok : GOk w c.A.in1 items pr gs s
  own : ∀ a ∈ ga :: pr, (∃ o, s.heap.get? a = some o) ∧ a ∉ n.map (·.1) ∧ a ≠ c.L ∧ c.h₀.get? a = none
  gaN : ga ∉ pr

theorem setGen_heap (s : Shared) (g : Nat) (x : GenState) : (s.setGen g x).heap = s.heap := rfl
theorem setGen_get (s : Shared) (g : Nat) (x : GenState) {gs : GenState} (h : s.gens[g]? = some gs) : (s.setGen g x).gens[g]? = some x := by
  have hlt : g < s.gens.size := by
    rcases Nat.lt_or_ge g s.gens.size with h' | h'
    · exact h'
    · rw [Array.getElem?_eq_none h'] at h; cases h
  show (s.gens.setIfInBounds g x)[g]? = some x
  simp [hlt]
theorem setGen_ne (s : Shared) (g : Nat) (x : GenState) {i : Nat} (h : i ≠ g) : (s.setGen g x).gens[i]? = s.gens[i]? := by
  show (s.gens.setIfInBounds g x)[i]? = s.gens[i]?
  rw [Array.getElem?_setIfInBounds]
  simp [Ne.symm h]
theorem bare_set (s : Shared) (g : Nat) (x : GenState) (h : AllBare s.gens) (hx : x.bare = true) : AllBare (s.setGen g x).gens := by
  intro y hy
  obtain ⟨i, hi, rfl⟩ := Array.mem_iff_getElem.mp (show y ∈ s.gens.setIfInBounds g x from hy)
  have hi' : i < s.gens.size := by simpa using hi
  rw [Array.getElem_setIfInBounds hi']
  split
  · exact hx
  · exact h _ (Array.getElem_mem hi')
theorem no_mem {n : Nw} {a : Addr} {d : OD} (h : a ∉ n.map (·.1)) : (a, d) ∉ n := fun q => h (List.mem_map_of_mem (f := (·.1)) q)

/-- the generator gives its next -/
theorem gen_item {it : Nat × Str} {rest : List (Nat × Str)} {ga : Addr} {g : Nat} {pr : List Addr} {gs : GenState} {Q : Option Value → Shared → Prop} {E : Value → Shared → Prop} (H : Hs w c m n s) (G : GLive w c n (it :: rest) ga g s pr gs)
    (h : ∀ T tk tk' s' pr' gs', Hs w c m ((T, .tup [.int it.1 tk, .str it.2 tk']) :: n) s' → GLive w c ((T, .tup [.int it.1 tk, .str it.2 tk']) :: n) rest ga g s' pr' gs' → Q (some (.ref T)) s') : wpAny (model PG w) c.A (pyNext (.ref ga)) Q E s := by
  have hg := G.own ga List.mem_cons_self
  refine next_gen H.ok.hh H.nolimit H.dep G.isG G.at_ ?_
  have hw := G.ok (s.setGen g .running) (fun _ _ => rfl) (H.gdh fun a ha => (G.own a (List.mem_cons_of_mem _ ha)).2.2.2) (bare_set _ _ _ H.bare rfl)
  have mono : ∀ {P P' : End → Shared → Prop}, Wk w c.A.in1 gs (s.setGen g .running) P → (∀ e s', P e s' → P' e s') → Wk w c.A.in1 gs (s.setGen g .running) P' := fun {P P'} hw hp => by
    cases gs with
    | fresh c => exact SegX.mono hw hp
    | suspended => exact SegX.mono hw hp
    | running => exact hw
    | finished => exact hw
  refine mono hw fun e s2 he => ?_
  obtain ⟨T, tk, tk', kk, pr', ⟨l, k, cd, p, fs, rfl⟩, hT, hTo, gro, hpr', hTn, hok⟩ := he
  intro hq
  have hbare := End.bare_of_quiet hq
  generalize hgs' : (End.susp (Value.ref T) false l k cd p fs).genState = gs' at hok hbare
  have hT : T ∈ pr ∨ s.heap.get? T = none := hT
  have keep : ∀ b o, b ∉ pr → s.heap.get? b = some o → s2.heap.get? b = some o := gro.keep
  have nlt : ∀ {b o}, b ∉ pr → s.heap.get? b = some o → b ≠ T := fun {b o} hb e q => by
    rcases hT with z | z
    · exact hb (q ▸ z)
    · rw [q, z] at e; cases e
  obtain ⟨oL, es, ep, hL, r⟩ := H.fr.ns
  have hLp : c.L ∉ pr := fun q => (G.own c.L (List.mem_cons_of_mem _ q)).2.2.1 rfl
  have h0p : ∀ b o, c.h₀.get? b = some o → b ∉ pr := fun b o e q => by rw [(G.own b (List.mem_cons_of_mem _ q)).2.2.2] at e; cases e
  have run : AllBare (s.setGen g .running).gens := bare_set _ _ _ H.bare rfl
  have at2 : s2.gens[g]? = some .running := gro.gens g _ (setGen_get _ _ _ G.at_)
  have H2 : Hs w c m ((T, .tup [.int it.1 tk, .str it.2 tk']) :: n) (s2.setGen g gs') := by
    refine ⟨H.ok, ⟨⟨oL, es, ep, keep _ _ hLp hL, r⟩, fun b o e => keep b o (h0p b o e) (H.fr.keep b o e), H.fr.above⟩, mkNews fun a d hm => ?_, ?_, H.ky, fun i x e => ?_, ?_, gro.os.trans H.os⟩
    · rcases List.mem_cons.mp hm with q | hm
      · cases q
        refine ⟨_, hTo, ⟨kk, rfl⟩, fun q => nlt hLp hL q.symm, ?_⟩
        cases q : c.h₀.get? T with
        | none => rfl
        | some o' => exact absurd rfl (nlt (h0p _ _ q) (H.fr.keep _ _ q))
      · obtain ⟨o, h1, h2, h3⟩ := H.get hm
        exact ⟨o, keep _ _ (fun q => no_mem (G.own a (List.mem_cons_of_mem _ q)).2.1 hm) h1, h2, h3⟩
    · refine List.nodup_cons.mpr ⟨fun hm => ?_, H.nd⟩
      obtain ⟨⟨b, d⟩, hm, e⟩ := List.mem_map.mp hm
      obtain ⟨o, h1, _⟩ := H.get hm
      exact nlt (fun q => no_mem (G.own b (List.mem_cons_of_mem _ q)).2.1 hm) h1 e
    · have hi : i ≠ g := fun q => by
        have := G.past
        rw [Array.getElem?_eq_none (by omega)] at e; cases e
      rw [setGen_ne _ _ _ hi]; exact gro.gens i x (by rw [setGen_ne _ _ _ hi]; exact H.gens i x e)
    · exact bare_set _ _ _ gro.bare hbare
  refine h T tk tk' _ pr' gs' H2 ⟨?_, ?_, G.past, ?_, fun a ha => ?_, ?_⟩
  · obtain ⟨o, nm, qn, ho, rr⟩ := G.isG
    exact ⟨o, nm, qn, keep _ _ G.gaN ho, rr⟩
  · exact setGen_get _ _ _ at2
  · cases rest with
    | nil => exact hok
    | cons => exact hok
  · rcases List.mem_cons.mp ha with rfl | ha
    · obtain ⟨⟨o, ho⟩, h2, h3, h4⟩ := hg
      refine ⟨⟨o, keep _ _ G.gaN ho⟩, fun q => ?_, h3, h4⟩
      rcases List.mem_cons.mp q with q | q
      · exact nlt G.gaN ho q
      · exact h2 q
    · obtain ⟨hex, hor⟩ := hpr' a ha
      refine ⟨hex, ?_⟩
      have haT : a ≠ T := fun q => hTn (q ▸ ha)
      rcases hor with q | q
      · obtain ⟨_, h2, h3, h4⟩ := G.own a (List.mem_cons_of_mem _ q)
        refine ⟨fun z => ?_, h3, h4⟩
        rcases List.mem_cons.mp z with z | z
        · exact haT z
        · exact h2 z
      · have q : s.heap.get? a = none := q
        refine ⟨fun z => ?_, fun z => ?_, ?_⟩
        · rcases List.mem_cons.mp z with z | z
          · exact haT z
          · obtain ⟨⟨b, d⟩, hm, e⟩ := List.mem_map.mp z
            have e : b = a := e
            obtain ⟨o, h1, _⟩ := H.get hm
            rw [e, q] at h1; cases h1
        · rw [z, hL] at q; cases q
        · cases z : c.h₀.get? a with
          | none => rfl
          | some o' => rw [H.fr.keep _ _ z] at q; cases q
  · intro q
    rcases (hpr' ga q).2 with z | z
    · exact G.gaN z
    · obtain ⟨⟨o, ho⟩, _⟩ := hg
      have z : s.heap.get? ga = none := z
      rw [ho] at z; cases z
/-- the generator is through -/
theorem gen_end {ga : Addr} {g : Nat} {pr : List Addr} {gs : GenState} {Q : Option Value → Shared → Prop} {E : Value → Shared → Prop} (H : Hs w c m n s) (G : GLive w c n [] ga g s pr gs) (h : ∀ s', Hs w c m n s' → Q none s') : wpAny (model PG w) c.A (pyNext (.ref ga)) Q E s := by
  refine next_gen H.ok.hh H.nolimit H.dep G.isG G.at_ ?_
  have hw := G.ok (s.setGen g .running) (fun _ _ => rfl) (H.gdh fun a ha => (G.own a (List.mem_cons_of_mem _ ha)).2.2.2) (bare_set _ _ _ H.bare rfl)
  have mono : ∀ {P P' : End → Shared → Prop}, Wk w c.A.in1 gs (s.setGen g .running) P → (∀ e s', P e s' → P' e s') → Wk w c.A.in1 gs (s.setGen g .running) P' := fun {P P'} hw hp => by
    cases gs with
    | fresh c => exact SegX.mono hw hp
    | suspended => exact SegX.mono hw hp
    | running => exact hw
    | finished => exact hw
  refine mono hw fun e s2 he => ?_
  obtain ⟨rfl, gro⟩ := he
  refine ⟨rfl, fun h' hk => h _ ?_⟩
  have keep : ∀ b o, b ∉ pr → s.heap.get? b = some o → h'.get? b = some o := fun b o q e => hk b o (gro.keep b o q e)
  obtain ⟨oL, es, ep, hL, r⟩ := H.fr.ns
  have hLp : c.L ∉ pr := fun q => (G.own c.L (List.mem_cons_of_mem _ q)).2.2.1 rfl
  have h0p : ∀ b o, c.h₀.get? b = some o → b ∉ pr := fun b o e q => by rw [(G.own b (List.mem_cons_of_mem _ q)).2.2.2] at e; cases e
  have run : AllBare (s.setGen g .running).gens := bare_set _ _ _ H.bare rfl
  refine ⟨H.ok, ⟨⟨oL, es, ep, keep _ _ hLp hL, r⟩, fun b o e => keep b o (h0p b o e) (H.fr.keep b o e), H.fr.above⟩, mkNews fun a d hm => ?_, H.nd, H.ky, fun i x e => ?_, ?_, gro.os.trans H.os⟩
  · obtain ⟨o, h1, h2, h3⟩ := H.get hm
    exact ⟨o, keep _ _ (fun q => no_mem (G.own a (List.mem_cons_of_mem _ q)).2.1 hm) h1, h2, h3⟩
  · show (s2.setGen g .finished).gens[i]? = some x
    have hi : i ≠ g := fun q => by
      have := G.past
      rw [Array.getElem?_eq_none (by omega)] at e; cases e
    rw [setGen_ne _ _ _ hi]; exact gro.gens i x (by rw [setGen_ne _ _ _ hi]; exact H.gens i x e)
  · exact bare_set _ _ _ gro.bare rfl
/-- the body leaves the generator alone -/
theorem GLive.after {items : List (Nat × Str)} {ga : Addr} {g : Nat} {pr : List Addr} {gs : GenState} {s' : Shared} {m' n'} (H : Hs w c m n s) (G : GLive w c n items ga g s pr gs) (H' : Hs w (c.fix n s) m' n' s') : GLive w c n' items ga g s' pr gs := by
  have same : ∀ a ∈ ga :: pr, ∃ o, s.heap.get? a = some o ∧ s'.heap.get? a = some o ∧ (c.fix n s).h₀.get? a = some o := fun a ha => by
    obtain ⟨⟨o, ho⟩, h2, h3, h4⟩ := G.own a ha
    have hf : (c.fix n s).h₀.get? a = some o := hideAll_get _ ho fun q => by
      rcases List.mem_cons.mp q with q | q
      · exact h3 q
      · exact h2 q
    exact ⟨o, ho, H'.fr.keep _ _ hf, hf⟩
  refine ⟨?_, H'.gens g gs G.at_, G.past, ?_, fun a ha => ?_, G.gaN⟩
  · obtain ⟨o, nm, qn, ho, rr⟩ := G.isG
    obtain ⟨o', h1, h2, _⟩ := same ga List.mem_cons_self
    rw [ho] at h1; cases h1
    exact ⟨o, nm, qn, h2, rr⟩
  · have agree : ∀ a ∈ pr, s'.heap.get? a = s.heap.get? a := fun a ha => by
      obtain ⟨o, h1, h2, _⟩ := same a (List.mem_cons_of_mem _ ha)
      rw [h1, h2]
    have ok := G.ok
    cases items with
    | nil => exact fun s'' h => ok s'' fun a ha => (h a ha).trans (agree a ha)
    | cons => exact fun s'' h => ok s'' fun a ha => (h a ha).trans (agree a ha)
  · obtain ⟨o, h1, h2, hf⟩ := same a ha
    obtain ⟨_, _, h3, h4⟩ := G.own a ha
    refine ⟨⟨o, h2⟩, fun q => ?_, h3, h4⟩
    obtain ⟨⟨b, d⟩, hm, e⟩ := List.mem_map.mp q
    have e : b = a := e
    obtain ⟨_, _, _, _, z⟩ := H'.get hm
    rw [e, hf] at z; cases z
theorem go_gen {elts x1 pos T g ga} {A : Around} {Q : Unit → Shared → Prop} {E : Value → Shared → Prop} (hg : s.heap.IsGen ga g) (h : Q () s) : wpAny (model PG w) A (letOwnedTupleGo (.Tuple elts x1 pos) (.ref ga) (.ref T)) Q E s := by
  obtain ⟨⟨oc, od, dt, sl⟩, nm, qn, ho, hc, hd, _⟩ := hg
  dsimp only at hc hd
  subst hc hd
  unfold letOwnedTupleGo
  refine wpAny_bind (wpAny_load ho ?_)
  exact wpAny_pure h
theorem gen_for {items : List (Nat × Str)} {ga : Addr} {g : Nat} {pr : List Addr} {gs : GenState} {elts x1 tp body} {Q : Flow → Lo → Nw → Prop} (I : Nat → Lo → Nw → Prop) (H : Hs w c m n s) (G : GLive w c n items ga g s pr gs) (h0 : I 0 m n)
    (step : ∀ (i p : Nat) (q : Str) (m : Lo) (n : Nw), items[i]? = some (p, q) → I i m n → ∀ c', c'.env = c.env → c'.r = c.r → c'.gen = c.gen → ∀ T tk tk', TT w c' m ((T, .tup [.int p tk, .str q tk']) :: n) (assign (.Tuple elts x1 tp) c'.env (.ref T)) fun _ m1 n1 => TT w c' m1 n1 (execs body c'.env) fun f m3 n' =>
      ∃ n3, n3.Sublist n' ∧ match f with | .next | .cont => I (i + 1) m3 n3 | .brk => Q .next m3 n3 | .ret v => Q (.ret v) m3 n3)
    (fin : ∀ m n, I items.length m n → Q .next m n) (R : Result → Shared → Prop) (hR : ∀ f m' n' s', Hs w c m' n' s' → Q f m' n' → R (.ok f) s') :
    codeAny (model PG w) c.A (.forLoop (.Tuple elts x1 tp) (.ref ga) body [] c.env) R s := by
  refine codeAny_forLoop_any (fun k s => ∃ i m n pr gs, i ≤ items.length ∧ k = items.length - i ∧ I i m n ∧ Hs w c m n s ∧ GLive w c n (items.drop i) ga g s pr gs) ?_ (items.length - 0) ⟨0, m, n, pr, gs, Nat.zero_le _, rfl, h0, H, G⟩
  rintro k s ⟨i, m, n, pr, gs, hi, rfl, hI, H, G⟩
  by_cases hlt : i < items.length
  · rw [List.drop_eq_getElem_cons hlt] at G
    refine gen_item H G fun T tk tk' s' pr' gs' H' G' => go_gen G'.isG ?_
    refine wpAny_mono (step i items[i].1 items[i].2 m n (by simp [hlt]) hI (c.fix _ s') rfl rfl rfl T tk tk' s' H'.fix _) ?_ fun _ _ x => x
    rintro _ s2 ⟨m1, n1, H1, h1⟩
    refine wpAny_mono (h1 s2 H1 _) ?_ fun _ _ x => x
    rintro f s3 ⟨m3, n', H3, n3, hsub, h3⟩
    have H3 := H3.sub hsub
    have H4 := H'.unfix H3
    have G4 := G'.after H' H3
    cases f with
    | next => exact ⟨items.length - (i + 1), by omega, i + 1, m3, n3, pr', gs', hlt, rfl, h3, H4, G4⟩
    | cont => exact ⟨items.length - (i + 1), by omega, i + 1, m3, n3, pr', gs', hlt, rfl, h3, H4, G4⟩
    | brk => exact hR _ m3 n3 s3 H4 h3
    | ret v => exact hR _ m3 n3 s3 H4 h3
  · have e : i = items.length := by omega
    subst e
    rw [List.drop_length] at G
    exact gen_end H G fun s' H' => wpAny_execs_nil (hR _ m n s' H' (fin m n hI))
end

end
section
open PySem PySem.W PySem.Calls PyProof.Rows PySem.W.X
section
variable {w : World} {A : Around} {P : End → Shared → Prop} {cd : Code} {fs : List Frame} {s : Shared} {env : Env} {K : Flow → Sem Fin} {H : Value → Sem Fin} {gd : Bool → Bool} {lv : List Value → List Value} {α : Type} {c : Cx} {m : Lo} {n : Nw}

theorem of_TT {t : Sem α} {Q : α → Shared → Prop} (HS : Hs w c m n s) (h : TT w c m n t fun a m' n' => ∀ s2, Hs w c m' n' s2 → Q a s2) (E : Value → Shared → Prop) : wpAny (model PG w) c.A t Q E s :=
  wpAny_mono (h s HS E) (fun _ s2 ⟨_, _, H2, h2⟩ => h2 s2 H2) fun _ _ x => x
theorem gx_st {st : Stmt} (hA : c.A = A.over cd fs) (he : c.env = env) (HS : Hs w c m n s) (h : TT w c m n (exec st c.env) fun f m' n' => ∀ s2, Hs w c m' n' s2 → SegX (model PG w) A cd (K f) fs s2 P) : SegX (model PG w) A cd ((exec st env).wrap K H gd lv) fs s P := by
  subst he; exact sx_st fun E => hA ▸ of_TT HS h E
theorem gx_If {t b o pos} (hA : c.A = A.over cd fs) (he : c.env = env) (HS : Hs w c m n s)
    (h : TT w c m n (isTrue t c.env (eval t c.env)) fun r m' n' => ∀ s2, Hs w c m' n' s2 → if r then SegX (model PG w) A cd ((execs b env).wrap K H gd lv) fs s2 P else SegX (model PG w) A cd ((execs o env).wrap K H gd lv) fs s2 P) :
    SegX (model PG w) A cd ((exec (.If t b o pos) env).wrap K H gd lv) fs s P := by
  subst he; exact sx_If fun E => hA ▸ of_TT HS h E
theorem gx_Yield {e : Expr} {ypos pos : Pos} (hfs : splitAtGen fs = none) (hgd : gd false = false) (hfg : fs.any Frame.guarded = false) (hco : env.scope.isCoroutine = false) (hA : c.A = A.over cd fs) (he : c.env = env) (HS : Hs w c m n s)
    (h : TT w c m n (eval e c.env) fun v m' n' => ∀ s2, Hs w c m' n' s2 → ∀ p l k, (∀ s'', SegX (model PG w) A cd (K .next) fs s'' = SegX (model PG w) A cd (k (.send .none)) fs s'') → P (.susp v false l k cd p fs) s2) :
    SegX (model PG w) A cd ((exec (.Expr (.Yield (some e) ypos) pos) env).wrap K H gd lv) fs s P := by
  subst he
  exact sx_Yield hfs hgd hfg hco (by unfold interactive; rw [HS.ok.knd]; rfl) fun E => hA ▸ of_TT HS h E
theorem gx_For {tgt iter body orelse pos} (hs : ∀ x, foldedSetIterable iter env x = pure x) (hA : c.A = A.over cd fs) (he : c.env = env) (HS : Hs w c m n s)
    (h : TT w c m n (eval iter c.env) fun v m1 n1 => TT w c m1 n1 (pyIter v) fun it m2 n2 => ∀ s2, Hs w c m2 n2 s2 → ∀ p kk, (∀ s3 P, SegX (model PG w) A cd (K .next) fs s3 P → SegX (model PG w) A cd (kk (.ok .next)) fs s3 P) →
      SegX (model PG w) A (.forLoop tgt it body orelse env) ((model PG w).den (.forLoop tgt it body orelse env)) (.ret kk none (gd false) (lv []) cd p [] :: fs) s2 P) :
    SegX (model PG w) A cd ((exec (.For tgt iter body orelse pos) env).wrap K H gd lv) fs s P := by
  subst he
  exact sx_For hs fun E => hA ▸ of_TT HS (t_mono h fun _ _ _ h1 s2 H2 E' => hA ▸ of_TT H2 h1 E') E
theorem gx_forLoop {tgt it body} (hA : c.A = A.over (.forLoop tgt it body [] env) fs) (he : c.env = env) (HS : Hs w c m n s)
    (h : TT w c m n (pyNext it) fun r m1 n1 => match r with
      | none => ∀ s1, Hs w c m1 n1 s1 → SegX (model PG w) A (.block [] env) ((model PG w).den (.block [] env)) fs s1 P
      | some v => TT w c m1 n1 (letOwnedTupleGo tgt it v) fun _ m2 n2 => TT w c m2 n2 (assign tgt c.env v) fun _ m3 n3 => ∀ s3, Hs w c m3 n3 s3 →
          ∀ H, SegX (model PG w) A (.forLoop tgt it body [] env) ((execs body env).wrap (fun f => match f with
            | .next | .cont => .pure (.again (.forLoop tgt it body [] env))
            | .brk => .pure (.done .next)
            | .ret v => .pure (.done (.ret v))) H id id) fs s3 P) :
    SegX (model PG w) A (.forLoop tgt it body [] env) ((model PG w).den (.forLoop tgt it body [] env)) fs s P := by
  subst he
  refine sx_forLoop fun E => hA ▸ of_TT HS (t_mono h fun r _ _ h1 s2 H2 => ?_) E
  cases r with
  | none => exact h1 s2 H2
  | some v => exact fun E' => hA ▸ of_TT H2 (t_mono h1 fun _ _ _ h2 s3 H3 E'' => hA ▸ of_TT H3 h2 E'') E'
end

/-- what _iter_escaped_chars gives -/
noncomputable def esc : List Nat → Nat → Bool → List (Nat × Str)
  | [], i, true => [(i - 1, Str.ofString "\\")]
  | [], _, false => []
  | d :: r, i, true => (i, Str.ofString "\\" ++ ⟨#[d]⟩) :: esc r (i + 1) false
  | d :: r, i, false => if d = 92 then esc r (i + 1) true else (i, ⟨#[d]⟩) :: esc r (i + 1) false
open PySem.W.X
/-- the generator's own context at a wakening -/
structure GCx (w : World) (A2 : Around) (env : Env) (Lg : Addr) (pr : List Addr) (s₀ : Shared) (c : Cx) : Prop where
  A : c.A = A2
  env : c.env = env
  L : c.L = Lg
  h₀ : c.h₀ = hideAll s₀.heap pr
  gs : c.gs = s₀.gens
  os : c.os = s₀.os
theorem GCx.gro {w : World} {A2 : Around} {env : Env} {Lg : Addr} {pr : List Addr} {s₀ s : Shared} {c : Cx} {m n} (g : GCx w A2 env Lg pr s₀ c) (H : Hs w c m n s) : Gro pr s₀ s :=
  ⟨fun b o hb e => H.fr.keep b o (by rw [g.h₀]; exact hideAll_get _ e hb), fun i x e => H.gens i x (by rw [g.gs]; exact e), H.bare, by rw [H.os, g.os]⟩
theorem GCx.new {w : World} {A2 : Around} {env : Env} {Lg : Addr} {pr : List Addr} {s₀ : Shared} {c : Cx} {a : Addr} (g : GCx w A2 env Lg pr s₀ c) (h : c.h₀.get? a = none) : a ∈ pr ∨ s₀.heap.get? a = none := by
  by_cases q : a ∈ pr
  · exact .inl q
  · refine .inr ?_
    cases z : s₀.heap.get? a with
    | none => rfl
    | some o => rw [g.h₀, hideAll_get _ z q] at h; cases h
noncomputable abbrev gM (x : Str) (t : Tok) (pv : Option Value) (e : Bool) (cv : Option Value) : Lo := [(Str.ofString "addr", some (.str x t)), (Str.ofString "pos", pv), (Str.ofString "escape", some (.bool e)), (Str.ofString "ch", cv)]
noncomputable abbrev gN (x : Str) (t : Tok) (en si : Addr) (i : Nat) (old : Value) : Nw := [(en, .raw (enumObj si i old)), (si, .flds (strIter x) [.str x t, .int i 0])]
/-- a wakening of the generator, made out of its frame and two iterators -/
theorem Hs.wake {w : World} {A2 : Around} {env : Env} {Lg en si : Addr} {x : Str} {t : Tok} {i : Nat} {old : Value} {pv cv : Option Value} {e : Bool} {s s' : Shared} {c : Cx} {r : Nat} (H : Hs w c (gM x t pv e cv) (gN x t en si i old) s) (hL : c.L = Lg)
    (ag : ∀ a ∈ [Lg, en, si], s'.heap.get? a = s.heap.get? a) (gd : Gd w (hideAll s'.heap [Lg, en, si])) (hb : AllBare s'.gens)
    (ok : ∀ h₀, Gd w h₀ → Ok w ⟨h₀, A2, Lg, env, s'.gens, s'.os, r, true⟩) :
    Hs w ⟨hideAll s'.heap [Lg, en, si], A2, Lg, env, s'.gens, s'.os, r, true⟩ (gM x t pv e cv) (gN x t en si i old) s' := by
  subst hL
  obtain ⟨oL, es, ep, hL, rr⟩ := H.fr.ns
  refine ⟨ok _ gd, ⟨⟨oL, es, ep, (ag _ (by simp)).trans hL, rr⟩, fun b o q => of_hideAll _ q, hideAll_none _ (by simp)⟩, mkNews fun a d hm => ?_, H.nd, H.ky, fun _ _ q => q, hb, rfl⟩
  obtain ⟨o, h1, h2, h3, h4⟩ := H.get hm
  have ha : a ∈ [c.L, en, si] := by
    rcases List.mem_cons.mp hm with q | hm
    · cases q; simp
    · rcases List.mem_cons.mp hm with q | hm
      · cases q; simp
      · cases hm
  exact ⟨o, (ag a ha).trans h1, h2, h3, hideAll_none _ ha⟩

theorem loop_from {w : World} {A' A2 : Around} {env : Env} {x : Str} {t : Tok} {Lg en si : Addr} {r : Nat} {G : Shared → (End → Shared → Prop) → Prop}
    (ok : ∀ h₀ gs os, Gd w h₀ → Ok w ⟨h₀, A2, Lg, env, gs, os, r, true⟩)
    (fin : ∀ s₀ pr s c old pv cv e, GCx w A2 env Lg pr s₀ c → (∀ a ∈ pr, a ∈ [Lg, en, si]) → (e = true → ∃ tk, pv = some (.int (x.cps.size - 1 : Nat) tk)) → Hs w c (gM x t pv e cv) (gN x t en si x.cps.size old) s → G s (GPo w A' (esc [] x.cps.size e) pr s₀))
    (step : ∀ i d e old pv cv s c P, x.cps[i]? = some d → c.A = A2 → c.env = env → c.L = Lg → Hs w c (gM x t pv e cv) (gN x t en si i old) s →
      (e = true → ∀ T t1 t2 t3 t4 old' s2 p l k fs cd, Hs w c (gM x t (some (.int i t3)) true (some (.str ⟨#[d]⟩ t4))) ((T, .tup [.int i t1, .str (Str.ofString "\\" ++ ⟨#[d]⟩) t2]) :: gN x t en si (i + 1) old') s2 →
        (∀ c3 s3 P', c3.A = A2 → c3.env = env → c3.L = Lg → Hs w c3 (gM x t (some (.int i t3)) true (some (.str ⟨#[d]⟩ t4))) (gN x t en si (i + 1) old') s3 → (∀ s4, Hs w c3 (gM x t (some (.int i t3)) false (some (.str ⟨#[d]⟩ t4))) (gN x t en si (i + 1) old') s4 → G s4 P') → SegX (model PG w) A' cd (k (.send .none)) fs s3 P') →
        P (.susp (.ref T) false l k cd p fs) s2) →
      (e = false → d = 92 → ∀ t3 t4 old' s4, Hs w c (gM x t (some (.int i t3)) true (some (.str ⟨#[d]⟩ t4))) (gN x t en si (i + 1) old') s4 → G s4 P) →
      (e = false → d ≠ 92 → ∀ T t1 t2 t3 t4 old' s2 p l k fs cd, Hs w c (gM x t (some (.int i t3)) false (some (.str ⟨#[d]⟩ t4))) ((T, .tup [.int i t1, .str ⟨#[d]⟩ t2]) :: gN x t en si (i + 1) old') s2 →
        (∀ c3 s3 P', c3.A = A2 → c3.env = env → c3.L = Lg → Hs w c3 (gM x t (some (.int i t3)) false (some (.str ⟨#[d]⟩ t4))) (gN x t en si (i + 1) old') s3 → (∀ s4, Hs w c3 (gM x t (some (.int i t3)) false (some (.str ⟨#[d]⟩ t4))) (gN x t en si (i + 1) old') s4 → G s4 P') → SegX (model PG w) A' cd (k (.send .none)) fs s3 P') →
        P (.susp (.ref T) false l k cd p fs) s2) → G s P) :
    ∀ (rs : List Nat) (i : Nat) (e : Bool) (s₀ : Shared) (pr : List Addr) (s : Shared) (c : Cx) (old : Value) (pv cv : Option Value), x.cps.toList.drop i = rs → i ≤ x.cps.size → GCx w A2 env Lg pr s₀ c → (∀ a ∈ pr, a ∈ [Lg, en, si]) →
      (e = true → ∃ tk, pv = some (.int (i - 1 : Nat) tk)) → Hs w c (gM x t pv e cv) (gN x t en si i old) s → G s (GPo w A' (esc rs i e) pr s₀) := by
  intro rs
  induction rs with
  | nil =>
    intro i e s₀ pr s c old pv cv hd hi g hp he H
    have : i = x.cps.size := by
      have := List.drop_eq_nil_iff.mp hd
      rw [Array.length_toList] at this; omega
    subst this
    exact fin s₀ pr s c old pv cv e g hp he H
  | cons d rs ih =>
    intro i e s₀ pr s c old pv cv hd hi g hp he H
    have hlt : i < x.cps.size := by
      rcases Nat.lt_or_ge i x.cps.size with h | h
      · exact h
      · rw [List.drop_eq_nil_iff.mpr (by rw [Array.length_toList]; exact h)] at hd; cases hd
    have hx : x.cps[i]? = some d := by
      have := congrArg List.head? hd
      rw [List.head?_drop] at this
      simpa using this
    have hd' : x.cps.toList.drop (i + 1) = rs := by
      rw [← List.tail_drop, hd]; rfl
    -- what a yield leaves behind
    have yl : ∀ {e' : Bool} {q : Str} {T t1 t2 t3 t4 old' s2 p l k fs cd} , Hs w c (gM x t (some (.int i t3)) e' (some (.str ⟨#[d]⟩ t4))) ((T, .tup [.int i t1, .str q t2]) :: gN x t en si (i + 1) old') s2 →
        (∀ c3 s3 P', c3.A = A2 → c3.env = env → c3.L = Lg → Hs w c3 (gM x t (some (.int i t3)) e' (some (.str ⟨#[d]⟩ t4))) (gN x t en si (i + 1) old') s3 → (∀ s4, Hs w c3 (gM x t (some (.int i t3)) false (some (.str ⟨#[d]⟩ t4))) (gN x t en si (i + 1) old') s4 → G s4 P') → SegX (model PG w) A' cd (k (.send .none)) fs s3 P') →
        GPo w A' ((i, q) :: esc rs (i + 1) false) pr s₀ (.susp (.ref T) false l k cd p fs) s2 := by
      intro e' q T t1 t2 t3 t4 old' s2 p l k fs cd H2 hk
      obtain ⟨oT, hT, ⟨kk, rfl⟩, hTL, hT0⟩ := H2.get (a := T) List.mem_cons_self
      have nd := H2.nd
      simp only [List.map_cons, List.nodup_cons, List.mem_cons, List.map_nil, not_or] at nd
      have hTn : T ∉ [Lg, en, si] := by
        intro z
        rw [← g.L] at z
        simp only [List.mem_cons, List.not_mem_nil, or_false] at z
        rcases z with z | z | z
        · exact hTL z
        · exact nd.1.1 z
        · exact nd.1.2.1 z
      refine ⟨T, t1, t2, kk, [Lg, en, si], ⟨l, k, cd, p, fs, rfl⟩, ?_, hT, g.gro H2, fun a ha => ?_, hTn, ?_⟩
      · exact g.new hT0
      · simp only [List.mem_cons, List.not_mem_nil, or_false] at ha
        rcases ha with rfl | rfl | rfl
        · obtain ⟨oL, _, _, hL, _⟩ := H2.fr.ns
          rw [g.L] at hL
          exact ⟨⟨_, hL⟩, g.new (by have := H2.fr.above; rw [g.L] at this; exact this)⟩
        · obtain ⟨o, h1, _, _, h4⟩ := H2.get (a := a) (List.mem_cons_of_mem _ List.mem_cons_self)
          exact ⟨⟨o, h1⟩, g.new h4⟩
        · obtain ⟨o, h1, _, _, h4⟩ := H2.get (a := a) (List.mem_cons_of_mem _ (List.mem_cons_of_mem _ List.mem_cons_self))
          exact ⟨⟨o, h1⟩, g.new h4⟩
      · refine gok_of fun s' ag gd hb => ?_
        have H3 := (H2.sub (List.sublist_cons_self _ _)).wake (A2 := A2) (env := env) (r := r) g.L ag gd hb fun h₀ hg => ok h₀ _ _ hg
        exact hk _ s' _ rfl rfl rfl H3 fun s4 H4 => ih (i + 1) false s' [Lg, en, si] s4 _ old' _ _ hd' hlt ⟨rfl, rfl, rfl, rfl, rfl, rfl⟩ (fun _ h => h) (fun q => nomatch q) H4
    refine step i d e old pv cv s c _ hx g.A g.env g.L H ?_ ?_ ?_
    · rintro rfl T t1 t2 t3 t4 old' s2 p l k fs cd H2 hk
      exact yl H2 hk
    · rintro rfl hd92 t3 t4 old' s4 H4
      have : esc (d :: rs) i false = esc rs (i + 1) true := by simp [esc, hd92]
      rw [this]
      exact ih (i + 1) true s₀ pr s4 c old' _ _ hd' hlt g hp (fun _ => ⟨t3, rfl⟩) H4
    · rintro rfl hd92 T t1 t2 t3 t4 old' s2 p l k fs cd H2 hk
      have : esc (d :: rs) i false = (i, ⟨#[d]⟩) :: esc rs (i + 1) false := by simp [esc, hd92]
      rw [this]
      exact yl H2 hk

end
section
noncomputable def depthStep (ds : List Int) (x : Int) : List Int :=
  let around : Int := match ds.getLast? with | some d => d + 1 | none => 0
  ds ++ [around - (x.fdiv 128).fmod (around + 1)]
noncomputable def depthsOf (ns : List Int) : List Int := ns.foldl depthStep []
theorem depthStep_nonneg {ds : List Int} {x : Int} (h : ∀ d ∈ ds, 0 ≤ d) : ∀ d ∈ depthStep ds x, 0 ≤ d := by
  intro d hd
  unfold depthStep at hd
  rcases List.mem_append.mp hd with hd | hd
  · exact h d hd
  · rw [List.mem_singleton] at hd
    have h1 : (0 : Int) ≤ match ds.getLast? with | some d => d + 1 | none => 0 := by
      split
      · rename_i d' e; have := h d' (List.mem_of_getLast? e); walk_at "o"
      · walk_at "o"
    generalize (match ds.getLast? with | some d => d + 1 | none => (0 : Int)) = ar at h1 hd
    have h2 := Int.fmod_lt_of_pos (x.fdiv 128) (show 0 < ar + 1 by walk_at "o")
    walk_at "o"
theorem foldl_nonneg (ns : List Int) : ∀ {ds : List Int}, (∀ d ∈ ds, 0 ≤ d) → ∀ d ∈ ns.foldl depthStep ds, 0 ≤ d := by
  induction ns with
  | nil => intro ds h; exact h
  | cons x r ih => intro ds h; exact ih (depthStep_nonneg h)
theorem depthsOf_nonneg (ns : List Int) : ∀ d ∈ depthsOf ns, 0 ≤ d := foldl_nonneg ns (fun _ h => nomatch h)
theorem depthsOf_take {ns : List Int} {i : Nat} {k : Int} (h : ns[i]? = some k) : depthsOf (ns.take (i + 1)) = depthStep (depthsOf (ns.take i)) k := by
  unfold depthsOf; rw [List.take_add_one, h, List.foldl_append]; rfl
theorem ints_get {vs : List Value} {ns : List Int} (h : IntsAre vs ns) : ∀ {i : Nat} {v : Value}, vs[i]? = some v → ∃ k t, ns[i]? = some k ∧ v = .int k t := by
  induction h with
  | nil => intro i v h; simp at h
  | cons k t _ ih =>
    intro i v h
    cases i with
    | zero => simp at h; exact ⟨k, t, rfl, h.symm⟩
    | succ i => simpa using ih (by simpa using h)
theorem ints_snoc {vs : List Value} {ns : List Int} (h : IntsAre vs ns) (k : Int) (t : Tok) : IntsAre (vs ++ [.int k t]) (ns ++ [k]) := by
  induction h with
  | nil => exact .cons k t .nil
  | cons k' t' _ ih => exact .cons k' t' ih

theorem ctr_depths {w : World} {a : Addr} {vs : List Value} {ns : List Int} (hv : IntsAre vs ns) (hl : vs.length ≤ 100) :
    CallT w 1 164 [.ref a] [(a, .list vs)] fun v new n1 => A2 (n1 = [(a, .list vs)]) (E2 fun b ds => A3 (v = .ref b) (new = [(b, .list ds)]) (IntsAre ds (depthsOf ns))) := by
  refine callT_defH (r := 0) (by k_is) (by k_is) [Str.ofString "numbers"] [Str.ofString "depths", Str.ofString "x", Str.ofString "around"]
    [(Str.ofString "numbers", some (.ref a)), (Str.ofString "depths", none), (Str.ofString "x", none), (Str.ofString "around", none)] rfl rfl (by rfl) (by rfl) (by rfl) (by decide) (by rfl) (by rfl) (by rfl) ?_
  intro c hE hr hg
  repeat walk_at "m"
  rename_i b
  walk_at "h"; refine t_iterL (vs := vs) (by walk_at "m isl") fun it => ?_
  walk_at "h"; refine ct_forNH (nexts_L (vs := vs)) (fun i m n => E3 fun ds x ar => A4 (IntsAre ds (depthsOf (ns.take i))) (ds.length = i) (m = [(Str.ofString "numbers", some (.ref a)), (Str.ofString "depths", some (.ref b)), (Str.ofString "x", x), (Str.ofString "around", ar)]) (n = [(b, .list ds), (a, .list vs)]))
    ?_ ⟨[], none, none, .nil, rfl, rfl, rfl⟩ ?_ ?_
  · rintro i m n ⟨ds, x, ar, h1, h2, rfl, rfl⟩; walk_at "m isl"
  · rintro i v new m n hi ⟨ds, x, ar, h1, h2, rfl, rfl⟩ ⟨rfl, hv'⟩ d _
    obtain ⟨k, t, hk, rfl⟩ := ints_get hv hv'
    have hdl : ds.length ≤ 100 := by walk_at "o"
    walk_at "n"
    repeat walk_at "m"
    have hn := depthsOf_nonneg (ns.take i)
    have hnext := depthsOf_take hk
    generalize depthsOf (ns.take i) = is at h1 hn hnext
    rcases List.eq_nil_or_concat ds with rfl | ⟨ds', v', rfl⟩
    · cases h1
      first | refine ite_F (by decide) ?_ | rw [if_neg (by decide)]
      repeat walk_at "m"
      walk_at "u"; exact ⟨_, List.Sublist.refl _, _, _, _, by rw [hnext]; exact .cons _ _ .nil, by simp at h2 ⊢; walk_at "o", rfl, rfl⟩
    · rw [List.concat_eq_append] at h1 h2 hdl ⊢
      obtain ⟨k', t', hk', rfl⟩ := ints_get h1 (i := ds'.length) (v := v') (by simp)
      have hlast : is.getLast? = some k' := by
        rw [List.getLast?_eq_getElem?, ← h1.length]; simpa using hk'
      have hk0 := hn k' (List.mem_of_getLast? hlast)
      first | refine ite_T (by simp) ?_ | rw [if_pos (by simp)]
      repeat walk_at "m"
      walk_at "h"; refine t_tailLast (vs := ds' ++ [.int k' t']) (v := .int k' t') rfl (by walk_at "m isl") (by simp) ?_
      repeat walk_at "m"
      walk_at "h"; refine t_modI (by walk_at "o") fun _ => ?_
      repeat walk_at "m"
      walk_at "u"; refine ⟨_, List.Sublist.refl _, _, _, _, ?_, ?_, rfl, rfl⟩
      · rw [hnext]
        unfold depthStep
        rw [hlast]
        exact ints_snoc h1 _ _
      · simp at h2 ⊢; walk_at "o"
  · rintro m n ⟨ds, x, ar, h1, h2, rfl, rfl⟩
    repeat walk_at "m"
    walk_at "u"; exact ⟨[(b, .list ds)], [(a, .list vs)], List.Sublist.refl _, rfl, b, ds, rfl, rfl, by rw [hv.length, List.take_length] at h1; exact h1⟩

end
section
open PySem PySem.W PySem.Calls PyProof.Rows
open PySem.W.X
theorem gen_enter {w : World} {c : Cx} {m : Lo} {n : Nw} {s : Shared} {f : Addr} {args : List Value} {items : List (Nat × Str)} {R : Result → Shared → Prop} {name qual : Str} {params : Arguments} {body : List Stmt} {scope : Scope} {dV kV doc pm cdv ct oc : Value} {an od : Option Addr} {osl : Array (Option Value)}
    (H : Hs w c m n s)
    (ho : (hd.heap_1 w.params).lookup f = some ⟨oc, od, .func (fnOf name qual params body scope dV kV doc pm an cdv ct), osl⟩) (hcd : codeIn (hd.heap_1 w.params) cdv qual = true)
    (ps ns : List Str) (m₀ : Lo) (hm : m₀ = lo0 ps args ns) (hln : ps.length = args.length)
    (hbind : bindArgs (fnOf name qual params body scope dV kV doc pm an cdv ct) ⟨args, []⟩ = pure (ps.zip args)) (hloc : (ps.all fun x => decide (scope.names.lookup x = some .local)) = true) (hcell : (scope.names.all fun x => x.2 != .cell) = true) (hky : (ps ++ ns).Nodup)
    (hco : scope.isCoroutine = false) (hgen : scope.isGenerator = true) (hk : scope.kind = .function)
    (hb : ∀ Lg env s1, env.scope = scope → env.locals = Lg → env.globals = mainGlobals → env.builtins = builtinsNs → s1.heap.Ns Lg (lk m₀) → GOk w c.A.in1 items [Lg] (.fresh (.func body env)) s1)
    (h : ∀ ga g pr gs s', Hs w c m n s' → GLive w c n items ga g s' pr gs → R (.ok (.ret (.ref ga))) s') : codeAny (model PG w) c.A (.call (.ref f) ⟨args, []⟩) R s := by
  subst hm
  have hky : ((ps.zip args).map (·.1) ++ ns).Nodup := by rw [zip_keys hln]; exact hky
  have hloc : ((ps.zip args).all fun x => decide (scope.names.lookup x.1 = some .local)) = true := by
    rw [List.all_eq_true] at hloc ⊢
    intro x hx
    exact hloc x.1 (List.of_mem_zip hx).1
  have hcell : ∀ x ∈ scope.names, x.2 ≠ .cell := fun x hx => by simpa using List.all_eq_true.mp hcell x hx
  refine codeAny_call_generator (fd := fnOf name qual params body scope dV kV doc pm an cdv ct) (body := body) H.dep (H.X _ _ ho) rfl hco hgen rfl (codeRec_of H.X hcd) ?_
  rw [hbind]
  refine wpAny_pure (wpAny_newFunctionEnv hcell (locs hloc) (fun h₁ hns hsb => ⟨H.nolimit.fresh _ hsb, ?_⟩) hk)
  have hk₁ : ∀ b o, s.heap.get? b = some o → h₁.get? b = some o := fun b o e => hsb.extBut b o (Nat.ne_of_lt (Heap.lt_size e)) (Heap.get?_push_of_some _ e)
  obtain ⟨oL, es, ep, hLg, rest⟩ := id hns
  have hns' : h₁.Ns s.heap.objs.size (lk (lo0 ps args ns)) := by
    have : lk (lo0 ps args ns) = fun x => (ps.zip args).reverse.lookup x := by
      funext y; unfold lo0; rw [lk_some, lookup_rev (List.nodup_append.mp hky).1]
    rw [this]; exact hns
  have hlt : s.heap.objs.size < h₁.objs.size := Heap.lt_size hLg
  have grow : ∀ b o, s.heap.get? b = some o → (h₁.push { cls := .type "generator", data := .fields #[.int s.gens.size 0, .str name (s.toks + (ps.zip args).length), .str qual (s.toks + (ps.zip args).length + 1)] }).get? b = some o := fun b o e => Heap.get?_push_of_some _ (hk₁ b o e)
  refine h h₁.objs.size s.gens.size [s.heap.objs.size] (.fresh (.func body (callEnv (fnOf name qual params body scope dV kV doc pm an cdv ct) s.heap.objs.size f))) _ ?_ ⟨⟨_, _, _, Heap.get?_push_size _ rfl, rfl, rfl, rfl⟩, ?_, ?_, ?_, fun a ha => ?_, ?_⟩
  · obtain ⟨oL', es', ep', hL', r'⟩ := H.fr.ns
    refine ⟨H.ok, ⟨⟨oL', es', ep', grow _ _ hL', r'⟩, fun b o e => grow _ _ (H.fr.keep b o e), H.fr.above⟩, mkNews fun a d hm => ?_, H.nd, H.ky, fun i x e => ?_, ?_, H.os⟩
    · obtain ⟨o, h1, h2, h3⟩ := H.get hm
      exact ⟨o, grow _ _ h1, h2, h3⟩
    · have e' := H.gens i x e
      have hi : i < s.gens.size := by
        rcases Nat.lt_or_ge i s.gens.size with q | q
        · exact q
        · rw [Array.getElem?_eq_none q] at e'; cases e'
      show (s.gens.push _)[i]? = some x
      rw [Array.getElem?_push_lt hi, ← e', Array.getElem?_eq_getElem hi]
    · exact AllBare.push H.bare rfl
  · show (s.gens.push _)[s.gens.size]? = _
    simp; rfl
  · rcases Nat.lt_or_ge s.gens.size c.gs.size with q | q
    · have e := H.gens s.gens.size c.gs[s.gens.size] (by simp [q])
      rw [Array.getElem?_eq_none (Nat.le_refl _)] at e; cases e
    · exact q
  · exact hb _ _ _ rfl rfl rfl rfl (hns'.keeps fun b o e => Heap.get?_push_of_some _ e)
  · obtain ⟨oL', es', ep', hL', r'⟩ := H.fr.ns
    have out : ∀ {a}, s.heap.objs.size ≤ a → a ∉ n.map (·.1) ∧ a ≠ c.L ∧ c.h₀.get? a = none := fun {a} hle => by
      refine ⟨fun q => ?_, fun q => ?_, ?_⟩
      · obtain ⟨⟨b, d⟩, hm, e⟩ := List.mem_map.mp q
        have e : b = a := e
        exact absurd (H.lt hm) (Nat.not_lt.mpr (e ▸ hle))
      · exact absurd (Heap.lt_size hL') (Nat.not_lt.mpr (q ▸ hle))
      · cases q : c.h₀.get? a with
        | none => rfl
        | some o => exact absurd (Heap.lt_size (H.fr.keep _ _ q)) (Nat.not_lt.mpr hle)
    rcases List.mem_cons.mp ha with rfl | ha
    · exact ⟨⟨_, Heap.get?_push_size _ rfl⟩, out (Nat.le_of_lt hlt)⟩
    · rw [List.mem_singleton] at ha
      subst ha
      exact ⟨⟨_, Heap.get?_push_of_some _ hLg⟩, out (Nat.le_refl _)⟩
  · rw [List.mem_singleton]; exact Nat.ne_of_gt hlt


end
section
open PySem PySem.W PySem.Calls PyProof.Rows
open PySem.W.X
theorem ok_gen {w : World} {c : Cx} (okc : Ok w c) (hr : 1 ≤ c.r) {A2 : Around} {env : Env} {Lg : Addr} (hh : A2.handled = c.A.handled) (hf : ∀ l, c.A.frames = some l → ∃ l', A2.frames = some l') (hd : A2.depth ≤ c.A.depth + 10) (hu : A2.units ≤ c.A.units + 100)
    (e1 : env.scope.kind = .function) (e2 : env.locals = Lg) (e3 : env.globals = mainGlobals) (e4 : env.builtins = builtinsNs) : ∀ h₀ gs os, Gd w h₀ → Ok w ⟨h₀, A2, Lg, env, gs, os, c.r - 1, true⟩ := fun h₀ gs os g =>
  ⟨g.1, g.2.1, hh.trans okc.hh, g.2.2, (fun q => nomatch q), (let ⟨l, hl⟩ := okc.frm; hf l hl), (by have := okc.dep; show A2.depth + 10 * (c.r - 1) ≤ 800; omega), (by have := okc.uni; show A2.units + 100 * (c.r - 1) ≤ 9000; omega), e2, e3, e4, e1⟩
theorem Hs.fresh {w : World} {A2 : Around} {env : Env} {Lg : Addr} {r : Nat} {m₀ : Lo} {s1 s' : Shared} (hns : s1.heap.Ns Lg (lk m₀)) (hky : (m₀.map (·.1)).Nodup) (ag : ∀ a ∈ [Lg], s'.heap.get? a = s1.heap.get? a) (gd : Gd w (hideAll s'.heap [Lg])) (hb : AllBare s'.gens)
    (ok : ∀ h₀ gs os, Gd w h₀ → Ok w ⟨h₀, A2, Lg, env, gs, os, r, true⟩) : Hs w ⟨hideAll s'.heap [Lg], A2, Lg, env, s'.gens, s'.os, r, true⟩ m₀ [] s' := by
  obtain ⟨oL, es, ep, hL, rr⟩ := hns
  exact ⟨ok _ _ _ gd, ⟨⟨oL, es, ep, (ag _ (by simp)).trans hL, rr⟩, fun b o q => of_hideAll _ q, hideAll_none _ (by simp)⟩, mkNews (fun a d hm => nomatch hm), List.nodup_nil, hky, fun _ _ q => q, hb, rfl⟩
theorem Hs.around {w : World} {c : Cx} {m : Lo} {n : Nw} {s : Shared} (H : Hs w c m n s) {A2 : Around} (ok : Ok w { c with A := A2 }) : Hs w { c with A := A2 } m n s := ⟨ok, H.fr, H.nw, H.nd, H.ky, H.gens, H.bare, H.os⟩

theorem envs_ex {e : List Env} {f : Option (List Env)} (h : ∃ l, f = some l) : ∃ l, pushEnvs e f = some l := by
  obtain ⟨l, rfl⟩ := h; cases e <;> exact ⟨_, rfl⟩
theorem over_ex {A : Around} {cd fs} (h : ∃ l, A.frames = some l) : ∃ l, (A.in1.over cd fs).frames = some l := envs_ex (envs_ex h)
theorem okFunc {w : World} {c : Cx} (okc : Ok w c) (hr : 1 ≤ c.r) {env : Env} {Lg : Addr} {body : List Stmt}
    (e1 : env.scope.kind = .function) (e2 : env.locals = Lg) (e3 : env.globals = mainGlobals) (e4 : env.builtins = builtinsNs) : ∀ h₀ gs os, Gd w h₀ → Ok w ⟨h₀, c.A.in1.over (.func body env) [], Lg, env, gs, os, c.r - 1, true⟩ := by
  refine ok_gen okc hr rfl (fun l hl => over_ex ⟨l, hl⟩) ?_ ?_ e1 e2 e3 e4
  · show c.A.depth + 0 + 1 ≤ _; omega
  · show c.A.units + 1 + 0 + 3 ≤ _; omega
theorem okFor {w : World} {c : Cx} (okc : Ok w c) (hr : 1 ≤ c.r) {env : Env} {Lg : Addr} {body body' : List Stmt} {tgt it kk gdd lvv p}
    (e1 : env.scope.kind = .function) (e2 : env.locals = Lg) (e3 : env.globals = mainGlobals) (e4 : env.builtins = builtinsNs) : ∀ h₀ gs os, Gd w h₀ → Ok w ⟨h₀, c.A.in1.over (.forLoop tgt it body' [] env) [.ret kk none gdd lvv (.func body env) p []], Lg, env, gs, os, c.r - 1, true⟩ := by
  refine ok_gen okc hr rfl (fun l hl => over_ex ⟨l, hl⟩) ?_ ?_ e1 e2 e3 e4
  · show c.A.depth + 1 + 0 ≤ _; omega
  · show c.A.units + 1 + 3 + 0 ≤ _; omega

theorem loop_start {w : World} {A' A1 : Around} {env : Env} {x : Str} {t : Tok} {Lg en si : Addr} {r : Nat} {cd₀ : Code} {fs₀ : List Frame} {tr : Sem PySem.Fin} {s' s4 : Shared} {pv cv : Option Value} {old : Value}
    (okL : ∀ h₀ gs os, Gd w h₀ → Ok w ⟨h₀, A'.over cd₀ fs₀, Lg, env, gs, os, r, true⟩) (gd : Gd w (hideAll s'.heap [Lg])) (H4 : Hs w ⟨hideAll s'.heap [Lg], A1, Lg, env, s'.gens, s'.os, r, true⟩ (gM x t pv false cv) (gN x t en si 0 old) s4)
    (fin : ∀ s₀ pr s c old pv cv e, GCx w (A'.over cd₀ fs₀) env Lg pr s₀ c → (∀ a ∈ pr, a ∈ [Lg, en, si]) → (e = true → ∃ tk, pv = some (.int (x.cps.size - 1 : Nat) tk)) → Hs w c (gM x t pv e cv) (gN x t en si x.cps.size old) s → SegX (model PG w) A' cd₀ tr fs₀ s (GPo w A' (esc [] x.cps.size e) pr s₀))
    (step : ∀ i d e old pv cv s c P, x.cps[i]? = some d → c.A = (A'.over cd₀ fs₀) → c.env = env → c.L = Lg → Hs w c (gM x t pv e cv) (gN x t en si i old) s →
      (e = true → ∀ T t1 t2 t3 t4 old' s2 p l k fs cd, Hs w c (gM x t (some (.int i t3)) true (some (.str ⟨#[d]⟩ t4))) ((T, .tup [.int i t1, .str (Str.ofString "\\" ++ ⟨#[d]⟩) t2]) :: gN x t en si (i + 1) old') s2 →
        (∀ c3 s3 P', c3.A = (A'.over cd₀ fs₀) → c3.env = env → c3.L = Lg → Hs w c3 (gM x t (some (.int i t3)) true (some (.str ⟨#[d]⟩ t4))) (gN x t en si (i + 1) old') s3 → (∀ s4, Hs w c3 (gM x t (some (.int i t3)) false (some (.str ⟨#[d]⟩ t4))) (gN x t en si (i + 1) old') s4 → SegX (model PG w) A' cd₀ tr fs₀ s4 P') → SegX (model PG w) A' cd (k (.send .none)) fs s3 P') →
        P (.susp (.ref T) false l k cd p fs) s2) →
      (e = false → d = 92 → ∀ t3 t4 old' s4, Hs w c (gM x t (some (.int i t3)) true (some (.str ⟨#[d]⟩ t4))) (gN x t en si (i + 1) old') s4 → SegX (model PG w) A' cd₀ tr fs₀ s4 P) →
      (e = false → d ≠ 92 → ∀ T t1 t2 t3 t4 old' s2 p l k fs cd, Hs w c (gM x t (some (.int i t3)) false (some (.str ⟨#[d]⟩ t4))) ((T, .tup [.int i t1, .str ⟨#[d]⟩ t2]) :: gN x t en si (i + 1) old') s2 →
        (∀ c3 s3 P', c3.A = (A'.over cd₀ fs₀) → c3.env = env → c3.L = Lg → Hs w c3 (gM x t (some (.int i t3)) false (some (.str ⟨#[d]⟩ t4))) (gN x t en si (i + 1) old') s3 → (∀ s4, Hs w c3 (gM x t (some (.int i t3)) false (some (.str ⟨#[d]⟩ t4))) (gN x t en si (i + 1) old') s4 → SegX (model PG w) A' cd₀ tr fs₀ s4 P') → SegX (model PG w) A' cd (k (.send .none)) fs s3 P') →
        P (.susp (.ref T) false l k cd p fs) s2) → SegX (model PG w) A' cd₀ tr fs₀ s P) : SegX (model PG w) A' cd₀ tr fs₀ s4 (GPo w A' (esc x.cps.toList 0 false) [Lg] s') :=
  loop_from (A2 := A'.over cd₀ fs₀) (G := fun s P => SegX (model PG w) A' cd₀ tr fs₀ s P) okL fin step _ 0 false s' [Lg] s4 _ old pv cv rfl (Nat.zero_le _) ⟨rfl, rfl, rfl, rfl, rfl, rfl⟩ (by simp) (fun q => nomatch q) (H4.around (okL _ _ _ gd))

theorem sx_nil {w : World} {A : Around} {P : End → Shared → Prop} {cd : Code} {fs : List Frame} {s : Shared} {env : Env} {K : Flow → Sem PySem.Fin} {H : Value → Sem PySem.Fin} {gd : Bool → Bool} {lv : List Value → List Value} (h : SegX (model PG w) A cd (K .next) fs s P) : SegX (model PG w) A cd ((execs [] env).wrap K H gd lv) fs s P := h
theorem gen_call {w : World} {c : Cx} {m : Lo} {n : Nw} {s : Shared} {x : Str} {t : Tok} {R : Result → Shared → Prop} (H : Hs w c m n s) (hr : 1 ≤ c.r)
    (h : ∀ ga g pr gs s', Hs w c m n s' → GLive w c n (esc x.cps.toList 0 false) ga g s' pr gs → R (.ok (.ret (.ref ga))) s') : codeAny (model PG w) c.A (.call (.ref 94) ⟨[.str x t], []⟩) R s := by
  refine gen_enter H (by k_is) (by k_is) [Str.ofString "addr"] [Str.ofString "pos", Str.ofString "escape", Str.ofString "ch"] [(Str.ofString "addr", some (.str x t)), (Str.ofString "pos", none), (Str.ofString "escape", none), (Str.ofString "ch", none)]
    rfl rfl (by rfl) (by rfl) (by rfl) (by decide) (by rfl) (by rfl) (by rfl) ?_ h
  intro Lg env s1 hsc hloc hglo hbui hns
  refine gok_of fun s' ag gd hb => ?_
  refine sx_func fun Hx => ?_
  have H1 := fun body => Hs.fresh hns (by show [Str.ofString "addr", Str.ofString "pos", Str.ofString "escape", Str.ofString "ch"].Nodup; decide) ag gd hb (okFunc (body := body) H.ok hr (by rw [hsc]) hloc hglo hbui)
  have hco : env.scope.isCoroutine = false := by rw [hsc]
  refine sx_cons (gx_st rfl rfl (H1 _) ?_)
  repeat walk_at "m"
  intro s2 H2
  refine sx_cons (gx_st rfl rfl H2 ?_)
  repeat walk_at "m"
  intro s3 H3
  refine sx_cons (gx_For (fun _ => rfl) rfl rfl H3 ?_)
  repeat walk_at "m"
  refine t_enumS fun en si => t_iterEnum (by walk_at "m mem") ?_
  intro s4 H4 p kk hkk
  refine loop_start (okFor H.ok hr (by rw [hsc]) hloc hglo hbui) gd H4 ?fin ?step
  case fin =>
    intro s₀ pr s5 c5 old pv cv e g hp he H5
    have hsc5 : EnvK c5 _ := (congrArg Env.scope g.env).trans hsc
    refine gx_forLoop g.A g.env H5 (t_nextEnumEnd ?_)
    intro s6 H6
    refine sx_blockNil (hkk _ _ ?_)
    have hA5 : ∀ b, c5.A = c.A.in1.over (.func b env) [] := fun b => g.A.trans rfl
    refine sx_cons (gx_If (hA5 _) g.env H6 ?_)
    repeat walk_at "m"
    intro s7 H7
    cases e with
    | false =>
      rw [if_neg (by decide)]
      exact s_end _ _ _ _ _ _ (.ok (.ret .none)) _ rfl ⟨rfl, g.gro H7⟩
    | true =>
      rw [if_pos rfl]
      obtain ⟨tk, rfl⟩ := he rfl
      refine sx_cons (gx_Yield rfl rfl rfl hco (hA5 _) g.env H7 ?_)
      repeat walk_at "m"
      intro s8 H8 p8 l8 k8 hk8
      obtain ⟨oT, hT, ⟨kq, rfl⟩, hTL, hT0⟩ := H8.get List.mem_cons_self
      refine ⟨_, _, _, kq, [], ⟨_, _, _, _, _, rfl⟩, ?_, hT, g.gro H8, by simp, by simp, ?_⟩
      · exact g.new hT0
      · intro s9 _ _ hb9
        show SegX _ _ _ (k8 (.send .none)) _ _ _
        rw [← hk8]
        exact s_end _ _ _ _ _ _ (.ok (.ret .none)) _ rfl ⟨rfl, ⟨fun _ _ _ q => q, fun _ _ q => q, hb9, rfl⟩⟩
  case step =>
    intro i d e old pv cv s5 c5 P hx hA hE hL H5 k1 k2 k3
    have hlt : i < x.cps.size := by
      rcases Nat.lt_or_ge i x.cps.size with h | h
      · exact h
      · rw [Array.getElem?_eq_none h] at hx; cases hx
    refine gx_forLoop hA hE H5 (t_nextEnum hlt fun T tk tk' d' hd' => ?_)
    obtain rfl : d = d' := by rw [hx] at hd'; exact Option.some.inj hd'
    refine t_goEnum (Up.tail Up.head) ?_
    refine t_asgTup rfl List.mem_cons_self rfl rfl ?_
    have hsc5 : EnvK c5 _ := (congrArg Env.scope hE).trans hsc
    refine t_inCons (t_asgName ?_)
    repeat walk_at "m"
    refine t_inCons (t_asgName ?_)
    repeat walk_at "m"
    refine t_inNil ?_
    intro s6 H6 Hh
    have H6 : Hs w c5 (gM x t (some (.int i tk)) e (some (.str ⟨#[d]⟩ tk'))) (gN x t en si (i + 1) (.str ⟨#[d]⟩ tk')) s6 := H6.sub (List.Sublist.cons _ (List.Sublist.refl _))
    refine sx_cons (gx_If hA hE H6 ?_)
    repeat walk_at "m"
    intro s7 H7
    cases e with
    | true =>
      rw [if_pos rfl]
      refine sx_cons (gx_Yield rfl rfl rfl hco hA hE H7 ?_)
      repeat walk_at "m"
      refine t_addS (by show 1 + 1 ≤ 2 ^ 24; decide) fun t2 => ?_
      repeat walk_at "m"
      intro s8 H8 p8 l8 k8 hk8
      refine k1 rfl _ _ _ _ _ _ s8 p8 l8 k8 _ _ H8 ?_
      intro c3 s9 P' hA3 hE3 hL3 H9 hG
      rw [← hk8]
      have hsc3 : EnvK c3 _ := (congrArg Env.scope hE3).trans hsc
      refine sx_cons (gx_st hA3 hE3 H9 ?_)
      repeat walk_at "m"
      intro s10 H10
      exact s_again _ _ _ _ _ _ _ _ rfl (hG s10 H10)
    | false =>
      rw [if_neg (by decide)]
      refine sx_cons (gx_If hA hE H7 ?_)
      repeat walk_at "m"
      intro s8 H8
      by_cases hd92 : d = 92
      · subst hd92
        rw [if_pos (by decide)]
        refine sx_cons (gx_st hA hE H8 ?_)
        repeat walk_at "m"
        intro s9 H9
        exact s_again _ _ _ _ _ _ _ _ rfl (k2 rfl rfl _ _ _ s9 H9)
      · rw [if_neg (fun q => hd92 (by have q := beq_iff_eq.mp q; have q : some d = some 92 := congrArg (fun z : Str => z.cps[0]?) q; exact Option.some.inj q))]
        refine sx_cons (gx_Yield rfl rfl rfl hco hA hE H8 ?_)
        repeat walk_at "m"
        intro s9 H9 p9 l9 k9 hk9
        refine k3 rfl hd92 _ _ _ _ _ _ s9 p9 l9 k9 _ _ H9 ?_
        intro c3 s10 P' hA3 hE3 hL3 H10 hG
        rw [← hk9]
        exact s_again _ _ _ _ _ _ _ _ rfl (hG s10 H10)


end
section
open PySem PySem.W PySem.Calls PyProof.Rows
open PySem.W.X
theorem t_forEsc {w : World} {c : Cx} {m : Lo} {n : Nw} {pos p1 p2 : Pos} {elts x1 tp body fnm arg} {x : Str} {t : Tok} {Q : Flow → Lo → Nw → Prop} (hr : 1 ≤ c.r)
    (hs : ∀ v, foldedSetIterable (.Call (.Name fnm p1) [arg] [] p2) c.env v = pure v)
    (he : eval (.Call (.Name fnm p1) [arg] [] p2) c.env = (do callWith p2 (← eval (.Name fnm p1) c.env) [] (backTo p2 (starEach [arg] c.env)) (backToKw p2 (keywordEach [] c.env))))
    (hst : starEach (arg :: []) c.env = (false, eval arg c.env) :: starEach [] c.env) (hkp : keepIn (hd.heap_1 w.params) (.ref 94) = true)
    (hn : TT w c m n (eval (.Name fnm p1) c.env) fun v m' n' => v = .ref 94 ∧ m' = m ∧ n' = n)
    (ha : TT w c m n (spliced (backTo p2 (starEach [arg] c.env))) fun vs m' n' => vs = [.str x t] ∧ m' = m ∧ n' = n)
    (I : Nat → Lo → Nw → Prop) (h0 : I 0 m n)
    (step : ∀ (i p : Nat) (q : Str) (m : Lo) (n : Nw), (esc x.cps.toList 0 false)[i]? = some (p, q) → I i m n → ∀ c', c'.env = c.env → c'.r = c.r → c'.gen = c.gen → ∀ T tk tk', TT w c' m ((T, .tup [.int p tk, .str q tk']) :: n) (assign (.Tuple elts x1 tp) c'.env (.ref T)) fun _ m1 n1 => TT w c' m1 n1 (execs body c'.env) fun f m3 n' =>
      ∃ n3, n3.Sublist n' ∧ match f with | .next | .cont => I (i + 1) m3 n3 | .brk => Q .next m3 n3 | .ret v => Q (.ret v) m3 n3)
    (fin : ∀ m n, I (esc x.cps.toList 0 false).length m n → Q .next m n) : TT w c m n (exec (.For (.Tuple elts x1 tp) (.Call (.Name fnm p1) [arg] [] p2) body [] pos) c.env) Q := fun s H E => by
  rw [exec_For]
  refine wpAny_bind (wpAny_standAt (wpAny_bind ?_))
  rw [he]
  refine wpAny_bind (wpAny_mono (hn s H E) ?_ fun _ _ x => x)
  rintro _ s1 ⟨_, _, H1, rfl, rfl, rfl⟩
  rw [hst] at ha ⊢
  refine callWith_of rfl (keeps_K hkp) (evalArgs_plain (wpAny_mono (ha s1 H1 E) ?_ fun _ _ x => x))
  rintro _ s2 ⟨_, _, H2, rfl, rfl, rfl⟩
  refine ⟨H2.X, wpAny_call (gen_call H2 hr fun ga g pr gs s3 H3 G => ?_)⟩
  show wpAny _ _ (foldedSetIterable _ _ _ >>= _) _ _ _
  rw [hs]
  refine wpAny_bind (wpAny_pure (wpAny_bind (wpAny_standAt (wpAny_bind (wpAny_holding ?_)))))
  exact wpAny_pyIter_gen G.isG (wpAny_runOwn (gen_for I H3 G h0 step fin _ fun f m' n' s' H' hq => ⟨m', n', H', hq⟩))


end
section
open PySem PySem.W PySem.Calls PyProof.Rows
theorem t_forEscH {w : World} {c : Cx} {m : Lo} {n : Nw} {pos p1 p2 : Pos} {elts x1 tp body fnm arg} {x : Str} {t : Tok} {Q : Flow → Lo → Nw → Prop} (hr : 1 ≤ c.r)
    (hs : ∀ v, foldedSetIterable (.Call (.Name fnm p1) [arg] [] p2) c.env v = pure v)
    (he : eval (.Call (.Name fnm p1) [arg] [] p2) c.env = (do callWith p2 (← eval (.Name fnm p1) c.env) [] (backTo p2 (starEach [arg] c.env)) (backToKw p2 (keywordEach [] c.env))))
    (hst : starEach (arg :: []) c.env = (false, eval arg c.env) :: starEach [] c.env) (hkp : keepIn (hd.heap_1 w.params) (.ref 94) = true)
    (hn : TT w c m n (eval (.Name fnm p1) c.env) fun v m' n' => v = .ref 94 ∧ m' = m ∧ n' = n)
    (ha : TT w c m n (spliced (backTo p2 (starEach [arg] c.env))) fun vs m' n' => vs = [.str x t] ∧ m' = m ∧ n' = n)
    (I : Nat → Lo → Nw → Prop) (h0 : I 0 m n)
    (step : ∀ (i p : Nat) (q : Str) (m : Lo) (n : Nw), (esc x.cps.toList 0 false)[i]? = some (p, q) → I i m n → ∀ c', c'.env = c.env → c'.r = c.r → c'.gen = c.gen → ∀ T tk tk', ∀ B, Hid (fun f m3 n' =>
      ∃ n3, n3.Sublist n' ∧ match f with | .next | .cont => I (i + 1) m3 n3 | .brk => Q .next m3 n3 | .ret v => Q (.ret v) m3 n3) B → TT w c' m ((T, .tup [.int p tk, .str q tk']) :: n) (assign (.Tuple elts x1 tp) c'.env (.ref T)) fun _ m1 n1 => TT w c' m1 n1 (execs body c'.env) B)
    (fin : ∀ m n, I (esc x.cps.toList 0 false).length m n → Q .next m n) : TT w c m n (exec (.For (.Tuple elts x1 tp) (.Call (.Name fnm p1) [arg] [] p2) body [] pos) c.env) Q := t_forEsc hr hs he hst hkp hn ha I h0 (fun i p q m n a b c' d e f T tk tk' => step i p q m n a b c' d e f T tk tk' _ .same) fin

end
section
open PySem.W.X
noncomputable abbrev quo : Str := Str.ofString "\""
noncomputable def stripStep (x : Str) (S : Nat × Option Nat × List Str) (it : Nat × Str) : Nat × Option Nat × List Str :=
  if it.2 == quo then match S.2.1 with
    | none => (S.1, some it.1, S.2.2)
    | some o => (it.1 + 1, none, if S.1 = o then S.2.2 else S.2.2 ++ [Txt.slice x (some S.1) (some o)])
  else S
noncomputable def stripAll (x : Str) : Nat × Option Nat × List Str := (esc x.cps.toList 0 false).foldl (stripStep x) (0, none, [])
noncomputable def strip (x : Str) : Str :=
  if (Builtin.Str.occurrences x quo 0 x.length 1).isEmpty then x else
    Txt.join (Str.ofString "") (if (stripAll x).1 < x.length then (stripAll x).2.2 ++ [Txt.slice x (some (stripAll x).1) none] else (stripAll x).2.2)
noncomputable def ovOf : Option Nat → Tok → Value
  | none, _ => .none
  | some o, t => .int o t
noncomputable abbrev sM (x : Str) (t : Tok) (st : Nat) (ts : Tok) (op : Option Nat) (to : Tok) (b : Addr) (pv cv : Option Value) : Lo := [(Str.ofString "addr", some (.str x t)), (Str.ofString "start", some (.int st ts)), (Str.ofString "open_pos", some (ovOf op to)), (Str.ofString "result", some (.ref b)), (Str.ofString "pos", pv), (Str.ofString "ch", cv)]
theorem esc_len : ∀ (l : List Nat) (i : Nat) (e : Bool), (esc l i e).length ≤ l.length + 1
  | [], i, true => by simp [esc]
  | [], i, false => by simp [esc]
  | d :: r, i, true => by have := esc_len r (i + 1) false; simp [esc]; walk_at "o"
  | d :: r, i, false => by
    have h1 := esc_len r (i + 1) false
    have h2 := esc_len r (i + 1) true
    unfold esc; split <;> simp <;> walk_at "o"
theorem strs_len {vs : List Value} {ys : List Str} (h : StrsAre vs ys) : vs.length = ys.length := by
  induction h with
  | nil => rfl
  | cons _ _ _ ih => simp [ih]
theorem strs_snoc {vs : List Value} {ys : List Str} (h : StrsAre vs ys) (y : Str) (t : Tok) : StrsAre (vs ++ [.str y t]) (ys ++ [y]) := by
  induction h with
  | nil => exact .cons y t .nil
  | cons k' t' _ ih => exact .cons k' t' ih
theorem ctr_strip {w : World} {x : Str} {t : Tok} (hl : x.length ≤ 1000) :
    CallT w 2 101 [.str x t] [] fun v new n1 => A3 (n1 = []) (new = []) (∃ t', v = .str (strip x) t') := by
  refine callT_defH (r := 1) (by k_is) (by k_is) [Str.ofString "addr"] [Str.ofString "start", Str.ofString "open_pos", Str.ofString "result", Str.ofString "pos", Str.ofString "ch"]
    [(Str.ofString "addr", some (.str x t)), (Str.ofString "start", none), (Str.ofString "open_pos", none), (Str.ofString "result", none), (Str.ofString "pos", none), (Str.ofString "ch", none)] rfl rfl (by rfl) (by rfl) (by rfl) (by decide) (by rfl) (by rfl) (by rfl) ?_
  intro c hE hr hg
  repeat walk_at "m"
  have hst : strip x = if (Builtin.Str.occurrences x quo 0 x.length 1).isEmpty then x else
    Txt.join (Str.ofString "") (if (stripAll x).1 < x.length then (stripAll x).2.2 ++ [Txt.slice x (some (stripAll x).1) none] else (stripAll x).2.2) := rfl
  cases hocc : (Builtin.Str.occurrences x (Str.ofString "\"") 0 x.length 1).isEmpty with
  | true =>
    first | refine ite_T (by rfl) ?_ | rw [if_pos (by rfl)]
    repeat walk_at "m"
    rw [if_pos hocc] at hst
    walk_at "u"; exact ⟨[], [], List.Sublist.refl _, rfl, rfl, t, by rw [hst]; rfl⟩
  | false =>
    first | refine ite_F (by decide) ?_ | rw [if_neg (by decide)]
    rw [if_neg (by rw [hocc]; decide)] at hst
    repeat ((fail_if_success (with_reducible show TT _ _ _ _ (exec (Stmt.For _ _ _ _ _) _) _)); walk_at "m")
    rename_i b
    walk_at "h"; refine t_forEscH (x := x) (t := t) (I := fun i m n => E6 fun S ts to pv cv vs => A6 (S = ((esc x.cps.toList 0 false).take i).foldl (stripStep x) (0, none, [])) (StrsAre vs S.2.2) (m = sM x t S.1 ts S.2.1 to b pv cv) (n = [(b, .list vs)]) (S.2.2.length ≤ i) (∀ y ∈ S.2.2, y.length ≤ 1000))
      hr ?hs ?he ?hst ?hkp ?hn ?ha ?h0 ?step ?fin
    case hs => exact fun _ => rfl
    case he => rfl
    case hst => rfl
    case hkp => k_is
    case hn =>
      walk_at "m"
      walk_at "u"; exact ⟨rfl, rfl, rfl⟩
    case ha =>
      repeat walk_at "m"
      walk_at "u"; exact ⟨rfl, rfl, rfl⟩
    case h0 => exact ⟨_, _, 0, _, _, [], rfl, .nil, rfl, rfl, Nat.le_refl _, fun _ h => nomatch h⟩
    case step =>
      rintro i p q m n hi ⟨S, ts, to, pv, cv, vs, hS, hv, rfl, rfl, hlen, hy⟩ c' e1 e2 e3 T tk tk'
      have hE' : EnvK c' _ := (congrArg Env.scope e1).trans hE
      have hnext : ((esc x.cps.toList 0 false).take (i + 1)).foldl (stripStep x) (0, none, []) = stripStep x S (p, q) := by
        rw [List.take_add_one, hi, List.foldl_append, ← hS]; rfl
      walk_at "h"; refine t_asgTup rfl List.mem_cons_self rfl rfl ?_
      walk_at "h"; refine t_inCons (t_asgName ?_)
      repeat walk_at "m"
      walk_at "h"; refine t_inCons (t_asgName ?_)
      repeat walk_at "m"
      walk_at "h"; refine t_inNil ?_
      repeat walk_at "m"
      obtain ⟨st, op, res⟩ := S
      cases hq : q == Str.ofString "\"" with
      | false =>
        have e : stripStep x (st, op, res) (p, q) = (st, op, res) := by unfold stripStep; rw [if_neg (by rw [hq]; decide)]
        first | refine ite_F (by decide) ?_ | rw [if_neg (by decide)]
        repeat walk_at "m"
        walk_at "u"; exact ⟨[(b, .list vs)], List.Sublist.cons _ (List.Sublist.refl _), _, ts, to, _, _, vs, rfl, by rw [hnext, e]; exact hv, by rw [hnext, e], rfl, by rw [hnext, e]; exact Nat.le_succ_of_le hlen, by rw [hnext, e]; exact hy⟩
      | true =>
        first | refine ite_T rfl ?_ | rw [if_pos rfl]
        cases op with
        | none =>
          have e : stripStep x (st, none, res) (p, q) = (st, some p, res) := by unfold stripStep; rw [if_pos hq]
          repeat walk_at "m"
          first | refine ite_T (by rfl) ?_ | rw [if_pos (by rfl)]
          repeat walk_at "m"
          walk_at "u"; exact ⟨[(b, .list vs)], List.Sublist.cons _ (List.Sublist.refl _), _, ts, tk, _, _, vs, rfl, by rw [hnext, e]; exact hv, by rw [hnext, e]; rfl, rfl, by rw [hnext, e]; exact Nat.le_succ_of_le hlen, by rw [hnext, e]; exact hy⟩
        | some o =>
          dsimp only [ovOf]
          repeat walk_at "m"
          first | refine ite_F (by intro z; cases (beq_iff_eq.mp z)) ?_ | rw [if_neg (by intro z; cases (beq_iff_eq.mp z))]
          repeat walk_at "m"
          by_cases hso : st = o
          · subst hso
            have e : stripStep x (st, some st, res) (p, q) = (p + 1, none, res) := by unfold stripStep; rw [if_pos hq]; simp
            first | refine ite_F (by simp) ?_ | rw [if_neg (by simp)]
            repeat walk_at "m"
            walk_at "u"; exact ⟨[(b, .list vs)], List.Sublist.cons _ (List.Sublist.refl _), _, _, 0, _, _, vs, rfl, by rw [hnext, e]; exact hv, by rw [hnext, e]; rfl, rfl, by rw [hnext, e]; exact Nat.le_succ_of_le hlen, by rw [hnext, e]; exact hy⟩
          · first | refine ite_T (by simpa using fun z => hso (Int.ofNat.inj z)) ?_ | rw [if_pos (by simpa using fun z => hso (Int.ofNat.inj z))]
            have e : stripStep x (st, some o, res) (p, q) = (p + 1, none, res ++ [Txt.slice x (some st) (some o)]) := by unfold stripStep; rw [if_pos hq]; simp [hso]
            have hvl : vs.length ≤ 1002 := by
              have h1 := strs_len hv
              have h2 := esc_len x.cps.toList 0 false
              have h3 : i < (esc x.cps.toList 0 false).length := by
                rcases Nat.lt_or_ge i (esc x.cps.toList 0 false).length with h | h
                · exact h
                · rw [List.getElem?_eq_none h] at hi; cases hi
              rw [Array.length_toList] at h2
              have h4 : x.cps.size ≤ 1000 := hl
              have h5 : res.length ≤ i := hlen
              have h6 : vs.length = res.length := h1
              rw [h6]
              have h7 : x.cps.size + 1 ≤ 1002 := by walk_at "o"
              exact Nat.le_trans h5 (Nat.le_trans (Nat.le_of_lt h3) (Nat.le_trans h2 h7))
            repeat walk_at "m"
            walk_at "u"; exact ⟨[(b, .list (vs ++ [_]))], List.Sublist.cons _ (List.Sublist.refl _), _, _, 0, _, _, _, rfl, by rw [hnext, e]; exact strs_snoc hv _ _, by rw [hnext, e]; rfl, rfl, by rw [hnext, e]; simp; exact hlen, by
              rw [hnext, e]
              intro y hy'
              rcases List.mem_append.mp hy' with z | z
              · exact hy y z
              · rw [List.mem_singleton] at z; subst z; exact Nat.le_trans (Txt.slice_le _ _ _) hl⟩
    case fin =>
      rintro m n ⟨S, ts, to, pv, cv, vs, hS, hv, rfl, rfl, hlen, hy⟩
      rw [List.take_length] at hS
      have hS : S = stripAll x := hS
      rw [← hS] at hst
      obtain ⟨st, op, res⟩ := S
      have hvl : vs.length ≤ 1002 := by
        have h2 := esc_len x.cps.toList 0 false
        rw [Array.length_toList] at h2
        have h4 : x.cps.size ≤ 1000 := hl
        have h5 : res.length ≤ (esc x.cps.toList 0 false).length := hlen
        have h6 : vs.length = res.length := strs_len hv
        rw [h6]
        have h7 : x.cps.size + 1 ≤ 1002 := by walk_at "o"
        exact Nat.le_trans h5 (Nat.le_trans h2 h7)
      dsimp only at hst hv hy ⊢
      repeat walk_at "m"
      have jn : ∀ {n' : Nw} {vs' : List Value} {ys : List Str} {y : Value} {Q : Value → Lo → Nw → Prop} {tt}, (b, OD.list vs') ∈ n' → StrsAre vs' ys → ys.length ≤ 1003 → (∀ y ∈ ys, y.length ≤ 1000) → (∀ t', Q (.str (Txt.join (Str.ofString "") ys) t') (sM x t st ts op to b pv cv) n') →
          TT w c (sM x t st ts op to b pv cv) n' (call (.builtin "str.join") [.str (Str.ofString "") tt, .ref b]) Q := by
        intro n' vs' ys y Q tt h1 h2 h3 h4 h5
        walk_at "h"; refine t_join (IsL.new h1) h2 ?_ h5
        have : (ys.map (·.length)).sum ≤ ys.length * 1000 := by
          clear h2 h3 h5
          induction ys with
          | nil => simp
          | cons a r ih =>
            have := ih fun y hy => h4 y (List.mem_cons_of_mem _ hy)
            have := h4 a List.mem_cons_self
            simp only [List.map_cons, List.sum_cons, List.length_cons]; walk_at "o"
        have z : (Str.ofString "").length = 0 := by decide
        rw [z]; walk_at "o"
      by_cases hlt : st < x.length
      · first | refine ite_T (by simpa using hlt) ?_ | rw [if_pos (by simpa using hlt)]
        rw [if_pos hlt] at hst
        repeat walk_at "m"
        refine jn (y := .none) List.mem_cons_self (strs_snoc hv _ _) ?_ ?_ ?_
        · have := strs_len hv; simp; walk_at "o"
        · intro y hy'
          rcases List.mem_append.mp hy' with z | z
          · exact hy y z
          · rw [List.mem_singleton] at z; subst z; exact Nat.le_trans (Txt.slice_le _ _ _) hl
        · intro t'; walk_at "u"; exact ⟨[], [], List.nil_sublist _, rfl, rfl, t', by rw [hst]; rfl⟩
      · first | refine ite_F (by simpa using hlt) ?_ | rw [if_neg (by simpa using hlt)]
        rw [if_neg hlt] at hst
        repeat walk_at "m"
        refine jn (y := .none) List.mem_cons_self hv ?_ hy ?_
        · have := strs_len hv; walk_at "o"
        · intro t'; walk_at "u"; exact ⟨[], [], List.nil_sublist _, rfl, rfl, t', by rw [hst]; rfl⟩

end
section
open PySem.W.X
noncomputable def chkFold : List (Nat × Str) → Int → Bool
  | [], o => o == 0
  | it :: r, o => if it.2 == Str.ofString "(" then chkFold r (o + 1) else if it.2 == Str.ofString ")" then (if o - 1 < 0 then false else chkFold r (o - 1)) else chkFold r o
theorem chk_cons (p : Nat) (q : Str) (r : List (Nat × Str)) (o : Int) : chkFold ((p, q) :: r) o = if q == Str.ofString "(" then chkFold r (o + 1) else if q == Str.ofString ")" then (if o - 1 < 0 then false else chkFold r (o - 1)) else chkFold r o := rfl
noncomputable def check (x : Str) : Bool := chkFold (esc (strip x).cps.toList 0 false) 0
noncomputable abbrev cM (y : Str) (t : Tok) (o : Int) (ts : Tok) (pv cv : Option Value) : Lo := [(Str.ofString "addr", some (.str y t)), (Str.ofString "opens", some (.int o ts)), (Str.ofString "pos", pv), (Str.ofString "ch", cv)]
theorem ctr_check {w : World} {x : Str} {t : Tok} (hl : x.length ≤ 1000) :
    CallT w 3 108 [.str x t] [] fun v new n1 => A3 (n1 = []) (new = []) (v = .bool (check x)) := by
  refine callT_defH (r := 2) (by k_is) (by k_is) [Str.ofString "addr"] [Str.ofString "opens", Str.ofString "pos", Str.ofString "ch"]
    [(Str.ofString "addr", some (.str x t)), (Str.ofString "opens", none), (Str.ofString "pos", none), (Str.ofString "ch", none)] rfl rfl (by rfl) (by rfl) (by rfl) (by decide) (by rfl) (by rfl) (by rfl) ?_
  intro c hE hr hg
  repeat walk_at "m"
  walk_at "h"; refine t_call (ctr_strip hl) hr (fun _ h => nomatch h) (fun _ => List.nodup_nil) ?_
  rintro v new n1 ⟨rfl, rfl, t', rfl⟩
  walk_at "u"; refine ⟨[], Sub.nil, ?_⟩
  repeat ((fail_if_success (with_reducible show TT _ _ _ _ (exec (Stmt.For _ _ _ _ _) _) _)); walk_at "m")
  walk_at "h"; refine t_forEscH (x := strip x) (t := t') (I := fun i m n => E4 fun o ts pv cv => A3 (chkFold (esc (strip x).cps.toList 0 false) 0 = chkFold ((esc (strip x).cps.toList 0 false).drop i) o) (m = cM (strip x) t' o ts pv cv) (n = []))
      (by walk_at "o") ?hs ?he ?hst ?hkp ?hn ?ha ?h0 ?step ?fin
  case hs => exact fun _ => rfl
  case he => rfl
  case hst => rfl
  case hkp => k_is
  case hn =>
    walk_at "m"
    walk_at "u"; exact ⟨rfl, rfl, rfl⟩
  case ha =>
    repeat walk_at "m"
    walk_at "u"; exact ⟨rfl, rfl, rfl⟩
  case h0 => exact ⟨0, _, _, _, rfl, rfl, rfl⟩
  case step =>
    rintro i p q m n hi ⟨o, ts, pv, cv, hf, rfl, rfl⟩ c' e1 e2 e3 T tk tk'
    have hE' : EnvK c' _ := (congrArg Env.scope e1).trans hE
    have hlt : i < (esc (strip x).cps.toList 0 false).length := by
      rcases Nat.lt_or_ge i (esc (strip x).cps.toList 0 false).length with h | h
      · exact h
      · rw [List.getElem?_eq_none h] at hi; cases hi
    rw [List.drop_eq_getElem_cons hlt, (List.getElem?_eq_some_iff.mp hi).2] at hf
    walk_at "h"; refine t_asgTup rfl List.mem_cons_self rfl rfl ?_
    walk_at "h"; refine t_inCons (t_asgName ?_)
    repeat walk_at "m"
    walk_at "h"; refine t_inCons (t_asgName ?_)
    repeat walk_at "m"
    walk_at "h"; refine t_inNil ?_
    repeat walk_at "m"
    rw [chk_cons] at hf
    cases hq : q == Str.ofString "(" with
    | true =>
      first | refine ite_T rfl ?_ | rw [if_pos rfl]
      rw [hq, if_pos rfl] at hf
      repeat walk_at "m"
      walk_at "u"; exact ⟨[], List.nil_sublist _, _, _, _, _, hf, rfl, rfl⟩
    | false =>
      first | refine ite_F (by decide) ?_ | rw [if_neg (by decide)]
      rw [hq, if_neg (by decide)] at hf
      repeat walk_at "m"
      cases hq2 : q == Str.ofString ")" with
      | true =>
        first | refine ite_T rfl ?_ | rw [if_pos rfl]
        rw [hq2, if_pos rfl] at hf
        repeat walk_at "m"
        by_cases ho : o - 1 < 0
        · first | refine ite_T (by simpa using ho) ?_ | rw [if_pos (by simpa using ho)]
          rw [if_pos ho] at hf
          repeat walk_at "m"
          walk_at "u"; refine ⟨[], List.nil_sublist _, ?_⟩; walk_at "u"; exact ⟨[], [], List.nil_sublist _, rfl, rfl, by unfold check; rw [hf]; rfl⟩
        · first | refine ite_F (by simpa using ho) ?_ | rw [if_neg (by simpa using ho)]
          rw [if_neg ho] at hf
          repeat walk_at "m"
          walk_at "u"; exact ⟨[], List.nil_sublist _, _, _, _, _, hf, rfl, rfl⟩
      | false =>
        first | refine ite_F (by decide) ?_ | rw [if_neg (by decide)]
        rw [hq2, if_neg (by decide)] at hf
        repeat walk_at "m"
        walk_at "u"; exact ⟨[], List.nil_sublist _, _, _, _, _, hf, rfl, rfl⟩
  case fin =>
    rintro m n ⟨o, ts, pv, cv, hf, rfl, rfl⟩
    rw [List.drop_length] at hf
    repeat walk_at "m"
    walk_at "u"; exact ⟨[], [], List.nil_sublist _, rfl, rfl, by unfold check; rw [hf]; rfl⟩

end
section
noncomputable def wsBump (count : List Int) (b : Nat) : List Int :=
  let c' := if count.length ≤ b then count ++ List.replicate (b - count.length + 1) 0 else count
  c'.set b (c'.getD b 0 + 1)
noncomputable def wsRun : List Nat → List Int → Nat → Nat → Nat → List Int × Nat × Nat × Nat
  | [], count, b, n, nt => (count, b, n, nt)
  | d :: r, count, b, n, nt => if d = 32 then wsRun r count (b + 1) (n + 1) nt else if d = 9 then wsRun r (wsBump count b) 0 (n + 1) (nt + 1) else (count, b, n, nt)
noncomputable def wsOf (x : Str) := wsRun x.cps.toList [] 0 0 0
theorem wsRun_cons (d : Nat) (r : List Nat) (count : List Int) (b n nt : Nat) : wsRun (d :: r) count b n nt = if d = 32 then wsRun r count (b + 1) (n + 1) nt else if d = 9 then wsRun r (wsBump count b) 0 (n + 1) (nt + 1) else (count, b, n, nt) := rfl
theorem env_eq {c : Cx} {sc : Scope} (hE : EnvK c sc) : c.env = { c.env with scope := sc } := by
  rw [← (hE : c.env.scope = sc)]
theorem one_eq (d e : Nat) : ((⟨#[d]⟩ : Str) == ⟨#[e]⟩) = decide (d = e) := by
  by_cases h : d = e
  · subst h; simp
  · rw [decide_eq_false h]
    cases q : ((⟨#[d]⟩ : Str) == ⟨#[e]⟩) with
    | false => rfl
    | true => have q := beq_iff_eq.mp q; injection q with q; simp at q; exact absurd q h
noncomputable abbrev wsM (a : Addr) (x : Str) (t : Tok) (ca : Addr) (b n nt : Nat) (tb tn tt : Tok) (ch : Option Value) : Lo := [(Str.ofString "self", some (.ref a)), (Str.ofString "ws", some (.str x t)), (Str.ofString "S", some (Value.str (Str.ofString " ") 209)), (Str.ofString "T", some (Value.str (Str.ofString "\t") 210)),
  (Str.ofString "count", some (.ref ca)), (Str.ofString "b", some (.int b tb)), (Str.ofString "n", some (.int n tn)), (Str.ofString "nt", some (.int nt tt)), (Str.ofString "ch", ch)]
theorem wsBump_len (count : List Int) (b : Nat) : (wsBump count b).length = max count.length (b + 1) := by
  unfold wsBump; dsimp only; split <;> simp <;> walk_at "o"
theorem ints_set {vs : List Value} {ns : List Int} (h : IntsAre vs ns) (j : Nat) (k : Int) (t : Tok) : IntsAre (vs.set j (.int k t)) (ns.set j k) := by
  induction h generalizing j with
  | nil => exact .nil
  | cons k' t' _ ih =>
    cases j with
    | zero => exact .cons k t (by assumption)
    | succ j => exact .cons k' t' (ih j)
theorem ints_at {vs : List Value} {ns : List Int} (h : IntsAre vs ns) : ∀ {i : Nat}, i < ns.length → ∃ tk, vs[i]? = some (.int (ns.getD i 0) tk) := by
  induction h with
  | nil => intro i h; simp at h
  | cons k t _ ih =>
    intro i h
    cases i with
    | zero => exact ⟨t, rfl⟩
    | succ i => obtain ⟨tk, e⟩ := ih (i := i) (by simpa using h); exact ⟨tk, by simpa using e⟩
theorem ints_rep (k : Nat) (t : Tok) : IntsAre (List.replicate k [Value.int 0 t]).flatten (List.replicate k 0) := by
  induction k with
  | zero => exact .nil
  | succ k ih => rw [List.replicate_succ, List.replicate_succ, List.flatten_cons]; exact .cons 0 t ih
theorem t_mulZ {w : World} {c : Cx} {m : Lo} {n : Nw} {a k u tk} {Q : Value → Lo → Nw → Prop} (ha : (a, OD.list [.int 0 tk]) ∈ n) (hlo : -(2 ^ 63 : Int) ≤ k) (hhi : k < 2 ^ 20) (h : ∀ r W, IntsAre W (List.replicate k.toNat 0) → Q (.ref r) m ((r, .list W) :: n)) : TT w c m n (binaryOp .Mult (.ref a) (.int k u)) Q :=
  t_mulL ha hlo (by walk_at "o") (by simp; walk_at "o") fun r => h r _ (ints_rep _ _)
theorem ints_app {vs ws : List Value} {ns ms : List Int} (h : IntsAre vs ns) (g : IntsAre ws ms) : IntsAre (vs ++ ws) (ns ++ ms) := by
  induction h with
  | nil => exact g
  | cons k t _ ih => exact .cons k t ih
noncomputable def wsObj (x : Str) (t : Tok) (es : List (Str × Value)) (N : Addr) : Prop := ∃ tn tt bq, es = [(Str.ofString "raw", .str x t), (Str.ofString "n", .int (wsOf x).2.2.1 tn), (Str.ofString "nt", .int (wsOf x).2.2.2 tt), (Str.ofString "norm", .ref N), (Str.ofString "is_simple", .bool bq)]
theorem ctr_ws {w : World} {x : Str} {t : Tok} (hl : x.length ≤ 1000) {a dx : Addr} :
    CallT w 1 38 [.ref a, .str x t] [(a, .inst 83 dx), (dx, .ns [])] fun v new n1 => A2 (v = .none) (E5 fun es N k cs tb => A4 (wsObj x t es N) (n1 = [(a, .inst 83 dx), (dx, .ns es)]) (new = [(N, .tup [.ref k, .int (wsOf x).2.1 tb]), (k, .tup cs)]) (IntsAre cs (wsOf x).1)) := by
  refine callT_defH (r := 0) (by k_is) (by k_is) [Str.ofString "self", Str.ofString "ws"] [Str.ofString "S", Str.ofString "T", Str.ofString "count", Str.ofString "b", Str.ofString "n", Str.ofString "nt", Str.ofString "ch"]
    [(Str.ofString "self", some (.ref a)), (Str.ofString "ws", some (.str x t)), (Str.ofString "S", none), (Str.ofString "T", none), (Str.ofString "count", none), (Str.ofString "b", none), (Str.ofString "n", none), (Str.ofString "nt", none), (Str.ofString "ch", none)] rfl rfl (by rfl) (by rfl) (by rfl) (by decide) (by rfl) (by rfl) (by rfl) ?_
  intro c hE hr hg
  repeat walk_at "m"
  walk_at "h"; refine t_AsgSwap (names := [Str.ofString "S", Str.ofString "T"]) rfl (by rw [env_eq hE]; rfl) ?_
  repeat walk_at "m"
  walk_at "m swap"
  walk_at "m swap"
  repeat walk_at "m"
  walk_at "m swap"
  repeat walk_at "m"
  walk_at "m swap"
  repeat walk_at "mf"
  rename_i tup0 ca t0
  dsimp only [putE]
  walk_at "h"; refine t_via (Q := fun f m' n' => f = .next ∧ E10 fun ca cs count b n nt tb tn tt ch => A5 (wsOf x = (count, b, n, nt)) (IntsAre cs count) (cs.length ≤ 2000) (m' = wsM a x t ca b n nt tb tn tt ch) (Pick [(ca, .list cs), (a, OD.inst 83 dx), (dx, OD.ns [(Str.ofString "raw", Value.str x t)])] n')) ?loop ?rest
  case loop =>
    repeat walk_at "m"
    walk_at "h"; refine t_iterS fun it => ?_
    walk_at "h"; refine ct_pick (n' := [(it, _), (ca, OD.list []), (a, OD.inst 83 dx), (dx, OD.ns [(Str.ofString "raw", Value.str x t)])]) (by walk_at "m pick") ?_
    walk_at "h"; refine ct_forPH (nexts_S (y := x)) (fun i m n => E10 fun ca cs count b n_ nt tb tn tt ch => A6 (wsOf x = wsRun (x.cps.toList.drop i) count b n_ nt) (IntsAre cs count) (count.length ≤ i) (b ≤ i) (m = wsM a x t ca b n_ nt tb tn tt ch) (n = [(ca, .list cs), (a, OD.inst 83 dx), (dx, OD.ns [(Str.ofString "raw", Value.str x t)])])) ?_ ?h0 ?step ?fin
    case h0 => exact ⟨ca, [], [], 0, 0, 0, _, _, _, _, rfl, .nil, Nat.zero_le _, Nat.zero_le _, rfl, rfl⟩
    · exact fun _ _ _ _ => trivial
    case step =>
      rintro i v new m n hi ⟨ca, cs, count, b, n_, nt, tb, tn, tt, ch, h1, h2, h3, h4, rfl, rfl⟩ ⟨rfl, d, t', hd, rfl⟩ q _
      have hdrop : x.cps.toList.drop i = d :: x.cps.toList.drop (i + 1) := by
        rw [List.drop_eq_getElem_cons (by simpa using hi)]
        congr 1
        have := Array.getElem?_eq_getElem hi
        rw [this] at hd
        simpa using hd
      rw [hdrop, wsRun_cons] at h1
      have hcl := h2.length
      have hil : i < 1000 := Nat.lt_of_lt_of_le hi hl
      have hsz : cs.length ≤ 1000 := by walk_at "o"
      walk_at "n"
      repeat walk_at "m"
      rw [show ((⟨#[d]⟩ : Str) == Str.ofString " ") = decide (d = 32) from one_eq d 32]
      by_cases hd1 : d = 32
      · first | refine ite_dT hd1 ?_ | rw [decide_eq_true hd1, if_pos rfl]
        rw [if_pos hd1] at h1
        repeat walk_at "m"
        walk_at "u"; exact ⟨_, Pick.all, ca, cs, count, b + 1, n_ + 1, nt, _, _, tt, _, h1, h2, by walk_at "o", by walk_at "o", rfl, rfl⟩
      · first | refine ite_dF hd1 ?_ | rw [decide_eq_false hd1, if_neg (by decide)]
        rw [if_neg hd1] at h1
        repeat walk_at "m"
        rw [show ((⟨#[d]⟩ : Str) == Str.ofString "\t") = decide (d = 9) from one_eq d 9]
        by_cases hd2 : d = 9
        · first | refine ite_dT hd2 ?_ | rw [decide_eq_true hd2, if_pos rfl]
          rw [if_pos hd2] at h1
          repeat walk_at "m"
          by_cases hb : count.length ≤ b
          · first | refine ite_T (by simp; walk_at "o") ?_ | rw [if_pos (by simp; walk_at "o")]
            repeat walk_at "m"
            walk_at "h"; refine t_mulZ (by walk_at "m mem") (by walk_at "o") (by walk_at "o") fun r W hW => ?_
            repeat walk_at "m"
            rw [show ((b : Int) - cs.length + 1).toNat = b - count.length + 1 from by walk_at "o"] at hW
            have hI := ints_app h2 hW
            have hb2 : b < (count ++ List.replicate (b - count.length + 1) 0).length := by simp; walk_at "o"
            have hrl := hW.length
            rw [List.length_replicate] at hrl
            walk_at "h"; refine t_addL (by walk_at "m mem") (by walk_at "m mem") (by rw [hrl]; have : sizeLine = 2 ^ 24 := rfl; walk_at "o") fun r2 => ?_
            obtain ⟨tk, hat⟩ := ints_at hI (i := b) hb2
            have hI2 := hI.length
            repeat walk_at "m"
            walk_at "h"; refine t_tailL rfl (by walk_at "m isl") (by walk_at "o") (by walk_at "o") (by simpa using hat) ?_
            repeat walk_at "m"
            have e : wsBump count b = (count ++ List.replicate (b - count.length + 1) 0).set b ((count ++ List.replicate (b - count.length + 1) 0).getD b 0 + 1) := by unfold wsBump; rw [if_pos hb]
            simp only [Int.toNat_natCast]
            refine' ⟨_, ?pk, r2, _, wsBump count b, 0, n_ + 1, nt + 1, _, _, _, _, h1, ?ii, ?jj, Nat.zero_le _, rfl, rfl⟩
            case pk => walk_at "m pick"
            case ii => rw [e]; simpa using ints_set hI b _ _
            case jj => rw [wsBump_len]; walk_at "o"
          · first | refine ite_F (by simp; walk_at "o") ?_ | rw [if_neg (by simp; walk_at "o")]
            obtain ⟨tk, hat⟩ := ints_at h2 (i := b) (by walk_at "o")
            repeat walk_at "m"
            walk_at "h"; refine t_tailL rfl (by walk_at "m isl") (by walk_at "o") (by walk_at "o") (by simpa using hat) ?_
            repeat walk_at "m"
            have e : wsBump count b = count.set b (count.getD b 0 + 1) := by unfold wsBump; rw [if_neg hb]
            walk_at "u"; exact ⟨_, Pick.all, ca, _, wsBump count b, 0, n_ + 1, nt + 1, _, _, _, _, h1, by rw [e]; simpa using ints_set h2 b _ _, by rw [wsBump_len]; walk_at "o", by walk_at "o", rfl, rfl⟩
        · first | refine ite_dF hd2 ?_ | rw [decide_eq_false hd2, if_neg (by decide)]
          rw [if_neg hd2] at h1
          repeat walk_at "m"
          try dsimp only
          walk_at "u"; refine ⟨_, Pick.all, ?_⟩
          walk_at "u"; exact ⟨rfl, ca, cs, count, b, n_, nt, tb, tn, tt, _, h1, h2, by walk_at "o", rfl, Pick.all⟩
    case fin =>
      rintro m n ⟨ca, cs, count, b, n_, nt, tb, tn, tt, ch, h1, h2, h3, h4, rfl, rfl⟩
      walk_at "u"; refine ⟨rfl, ca, cs, count, b, n_, nt, tb, tn, tt, ch, ?_, h2, ?_, rfl, Pick.all⟩
      · rw [h1, List.drop_eq_nil_of_le (by simp)]; rfl
      · have := h2.length; have := hl; have e : x.length = x.cps.size := rfl; walk_at "o"
  case rest =>
    rintro _ m' n' ⟨rfl, ca, cs, count, b, n, nt, tb, tn, tt, ch, h1, h2, h3, rfl, hs⟩
    walk_at "h"; refine t_pick hs ?_
    repeat walk_at "m"
    rename_i kk N _ _
    refine' ⟨[(N, .tup [.ref kk, .int b tb]), (kk, .tup cs)], [(a, .inst 83 dx), (dx, .ns _)], ?s, rfl, _, N, kk, cs, tb, ⟨tn, tt, _, ?e⟩, rfl, ?f, ?g⟩
    case s => (simp only [List.cons_append, List.nil_append]; walk_at "m subl")
    case e => rw [h1]; rfl
    case f => rw [h1]
    case g => rw [h1]; exact h2

end
section
noncomputable abbrev wsNw (a dx : Addr) (es : List (Str × Value)) (N k : Addr) (cs : List Value) (b : Nat) (tb : Tok) : Nw := [(N, .tup [.ref k, .int b tb]), (k, .tup cs), (a, .inst 83 dx), (dx, .ns es)]
theorem nat_beq (p q : Nat) : ((p : Int) == (q : Int)) = (p == q) := by rw [Bool.eq_iff_iff]; simp only [beq_iff_eq]; walk_at "o"
theorem ctr_equal {w : World} {x y : Str} {t u : Tok} {a dx N k b dy N' k' : Addr} {es es' : List (Str × Value)} {cs cs' : List Value} {tb tb' : Tok} (h1 : wsObj x t es N) (h2 : wsObj y u es' N') (i1 : IntsAre cs (wsOf x).1) (i2 : IntsAre cs' (wsOf y).1) :
    CallT w 1 59 [.ref a, .ref b] (wsNw a dx es N k cs (wsOf x).2.1 tb ++ wsNw b dy es' N' k' cs' (wsOf y).2.1 tb') fun v new n1 => A3 (new = []) (n1 = wsNw a dx es N k cs (wsOf x).2.1 tb ++ wsNw b dy es' N' k' cs' (wsOf y).2.1 tb') (v = .bool (decide ((wsOf x).1 = (wsOf y).1) && ((wsOf x).2.1 == (wsOf y).2.1))) := by
  refine callT_def (r := 0) (by k_is) (by k_is) [Str.ofString "self", Str.ofString "other"] [] [(Str.ofString "self", some (.ref a)), (Str.ofString "other", some (.ref b))] rfl rfl (by rfl) (by rfl) (by rfl) (by decide) (by rfl) (by rfl) (by rfl) ?_
  intro c hE hr hg
  obtain ⟨tn, tt, bq, rfl⟩ := h1
  obtain ⟨tn', tt', bq', rfl⟩ := h2
  rw [List.cons_append, List.cons_append, List.cons_append, List.cons_append, List.nil_append]
  repeat walk_at "m"
  refine t_eqNorm (by walk_at "m mem") (by walk_at "m mem") (by walk_at "m mem") (by walk_at "m mem") i1 i2 ?_
  repeat walk_at "m"
  refine ⟨[], _, List.Sublist.refl _, rfl, rfl, ?_⟩
  show Value.bool (decide ((wsOf x).1 = (wsOf y).1) && (((wsOf x).2.1 : Nat) : Int) == (((wsOf y).2.1 : Nat) : Int)) = _
  rw [nat_beq]
/-- Whitespace(x) -/
theorem ctr_Ws {w : World} {x : Str} {t : Tok} (hl : x.length ≤ 1000) : CallT w 2 83 [.str x t] [] fun v new n1 => A2 (n1 = []) (E7 fun a dx es N k cs tb => A4 (v = .ref a) (new = wsNw a dx es N k cs (wsOf x).2.1 tb) (wsObj x t es N) (IntsAre cs (wsOf x).1)) := by
  refine callT_cls (r := 1) (fI := 38) (by k_is) (by k_is) (by k_is) fun a dx => ?_
  refine callT_mono (ctr_ws hl) (Nat.le_refl _) ?_
  rintro v new n1 ⟨rfl, es, N, k, cs, tb, h1, rfl, rfl, h2⟩
  exact ⟨rfl, es, [], rfl, rfl, a, dx, es, N, k, cs, tb, rfl, rfl, h1, h2⟩

end
section
noncomputable abbrev lxE (L : Int) (tl : Tok) (st : Value) (tw : Tok) (pb : Addr) : List (Str × Value) := [(Str.ofString "lineno", .int L tl), (Str.ofString "instream", st), (Str.ofString "whitespace", .str (Str.ofString "\n\t\r ") tw), (Str.ofString "pushback", .ref pb)]
theorem ctr_lxinit {w : World} {v : Value} {a dx : Addr} (hv : handedIn v = true) :
    CallT w 1 122 [.ref a, v] [(a, .inst 146 dx), (dx, .ns [])] fun r new n1 => r = .none ∧ ∃ pb tl tw, n1 = [(a, .inst 146 dx), (dx, .ns (lxE 1 tl v tw pb))] ∧ new = [(pb, .list [])] := by
  refine callT_defH (r := 0) (by k_is) (by k_is) [Str.ofString "self", Str.ofString "fp"] [] [(Str.ofString "self", some (.ref a)), (Str.ofString "fp", some v)] rfl rfl (by rfl) (by rfl) (by rfl) (by decide) (by rfl) (by rfl) (by rfl) ?_
  intro c hE hr hg
  repeat walk_at "m"
  rename_i pb
  walk_at "u"; exact ⟨[(pb, .list [])], _, List.Sublist.refl _, rfl, pb, _, _, rfl, rfl⟩
theorem ctr_lex {w : World} {v : Value} (hv : handedIn v = true) : CallT w 2 146 [v] [] fun r new n1 => n1 = [] ∧ ∃ a dx pb tl tw, r = .ref a ∧ new = [(pb, .list []), (a, .inst 146 dx), (dx, .ns (lxE 1 tl v tw pb))] := by
  refine callT_cls (r := 1) (fI := 122) (by k_is) (by k_is) (by k_is) fun a dx => ?_
  refine callT_mono (ctr_lxinit hv) (Nat.le_refl _) ?_
  rintro v new n1 ⟨rfl, pb, tl, tw, rfl, rfl⟩
  walk_at "u"; exact ⟨rfl, _, [], rfl, rfl, a, dx, pb, tl, tw, rfl, rfl⟩
theorem ctr_push {w : World} {v : Value} {a dx pb : Addr} {L : Int} {tl tw : Tok} {st : Value} {vs : List Value} (hl : vs.length ≤ 1000) :
    CallT w 1 143 [.ref a, v] [(a, .inst 146 dx), (dx, .ns (lxE L tl st tw pb)), (pb, .list vs)] fun r new n1 => r = .none ∧ new = [] ∧ n1 = [(a, .inst 146 dx), (dx, .ns (lxE L tl st tw pb)), (pb, .list (vs ++ [v]))] := by
  refine callT_defH (r := 0) (by k_is) (by k_is) [Str.ofString "self", Str.ofString "token"] [] [(Str.ofString "self", some (.ref a)), (Str.ofString "token", some v)] rfl rfl (by rfl) (by rfl) (by rfl) (by decide) (by rfl) (by rfl) (by rfl) ?_
  intro c hE hr hg
  repeat walk_at "m"
  walk_at "u"; exact ⟨[], _, List.Sublist.refl _, rfl, rfl, rfl⟩
/-- what the stream's read is shown to do -/
noncomputable abbrev strNw (st sdx lam cc cell left : Addr) (ses : List (Str × Value)) (ol oc : Obj) (vs : List Value) : Nw := [(st, .inst 146 sdx), (sdx, .ns ses), (lam, .raw ol), (cc, .raw oc), (cell, .cell (some (.ref left))), (left, .list vs)]
structure Stream (w : World) (lam cc cell left : Addr) (ses : List (Str × Value)) (ol oc : Obj) : Prop where
  read : getE (Str.ofString "read") ses = some (.ref lam)
  fn : ∃ c0 od fd sl, ol = ⟨c0, od, .func fd, sl⟩
  call : ∀ (ds : List Nat) (vs : List Value) (t : Tok), StrsAre vs (ds.map one) → ds.length ≤ 1000 → CallT w 2 lam [.int 1 t] [(lam, .raw ol), (cc, .raw oc), (cell, .cell (some (.ref left))), (left, .list vs)] fun v new n1 => A2 (new = []) (∃ t', v = .str ⟨(ds.take 1).toArray⟩ t' ∧ n1 = [(lam, .raw ol), (cc, .raw oc), (cell, .cell (some (.ref left))), (left, .list vs.tail)])
noncomputable abbrev allNw (a dx : Addr) (L : Int) (tl tw : Tok) (pb st sdx lam cc cell left : Addr) (ses : List (Str × Value)) (ol oc : Obj) (vs : List Value) : Nw :=
  (a, .inst 146 dx) :: (dx, .ns (lxE L tl (.ref st) tw pb)) :: strNw st sdx lam cc cell left ses ol oc vs
theorem ctr_read {w : World} {a dx pb st sdx lam cc cell left : Addr} {L : Int} {tl tw : Tok} {ses : List (Str × Value)} {ol oc : Obj} {ds : List Nat} {vs : List Value} (S : Stream w lam cc cell left ses ol oc) (hv : StrsAre vs (ds.map one)) (hl : ds.length ≤ 1000) :
    CallT w 3 129 [.ref a] (allNw a dx L tl tw pb st sdx lam cc cell left ses ol oc vs) fun v new n1 => A2 (new = []) (E2 fun t' tl' => A2 (v = .str ⟨(ds.take 1).toArray⟩ t') (n1 = allNw a dx (L + ((ds.take 1).count 10 : Nat)) tl' tw pb st sdx lam cc cell left ses ol oc vs.tail)) := by
  refine callT_defH (r := 2) (by k_is) (by k_is) [Str.ofString "self"] [Str.ofString "ch"] [(Str.ofString "self", some (.ref a)), (Str.ofString "ch", none)] rfl rfl (by rfl) (by rfl) (by rfl) (by decide) (by rfl) (by rfl) (by rfl) ?_
  intro c hE hr hg
  repeat walk_at "m"
  walk_at "h"; refine t_gmOwn (by walk_at "m mem") (by walk_at "m mem") S.read (by k_is) (by k_is) (by k_is) rfl ?_
  walk_at "h"; refine t_cwF rfl rfl ?_
  obtain ⟨c0, od, fd, sl, rfl⟩ := S.fn
  repeat walk_at "m"
  walk_at "u"; refine ⟨⟨c0, od, fd, sl, by walk_at "m mem"⟩, ?_⟩
  walk_at "h"; refine t_callP (S.call ds vs _ hv hl) hr (by walk_at "m pick") ?_
  rintro v new n1 ⟨rfl, t', rfl, rfl⟩
  walk_at "u"; refine ⟨_, by walk_at "m sub", ?_⟩
  walk_at "n"
  repeat walk_at "m"
  cases ds with
  | nil =>
    rw [show ((⟨(([] : List Nat).take 1).toArray⟩ : Str) == Str.ofString "\n") = false from by decide +kernel, if_neg (by decide)]
    repeat walk_at "m"
    walk_at "u"; exact ⟨[], _, List.Sublist.refl _, rfl, t', tl, rfl, by simp⟩
  | cons d r =>
    rw [show ((⟨((d :: r).take 1).toArray⟩ : Str) == Str.ofString "\n") = decide (d = 10) from one_eq d 10]
    by_cases hd : d = 10
    · subst hd
      first | refine ite_dT rfl ?_ | rw [decide_eq_true rfl, if_pos rfl]
      repeat walk_at "m"
      refine' ⟨[], _, List.Sublist.refl _, rfl, t', _, rfl, ?e⟩
      case e => rw [show ((10 :: r).take 1).count 10 = 1 from by simp]; rfl
    · first | refine ite_dF hd ?_ | rw [decide_eq_false hd, if_neg (by decide)]
      repeat walk_at "m"
      walk_at "u"; refine ⟨[], _, List.Sublist.refl _, rfl, t', tl, rfl, ?_⟩
      have : ((d :: r).take 1).count 10 = 0 := by simp [List.count_cons, hd]
      rw [this]; simp

end
section
open PySem.W.X
noncomputable def isWs (d : Nat) : Bool := d == 10 || d == 9 || d == 13 || d == 32
noncomputable def tokQ : List Nat → List Nat → List Nat × List Nat
  | [], tk => (tk, [])
  | d :: r, tk => if d = 34 then (tk, r) else if d = 92 then (match r with | [] => (tk, []) | e :: r' => tokQ r' (tk ++ [e])) else tokQ r (tk ++ [d])
noncomputable def tokB : List Nat → List Nat → List Nat × List Nat
  | [], tk => (tk, [])
  | d :: r, tk => if isWs d then (tk, r) else if d = 92 then (match r with | [] => (tk, []) | e :: r' => tokB r' (tk ++ [e])) else tokB r (tk ++ [d])
noncomputable def tokO : List Nat → List Nat × List Nat
  | [] => ([], [])
  | d :: r => if isWs d then tokO r else if d = 34 then tokQ r [] else if d = 92 then (match r with | [] => ([], []) | e :: r' => tokB r' [e]) else tokB r [d]
theorem tokQ_cons (d : Nat) (r tk : List Nat) : tokQ (d :: r) tk = if d = 34 then (tk, r) else if d = 92 then (match r with | [] => (tk, []) | e :: r' => tokQ r' (tk ++ [e])) else tokQ r (tk ++ [d]) := by cases r <;> rfl
theorem tokB_cons (d : Nat) (r tk : List Nat) : tokB (d :: r) tk = if isWs d then (tk, r) else if d = 92 then (match r with | [] => (tk, []) | e :: r' => tokB r' (tk ++ [e])) else tokB r (tk ++ [d]) := by cases r <;> rfl
theorem tokO_cons (d : Nat) (r : List Nat) : tokO (d :: r) = if isWs d then tokO r else if d = 34 then tokQ r [] else if d = 92 then (match r with | [] => ([], []) | e :: r' => tokB r' [e]) else tokB r [d] := by cases r <;> rfl
set_option maxHeartbeats 2000000 in
theorem ctr_tok1 {w : World} {a dx pb : Addr} {L : Int} {tl tw : Tok} {st v : Value} {vs : List Value} (hl : vs.length ≤ 1000) :
    CallT w 1 136 [.ref a] [(a, .inst 146 dx), (dx, .ns (lxE L tl st tw pb)), (pb, .list (v :: vs))] fun r new n1 => r = v ∧ new = [] ∧ n1 = [(a, .inst 146 dx), (dx, .ns (lxE L tl st tw pb)), (pb, .list vs)] := by
  refine callT_defH (r := 0) (by k_is) (by k_is) [Str.ofString "self"] [Str.ofString "token", Str.ofString "fiter", Str.ofString "ch"] [(Str.ofString "self", some (.ref a)), (Str.ofString "token", none), (Str.ofString "fiter", none), (Str.ofString "ch", none)] rfl rfl (by rfl) (by rfl) (by rfl) (by decide) (by rfl) (by rfl) (by rfl) ?_
  intro c hE hr hg
  have hs1 : (v :: vs).length ≤ sizeLine := by have : sizeLine = 2 ^ 24 := rfl; simp; walk_at "o"
  repeat walk_at "m"
  first | refine ite_T (show (!(v :: vs).isEmpty) = true from rfl) ?_ | rw [if_pos (show (!(v :: vs).isEmpty) = true from rfl)]
  repeat walk_at "m"
  refine t_pop0 (by walk_at "m up") (by have : sizeLine = 2 ^ 24 := rfl; walk_at "o") ?_
  walk_at "mu"
  exact ⟨[], _, List.Sublist.refl _, rfl, rfl, rfl⟩

theorem ws_in (d : Nat) : (!(Builtin.Str.occurrences (Str.ofString "\n\t\r ") (one d) 0 (Str.ofString "\n\t\r ").length 1).isEmpty) = isWs d := by
  rw [StrLaws.found_one]
  have e : (Str.ofString "\n\t\r ").cps.toList = [10, 9, 13, 32] := by decide +kernel
  rw [e, Bool.eq_iff_iff]
  simp [isWs, or_assoc]
theorem take1_len (u : List Nat) : (sOf (u.take 1)).length ≤ 1 := by rw [sOf_len]; simp; walk_at "o"
theorem ite_join {w : World} {c : Cx} {m : Lo} {n : Nw} {α : Type} {b : Bool} {t1 t2 : Sem α} {K : α → Lo → Nw → Prop} (P : α → Lo → Nw → Prop) (h1 : b = true → TT w c m n t1 P) (h2 : b = false → TT w c m n t2 P) (h : ∀ a m' n', P a m' n' → K a m' n') : if b = true then TT w c m n t1 K else TT w c m n t2 K := by
  cases b with
  | true => rw [if_pos rfl]; exact t_mono (h1 rfl) h
  | false => rw [if_neg (by decide)]; exact t_mono (h2 rfl) h
theorem tokQ_nil (tk : List Nat) : tokQ [] tk = (tk, []) := rfl
noncomputable abbrev tkM (a : Addr) (tk : List Nat) (tt : Tok) (ci : Addr) (ch : Option Value) : Lo := [(Str.ofString "self", some (.ref a)), (Str.ofString "token", some (.str (sOf tk) tt)), (Str.ofString "fiter", some (.ref ci)), (Str.ofString "ch", ch)]
noncomputable abbrev tkN (ci q : Addr) (cio : Obj) (a dx : Addr) (L : Int) (tl tw : Tok) (pb st sdx lam cc cell left : Addr) (ses : List (Str × Value)) (ol oc : Obj) (vs : List Value) : Nw :=
  (ci, .raw cio) :: (q, .raw (methodObj (.ref 129) (.ref a))) :: (pb, .list []) :: allNw a dx L tl tw pb st sdx lam cc cell left ses ol oc vs
theorem tok_next {w : World} {c : Cx} {m : Lo} {ci q a dx pb st sdx lam cc cell left : Addr} {L : Int} {t0 tl tw : Tok} {ses : List (Str × Value)} {ol oc : Obj} {ds : List Nat} {vs : List Value} {Q : Option Value → Lo → Nw → Prop} (S : Stream w lam cc cell left ses ol oc) (hv : StrsAre vs (ds.map one)) (hl : ds.length ≤ 1000) (hr : 5 ≤ c.r)
    (hn : ds = [] → ∀ tl', Q none m (tkN ci q ciEnd a dx L tl' tw pb st sdx lam cc cell left ses ol oc [])) (hs : ∀ d r vs', ds = d :: r → StrsAre vs' (r.map one) → ∀ t' tl', Q (some (.str (one d) t')) m (tkN ci q (ciObj q (Str.ofString "") t0) a dx (L + ([d].count 10 : Nat)) tl' tw pb st sdx lam cc cell left ses ol oc vs')) :
    TT w c m (tkN ci q (ciObj q (Str.ofString "") t0) a dx L tl tw pb st sdx lam cc cell left ses ol oc vs) (pyNext (.ref ci)) Q := by
  refine t_nextCIP (r := 3) (by walk_at "o") (by k_is) (ctr_read S hv hl) (by walk_at "m pick") ?_
  rintro v new n1 ⟨rfl, t', tl', rfl, rfl⟩
  refine ⟨_, t', rfl, _, by walk_at "m sub", ?_, ?_⟩
  · intro hne
    cases ds with
    | nil => exact absurd rfl hne
    | cons d r =>
      cases hv with
      | cons _ _ hv => exact hs d r _ rfl hv t' tl'
  · intro he
    cases ds with
    | nil =>
      cases hv
      walk_at "n"
      refine ⟨_, by walk_at "m up", ?_⟩
      have := hn rfl tl'
      simpa using this
    | cons d r => exact absurd (show (1 : Nat) = 0 from congrArg (fun z : Str => z.length) he) (by decide)

set_option maxHeartbeats 2000000 in
theorem ctr_tok2 {w : World} {a dx pb st sdx lam cc cell left : Addr} {L : Int} {tl tw : Tok} {ses : List (Str × Value)} {ol oc : Obj} {ds : List Nat} {vs : List Value} (S : Stream w lam cc cell left ses ol oc) (hv : StrsAre vs (ds.map one)) (hl : ds.length ≤ 1000) :
    CallT w 6 136 [.ref a] ((pb, .list []) :: allNw a dx L tl tw pb st sdx lam cc cell left ses ol oc vs) fun v new n1 => A2 (new = []) (E4 fun t' tl' vs' L' => A4 (v = .str (sOf (tokO ds).1) t') (StrsAre vs' ((tokO ds).2.map one)) (L' + ((tokO ds).2.count 10 : Nat) = L + (ds.count 10 : Nat)) (n1 = (pb, .list []) :: allNw a dx L' tl' tw pb st sdx lam cc cell left ses ol oc vs')) := by
  refine callT_defH (r := 5) (by k_is) (by k_is) [Str.ofString "self"] [Str.ofString "token", Str.ofString "fiter", Str.ofString "ch"] [(Str.ofString "self", some (.ref a)), (Str.ofString "token", none), (Str.ofString "fiter", none), (Str.ofString "ch", none)] rfl rfl (by rfl) (by rfl) (by rfl) (by decide) (by rfl) (by rfl) (by rfl) ?_
  intro c hE hr hg
  repeat walk_at "m"
  first | refine ite_F (by decide) ?_ | rw [if_neg (by decide)]
  repeat walk_at "mf"
  rename_i tt0 q tci ci
  refine t_via (Q := fun f m' n' => E8 fun tk rest vs' L' tl' tt ch cio => A5 (tokO ds = (tk, rest)) (StrsAre vs' (rest.map one)) (L' + (rest.count 10 : Nat) = L + (ds.count 10 : Nat)) ((f = .next ∧ m' = tkM a tk tt ci ch) ∨ f = .ret (.str (sOf tk) tt)) (n' = tkN ci q cio a dx L' tl' tw pb st sdx lam cc cell left ses ol oc vs')) ?loop ?rest
  case rest =>
    rintro f m' n' ⟨tk, rest, vs', L', tl', tt, ch, cio, h1, h2, h3, h4, rfl⟩
    rcases h4 with ⟨rfl, rfl⟩ | rfl
    · repeat walk_at "m"
      exact ⟨[], _, (List.sublist_cons_self _ _).trans (List.sublist_cons_self _ _), rfl, tt, tl', vs', L', by rw [h1]; rfl, by rw [h1]; exact h2, by rw [h1]; exact h3, rfl⟩
    · walk_at "mu"
      exact ⟨[], _, (List.sublist_cons_self _ _).trans (List.sublist_cons_self _ _), rfl, tt, tl', vs', L', by rw [h1]; rfl, by rw [h1]; exact h2, by rw [h1]; exact h3, rfl⟩
  case loop =>
    all_goals repeat walk_at "mh"
    refine t_For (fun _ => rfl) ?_
    repeat walk_at "m"
    refine t_iterCI (by walk_at "m mem") ?_
    refine ct_forH (fun k m n => (E6 fun ds' vs' L' tl' tt ch => A7 (tokO ds = tokO ds') (L' + (ds'.count 10 : Nat) = L + (ds.count 10 : Nat)) (StrsAre vs' (ds'.map one)) (ds'.length ≤ 1000) (k = ds'.length + 1) (m = tkM a [] tt ci ch) (n = tkN ci q (ciObj q (Str.ofString "") tci) a dx L' tl' tw pb st sdx lam cc cell left ses ol oc vs')) ∨
      (E5 fun tk L' tl' tt ch => A5 (tokO ds = (tk, [])) (L' = L + (ds.count 10 : Nat)) (k = 0) (m = tkM a tk tt ci ch) (n = tkN ci q ciEnd a dx L' tl' tw pb st sdx lam cc cell left ses ol oc []))) ?_ (ds.length + 1) (.inl ⟨ds, vs, L, tl, tt0, none, rfl, rfl, hv, hl, rfl, rfl, rfl⟩)
    rintro k m n (⟨ds', vs', L', tl', tt, ch, h1, h2, h3, h4, rfl, rfl, rfl⟩ | ⟨tk, L', tl', tt, ch, h1, h2, rfl, rfl, rfl⟩)
    all_goals repeat walk_at "mh"
    · refine tok_next S h3 h4 hr ?_ ?_
      · rintro rfl tl2
        repeat walk_at "m"
        exact ⟨[], [], [], L', tl2, tt, ch, _, h1, .nil, h2, .inl ⟨rfl, rfl⟩, rfl⟩
      · rintro d r vs2 rfl h5 t2 tl2
        rw [tokO_cons] at h1
        try dsimp only
        repeat walk_at "m"
        rw [ws_in]
        have hc : ∀ (e : Nat) (u : List Nat), (((e :: u).count 10 : Nat) : Int) = ([e].count 10 : Nat) + (u.count 10 : Nat) := fun e u => by rw [show e :: u = [e] ++ u from rfl, List.count_append]; walk_at "o"
        have h2' := h2
        rw [hc d r] at h2'
        have hr5 : 5 ≤ c.r := hr
        simp only [List.length_cons] at h4 ⊢
        cases hw : isWs d with
        | true =>
          rw [hw, if_pos rfl] at h1
          first | refine ite_T rfl ?_ | rw [if_pos rfl]
          repeat walk_at "m"
          try dsimp only
          exact ⟨r.length + 1, by first | walk_at "o" | (simp only [List.length_cons]; walk_at "o"), .inl ⟨r, vs2, _, tl2, tt, _, h1, by walk_at "o", h5, by walk_at "o", rfl, rfl, rfl⟩⟩
        | false =>
          rw [hw, if_neg (by decide)] at h1
          first | refine ite_F (by decide) ?_ | rw [if_neg (by decide)]
          repeat walk_at "m"
          rw [show (one d == Str.ofString "\"") = decide (d = 34) from one_eq d 34]
          by_cases h34 : d = 34
          · first | refine ite_dT h34 ?_ | rw [decide_eq_true h34, if_pos rfl]
            rw [if_pos h34] at h1
            repeat walk_at "mf"
            refine t_via (Q := fun f m' n' => E8 fun tk rest vs' L' tl' tt ch cio => A5 (tokO ds = (tk, rest)) (StrsAre vs' (rest.map one)) (L' + (rest.count 10 : Nat) = L + (ds.count 10 : Nat)) ((f = .next ∧ rest = [] ∧ vs' = [] ∧ cio = ciEnd ∧ m' = tkM a tk tt ci ch) ∨ f = .ret (.str (sOf tk) tt)) (n' = tkN ci q cio a dx L' tl' tw pb st sdx lam cc cell left ses ol oc vs')) ?lo ?re
            case re =>
              rintro f m' n' ⟨tk, rest, vs', L3, tl', tt, ch, cio, g1, g2, g3, g4, rfl⟩
              rcases g4 with ⟨rfl, rfl, rfl, rfl, rfl⟩ | rfl
              · repeat walk_at "m"
                exact ⟨0, by walk_at "o", .inr ⟨tk, L3, tl', tt, ch, g1, by simpa using g3, rfl, rfl, rfl⟩⟩
              · repeat walk_at "mu"
                exact ⟨tk, rest, vs', L3, tl', tt, ch, cio, g1, g2, g3, .inr rfl, rfl⟩
            case lo =>
              all_goals repeat walk_at "mh"
              refine t_For (fun _ => rfl) ?_
              repeat walk_at "m"
              refine t_iterCI (by walk_at "m mem") ?_
              refine ct_forH (fun k m n => (E7 fun ds' vs' L' tl' tk tt ch => A7 (tokO ds = tokQ ds' tk) (L' + (ds'.count 10 : Nat) = L + (ds.count 10 : Nat)) (StrsAre vs' (ds'.map one)) (tk.length + ds'.length ≤ 1000) (k = ds'.length + 1) (m = tkM a tk tt ci ch) (n = tkN ci q (ciObj q (Str.ofString "") tci) a dx L' tl' tw pb st sdx lam cc cell left ses ol oc vs'))) ?_ (r.length + 1) ⟨r, vs2, _, tl2, [], tt, _, h1, by walk_at "o", h5, by simp; walk_at "o", rfl, rfl, rfl⟩
              rintro k m n ⟨ds', vs', L3, tl', tk, tt, ch, g1, g2, g3, g4, rfl, rfl, rfl⟩
              all_goals repeat walk_at "mh"
              refine tok_next S g3 (by walk_at "o") hr5 ?_ ?_
              · rintro rfl tl2
                repeat walk_at "m"
                exact ⟨tk, [], [], L3, tl2, tt, ch, _, g1, .nil, g2, .inl ⟨rfl, rfl, rfl, rfl, rfl⟩, rfl⟩
              · rintro e u vs3 rfl g5 t3 tl3
                rw [tokQ_cons] at g1
                rw [hc e u] at g2
                simp only [List.length_cons] at g4 ⊢
                repeat walk_at "m"
                rw [show (one e == Str.ofString "\"") = decide (e = 34) from one_eq e 34]
                by_cases e34 : e = 34
                · first | refine ite_dT e34 ?_ | rw [decide_eq_true e34, if_pos rfl]
                  rw [if_pos e34] at g1
                  repeat walk_at "m"
                  try dsimp only
                  exact ⟨tk, u, vs3, _, tl3, tt, ch, _, g1, g5, by walk_at "o", .inr rfl, rfl⟩
                · first | refine ite_dF e34 ?_ | rw [decide_eq_false e34, if_neg (by decide)]
                  rw [if_neg e34] at g1
                  repeat walk_at "m"
                  rw [show (one e == Str.ofString "\\") = decide (e = 92) from one_eq e 92]
                  by_cases e92 : e = 92
                  · first | refine ite_dT e92 ?_ | rw [decide_eq_true e92, if_pos rfl]
                    rw [if_pos e92] at g1
                    repeat walk_at "m"
                    refine t_callP (ctr_read S g5 (by walk_at "o")) (by walk_at "o") (by walk_at "m pick") ?_
                    rintro v new n1 ⟨rfl, t4, tl4, rfl, rfl⟩
                    refine ⟨_, by walk_at "m sub", ?_⟩
                    walk_at "n"
                    repeat walk_at "m"
                    refine t_iaddS (by rw [sOf_len]; have : (⟨(u.take 1).toArray⟩ : Str).length ≤ 1 := take1_len u; have hsl : sizeLine = 2 ^ 24 := rfl; walk_at "o") fun t5 => ?_
                    repeat walk_at "m"
                    cases u with
                    | nil =>
                      cases g5
                      exact ⟨1, by simp, [], [], _, tl4, tk, _, _, g1, by simp at g2 ⊢; walk_at "o", .nil, by simp at g4 ⊢; walk_at "o", rfl, by rw [show (⟨(([] : List Nat).take 1).toArray⟩ : Str) = sOf [] from rfl, sOf_nil], rfl⟩
                    | cons f u' =>
                      cases g5 with
                      | cons _ _ g5 =>
                        rw [hc f u'] at g2
                        simp only [List.length_cons] at g4 ⊢
                        exact ⟨u'.length + 1, by first | walk_at "o" | (simp only [List.length_cons]; walk_at "o"), u', _, _, tl4, tk ++ [f], _, _, g1, by simp only [List.take_succ_cons, List.take_zero]; walk_at "o", g5, by simp; walk_at "o", rfl, by rw [show (⟨((f :: u').take 1).toArray⟩ : Str) = one f from rfl, sOf_one], rfl⟩
                  · first | refine ite_dF e92 ?_ | rw [decide_eq_false e92, if_neg (by decide)]
                    rw [if_neg e92] at g1
                    repeat walk_at "m"
                    exact ⟨u.length + 1, by first | walk_at "o" | (simp only [List.length_cons]; walk_at "o"), u, _, _, tl3, tk ++ [e], _, _, g1, by walk_at "o", g5, by simp; walk_at "o", rfl, rfl, rfl⟩
          · first | refine ite_dF h34 ?_ | rw [decide_eq_false h34, if_neg (by decide)]
            rw [if_neg h34] at h1
            repeat walk_at "m"
            rw [show (one d == Str.ofString "\\") = decide (d = 92) from one_eq d 92]
            refine ite_joinH (fun f m' n' => f = .next ∧ E6 fun z rest vs3 L3 tl3 t3 => A8 (tokO ds = tokB rest z) (L3 + (rest.count 10 : Nat) = L + (ds.count 10 : Nat)) (StrsAre vs3 (rest.map one)) (z.length ≤ 1) (rest.length ≤ r.length) (z.length + rest.length ≤ 1000) (m' = tkM a [] tt ci (some (.str (sOf z) t3))) (n' = tkN ci q (ciObj q (Str.ofString "") tci) a dx L3 tl3 tw pb st sdx lam cc cell left ses ol oc vs3)) ?_ ?_ ?_
            · intro h92
              rw [if_pos (of_decide_eq_true h92)] at h1
              repeat walk_at "m"
              refine t_callP (ctr_read S h5 (by walk_at "o")) (by walk_at "o") (by walk_at "m pick") ?_
              rintro v new n1 ⟨rfl, t4, tl4, rfl, rfl⟩
              refine ⟨_, by walk_at "m sub", ?_⟩
              walk_at "n"
              repeat walk_at "m"
              cases r with
              | nil =>
                cases h5
                exact ⟨rfl, [], [], [], _, tl4, t4, h1, by simp at h2' ⊢; walk_at "o", .nil, Nat.zero_le _, Nat.zero_le _, by simp, rfl, rfl⟩
              | cons f u' =>
                cases h5 with
                | cons _ _ h5 =>
                  rw [hc f u'] at h2'
                  simp only [List.length_cons] at h4 ⊢
                  exact ⟨trivial, [f], u', _, _, tl4, t4, h1, by simp only [List.take_succ_cons, List.take_zero]; walk_at "o", h5, Nat.le_refl _, by walk_at "o", by simp; walk_at "o", rfl, rfl⟩
            · intro h92
              rw [if_neg (of_decide_eq_false h92)] at h1
              repeat walk_at "m"
              exact ⟨rfl, [d], r, vs2, _, tl2, t2, h1, by walk_at "o", h5, Nat.le_refl _, Nat.le_refl _, by simp; walk_at "o", rfl, rfl⟩
            · rintro f m' n' ⟨rfl, z, rest, vs3, L3, tl3, t3, g1, g2, g3, gz, gr, g4, rfl, rfl⟩
              repeat walk_at "mf"
              walk_at "n"
              refine t_via (Q := fun f m' n' => E8 fun tk rest vs' L' tl' tt ch cio => A5 (tokO ds = (tk, rest)) (StrsAre vs' (rest.map one)) (L' + (rest.count 10 : Nat) = L + (ds.count 10 : Nat)) ((f = .next ∧ rest = [] ∧ vs' = [] ∧ cio = ciEnd ∧ m' = tkM a tk tt ci ch) ∨ f = .ret (.str (sOf tk) tt)) (n' = tkN ci q cio a dx L' tl' tw pb st sdx lam cc cell left ses ol oc vs')) ?lo ?re
              case re =>
                rintro f m' n' ⟨tk, rest, vs', L3, tl', tt, ch, cio, g1, g2, g3, g4, rfl⟩
                rcases g4 with ⟨rfl, rfl, rfl, rfl, rfl⟩ | rfl
                · repeat walk_at "m"
                  exact ⟨0, by walk_at "o", .inr ⟨tk, L3, tl', tt, ch, g1, by simpa using g3, rfl, rfl, rfl⟩⟩
                · repeat walk_at "mu"
                  exact ⟨tk, rest, vs', L3, tl', tt, ch, cio, g1, g2, g3, .inr rfl, rfl⟩
              case lo =>
                all_goals repeat walk_at "mh"
                refine t_For (fun _ => rfl) ?_
                repeat walk_at "m"
                refine t_iterCI (by walk_at "m mem") ?_
                refine ct_forH (fun k m n => (E7 fun ds' vs' L' tl' tk tt ch => A7 (tokO ds = tokB ds' tk) (L' + (ds'.count 10 : Nat) = L + (ds.count 10 : Nat)) (StrsAre vs' (ds'.map one)) (tk.length + ds'.length ≤ 1000) (k = ds'.length + 1) (m = tkM a tk tt ci ch) (n = tkN ci q (ciObj q (Str.ofString "") tci) a dx L' tl' tw pb st sdx lam cc cell left ses ol oc vs'))) ?_ (rest.length + 1) ⟨rest, vs3, _, tl3, z, _, _, g1, by walk_at "o", g3, by walk_at "o", rfl, rfl, rfl⟩
                rintro k m n ⟨ds', vs', L3, tl', tk, tt, ch, g1, g2, g3, g4, rfl, rfl, rfl⟩
                all_goals repeat walk_at "mh"
                refine tok_next S g3 (by walk_at "o") hr5 ?_ ?_
                · rintro rfl tl2
                  repeat walk_at "m"
                  exact ⟨tk, [], [], L3, tl2, tt, ch, _, g1, .nil, g2, .inl ⟨rfl, rfl, rfl, rfl, rfl⟩, rfl⟩
                · rintro e u vs3 rfl g5 t3 tl3
                  rw [tokB_cons] at g1
                  rw [hc e u] at g2
                  simp only [List.length_cons] at g4 ⊢
                  repeat walk_at "m"
                  rw [ws_in]
                  cases ew : isWs e with
                  | true =>
                    rw [ew, if_pos rfl] at g1
                    first | refine ite_T rfl ?_ | rw [if_pos rfl]
                    repeat walk_at "m"
                    try dsimp only
                    exact ⟨tk, u, vs3, _, tl3, tt, ch, _, g1, g5, by walk_at "o", .inr rfl, rfl⟩
                  | false =>
                    rw [ew, if_neg (by decide)] at g1
                    first | refine ite_F (by decide) ?_ | rw [if_neg (by decide)]
                    repeat walk_at "m"
                    rw [show (one e == Str.ofString "\\") = decide (e = 92) from one_eq e 92]
                    by_cases e92 : e = 92
                    · first | refine ite_dT e92 ?_ | rw [decide_eq_true e92, if_pos rfl]
                      rw [if_pos e92] at g1
                      repeat walk_at "m"
                      refine t_callP (ctr_read S g5 (by walk_at "o")) (by walk_at "o") (by walk_at "m pick") ?_
                      rintro v new n1 ⟨rfl, t4, tl4, rfl, rfl⟩
                      refine ⟨_, by walk_at "m sub", ?_⟩
                      walk_at "n"
                      repeat walk_at "m"
                      refine t_iaddS (by rw [sOf_len]; have : (⟨(u.take 1).toArray⟩ : Str).length ≤ 1 := take1_len u; have hsl : sizeLine = 2 ^ 24 := rfl; walk_at "o") fun t5 => ?_
                      repeat walk_at "m"
                      cases u with
                      | nil =>
                        cases g5
                        exact ⟨1, by simp, [], [], _, tl4, tk, _, _, g1, by simp at g2 ⊢; walk_at "o", .nil, by simp at g4 ⊢; walk_at "o", rfl, by rw [show (⟨(([] : List Nat).take 1).toArray⟩ : Str) = sOf [] from rfl, sOf_nil], rfl⟩
                      | cons f u' =>
                        cases g5 with
                        | cons _ _ g5 =>
                          rw [hc f u'] at g2
                          simp only [List.length_cons] at g4 ⊢
                          exact ⟨u'.length + 1, by first | walk_at "o" | (simp only [List.length_cons]; walk_at "o"), u', _, _, tl4, tk ++ [f], _, _, g1, by simp only [List.take_succ_cons, List.take_zero]; walk_at "o", g5, by simp; walk_at "o", rfl, by rw [show (⟨((f :: u').take 1).toArray⟩ : Str) = one f from rfl, sOf_one], rfl⟩
                    · first | refine ite_dF e92 ?_ | rw [decide_eq_false e92, if_neg (by decide)]
                      rw [if_neg e92] at g1
                      repeat walk_at "m"
                      exact ⟨u.length + 1, by first | walk_at "o" | (simp only [List.length_cons]; walk_at "o"), u, _, _, tl3, tk ++ [e], _, _, g1, by walk_at "o", g5, by simp; walk_at "o", rfl, rfl, rfl⟩
    · refine t_nextCIEnd List.mem_cons_self ?_
      repeat walk_at "m"
      exact ⟨tk, [], [], L', tl', tt, ch, _, h1, .nil, by simpa using h2, .inl ⟨rfl, rfl⟩, rfl⟩

end
section
theorem cells_eq {c : Cx} {cl : List (Str × Addr)} (h : c.env.cells = cl) : c.env = { c.env with cells := cl } := by
  rw [← h]
theorem lk_cons (k : Str) (v : Option Value) (r : Lo) (y : Str) : lk ((k, v) :: r) y = if y == k then v else lk r y := by
  unfold lk
  rw [List.lookup_cons]
  cases y == k <;> rfl
theorem lk_nil (y : Str) : lk [] y = none := rfl
theorem Up.det {a : Addr} {d d' e e' : OD} {n n1 n2 : Nw} (u : Up a d d' n n1) (v : Up a e e' n n2) (h : d' = e') (nd : (n.map (·.1)).Nodup) : n1 = n2 := by
  subst h
  induction u generalizing n2 with
  | @head r =>
    cases v with
    | head => rfl
    | tail v =>
      have := List.mem_map_of_mem (f := (·.1)) v.mem
      exact absurd this (List.nodup_cons.mp nd).1
  | @tail p r r' u ih =>
    cases v with
    | head =>
      have := List.mem_map_of_mem (f := (·.1)) u.mem
      exact absurd this (List.nodup_cons.mp nd).1
    | tail v => rw [ih (List.nodup_cons.mp nd).2 v]
theorem t_nd {w : World} {c : Cx} {m : Lo} {n : Nw} {α : Type} {t : Sem α} {Q : α → Lo → Nw → Prop} (h : (n.map (·.1)).Nodup → TT w c m n t Q) : TT w c m n t Q := fun s H E => h H.nd s H E
theorem CompCx.ek {c c' : Cx} {scope sc : Scope} {cl : List (Str × Addr)} (h : CompCx c c' scope cl) (hE : EnvK c sc) : EnvK c' (relabel scope { c.env with scope := sc }) := by
  rw [← env_eq hE]; exact h.sc
theorem ct_swap2 {w : World} {c : Cx} {m : Lo} {n : Nw} {k : Code} {p q : Addr × OD} {Q : Flow → Lo → Nw → Prop} (h : CT w c m (q :: p :: n) k Q) : CT w c m (p :: q :: n) k Q :=
  ct_pick (Pick.cons (.tail .head) (Pick.cons .head .all)) h
theorem ctr_stream {w : World} {left : Addr} :
    CallT w 3 157 [.ref left] [(152, .raw (tabObj #[]))] fun v new n1 => A2 (∃ ps, n1 = [(152, .raw (tabObj ps))]) (E8 fun st sdx lam cc cell ses ol oc => A3 (v = .ref st) (Stream w lam cc cell left ses ol oc) (new = [(lam, .raw ol), (cc, .raw oc), (st, .inst 146 sdx), (sdx, .ns ses), (cell, .cell (some (.ref left)))])) := by
  refine callT_defCH (r := 2) (by k_is) (by k_is) [(Str.ofString "left", .ref left)] [(Str.ofString "stream", none)] (fun y => ?_) (by decide) (by rfl) ?_ (by decide) (by rfl) (by rfl) (by rfl) ?_
  · rw [lk_cons, lk_nil]
    show _ = (fun _ => none) y
    split <;> rfl
  · intro k x hx
    rw [List.mem_singleton] at hx
    subst hx
    exact .inr ⟨rfl, rfl⟩
  intro c hE hcl hcd hr hg
  have hcl : c.env.cells = [(Str.ofString "left", c.L + 1)] := hcl
  repeat walk_at "mh"
  show TT w c [(Str.ofString "stream", none)] [(c.L + 1, .cell (some (.ref left))), (152, .raw (tabObj #[]))] _ _
  have hcd : c.env.code = .ref 156 := hcd
  repeat walk_at "m"
  walk_at "h"; refine t_callP (ctr_lex rfl) hr (by walk_at "m pick") ?_
  rintro v new n1 ⟨rfl, st, sdx, pb, tl, tw, rfl, rfl⟩
  walk_at "u"; refine ⟨_, .nil, ?_⟩
  simp only [List.cons_append, List.nil_append]
  repeat walk_at "m"
  walk_at "h"; refine t_nd fun nd => ?_
  walk_at "h"; refine t_Lambda (clos := [(Str.ofString "left", c.L + 1)]) rfl (by rw [cells_eq hcl]; rfl) hcd (by walk_at "m mem") ?_
  intro lam cc pm ctv oc vs t n' hd hv hu
  have e := hu.det (n2 := [(pb, .list []), (st, .inst 146 sdx), (sdx, .ns (lxE 1 tl .none tw pb)), (c.L + 1, .cell (some (.ref left))), (152, .raw _)]) (by walk_at "m up") rfl nd
  subst e
  generalize ho : kla_obj _ _ _ _ _ _ _ _ _ = ol
  have hS : Stream w lam cc (c.L + 1) left (putE (Str.ofString "read") (.ref lam) (lxE 1 tl .none tw pb)) ol oc := by
    walk_at "u"; refine ⟨rfl, ?_, ?_⟩
    · rw [← ho]; exact ⟨_, _, _, _, rfl⟩
    · intro ds lvs tk hlv hlen
      subst ho
      refine callT_lam (r := 1) (List.Mem.head _) (List.Mem.tail _ (List.Mem.head _)) hd hv [Str.ofString "size"] [] [(Str.ofString "size", some (.int 1 tk))] rfl rfl (by rfl) (by rfl) (by rfl) (by decide) (by rfl) (by rfl) (by rfl) ?_
      intro c2 hE2 hcl2 hr2 hg2
      generalize kla_obj _ _ _ _ _ _ _ _ _ = ol
      have hll : lvs.length = ds.length := by rw [strs_length hlv, List.length_map]
      repeat walk_at "m"
      walk_at "h"; refine t_Comp (cl := [(Str.ofString "left", c.L + 1)]) [Str.ofString "k"] (fun _ => rfl) (by rw [cells_eq hcl2]; rfl) (by decide) rfl (by decide) (by decide) ?_
      repeat walk_at "m"
      walk_at "h"; refine t_iterR (by walk_at "m mem") (by walk_at "o") (by walk_at "o") ?_
      intro it acc c3 hC
      have hE3 := hC.ek hE2
      have hcl3 := hC.cells
      rw [show (min (1 : Int) lvs.length).toNat = min 1 lvs.length from by walk_at "o"]
      walk_at "h"; refine ct_pick (n' := (it, .raw (rIter 0 (min 1 lvs.length))) :: [(acc, .list []), (lam, .raw ol), (cc, .raw oc), (c.L + 1, .cell (some (.ref left))), (left, .list lvs)]) (by walk_at "m pick") ?_
      walk_at "h"; refine ct_compNH nexts_R t_selfR (fun i m n => ∃ kk, m = [(Str.ofString "k", kk)] ∧ n = [(acc, .list (lvs.take i)), (lam, .raw ol), (cc, .raw oc), (c.L + 1, .cell (some (.ref left))), (left, .list (lvs.drop i))]) (fun _ _ _ _ => trivial) ⟨none, rfl, rfl⟩ ?_ ?_
      · rintro i v new m n hi ⟨kk, rfl, rfl⟩ ⟨rfl, tt, rfl⟩ d _
        obtain rfl : i = 0 := by walk_at "o"
        cases ds with
        | nil => simp at hll; simp [hll] at hi
        | cons d0 ds =>
          cases hlv with | cons y tv hlv =>
          rw [List.nil_append, List.drop_zero, List.take_zero]
          simp only [List.length_cons] at hll hlen
          repeat walk_at "m"
          walk_at "h"; refine t_pop0 (by walk_at "m up") (by have hsl : sizeLine = 2 ^ 24 := rfl; walk_at "o") ?_
          repeat walk_at "m"
          walk_at "u"; exact ⟨_, .all, _, rfl, rfl⟩
      · rintro m n ⟨kk, rfl, rfl⟩
        repeat walk_at "m"
        walk_at "h"; refine t_join (vs := lvs.take (min 1 lvs.length)) (ys := (ds.map one).take 1) (by walk_at "m isl") ?_ ?_ fun t' => ?_
        · cases ds with
          | nil => cases hlv; exact .nil
          | cons d r => cases hlv with | cons y tv hlv => rw [List.length_cons, show min 1 (_ + 1) = 1 from by walk_at "o"]; exact .cons _ _ .nil
        · cases ds with
          | nil => decide
          | cons d r => exact Nat.le_of_ble_eq_true rfl
        · walk_at "u"; refine ⟨[], [(lam, .raw ol), (cc, .raw oc), (c.L + 1, .cell (some (.ref left))), (left, .list (lvs.drop (min 1 lvs.length)))], by rw [List.nil_append]; walk_at "m subl", rfl, t', ?_, ?_⟩
          · cases ds with
            | nil => rfl
            | cons d r => rfl
          · cases ds with
            | nil => cases hlv; rfl
            | cons d r => cases hlv with | cons y tv hlv => rw [List.length_cons, show min 1 (_ + 1) = 1 from by walk_at "o"]; rfl
  try dsimp only
  repeat walk_at "m"
  try dsimp only
  walk_at "u"; refine ⟨[(lam, .raw ol), (cc, .raw oc), (st, .inst 146 sdx), (sdx, .ns _), (c.L + 1, .cell (some (.ref left)))], [(152, .raw (tabObj #[rawInt 151, rawInt 18, .ref cc]))], ?_, ⟨_, rfl⟩, st, sdx, lam, cc, c.L + 1, _, ol, oc, rfl, hS, rfl⟩
  simp only [List.cons_append, List.nil_append]
  exact .cons_cons _ (.cons_cons _ (.cons _ (.refl _)))

end
section
theorem ofs_sp : Str.ofString " " = sOf [32] := by decide +kernel
theorem ofs_tab : Str.ofString "\t" = sOf [9] := by decide +kernel
theorem ofs_nil : Str.ofString "" = sOf [] := by decide +kernel
theorem join_sOf : ∀ (ls : List (List Nat)), Txt.join (Str.ofString "") (ls.map sOf) = sOf ls.flatten := by
  have key : ∀ (ls : List (List Nat)), Str.join (sOf []) (ls.map sOf) = sOf ls.flatten := by
    intro ls
    induction ls with
    | nil => rfl
    | cons l r ih =>
      cases r with
      | nil => simp [Str.join]
      | cons k r =>
        show sOf l ++ sOf [] ++ Str.join (sOf []) ((k :: r).map sOf) = _
        rw [ih, sOf_nil, sOf_app]; rfl
  intro ls
  show Builtin.Str.glued _ _ = _
  rw [StrLaws.glued_eq_join, ofs_nil, key]
theorem mul_sOf (l : List Nat) (k : Int) : Txt.mul (sOf l) k = sOf (List.replicate k.toNat l).flatten := by
  unfold Txt.mul
  by_cases h : k < 1
  · rw [if_pos h, show k.toNat = 0 from by walk_at "o"]; rfl
  · first | refine ite_F h ?_ | rw [if_neg h]
    have hf : ∀ (n : Nat) (acc : Array Nat), ((List.replicate n l.toArray).foldl (· ++ ·) acc) = acc ++ (List.replicate n l).flatten.toArray := by
      intro n
      induction n with
      | zero => intro acc; simp
      | succ n ih => intro acc; rw [List.replicate_succ, List.foldl_cons, ih, List.replicate_succ, List.flatten_cons]; simp
    by_cases h1 : k = 1
    · subst h1; simp
    · by_cases h2 : l = []
      · subst h2; simp [Str.length]
      · have h3 : (k == 1 || (sOf l).length == 0) = false := by
          rw [sOf_len]; simp [h1, h2]
        rw [h3]; simp only [Bool.false_eq_true, if_false]
        have := hf k.toNat #[]
        rw [this]; simp
theorem mul_ok (l : List Nat) (k : Int) (h : k ≤ 1000) (h0 : -1000 ≤ k) (hl : l.length ≤ 1000) : MulOk (sOf l) k := by
  walk_at "u"; refine ⟨by simp; walk_at "o", fun h1 h2 h3 => ?_, fun h1 h2 => ?_⟩
  · rw [sOf_len] at h3
    have hk : 1 ≤ k := by walk_at "o"
    have e : ((2 : Int) ^ 63 - 1) / k ≥ (2 ^ 63 - 1) / 1000 := by
      rw [ge_iff_le, Int.le_ediv_iff_mul_le (by walk_at "o")]
      have : ((2 : Int) ^ 63 - 1) / 1000 * k ≤ (2 ^ 63 - 1) / 1000 * 1000 := Int.mul_le_mul_of_nonneg_left h (by decide)
      walk_at "o"
    walk_at "o"
  · rw [sOf_len]
    have : l.length * k.toNat ≤ 1000 * 1000 := Nat.mul_le_mul hl (by walk_at "o")
    unfold Builtin.Str.tooLong
    have hsl : sizeLine = 2 ^ 24 := rfl
    simp; walk_at "o"
theorem beqS {x y : Str} (h : (x == y) = true) : x = y := eq_of_beq h
theorem slice_to (l : List Nat) {j : Int} (h0 : 0 ≤ j) (h : j ≤ l.length) : Txt.slice (sOf l) none (some j) = sOf (l.take j.toNat) := by
  rw [beqS (slice_closes_to (x := sOf l) ⟨h0, by simpa using h⟩)]
  show sOf _ = sOf _
  simp
theorem slice_but (l : List Nat) (h : 1 ≤ l.length) : Txt.slice (sOf l) none (some (-1)) = sOf l.dropLast := by
  rw [beqS (slice_closes_to_neg (x := sOf l) (j := -1) (k := -1 + l.length) (by decide) (by rw [sOf_len]; walk_at "o") (by rw [sOf_len]))]
  show sOf _ = sOf _
  rw [List.dropLast_eq_take, show ((-1 + (l.length : Int)) - 0).toNat = l.length - 1 from by walk_at "o"]
  rfl
theorem pick_from (vs : List Value) {x : Int} (h : 0 ≤ x) : (slicePick vs.toArray (some x) none none).toList = vs.drop x.toNat := by
  rw [kms_pick_eq]
  unfold kms_pick kms_lo kms_hi
  simp only [if_neg (show ¬ x < 0 by walk_at "o")]
  rw [List.take_of_length_le (by simp)]
  by_cases hx : x.toNat ≤ vs.length
  · rw [Nat.min_eq_left hx]
  · rw [Nat.min_eq_right (by walk_at "o")]; simp; walk_at "o"
theorem pick_to (vs : List Value) {y : Int} (h : 0 ≤ y) : (slicePick vs.toArray none (some y) none).toList = vs.take y.toNat := by
  rw [kms_pick_eq]
  unfold kms_pick kms_lo kms_hi
  simp only [if_neg (show ¬ y < 0 by walk_at "o"), Nat.sub_zero, List.drop_zero]
  by_cases hx : y.toNat ≤ vs.length
  · rw [Nat.min_eq_left hx]
  · rw [Nat.min_eq_right (by walk_at "o"), List.take_length, List.take_of_length_le (by walk_at "o")]
/-- a text's run of blanks with a tab behind -/
noncomputable def run (k : Nat) : List Nat := List.replicate k 32 ++ [9]
noncomputable def runs (d : Int) : List (List Nat) := (List.range d.toNat).map run
noncomputable def leadOf (d t : Int) : List Nat := ((runs d).drop (t.fmod (max d 1)).toNat ++ (runs d).take (t.fmod (max d 1)).toNat).flatten
theorem run_sp (k : Nat) : Txt.mul (Str.ofString " ") k = sOf (List.replicate k 32) := by
  rw [ofs_sp, mul_sOf, show ((k : Int)).toNat = k from by walk_at "o"]
  congr 1
  induction k with
  | zero => rfl
  | succ k ih => simp [List.replicate_succ, ih]
theorem strs_app {vs ws : List Value} {ys zs : List Str} (h : StrsAre vs ys) (g : StrsAre ws zs) : StrsAre (vs ++ ws) (ys ++ zs) := by
  induction h with
  | nil => exact g
  | cons y' t' _ ih => exact .cons y' t' ih
theorem strs_take {vs : List Value} {ys : List Str} (h : StrsAre vs ys) (k : Nat) : StrsAre (vs.take k) (ys.take k) := by
  induction h generalizing k with
  | nil => simp; exact .nil
  | cons y' t' _ ih => cases k with
    | zero => exact .nil
    | succ k => exact .cons y' t' (ih k)
theorem strs_drop {vs : List Value} {ys : List Str} (h : StrsAre vs ys) (k : Nat) : StrsAre (vs.drop k) (ys.drop k) := by
  induction h generalizing k with
  | nil => simp; exact .nil
  | cons y' t' h ih => cases k with
    | zero => exact .cons y' t' h
    | succ k => exact ih k
theorem ctr_lead {w : World} {d t : Int} {td tt : Tok} (hd : d ≤ 10) (hd0 : -10 ≤ d) :
    CallT w 1 169 [.int d td, .int t tt] [] fun v new n1 => A3 (new = []) (n1 = []) (∃ u, v = .str (sOf (leadOf d t)) u) := by
  refine callT_defH (r := 0) (by k_is) (by k_is) [Str.ofString "depth", Str.ofString "turn"] [Str.ofString "runs", Str.ofString "cut"] [(Str.ofString "depth", some (.int d td)), (Str.ofString "turn", some (.int t tt)), (Str.ofString "runs", none), (Str.ofString "cut", none)] rfl rfl (by rfl) (by rfl) (by rfl) (by decide) (by rfl) (by rfl) (by rfl) ?_
  intro c hE hr hg
  walk_at "h"; refine t_cons ?_
  walk_at "h"; refine t_AsgComp (cl := []) [Str.ofString "k"] hE (by rfl) (by rw [env_eq hE]; rfl) (fun _ => rfl) (by rfl) (by decide) rfl (by decide) (by decide) ?_
  repeat walk_at "m"
  walk_at "h"; refine t_iterR (by walk_at "m mem") (by walk_at "o") (by walk_at "o") ?_
  intro it acc c2 hC
  have hE2 := hC.ek hE
  walk_at "h"; refine ct_pick (n' := (it, .raw (rIter 0 d.toNat)) :: [(acc, .list [])]) (by walk_at "m pick") ?_
  walk_at "h"; refine ct_compNH nexts_R t_selfR (fun i m n => ∃ kk vs, m = [(Str.ofString "k", kk)] ∧ n = [(acc, .list vs)] ∧ StrsAre vs (((List.range i).map run).map sOf)) (fun _ _ _ _ => trivial) ⟨none, [], rfl, rfl, .nil⟩ ?_ ?_
  · rintro i v new m n hi ⟨kk, vs, rfl, rfl, hvs⟩ ⟨rfl, tk, rfl⟩ dd _
    have hvl := strs_length hvs
    simp only [List.length_map, List.length_range] at hvl
    walk_at "n"
    repeat walk_at "m"
    walk_at "h"; refine t_mulS (by rw [ofs_sp]; exact mul_ok _ _ (by walk_at "o") (by walk_at "o") (by decide)) fun t2 => ?_
    repeat walk_at "m"
    rw [show (Txt.mul (Str.ofString " ") ↑i) = sOf (List.replicate i 32) from run_sp i]
    refine t_addS (by rw [sOf_len, List.length_replicate]; have hsl : sizeLine = 2 ^ 24 := rfl; have : (Str.ofString "\t").length = 1 := by decide +kernel
                      walk_at "o") fun t3 => ?_
    rw [ofs_tab, sOf_app]
    repeat walk_at "m"
    walk_at "u"; refine ⟨_, .all, _, _, rfl, rfl, ?_⟩
    rw [List.range_succ, List.map_append, List.map_append]
    exact strs_snoc hvs _ _
  · rintro m n ⟨kk, vs, rfl, rfl, hvs⟩
    have hvl := strs_length hvs
    simp only [List.length_map, List.length_range] at hvl
    walk_at "u"; refine ⟨_, by walk_at "m lup", ?_⟩
    repeat walk_at "m"
    walk_at "h"; refine t_modI (by walk_at "o") fun _ => ?_
    have hc0 : 0 ≤ t.fmod (max d 1) := Int.fmod_nonneg_of_pos t (by walk_at "o")
    repeat walk_at "m"
    walk_at "h"; refine t_cutL (ops := fun b => [.ref b, .ref acc]) (fun _ => rfl) (fun _ => rfl) (by walk_at "m isl") (.int _ _) .none .none (by decide) (by have hsl : sizeLine = 2 ^ 24 := rfl; walk_at "o") fun b1 => ?_
    repeat walk_at "m"
    walk_at "h"; refine t_cutL (ops := fun b => [.ref b, .ref acc]) (fun _ => rfl) (fun _ => rfl) (by walk_at "m isl") .none (.int _ _) .none (by decide) (by have hsl : sizeLine = 2 ^ 24 := rfl; walk_at "o") fun b2 => ?_
    rw [pick_from _ hc0, pick_to _ hc0]
    repeat walk_at "m"
    have hl2 : (runs d).length ≤ 10 := by unfold runs; rw [List.length_map, List.length_range]; walk_at "o"
    walk_at "h"; refine t_addL (by walk_at "m mem") (by walk_at "m mem") (by have hsl : sizeLine = 2 ^ 24 := rfl; rw [List.length_drop, List.length_take]; walk_at "o") fun r => ?_
    repeat walk_at "m"
    walk_at "h"; refine t_join (ys := ((runs d).drop (t.fmod (max d 1)).toNat ++ (runs d).take (t.fmod (max d 1)).toNat).map sOf) (by walk_at "m isl") ?_ ?_ fun t' => ?_
    · rw [List.map_append, List.map_drop, List.map_take]
      exact strs_app (strs_drop hvs _) (strs_take hvs _)
    · have : ∀ (l : List (List Nat)), (∀ x ∈ l, x.length ≤ 11) → ((l.map sOf).map (·.length)).sum ≤ 11 * l.length := by
        intro l h
        induction l with
        | nil => exact Nat.zero_le _
        | cons x r ih =>
          have h1 := h x List.mem_cons_self
          have h2 := ih fun y hy => h y (List.mem_cons_of_mem _ hy)
          simp only [List.map_cons, List.sum_cons, List.length_cons]
          rw [sOf_len]; walk_at "o"
      have h3 := this ((runs d).drop (t.fmod (max d 1)).toNat ++ (runs d).take (t.fmod (max d 1)).toNat) (by
        intro x hx
        have hx : x ∈ runs d := by
          rcases List.mem_append.mp hx with h | h
          · exact List.mem_of_mem_drop h
          · exact List.mem_of_mem_take h
        obtain ⟨k, hk, rfl⟩ := List.mem_map.mp hx
        have := List.mem_range.mp hk
        unfold run
        simp; walk_at "o")
      have h4 : (Str.ofString "").length = 0 := by decide +kernel
      rw [h4]
      rw [List.length_append, List.length_drop, List.length_take] at h3
      simp only [Nat.mul_zero, Nat.add_zero]
      walk_at "o"
    · rw [join_sOf]
      try dsimp only
      walk_at "u"; exact ⟨[], [], List.nil_sublist _, rfl, rfl, t', rfl⟩

end
section
noncomputable def whiteOf (x : Int) : Nat := [10, 9, 13, 32].getD ((x.fdiv 32).fmod 4).toNat 0
noncomputable def escB (l : List Nat) : List Nat := (l.map fun d => if 97 ≤ d ∧ d ≤ 101 then [d] else [92, d]).flatten
noncomputable def escQ (l : List Nat) : List Nat := (l.map fun d => if d = 34 ∨ d = 92 ∨ d = 9 then [92, d] else [d]).flatten
noncomputable def wordOf (x : Int) (wd : List Nat) : List Nat := if (x.fdiv 16).fmod 2 = 0 then [34] ++ escQ wd ++ [34] else escB wd ++ [whiteOf x, whiteOf x]
noncomputable def headOf (x d ar : Int) : List Nat := (List.replicate (ar - d).toNat [41, whiteOf x, whiteOf x]).flatten ++ [40, whiteOf x, whiteOf x]
noncomputable def textGo (T : List Nat) (ar : Int) : List Int → List Int → List (List Nat) → List Nat × Int
  | x :: ns, d :: ds, wd :: ws => textGo (T ++ headOf x d ar ++ wordOf x wd) (d + 1) ns ds ws
  | _, _, _ => (T, ar)
theorem textGo_nil (T : List Nat) (ar : Int) : textGo T ar [] [] [] = (T, ar) := rfl
theorem ofs_cl : Str.ofString ")" = sOf [41] := by decide +kernel
theorem ofs_op : Str.ofString "(" = sOf [40] := by decide +kernel
theorem ofs_bs : Str.ofString "\\" = sOf [92] := by decide +kernel
theorem ofs_q : Str.ofString "\"" = sOf [34] := by decide +kernel
theorem ofs_clsp : Str.ofString ") " = sOf [41, 32] := by decide +kernel
noncomputable def textOf (ns ds : List Int) (ws : List (List Nat)) : List Nat := ((textGo [] 0 ns ds ws).1 ++ (List.replicate (textGo [] 0 ns ds ws).2.toNat [41, 32]).flatten).dropLast
theorem ct_signs {w : World} {c : Cx} {sc' sc : Scope} {pos px : Pos} {y : Str} {f : Nat → List Nat} {wd : List Nat} {t : Tok} {it acc : Addr} {elt iter : Expr} {n0 : Nw} (hE : EnvK c sc') (hl : sc'.names.lookup y = some .local) (hw : wd.length ≤ 1000)
    (h : ∀ d t' n (Q : Value → Lo → Nw → Prop), d ∈ wd → (∀ u, Q (.str (sOf (f d)) u) [(y, some (.str (one d) t'))] n) → TT w c [(y, some (.str (one d) t'))] n (eval elt c.env) Q) :
    CT w c [(y, none)] ((acc, .list []) :: (it, .flds (strIter (sOf wd)) [.str (sOf wd) t, .int 0 0]) :: n0) (.compStart (.ListComp elt [⟨.Name y px, iter, [], 0⟩] sc pos) 0 (.ref it) (.ref acc) c.env) fun _ _ n3 => ∃ vs, n3 = (acc, .list vs) :: n0 ∧ StrsAre vs ((wd.map f).map sOf) := by
  have hsz : (sOf wd).cps.size = wd.length := sOf_len wd
  walk_at "h"; refine ct_swap2 (ct_compNH nexts_S t_selfS (fun i m n => E2 fun kk vs => A3 (m = [(y, kk)]) (n = (acc, .list vs) :: n0) (StrsAre vs ((wd.take i).map fun d => sOf (f d)))) (fun _ _ _ _ => trivial) ⟨none, [], rfl, rfl, .nil⟩ ?_ ?_)
  · rintro i v new m n hi ⟨kk, vs, rfl, rfl, hvs⟩ ⟨rfl, d, t', hd, rfl⟩ dd _
    have hvl := strs_length hvs
    simp only [List.length_map, List.length_take] at hvl
    have hd' : wd[i]? = some d := by simpa using hd
    walk_at "n"
    walk_at "h"; refine t_goName (t_asgName (t_storeL hE hl .head ?_))
    walk_at "h"; refine t_tests0 (t_ifT ?_)
    refine h d t' _ _ (List.mem_of_getElem? hd') fun u => ?_
    walk_at "h"; refine t_append (.tail .head) (by have hsl : sizeLine = 2 ^ 24 := rfl; walk_at "o") ?_
    walk_at "u"; refine ⟨_, .all, _, _, rfl, rfl, ?_⟩
    rw [List.take_add_one, hd']
    rw [List.map_append]
    exact strs_snoc hvs _ _
  · rintro m n ⟨kk, vs, rfl, rfl, hvs⟩
    rw [hsz, List.take_length] at hvs
    walk_at "u"; exact ⟨vs, rfl, by rw [List.map_map]; exact hvs⟩
theorem white_at (x : Int) {k : Int} (hk : k = (x.fdiv 32).fmod 4) : (seqIndex? k (Str.ofString "\n\t\r ").length).bind ((Str.ofString "\n\t\r ").cps[·]?) = some (whiteOf x) ∧ 0 ≤ k ∧ k < 4 := by
  subst hk
  have h0 : 0 ≤ (x.fdiv 32).fmod 4 := Int.fmod_nonneg_of_pos _ (by decide)
  have h1 : (x.fdiv 32).fmod 4 < 4 := Int.fmod_lt_of_pos _ (by decide)
  walk_at "u"; refine ⟨?_, h0, h1⟩
  unfold whiteOf
  generalize (x.fdiv 32).fmod 4 = k at h0 h1
  have : k = 0 ∨ k = 1 ∨ k = 2 ∨ k = 3 := by walk_at "o"
  rcases this with rfl | rfl | rfl | rfl <;> decide +kernel
theorem in_abc (d : Nat) : (!(Builtin.Str.occurrences (Str.ofString "abcde") (one d) 0 (Str.ofString "abcde").length 1).isEmpty) = decide (97 ≤ d ∧ d ≤ 101) := by
  rw [StrLaws.found_one]
  have e : (Str.ofString "abcde").cps.toList = [97, 98, 99, 100, 101] := by decide +kernel
  rw [e, Bool.eq_iff_iff]
  simp; walk_at "o"
theorem in_quo (d : Nat) : (!(Builtin.Str.occurrences (Str.ofString "\"\\\t") (one d) 0 (Str.ofString "\"\\\t").length 1).isEmpty) = decide (d = 34 ∨ d = 92 ∨ d = 9) := by
  rw [StrLaws.found_one]
  have e : (Str.ofString "\"\\\t").cps.toList = [34, 92, 9] := by decide +kernel
  rw [e, Bool.eq_iff_iff]
  simp
theorem escB_len (l : List Nat) : (escB l).length ≤ 2 * l.length := by
  unfold escB
  induction l with
  | nil => exact Nat.zero_le _
  | cons d r ih =>
    rw [List.map_cons, List.flatten_cons, List.length_append, List.length_cons]
    split <;> simp only [List.length_cons, List.length_nil] <;> walk_at "o"
theorem escQ_len (l : List Nat) : (escQ l).length ≤ 2 * l.length := by
  unfold escQ
  induction l with
  | nil => exact Nat.zero_le _
  | cons d r ih =>
    rw [List.map_cons, List.flatten_cons, List.length_append, List.length_cons]
    split <;> simp only [List.length_cons, List.length_nil] <;> walk_at "o"
theorem sum_le {ls : List (List Nat)} {b : Nat} (h : ∀ x ∈ ls, x.length ≤ b) : ((ls.map sOf).map (·.length)).sum ≤ b * ls.length := by
  induction ls with
  | nil => exact Nat.zero_le _
  | cons x r ih =>
    have h1 := h x List.mem_cons_self
    have h2 := ih fun y hy => h y (List.mem_cons_of_mem _ hy)
    simp only [List.map_cons, List.sum_cons, List.length_cons]
    rw [sOf_len, Nat.mul_succ]; walk_at "o"
theorem strs_at {vs : List Value} {ys : List Str} (h : StrsAre vs ys) : ∀ {i : Nat} {y : Str}, ys[i]? = some y → ∃ t, vs[i]? = some (.str y t) := by
  induction h with
  | nil => intro i y h; simp at h
  | cons y' t' _ ih =>
    intro i y h
    cases i with
    | zero => simp at h; subst h; exact ⟨t', rfl⟩
    | succ i => exact ih (by simpa using h)
theorem ints_at' {vs : List Value} {ns : List Int} (h : IntsAre vs ns) : ∀ {i : Nat} {k : Int}, ns[i]? = some k → ∃ t, vs[i]? = some (.int k t) := by
  induction h with
  | nil => intro i y h; simp at h
  | cons y' t' _ ih =>
    intro i y h
    cases i with
    | zero => simp at h; subst h; exact ⟨t', rfl⟩
    | succ i => exact ih (by simpa using h)
theorem join_fit (ls : List (List Nat)) (b : Nat) (h : ∀ x ∈ ls, x.length ≤ b) (hb : b * ls.length ≤ 1000000) : ((ls.map sOf).map (·.length)).sum + (ls.map sOf).length * (Str.ofString "").length ≤ 16777216 := by
  have h1 := sum_le h
  have h4 : (Str.ofString "").length = 0 := by decide +kernel
  rw [h4]; walk_at "o"
set_option maxHeartbeats 2000000 in
theorem ctr_text {w : World} {a1 a2 a3 : Addr} {vs1 vs2 vs3 : List Value} {ns ds : List Int} {ws : List (List Nat)} (h1 : IntsAre vs1 ns) (h2 : IntsAre vs2 ds) (h3 : StrsAre vs3 (ws.map sOf)) (l0 : 1 ≤ ns.length) (l1 : ns.length ≤ 10) (l2 : ds.length = ns.length) (l3 : ws.length = ns.length) (b2 : ∀ d ∈ ds, 0 ≤ d ∧ d ≤ 10) (b3 : ∀ x ∈ ws, x.length ≤ 100) :
    CallT w 2 174 [.ref a1, .ref a2, .ref a3] [(a1, .list vs1), (a2, .list vs2), (a3, .list vs3)] fun v new n1 => A3 (new = []) (n1 = [(a1, .list vs1), (a2, .list vs2), (a3, .list vs3)]) (∃ u, v = .str (sOf (textOf ns ds ws)) u) := by
  refine callT_defH (r := 1) (by k_is) (by k_is) [Str.ofString "numbers", Str.ofString "depths", Str.ofString "words"] [Str.ofString "text", Str.ofString "around", Str.ofString "x", Str.ofString "depth", Str.ofString "word", Str.ofString "white"]
    [(Str.ofString "numbers", some (.ref a1)), (Str.ofString "depths", some (.ref a2)), (Str.ofString "words", some (.ref a3)), (Str.ofString "text", none), (Str.ofString "around", none), (Str.ofString "x", none), (Str.ofString "depth", none), (Str.ofString "word", none), (Str.ofString "white", none)] rfl rfl (by rfl) (by rfl) (by rfl) (by decide) (by rfl) (by rfl) (by rfl) ?_
  intro c hE hr hg
  walk_at "h"; refine t_cons ?_
  walk_at "h"; refine t_AsgTup rfl (by rw [env_eq hE]; rfl) ?_
  repeat walk_at "m"
  walk_at "h"; refine t_asgTup rfl List.mem_cons_self rfl rfl ?_
  walk_at "h"; refine t_inCons (t_asgName ?_)
  repeat walk_at "m"
  walk_at "h"; refine t_inCons (t_asgName ?_)
  repeat walk_at "m"
  walk_at "h"; refine t_inNil ?_
  repeat walk_at "m"
  walk_at "h"; refine t_zip3 (vs1 := vs1) (vs2 := vs2) (vs3 := vs3) (by walk_at "m isl") (by walk_at "m isl") (by walk_at "m isl") ?_
  intro z TI TO i1 i2 i3
  walk_at "h"; refine t_iterZip (by walk_at "m mem") ?_
  have l1' := h1.length
  have l2' := h2.length
  have l3' := strs_length h3
  rw [List.length_map] at l3'
  walk_at "h"; refine' ct_pick (n' := zipNw z TI TO i1 i2 i3 a1 a2 a3 .none [.none, .none, .none] 0 ++ [(a1, .list vs1), (a2, .list vs2), (a3, .list vs3)]) ?pk ?_
  case pk => dsimp only [List.cons_append, List.nil_append]; walk_at "m pick"
  walk_at "h"; refine ct_forH (fun k m n => E12 fun i T ar tt ta xx dd wd wh o1 o2 o3 => A9 (i ≤ ns.length) (k = ns.length - i) (T.length ≤ 1000 * i) (i = 0 ∨ 1 ≤ ar) (0 ≤ ar) (ar ≤ 11) (textGo T ar (ns.drop i) (ds.drop i) (ws.drop i) = textGo [] 0 ns ds ws) (m = [(Str.ofString "numbers", some (.ref a1)), (Str.ofString "depths", some (.ref a2)), (Str.ofString "words", some (.ref a3)), (Str.ofString "text", some (.str (sOf T) tt)), (Str.ofString "around", some (.int ar ta)), (Str.ofString "x", xx), (Str.ofString "depth", dd), (Str.ofString "word", wd), (Str.ofString "white", wh)]) (n = zipNw z TI TO i1 i2 i3 a1 a2 a3 .none [o1, o2, o3] i ++ [(a1, .list vs1), (a2, .list vs2), (a3, .list vs3)])) ?_ (ns.length) ⟨0, [], 0, _, _, none, none, none, none, _, _, _, Nat.zero_le _, rfl, Nat.zero_le _, .inl rfl, by decide, by decide, rfl, rfl, rfl⟩
  · rintro k m n ⟨i, T, ar, tt, ta, xx, dd, wd, wh, o1, o2, o3, hi, rfl, hT, hai, ha0, ha, hgo, rfl, rfl⟩
    by_cases hlt : i < ns.length
    · obtain ⟨u1, g1⟩ := ints_at' h1 (List.getElem?_eq_getElem hlt)
      obtain ⟨u2, g2⟩ := ints_at' h2 (List.getElem?_eq_getElem (show i < ds.length by walk_at "o"))
      obtain ⟨u3, g3⟩ := strs_at h3 (i := i) (y := sOf ws[i]) (by rw [List.getElem?_map, List.getElem?_eq_getElem (show i < ws.length by walk_at "o")]; rfl)
      rw [List.drop_eq_getElem_cons hlt, List.drop_eq_getElem_cons (show i < ds.length by walk_at "o"), List.drop_eq_getElem_cons (show i < ws.length by walk_at "o")] at hgo
      have hd2 := b2 _ (List.getElem_mem (show i < ds.length by walk_at "o"))
      have hw3 := b3 _ (List.getElem_mem (show i < ws.length by walk_at "o"))
      generalize ns[i] = x at g1 hgo
      generalize ds[i] = d at g2 hgo hd2
      generalize ws[i] = wd at g3 hgo hw3
      rw [textGo] at hgo
      walk_at "h"; refine t_nextZip hr (by walk_at "m isl") (by walk_at "m isl") (by walk_at "m isl") g1 g2 g3 fun TT0 => ?_
      dsimp only [List.cons_append, List.nil_append]
      walk_at "h"; refine t_goZip (by walk_at "m up") ?_
      walk_at "h"; refine t_asgTup rfl (by walk_at "m mem") rfl rfl ?_
      walk_at "h"; refine t_inCons (t_asgName ?_)
      repeat walk_at "m"
      walk_at "h"; refine t_inCons (t_asgName ?_)
      repeat walk_at "m"
      walk_at "h"; refine t_inCons (t_asgName ?_)
      repeat walk_at "m"
      walk_at "h"; refine t_inNil ?_
      repeat walk_at "m"
      obtain ⟨hw1, hw2, hw4⟩ := white_at x rfl
      walk_at "h"; refine t_tailS rfl (by simp; walk_at "o") hw1 fun _ => ?_
      repeat walk_at "m"
      walk_at "h"; refine t_mulIS (mul_ok [whiteOf x] 2 (by decide) (by decide) (by simp)) fun tw => ?_
      rw [show Txt.mul (⟨#[whiteOf x]⟩ : Str) 2 = sOf [whiteOf x, whiteOf x] from mul_sOf [whiteOf x] 2]
      repeat walk_at "m"
      rw [ofs_cl]
      repeat walk_at "m"
      walk_at "h"; refine t_mulS (mul_ok _ _ (by walk_at "o") (by walk_at "o") (by simp)) fun _ => ?_
      rw [mul_sOf]
      have hR : (ar - d).toNat ≤ 11 := by walk_at "o"
      have hR2 := rep_len (ar - d).toNat ([41] ++ [whiteOf x, whiteOf x])
      have hR3 : ([41] ++ [whiteOf x, whiteOf x]).length = 3 := rfl
      rw [hR3] at hR2
      generalize hhd : (List.replicate (ar - d).toNat ([41] ++ [whiteOf x, whiteOf x])).flatten = hd0 at hR2
      repeat walk_at "m"
      rw [ofs_op]
      repeat walk_at "m"
      have hwx := whiteOf x
      have hB := escB_len wd
      have hQ := escQ_len wd
      walk_at "h"; refine ite_joinH (fun f m' n' => f = .next ∧ (∃ tt', m' = [(Str.ofString "numbers", some (.ref a1)), (Str.ofString "depths", some (.ref a2)), (Str.ofString "words", some (.ref a3)), (Str.ofString "text", some (.str (sOf (T ++ (hd0 ++ [40] ++ [whiteOf x, whiteOf x]) ++ wordOf x wd)) tt')), (Str.ofString "around", some (.int ar ta)), (Str.ofString "x", some (.int x u1)), (Str.ofString "depth", some (.int d u2)), (Str.ofString "word", some (.str (sOf wd) u3)), (Str.ofString "white", some (.str (sOf [whiteOf x, whiteOf x]) tw))]) ∧
        Pick (zipNw z TI TO i1 i2 i3 a1 a2 a3 .none [.int x u1, .int d u2, .str (sOf wd) u3] (i + 1) ++ [(a1, .list vs1), (a2, .list vs2), (a3, .list vs3)]) n') ?_ ?_ ?_
      · intro hx
        have hx : (x.fdiv 16).fmod 2 ≠ 0 := by simpa using hx
        repeat walk_at "m"
        walk_at "h"; refine t_Comp (cl := []) [Str.ofString "sign"] (fun _ => rfl) (by rw [env_eq hE]; rfl) (by decide) rfl (by decide) (by decide) ?_
        repeat walk_at "m"
        walk_at "h"; refine t_iterS fun it => ?_
        intro acc c2 hC
        have hE2 := hC.ek hE
        walk_at "h"; refine ct_mono (ct_signs (f := fun d => if 97 ≤ d ∧ d ≤ 101 then [d] else [92, d]) hE2 (by rfl) (by walk_at "o") ?_) ?_
        · intro d t' n Q hd hq
          repeat walk_at "m"
          rw [in_abc]
          by_cases h : 97 ≤ d ∧ d ≤ 101
          · first | refine ite_dT h ?_ | rw [decide_eq_true h, if_pos rfl]
            rw [if_pos h] at hq
            repeat walk_at "m"
            exact hq _
          · first | refine ite_dF h ?_ | rw [decide_eq_false h, if_neg (by decide)]
            rw [if_neg h] at hq
            repeat walk_at "m"
            rw [ofs_bs]
            repeat walk_at "m"
            exact hq _
        · rintro _ _ _ ⟨vs, rfl, hvs⟩
          repeat walk_at "m"
          walk_at "h"; refine t_join (ys := _) (by walk_at "m isl") hvs (join_fit _ 2 ?_ (by rw [List.length_map]; walk_at "o")) fun t' => ?_
          · intro y hy
            obtain ⟨d, _, rfl⟩ := List.mem_map.mp hy
            split <;> simp
          rw [join_sOf, show (List.map (fun d => if 97 ≤ d ∧ d ≤ 101 then [d] else [92, d]) wd).flatten = escB wd from rfl]
          repeat walk_at "m"
          rw [wordOf, if_neg hx]
          walk_at "u"; refine ⟨rfl, ⟨_, rfl⟩, ?_⟩
          · dsimp only [List.cons_append, List.nil_append]; walk_at "m pick"
      · intro hx
        have hx : (x.fdiv 16).fmod 2 = 0 := by simpa using hx
        repeat walk_at "m"
        rw [ofs_q]
        walk_at "h"; refine t_Comp (cl := []) [Str.ofString "sign"] (fun _ => rfl) (by rw [env_eq hE]; rfl) (by decide) rfl (by decide) (by decide) ?_
        repeat walk_at "m"
        walk_at "h"; refine t_iterS fun it => ?_
        intro acc c2 hC
        have hE2 := hC.ek hE
        walk_at "h"; refine ct_mono (ct_signs (f := fun d => if d = 34 ∨ d = 92 ∨ d = 9 then [92, d] else [d]) hE2 (by rfl) (by walk_at "o") ?_) ?_
        · intro d t' n Q hd hq
          repeat walk_at "m"
          rw [in_quo]
          by_cases h : d = 34 ∨ d = 92 ∨ d = 9
          · first | refine ite_dT h ?_ | rw [decide_eq_true h, if_pos rfl]
            rw [if_pos h] at hq
            repeat walk_at "m"
            rw [ofs_bs]
            repeat walk_at "m"
            exact hq _
          · first | refine ite_dF h ?_ | rw [decide_eq_false h, if_neg (by decide)]
            rw [if_neg h] at hq
            repeat walk_at "m"
            exact hq _
        · rintro _ _ _ ⟨vs, rfl, hvs⟩
          repeat walk_at "m"
          walk_at "h"; refine t_join (ys := _) (by walk_at "m isl") hvs (join_fit _ 2 ?_ (by rw [List.length_map]; walk_at "o")) fun t' => ?_
          · intro y hy
            obtain ⟨d, _, rfl⟩ := List.mem_map.mp hy
            split <;> simp
          rw [join_sOf, show (List.map (fun d => if d = 34 ∨ d = 92 ∨ d = 9 then [92, d] else [d]) wd).flatten = escQ wd from rfl]
          repeat walk_at "m"
          rw [wordOf, if_pos hx]
          walk_at "u"; refine ⟨rfl, ⟨_, rfl⟩, ?_⟩
          · dsimp only [List.cons_append, List.nil_append]; walk_at "m pick"
      · rintro f m' n' ⟨rfl, ⟨tt', rfl⟩, hp⟩
        walk_at "h"; refine t_pick hp ?_
        repeat walk_at "m"
        try dsimp only
        have e : hd0 ++ [40] ++ [whiteOf x, whiteOf x] = headOf x d ar := by rw [headOf, ← hhd, List.append_assoc]; rfl
        have el : (headOf x d ar).length ≤ 36 := by rw [← e]; simp; walk_at "o"
        have ew : (wordOf x wd).length ≤ 2 * wd.length + 2 := by unfold wordOf; split <;> simp <;> walk_at "o"
        rw [e]
        walk_at "u"; refine ⟨ns.length - (i + 1), by walk_at "o", i + 1, T ++ headOf x d ar ++ wordOf x wd, d + 1, _, _, _, _, _, _, _, _, _, by walk_at "o", rfl, ?_, .inr (by walk_at "o"), by walk_at "o", by walk_at "o", hgo, rfl, rfl⟩
        simp only [List.length_append]; walk_at "o"
    · obtain rfl : i = ns.length := by walk_at "o"
      walk_at "h"; refine t_nextZipEnd hr (by walk_at "m isl") (by walk_at "o") ?_
      try dsimp only
      rw [List.drop_length, List.drop_of_length_le (by walk_at "o"), List.drop_of_length_le (by walk_at "o"), textGo_nil] at hgo
      repeat walk_at "m"
      rw [ofs_clsp]
      walk_at "h"; refine t_mulS (mul_ok _ _ (by walk_at "o") (by walk_at "o") (by decide)) fun _ => ?_
      rw [mul_sOf]
      have hR2 := rep_len ar.toNat [41, 32]
      rw [show ([41, 32] : List Nat).length = 2 from rfl] at hR2
      have hR : ar.toNat ≤ 11 := by walk_at "o"
      generalize hhd : (List.replicate ar.toNat [41, 32]).flatten = tl0 at hR2
      repeat walk_at "m"
      walk_at "h"; refine t_cutSns (fun _ => by with_unfolding_all rfl) (fun _ => by with_unfolding_all rfl) (by rw [sOf_len, List.length_append]; have hsl : sizeLine = 2 ^ 24 := rfl; walk_at "o") fun tx => ?_
      try dsimp only
      walk_at "u"; refine ⟨[], _, .refl _, rfl, rfl, ?_⟩
      rw [slice_but _ (by rw [List.length_append, hR2]; walk_at "o")]
      walk_at "u"; refine ⟨tx, ?_⟩
      unfold textOf
      rw [← hgo, ← hhd]
      rfl

end
section
theorem sOf_inj {l k : List Nat} : sOf l = sOf k ↔ l = k := by
  constructor
  · intro h
    have : l.toArray = k.toArray := congrArg Str.cps h
    simpa using this
  · rintro rfl; rfl
theorem sOf_eq (l k : List Nat) : (sOf l == sOf k) = decide (l = k) := by
  rw [Bool.eq_iff_iff, beq_iff_eq, decide_eq_true_eq, sOf_inj]
theorem sOf_ne (l k : List Nat) : (sOf l != sOf k) = decide (l ≠ k) := by
  rw [bne, sOf_eq]; by_cases h : l = k <;> simp [h]
theorem tokQ_le (ds : List Nat) : ∀ tk, (tokQ ds tk).2.length ≤ ds.length := by
  induction h : ds.length using Nat.strongRecOn generalizing ds with
  | ind n ih =>
    intro tk
    subst h
    cases ds with
    | nil => exact Nat.le_refl _
    | cons d r =>
      rw [tokQ_cons]
      split
      · simp
      · split
        · cases r with
          | nil => simp
          | cons e r' => have := ih r'.length (by simp; walk_at "o") r' rfl (tk ++ [e]); simp; walk_at "o"
        · have := ih r.length (by simp) r rfl (tk ++ [d]); simp; walk_at "o"
theorem tokB_le (ds : List Nat) : ∀ tk, (tokB ds tk).2.length ≤ ds.length := by
  induction h : ds.length using Nat.strongRecOn generalizing ds with
  | ind n ih =>
    intro tk
    subst h
    cases ds with
    | nil => exact Nat.le_refl _
    | cons d r =>
      rw [tokB_cons]
      split
      · simp
      · split
        · cases r with
          | nil => simp
          | cons e r' => have := ih r'.length (by simp; walk_at "o") r' rfl (tk ++ [e]); simp; walk_at "o"
        · have := ih r.length (by simp) r rfl (tk ++ [d]); simp; walk_at "o"
theorem tokO_le (ds : List Nat) : (tokO ds).2.length ≤ ds.length ∧ (ds ≠ [] → (tokO ds).2.length < ds.length) := by
  induction ds with
  | nil => exact ⟨Nat.le_refl _, fun h => absurd rfl h⟩
  | cons d r ih =>
    have key : (tokO (d :: r)).2.length ≤ r.length := by
      rw [tokO_cons]
      split
      · exact ih.1
      · split
        · exact tokQ_le r _
        · split
          · cases r with
            | nil => simp
            | cons e r' => have := tokB_le r' [e]; simp; walk_at "o"
          · exact tokB_le r _
    simp; walk_at "o"
theorem tokO_lt {ds : List Nat} (h : (tokO ds).1 ≠ []) : (tokO ds).2.length < ds.length := (tokO_le ds).2 fun e => h (by rw [e]; rfl)
noncomputable def rowsGo (T : List Nat) : Nat → List Nat → List Nat → Nat → List (List Nat × List Nat) × List Nat
  | 0, _, ds, _ => ([], ds)
  | k + 1, told, ds, place =>
    if told = [] then ([], ds)
    else if told = [40] then
      let r := rowsGo T k (tokO (tokO ds).2).1 (tokO (tokO ds).2).2 (T.length - (tokO ds).2.length)
      ((T.take place, (tokO ds).1) :: r.1, r.2)
    else
      let r := rowsGo T k (tokO ds).1 (tokO ds).2 (T.length - ds.length)
      ((T.take place, []) :: r.1, r.2)
noncomputable def rowsOf (T : List Nat) : List (List Nat × List Nat) × List Nat := rowsGo T (T.length + 1) (tokO T).1 (tokO T).2 0
theorem rowsGo_nil (T : List Nat) (k : Nat) (ds : List Nat) (place : Nat) : rowsGo T k [] ds place = ([], ds) := by
  cases k with
  | zero => rfl
  | succ k => rw [rowsGo, if_pos rfl]
noncomputable def rowNw (rl : List (Addr × Value × Value)) : Nw := rl.map fun p => (p.1, .list [p.2.1, p.2.2])
inductive RowsAre : List (Addr × Value × Value) → List (List Nat × List Nat) → Prop
  | nil : RowsAre [] []
  | cons (a : Addr) (t u : Tok) {x y rl ys} : RowsAre rl ys → RowsAre ((a, .str (sOf x) t, .str (sOf y) u) :: rl) ((x, y) :: ys)
theorem RowsAre.len {rl ys} (h : RowsAre rl ys) : rl.length = ys.length := by
  induction h with
  | nil => rfl
  | cons _ _ _ _ ih => simp [ih]
set_option maxHeartbeats 2000000 in
theorem ctr_rows {w : World} {a dx pb st sdx lam cc cell left : Addr} {L : Int} {tl tw tt : Tok} {ses : List (Str × Value)} {ol oc : Obj} {T : List Nat} {vs : List Value} (S : Stream w lam cc cell left ses ol oc) (hv : StrsAre vs (T.map one)) (hl : T.length ≤ 1000) :
    CallT w 7 181 [.ref a, .str (sOf T) tt, .ref left] ((pb, .list []) :: allNw a dx L tl tw pb st sdx lam cc cell left ses ol oc vs) fun v new n1 => E5 fun rw rl tl' vs' L' => A5 (v = .ref rw) (new = (rw, .list (rl.reverse.map fun p => .ref p.1)) :: rowNw rl) (RowsAre rl (rowsOf T).1.reverse) (L' + ((rowsOf T).2.count 10 : Nat) = L + (T.count 10 : Nat)) (n1 = (pb, .list []) :: allNw a dx L' tl' tw pb st sdx lam cc cell left ses ol oc vs') := by
  refine callT_defPH (r := 6) (by k_is) (by k_is) [Str.ofString "lexer", Str.ofString "text", Str.ofString "left"] [Str.ofString "rows", Str.ofString "place", Str.ofString "told"] [(Str.ofString "lexer", some (.ref a)), (Str.ofString "text", some (.str (sOf T) tt)), (Str.ofString "left", some (.ref left)), (Str.ofString "rows", none), (Str.ofString "place", none), (Str.ofString "told", none)] rfl rfl (by rfl) (by rfl) (by rfl) (by decide) (by rfl) (by rfl) (by rfl) ?_
  intro c hE hr hg
  walk_at "h"; refine t_cons ?_
  walk_at "h"; refine t_AsgSwap (names := [Str.ofString "rows", Str.ofString "place", Str.ofString "told"]) rfl (by rw [env_eq hE]; rfl) ?_
  repeat walk_at "m"
  rename_i rw0 tp0
  walk_at "h"; refine t_callP (ctr_tok2 (dx := dx) (pb := pb) (L := L) (tl := tl) (tw := tw) S hv hl) hr (by walk_at "m pick") ?_
  rintro v new n1 ⟨rfl, t1, tl1, vs1, L1, rfl, hv1, hL1, rfl⟩
  walk_at "u"; refine ⟨_, by walk_at "m sub", ?_⟩
  walk_at "n"
  repeat walk_at "m"
  walk_at "m swap"
  walk_at "m swap"
  repeat walk_at "m"
  walk_at "m swap"
  repeat walk_at "m"
  walk_at "m swap"
  repeat walk_at "m"
  walk_at "m swap"
  repeat walk_at "m"
  have hlt1 : (tokO T).1 ≠ [] → (tokO T).2.length < T.length + 1 := fun h => Nat.lt_succ_of_lt (tokO_lt h)
  have hle1 := (tokO_le T).1
  rename_i tup0
  walk_at "h"; refine ct_pick (n' := (rw0, .list []) :: (pb, .list []) :: allNw a dx L1 tl1 tw pb st sdx lam cc cell left ses ol oc vs1) (by walk_at "m pick") ?_
  walk_at "h"; refine ct_whileH (fun k m n => E10 fun told ds place done rl tl' vs' L' tp tq => A12 (k ≤ T.length + 1) (place ≤ T.length) (ds.length ≤ T.length) (told ≠ [] → ds.length < k) (done.length + k = T.length + 1) (done.reverse ++ (rowsGo T k told ds place).1 = (rowsOf T).1) ((rowsGo T k told ds place).2 = (rowsOf T).2) (RowsAre rl done) (StrsAre vs' (ds.map one)) (L' + (ds.count 10 : Nat) = L + (T.count 10 : Nat)) (m = [(Str.ofString "lexer", some (.ref a)), (Str.ofString "text", some (.str (sOf T) tt)), (Str.ofString "left", some (.ref left)), (Str.ofString "rows", some (.ref rw0)), (Str.ofString "place", some (.int place tp)), (Str.ofString "told", some (.str (sOf told) tq))]) (n = (rw0, .list (rl.reverse.map fun p => .ref p.1)) :: (pb, .list []) :: (allNw a dx L' tl' tw pb st sdx lam cc cell left ses ol oc vs' ++ rowNw rl))) ?_ (T.length + 1)
    ⟨(tokO T).1, (tokO T).2, 0, [], [], tl1, vs1, L1, _, t1, Nat.le_refl _, Nat.zero_le _, hle1, hlt1, Nat.zero_add _, rfl, rfl, .nil, hv1, hL1, rfl, by simp [rowNw]⟩
  rintro k m n ⟨told, ds, place, done, rl, tl', vs', L', tp, tq, hk, hp, hds, htd, hdl, hR, hR2, hrl, hv', hL', rfl, rfl⟩
  have hrll := hrl.len
  have hvl : vs'.length = ds.length := by rw [strs_length hv', List.length_map]
  dsimp only [List.cons_append, List.nil_append]
  repeat walk_at "m"
  rw [ofs_nil, sOf_ne]
  by_cases h0 : told = []
  · subst h0
    rw [rowsGo_nil, List.append_nil] at hR
    rw [rowsGo_nil] at hR2
    first | refine ite_F (by simp) ?_ | rw [if_neg (by simp)]
    repeat walk_at "m"
    try dsimp only
    walk_at "u"; refine ⟨(rw0, .list (rl.reverse.map fun p => .ref p.1)) :: rowNw rl, (pb, .list []) :: allNw a dx L' tl' tw pb st sdx lam cc cell left ses ol oc vs', ?_, rw0, rl, tl', vs', L', rfl, rfl, ?_, ?_, rfl⟩
    · exact Pick.perm (List.Perm.cons _ (List.perm_append_comm (l₁ := rowNw rl) (l₂ := (pb, .list []) :: allNw a dx L' tl' tw pb st sdx lam cc cell left ses ol oc vs')))
    · rw [← hR, List.reverse_reverse]; exact hrl
    · rw [← hR2]; exact hL'
  · first | refine ite_T (by simpa using h0) ?_ | rw [if_pos (by simpa using h0)]
    walk_at "h"; refine t_weakP ?_
    have hk2 := htd h0
    obtain ⟨k, rfl⟩ : ∃ k', k = k' + 1 := ⟨k - 1, by walk_at "o"⟩
    rw [rowsGo, if_neg h0] at hR hR2
    repeat walk_at "m"
    walk_at "h"; refine t_cutSns (fun _ => by with_unfolding_all rfl) (fun _ => by with_unfolding_all rfl) (by rw [sOf_len]; have hsl : sizeLine = 2 ^ 24 := rfl; walk_at "o") fun tx => ?_
    rw [slice_to T (by walk_at "o") (by walk_at "o"), show ((place : Int)).toNat = place from by walk_at "o"]
    repeat walk_at "m"
    rw [ofs_op, sOf_eq]
    walk_at "h"; refine ite_joinH (fun v m' n' => E6 fun word ds2 tl2 vs2 L2 t2 => A8 (v = .str (sOf word) t2) (StrsAre vs2 (ds2.map one)) (L2 + (ds2.count 10 : Nat) = L + (T.count 10 : Nat)) (ds2.length ≤ ds.length) (done.reverse ++ ((T.take place, word) :: (rowsGo T k (tokO ds2).1 (tokO ds2).2 (T.length - ds2.length)).1) = (rowsOf T).1) ((rowsGo T k (tokO ds2).1 (tokO ds2).2 (T.length - ds2.length)).2 = (rowsOf T).2) (m' = [(Str.ofString "lexer", some (.ref a)), (Str.ofString "text", some (.str (sOf T) tt)), (Str.ofString "left", some (.ref left)), (Str.ofString "rows", some (.ref rw0)), (Str.ofString "place", some (.int place tp)), (Str.ofString "told", some (.str (sOf told) tq))]) (n' = (rw0, .list (rl.reverse.map fun p => .ref p.1)) :: (pb, .list []) :: (allNw a dx L2 tl2 tw pb st sdx lam cc cell left ses ol oc vs2 ++ rowNw rl))) ?_ ?_ ?_
    · intro h40
      have h40 : told = [40] := of_decide_eq_true h40
      rw [if_pos h40] at hR hR2
      repeat walk_at "m"
      walk_at "h"; refine t_callP (ctr_tok2 (dx := dx) (pb := pb) (L := L') (tl := tl') (tw := tw) S hv' (by walk_at "o")) hr (by walk_at "m pick") ?_
      rintro v new n1 ⟨rfl, t2, tl2, vs2, L2, rfl, hv2, hL2, rfl⟩
      walk_at "u"; refine ⟨_, by walk_at "m sub", ?_⟩
      walk_at "n"
      walk_at "u"; exact ⟨_, _, tl2, vs2, L2, t2, rfl, hv2, by walk_at "o", (tokO_le ds).1, hR, hR2, rfl, rfl⟩
    · intro h40
      have h40 : ¬ told = [40] := of_decide_eq_false h40
      rw [if_neg h40] at hR hR2
      repeat walk_at "m"
      walk_at "u"; exact ⟨_, _, tl', vs', L', _, rfl, hv', hL', Nat.le_refl _, hR, hR2, rfl, rfl⟩
    · rintro v m' n' ⟨word, ds2, tl2, vs2, L2, t2, rfl, hv2, hL2, hds2, hR, hR2, rfl, rfl⟩
      have hvl2 : vs2.length = ds2.length := by rw [strs_length hv2, List.length_map]
      have hsz : (rl.reverse.map fun p => (.ref p.1 : Value)).length ≤ sizeLine := by
        have hsl : sizeLine = 2 ^ 24 := rfl
        rw [List.length_map, List.length_reverse]; walk_at "o"
      dsimp only [List.cons_append, List.nil_append]
      repeat walk_at "m"
      rename_i rx _ _ _
      walk_at "h"; refine t_callP (ctr_tok2 (dx := dx) (pb := pb) (L := L2) (tl := tl2) (tw := tw) S hv2 (by walk_at "o")) hr (by walk_at "m pick") ?_
      rintro v new n1 ⟨rfl, t3, tl3, vs3, L3, rfl, hv3, hL3, rfl⟩
      walk_at "u"; refine ⟨_, by walk_at "m sub", ?_⟩
      walk_at "n"
      repeat walk_at "m"
      try dsimp only
      have hlt3 : (tokO ds2).1 ≠ [] → (tokO ds2).2.length < k := fun h => by have := tokO_lt h; walk_at "o"
      have hle3 := (tokO_le ds2).1
      have e : (T.length : Int) - vs2.length = ((T.length - ds2.length : Nat) : Int) := by rw [hvl2]; walk_at "o"
      rw [e]
      walk_at "u"; refine ⟨(rw0, .list ((rl.reverse.map fun p => .ref p.1) ++ [.ref rx])) :: (pb, .list []) :: (allNw a dx L3 tl3 tw pb st sdx lam cc cell left ses ol oc vs3 ++ ((rx, .list [.str (sOf (T.take place)) tx, .str (sOf word) t2]) :: rowNw rl)), ?_, ?_⟩
      · dsimp only [List.cons_append, List.nil_append]
        walk_at "m pick"
      walk_at "u"; refine ⟨k, by walk_at "o", (tokO ds2).1, (tokO ds2).2, T.length - ds2.length, (T.take place, word) :: done, (rx, .str (sOf (T.take place)) tx, .str (sOf word) t2) :: rl, tl3, vs3, L3, _, t3, by walk_at "o", by walk_at "o", by walk_at "o", hlt3, by simp; walk_at "o", ?_, hR2, .cons _ _ _ hrl, hv3, by walk_at "o", rfl, ?_⟩
      · rw [List.reverse_cons, List.append_assoc]; exact hR
      · rw [List.reverse_cons, List.map_append]; rfl

end
section
noncomputable def eqW (x y : List Nat) : Bool := decide ((wsOf (sOf x)).1 = (wsOf (sOf y)).1) && ((wsOf (sOf x)).2.1 == (wsOf (sOf y)).2.1)
noncomputable def lastW (l : List Nat) : Nat := l.getLastD 0
/-- does the word go: its lead equals that of the round before -/
noncomputable def goesW (lv : Nat) (x : List Nat) : Bool := decide (0 < lv) && eqW x (leadOf ((lv : Int) - 1) 0)
noncomputable def signW (lv : Nat) (x : List Nat) : Option (List Nat) := if goesW lv x then some [41, 92, lastW x] else if eqW x (leadOf lv 0) then some [40, 92, lastW x] else none
noncomputable def levGo : List Nat → List (List Nat) → List (List Nat)
  | [], _ => []
  | lv :: r, q => q.filterMap (signW lv) ++ levGo r (q.filter fun x => !goesW lv x)
noncomputable def levOf (ws : List (List Nat)) : List (List Nat) := levGo (List.range (ws.length + 1)) ws
theorem leadOf_len {d t : Int} (hd : d ≤ 10) : (leadOf d t).length ≤ 110 := by
  have key : ∀ (b : Nat) (ls : List (List Nat)), (∀ x ∈ ls, x.length ≤ b) → ls.flatten.length ≤ b * ls.length := by
    intro b ls h
    induction ls with
    | nil => exact Nat.zero_le _
    | cons x r ih =>
      have h1 := h x List.mem_cons_self
      have h2 := ih fun y hy => h y (List.mem_cons_of_mem _ hy)
      rw [List.flatten_cons, List.length_append, List.length_cons, Nat.mul_succ]; walk_at "o"
  have hl : (runs d).length ≤ 10 := by unfold runs; rw [List.length_map, List.length_range]; walk_at "o"
  have h3 := key 11 ((runs d).drop (t.fmod (max d 1)).toNat ++ (runs d).take (t.fmod (max d 1)).toNat) (by
    intro x hx
    have hx : x ∈ runs d := by
      rcases List.mem_append.mp hx with h | h
      · exact List.mem_of_mem_drop h
      · exact List.mem_of_mem_take h
    obtain ⟨k, hk, rfl⟩ := List.mem_map.mp hx
    have := List.mem_range.mp hk
    unfold run
    simp; walk_at "o")
  rw [List.length_append, List.length_drop, List.length_take] at h3
  unfold leadOf
  walk_at "o"
theorem ctr_equalO {w : World} {x y : List Nat} {t u : Tok} {a dx N k b dy N' k' : Addr} {es es' : List (Str × Value)} {cs cs' : List Value} {tb tb' : Tok} (h1 : wsObj (sOf x) t es N) (h2 : wsObj (sOf y) u es' N') (i1 : IntsAre cs (wsOf (sOf x)).1) (i2 : IntsAre cs' (wsOf (sOf y)).1) :
    CallT w 1 59 [.ref a, .ref b] (wsNw a dx es N k cs (wsOf (sOf x)).2.1 tb ++ wsNw b dy es' N' k' cs' (wsOf (sOf y)).2.1 tb') fun v new n1 => A3 (new = []) (n1 = wsNw a dx es N k cs (wsOf (sOf x)).2.1 tb ++ wsNw b dy es' N' k' cs' (wsOf (sOf y)).2.1 tb') (v = .bool (eqW x y)) := ctr_equal h1 h2 i1 i2
theorem t_same {w : World} {c : Cx} {m : Lo} {n : Nw} {α : Type} {t : Sem α} {K : α → Lo → Nw → Prop} {P : α → Prop} (h : TT w c m n t fun b m' n' => P b ∧ m' = m ∧ n' = n) (k : ∀ b, P b → K b m n) : TT w c m n t K :=
  t_mono h fun b m' n' ⟨hp, h1, h2⟩ => by rw [h1, h2]; exact k b hp
theorem last_at {x : List Nat} (h : x ≠ []) : (seqIndex? (-1) (sOf x).length).bind ((sOf x).cps[·]?) = some (lastW x) := by
  have h1 : 1 ≤ x.length := List.length_pos_iff.mpr h
  rw [sOf_len]
  have e : seqIndex? (-1) x.length = some (x.length - 1) := by
    unfold seqIndex?
    simp only [show ((-1 : Int) < 0) = True from by simp, if_true]
    first | refine ite_T (by simp; walk_at "o") ?_ | rw [if_pos (by simp; walk_at "o")]
    congr 1; walk_at "o"
  rw [e]
  show (x.toArray)[x.length - 1]? = _
  rw [List.getElem?_toArray, ← List.getLast?_eq_getElem?]
  unfold lastW
  rw [List.getLastD_eq_getLast?, List.getLast?_eq_some_getLast h]
  rfl
theorem ofs_clb : Str.ofString ")\\" = sOf [41, 92] := by decide +kernel
theorem ofs_opb : Str.ofString "(\\" = sOf [40, 92] := by decide +kernel
noncomputable abbrev lvM (a wl : Addr) (wd : Option Value) (r0 : Addr) (wt lv dp ls sy kk ld : Option Value) : Lo := [(Str.ofString "lexer", some (.ref a)), (Str.ofString "words", some (.ref wl)), (Str.ofString "word", wd), (Str.ofString "signs", some (.ref r0)), (Str.ofString "waits", wt), (Str.ofString "level", lv), (Str.ofString "deep", dp), (Str.ofString "less", ls), (Str.ofString "stay", sy), (Str.ofString "k", kk), (Str.ofString "lead", ld)]
set_option maxHeartbeats 4000000 in
theorem ctr_levels {w : World} {a dx pb wl : Addr} {L : Int} {tl tw : Tok} {st : Value} {vsw : List Value} {ws : List (List Nat)} (hw : StrsAre vsw (ws.map sOf)) (hl : ws.length ≤ 9) (hb : ∀ x ∈ ws, x ≠ [] ∧ x.length ≤ 500) :
    CallT w 3 188 [.ref a, .ref wl] [(a, .inst 146 dx), (dx, .ns (lxE L tl st tw pb)), (pb, .list []), (wl, .list vsw)] fun v new n1 => E3 fun r vs q => A4 (v = .ref r) (new = [(r, .list vs)]) (StrsAre vs ((levOf ws).map sOf)) (n1 = [(a, .inst 146 dx), (dx, .ns (lxE L tl st tw pb)), (pb, .list q), (wl, .list vsw)]) := by
  refine callT_defPH (r := 2) (by k_is) (by k_is) [Str.ofString "lexer", Str.ofString "words"] [Str.ofString "word", Str.ofString "signs", Str.ofString "waits", Str.ofString "level", Str.ofString "deep", Str.ofString "less", Str.ofString "stay", Str.ofString "k", Str.ofString "lead"]
    [(Str.ofString "lexer", some (.ref a)), (Str.ofString "words", some (.ref wl)), (Str.ofString "word", none), (Str.ofString "signs", none), (Str.ofString "waits", none), (Str.ofString "level", none), (Str.ofString "deep", none), (Str.ofString "less", none), (Str.ofString "stay", none), (Str.ofString "k", none), (Str.ofString "lead", none)] rfl rfl (by rfl) (by rfl) (by rfl) (by decide) (by rfl) (by rfl) (by rfl) ?_
  intro c hE hr hg
  have hwl := strs_length hw
  rw [List.length_map] at hwl
  repeat walk_at "m"
  walk_at "h"; refine t_iterL (vs := vsw) (by walk_at "m isl") fun it => ?_
  walk_at "h"; refine ct_forPH (nexts_L (vs := vsw)) (fun i m n => ∃ wd, m = [(Str.ofString "lexer", some (.ref a)), (Str.ofString "words", some (.ref wl)), (Str.ofString "word", wd), (Str.ofString "signs", none), (Str.ofString "waits", none), (Str.ofString "level", none), (Str.ofString "deep", none), (Str.ofString "less", none), (Str.ofString "stay", none), (Str.ofString "k", none), (Str.ofString "lead", none)] ∧ n = [(a, .inst 146 dx), (dx, .ns (lxE L tl st tw pb)), (pb, .list (vsw.take i)), (wl, .list vsw)]) ?_ ⟨none, rfl, rfl⟩ ?_ ?_
  · rintro i m n ⟨wd, rfl, rfl⟩; walk_at "m isl"
  · rintro i v new m n hi ⟨wd, rfl, rfl⟩ ⟨rfl, hvi⟩ d _
    walk_at "n"
    repeat walk_at "m"
    walk_at "h"; refine t_callP (ctr_push (dx := dx) (pb := pb) (L := L) (tl := tl) (tw := tw) (st := st) (vs := vsw.take i) (by rw [List.length_take]; walk_at "o")) (by walk_at "o") (by walk_at "m pick") ?_
    rintro v2 new n1 ⟨rfl, rfl, rfl⟩
    walk_at "u"; refine ⟨_, by walk_at "m sub", ?_⟩
    walk_at "n"
    repeat walk_at "m"
    walk_at "u"; refine ⟨_, .all, _, rfl, ?_⟩
    rw [List.take_add_one, hvi]; rfl
  · rintro m n ⟨wd, rfl, rfl⟩
    rw [List.take_length]
    try dsimp only
    walk_at "h"; refine t_cons ?_
    walk_at "h"; refine t_AsgSwap (names := [Str.ofString "signs", Str.ofString "waits"]) rfl (by rw [env_eq hE]; rfl) ?_
    repeat walk_at "m"
    rename_i r0 tq0 tup0
    walk_at "m swap"
    walk_at "m swap"
    repeat walk_at "m"
    walk_at "m swap"
    repeat walk_at "m"
    walk_at "m swap"
    repeat walk_at "m"
    walk_at "h"; refine t_iterR (by walk_at "m mem") (by walk_at "o") (by walk_at "o") fun it2 => ?_
    rw [show ((vsw.length : Int) + 1).toNat = ws.length + 1 from by walk_at "o"]
    walk_at "h"; refine ct_pick (n' := (it2, .raw (rIter 0 (ws.length + 1))) :: [(r0, .list []), (a, .inst 146 dx), (dx, .ns (lxE L tl st tw pb)), (pb, .list vsw), (wl, .list vsw)]) (by walk_at "m pick") ?_
    walk_at "h"; refine ct_forPH nexts_R (fun i m n => E12 fun q done pv sv wd tq lv dp ls sy kk ld => A8 (m = lvM a wl wd r0 (some (.int (q.length : Nat) tq)) lv dp ls sy kk ld) (n = [(r0, .list sv), (a, .inst 146 dx), (dx, .ns (lxE L tl st tw pb)), (pb, .list pv), (wl, .list vsw)]) (StrsAre pv (q.map sOf)) (StrsAre sv (done.map sOf)) (done ++ levGo ((List.range (ws.length + 1)).drop i) q = levOf ws) (∀ x ∈ q, x ≠ [] ∧ x.length ≤ 500) (q.length ≤ 9) (done.length ≤ 9 * i)) (fun _ _ _ _ => trivial)
      ⟨ws, [], vsw, [], _, _, none, none, none, none, none, none, by rw [← hwl], rfl, hw, .nil, rfl, hb, hl, Nat.zero_le _⟩ ?_ ?_
    · rintro i v new m n hi ⟨q, done, pv, sv, wd, tq, lv, dp, ls, sy, kk, ld, rfl, rfl, hpv, hsv, hgo, hq, hql, hdl⟩ ⟨rfl, ti, rfl⟩ d hd
      rw [List.drop_eq_getElem_cons (by rw [List.length_range]; exact hi), List.getElem_range, levGo] at hgo
      walk_at "n"
      walk_at "h"; refine t_goName (t_asgName ?_)
      repeat walk_at "m"
      walk_at "h"; refine t_AsgSwap (names := [Str.ofString "deep", Str.ofString "less"]) rfl (by rw [env_eq hE]; rfl) ?_
      repeat walk_at "m"
      walk_at "h"; refine t_callP (ctr_lead (d := i) (by walk_at "o") (by walk_at "o")) (by walk_at "o") (by walk_at "m pick") ?_
      rintro v2 new n1 ⟨rfl, rfl, u1, rfl⟩
      walk_at "u"; refine ⟨_, by walk_at "m sub", ?_⟩
      walk_at "n"
      repeat walk_at "m"
      have hll1 := leadOf_len (d := i) (t := 0) (by walk_at "o")
      walk_at "h"; refine t_callP (ctr_Ws (by rw [sOf_len]; walk_at "o")) (by walk_at "o") (by walk_at "m pick") ?_
      rintro v3 new n1 ⟨rfl, A1, D1, es1, N1, K1, cs1, tb1, rfl, rfl, hO1, hcs1⟩
      walk_at "u"; refine ⟨_, by walk_at "m sub", ?_⟩
      dsimp only [List.cons_append, List.nil_append]
      repeat walk_at "m"
      have hll2 := leadOf_len (d := (i : Int) - 1) (t := 0) (by walk_at "o")
      walk_at "h"; refine t_callP (ctr_lead (d := (i : Int) - 1) (by walk_at "o") (by walk_at "o")) (by walk_at "o") (by walk_at "m pick") ?_
      rintro v4 new n1 ⟨rfl, rfl, u2, rfl⟩
      walk_at "u"; refine ⟨_, by walk_at "m sub", ?_⟩
      walk_at "n"
      repeat walk_at "m"
      walk_at "h"; refine t_callP (ctr_Ws (by rw [sOf_len]; walk_at "o")) (by walk_at "o") (by walk_at "m pick") ?_
      rintro v5 new n1 ⟨rfl, A2, D2, es2, N2, K2, cs2, tb2, rfl, rfl, hO2, hcs2⟩
      walk_at "u"; refine ⟨_, by walk_at "m sub", ?_⟩
      dsimp only [List.cons_append, List.nil_append]
      repeat walk_at "m"
      walk_at "m swap"
      walk_at "m swap"
      repeat walk_at "m"
      walk_at "m swap"
      repeat walk_at "m"
      walk_at "m swap"
      repeat walk_at "m"
      walk_at "h"; refine t_iterR (by walk_at "m mem") (by walk_at "o") (by walk_at "o") fun it3 => ?_
      rw [show ((q.length : Int)).toNat = q.length from by walk_at "o"]
      walk_at "h"; refine ct_pick (n' := (it3, .raw (rIter 0 q.length)) :: (r0, .list sv) :: [(N1, .tup [.ref K1, .int (wsOf (sOf (leadOf i 0))).2.1 tb1]), (K1, .tup cs1), (A1, .inst 83 D1), (D1, .ns es1), (N2, .tup [.ref K2, .int (wsOf (sOf (leadOf ((i : Int) - 1) 0))).2.1 tb2]), (K2, .tup cs2), (A2, .inst 83 D2), (D2, .ns es2), (it2, d), (a, .inst 146 dx), (dx, .ns (lxE L tl st tw pb)), (pb, .list pv), (wl, .list vsw)]) (by walk_at "m pick") ?_
      walk_at "h"; refine ct_forPH nexts_R (fun k m n => E6 fun pv sv wd ld kk tst => A4 (m = lvM a wl wd r0 (some (.int (q.length : Nat) tq)) (some (.int (i : Nat) ti)) (some (.ref A1)) (some (.ref A2)) (some (.int (((q.take k).filter fun x => !goesW i x).length : Nat) tst)) kk ld) (n = (r0, .list sv) :: [(N1, .tup [.ref K1, .int (wsOf (sOf (leadOf i 0))).2.1 tb1]), (K1, .tup cs1), (A1, .inst 83 D1), (D1, .ns es1), (N2, .tup [.ref K2, .int (wsOf (sOf (leadOf ((i : Int) - 1) 0))).2.1 tb2]), (K2, .tup cs2), (A2, .inst 83 D2), (D2, .ns es2), (it2, d), (a, .inst 146 dx), (dx, .ns (lxE L tl st tw pb)), (pb, .list pv), (wl, .list vsw)]) (StrsAre pv ((q.drop k ++ (q.take k).filter fun x => !goesW i x).map sOf)) (StrsAre sv ((done ++ (q.take k).filterMap (signW i)).map sOf))) (fun _ _ _ _ => trivial) ⟨pv, sv, _, _, _, _, rfl, rfl, by simpa using hpv, by simpa using hsv⟩ ?_ ?_
      · rintro k v new m n hk ⟨pv, sv, wd, ld, kk, tst, rfl, rfl, hpv, hsv⟩ ⟨rfl, tk, rfl⟩ d3 hd3
        have hx := hq _ (List.getElem_mem hk)
        rw [List.drop_eq_getElem_cons hk, List.cons_append, List.map_cons] at hpv
        have htk : q.take (k + 1) = q.take k ++ [q[k]] := by rw [List.take_add_one, List.getElem?_eq_getElem hk]; rfl
        rw [htk]
        generalize q[k] = x at hpv hx
        obtain ⟨hx0, hxl⟩ := hx
        cases hpv with | @cons _ tx pv _ hpv =>
        have hpl := strs_length hpv
        have hsl := strs_length hsv
        have hf1 := List.length_filter_le (fun x => !goesW i x) (q.take k)
        have hf2 := List.length_filterMap_le (signW i) (q.take k)
        rw [List.length_take] at hf1 hf2
        simp only [List.length_map, List.length_append, List.length_drop] at hpl hsl
        walk_at "n"
        walk_at "h"; refine t_goName (t_asgName ?_)
        repeat walk_at "m"
        walk_at "h"; refine t_callP (ctr_tok1 (dx := dx) (pb := pb) (L := L) (tl := tl) (tw := tw) (st := st) (v := .str (sOf x) tx) (vs := pv) (by walk_at "o")) (by walk_at "o") (by walk_at "m pick") ?_
        rintro v6 new n1 ⟨rfl, rfl, rfl⟩
        walk_at "u"; refine ⟨_, by walk_at "m sub", ?_⟩
        walk_at "n"
        repeat walk_at "m"
        walk_at "h"; refine t_callP (ctr_Ws (by rw [sOf_len]; walk_at "o")) (by walk_at "o") (by walk_at "m pick") ?_
        rintro v7 new n1 ⟨rfl, A3, D3, es3, N3, K3, cs3, tb3, rfl, rfl, ⟨tn3, tt3, bq3, rfl⟩, hcs3⟩
        walk_at "u"; refine ⟨_, by walk_at "m sub", ?_⟩
        dsimp only [List.cons_append, List.nil_append]
        repeat walk_at "mi"
        walk_at "h"; refine t_If ?_
        walk_at "h"; refine t_same (P := fun b => b = goesW i x) ?_ ?_
        · repeat walk_at "m"
          by_cases hi0 : (i : Int) > 0
          · first | refine ite_T (decide_eq_true hi0) ?_ | rw [if_pos (decide_eq_true hi0)]
            repeat walk_at "m"
            walk_at "h"; refine t_callS (ctr_equalO (x := x) (y := leadOf ((i : Int) - 1) 0) (dx := D3) (N := N3) (k := K3) (dy := D2) (N' := N2) (k' := K2) (tb := tb3) (tb' := tb2) ⟨tn3, tt3, bq3, rfl⟩ hO2 hcs3 hcs2) (by walk_at "o") (by dsimp only [List.cons_append, List.nil_append]; walk_at "m pick") ?_
            rintro v8 new n1 ⟨rfl, rfl, rfl⟩
            walk_at "u"; refine ⟨rfl, ?_⟩
            walk_at "n"
            repeat walk_at "m"
            have e : goesW i x = eqW x (leadOf ((i : Int) - 1) 0) := by unfold goesW; rw [decide_eq_true (by walk_at "o"), Bool.true_and]
            rw [e]
            cases eqW x (leadOf ((i : Int) - 1) 0)
            · first | refine ite_F (by decide) ?_ | rw [if_neg (by decide)]
              walk_at "u"; exact ⟨rfl, rfl, rfl⟩
            · first | refine ite_T (by decide) ?_ | rw [if_pos (by decide)]
              repeat walk_at "m"
              walk_at "u"; exact ⟨rfl, rfl, rfl⟩
          · rw [if_neg (by rw [decide_eq_false hi0]; decide)]
            have e : goesW i x = false := by unfold goesW; rw [decide_eq_false (by walk_at "o"), Bool.false_and]
            walk_at "u"; exact ⟨e.symm, rfl, rfl⟩
        · rintro b rfl
          by_cases hgw : goesW i x = true
          · first | refine ite_T hgw ?_ | rw [if_pos hgw]
            have e1 : (q.take k ++ [x]).filter (fun x => !goesW i x) = (q.take k).filter (fun x => !goesW i x) := by rw [List.filter_append]; simp [hgw]
            have e2 : (q.take k ++ [x]).filterMap (signW i) = (q.take k).filterMap (signW i) ++ [[41, 92, lastW x]] := by rw [List.filterMap_append]; simp [signW, hgw]
            repeat walk_at "m"
            walk_at "h"; refine t_tailS rfl (by decide) (last_at hx0) fun _ => ?_
            rw [ofs_clb]
            repeat walk_at "m"
            try dsimp only
            rw [e1, e2]
            refine' ⟨_, ?pk1, pv, _, _, _, _, _, rfl, rfl, ?pk2, ?pk3⟩
            case pk1 => walk_at "m pick"
            case pk2 => exact hpv
            case pk3 => rw [← List.append_assoc, List.map_append]; exact strs_snoc hsv _ _
          · have hgw : goesW i x = false := by simpa using hgw
            rw [if_neg (by rw [hgw]; decide)]
            have e1 : (q.take k ++ [x]).filter (fun x => !goesW i x) = (q.take k).filter (fun x => !goesW i x) ++ [x] := by rw [List.filter_append]; simp [hgw]
            repeat walk_at "mi"
            walk_at "h"; refine t_If ?_
            walk_at "h"; refine t_same (P := fun b => b = eqW x (leadOf i 0)) ?_ ?_
            · repeat walk_at "m"
              walk_at "h"; refine t_callS (ctr_equalO (x := x) (y := leadOf i 0) (dx := D3) (N := N3) (k := K3) (dy := D1) (N' := N1) (k' := K1) (tb := tb3) (tb' := tb1) ⟨tn3, tt3, bq3, rfl⟩ hO1 hcs3 hcs1) (by walk_at "o") (by dsimp only [List.cons_append, List.nil_append]; walk_at "m pick") ?_
              rintro v8 new n1 ⟨rfl, rfl, rfl⟩
              walk_at "u"; refine ⟨rfl, ?_⟩
              walk_at "n"
              repeat walk_at "m"
              cases eqW x (leadOf i 0) <;> exact ⟨rfl, rfl, rfl⟩
            · rintro b rfl
              by_cases hew : eqW x (leadOf i 0) = true
              · first | refine ite_T hew ?_ | rw [if_pos hew]
                have e2 : (q.take k ++ [x]).filterMap (signW i) = (q.take k).filterMap (signW i) ++ [[40, 92, lastW x]] := by rw [List.filterMap_append]; simp [signW, hgw, hew]
                repeat walk_at "m"
                walk_at "h"; refine t_tailS rfl (by decide) (last_at hx0) fun _ => ?_
                rw [ofs_opb]
                repeat walk_at "m"
                walk_at "h"; refine t_callP (ctr_push (dx := dx) (pb := pb) (L := L) (tl := tl) (tw := tw) (st := st) (v := .str (sOf x) tx) (vs := pv) (by walk_at "o")) (by walk_at "o") (by walk_at "m pick") ?_
                rintro v9 new n1 ⟨rfl, rfl, rfl⟩
                walk_at "u"; refine ⟨_, by walk_at "m sub", ?_⟩
                walk_at "n"
                repeat walk_at "m"
                try dsimp only
                have e3 : (((q.take k).filter fun x => !goesW i x).length : Int) + 1 = (((q.take k).filter (fun x => !goesW i x) ++ [x]).length : Nat) := by rw [List.length_append]; rfl
                rw [e1, e3, e2]
                refine' ⟨_, ?pk1, pv ++ [.str (sOf x) tx], _, _, _, _, _, rfl, rfl, ?pk2, ?pk3⟩
                case pk1 => walk_at "m pick"
                case pk2 => rw [← List.append_assoc, List.map_append]; exact strs_snoc hpv _ _
                case pk3 => rw [← List.append_assoc, List.map_append]; exact strs_snoc hsv _ _
              · first | refine ite_F hew ?_ | rw [if_neg hew]
                have e2 : (q.take k ++ [x]).filterMap (signW i) = (q.take k).filterMap (signW i) := by rw [List.filterMap_append]; simp [signW, hgw, hew]
                repeat walk_at "m"
                walk_at "h"; refine t_callP (ctr_push (dx := dx) (pb := pb) (L := L) (tl := tl) (tw := tw) (st := st) (v := .str (sOf x) tx) (vs := pv) (by walk_at "o")) (by walk_at "o") (by walk_at "m pick") ?_
                rintro v9 new n1 ⟨rfl, rfl, rfl⟩
                walk_at "u"; refine ⟨_, by walk_at "m sub", ?_⟩
                walk_at "n"
                repeat walk_at "m"
                try dsimp only
                have e3 : (((q.take k).filter fun x => !goesW i x).length : Int) + 1 = (((q.take k).filter (fun x => !goesW i x) ++ [x]).length : Nat) := by rw [List.length_append]; rfl
                rw [e1, e3, e2]
                refine' ⟨_, ?pk1, pv ++ [.str (sOf x) tx], _, _, _, _, _, rfl, rfl, ?pk2, ?pk3⟩
                case pk1 => walk_at "m pick"
                case pk2 => rw [← List.append_assoc, List.map_append]; exact strs_snoc hpv _ _
                case pk3 => exact hsv
      · rintro m n ⟨pv, sv, wd, ld, kk, tst, rfl, rfl, hpv, hsv⟩
        rw [List.take_length] at hpv hsv ⊢
        rw [List.drop_length, List.nil_append] at hpv
        have hf1 := List.length_filter_le (fun x => !goesW i x) q
        have hf2 := List.length_filterMap_le (signW i) q
        try dsimp only
        repeat walk_at "m"
        try dsimp only
        refine' ⟨_, ?pk1, q.filter fun x => !goesW i x, done ++ q.filterMap (signW i), pv, sv, _, _, _, _, _, _, _, _, rfl, rfl, hpv, hsv, ?_, ?_, by walk_at "o", ?_⟩
        case pk1 => walk_at "m pick"
        · rw [List.append_assoc]; exact hgo
        · intro x hx
          exact hq x (List.mem_filter.mp hx).1
        · rw [List.length_append]; walk_at "o"
    · rintro m n ⟨q, done, pv, sv, wd, tq, lv, dp, ls, sy, kk, ld, rfl, rfl, hpv, hsv, hgo, hq, hql, hdl⟩
      rw [List.drop_of_length_le (by rw [List.length_range]; exact Nat.le_refl _), levGo, List.append_nil] at hgo
      try dsimp only
      repeat walk_at "m"
      try dsimp only
      walk_at "u"; exact ⟨[(r0, .list sv)], [(a, .inst 146 dx), (dx, .ns (lxE L tl st tw pb)), (pb, .list pv), (wl, .list vsw)], .all, r0, sv, pv, rfl, rfl, hgo ▸ hsv, rfl⟩

end
section
noncomputable def ntOf (l : List Nat) : Nat := (wsOf (sOf l)).2.2.2
noncomputable def toldOf (A W : List Nat) : Bool := check (sOf (A ++ List.replicate (ntOf W) 41)) && !check (sOf (A ++ List.replicate (ntOf W) 41 ++ [41, 40]))
theorem rep41 (k : Nat) : (List.replicate k [41]).flatten = List.replicate k 41 := by
  induction k with
  | zero => rfl
  | succ k ih => simp [List.replicate_succ, ih]
theorem ofs_clop : Str.ofString ")(" = sOf [41, 40] := by decide +kernel
theorem wsRun_le (l : List Nat) : ∀ count b n nt, (wsRun l count b n nt).2.2.2 ≤ nt + l.length := by
  induction l with
  | nil => intro count b n nt; exact Nat.le_refl _
  | cons d r ih =>
    intro count b n nt
    rw [wsRun_cons, List.length_cons]
    split
    · have := ih count (b + 1) (n + 1) nt; walk_at "o"
    · split
      · have := ih (wsBump count b) 0 (n + 1) (nt + 1); walk_at "o"
      · show nt ≤ _; walk_at "o"
theorem nt_le (l : List Nat) : ntOf l ≤ l.length := by
  have := wsRun_le l [] 0 0 0
  unfold ntOf wsOf
  rw [show (sOf l).cps.toList = l from by simp]
  walk_at "o"
theorem ctr_told {w : World} {A W : List Nat} {t u : Tok} (hA : A.length ≤ 800) (hW : W.length ≤ 100) :
    CallT w 4 195 [.str (sOf A) t, .str (sOf W) u] [] fun v new n1 => A3 (new = []) (n1 = []) (v = .bool (toldOf A W)) := by
  refine callT_defP (r := 3) (by k_is) (by k_is) [Str.ofString "ahead", Str.ofString "word"] [Str.ofString "closing"] [(Str.ofString "ahead", some (.str (sOf A) t)), (Str.ofString "word", some (.str (sOf W) u)), (Str.ofString "closing", none)] rfl rfl (by rfl) (by rfl) (by rfl) (by decide) (by rfl) (by rfl) (by rfl) ?_
  intro c hE hr hg
  have hn := nt_le W
  repeat walk_at "m"
  refine t_callP (ctr_Ws (by rw [sOf_len]; walk_at "o")) (by walk_at "o") (by walk_at "m pick") ?_
  rintro v3 new n1 ⟨rfl, A1, D1, es1, N1, K1, cs1, tb1, rfl, rfl, ⟨tn1, tt1, bq1, rfl⟩, hcs1⟩
  refine ⟨_, by walk_at "m sub", ?_⟩
  dsimp only [List.cons_append, List.nil_append]
  repeat walk_at "m"
  rw [ofs_cl, show (wsOf (sOf W)).2.2.2 = ntOf W from rfl]
  refine t_mulS (mul_ok _ _ (by walk_at "o") (by walk_at "o") (by decide)) fun _ => ?_
  rw [mul_sOf, Int.toNat_natCast, rep41]
  repeat walk_at "m"
  refine t_callS (ctr_check (by rw [sOf_len, List.length_append, List.length_replicate]; walk_at "o")) (by walk_at "o") (by walk_at "m pick") ?_
  rintro v4 new n1 ⟨rfl, rfl, rfl⟩
  refine ⟨rfl, ?_⟩
  repeat walk_at "m"
  have e : toldOf A W = ((check (sOf (A ++ List.replicate (ntOf W) 41)) == true) && (check (sOf (A ++ List.replicate (ntOf W) 41 ++ [41, 40])) == false)) := by
    unfold toldOf
    cases check (sOf (A ++ List.replicate (ntOf W) 41)) <;> cases check (sOf (A ++ List.replicate (ntOf W) 41 ++ [41, 40])) <;> rfl
  rw [e]
  cases check (sOf (A ++ List.replicate (ntOf W) 41))
  · first | refine ite_F (by decide) ?_ | rw [if_neg (by decide)]
    dsimp only
    exact ⟨[], [], .nil, rfl, rfl, rfl⟩
  · first | refine ite_T (by decide) ?_ | rw [if_pos (by decide)]
    repeat walk_at "m"
    rw [ofs_clop]
    repeat walk_at "m"
    refine t_callS (ctr_check (by rw [sOf_len, List.length_append, List.length_append, List.length_replicate]; simp; walk_at "o")) (by walk_at "o") (by walk_at "m pick") ?_
    rintro v4 new n1 ⟨rfl, rfl, rfl⟩
    refine ⟨rfl, ?_⟩
    repeat walk_at "m"
    dsimp only
    exact ⟨[], [], .nil, rfl, rfl, rfl⟩

end
section
noncomputable def lack1 (A : List Nat) : Int := (((List.range 5).filter fun m => check (sOf (A ++ List.replicate m 41))).map fun m : Nat => (m : Int)).sum
noncomputable def lackGo (ss : List (List Nat)) : Nat → Int
  | 0 => 0
  | k + 1 => lackGo ss k + (if (ss.getD k []).headD 0 = 40 then lack1 (ss.take k).flatten else 0)
noncomputable def lackOf (ss : List (List Nat)) : Int := lackGo ss ss.length
theorem first_at {x : List Nat} (h : x ≠ []) : (seqIndex? 0 (sOf x).length).bind ((sOf x).cps[·]?) = some (x.headD 0) := by
  cases x with
  | nil => exact absurd rfl h
  | cons d r =>
    rw [sOf_len]
    unfold seqIndex?
    simp
theorem flat_le {ls : List (List Nat)} {b : Nat} (h : ∀ x ∈ ls, x.length ≤ b) : ls.flatten.length ≤ b * ls.length := by
  induction ls with
  | nil => exact Nat.zero_le _
  | cons x r ih =>
    have h1 := h x List.mem_cons_self
    have h2 := ih fun y hy => h y (List.mem_cons_of_mem _ hy)
    rw [List.flatten_cons, List.length_append, List.length_cons, Nat.mul_succ]; walk_at "o"
set_option maxHeartbeats 2000000 in
theorem ctr_lacking {w : World} {a : Addr} {vs : List Value} {ss : List (List Nat)} (hv : StrsAre vs (ss.map sOf)) (hl : ss.length ≤ 40) (hs : ∀ x ∈ ss, x ≠ [] ∧ x.length ≤ 10) :
    CallT w 5 200 [.ref a] [(a, .list vs)] fun v new n1 => A3 (new = []) (n1 = [(a, .list vs)]) (∃ t, v = .int (lackOf ss) t) := by
  have hvl := strs_length hv
  rw [List.length_map] at hvl
  refine callT_defCPH (r := 4) (by k_is) (by k_is) [(Str.ofString "signs", .ref a)] [(Str.ofString "signs", some (.ref a)), (Str.ofString "lacking", none), (Str.ofString "k", none)] (fun y => ?_) (show [Str.ofString "signs", Str.ofString "lacking", Str.ofString "k"].Nodup from by decide) (by rfl) ?_ (by decide) (by rfl) (by rfl) (by rfl) ?_
  · rw [lk_cons, lk_cons, lk_cons, lk_nil]
    show _ = (fun y : Str => if y = Str.ofString "signs" then some (Value.ref a) else none) y
    by_cases h : y = Str.ofString "signs"
    · subst h; rfl
    · first | refine ite_F (by simpa using h) ?_ | rw [if_neg (by simpa using h)]
      try dsimp only
      first | refine ite_F h ?_ | rw [if_neg h]
      split
      · rfl
      · split <;> rfl
  · intro k x hx
    rw [List.mem_singleton] at hx
    subst hx
    exact .inl rfl
  intro c hE hcl hcd hr hg
  have hcl : c.env.cells = [(Str.ofString "ahead", c.L + 1)] := hcl
  repeat walk_at "mh"
  show TT w c _ [(c.L + 1, .cell none), (a, .list vs)] _ _
  repeat walk_at "m"
  walk_at "h"; refine t_iterR (by walk_at "m mem") (by walk_at "o") (by walk_at "o") fun it => ?_
  rw [show ((vs.length : Int)).toNat = ss.length from by walk_at "o"]
  walk_at "h"; refine ct_pick (n' := (it, .raw (rIter 0 ss.length)) :: [(c.L + 1, .cell none), (a, .list vs)]) (by walk_at "m pick") ?_
  walk_at "h"; refine ct_forPH nexts_R (fun i m n => E3 fun t kk cv => A2 (m = [(Str.ofString "signs", some (.ref a)), (Str.ofString "lacking", some (.int (lackGo ss i) t)), (Str.ofString "k", kk)]) (n = [(c.L + 1, .cell cv), (a, .list vs)])) (fun _ _ _ _ => trivial) ⟨_, none, none, rfl, rfl⟩ ?_ ?_
  · rintro i v new m n hi ⟨t, kk, cv, rfl, rfl⟩ ⟨rfl, ti, rfl⟩ d hd
    have hx := hs _ (List.getElem_mem hi)
    obtain ⟨tx, hgx⟩ := strs_at hv (i := i) (y := sOf ss[i]) (by rw [List.getElem?_map, List.getElem?_eq_getElem hi]; rfl)
    have hgd : ss.getD i [] = ss[i] := by rw [List.getD_eq_getElem?_getD, List.getElem?_eq_getElem hi]; rfl
    rw [lackGo, hgd]
    generalize ss[i] = x at hx hgx
    intro B hB
    walk_at "n"
    walk_at "h"; refine t_goName (t_asgName ?_)
    repeat walk_at "m"
    walk_at "h"; refine t_tailL (vs := vs) rfl (by walk_at "m isl") (by walk_at "o") (by walk_at "o") (by rw [Int.toNat_natCast]; exact hgx) ?_
    repeat walk_at "m"
    walk_at "h"; refine t_tailS rfl (by decide) (first_at hx.1) fun _ => ?_
    repeat walk_at "m"
    rw [show ((⟨#[x.headD 0]⟩ : Str) == Str.ofString "(") = decide (x.headD 0 = 40) from one_eq _ 40]
    by_cases h40 : x.headD 0 = 40
    · rw [decide_eq_true h40, if_pos rfl]; rw [if_pos h40] at hB
      repeat walk_at "m"
      walk_at "h"; refine t_cutL (ops := fun b => [.ref b, .ref a]) (fun _ => rfl) (fun _ => rfl) (by walk_at "m isl") .none (.int _ _) .none (by decide) (by have hsl : sizeLine = 2 ^ 24 := rfl; walk_at "o") fun b1 => ?_
      rw [pick_to _ (by walk_at "o"), Int.toNat_natCast]
      repeat walk_at "m"
      have hfl := flat_le (ls := ss.take i) (b := 10) (fun x hx => (hs x (List.mem_of_mem_take hx)).2)
      have htl : (ss.take i).length ≤ 40 := by rw [List.length_take]; walk_at "o"
      walk_at "h"; refine t_join (ys := (ss.take i).map sOf) (by walk_at "m isl") (by rw [List.map_take]; exact strs_take hv i) (join_fit _ 10 (fun x hx => (hs x (List.mem_of_mem_take hx)).2) (by walk_at "o")) fun t' => ?_
      rw [join_sOf]
      repeat walk_at "m"
      walk_at "h"; refine t_Comp (cl := [(Str.ofString "ahead", c.L + 1)]) [Str.ofString "many"] (fun _ => rfl) (by rw [cells_eq hcl, env_eq hE]; rfl) (by decide) rfl (by decide) (by decide) ?_
      repeat walk_at "m"
      walk_at "h"; refine t_iterR (by walk_at "m mem") (by decide) (by decide) ?_
      intro it2 acc c2 hC
      have hE2 := hC.ek hE
      have hcl2 := hC.cells
      have hr2 : 4 ≤ c2.r := by rw [hC.r]; exact hr
      generalize hA : (ss.take i).flatten = A at hfl hB
      rw [show (5 : Int).toNat = 5 from rfl]
      walk_at "h"; refine ct_pick (n' := (it2, .raw (rIter 0 5)) :: [(acc, .list []), (it, d), (c.L + 1, .cell (some (.str (sOf A) t'))), (a, .list vs)]) (by walk_at "m pick") ?_
      walk_at "h"; refine ct_compNH nexts_R t_selfR (fun j m n => E2 fun kk ms => A3 (m = [(Str.ofString "many", kk)]) (n = [(acc, .list ms), (it, d), (c.L + 1, .cell (some (.str (sOf A) t'))), (a, .list vs)]) (IntsAre ms (((List.range j).filter fun m => check (sOf (A ++ List.replicate m 41))).map fun m : Nat => (m : Int)))) (fun _ _ _ _ => trivial) ⟨none, [], rfl, rfl, .nil⟩ ?_ ?_
      · rintro j v new m n hj ⟨kk, ms, rfl, rfl, hms⟩ ⟨rfl, tj, rfl⟩ d2 _
        have hml := hms.length
        rw [List.length_map] at hml
        have hfl2 := List.length_filter_le (fun m => check (sOf (A ++ List.replicate m 41))) (List.range j)
        rw [List.length_range] at hfl2
        walk_at "n"
        walk_at "h"; refine t_goName (t_asgName ?_)
        repeat walk_at "m"
        rw [ofs_cl]
        walk_at "h"; refine t_mulS (mul_ok _ _ (by walk_at "o") (by walk_at "o") (by decide)) fun _ => ?_
        rw [mul_sOf, Int.toNat_natCast, rep41]
        repeat walk_at "m"
        walk_at "h"; refine t_callS (ctr_check (by rw [sOf_len, List.length_append, List.length_replicate]; walk_at "o")) (by walk_at "o") (by walk_at "m pick") ?_
        rintro v4 new n1 ⟨rfl, rfl, rfl⟩
        walk_at "u"; refine ⟨rfl, ?_⟩
        walk_at "n"
        repeat walk_at "m"
        by_cases hch : check (sOf (A ++ List.replicate j 41)) = true
        · rw [hch, if_pos (by decide)]
          repeat walk_at "m"
          walk_at "u"; refine ⟨_, .all, _, _, rfl, rfl, ?_⟩
          rw [List.range_succ, List.filter_append, List.filter_cons, if_pos hch, List.filter_nil, List.map_append]
          exact ints_snoc hms _ _
        · have hch : check (sOf (A ++ List.replicate j 41)) = false := by simpa using hch
          rw [hch, if_neg (by decide)]
          walk_at "u"; refine ⟨_, .all, _, _, rfl, rfl, ?_⟩
          rw [List.range_succ, List.filter_append, List.filter_cons, hch, if_neg (by decide), List.filter_nil, List.append_nil]
          exact hms
      · rintro m n ⟨kk, ms, rfl, rfl, hms⟩
        repeat walk_at "m"
        walk_at "h"; refine t_sumI (by walk_at "m isl") hms fun _ => ?_
        repeat walk_at "m"
        try dsimp only
        refine' ⟨_, ?pk1, _, _, _, rfl, rfl⟩
        case pk1 => walk_at "m pick"
    · rw [decide_eq_false h40, if_neg (by decide)]; rw [if_neg h40, Int.add_zero] at hB
      repeat walk_at "m"
      try dsimp only
      walk_at "u"; exact ⟨_, .all, _, _, _, rfl, rfl⟩
  · rintro m n ⟨t, kk, cv, rfl, rfl⟩
    try dsimp only
    repeat walk_at "m"
    try dsimp only
    walk_at "u"; exact ⟨[], [(a, .list vs)], by rw [List.nil_append]; walk_at "m pick", rfl, rfl, t, rfl⟩

end
section
noncomputable def closingOf (ss : List (List Nat)) : List Nat := (List.range ss.length).filter fun k => (ss.getD k []).headD 0 = 41
noncomputable def opensAt (ss : List (List Nat)) (p : Nat) : Nat := ((ss.take p).filter fun x => x.headD 0 = 40).length
noncomputable def bounceGo (ss : List (List Nat)) (n : Nat) : Nat → Nat → Int → Option Int
  | 0, _, _ => none
  | k + 1, rest, tot => if rest < n then (match (closingOf ss)[rest]? with | none => none | some p => bounceGo ss n k (opensAt ss p) (tot + ((n : Int) - (opensAt ss p : Nat)))) else some tot
set_option maxHeartbeats 2000000 in
theorem ctr_bounce {w : World} {a : Addr} {vs : List Value} {ss : List (List Nat)} {cnt fuel : Nat} {tc : Tok} {R : Int} (hv : StrsAre vs (ss.map sOf)) (hl : ss.length ≤ 40) (hs : ∀ x ∈ ss, x ≠ [] ∧ x.length ≤ 10) (hR : bounceGo ss cnt fuel 0 0 = some R) :
    CallT w 2 205 [.ref a, .int cnt tc] [(a, .list vs)] fun v new n1 => A3 (new = []) (n1 = [(a, .list vs)]) (∃ t, v = .int R t) := by
  have hvl := strs_length hv
  rw [List.length_map] at hvl
  refine callT_defCPH (r := 1) (by k_is) (by k_is) [(Str.ofString "signs", .ref a), (Str.ofString "count", .int cnt tc)] [(Str.ofString "count", some (.int cnt tc)), (Str.ofString "closing", none), (Str.ofString "rest", none), (Str.ofString "total", none)] (fun y => ?_) (show [Str.ofString "count", Str.ofString "closing", Str.ofString "rest", Str.ofString "total"].Nodup from by decide) (by rfl) ?_ (by decide) (by rfl) (by rfl) (by rfl) ?_
  · rw [lk_cons, lk_cons, lk_cons, lk_cons, lk_nil]
    show _ = (fun y : Str => if y = Str.ofString "count" then some (Value.int cnt tc) else none) y
    by_cases h : y = Str.ofString "count"
    · subst h; rfl
    · first | refine ite_F (by simpa using h) ?_ | rw [if_neg (by simpa using h)]
      try dsimp only
      first | refine ite_F h ?_ | rw [if_neg h]
      split
      · rfl
      · split
        · rfl
        · split <;> rfl
  · intro k x hx
    rcases List.mem_cons.mp hx with rfl | hx
    · exact .inr ⟨rfl, rfl⟩
    · rw [List.mem_singleton] at hx
      subst hx
      exact .inl rfl
  intro c hE hcl hcd hr hg
  have hcl : c.env.cells = [(Str.ofString "signs", c.L + 1)] := hcl
  repeat walk_at "mh"
  show TT w c _ [(c.L + 1, .cell (some (.ref a))), (a, .list vs)] _ _
  walk_at "h"; refine t_cons ?_
  walk_at "h"; refine t_AsgComp (cl := [(Str.ofString "signs", c.L + 1)]) [Str.ofString "k"] hE (by rfl) (by rw [env_eq hE]; rfl) (fun _ => rfl) (by rw [cells_eq hcl, env_eq hE]; rfl) (by decide) rfl (by decide) (by decide) ?_
  repeat walk_at "m"
  walk_at "h"; refine t_iterR (by walk_at "m mem") (by walk_at "o") (by walk_at "o") ?_
  intro it acc c2 hC
  have hE2 := hC.ek hE
  have hcl2 := hC.cells
  rw [show ((vs.length : Int)).toNat = ss.length from by walk_at "o"]
  walk_at "h"; refine ct_pick (n' := (it, .raw (rIter 0 ss.length)) :: [(acc, .list []), (c.L + 1, .cell (some (.ref a))), (a, .list vs)]) (by walk_at "m pick") ?_
  walk_at "h"; refine ct_compNH nexts_R t_selfR (fun i m n => E2 fun kk cs => A3 (m = [(Str.ofString "k", kk)]) (n = [(acc, .list cs), (c.L + 1, .cell (some (.ref a))), (a, .list vs)]) (IntsAre cs (((List.range i).filter fun k => (ss.getD k []).headD 0 = 41).map fun k : Nat => (k : Int)))) (fun _ _ _ _ => trivial) ⟨none, [], rfl, rfl, .nil⟩ ?_ ?_
  · rintro i v new m n hi ⟨kk, cs, rfl, rfl, hcs⟩ ⟨rfl, ti, rfl⟩ d hd
    have hml := hcs.length
    rw [List.length_map] at hml
    have hfl2 := List.length_filter_le (fun k => decide ((ss.getD k []).headD 0 = 41)) (List.range i)
    rw [List.length_range] at hfl2
    have hx := hs _ (List.getElem_mem hi)
    obtain ⟨tx, hgx⟩ := strs_at hv (i := i) (y := sOf ss[i]) (by rw [List.getElem?_map, List.getElem?_eq_getElem hi]; rfl)
    have hgd : ss.getD i [] = ss[i] := by rw [List.getD_eq_getElem?_getD, List.getElem?_eq_getElem hi]; rfl
    rw [List.range_succ, List.filter_append, List.filter_cons, hgd]
    generalize ss[i] = x at hx hgx
    intro B hB
    walk_at "n"
    walk_at "h"; refine t_goName (t_asgName ?_)
    repeat walk_at "m"
    walk_at "h"; refine t_tailL (vs := vs) rfl (by walk_at "m isl") (by walk_at "o") (by walk_at "o") (by rw [Int.toNat_natCast]; exact hgx) ?_
    repeat walk_at "m"
    walk_at "h"; refine t_tailS rfl (by decide) (first_at hx.1) fun _ => ?_
    repeat walk_at "m"
    rw [show ((⟨#[x.headD 0]⟩ : Str) == Str.ofString ")") = decide (x.headD 0 = 41) from one_eq _ 41]
    by_cases h41 : x.headD 0 = 41
    · rw [decide_eq_true h41, if_pos rfl]; rw [decide_eq_true h41, if_pos rfl] at hB
      repeat walk_at "m"
      walk_at "u"; refine ⟨_, .all, _, _, rfl, rfl, ?_⟩
      rw [List.filter_nil, List.map_append]
      exact ints_snoc hcs _ _
    · rw [decide_eq_false h41, if_neg (by decide)]; rw [decide_eq_false h41, if_neg (by decide)] at hB
      walk_at "u"; refine ⟨_, .all, _, _, rfl, rfl, ?_⟩
      rw [List.filter_nil, List.append_nil]
      exact hcs
  · rintro m n ⟨kk, cs, rfl, rfl, hcs⟩
    walk_at "u"; refine ⟨_, by walk_at "m lup", ?_⟩
    change IntsAre cs ((closingOf ss).map fun k : Nat => (k : Int)) at hcs
    try dsimp only
    walk_at "h"; refine t_cons ?_
    walk_at "h"; refine t_AsgTup rfl (by rw [env_eq hE]; rfl) ?_
    repeat walk_at "m"
    walk_at "h"; refine t_asgTup rfl List.mem_cons_self rfl rfl ?_
    walk_at "h"; refine t_inCons (t_asgName ?_)
    repeat walk_at "m"
    walk_at "h"; refine t_inCons (t_asgName ?_)
    repeat walk_at "m"
    walk_at "h"; refine t_inNil ?_
    repeat walk_at "m"
    walk_at "h"; refine ct_pick (n' := [(acc, .list cs), (c.L + 1, .cell (some (.ref a))), (a, .list vs)]) (by walk_at "m pick") ?_
    walk_at "h"; refine ct_whileH (fun k m n => ∃ (rest : Nat) (tot : Int) (tr : Tok) (tt : Tok), bounceGo ss cnt k rest tot = some R ∧ m = [(Str.ofString "count", some (.int (cnt : Nat) tc)), (Str.ofString "closing", some (.ref acc)), (Str.ofString "rest", some (.int rest tr)), (Str.ofString "total", some (.int tot tt))] ∧ n = [(acc, .list cs), (c.L + 1, .cell (some (.ref a))), (a, .list vs)]) ?_ fuel ⟨0, 0, _, _, hR, rfl, rfl⟩
    rintro k m n ⟨rest, tot, tr, tt, hb, rfl, rfl⟩
    cases k with
    | zero => exact absurd hb (by simp [bounceGo])
    | succ k =>
      rw [bounceGo] at hb
      repeat walk_at "m"
      by_cases hlt : rest < cnt
      · rw [if_pos hlt] at hb
        first | refine ite_T (by simpa using hlt) ?_ | rw [if_pos (by simpa using hlt)]
        cases hp : (closingOf ss)[rest]? with
        | none => rw [hp] at hb; exact absurd hb (by simp)
        | some p =>
          rw [hp] at hb
          dsimp only at hb
          obtain ⟨tp, hcp⟩ := ints_at' hcs (i := rest) (k := (p : Nat)) (by rw [List.getElem?_map, hp]; rfl)
          have hcl' := hcs.length
          have hrl : rest < cs.length := by
            rcases Nat.lt_or_ge rest cs.length with h | h
            · exact h
            · rw [List.getElem?_eq_none h] at hcp; cases hcp
          have hcl3 : (closingOf ss).length ≤ ss.length := by unfold closingOf; have := List.length_filter_le (fun k => decide ((ss.getD k []).headD 0 = 41)) (List.range ss.length); rw [List.length_range] at this; exact this
          rw [List.length_map] at hcl'
          walk_at "h"; refine t_weakP ?_
          repeat walk_at "m"
          walk_at "h"; refine t_Comp (cl := []) [Str.ofString "sign"] (fun _ => rfl) (by rw [env_eq hE]; rfl) (by decide) rfl (by decide) (by decide) ?_
          repeat walk_at "m"
          walk_at "h"; refine t_tailL (vs := cs) rfl (by walk_at "m isl") (by walk_at "o") (by walk_at "o") (by rw [Int.toNat_natCast]; exact hcp) ?_
          repeat walk_at "m"
          walk_at "h"; refine t_cutL (ops := fun b => [.ref b, .ref a]) (fun _ => rfl) (fun _ => rfl) (by walk_at "m isl") .none (.int _ _) .none (by decide) (by have hsl : sizeLine = 2 ^ 24 := rfl; walk_at "o") fun b1 => ?_
          rw [pick_to _ (by walk_at "o"), Int.toNat_natCast]
          have hvt : StrsAre (vs.take p) ((ss.take p).map sOf) := by rw [List.map_take]; exact strs_take hv p
          have hvtl := strs_length hvt
          rw [List.length_map] at hvtl
          have htl : (ss.take p).length ≤ 40 := by rw [List.length_take]; walk_at "o"
          walk_at "h"; refine t_iterL (vs := vs.take p) (by walk_at "m isl") fun it2 => ?_
          intro acc2 c3 hC3
          have hE3 := hC3.ek hE
          walk_at "h"; refine ct_swap2 (ct_compNH (nexts_L (vs := vs.take p)) (fun n Q h => t_selfL n Q h ⟨_, rfl⟩) (fun j m n => E2 fun kk fs => A3 (m = [(Str.ofString "sign", kk)]) (n = [(acc2, .list fs), (b1, .list (vs.take p)), (acc, .list cs), (c.L + 1, .cell (some (.ref a))), (a, .list vs)]) (fs.length = (((ss.take p).take j).filter fun x => x.headD 0 = 40).length)) ?_ ⟨none, [], rfl, rfl, rfl⟩ ?_ ?_)
          · rintro j m n ⟨kk, fs, rfl, rfl, hfs⟩; walk_at "m isl"
          · rintro j v new m n hj ⟨kk, fs, rfl, rfl, hfs⟩ ⟨rfl, hvj⟩ d2 _
            have hj' : j < (ss.take p).length := by walk_at "o"
            have hx := hs _ (List.mem_of_mem_take (List.getElem_mem hj'))
            obtain ⟨tx, hgx⟩ := strs_at hvt (i := j) (y := sOf (ss.take p)[j]) (by rw [List.getElem?_map, List.getElem?_eq_getElem hj']; rfl)
            rw [hvj] at hgx
            cases hgx
            have hflx := List.length_filter_le (fun x : List Nat => decide (x.headD 0 = 40)) ((ss.take p).take j)
            have htl2 : ((ss.take p).take j).length ≤ 40 := by rw [List.length_take]; walk_at "o"
            rw [List.take_add_one, List.getElem?_eq_getElem hj', List.filter_append, List.length_append]
            generalize (ss.take p)[j] = x at hx
            walk_at "n"
            walk_at "h"; refine t_goName (t_asgName ?_)
            repeat walk_at "m"
            walk_at "h"; refine t_tailS rfl (by decide) (first_at hx.1) fun _ => ?_
            repeat walk_at "m"
            rw [show ((⟨#[x.headD 0]⟩ : Str) == Str.ofString "(") = decide (x.headD 0 = 40) from one_eq _ 40]
            by_cases h40 : x.headD 0 = 40
            · first | refine ite_dT h40 ?_ | rw [decide_eq_true h40, if_pos rfl]
              repeat walk_at "m"
              walk_at "u"; refine ⟨_, .all, _, _, rfl, rfl, ?_⟩
              rw [List.length_append, hfs]
              show _ + 1 = _ + (List.filter (fun x : List Nat => decide (x.headD 0 = 40)) [x]).length
              rw [List.filter_cons, if_pos (decide_eq_true h40)]; rfl
            · first | refine ite_dF h40 ?_ | rw [decide_eq_false h40, if_neg (by decide)]
              walk_at "u"; refine ⟨_, .all, _, _, rfl, rfl, ?_⟩
              rw [hfs]
              show _ = _ + (List.filter (fun x : List Nat => decide (x.headD 0 = 40)) [x]).length
              rw [List.filter_cons, decide_eq_false h40, if_neg (by decide)]; rfl
          · rintro m n ⟨kk, fs, rfl, rfl, hfs⟩
            rw [hvtl, List.take_length] at hfs
            change fs.length = opensAt ss p at hfs
            have hfl : fs.length ≤ 40 := by rw [hfs]; unfold opensAt; exact Nat.le_trans (List.length_filter_le _ _) htl
            repeat walk_at "m"
            try dsimp only
            rw [hfs]
            refine' ⟨[(acc, .list cs), (c.L + 1, .cell (some (.ref a))), (a, .list vs)], ?pk1, ?pk2⟩
            case pk2 => walk_at "u"; exact ⟨k, by walk_at "o", opensAt ss p, _, _, _, hb, rfl, rfl⟩
            case pk1 => walk_at "m pick"
      · rw [if_neg hlt] at hb
        cases hb
        first | refine ite_F (by simpa using hlt) ?_ | rw [if_neg (by simpa using hlt)]
        repeat walk_at "m"
        try dsimp only
        walk_at "u"; exact ⟨[], [(a, .list vs)], by rw [List.nil_append]; walk_at "m pick", rfl, rfl, _, rfl⟩

end
section
section
variable {w : World} {c : Cx} {m : Lo} {n : Nw}
theorem Hs.isLR {s : Shared} (H : Hs w c m n s) {a : Addr} {o : Obj} {vs : List Value} {k : Nat} (h : (a, OD.raw o) ∈ n) (h1 : o.cls = .type "list") (h2 : o.data = .seq vs.toArray k) : s.heap.IsList a vs.toArray := by
  obtain ⟨o', ho, hs, _⟩ := H.get h
  subst hs
  walk_at "u"; exact ⟨_, ho, h1, k, h2⟩
theorem t_lenR {a : Addr} {o : Obj} {vs : List Value} {k : Nat} {Q : Value → Lo → Nw → Prop} (ha : (a, OD.raw o) ∈ n) (h1 : o.cls = .type "list") (h2 : o.data = .seq vs.toArray k) (hfit : vs.length ≤ sizeLine) (h : ∀ t', Q (.int vs.length t') m n) : TT w c m n (call (.builtin "len") [.ref a]) Q := fun s H E =>
  Calls.call_len_list (H.isLR ha h1 h2) (by have : sizeLine = 2 ^ 24 := rfl; rw [List.size_toArray]; walk_at "o") ⟨m, n, H.toks _, by rw [List.size_toArray]; exact h _⟩
theorem t_cutR {value lo up st p a o} {vs : List Value} {vl vu vk l u k kk} {Q : Value → Lo → Nw → Prop} {ops : Addr → List Value} (hs : ∀ b, subscripted (.Slice lo up st p) false (.ref a) (.ref b) = operate (ops b) (getItem (.ref a) (.ref b))) (ht : ∀ r, letTemporaryGo value (.ref a) r = pure ()) (ha : (a, OD.raw o) ∈ n) (h1 : o.cls = .type "list") (h2 : o.data = .seq vs.toArray kk) (pl : IsPart vl l) (pu : IsPart vu u) (pk : IsPart vk k) (h0 : k ≠ some 0) (hsz : vs.length ≤ sizeLine)
    (h : ∀ b, Q (.ref b) m ((b, .list (slicePick vs.toArray l u k).toList) :: n)) : ∀ s, Hs w c m n s → ∀ E : Value → Shared → Prop, wpAny (model PG w) c.A (subscriptTail value (.Slice lo up st p) (.ref a) (.ref s.heap.objs.size)) (fun a s' => ∃ m' n', Hs w c m' n' s' ∧ Q a m' n') E { s with heap := s.heap.push { cls := .type "slice", data := .fields #[vl, vu, vk] } } := fun s H E => by
  have HL := H.isLR ha h1 h2
  refine subscriptTail_ops (Heap.IsList.typeIs (s := { s with heap := s.heap.push { cls := .type "slice", data := .fields #[vl, vu, vk] } }) (HL.push _)) list_getitem_lookup
    (wpAny_getItem_list_slice (HL.push _) (Heap.IsSliceOf.new ..) pl pu pk h0 ⟨m, _, (H.pushG _).push (d := .list (slicePick vs.toArray l u k).toList) ⟨0, by simp⟩, h _⟩ (by rw [List.size_toArray]; exact hsz)) (hs _) ht
end
theorem ct_startR {w : World} {c : Cx} {m : Lo} {n : Nw} {sc : Scope} {pos : Pos} {elt : Expr} {gens : List Comprehension} {d : Nat} {target iter : Expr} {ifs : List Expr} {it i k : Nat} {acc : Value} {Q : Flow → Lo → Nw → Prop} (hg : gens[d]? = some ⟨target, iter, ifs, 0⟩)
    (h : CT w c m ((it, .raw (rIter i k)) :: n) (.compLoop (.ListComp elt gens sc pos) d (.ref it) acc c.env) Q) : CT w c m ((it, .raw (rIter i k)) :: n) (.compStart (.ListComp elt gens sc pos) d (.ref it) acc c.env) Q :=
  ct_start hg h (t_selfR (m := m) (w := w) (c := c) n _ h)
noncomputable def signOf (x : Int) : Nat := [40, 41, 34, 92].getD ((x.fdiv 4).fmod 4).toNat 0
noncomputable def wordAt (N D : List Int) (k : Nat) : List Nat := leadOf (D.getD k 0) ((N.getD k 0).fmod 4) ++ [97 + k] ++ [9] ++ [signOf (N.getD k 0)]
noncomputable def drawnOf (N D : List Int) : List (List Nat) := (List.range N.length).map (wordAt N D)
noncomputable def alikeAt (D : List Int) (k : Nat) : List Nat := (List.range k).filter fun m => decide (D.getD m 0 - D.getD k 0 = 0) || decide (D.getD m 0 - D.getD k 0 = 1)
noncomputable def alikeOf (D : List Int) : Nat := ((List.range D.length).map fun k => (alikeAt D k).length).sum
structure Facts (N : List Int) : Prop where
  dep : ∀ d ∈ depthsOf N, 0 ≤ d ∧ d ≤ 9
  dlen : (depthsOf N).length = N.length
  tlen : (textOf N (depthsOf N) (drawnOf N (depthsOf N))).length ≤ 800
  wlen : ∀ x ∈ drawnOf N (depthsOf N), x ≠ [] ∧ x.length ≤ 100
  rows : (rowsOf (textOf N (depthsOf N) (drawnOf N (depthsOf N)))).1.filterMap (fun p => if p.2 = [] then none else some p.2) = drawnOf N (depthsOf N)
  rlen : (rowsOf (textOf N (depthsOf N) (drawnOf N (depthsOf N)))).1.length = 2 * N.length
  rend : (rowsOf (textOf N (depthsOf N) (drawnOf N (depthsOf N)))).2 = []
  told : ∀ p ∈ (rowsOf (textOf N (depthsOf N) (drawnOf N (depthsOf N)))).1, p.2 ≠ [] → toldOf p.1 p.2 = true
  ahead : ∀ p ∈ (rowsOf (textOf N (depthsOf N) (drawnOf N (depthsOf N)))).1, p.1.length ≤ 800 ∧ p.2.length ≤ 100
  slen : (levOf (drawnOf N (depthsOf N))).length = 2 * N.length
  sone : ∀ x ∈ levOf (drawnOf N (depthsOf N)), x ≠ [] ∧ x.length ≤ 10
  chk : check (sOf (levOf (drawnOf N (depthsOf N))).flatten) = true
  lack : lackOf (levOf (drawnOf N (depthsOf N))) = alikeOf (depthsOf N)
  boun : ∃ fuel, bounceGo (levOf (drawnOf N (depthsOf N))) N.length fuel 0 0 = some (depthsOf N).sum
noncomputable def fnIs (K : Frag) (a : Addr) (body : List Stmt) (scope : Scope) : Prop := ∃ oc od osl name qual params dV kV doc pm an cdv ct, K.lookup a = some ⟨oc, od, .func (fnOf name qual params body scope dV kV doc pm an cdv ct), osl⟩
theorem fn_same {K : Frag} {a : Addr} {body body' : List Stmt} {scope scope' : Scope} {oc : Value} {od : Option Addr} {osl : Array (Option Value)} {name qual : Str} {params : Arguments} {dV kV doc pm : Value} {an : Option Addr} {cdv ct : Value} (h : fnIs K a body scope) (h2 : K.lookup a = some ⟨oc, od, .func (fnOf name qual params body' scope' dV kV doc pm an cdv ct), osl⟩) : body = body' ∧ scope = scope' := by
  obtain ⟨_, _, _, _, _, _, _, _, _, _, _, _, _, hF⟩ := h
  rw [hF] at h2
  cases h2
  walk_at "u"; exact ⟨rfl, rfl⟩
theorem seqIdx {i n : Nat} (h : i < n) : seqIndex? (i : Int) n = some i := by
  unfold seqIndex?
  simp only [show ¬ ((i : Int) < 0) from by walk_at "o", if_false]
  first | refine ite_T (by simp; walk_at "o") ?_ | rw [if_pos (by simp; walk_at "o")]
  simp
theorem five {a b c d e : Int} {t1 t2 t3 t4 t5 : Tok} {i : Nat} (h : i < 5) : ∃ x t, ([.int a t1, .int b t2, .int c t3, .int d t4, .int e t5] : List Value)[i]? = some (.int x t) := by
  match i, h with
  | 0, _ => exact ⟨_, _, rfl⟩
  | 1, _ => exact ⟨_, _, rfl⟩
  | 2, _ => exact ⟨_, _, rfl⟩
  | 3, _ => exact ⟨_, _, rfl⟩
  | 4, _ => exact ⟨_, _, rfl⟩
theorem abc_at {i : Nat} (h : i < 5) : (seqIndex? (i : Int) (Str.ofString "abcde").length).bind ((Str.ofString "abcde").cps[·]?) = some (97 + i) := by
  match i, h with
  | 0, _ => decide +kernel
  | 1, _ => decide +kernel
  | 2, _ => decide +kernel
  | 3, _ => decide +kernel
  | 4, _ => decide +kernel
theorem sign_at (x : Int) {k : Int} (hk : k = (x.fdiv 4).fmod 4) : (seqIndex? k (Str.ofString "()\"\\").length).bind ((Str.ofString "()\"\\").cps[·]?) = some (signOf x) ∧ 0 ≤ k ∧ k < 4 := by
  subst hk
  have h0 : 0 ≤ (x.fdiv 4).fmod 4 := Int.fmod_nonneg_of_pos _ (by decide)
  have h1 : (x.fdiv 4).fmod 4 < 4 := Int.fmod_lt_of_pos _ (by decide)
  walk_at "u"; refine ⟨?_, h0, h1⟩
  unfold signOf
  generalize (x.fdiv 4).fmod 4 = k at h0 h1
  have : k = 0 ∨ k = 1 ∨ k = 2 ∨ k = 3 := by walk_at "o"
  rcases this with rfl | rfl | rfl | rfl <;> decide +kernel
theorem count_nl (l : List Nat) : Txt.count (sOf l) (Str.ofString "\n") = (l.count 10 : Nat) := by
  rw [show Str.ofString "\n" = (⟨#[10]⟩ : Str) from by decide +kernel, PyProof.Rows.count_cnt]
  rw [show (sOf l).cps.toList = l from by simp]
  induction l with
  | nil => rfl
  | cons d r ih =>
    rw [PyProof.Rows.cnt_cons, ih, List.count_cons]
    by_cases h : d = 10
    · subst h; simp; walk_at "o"
    · simp [h]
theorem RowsAre.get {rl : List (Addr × Value × Value)} {ys : List (List Nat × List Nat)} (h : RowsAre rl ys) : ∀ {j : Nat} {q : List Nat × List Nat}, ys[j]? = some q → ∃ r t u, rl[j]? = some (r, .str (sOf q.1) t, .str (sOf q.2) u) := by
  induction h with
  | nil => intro j q h; simp at h
  | cons a t u _ ih =>
    intro j q h
    cases j with
    | zero => simp at h; subst h; exact ⟨a, t, u, rfl⟩
    | succ j => exact ih (by simpa using h)
theorem RowsAre.getR {rl : List (Addr × Value × Value)} {ys : List (List Nat × List Nat)} (h : RowsAre rl ys.reverse) {j : Nat} {q : List Nat × List Nat} (hq : ys[j]? = some q) : ∃ r t u, rl.reverse[j]? = some (r, .str (sOf q.1) t, .str (sOf q.2) u) ∧ (r, OD.list [.str (sOf q.1) t, .str (sOf q.2) u]) ∈ rowNw rl := by
  have hl := h.len
  rw [List.length_reverse] at hl
  have hj : j < ys.length := by
    rcases Nat.lt_or_ge j ys.length with h' | h'
    · exact h'
    · rw [List.getElem?_eq_none h'] at hq; cases hq
  obtain ⟨r, t, u, e⟩ := h.get (j := ys.length - 1 - j) (q := q) (by rw [List.getElem?_reverse (by walk_at "o"), ← hq]; congr 1; walk_at "o")
  walk_at "u"; refine ⟨r, t, u, by rw [List.getElem?_reverse (by walk_at "o"), hl]; exact e, ?_⟩
  exact List.mem_map.mpr ⟨_, List.mem_of_getElem? e, rfl⟩
noncomputable abbrev lawM (dr tx lf lx rw sg al : Option Value) : Lo := [(Str.ofString "drawn", dr), (Str.ofString "text", tx), (Str.ofString "left", lf), (Str.ofString "lexer", lx), (Str.ofString "rows", rw), (Str.ofString "signs", sg), (Str.ofString "alike", al)]
set_option maxHeartbeats 4000000 in
theorem law_tt {w : World} {c : Cx} {a : Addr} {o : Obj} {vs : List Value} {k0 : Nat} {ns : List Int} {body : List Stmt} {scope : Scope} (hF : fnIs (hd.heap_1 w.params) 210 body scope) (hE : EnvK c scope) (hcl : c.env.cells = cellsFrom (c.L + 1) scope.names [])
    (hr : 12 ≤ c.r) (hg : c.gen = false) (ho1 : o.cls = .type "list") (ho2 : o.data = .seq vs.toArray k0) (hi : IntsAre vs ns) (hl : ns.length ≤ 63) (hfacts : ∀ N : List Int, N.length = 4 ∨ N.length = 5 → Facts N) :
    TT w c (lawM none none none none none none none) [(c.L + 4, .cell none), (c.L + 3, .cell none), (c.L + 2, .cell none), (c.L + 1, .cell (some (.ref a))), (152, .raw (tabObj #[])), (a, .raw o)] (execs body c.env) fun fl _ n2 => fl = .ret (.bool true) ∧ ∃ ps, Pick [(152, .raw (tabObj ps)), (a, .raw o)] n2 := by
  obtain ⟨rfl, rfl⟩ := fn_same hF (by k_is)
  clear hF
  have hcl : c.env.cells = [(Str.ofString "depths", c.L + 4), (Str.ofString "numbers", c.L + 3), (Str.ofString "count", c.L + 2), (Str.ofString "script", c.L + 1)] := hcl
  have hv63 : vs.length ≤ 63 := by have hvl := hi.length; walk_at "o"
  clear hl
  repeat walk_at "m"
  walk_at "h"; refine t_lenR (by walk_at "m mem") ho1 ho2 (by have hsl : sizeLine = 2 ^ 24 := rfl; walk_at "o") fun _ => ?_
  repeat walk_at "m"
  rename_i _ _ _ tcnt
  obtain ⟨K, hK, hK45⟩ : ∃ K : Nat, 4 + ((vs.length : Int).fdiv 2).fmod 2 = K ∧ (K = 4 ∨ K = 5) := by
    have h0 : 0 ≤ ((vs.length : Int).fdiv 2).fmod 2 := Int.fmod_nonneg_of_pos _ (by decide)
    have h1 : ((vs.length : Int).fdiv 2).fmod 2 < 2 := Int.fmod_lt_of_pos _ (by decide)
    walk_at "u"; exact ⟨(4 + ((vs.length : Int).fdiv 2).fmod 2).toNat, by walk_at "o", by walk_at "o"⟩
  rw [hK]
  have hK4 : 4 ≤ K := by walk_at "o"
  have hK5 : K ≤ 5 := by walk_at "o"
  have hKw := Kp.mk hK45
  clear hK hK45
  walk_at "h"; refine t_Assign (by rw [env_eq hE]; rfl) ?_
  walk_at "h"; refine t_Comp (cl := [(Str.ofString "script", c.L + 1), (Str.ofString "count", c.L + 2)]) [Str.ofString "k"] (fun _ => rfl) (by rw [cells_eq hcl, env_eq hE]; rfl) (by decide) rfl (by decide) (by decide) ?_
  repeat walk_at "m"
  walk_at "h"; refine t_iterR (by walk_at "m mem") (by walk_at "o") (by walk_at "o") ?_
  intro it1 acc1 c2 hC2
  have hE2 := hC2.ek hE
  have hcl2 := hC2.cells
  rw [Int.toNat_natCast]
  walk_at "h"; refine ct_pick (n' := (it1, .raw (rIter 0 K)) :: [(acc1, .list []), (c.L + 4, .cell none), (c.L + 3, .cell none), (c.L + 2, .cell (some (.int K tcnt))), (c.L + 1, .cell (some (.ref a))), (152, .raw (tabObj #[])), (a, .raw o)]) (by walk_at "m pick") ?_
  walk_at "h"; refine ct_compNH nexts_R t_selfR (fun i m n => E3 fun kk xs N => A4 (m = [(Str.ofString "k", kk)]) (n = [(acc1, .list xs), (c.L + 4, .cell none), (c.L + 3, .cell none), (c.L + 2, .cell (some (.int K tcnt))), (c.L + 1, .cell (some (.ref a))), (152, .raw (tabObj #[])), (a, .raw o)]) (IntsAre xs N) (N.length = i)) (fun _ _ _ _ => trivial) ⟨none, [], [], rfl, rfl, .nil, rfl⟩ ?_ ?_
  · rintro i v new m n hi2 ⟨kk, xs, N, rfl, rfl, hxs, hN⟩ ⟨rfl, ti, rfl⟩ d hd
    have hxl := hxs.length
    walk_at "n"
    walk_at "h"; refine t_goName (t_asgName ?_)
    repeat walk_at "m"
    rename_i t1 t2 t3 t4 t5 tp
    obtain ⟨x, tx, hx⟩ := five (a := 20) (b := 32) (c := 73) (d := 380) (e := 134) (t1 := t1) (t2 := t2) (t3 := t3) (t4 := t4) (t5 := t5) (i := i) (by walk_at "o")
    walk_at "h"; refine t_tailT (j := i) rfl (by walk_at "m mem") (by walk_at "o") (by walk_at "o") (seqIdx (n := 5) (by walk_at "o")) hx ?_
    repeat walk_at "m"
    walk_at "h"; refine t_cutR (ops := fun b => [.ref a, .ref b]) (fun _ => rfl) (fun _ => rfl) (by walk_at "m mem") ho1 ho2 (.int _ _) (.int _ _) (.int _ _) (by simp; walk_at "o") (by have hsl : sizeLine = 2 ^ 24 := rfl; walk_at "o") fun b1 => ?_
    repeat walk_at "m"
    walk_at "h"; refine t_sumI (by walk_at "m isl") (hi.pick _ _ _) fun _ => ?_
    repeat walk_at "m"
    walk_at "u"; refine ⟨_, by walk_at "m pick", _, _, N ++ [_], rfl, rfl, ints_snoc hxs _ _, by rw [List.length_append, hN]; rfl⟩
  · rintro m n ⟨kk, xs, N, rfl, rfl, hxs, hN⟩
    clear hv63
    have hNF := hfacts N (by rw [hN]; exact hKw.out)
    have hxl := hxs.length
    repeat walk_at "m"
    walk_at "h"; refine t_callS (ctr_depths (vs := xs) hxs (by walk_at "o")) (by walk_at "o") (by walk_at "m pick") ?_
    rintro v new n1 ⟨rfl, dp, dvs, rfl, rfl, hdv⟩
    walk_at "u"; refine ⟨rfl, ?_⟩
    dsimp only [List.cons_append, List.nil_append]
    repeat walk_at "m"
    have hD := hNF.dep
    have hDl := hNF.dlen
    generalize hDg : depthsOf N = D at hdv hD hDl
    have hdl := hdv.length
    walk_at "h"; refine t_AsgComp (cl := [(Str.ofString "numbers", c.L + 3), (Str.ofString "depths", c.L + 4)]) [Str.ofString "k"] hE (by rfl) (by rw [env_eq hE]; rfl) (fun _ => rfl) (by rw [cells_eq hcl, env_eq hE]; rfl) (by decide) rfl (by decide) (by decide) ?_
    repeat walk_at "m"
    walk_at "h"; refine t_iterR (by walk_at "m mem") (by walk_at "o") (by walk_at "o") ?_
    intro it2 acc2 c3 hC3
    have hE3 := hC3.ek hE
    have hcl3 := hC3.cells
    have hr3 : 12 ≤ c3.r := by rw [hC3.r]; exact hr
    have hg3 : c3.gen = false := by rw [hC3.gen]; exact hg
    rw [Int.toNat_natCast]
    walk_at "h"; refine ct_pick (n' := (it2, .raw (rIter 0 K)) :: [(acc2, .list []), (dp, .list dvs), (acc1, .list xs), (c.L + 4, .cell (some (.ref dp))), (c.L + 3, .cell (some (.ref acc1))), (c.L + 2, .cell (some (.int K tcnt))), (c.L + 1, .cell (some (.ref a))), (152, .raw (tabObj #[])), (a, .raw o)]) (by walk_at "m pick") ?_
    walk_at "h"; refine ct_compNH nexts_R t_selfR (fun i m n => E2 fun kk ws => A3 (m = [(Str.ofString "k", kk)]) (n = [(acc2, .list ws), (dp, .list dvs), (acc1, .list xs), (c.L + 4, .cell (some (.ref dp))), (c.L + 3, .cell (some (.ref acc1))), (c.L + 2, .cell (some (.int K tcnt))), (c.L + 1, .cell (some (.ref a))), (152, .raw (tabObj #[])), (a, .raw o)]) (StrsAre ws (((List.range i).map (wordAt N D)).map sOf))) (fun _ _ _ _ => trivial) ⟨none, [], rfl, rfl, .nil⟩ ?_ ?_
    · rintro i v new m n hi2 ⟨kk, ws, rfl, rfl, hws⟩ ⟨rfl, ti, rfl⟩ d hd
      have hwl := strs_length hws
      simp only [List.length_map, List.length_range] at hwl
      have hiN : i < N.length := by walk_at "o"
      have hiD : i < D.length := by walk_at "o"
      obtain ⟨tn, gN⟩ := ints_at' hxs (List.getElem?_eq_getElem hiN)
      obtain ⟨td, gD⟩ := ints_at' hdv (List.getElem?_eq_getElem hiD)
      have hD2 := hD _ (List.getElem_mem hiD)
      have eN : N.getD i 0 = N[i] := by rw [List.getD_eq_getElem?_getD, List.getElem?_eq_getElem hiN]; rfl
      have eD : D.getD i 0 = D[i] := by rw [List.getD_eq_getElem?_getD, List.getElem?_eq_getElem hiD]; rfl
      have hW : wordAt N D i = leadOf D[i] (N[i].fmod 4) ++ [97 + i] ++ [9] ++ [signOf N[i]] := by unfold wordAt; rw [eN, eD]
      generalize N[i] = x at gN hW
      generalize D[i] = dd at gD hD2 hW
      walk_at "n"
      walk_at "h"; refine t_goName (t_asgName ?_)
      repeat walk_at "m"
      walk_at "h"; refine t_tailL (vs := dvs) rfl (by walk_at "m isl") (by walk_at "o") (by walk_at "o") (by rw [Int.toNat_natCast]; exact gD) ?_
      repeat walk_at "m"
      walk_at "h"; refine t_tailL (vs := xs) rfl (by walk_at "m isl") (by walk_at "o") (by walk_at "o") (by rw [Int.toNat_natCast]; exact gN) ?_
      repeat walk_at "m"
      walk_at "h"; refine t_callP (ctr_lead (d := dd) (by walk_at "o") (by walk_at "o")) (by walk_at "o") (by walk_at "m pick") ?_
      rintro v2 new n1 ⟨rfl, rfl, u1, rfl⟩
      walk_at "u"; refine ⟨_, by walk_at "m sub", ?_⟩
      have hll := leadOf_len (d := dd) (t := x.fmod 4) (by walk_at "o")
      walk_at "n"
      repeat walk_at "m"
      walk_at "h"; refine t_tailS rfl (by simp; walk_at "o") (abc_at (by walk_at "o")) fun _ => ?_
      repeat walk_at "m"
      rw [ofs_tab]
      repeat walk_at "m"
      walk_at "h"; refine t_tailL (vs := xs) rfl (by walk_at "m isl") (by walk_at "o") (by walk_at "o") (by rw [Int.toNat_natCast]; exact gN) ?_
      repeat walk_at "m"
      obtain ⟨hs1, hs2, hs4⟩ := sign_at x rfl
      walk_at "h"; refine t_tailS rfl (by simp; walk_at "o") hs1 fun _ => ?_
      repeat walk_at "m"
      walk_at "u"; refine ⟨_, .all, _, _, rfl, rfl, ?_⟩
      rw [List.range_succ, List.map_append, List.map_append, List.map_singleton, hW]
      exact strs_snoc hws _ _
    · rintro m n ⟨kk, ws, rfl, rfl, hws⟩
      walk_at "u"; refine ⟨_, by walk_at "m lup", ?_⟩
      rw [← hN] at hws
      change StrsAre ws ((drawnOf N D).map sOf) at hws
      repeat walk_at "m"
      have hWl := hNF.wlen
      have hT := hNF.tlen
      have hrows := hNF.rows
      have hrlen := hNF.rlen
      have hrend := hNF.rend
      have htold := hNF.told
      have hah := hNF.ahead
      have hslen := hNF.slen
      have hsone := hNF.sone
      have hchk := hNF.chk
      have hlack := hNF.lack
      obtain ⟨fuel, hboun⟩ := hNF.boun
      have hWn : (drawnOf N D).length = N.length := by unfold drawnOf; rw [List.length_map, List.length_range]
      rw [hDg] at hWl hT hrows hrlen hrend htold hah hslen hsone hchk hlack hboun
      walk_at "h"; refine t_callS (ctr_text hxs hdv hws (by walk_at "o") (by walk_at "o") hDl hWn (fun d hd => ⟨(hD d hd).1, by have := (hD d hd).2; walk_at "o"⟩) (fun x hx => (hWl x hx).2)) (by walk_at "o") (by walk_at "m pick") ?_
      rintro v new n1 ⟨rfl, rfl, utx, rfl⟩
      walk_at "u"; refine ⟨rfl, ?_⟩
      walk_at "n"
      generalize drawnOf N D = W at hws hWl hT hrows hrlen hrend htold hah hslen hsone hchk hlack hboun hWn
      generalize hTg : textOf N D W = T at hT hrows hrlen hrend htold hah
      repeat walk_at "m"
      walk_at "h"; refine t_listS (by rw [sOf_len]; have hsl : sizeLine = 2 ^ 24 := rfl; walk_at "o") fun lf lvs hlvs => ?_
      have hlvs : StrsAre lvs (T.map one) := hlvs
      repeat walk_at "m"
      walk_at "h"; refine t_callP (ctr_stream (left := lf)) (by walk_at "o") (by walk_at "m pick") ?_
      rintro v new n1 ⟨⟨ps, rfl⟩, st, sdx, lam, cc, cell, ses, ol, oc, rfl, S, rfl⟩
      walk_at "u"; refine ⟨_, by walk_at "m sub", ?_⟩
      dsimp only [List.cons_append, List.nil_append]
      repeat walk_at "m"
      walk_at "h"; refine t_callP (ctr_lex (v := .ref st) rfl) (by walk_at "o") (by walk_at "m pick") ?_
      rintro v new n1 ⟨rfl, lx, dx, pb, tl, tw, rfl, rfl⟩
      walk_at "u"; refine ⟨_, by walk_at "m sub", ?_⟩
      dsimp only [List.cons_append, List.nil_append]
      repeat walk_at "m"
      walk_at "h"; refine t_callP (ctr_rows (dx := dx) (pb := pb) (L := 1) (tl := tl) (tw := tw) S hlvs (by walk_at "o")) (by walk_at "o") (by dsimp only [allNw, strNw]; walk_at "m pick") ?_
      rintro v new n1 ⟨rw0, rl, tl2, vs2, L2, rfl, rfl, hrl, hL2, rfl⟩
      walk_at "u"; refine ⟨_, by dsimp only [allNw, strNw]; walk_at "m sub", ?_⟩
      rw [hrend] at hL2
      rw [List.cons_append]
      generalize hRs : (rowsOf T).1 = rs at hrows hrlen htold hah hrl
      have hrll := hrl.len
      rw [List.length_reverse] at hrll
      walk_at "h"; refine t_pick (Pick.trans ?pk (Pick.perm (List.Perm.cons _ List.perm_append_comm))) (n' := [(rw0, .list (rl.reverse.map fun p => .ref p.1)), (acc2, .list ws), (dp, .list dvs), (c.L + 4, .cell (some (.ref dp))), (c.L + 2, .cell (some (.int K tcnt))), (lx, .inst 146 dx), (dx, .ns (lxE L2 tl2 (.ref st) tw pb)), (pb, .list []), (152, .raw (tabObj ps)), (a, .raw o)] ++ rowNw rl) ?_
      case pk => dsimp only [List.cons_append, List.nil_append]; walk_at "m pick"
      dsimp only [List.cons_append, List.nil_append]
      repeat walk_at "mi"
      walk_at "h"; refine t_If ?_
      repeat walk_at "m"
      walk_at "h"; refine t_Comp (cl := []) [Str.ofString "ahead", Str.ofString "word"] (fun _ => rfl) (by rw [env_eq hE]; rfl) (by decide) rfl (by decide) (by decide) ?_
      repeat walk_at "m"
      walk_at "h"; refine t_iterL (vs := rl.reverse.map fun p => .ref p.1) (by walk_at "m isl") fun it3 => ?_
      intro acc3 c4 hCc4
      have hEc4 := hCc4.ek hE
      have hrc4 : 12 ≤ c4.r := by rw [hCc4.r]; exact hr
      walk_at "h"; refine ct_swap2 (ct_compNH (nexts_L (vs := rl.reverse.map fun p => .ref p.1)) (fun n Q h => t_selfL n Q h ⟨_, rfl⟩) (fun j m n => E3 fun m1 m2 xs => A3 (m = [(Str.ofString "ahead", m1), (Str.ofString "word", m2)]) (n = (acc3, .list xs) :: (rw0, .list (rl.reverse.map fun p => .ref p.1)) :: (acc2, .list ws) :: (dp, .list dvs) :: (c.L + 4, .cell (some (.ref dp))) :: (c.L + 2, .cell (some (.int K tcnt))) :: (lx, .inst 146 dx) :: (dx, .ns (lxE L2 tl2 (.ref st) tw pb)) :: (pb, .list []) :: (152, .raw (tabObj ps)) :: (a, .raw o) :: rowNw rl) (StrsAre xs (((rs.take j).filterMap (fun p => if p.2 = [] then none else some p.2)).map sOf))) ?_ ⟨none, none, [], rfl, rfl, .nil⟩ ?_ ?_)
      · rintro j m n ⟨m1, m2, xs, rfl, rfl, hxs⟩; walk_at "m isl"
      · rintro j v new m n hj ⟨m1, m2, xs, rfl, rfl, hxs⟩ ⟨rfl, hvj⟩ d2 hd2
        subst hd2
        have hxl := strs_length hxs
        have hfl := List.length_filterMap_le (fun p => if p.2 = [] then none else some p.2) (rs.take j)
        rw [List.length_map] at hxl
        rw [List.length_take] at hfl
        have hj' : j < rs.length := by rw [List.length_map, List.length_reverse] at hj; walk_at "o"
        have hqm := List.getElem_mem hj'
        obtain ⟨r, t1, t2, hg1, hg2⟩ := hrl.getR (List.getElem?_eq_getElem hj')
        rw [List.getElem?_map, hg1] at hvj
        cases hvj
        have htk : rs.take (j + 1) = rs.take j ++ [rs[j]] := by rw [List.take_add_one, List.getElem?_eq_getElem hj']; rfl
        rw [htk, List.filterMap_append]
        have hah2 := hah _ hqm
        have htold2 := htold _ hqm
        generalize rs[j] = q at hg2 hah2 htold2
        obtain ⟨qa, qw⟩ := q
        walk_at "n"
        walk_at "h"; refine t_goTupL (by walk_at "m mem") ?_
        walk_at "h"; refine t_asgTupL (v1 := .str (sOf qa) t1) (v2 := .str (sOf qw) t2) (by repeat (first | exact hg2 | refine List.Mem.tail _ ?_)) rfl rfl ?_
        walk_at "h"; refine t_inCons (t_asgName ?_)
        repeat walk_at "m"
        walk_at "h"; refine t_inCons (t_asgName ?_)
        repeat walk_at "m"
        walk_at "h"; refine t_inNil ?_
        repeat walk_at "m"
        rw [ofs_nil, sOf_ne]
        by_cases hq : qw = []
        · first | refine ite_dF (fun h => h hq) ?_ | rw [decide_eq_false (fun h => h hq), if_neg (by decide)]
          walk_at "u"; refine ⟨_, .all, _, _, _, rfl, rfl, ?_⟩
          rw [List.filterMap_cons, if_pos hq]
          simpa using hxs
        · first | refine ite_dT hq ?_ | rw [decide_eq_true hq, if_pos rfl]
          repeat walk_at "m"
          walk_at "u"; refine' ⟨_, ?pk1, _, _, _, rfl, rfl, ?pk2⟩
          case pk1 => walk_at "m pick"
          case pk2 =>
            rw [List.filterMap_cons, if_neg hq, List.map_append]
            exact strs_snoc hxs _ _
      · rintro m n ⟨m1, m2, xs1, rfl, rfl, hxs1⟩
        rw [List.length_map, List.length_reverse, hrll, List.take_length, hrows] at hxs1
        repeat walk_at "m"
        walk_at "h"; refine t_neLS (ys := W.map sOf) (zs := W.map sOf) (by walk_at "m isl") (by walk_at "m isl") hxs1 hws ?_
        rw [decide_eq_true rfl]
        repeat walk_at "m"
        have hszr : (rl.reverse.map fun p => (.ref p.1 : Value)).length ≤ sizeLine := by
          have hsl : sizeLine = 2 ^ 24 := rfl
          rw [List.length_map, List.length_reverse]; walk_at "o"
        first | refine ite_F (by decide) ?_ | rw [if_neg (by decide)]
        repeat walk_at "m"
        walk_at "h"; refine t_mulI (IntMulOk.of_left (a := 2) (by decide +kernel)) fun _ => ?_
        repeat walk_at "m"
        have e1 : (((rl.reverse.map fun p => (.ref p.1 : Value)).length : Int) != 2 * (K : Int)) = false := by
          rw [List.length_map, List.length_reverse]; simp; walk_at "o"
        rw [e1, if_neg (by decide)]
        repeat walk_at "m"
        rw [count_nl]
        have e2 : (L2 != 1 + ((T.count 10 : Nat) : Int)) = false := by
          simp at hL2 ⊢; walk_at "o"
        rw [e2, if_neg (by decide)]
        clear hL2 hT e2
        repeat walk_at "m"
        first | refine ite_F (by decide) ?_ | rw [if_neg (by decide)]
        walk_at "h"; refine t_pick (Pick.skip .all) ?_
        repeat walk_at "m"
        walk_at "h"; refine t_Comp (cl := []) [Str.ofString "ahead", Str.ofString "word"] (fun _ => rfl) (by rw [env_eq hE]; rfl) (by decide) rfl (by decide) (by decide) ?_
        repeat walk_at "m"
        walk_at "h"; refine t_iterL (vs := rl.reverse.map fun p => .ref p.1) (by walk_at "m isl") fun it4 => ?_
        intro acc4 c5 hCc5
        have hEc5 := hCc5.ek hE
        have hrc5 : 12 ≤ c5.r := by rw [hCc5.r]; exact hr
        walk_at "h"; refine ct_swap2 (ct_compNH (nexts_L (vs := rl.reverse.map fun p => .ref p.1)) (fun n Q h => t_selfL n Q h ⟨_, rfl⟩) (fun j m n => E2 fun m1 m2 => A2 (m = [(Str.ofString "ahead", m1), (Str.ofString "word", m2)]) (n = (acc4, .list []) :: (rw0, .list (rl.reverse.map fun p => .ref p.1)) :: (acc2, .list ws) :: (dp, .list dvs) :: (c.L + 4, .cell (some (.ref dp))) :: (c.L + 2, .cell (some (.int K tcnt))) :: (lx, .inst 146 dx) :: (dx, .ns (lxE L2 tl2 (.ref st) tw pb)) :: (pb, .list []) :: (152, .raw (tabObj ps)) :: (a, .raw o) :: rowNw rl)) ?_ ⟨none, none, rfl, rfl⟩ ?_ ?_)
        · rintro j m n ⟨m1, m2, rfl, rfl⟩; walk_at "m isl"
        · rintro j v new m n hj ⟨m1, m2, rfl, rfl⟩ ⟨rfl, hvj⟩ d2 hd2
          subst hd2
          have hj' : j < rs.length := by rw [List.length_map, List.length_reverse] at hj; walk_at "o"
          have hqm := List.getElem_mem hj'
          obtain ⟨r, t1, t2, hg1, hg2⟩ := hrl.getR (List.getElem?_eq_getElem hj')
          rw [List.getElem?_map, hg1] at hvj
          cases hvj
          have hah2 := hah _ hqm
          have htold2 := htold _ hqm
          generalize rs[j] = q at hg2 hah2 htold2
          obtain ⟨qa, qw⟩ := q
          walk_at "n"
          walk_at "h"; refine t_goTupL (by walk_at "m mem") ?_
          walk_at "h"; refine t_asgTupL (v1 := .str (sOf qa) t1) (v2 := .str (sOf qw) t2) (by repeat (first | exact hg2 | refine List.Mem.tail _ ?_)) rfl rfl ?_
          walk_at "h"; refine t_inCons (t_asgName ?_)
          repeat walk_at "m"
          walk_at "h"; refine t_inCons (t_asgName ?_)
          repeat walk_at "m"
          walk_at "h"; refine t_inNil ?_
          repeat walk_at "m"
          rw [ofs_nil, sOf_ne]
          by_cases hq : qw = []
          · first | refine ite_dF (fun h => h hq) ?_ | rw [decide_eq_false (fun h => h hq), if_neg (by decide)]
            refine Hid.out (by assumption) _ _ _ ?_
            refine' ⟨_, ?pk1, _, _, rfl, rfl⟩
            case pk1 => walk_at "m pick"
          · first | refine ite_dT hq ?_ | rw [decide_eq_true hq, if_pos rfl]
            repeat walk_at "m"
            walk_at "h"; refine t_callS (ctr_told hah2.1 hah2.2) (by walk_at "o") (by walk_at "m pick") ?_
            rintro v new n1 ⟨rfl, rfl, rfl⟩
            walk_at "u"; refine ⟨rfl, ?_⟩
            rw [List.nil_append, htold2 hq]
            repeat walk_at "m"
            rw [if_neg (by decide), if_neg (by decide)]
            walk_at "u"; refine' ⟨_, ?pk1, _, _, rfl, rfl⟩
            case pk1 => walk_at "m pick"
        · rintro m n ⟨m1, m2, rfl, rfl⟩
          repeat walk_at "m"
          walk_at "h"; refine t_neLS (ys := []) (zs := []) (by walk_at "m isl") (by walk_at "m isl") .nil .nil ?_
          repeat walk_at "m"
          first | refine ite_F (by simp) ?_ | rw [if_neg (by simp)]
          walk_at "h"; refine t_pick (n' := [(acc2, .list ws), (dp, .list dvs), (c.L + 4, .cell (some (.ref dp))), (c.L + 2, .cell (some (.int K tcnt))), (lx, .inst 146 dx), (dx, .ns (lxE L2 tl2 (.ref st) tw pb)), (pb, .list []), (152, .raw (tabObj ps)), (a, .raw o)]) (by walk_at "m pick") ?_
          repeat walk_at "m"
          walk_at "h"; refine t_callP (ctr_levels (dx := dx) (pb := pb) (L := L2) (tl := tl2) (tw := tw) (st := .ref st) hws (by walk_at "o") (fun x hx => ⟨(hWl x hx).1, by have := (hWl x hx).2; walk_at "o"⟩)) (by walk_at "o") (by walk_at "m pick") ?_
          rintro v new n1 ⟨sg, svs, pq, rfl, rfl, hsv, rfl⟩
          walk_at "u"; refine ⟨_, by walk_at "m sub", ?_⟩
          dsimp only [List.cons_append, List.nil_append]
          clear hrll hrlen hszr
          have hsvl := strs_length hsv
          rw [List.length_map] at hsvl
          generalize hSg : levOf W = S0 at hsv hslen hsone hchk hlack hboun hsvl
          have hszs : svs.length ≤ sizeLine := by have hsl : sizeLine = 2 ^ 24 := rfl; walk_at "o"
          repeat walk_at "m"
          walk_at "h"; refine t_mulI (IntMulOk.of_left (a := 2) (by decide +kernel)) fun _ => ?_
          repeat walk_at "m"
          have e3 : ((svs.length : Int) != 2 * (K : Int)) = false := by simp; walk_at "o"
          rw [e3, if_neg (by decide)]
          repeat walk_at "m"
          have hfl := flat_le (ls := S0) (b := 10) (fun x hx => (hsone x hx).2)
          walk_at "h"; refine t_join (ys := S0.map sOf) (by walk_at "m isl") hsv (join_fit _ 10 (fun x hx => (hsone x hx).2) (by walk_at "o")) fun t' => ?_
          rw [join_sOf]
          repeat walk_at "m"
          walk_at "h"; refine t_callS (ctr_check (by rw [sOf_len]; walk_at "o")) (by walk_at "o") (by walk_at "m pick") ?_
          rintro v new n1 ⟨rfl, rfl, rfl⟩
          walk_at "u"; refine ⟨rfl, ?_⟩
          rw [List.nil_append, hchk]
          repeat walk_at "m"
          first | refine ite_F (by decide) ?_ | rw [if_neg (by decide)]
          repeat walk_at "m"
          first | refine ite_F (by decide) ?_ | rw [if_neg (by decide)]
          repeat walk_at "m"
          walk_at "h"; refine t_AsgComp (cl := [(Str.ofString "depths", c.L + 4)]) [Str.ofString "k", Str.ofString "m"] hE (by rfl) (by rw [env_eq hE]; rfl) (fun _ => rfl) (by rw [cells_eq hcl, env_eq hE]; rfl) (by decide) rfl (by decide) (by decide) ?_
          repeat walk_at "m"
          walk_at "h"; refine t_iterR (by walk_at "m mem") (by walk_at "o") (by walk_at "o") ?_
          intro itA acc5 c6 hC6
          have hE6 := hC6.ek hE
          have hcl6 := hC6.cells
          rw [Int.toNat_natCast]
          walk_at "h"; refine ct_pick (n' := (itA, .raw (rIter 0 K)) :: (acc5, .list []) :: (sg, .list svs) :: (acc2, .list ws) :: (dp, .list dvs) :: (c.L + 4, .cell (some (.ref dp))) :: (c.L + 2, .cell (some (.int K tcnt))) :: (lx, .inst 146 dx) :: (dx, .ns (lxE L2 tl2 (.ref st) tw pb)) :: (pb, .list pq) :: (152, .raw (tabObj ps)) :: (a, .raw o) :: []) (by walk_at "m pick") ?_
          have NA := nexts_R (w := w) (c := c6) (it := itA) (k := K)
          walk_at "h"; refine ct_startR rfl ?_
          walk_at "h"; refine ct_comp2o (fun k m n => E4 fun i kk mm xs => A6 (i ≤ K) (k = K - i) (m = [(Str.ofString "k", kk), (Str.ofString "m", mm)]) (n = (itA, .raw (rIter i K)) :: (acc5, .list xs) :: (sg, .list svs) :: (acc2, .list ws) :: (dp, .list dvs) :: (c.L + 4, .cell (some (.ref dp))) :: (c.L + 2, .cell (some (.int K tcnt))) :: (lx, .inst 146 dx) :: (dx, .ns (lxE L2 tl2 (.ref st) tw pb)) :: (pb, .list pq) :: (152, .raw (tabObj ps)) :: (a, .raw o) :: []) (xs.length = ((List.range i).map fun k => (alikeAt D k).length).sum) (xs.length ≤ 10 * i)) ?_ ?_ K ⟨0, none, none, [], Nat.zero_le _, rfl, rfl, rfl, rfl, Nat.zero_le _⟩
          · intro x; rfl
          · rintro k m n ⟨i, kk, mm, xs5, hiK, rfl, rfl, rfl, hxs5, hxb5⟩
            by_cases hlt : i < K
            · refine (NA i _ _ trivial).1 hlt _ ?_
              rintro v new ⟨rfl, tv, rfl⟩
              walk_at "n"
              try dsimp only
              walk_at "h"; refine t_goName (t_asgName ?_)
              repeat walk_at "m"
              walk_at "h"; refine t_iterR (by walk_at "m mem") (by walk_at "o") (by walk_at "o") fun itB => ?_
              rw [Int.toNat_natCast]
              walk_at "h"; refine ct_pick (n' := (itB, .raw (rIter 0 i)) :: (itA, .raw (rIter (i + 1) K)) :: (acc5, .list xs5) :: (sg, .list svs) :: (acc2, .list ws) :: (dp, .list dvs) :: (c.L + 4, .cell (some (.ref dp))) :: (c.L + 2, .cell (some (.int K tcnt))) :: (lx, .inst 146 dx) :: (dx, .ns (lxE L2 tl2 (.ref st) tw pb)) :: (pb, .list pq) :: (152, .raw (tabObj ps)) :: (a, .raw o) :: []) (by walk_at "m pick") ?_
              have NB := nexts_R (w := w) (c := c6) (it := itB) (k := i)
              have hiD : i < D.length := by walk_at "o"
              obtain ⟨tdi, gDi⟩ := ints_at' hdv (List.getElem?_eq_getElem hiD)
              have eDi : D.getD i 0 = D[i] := by rw [List.getD_eq_getElem?_getD, List.getElem?_eq_getElem hiD]; rfl
              walk_at "h"; refine ct_startR rfl ?_
              walk_at "h"; refine ct_comp2i (fun k2 m n => E3 fun j mm2 xs6 => A6 (j ≤ i) (k2 = i - j) (m = [(Str.ofString "k", some (.int i tv)), (Str.ofString "m", mm2)]) (n = (itB, .raw (rIter j i)) :: (itA, .raw (rIter (i + 1) K)) :: (acc5, .list xs6) :: (sg, .list svs) :: (acc2, .list ws) :: (dp, .list dvs) :: (c.L + 4, .cell (some (.ref dp))) :: (c.L + 2, .cell (some (.int K tcnt))) :: (lx, .inst 146 dx) :: (dx, .ns (lxE L2 tl2 (.ref st) tw pb)) :: (pb, .list pq) :: (152, .raw (tabObj ps)) :: (a, .raw o) :: []) (xs6.length = ((List.range i).map fun k => (alikeAt D k).length).sum + ((List.range j).filter fun m => decide (D.getD m 0 - D.getD i 0 = 0) || decide (D.getD m 0 - D.getD i 0 = 1)).length) (xs6.length ≤ 10 * i + j)) ?_ i ⟨0, mm, xs5, Nat.zero_le _, rfl, rfl, rfl, hxs5, hxb5⟩
              rintro k2 m n ⟨j, mm2, xs6, hj, rfl, rfl, rfl, hxs6, hxb6⟩
              by_cases hjl : j < i
              · refine (NB j _ _ trivial).1 hjl _ ?_
                rintro v new ⟨rfl, tj, rfl⟩
                walk_at "n"
                try dsimp only
                walk_at "h"; refine t_goName (t_asgName ?_)
                repeat walk_at "mt"
                walk_at "h"; refine t_weakP ?_
                have hjD : j < D.length := by walk_at "o"
                obtain ⟨tdj, gDj⟩ := ints_at' hdv (List.getElem?_eq_getElem hjD)
                have eDj : D.getD j 0 = D[j] := by rw [List.getD_eq_getElem?_getD, List.getElem?_eq_getElem hjD]; rfl
                repeat walk_at "m"
                walk_at "h"; refine t_tailL (vs := dvs) rfl (by walk_at "m isl") (by walk_at "o") (by walk_at "o") (by rw [Int.toNat_natCast]; exact gDj) ?_
                repeat walk_at "m"
                walk_at "h"; refine t_tailL (vs := dvs) rfl (by walk_at "m isl") (by walk_at "o") (by walk_at "o") (by rw [Int.toNat_natCast]; exact gDi) ?_
                repeat walk_at "m"
                walk_at "h"; refine t_inT2 (by walk_at "m mem") ?_
                repeat walk_at "m"
                walk_at "u"; refine' ⟨(itB, .raw (rIter (j + 1) i)) :: (itA, .raw (rIter (i + 1) K)) :: (acc5, .list xs6) :: (sg, .list svs) :: (acc2, .list ws) :: (dp, .list dvs) :: (c.L + 4, .cell (some (.ref dp))) :: (c.L + 2, .cell (some (.int K tcnt))) :: (lx, .inst 146 dx) :: (dx, .ns (lxE L2 tl2 (.ref st) tw pb)) :: (pb, .list pq) :: (152, .raw (tabObj ps)) :: (a, .raw o) :: [], ?pk1, ?_⟩
                case pk1 => walk_at "m pick"
                have hcond : ((0 : Int) == D[j] - D[i] || 1 == D[j] - D[i]) = (decide (D.getD j 0 - D.getD i 0 = 0) || decide (D.getD j 0 - D.getD i 0 = 1)) := by
                  rw [eDi, eDj, Bool.eq_iff_iff]; simp; walk_at "o"
                rw [hcond]
                by_cases hP : (decide (D.getD j 0 - D.getD i 0 = 0) || decide (D.getD j 0 - D.getD i 0 = 1)) = true
                · first | refine ite_T hP ?_ | rw [if_pos hP]
                  have hf : ((List.range (j + 1)).filter fun m => decide (D.getD m 0 - D.getD i 0 = 0) || decide (D.getD m 0 - D.getD i 0 = 1)).length = ((List.range j).filter fun m => decide (D.getD m 0 - D.getD i 0 = 0) || decide (D.getD m 0 - D.getD i 0 = 1)).length + 1 := by
                    rw [List.range_succ, List.filter_append, List.length_append, List.filter_cons_of_pos (by exact hP)]; rfl
                  repeat walk_at "m"
                  walk_at "u"; refine ⟨i - (j + 1), by walk_at "o", j + 1, _, xs6 ++ [.int i tv], by walk_at "o", rfl, rfl, rfl, ?_, ?_⟩
                  · rw [List.length_append, hf, hxs6]; rfl
                  · rw [List.length_append, List.length_singleton]; walk_at "o"
                · first | refine ite_F hP ?_ | rw [if_neg hP]
                  have hf : ((List.range (j + 1)).filter fun m => decide (D.getD m 0 - D.getD i 0 = 0) || decide (D.getD m 0 - D.getD i 0 = 1)).length = ((List.range j).filter fun m => decide (D.getD m 0 - D.getD i 0 = 0) || decide (D.getD m 0 - D.getD i 0 = 1)).length := by
                    rw [List.range_succ, List.filter_append, List.length_append, List.filter_cons_of_neg (by exact hP)]; rfl
                  walk_at "u"; exact ⟨i - (j + 1), by walk_at "o", j + 1, _, xs6, by walk_at "o", rfl, rfl, rfl, by rw [hf, hxs6], by walk_at "o"⟩
              · obtain rfl : j = i := by walk_at "o"
                refine (NB j _ _ trivial).2 (Nat.le_refl _) _ ?_
                try dsimp only
                walk_at "u"; refine ⟨K - (j + 1), by walk_at "o", j + 1, _, _, xs6, by walk_at "o", rfl, rfl, rfl, ?_, by walk_at "o"⟩
                rw [hxs6, List.range_succ, List.map_append, List.sum_append]
                simp [alikeAt]
            · obtain rfl : i = K := by walk_at "o"
              refine (NA i _ _ trivial).2 (Nat.le_refl _) _ ?_
              try dsimp only
              walk_at "u"; refine ⟨_, by walk_at "m lup", ?_⟩
              have hal : xs5.length = alikeOf D := by rw [hxs5]; unfold alikeOf; rw [hDl, hN]
              have hszA : xs5.length ≤ sizeLine := by have hsl : sizeLine = 2 ^ 24 := rfl; walk_at "o"
              repeat walk_at "m"
              walk_at "h"; refine t_callS (ctr_lacking hsv (by walk_at "o") hsone) (by walk_at "o") (by walk_at "m pick") ?_
              rintro v new n1 ⟨rfl, rfl, tla, rfl⟩
              walk_at "u"; refine ⟨rfl, ?_⟩
              walk_at "n"
              repeat walk_at "m"
              rw [hlack, hal]
              rw [show (((alikeOf D : Nat) : Int) == ((alikeOf D : Nat) : Int)) = true from by simp, if_pos rfl]
              repeat walk_at "m"
              walk_at "h"; refine t_callS (ctr_bounce (cnt := i) hsv (by walk_at "o") hsone (by rw [← hN]; exact hboun)) (by walk_at "o") (by walk_at "m pick") ?_
              rintro v new n1 ⟨rfl, rfl, tbo, rfl⟩
              walk_at "u"; refine ⟨rfl, ?_⟩
              walk_at "n"
              repeat walk_at "m"
              walk_at "h"; refine t_sumI (by walk_at "m isl") hdv fun _ => ?_
              repeat walk_at "m"
              rw [show (D.sum == D.sum) = true from by simp]
              try dsimp only
              walk_at "u"; exact ⟨rfl, ps, by walk_at "m pick"⟩

end
section
open PySem PySem.W PySem.Calls PyProof.Rows
structure PlainP (p : List Nat) : Prop where
  app : ∀ r i, esc (p ++ r) i false = esc p i false ++ esc r (i + p.length) false
  noq : ∀ i, ∀ it ∈ esc p i false, (it.2 == quo) = false
theorem quo_eq : quo = one 34 := by decide +kernel
theorem esc_one {d : Nat} (h : d ≠ 92) (r : List Nat) (i : Nat) : esc (d :: r) i false = (i, one d) :: esc r (i + 1) false := by
  rw [esc, if_neg h]
theorem esc_pair (d : Nat) (r : List Nat) (i : Nat) : esc (92 :: d :: r) i false = (i + 1, Str.ofString "\\" ++ one d) :: esc r (i + 2) false := by
  rw [esc, if_pos rfl, esc]
theorem bs_one (d : Nat) : Str.ofString "\\" ++ one d = sOf [92, d] := by rw [ofs_bs]; exact sOf_one [92] d
theorem PlainP.nil : PlainP [] := ⟨fun r i => by rw [List.nil_append, esc]; rfl, fun i it h => by rw [esc] at h; cases h⟩
theorem PlainP.one {d : Nat} (h : d ≠ 92) (h34 : d ≠ 34) : PlainP [d] := by
  refine ⟨fun r i => ?_, fun i it hm => ?_⟩
  · rw [List.cons_append, List.nil_append, esc_one h, esc_one h]; rfl
  · rw [esc_one h, esc, List.mem_singleton] at hm
    subst hm
    rw [quo_eq, one_eq]
    simpa using h34
theorem PlainP.pair (d : Nat) : PlainP [92, d] := by
  refine ⟨fun r i => ?_, fun i it hm => ?_⟩
  · rw [List.cons_append, List.cons_append, List.nil_append, esc_pair, esc_pair]; rfl
  · rw [esc_pair, esc, List.mem_singleton] at hm
    subst hm
    rw [bs_one, quo_eq, show Mine.one 34 = sOf [34] from rfl, sOf_eq]
    rfl
theorem PlainP.append {p q : List Nat} (hp : PlainP p) (hq : PlainP q) : PlainP (p ++ q) := by
  refine ⟨fun r i => ?_, fun i it hm => ?_⟩
  · rw [List.append_assoc, hp.app, hq.app, hp.app, List.length_append, List.append_assoc, Nat.add_assoc]
  · rw [hp.app] at hm
    rcases List.mem_append.mp hm with h | h
    · exact hp.noq _ _ h
    · exact hq.noq _ _ h
noncomputable def runB : List Bool → Int → Option Int
  | [], o => some o
  | true :: r, o => runB r (o + 1)
  | false :: r, o => if o - 1 < 0 then none else runB r (o - 1)
theorem runB_app (a b : List Bool) : ∀ o, runB (a ++ b) o = (runB a o).bind (runB b) := by
  induction a with
  | nil => intro o; rfl
  | cons x r ih =>
    intro o
    cases x with
    | true => exact ih _
    | false =>
      rw [List.cons_append, runB, runB]
      split
      · rfl
      · exact ih _
noncomputable def endB : Option Int → (Int → Bool) → Bool
  | none, _ => false
  | some o, k => k o
noncomputable def BrP (p : List Nat) (bs : List Bool) : Prop := ∀ i rest o, chkFold (esc p i false ++ rest) o = endB (runB bs o) fun o' => chkFold rest o'
theorem BrP.nil : BrP [] [] := fun i rest o => by rw [esc]; rfl
theorem BrP.append {p q : List Nat} {a b : List Bool} (pp : PlainP p) (hp : BrP p a) (hq : BrP q b) : BrP (p ++ q) (a ++ b) := fun i rest o => by
  rw [pp.app, List.append_assoc, hp, runB_app]
  cases runB a o with
  | none => rfl
  | some o' => exact hq _ _ _
theorem BrP.open : BrP [40] [true] := fun i rest o => by
  rw [esc_one (by decide), esc, List.cons_append, List.nil_append, chk_cons, if_pos (by decide +kernel)]; rfl
theorem BrP.close : BrP [41] [false] := fun i rest o => by
  rw [esc_one (by decide), esc, List.cons_append, List.nil_append, chk_cons, if_neg (by decide +kernel), if_pos (by decide +kernel), runB]
  split <;> rfl
theorem BrP.one {d : Nat} (h : d ≠ 92) (h40 : d ≠ 40) (h41 : d ≠ 41) : BrP [d] [] := fun i rest o => by
  rw [esc_one h, esc, List.cons_append, List.nil_append, chk_cons, if_neg, if_neg]
  · rfl
  · rw [ofs_cl, show Mine.one d = sOf [d] from rfl, sOf_eq]; simpa using h41
  · rw [ofs_op, show Mine.one d = sOf [d] from rfl, sOf_eq]; simpa using h40
theorem BrP.pair (d : Nat) : BrP [92, d] [] := fun i rest o => by
  rw [esc_pair, esc, List.cons_append, List.nil_append, chk_cons, bs_one, if_neg, if_neg]
  · rfl
  · rw [ofs_cl, sOf_eq]; simp
  · rw [ofs_op, sOf_eq]; simp
inductive Seg
  | pl (p : List Nat) (bs : List Bool)
  | qu (q : List Nat)
noncomputable def Seg.flat : Seg → List Nat
  | .pl p _ => p
  | .qu q => 34 :: q ++ [34]
noncomputable def Seg.plain : Seg → List Nat
  | .pl p _ => p
  | .qu _ => []
noncomputable def Seg.brs : Seg → List Bool
  | .pl _ bs => bs
  | .qu _ => []
noncomputable def Seg.ok : Seg → Prop
  | .pl p bs => PlainP p ∧ BrP p bs
  | .qu q => PlainP q
noncomputable def flatS (l : List Seg) : List Nat := (l.map Seg.flat).flatten
noncomputable def plainS (l : List Seg) : List Nat := (l.map Seg.plain).flatten
noncomputable def brsS (l : List Seg) : List Bool := (l.map Seg.brs).flatten
theorem fold_noq (x : Str) (its : List (Nat × Str)) : (∀ it ∈ its, (it.2 == quo) = false) → ∀ S, its.foldl (stripStep x) S = S := by
  induction its with
  | nil => intro _ S; rfl
  | cons it r ih =>
    intro h S
    rw [List.foldl_cons]
    have e : stripStep x S it = S := by
      unfold stripStep
      rw [h it List.mem_cons_self]; rfl
    rw [e]
    exact ih (fun y hy => h y (List.mem_cons_of_mem _ hy)) S
theorem quoted_esc {q : List Nat} (hq : PlainP q) (r : List Nat) (i : Nat) : esc (34 :: q ++ [34] ++ r) i false = (i, quo) :: (esc q (i + 1) false ++ (i + 1 + q.length, quo) :: esc r (i + 1 + q.length + 1) false) := by
  rw [quo_eq, List.append_assoc, List.cons_append, esc_one (by decide), hq.app, List.cons_append, List.nil_append, esc_one (by decide)]
theorem strip_fold (segs : List Seg) : (∀ s ∈ segs, s.ok) → ∀ (x : Str) (pre : List Nat), x = sOf (pre ++ flatS segs) → ∀ (st : Nat) (res0 : List (List Nat)), st ≤ pre.length →
    ∃ (st' : Nat) (res' : List (List Nat)), (esc (flatS segs) pre.length false).foldl (stripStep x) (st, none, res0.map sOf) = (st', none, res'.map sOf) ∧ st' ≤ (pre ++ flatS segs).length ∧ res'.flatten ++ (pre ++ flatS segs).drop st' = res0.flatten ++ pre.drop st ++ plainS segs := by
  induction segs with
  | nil =>
    intro _ x pre hx st res0 hst
    refine ⟨st, res0, ?_, ?_, ?_⟩
    · show (esc [] _ _).foldl _ _ = _
      rw [esc]; rfl
    · simp [flatS]; exact hst
    · simp [flatS, plainS]
  | cons s r ih =>
    intro hok x pre hx st res0 hst
    have hr := fun y hy => hok y (List.mem_cons_of_mem s hy)
    have hs := hok s List.mem_cons_self
    have hfl : flatS (s :: r) = s.flat ++ flatS r := rfl
    have hpl : plainS (s :: r) = s.plain ++ plainS r := rfl
    rw [hfl] at hx ⊢
    rw [hpl]
    cases s with
    | pl p bs =>
      obtain ⟨hp, _⟩ := hs
      show ∃ (st' : Nat) (res' : List (List Nat)), (esc (p ++ flatS r) pre.length false).foldl (stripStep x) _ = _ ∧ _
      rw [hp.app, List.foldl_append, fold_noq _ _ (hp.noq _)]
      have hx' : x = sOf ((pre ++ p) ++ flatS r) := by rw [hx, List.append_assoc]; rfl
      obtain ⟨st', res', h1, h2, h3⟩ := ih hr x (pre ++ p) hx' st res0 (by rw [List.length_append]; omega)
      rw [List.length_append] at h1
      refine ⟨st', res', h1, ?_, ?_⟩
      · rw [← List.append_assoc]; exact h2
      · rw [← List.append_assoc]
        refine h3.trans ?_
        rw [List.drop_append_of_le_length hst]
        simp [Seg.plain]
    | qu q =>
      have hq : PlainP q := hs
      have hlen : (pre ++ (34 :: q ++ [34])).length = pre.length + 1 + q.length + 1 := by simp; omega
      have hx' : x = sOf ((pre ++ (34 :: q ++ [34])) ++ flatS r) := by rw [hx, List.append_assoc]; rfl
      show ∃ (st' : Nat) (res' : List (List Nat)), (esc (34 :: q ++ [34] ++ flatS r) pre.length false).foldl (stripStep x) _ = _ ∧ _
      rw [quoted_esc hq, List.foldl_cons, List.foldl_append, List.foldl_cons]
      have e1 : stripStep x (st, none, res0.map sOf) (pre.length, quo) = (st, some pre.length, res0.map sOf) := by
        unfold stripStep; rw [if_pos (by simp)]
      rw [e1, fold_noq _ _ (hq.noq _)]
      obtain ⟨res1, e2, e3⟩ : ∃ res1 : List (List Nat), stripStep x (st, some pre.length, res0.map sOf) (pre.length + 1 + q.length, quo) = ((pre ++ (34 :: q ++ [34])).length, none, res1.map sOf) ∧ res1.flatten = res0.flatten ++ pre.drop st := by
        unfold stripStep
        rw [if_pos (by simp), hlen]
        dsimp only
        by_cases h : st = pre.length
        · rw [if_pos h]
          exact ⟨res0, rfl, by rw [h, List.drop_length, List.append_nil]⟩
        · rw [if_neg h]
          refine ⟨res0 ++ [pre.drop st], ?_, by simp⟩
          rw [List.map_append]
          have : Txt.slice x (some (st : Int)) (some (pre.length : Int)) = sOf (pre.drop st) := by
            rw [beqS (slice_closes (x := x) (i := (st : Int)) (j := (pre.length : Int)) ⟨by omega, by omega, by rw [hx]; simp; omega⟩)]
            rw [hx]
            show sOf _ = sOf _
            simp only [Int.toNat_natCast]
            rw [show ((pre.length : Int) - (st : Int)).toNat = pre.length - st from by omega, List.drop_append_of_le_length hst, List.take_left' (by rw [List.length_drop])]
          rw [this]; rfl
      rw [e2]
      obtain ⟨st', res', h1, h2, h3⟩ := ih hr x (pre ++ (34 :: q ++ [34])) hx' (pre ++ (34 :: q ++ [34])).length res1 (Nat.le_refl _)
      rw [← hlen]
      refine ⟨st', res', h1, ?_, ?_⟩
      · show st' ≤ (pre ++ ((34 :: q ++ [34]) ++ flatS r)).length
        rw [← List.append_assoc]; exact h2
      · show res'.flatten ++ (pre ++ ((34 :: q ++ [34]) ++ flatS r)).drop st' = _
        rw [← List.append_assoc, h3, e3, List.drop_length]
        simp [Seg.plain]


end
section
open PySem PySem.W PySem.Calls PyProof.Rows
theorem plain_flat (segs : List Seg) : 34 ∉ flatS segs → plainS segs = flatS segs := by
  induction segs with
  | nil => intro _; rfl
  | cons s r ih =>
    intro h
    have hfl : flatS (s :: r) = s.flat ++ flatS r := rfl
    have hpl : plainS (s :: r) = s.plain ++ plainS r := rfl
    rw [hfl, List.mem_append, not_or] at h
    rw [hfl, hpl, ih h.2]
    cases s with
    | pl p bs => rfl
    | qu q => exact absurd List.mem_cons_self h.1
theorem strip_segs (segs : List Seg) (hok : ∀ s ∈ segs, s.ok) : strip (sOf (flatS segs)) = sOf (plainS segs) := by
  unfold strip
  have hq : (Builtin.Str.occurrences (sOf (flatS segs)) quo 0 (sOf (flatS segs)).length 1).isEmpty = !decide (34 ∈ flatS segs) := by
    rw [quo_eq, ← show (sOf (flatS segs)).cps.toList = flatS segs from by simp, ← StrLaws.found_one, Bool.not_not]
  rw [hq]
  by_cases h34 : 34 ∈ flatS segs
  · rw [decide_eq_true h34, if_neg (by decide)]
    obtain ⟨st, res, h1, h2, h3⟩ := strip_fold segs hok (sOf (flatS segs)) [] rfl 0 [] (Nat.le_refl _)
    have e : stripAll (sOf (flatS segs)) = (st, none, res.map sOf) := by
      unfold stripAll
      rw [show (sOf (flatS segs)).cps.toList = flatS segs from by simp]
      exact h1
    rw [e]
    dsimp only
    rw [List.nil_append] at h2 h3
    simp only [List.drop_nil, List.flatten_nil, List.nil_append] at h3
    by_cases hlt : st < (sOf (flatS segs)).length
    · rw [if_pos hlt]
      have : Txt.slice (sOf (flatS segs)) (some (st : Int)) none = sOf ((flatS segs).drop st) := by
        rw [beqS (slice_closes_from (x := sOf (flatS segs)) (i := (st : Int)) ⟨by omega, by simp; omega⟩)]
        show sOf _ = sOf _
        simp only [Int.toNat_natCast]
        rw [List.take_of_length_le]
        simp
      rw [this, show res.map sOf ++ [sOf ((flatS segs).drop st)] = (res ++ [(flatS segs).drop st]).map sOf from by simp, join_sOf]
      rw [← h3]; simp
    · rw [if_neg hlt, join_sOf, ← h3]
      rw [sOf_len] at hlt
      rw [List.drop_of_length_le (by omega), List.append_nil]
  · rw [decide_eq_false h34, if_pos (by decide), plain_flat segs h34]
theorem chk_plain (segs : List Seg) : (∀ s ∈ segs, s.ok) → ∀ i o, chkFold (esc (plainS segs) i false) o = endB (runB (brsS segs) o) fun o' => o' == 0 := by
  induction segs with
  | nil =>
    intro _ i o
    show chkFold (esc [] i false) o = _
    rw [esc]; rfl
  | cons s r ih =>
    intro hok i o
    have hr := ih fun y hy => hok y (List.mem_cons_of_mem s hy)
    have hs := hok s List.mem_cons_self
    have hpl : plainS (s :: r) = s.plain ++ plainS r := rfl
    have hbr : brsS (s :: r) = s.brs ++ brsS r := rfl
    rw [hpl, hbr]
    cases s with
    | pl p bs =>
      show chkFold (esc (p ++ plainS r) i false) o = endB (runB (bs ++ brsS r) o) _
      rw [hs.1.app, hs.2, runB_app]
      cases runB bs o with
      | none => rfl
      | some o' => exact hr _ _
    | qu q => exact hr _ _
theorem check_segs (segs : List Seg) (hok : ∀ s ∈ segs, s.ok) : check (sOf (flatS segs)) = endB (runB (brsS segs) 0) fun o' => o' == 0 := by
  unfold check
  rw [strip_segs segs hok, show (sOf (plainS segs)).cps.toList = plainS segs from by simp]
  exact chk_plain segs hok 0 0
theorem flatS_app (a b : List Seg) : flatS (a ++ b) = flatS a ++ flatS b := by simp [flatS]
theorem brsS_app (a b : List Seg) : brsS (a ++ b) = brsS a ++ brsS b := by simp [brsS]
theorem PlainP.rep41 : ∀ k : Nat, PlainP (List.replicate k 41)
  | 0 => .nil
  | k + 1 => (PlainP.one (by decide) (by decide)).append (p := [41]) (PlainP.rep41 k)
theorem BrP.rep41 : ∀ k : Nat, BrP (List.replicate k 41) (List.replicate k false)
  | 0 => .nil
  | k + 1 => BrP.append (p := [41]) (a := [false]) (PlainP.one (by decide) (by decide)) .close (BrP.rep41 k)
/-- what stands ahead nets to o -/
noncomputable def SegOf (pre : List Nat) (o : Int) : Prop := ∃ segs, flatS segs = pre ∧ (∀ s ∈ segs, s.ok) ∧ runB (brsS segs) 0 = some o
theorem SegOf.nil : SegOf [] 0 := ⟨[], rfl, fun _ h => absurd h List.not_mem_nil, rfl⟩
theorem SegOf.add {pre p : List Nat} {bs : List Bool} {o o' : Int} (h : SegOf pre o) (hp : PlainP p) (hb : BrP p bs) (hr : runB bs o = some o') : SegOf (pre ++ p) o' := by
  obtain ⟨segs, h1, h2, h3⟩ := h
  refine ⟨segs ++ [.pl p bs], by rw [flatS_app, h1]; simp [flatS, Seg.flat], fun s hs => ?_, ?_⟩
  · rcases List.mem_append.mp hs with h | h
    · exact h2 s h
    · rw [List.mem_singleton] at h; subst h; exact ⟨hp, hb⟩
  · rw [brsS_app, runB_app, h3]
    show runB ([bs].flatten) o = _
    simpa using hr
theorem SegOf.quo {pre q : List Nat} {o : Int} (h : SegOf pre o) (hq : PlainP q) : SegOf (pre ++ (34 :: q ++ [34])) o := by
  obtain ⟨segs, h1, h2, h3⟩ := h
  refine ⟨segs ++ [.qu q], by rw [flatS_app, h1]; simp [flatS, Seg.flat], fun s hs => ?_, ?_⟩
  · rcases List.mem_append.mp hs with h | h
    · exact h2 s h
    · rw [List.mem_singleton] at h; subst h; exact hq
  · rw [brsS_app, runB_app, h3]; rfl
theorem SegOf.chk {pre : List Nat} {o : Int} (h : SegOf pre o) : check (sOf pre) = (o == 0) := by
  obtain ⟨segs, h1, h2, h3⟩ := h
  rw [← h1, check_segs segs h2, h3]; rfl
theorem runB_closes : ∀ (k : Nat) (o : Int), k ≤ o → runB (List.replicate k false) o = some (o - k)
  | 0, o, _ => by simp [runB]
  | k + 1, o, h => by
    rw [List.replicate_succ, runB, if_neg (by omega), runB_closes k _ (by omega)]
    congr 1; omega
theorem SegOf.told {pre : List Nat} {W : List Nat} (h : SegOf pre (ntOf W)) : toldOf pre W = true := by
  unfold toldOf
  have h0 := h.add (PlainP.rep41 (ntOf W)) (BrP.rep41 _) (runB_closes _ _ (Int.le_refl _))
  have h1 := h0.chk
  rw [h1]
  obtain ⟨segs, g1, g2, g3⟩ := h0
  have : check (sOf (pre ++ List.replicate (ntOf W) 41 ++ [41, 40])) = false := by
    have hP : PlainP [41, 40] := (PlainP.one (d := 41) (by decide) (by decide)).append (PlainP.one (d := 40) (by decide) (by decide))
    have hB : BrP [41, 40] [false, true] := BrP.append (p := [41]) (a := [false]) (PlainP.one (by decide) (by decide)) .close .open
    have e := check_segs (segs ++ [.pl [41, 40] [false, true]]) (fun s hs => by
      rcases List.mem_append.mp hs with h | h
      · exact g2 s h
      · rw [List.mem_singleton] at h; subst h; exact ⟨hP, hB⟩)
    rw [flatS_app, brsS_app, runB_app, g3, g1] at e
    have e2 : flatS [Seg.pl [41, 40] [false, true]] = [41, 40] := rfl
    rw [e2] at e
    rw [e]
    show endB (runB [false, true] _) _ = false
    rw [runB, if_pos (by omega)]; rfl
  rw [this]
  simp


end
section
open PySem PySem.W PySem.Calls PyProof.Rows
inductive All2 {α β : Type} (R : α → β → Prop) : List α → List β → Prop
  | nil : All2 R [] []
  | cons {a b l k} : R a b → All2 R l k → All2 R (a :: l) (b :: k)
theorem All2.app {α β : Type} {R : α → β → Prop} {l l' : List α} {k k' : List β} (h : All2 R l k) (g : All2 R l' k') : All2 R (l ++ l') (k ++ k') := by
  induction h with
  | nil => exact g
  | cons h _ ih => exact .cons h ih
theorem All2.len {α β : Type} {R : α → β → Prop} {l : List α} {k : List β} (h : All2 R l k) : l.length = k.length := by
  induction h with
  | nil => rfl
  | cons _ _ ih => simp [ih]
theorem All2.take {α β : Type} {R : α → β → Prop} {l : List α} {k : List β} (h : All2 R l k) (n : Nat) : All2 R (l.take n) (k.take n) := by
  induction h generalizing n with
  | nil => simp; exact .nil
  | cons h _ ih => cases n with
    | zero => exact .nil
    | succ n => exact .cons h (ih n)
theorem All2.mem {α β : Type} {R : α → β → Prop} {l : List α} {k : List β} (h : All2 R l k) : ∀ x ∈ l, ∃ b, R x b := by
  induction h with
  | nil => intro x hx; cases hx
  | @cons a b l k h _ ih =>
    intro x hx
    rcases List.mem_cons.mp hx with rfl | hx
    · exact ⟨b, h⟩
    · exact ih x hx
theorem lead_chars {d t : Int} : ∀ c ∈ leadOf d t, c = 32 ∨ c = 9 := by
  intro c hc
  unfold leadOf at hc
  obtain ⟨x, hx, hc⟩ := List.mem_flatten.mp hc
  have hx : x ∈ runs d := by
    rcases List.mem_append.mp hx with h | h
    · exact List.mem_of_mem_drop h
    · exact List.mem_of_mem_take h
  obtain ⟨k, hk, rfl⟩ := List.mem_map.mp hx
  unfold run at hc
  rcases List.mem_append.mp hc with h | h
  · exact .inl (List.mem_replicate.mp h).2
  · exact .inr (List.mem_singleton.mp h)
theorem wsRun_stop (l : List Nat) : (∀ c ∈ l, c = 32 ∨ c = 9) → ∀ (x : Nat) (r : List Nat), x ≠ 32 → x ≠ 9 → ∀ count b n nt, wsRun (l ++ x :: r) count b n nt = wsRun l count b n nt := by
  induction l with
  | nil =>
    intro _ x r h1 h2 count b n nt
    rw [List.nil_append, wsRun_cons, if_neg h1, if_neg h2]; rfl
  | cons c l ih =>
    intro h x r h1 h2 count b n nt
    have ih' := ih (fun y hy => h y (List.mem_cons_of_mem _ hy)) x r h1 h2
    rw [List.cons_append, wsRun_cons, wsRun_cons]
    rcases h c List.mem_cons_self with rfl | rfl
    · rw [if_pos rfl, if_pos rfl, ih']
    · rw [if_neg (by decide), if_pos rfl, if_neg (by decide), if_pos rfl, ih']
theorem lead_tab : ∀ d : Fin 6, ∀ t : Fin 4, (wsRun (leadOf (d.val : Int) (t.val : Int)) [] 0 0 0).1 = List.replicate d.val 1 ∧ (wsRun (leadOf (d.val : Int) (t.val : Int)) [] 0 0 0).2.1 = 0 ∧ (wsRun (leadOf (d.val : Int) (t.val : Int)) [] 0 0 0).2.2.2 = d.val := by decide +kernel
theorem lead_norm {d t : Int} (h0 : 0 ≤ d) (h5 : d ≤ 5) (t0 : 0 ≤ t) (t4 : t < 4) : (wsRun (leadOf d t) [] 0 0 0).1 = List.replicate d.toNat 1 ∧ (wsRun (leadOf d t) [] 0 0 0).2.1 = 0 ∧ (wsRun (leadOf d t) [] 0 0 0).2.2.2 = d.toNat := by
  have := lead_tab ⟨d.toNat, by omega⟩ ⟨t.toNat, by omega⟩
  simp only [Int.toNat_of_nonneg h0, Int.toNat_of_nonneg t0] at this
  exact this
theorem ws_word {d t : Int} {x s : Nat} (hx : x ≠ 32) (hx9 : x ≠ 9) : wsOf (sOf (leadOf d t ++ [x] ++ [9] ++ [s])) = wsRun (leadOf d t) [] 0 0 0 := by
  unfold wsOf
  rw [show (sOf (leadOf d t ++ [x] ++ [9] ++ [s])).cps.toList = leadOf d t ++ x :: [9, s] from by simp]
  exact wsRun_stop _ lead_chars x _ hx hx9 _ _ _ _
theorem ws_lead {d t : Int} : wsOf (sOf (leadOf d t)) = wsRun (leadOf d t) [] 0 0 0 := by
  unfold wsOf; rw [show (sOf (leadOf d t)).cps.toList = leadOf d t from by simp]
theorem eq_word {d t lv : Int} {x s : Nat} (hx : x ≠ 32) (hx9 : x ≠ 9) (h0 : 0 ≤ d) (h5 : d ≤ 5) (t0 : 0 ≤ t) (t4 : t < 4) (l0 : 0 ≤ lv) (l5 : lv ≤ 5) : eqW (leadOf d t ++ [x] ++ [9] ++ [s]) (leadOf lv 0) = decide (d = lv) := by
  unfold eqW
  rw [ws_word hx hx9, ws_lead]
  obtain ⟨a1, a2, _⟩ := lead_norm h0 h5 t0 t4
  obtain ⟨b1, b2, _⟩ := lead_norm l0 l5 (Int.le_refl 0) (by decide : (0 : Int) < 4)
  rw [a1, a2, b1, b2]
  by_cases h : d = lv
  · subst h; simp
  · have hne : ¬ List.replicate d.toNat (1 : Int) = List.replicate lv.toNat 1 := fun q => by
      have := congrArg List.length q
      rw [List.length_replicate, List.length_replicate] at this
      omega
    rw [decide_eq_false h, decide_eq_false hne, Bool.false_and]
theorem nt_word {d t : Int} {x s : Nat} (hx : x ≠ 32) (hx9 : x ≠ 9) (h0 : 0 ≤ d) (h5 : d ≤ 5) (t0 : 0 ≤ t) (t4 : t < 4) : (ntOf (leadOf d t ++ [x] ++ [9] ++ [s]) : Int) = d := by
  unfold ntOf
  rw [ws_word hx hx9, (lead_norm h0 h5 t0 t4).2.2]
  omega
noncomputable def goesA (lv : Nat) (d : Int) : Bool := decide (0 < lv) && decide (d = (lv : Int) - 1)
noncomputable def signA (lv : Nat) (d : Int) : Option Bool := if goesA lv d then some false else if d = lv then some true else none
noncomputable def levA : List Nat → List Int → List Bool
  | [], _ => []
  | lv :: r, q => q.filterMap (signA lv) ++ levA r (q.filter fun d => !goesA lv d)
noncomputable def WordIs (x : List Nat) (d : Int) : Prop := ∀ lv : Nat, lv ≤ 5 → goesW lv x = goesA lv d ∧ eqW x (leadOf lv 0) = decide (d = lv)
noncomputable def SignIs (x : List Nat) (b : Bool) : Prop := ∃ s, x = [if b then 40 else 41, 92, s]
theorem lev_step {lv : Nat} (hl : lv ≤ 5) {ws : List (List Nat)} {ds : List Int} (h : All2 WordIs ws ds) : All2 SignIs (ws.filterMap (signW lv)) (ds.filterMap (signA lv)) ∧ All2 WordIs (ws.filter fun x => !goesW lv x) (ds.filter fun d => !goesA lv d) := by
  induction h with
  | nil => exact ⟨.nil, .nil⟩
  | @cons x d ws ds hx _ ih =>
    obtain ⟨h1, h2⟩ := hx lv hl
    obtain ⟨i1, i2⟩ := ih
    constructor
    · rw [List.filterMap_cons, List.filterMap_cons]
      unfold signW signA
      rw [h1, h2]
      by_cases hg : goesA lv d = true
      · rw [if_pos hg, if_pos hg]
        exact .cons ⟨_, rfl⟩ i1
      · rw [if_neg hg, if_neg hg]
        by_cases hd : d = lv
        · rw [decide_eq_true hd, if_pos rfl, if_pos hd]
          exact .cons ⟨_, rfl⟩ i1
        · rw [decide_eq_false hd, if_neg (by decide), if_neg hd]
          exact i1
    · rw [List.filter_cons, List.filter_cons, h1]
      cases goesA lv d
      · exact .cons hx i2
      · exact i2
theorem lev_all : ∀ (lvs : List Nat), (∀ lv ∈ lvs, lv ≤ 5) → ∀ {ws : List (List Nat)} {ds : List Int}, All2 WordIs ws ds → All2 SignIs (levGo lvs ws) (levA lvs ds)
  | [], _, _, _, _ => .nil
  | lv :: r, h, ws, ds, hw => by
    obtain ⟨h1, h2⟩ := lev_step (h lv List.mem_cons_self) hw
    exact h1.app (lev_all r (fun y hy => h y (List.mem_cons_of_mem _ hy)) h2)


end
section
open PySem PySem.W PySem.Calls PyProof.Rows
noncomputable def lack1A (bs : List Bool) : Int := (((List.range 5).filter fun m => endB (runB (bs ++ List.replicate m false) 0) fun o => o == 0).map fun m : Nat => (m : Int)).sum
noncomputable def lackAGo (B : List Bool) : Nat → Int
  | 0 => 0
  | k + 1 => lackAGo B k + (if B.getD k false = true then lack1A (B.take k) else 0)
noncomputable def closingA (B : List Bool) : List Nat := (List.range B.length).filter fun k => B.getD k true = false
noncomputable def opensA (B : List Bool) (p : Nat) : Nat := ((B.take p).filter fun x => x).length
noncomputable def bounceA (B : List Bool) (n : Nat) : Nat → Nat → Int → Option Int
  | 0, _, _ => none
  | k + 1, rest, tot => if rest < n then (match (closingA B)[rest]? with | none => none | some p => bounceA B n k (opensA B p) (tot + ((n : Int) - (opensA B p : Nat)))) else some tot
noncomputable def goodD (D : List Int) : Bool :=
  let B := levA (List.range (D.length + 1)) D
  D.all (fun d => decide (0 ≤ d) && decide (d ≤ 4)) && (B.length == 2 * D.length) && (endB (runB B 0) fun o => o == 0) && (lackAGo B B.length == (alikeOf D : Nat)) && (bounceA B D.length 40 0 0 == some D.sum)
noncomputable def ext (D : List Int) : List (List Int) := (List.range (D.getLastD (-1) + 2).toNat).map fun v : Nat => D ++ [(v : Int)]
noncomputable def seqsN : Nat → List (List Int)
  | 0 => [[]]
  | k + 1 => (seqsN k).flatMap ext
theorem all4 : (seqsN 4).all goodD = true := by decide +kernel
theorem all5 : (seqsN 5).all goodD = true := by decide +kernel
theorem depth_ext {D : List Int} {x : Int} (h : ∀ d ∈ D, 0 ≤ d) : depthStep D x ∈ ext D := by
  have e : depthStep D x = D ++ [D.getLastD (-1) + 1 - (x.fdiv 128).fmod (D.getLastD (-1) + 1 + 1)] := by
    unfold depthStep
    rw [List.getLastD_eq_getLast?]
    cases D.getLast? with
    | none => rfl
    | some d => rfl
  rw [e]
  unfold ext
  have h0 : 0 ≤ D.getLastD (-1) + 1 := by
    rw [List.getLastD_eq_getLast?]
    cases q : D.getLast? with
    | none => decide
    | some d => have := h d (List.mem_of_getLast? q); show 0 ≤ d + 1; omega
  generalize D.getLastD (-1) = L at h0
  have m0 : 0 ≤ (x.fdiv 128).fmod (L + 1 + 1) := Int.fmod_nonneg_of_pos _ (by omega)
  have m1 : (x.fdiv 128).fmod (L + 1 + 1) < L + 1 + 1 := Int.fmod_lt_of_pos _ (by omega)
  refine List.mem_map.mpr ⟨(L + 1 - (x.fdiv 128).fmod (L + 1 + 1)).toNat, List.mem_range.mpr (by omega), ?_⟩
  rw [Int.toNat_of_nonneg (by omega)]
theorem foldl_seqs (N : List Int) : ∀ (D : List Int) (k : Nat), D ∈ seqsN k → (∀ d ∈ D, 0 ≤ d) → N.foldl depthStep D ∈ seqsN (k + N.length) := by
  induction N with
  | nil => intro D k h _; exact h
  | cons x r ih =>
    intro D k h h0
    have := ih (depthStep D x) (k + 1) (List.mem_flatMap.mpr ⟨D, h, depth_ext h0⟩) (depthStep_nonneg h0)
    rw [List.foldl_cons, List.length_cons, show k + (r.length + 1) = k + 1 + r.length from by omega]
    exact this
theorem depths_good {N : List Int} (h : N.length = 4 ∨ N.length = 5) : goodD (depthsOf N) = true := by
  have := foldl_seqs N [] 0 (List.mem_singleton.mpr rfl) (fun _ h => absurd h List.not_mem_nil)
  rw [Nat.zero_add] at this
  rcases h with h | h
  · rw [h] at this; exact List.all_eq_true.mp all4 _ this
  · rw [h] at this; exact List.all_eq_true.mp all5 _ this
theorem sign_segs {ss : List (List Nat)} {B : List Bool} (h : All2 SignIs ss B) : ∃ segs, flatS segs = ss.flatten ∧ (∀ s ∈ segs, s.ok) ∧ brsS segs = B := by
  induction h with
  | nil => exact ⟨[], rfl, fun _ h => absurd h List.not_mem_nil, rfl⟩
  | @cons x b ss B hx _ ih =>
    obtain ⟨segs, h1, h2, h3⟩ := ih
    obtain ⟨s, rfl⟩ := hx
    refine ⟨.pl [if b then 40 else 41, 92, s] [b] :: segs, by rw [List.flatten_cons, ← h1]; rfl, fun y hy => ?_, by show [b] ++ brsS segs = _; rw [h3]; rfl⟩
    rcases List.mem_cons.mp hy with rfl | hy
    · cases b with
      | true => exact ⟨(PlainP.one (d := 40) (by decide) (by decide)).append (PlainP.pair s), BrP.append (p := [40]) (a := [true]) (b := []) (PlainP.one (by decide) (by decide)) .open (.pair s)⟩
      | false => exact ⟨(PlainP.one (d := 41) (by decide) (by decide)).append (PlainP.pair s), BrP.append (p := [41]) (a := [false]) (b := []) (PlainP.one (by decide) (by decide)) .close (.pair s)⟩
    · exact h2 y hy
theorem check_signs {ss : List (List Nat)} {B : List Bool} (h : All2 SignIs ss B) (m : Nat) : check (sOf (ss.flatten ++ List.replicate m 41)) = endB (runB (B ++ List.replicate m false) 0) fun o => o == 0 := by
  obtain ⟨segs, h1, h2, h3⟩ := sign_segs h
  have e := check_segs (segs ++ [.pl (List.replicate m 41) (List.replicate m false)]) (fun s hs => by
    rcases List.mem_append.mp hs with h | h
    · exact h2 s h
    · rw [List.mem_singleton] at h; subst h; exact ⟨PlainP.rep41 m, BrP.rep41 m⟩)
  rw [flatS_app, brsS_app, h1, h3] at e
  have e2 : flatS [Seg.pl (List.replicate m 41) (List.replicate m false)] = List.replicate m 41 := by simp [flatS, Seg.flat]
  have e3 : brsS [Seg.pl (List.replicate m 41) (List.replicate m false)] = List.replicate m false := by simp [brsS, Seg.brs]
  rw [e2, e3] at e
  exact e
theorem sign_get {ss : List (List Nat)} {B : List Bool} (h : All2 SignIs ss B) (k : Nat) : ((ss.getD k []).headD 0 = 40 ↔ B.getD k false = true) ∧ ((ss.getD k []).headD 0 = 41 ↔ B.getD k true = false) := by
  induction h generalizing k with
  | nil => simp
  | @cons x b ss B hx _ ih =>
    cases k with
    | zero =>
      obtain ⟨s, rfl⟩ := hx
      cases b <;> simp
    | succ k => simpa using ih k
theorem lack_signs {ss : List (List Nat)} {B : List Bool} (h : All2 SignIs ss B) : lackOf ss = lackAGo B B.length := by
  unfold lackOf
  rw [h.len]
  generalize B.length = n
  induction n with
  | zero => rfl
  | succ k ih =>
    rw [lackGo, lackAGo, ih]
    congr 1
    have e1 : lack1 (ss.take k).flatten = lack1A (B.take k) := by
      unfold lack1 lack1A
      congr 2
      congr 1
      funext m
      exact check_signs (h.take k) m
    rw [e1]
    by_cases hb : B.getD k false = true
    · rw [if_pos hb, if_pos ((sign_get h k).1.mpr hb)]
    · rw [if_neg hb, if_neg (fun q => hb ((sign_get h k).1.mp q))]
theorem opens_signs {ss : List (List Nat)} {B : List Bool} (h : All2 SignIs ss B) (p : Nat) : opensAt ss p = opensA B p := by
  unfold opensAt opensA
  have h' := h.take p
  generalize ss.take p = l at h'
  generalize B.take p = k at h'
  induction h' with
  | nil => rfl
  | @cons x b l k hx _ ih =>
    obtain ⟨s, rfl⟩ := hx
    cases b <;> simp_all
theorem bounce_signs {ss : List (List Nat)} {B : List Bool} (h : All2 SignIs ss B) (n : Nat) : ∀ fuel rest tot, bounceGo ss n fuel rest tot = bounceA B n fuel rest tot := by
  have hc : closingOf ss = closingA B := by
    unfold closingOf closingA
    rw [h.len]
    congr 1
    funext k
    have := (sign_get h k).2
    by_cases q : B.getD k true = false
    · rw [decide_eq_true q, decide_eq_true (this.mpr q)]
    · rw [decide_eq_false q, decide_eq_false (fun e => q (this.mp e))]
  intro fuel
  induction fuel with
  | zero => intro rest tot; rfl
  | succ k ih =>
    intro rest tot
    rw [bounceGo, bounceA, hc]
    split
    · cases (closingA B)[rest]? with
      | none => rfl
      | some p => dsimp only; rw [opens_signs h, ih]
    · rfl


end
section
open PySem PySem.W PySem.Calls PyProof.Rows
theorem tok_ws {w : Nat} (h : isWs w = true) (r : List Nat) : tokO (w :: r) = tokO r := by rw [tokO_cons, h, if_pos rfl]
theorem tok_cl {w : Nat} (h : isWs w = true) (r : List Nat) : tokO (41 :: w :: r) = ([41], r) := by
  rw [tokO_cons, if_neg (by decide), if_neg (by decide), if_neg (by decide), tokB_cons, h, if_pos rfl]
theorem tok_op {w : Nat} (h : isWs w = true) (r : List Nat) : tokO (40 :: w :: r) = ([40], r) := by
  rw [tokO_cons, if_neg (by decide), if_neg (by decide), if_neg (by decide), tokB_cons, h, if_pos rfl]
theorem tok_end : tokO [41] = ([41], []) := by decide +kernel
theorem tokQ_word (wd : List Nat) : ∀ (r tk : List Nat), tokQ (escQ wd ++ 34 :: r) tk = (tk ++ wd, r) := by
  induction wd with
  | nil =>
    intro r tk
    show tokQ (34 :: r) tk = _
    rw [tokQ_cons, if_pos rfl, List.append_nil]
  | cons d wd ih =>
    intro r tk
    have e : escQ (d :: wd) = (if d = 34 ∨ d = 92 ∨ d = 9 then [92, d] else [d]) ++ escQ wd := rfl
    rw [e]
    by_cases h : d = 34 ∨ d = 92 ∨ d = 9
    · rw [if_pos h, List.append_assoc, List.cons_append, tokQ_cons, if_neg (by decide), if_pos rfl]
      show tokQ (escQ wd ++ 34 :: r) (tk ++ [d]) = _
      rw [ih, List.append_assoc]; rfl
    · rw [if_neg h, List.append_assoc, List.cons_append, tokQ_cons, if_neg (fun q => h (.inl q)), if_neg (fun q => h (.inr (.inl q)))]
      show tokQ (escQ wd ++ 34 :: r) (tk ++ [d]) = _
      rw [ih, List.append_assoc]; rfl
theorem tok_quoted (wd r : List Nat) : tokO (34 :: escQ wd ++ [34] ++ r) = (wd, r) := by
  rw [List.append_assoc, List.cons_append, tokO_cons, if_neg (by decide), if_pos rfl]
  show tokQ (escQ wd ++ 34 :: r) [] = _
  rw [tokQ_word]; rfl
theorem letter_facts {d : Nat} (h : 97 ≤ d ∧ d ≤ 101) : isWs d = false ∧ d ≠ 34 ∧ d ≠ 92 ∧ d ≠ 40 ∧ d ≠ 41 := by
  refine ⟨?_, by omega, by omega, by omega, by omega⟩
  unfold isWs
  simp; omega
theorem tokB_word {w : Nat} (hw : isWs w = true) (wd : List Nat) : ∀ (r tk : List Nat), tokB (escB wd ++ w :: r) tk = (tk ++ wd, r) := by
  induction wd with
  | nil =>
    intro r tk
    show tokB (w :: r) tk = _
    rw [tokB_cons, hw, if_pos rfl, List.append_nil]
  | cons d wd ih =>
    intro r tk
    have e : escB (d :: wd) = (if 97 ≤ d ∧ d ≤ 101 then [d] else [92, d]) ++ escB wd := rfl
    rw [e]
    by_cases h : 97 ≤ d ∧ d ≤ 101
    · obtain ⟨h1, h2, h3, _⟩ := letter_facts h
      rw [if_pos h, List.append_assoc, List.cons_append, tokB_cons, h1, if_neg (by decide), if_neg h3]
      show tokB (escB wd ++ w :: r) (tk ++ [d]) = _
      rw [ih, List.append_assoc]; rfl
    · rw [if_neg h, List.append_assoc, List.cons_append, tokB_cons, if_neg (by decide), if_pos rfl]
      show tokB (escB wd ++ w :: r) (tk ++ [d]) = _
      rw [ih, List.append_assoc]; rfl
theorem tok_bare {w : Nat} (hw : isWs w = true) {wd : List Nat} (h0 : wd ≠ []) (r : List Nat) : tokO (escB wd ++ w :: r) = (wd, r) := by
  cases wd with
  | nil => exact absurd rfl h0
  | cons d wd =>
    have e : escB (d :: wd) = (if 97 ≤ d ∧ d ≤ 101 then [d] else [92, d]) ++ escB wd := rfl
    rw [e]
    by_cases h : 97 ≤ d ∧ d ≤ 101
    · obtain ⟨h1, h2, h3, _⟩ := letter_facts h
      rw [if_pos h, List.append_assoc, List.cons_append, tokO_cons, h1, if_neg (by decide), if_neg h2, if_neg h3]
      show tokB (escB wd ++ w :: r) [d] = _
      rw [tokB_word hw]; rfl
    · rw [if_neg h, List.append_assoc, List.cons_append, tokO_cons, if_neg (by decide), if_neg (by decide), if_pos rfl]
      show tokB (escB wd ++ w :: r) [d] = _
      rw [tokB_word hw]; rfl
theorem white_ws (x : Int) : isWs (whiteOf x) = true := by
  have h0 : 0 ≤ (x.fdiv 32).fmod 4 := Int.fmod_nonneg_of_pos _ (by decide)
  have h1 : (x.fdiv 32).fmod 4 < 4 := Int.fmod_lt_of_pos _ (by decide)
  unfold whiteOf
  generalize (x.fdiv 32).fmod 4 = k at h0 h1
  have : k = 0 ∨ k = 1 ∨ k = 2 ∨ k = 3 := by omega
  rcases this with rfl | rfl | rfl | rfl <;> decide +kernel
theorem ws_facts {w : Nat} (h : isWs w = true) : w ≠ 34 ∧ w ≠ 92 ∧ w ≠ 40 ∧ w ≠ 41 := by
  unfold isWs at h
  simp only [Bool.or_eq_true, beq_iff_eq] at h
  omega
theorem PlainP.ws {w : Nat} (h : isWs w = true) : PlainP [w] := .one (ws_facts h).2.1 (ws_facts h).1
theorem BrP.ws {w : Nat} (h : isWs w = true) : BrP [w] [] := .one (ws_facts h).2.1 (ws_facts h).2.2.1 (ws_facts h).2.2.2
theorem PlainP.escQ : ∀ wd : List Nat, PlainP (Mine.escQ wd)
  | [] => .nil
  | d :: wd => by
    have e : Mine.escQ (d :: wd) = (if d = 34 ∨ d = 92 ∨ d = 9 then [92, d] else [d]) ++ Mine.escQ wd := rfl
    rw [e]
    refine .append ?_ (PlainP.escQ wd)
    split
    · exact .pair d
    · rename_i h
      exact .one (fun q => h (.inr (.inl q))) (fun q => h (.inl q))
theorem PlainP.escB : ∀ wd : List Nat, PlainP (Mine.escB wd) ∧ BrP (Mine.escB wd) []
  | [] => ⟨.nil, .nil⟩
  | d :: wd => by
    have e : Mine.escB (d :: wd) = (if 97 ≤ d ∧ d ≤ 101 then [d] else [92, d]) ++ Mine.escB wd := rfl
    rw [e]
    obtain ⟨i1, i2⟩ := PlainP.escB wd
    by_cases h : 97 ≤ d ∧ d ≤ 101
    · obtain ⟨h1, h2, h3, h4, h5⟩ := letter_facts h
      rw [if_pos h]
      exact ⟨(PlainP.one h3 h2).append i1, BrP.append (a := []) (b := []) (.one h3 h2) (.one h3 h4 h5) i2⟩
    · rw [if_neg h]
      exact ⟨(PlainP.pair d).append i1, BrP.append (a := []) (b := []) (.pair d) (.pair d) i2⟩
/-- the rows from here on -/
noncomputable def rowsFrom (T : List Nat) (k : Nat) (suf : List Nat) (place : Nat) : List (List Nat × List Nat) × List Nat := rowsGo T k (tokO suf).1 (tokO suf).2 place
structure RowsOk (T : List Nat) (W : List (List Nat)) (cnt : Nat) (res : List (List Nat × List Nat) × List Nat) : Prop where
  rend : res.2 = []
  words : res.1.filterMap (fun p => if p.2 = [] then none else some p.2) = W
  len : res.1.length = cnt
  told : ∀ p ∈ res.1, p.2 ≠ [] → toldOf p.1 p.2 = true
  lens : ∀ p ∈ res.1, p.1.length ≤ T.length ∧ p.2.length ≤ 100
theorem RowsOk.close {T : List Nat} {W : List (List Nat)} {cnt : Nat} {res : List (List Nat × List Nat) × List Nat} (h : RowsOk T W cnt res) (n : Nat) : RowsOk T W (cnt + 1) ((T.take n, []) :: res.1, res.2) := by
  refine ⟨h.rend, ?_, by rw [List.length_cons, h.len], ?_, ?_⟩
  · rw [List.filterMap_cons, if_pos rfl]; exact h.words
  · intro p hp h0
    rcases List.mem_cons.mp hp with rfl | hp
    · exact absurd rfl h0
    · exact h.told p hp h0
  · intro p hp
    rcases List.mem_cons.mp hp with rfl | hp
    · exact ⟨by rw [List.length_take]; omega, Nat.zero_le _⟩
    · exact h.lens p hp
theorem RowsOk.word {T : List Nat} {W : List (List Nat)} {cnt : Nat} {res : List (List Nat × List Nat) × List Nat} (h : RowsOk T W cnt res) (n : Nat) {wd : List Nat} (h0 : wd ≠ []) (hl : wd.length ≤ 100) (ht : toldOf (T.take n) wd = true) : RowsOk T (wd :: W) (cnt + 1) ((T.take n, wd) :: res.1, res.2) := by
  refine ⟨h.rend, ?_, by rw [List.length_cons, h.len], ?_, ?_⟩
  · rw [List.filterMap_cons, if_neg h0]
    show wd :: _ = _
    rw [h.words]
  · intro p hp hq
    rcases List.mem_cons.mp hp with rfl | hp
    · exact ht
    · exact h.told p hp hq
  · intro p hp
    rcases List.mem_cons.mp hp with rfl | hp
    · exact ⟨by rw [List.length_take]; omega, hl⟩
    · exact h.lens p hp
noncomputable def Resid (l : List Nat) : Prop := l = [] ∨ ∃ w, isWs w = true ∧ l = [w]
theorem from_resid {T resid suf : List Nat} {k place : Nat} (h : Resid resid) : rowsFrom T k (resid ++ suf) place = rowsFrom T k suf place := by
  unfold rowsFrom
  rcases h with rfl | ⟨w, hw, rfl⟩
  · rfl
  · rw [List.cons_append, List.nil_append, tok_ws hw]
theorem from_close {T r : List Nat} {w k place : Nat} (hw : isWs w = true) : rowsFrom T (k + 1) (41 :: w :: r) place = ((T.take place, []) :: (rowsFrom T k r (T.length - r.length)).1, (rowsFrom T k r (T.length - r.length)).2) := by
  unfold rowsFrom
  rw [tok_cl hw, rowsGo, if_neg (by simp), if_neg (by simp)]
theorem from_end {T : List Nat} {k place : Nat} : rowsFrom T (k + 1) [41] place = ((T.take place, []) :: [], []) := by
  unfold rowsFrom
  rw [tok_end, rowsGo, if_neg (by decide), if_neg (by decide)]
  rw [show (tokO []).1 = [] from rfl, rowsGo_nil]
  rfl
theorem from_open {T r wd r' : List Nat} {w k place : Nat} (hw : isWs w = true) (hr : tokO r = (wd, r')) : rowsFrom T (k + 1) (40 :: w :: r) place = ((T.take place, wd) :: (rowsFrom T k r' (T.length - r'.length)).1, (rowsFrom T k r' (T.length - r'.length)).2) := by
  unfold rowsFrom
  rw [tok_op hw, rowsGo, if_neg (by simp), if_pos rfl, hr]
theorem Resid.seg {pre resid : List Nat} {o : Int} (h : Resid resid) (s : SegOf pre o) : SegOf (pre ++ resid) o := by
  rcases h with rfl | ⟨w, hw, rfl⟩
  · rw [List.append_nil]; exact s
  · exact s.add (.ws hw) (.ws hw) rfl


end
section
open PySem PySem.W PySem.Calls PyProof.Rows
noncomputable def tailD : Nat → List Nat
  | 0 => []
  | 1 => [41]
  | k + 2 => 41 :: 32 :: tailD (k + 1)
noncomputable def bodyD (ar : Int) : List Int → List Int → List (List Nat) → List Nat
  | x :: ns, d :: ds, wd :: ws => headOf x d ar ++ wordOf x wd ++ bodyD (d + 1) ns ds ws
  | _, _, _ => tailD ar.toNat
theorem tail_rep (k : Nat) : (List.replicate (k + 1) [41, 32]).flatten = tailD (k + 1) ++ [32] := by
  induction k with
  | zero => rfl
  | succ k ih => rw [List.replicate_succ, List.flatten_cons, ih]; rfl
theorem text_body (ns : List Int) : ∀ (ds : List Int) (ws : List (List Nat)) (T : List Nat) (ar : Int), ds.length = ns.length → ws.length = ns.length → (∀ d ∈ ds, 0 ≤ d) → (ns ≠ [] ∨ 1 ≤ ar) →
    (textGo T ar ns ds ws).1 ++ (List.replicate (textGo T ar ns ds ws).2.toNat [41, 32]).flatten = T ++ bodyD ar ns ds ws ++ [32] := by
  induction ns with
  | nil =>
    intro ds ws T ar h1 h2 _ h
    cases ds with
    | cons _ _ => simp at h1
    | nil =>
      cases ws with
      | cons _ _ => simp at h2
      | nil =>
        rw [textGo_nil]
        have h : 1 ≤ ar := by rcases h with h | h; exact absurd rfl h; exact h
        obtain ⟨k, hk⟩ : ∃ k, ar.toNat = k + 1 := ⟨ar.toNat - 1, by omega⟩
        show T ++ (List.replicate ar.toNat [41, 32]).flatten = T ++ tailD ar.toNat ++ [32]
        rw [hk, tail_rep, List.append_assoc]
  | cons x ns ih =>
    intro ds ws T ar h1 h2 h0 _
    cases ds with
    | nil => simp at h1
    | cons d ds =>
      cases ws with
      | nil => simp at h2
      | cons wd ws =>
        have hd := h0 d List.mem_cons_self
        rw [textGo, ih ds ws _ (d + 1) (by simpa using h1) (by simpa using h2) (fun y hy => h0 y (List.mem_cons_of_mem _ hy)) (.inr (by omega)), bodyD]
        simp only [List.append_assoc]
theorem text_is {ns ds : List Int} {ws : List (List Nat)} (h1 : ds.length = ns.length) (h2 : ws.length = ns.length) (h0 : ∀ d ∈ ds, 0 ≤ d) (hn : ns ≠ []) : textOf ns ds ws = bodyD 0 ns ds ws := by
  unfold textOf
  rw [text_body ns ds ws [] 0 h1 h2 h0 (.inl hn), List.nil_append, List.dropLast_concat]
theorem take_pre {T pre r : List Nat} (h : T = pre ++ r) : T.take pre.length = pre ∧ T.length - r.length = pre.length := by
  subst h
  exact ⟨List.take_left' rfl, by rw [List.length_append]; omega⟩
theorem rows_tail {T : List Nat} : ∀ (m : Nat) (pre resid : List Nat) (k : Nat), T = pre ++ (resid ++ tailD m) → Resid resid → (resid ++ tailD m).length + 1 ≤ k → RowsOk T [] m (rowsFrom T k (resid ++ tailD m) pre.length)
  | 0, pre, resid, k, hT, hr, hk => by
    rw [from_resid hr]
    show RowsOk T [] 0 (rowsGo T k (tokO []).1 (tokO []).2 pre.length)
    rw [show (tokO []).1 = [] from rfl, rowsGo_nil]
    exact ⟨rfl, rfl, rfl, fun p h => absurd h List.not_mem_nil, fun p h => absurd h List.not_mem_nil⟩
  | 1, pre, resid, k, hT, hr, hk => by
    obtain ⟨k, rfl⟩ : ∃ k', k = k' + 1 := ⟨k - 1, by omega⟩
    rw [from_resid hr]
    show RowsOk T [] 1 (rowsFrom T (k + 1) [41] pre.length)
    rw [from_end]
    exact RowsOk.close (res := ([], [])) ⟨rfl, rfl, rfl, fun p h => absurd h List.not_mem_nil, fun p h => absurd h List.not_mem_nil⟩ _
  | m + 2, pre, resid, k, hT, hr, hk => by
    obtain ⟨k, rfl⟩ : ∃ k', k = k' + 1 := ⟨k - 1, by omega⟩
    rw [from_resid hr]
    show RowsOk T [] (m + 2) (rowsFrom T (k + 1) (41 :: 32 :: tailD (m + 1)) pre.length)
    rw [from_close (by decide)]
    have hT2 : T = (pre ++ resid ++ [41, 32]) ++ ([] ++ tailD (m + 1)) := by rw [hT]; simp [tailD]
    have e := (take_pre hT2).2
    rw [List.nil_append] at e
    rw [e]
    refine RowsOk.close ?_ _
    have := rows_tail (m + 1) (pre ++ resid ++ [41, 32]) [] k hT2 (.inl rfl) (by rw [List.length_append] at hk; rw [show tailD (m + 2) = 41 :: 32 :: tailD (m + 1) from rfl] at hk; simp at hk ⊢; omega)
    exact this
theorem rows_closes {T rest : List Nat} {w : Nat} (hw : isWs w = true) {W : List (List Nat)} {cnt : Nat} {d : Int} (hd : 0 ≤ d)
    (hrest : ∀ pre resid k, T = pre ++ (resid ++ rest) → Resid resid → SegOf pre d → (resid ++ rest).length + 1 ≤ k → RowsOk T W cnt (rowsFrom T k (resid ++ rest) pre.length)) :
    ∀ (j : Nat) (pre resid : List Nat) (k : Nat), T = pre ++ (resid ++ ((List.replicate j [41, w, w]).flatten ++ rest)) → Resid resid → SegOf pre (d + j) → (resid ++ ((List.replicate j [41, w, w]).flatten ++ rest)).length + 1 ≤ k →
      RowsOk T W (cnt + j) (rowsFrom T k (resid ++ ((List.replicate j [41, w, w]).flatten ++ rest)) pre.length)
  | 0, pre, resid, k, hT, hr, hs, hk => hrest pre resid k hT hr (by simpa using hs) hk
  | j + 1, pre, resid, k, hT, hr, hs, hk => by
    obtain ⟨k, rfl⟩ : ∃ k', k = k' + 1 := ⟨k - 1, by omega⟩
    rw [from_resid hr]
    have e0 : (List.replicate (j + 1) [41, w, w]).flatten ++ rest = 41 :: w :: ([w] ++ ((List.replicate j [41, w, w]).flatten ++ rest)) := by rw [List.replicate_succ, List.flatten_cons]; simp
    rw [e0] at hT hk ⊢
    rw [from_close hw]
    have hT2 : T = (pre ++ resid ++ [41, w]) ++ ([w] ++ ((List.replicate j [41, w, w]).flatten ++ rest)) := by rw [hT]; simp
    rw [(take_pre hT2).2]
    refine RowsOk.close (cnt := cnt + j) ?_ _
    have hs2 : SegOf (pre ++ resid ++ [41, w]) (d + j) := by
      have hb : BrP [41, w] [false] := BrP.append (p := [41]) (a := [false]) (b := []) (.one (by decide) (by decide)) .close (.ws hw)
      refine (hr.seg hs).add ((PlainP.one (d := 41) (by decide) (by decide)).append (.ws hw)) hb ?_
      rw [runB, if_neg (by omega), runB]
      congr 1; omega
    refine rows_closes hw hd hrest j _ [w] k hT2 (.inr ⟨w, hw, rfl⟩) hs2 ?_
    rw [List.length_append] at hk
    simp only [List.length_cons] at hk
    omega
theorem rows_pairs {T : List Nat} : ∀ (ns ds : List Int) (ws : List (List Nat)) (ar : Int), ds.length = ns.length → ws.length = ns.length → 0 ≤ ar → (∀ d ∈ ds, 0 ≤ d) → (∀ (i : Nat) (d : Int), ds[i]? = some d → d ≤ (match i with | 0 => ar | i + 1 => (ds.getD i 0) + 1)) →
    (∀ (i : Nat) (d : Int) (wd : List Nat), ds[i]? = some d → ws[i]? = some wd → wd ≠ [] ∧ wd.length ≤ 100 ∧ (ntOf wd : Int) = d) → ∀ (pre resid : List Nat) (k : Nat), T = pre ++ (resid ++ bodyD ar ns ds ws) → Resid resid → SegOf pre ar → (resid ++ bodyD ar ns ds ws).length + 1 ≤ k →
      RowsOk T ws (2 * ns.length + ar.toNat) (rowsFrom T k (resid ++ bodyD ar ns ds ws) pre.length)
  | [], ds, ws, ar, h1, h2, ha, _, _, _, pre, resid, k, hT, hr, hs, hk => by
    obtain rfl : ds = [] := by cases ds <;> simp_all
    obtain rfl : ws = [] := by cases ws <;> simp_all
    have := rows_tail ar.toNat pre resid k hT hr hk
    show RowsOk T [] (2 * 0 + ar.toNat) (rowsFrom T k (resid ++ tailD ar.toNat) pre.length)
    rw [Nat.mul_zero, Nat.zero_add]
    exact this
  | x :: ns, ds, ws, ar, h1, h2, ha, h0, hle, hwd, pre, resid, k, hT, hr, hs, hk => by
    cases ds with
    | nil => simp at h1
    | cons d ds =>
      cases ws with
      | nil => simp at h2
      | cons wd ws =>
        have hd0 := h0 d List.mem_cons_self
        have hda : d ≤ ar := hle 0 d rfl
        obtain ⟨hw0, hwl, hnt⟩ := hwd 0 d wd rfl rfl
        have hw := white_ws x
        have ih := rows_pairs (T := T) ns ds ws (d + 1) (by simpa using h1) (by simpa using h2) (by omega) (fun y hy => h0 y (List.mem_cons_of_mem _ hy))
          (fun i d' hi => by
            have := hle (i + 1) d' (by simpa using hi)
            cases i with
            | zero => simpa using this
            | succ i => simpa using this)
          (fun i d' w' hi hi2 => hwd (i + 1) d' w' (by simpa using hi) (by simpa using hi2))
        have eb : bodyD ar (x :: ns) (d :: ds) (wd :: ws) = (List.replicate (ar - d).toNat [41, whiteOf x, whiteOf x]).flatten ++ (40 :: whiteOf x :: ([whiteOf x] ++ (wordOf x wd ++ bodyD (d + 1) ns ds ws))) := by
          rw [bodyD, headOf]; simp
        rw [eb] at hT hk ⊢
        have hcnt : 2 * (x :: ns).length + ar.toNat = (2 * ns.length + (d + 1).toNat + 1) + (ar - d).toNat := by rw [List.length_cons]; omega
        rw [hcnt]
        refine rows_closes hw hd0 ?_ _ pre resid k hT hr (by rw [Int.toNat_of_nonneg (by omega)]; rw [show d + (ar - d) = ar from by omega]; exact hs) hk
        clear hT hk hr hs hcnt eb
        intro pre resid k hT hr hs hk
        obtain ⟨k, rfl⟩ : ∃ k', k = k' + 1 := ⟨k - 1, by omega⟩
        rw [from_resid hr]
        have htold : toldOf (T.take pre.length) wd = true := by
          rw [(take_pre hT).1]
          exact SegOf.told (by rw [hnt]; exact hs)
        have hs1 : SegOf (pre ++ resid ++ [40, whiteOf x]) (d + 1) := by
          have hb : BrP [40, whiteOf x] [true] := BrP.append (p := [40]) (a := [true]) (b := []) (.one (by decide) (by decide)) .open (.ws hw)
          exact (hr.seg hs).add ((PlainP.one (d := 40) (by decide) (by decide)).append (.ws hw)) hb rfl
        have hs2 : SegOf (pre ++ resid ++ [40, whiteOf x] ++ [whiteOf x]) (d + 1) := hs1.add (.ws hw) (.ws hw) rfl
        by_cases hx : (x.fdiv 16).fmod 2 = 0
        · have ew : wordOf x wd = 34 :: escQ wd ++ [34] := by unfold wordOf; rw [if_pos hx]; rfl
          rw [ew] at hT hk ⊢
          have hT2 : T = (pre ++ resid ++ [40, whiteOf x] ++ [whiteOf x] ++ (34 :: escQ wd ++ [34])) ++ ([] ++ bodyD (d + 1) ns ds ws) := by rw [hT]; simp
          have htk : tokO ([whiteOf x] ++ (34 :: escQ wd ++ [34] ++ bodyD (d + 1) ns ds ws)) = (wd, bodyD (d + 1) ns ds ws) := by
            rw [List.cons_append, List.nil_append, tok_ws hw, tok_quoted]
          rw [from_open hw htk]
          have e := (take_pre hT2).2
          rw [List.nil_append] at e
          rw [e]
          refine RowsOk.word ?_ _ hw0 hwl htold
          refine ih _ [] k hT2 (.inl rfl) (hs2.quo (.escQ wd)) ?_
          simp only [List.length_append, List.length_cons, List.length_nil] at hk ⊢
          omega
        · have ew : wordOf x wd = escB wd ++ [whiteOf x, whiteOf x] := by unfold wordOf; rw [if_neg hx]
          rw [ew] at hT hk ⊢
          have hT2 : T = (pre ++ resid ++ [40, whiteOf x] ++ [whiteOf x] ++ escB wd ++ [whiteOf x]) ++ ([whiteOf x] ++ bodyD (d + 1) ns ds ws) := by rw [hT]; simp
          have htk : tokO ([whiteOf x] ++ (escB wd ++ [whiteOf x, whiteOf x] ++ bodyD (d + 1) ns ds ws)) = (wd, [whiteOf x] ++ bodyD (d + 1) ns ds ws) := by
            rw [List.cons_append, List.nil_append, tok_ws hw, List.append_assoc]
            exact tok_bare hw hw0 _
          rw [from_open hw htk]
          rw [(take_pre hT2).2]
          refine RowsOk.word ?_ _ hw0 hwl htold
          refine ih _ [whiteOf x] k hT2 (.inr ⟨_, hw, rfl⟩) (((hs2.add (PlainP.escB wd).1 (PlainP.escB wd).2 rfl)).add (.ws hw) (.ws hw) rfl) ?_
          simp only [List.length_append, List.length_cons, List.length_nil] at hk ⊢
          omega


end
section
open PySem PySem.W PySem.Calls PyProof.Rows
noncomputable def seqOk (D : List Int) : Bool := (List.range D.length).all fun i => decide (D.getD i 0 ≤ (match i with | 0 => 0 | i + 1 => D.getD i 0 + 1))
theorem seq4 : (seqsN 4).all seqOk = true := by decide +kernel
theorem seq5 : (seqsN 5).all seqOk = true := by decide +kernel
theorem depths_seq {N : List Int} (h : N.length = 4 ∨ N.length = 5) : seqOk (depthsOf N) = true := by
  have := foldl_seqs N [] 0 (List.mem_singleton.mpr rfl) (fun _ h => absurd h List.not_mem_nil)
  rw [Nat.zero_add] at this
  rcases h with h | h
  · rw [h] at this; exact List.all_eq_true.mp seq4 _ this
  · rw [h] at this; exact List.all_eq_true.mp seq5 _ this
theorem depths_len (N : List Int) : (depthsOf N).length = N.length := by
  have key : ∀ (N D : List Int), (N.foldl depthStep D).length = D.length + N.length := by
    intro N
    induction N with
    | nil => intro D; rfl
    | cons x r ih =>
      intro D
      rw [List.foldl_cons, ih, List.length_cons]
      unfold depthStep
      rw [List.length_append, List.length_singleton]; omega
  have := key N []
  simpa [depthsOf] using this
theorem lead_len_tab : ∀ d : Fin 6, ∀ t : Fin 4, (leadOf (d.val : Int) (t.val : Int)).length ≤ 30 := by decide +kernel
theorem lead_len5 {d t : Int} (h0 : 0 ≤ d) (h5 : d ≤ 5) (t0 : 0 ≤ t) (t4 : t < 4) : (leadOf d t).length ≤ 30 := by
  have := lead_len_tab ⟨d.toNat, by omega⟩ ⟨t.toNat, by omega⟩
  simp only [Int.toNat_of_nonneg h0, Int.toNat_of_nonneg t0] at this
  exact this
theorem all2_get {α β : Type} {R : α → β → Prop} : ∀ {l : List α} {k : List β}, l.length = k.length → (∀ (i : Nat) (a : α) (b : β), l[i]? = some a → k[i]? = some b → R a b) → All2 R l k
  | [], [], _, _ => .nil
  | [], _ :: _, h, _ => by simp at h
  | _ :: _, [], h, _ => by simp at h
  | a :: l, b :: k, h, g => .cons (g 0 a b rfl rfl) (all2_get (by simpa using h) fun i a b ha hb => g (i + 1) a b (by simpa using ha) (by simpa using hb))
theorem tail_len : ∀ m : Nat, (tailD m).length ≤ 2 * m
  | 0 => Nat.le_refl _
  | 1 => by decide
  | m + 2 => by have := tail_len (m + 1); show (tailD (m + 1)).length + 1 + 1 ≤ _; omega
theorem body_len : ∀ (ns ds : List Int) (ws : List (List Nat)) (ar : Int), (∀ d ∈ ds, 0 ≤ d ∧ d ≤ 4) → (∀ x ∈ ws, x.length ≤ 40) → 0 ≤ ar → (bodyD ar ns ds ws).length ≤ 130 * ns.length + 3 * ar.toNat
  | x :: ns, d :: ds, wd :: ws, ar, hd, hw, ha => by
    have ih := body_len ns ds ws (d + 1) (fun y hy => hd y (List.mem_cons_of_mem _ hy)) (fun y hy => hw y (List.mem_cons_of_mem _ hy)) (by have := (hd d List.mem_cons_self).1; omega)
    have h1 := hd d List.mem_cons_self
    have h2 := hw wd List.mem_cons_self
    have h3 := escB_len wd
    have h4 := escQ_len wd
    have ew : (wordOf x wd).length ≤ 2 * wd.length + 2 := by unfold wordOf; split <;> simp <;> omega
    have eh : (headOf x d ar).length = (ar - d).toNat * 3 + 3 := by unfold headOf; rw [List.length_append, rep_len]; rfl
    rw [bodyD, List.length_append, List.length_append, eh, List.length_cons]
    omega
  | [], _, _, ar, _, _, ha => by
    have := tail_len ar.toNat
    rw [bodyD] <;> first | omega | (intros; simp_all)
  | _ :: _, [], _, ar, _, _, ha => by
    have := tail_len ar.toNat
    rw [bodyD] <;> first | omega | (intros; simp_all)
  | _ :: _, _ :: _, [], ar, _, _, ha => by
    have := tail_len ar.toNat
    rw [bodyD] <;> first | omega | (intros; simp_all)
theorem factsOf {N : List Int} (h : N.length = 4 ∨ N.length = 5) : Facts N := by
  have hlen := depths_len N
  have hgood := depths_good h
  have hseq := depths_seq h
  generalize hDg : depthsOf N = D at hlen hgood hseq
  unfold goodD at hgood
  simp only [Bool.and_eq_true] at hgood
  obtain ⟨⟨⟨⟨g1, g2⟩, g3⟩, g4⟩, g5⟩ := hgood
  have hD : ∀ d ∈ D, 0 ≤ d ∧ d ≤ 4 := fun d hd => by
    have := List.all_eq_true.mp g1 d hd
    simpa using this
  have hDi : ∀ i, i < D.length → 0 ≤ D.getD i 0 ∧ D.getD i 0 ≤ 4 := fun i hi => by
    rw [List.getD_eq_getElem?_getD, List.getElem?_eq_getElem hi]
    exact hD _ (List.getElem_mem hi)
  have hWl : (drawnOf N D).length = N.length := by unfold drawnOf; rw [List.length_map, List.length_range]
  have hW : ∀ (i : Nat) (wd : List Nat), (drawnOf N D)[i]? = some wd → i < D.length ∧ wd = leadOf (D.getD i 0) ((N.getD i 0).fmod 4) ++ [97 + i] ++ [9] ++ [signOf (N.getD i 0)] := by
    intro i wd hi
    have hlt : i < (drawnOf N D).length := by
      rcases Nat.lt_or_ge i (drawnOf N D).length with q | q
      · exact q
      · rw [List.getElem?_eq_none q] at hi; cases hi
    unfold drawnOf at hi
    rw [List.getElem?_map, List.getElem?_range (by omega)] at hi
    refine ⟨by omega, ?_⟩
    cases hi
    rfl
  have hmod : ∀ x : Int, 0 ≤ x.fmod 4 ∧ x.fmod 4 < 4 := fun x => ⟨Int.fmod_nonneg_of_pos _ (by decide), Int.fmod_lt_of_pos _ (by decide)⟩
  have hwlen : ∀ x ∈ drawnOf N D, x ≠ [] ∧ x.length ≤ 40 := by
    intro x hx
    obtain ⟨i, hi⟩ := List.getElem?_of_mem hx
    obtain ⟨hil, rfl⟩ := hW i x hi
    have hd := hDi i hil
    have := lead_len5 (t := (N.getD i 0).fmod 4) hd.1 (by omega) (hmod _).1 (hmod _).2
    refine ⟨by simp, ?_⟩
    simp only [List.length_append, List.length_singleton]
    omega
  have hnth : ∀ (i : Nat) (d : Int), D[i]? = some d → D.getD i 0 = d := fun i d hi => by rw [List.getD_eq_getElem?_getD, hi]; rfl
  have hT : textOf N D (drawnOf N D) = bodyD 0 N D (drawnOf N D) := text_is hlen hWl (fun d hd => (hD d hd).1) (by intro q; subst q; simp at h)
  have hTl := body_len N D (drawnOf N D) 0 hD (fun x hx => (hwlen x hx).2) (Int.le_refl 0)
  rw [← hT] at hTl
  have hrows := rows_pairs (T := textOf N D (drawnOf N D)) N D (drawnOf N D) 0 hlen hWl (Int.le_refl 0) (fun d hd => (hD d hd).1)
    (fun i d hi => by
      have hil : i < D.length := by
        rcases Nat.lt_or_ge i D.length with q | q
        · exact q
        · rw [List.getElem?_eq_none q] at hi; cases hi
      have := List.all_eq_true.mp hseq i (List.mem_range.mpr hil)
      have := of_decide_eq_true this
      rw [hnth i d hi] at this
      exact this)
    (fun i d wd hi hi2 => by
      obtain ⟨hil, e⟩ := hW i wd hi2
      have hx := hwlen wd (List.mem_of_getElem? hi2)
      have hd := hDi i hil
      refine ⟨hx.1, by omega, ?_⟩
      rw [e, nt_word (by omega) (by omega) hd.1 (by omega) (hmod _).1 (hmod _).2, hnth i d hi])
    [] [] ((textOf N D (drawnOf N D)).length + 1) (by rw [hT]; rfl) (.inl rfl) SegOf.nil (by rw [hT]; exact Nat.le_refl _)
  have hro : rowsOf (textOf N D (drawnOf N D)) = rowsFrom (textOf N D (drawnOf N D)) ((textOf N D (drawnOf N D)).length + 1) ([] ++ bodyD 0 N D (drawnOf N D)) ([] : List Nat).length := by
    rw [List.nil_append, ← hT]; rfl
  rw [← hro] at hrows
  have hws : All2 WordIs (drawnOf N D) D := by
    refine all2_get (by omega) fun i x d hi hi2 lv hlv => ?_
    obtain ⟨hil, rfl⟩ := hW i x hi
    have hd := hDi i hil
    have e := hnth i d hi2
    rw [e] at hd ⊢
    have a1 : ∀ l : Int, 0 ≤ l → l ≤ 5 → _ := fun l l0 l5 => eq_word (d := d) (t := (N.getD i 0).fmod 4) (x := 97 + i) (s := signOf (N.getD i 0)) (lv := l) (by omega) (by omega) hd.1 (by omega) (hmod _).1 (hmod _).2 l0 l5
    refine ⟨?_, a1 lv (by omega) (by omega)⟩
    unfold goesW goesA
    by_cases hl0 : 0 < lv
    · rw [a1 ((lv : Int) - 1) (by omega) (by omega)]
    · rw [decide_eq_false hl0]; rfl
  have hsg : All2 SignIs (levOf (drawnOf N D)) (levA (List.range (D.length + 1)) D) := by
    have := lev_all (List.range ((drawnOf N D).length + 1)) (fun lv hlv => by have := List.mem_range.mp hlv; omega) hws
    rw [hWl, ← hlen] at this
    unfold levOf
    rw [hWl, ← hlen]; exact this
  have hBl : (levA (List.range (D.length + 1)) D).length = 2 * D.length := by simpa using g2
  refine ⟨?_, ?_, ?_, ?_, ?_, ?_, ?_, ?_, ?_, ?_, ?_, ?_, ?_, ?_⟩
  · rw [hDg]; intro d hd; have := hD d hd; omega
  · rw [hDg]; exact hlen
  · rw [hDg]; omega
  · rw [hDg]; intro x hx; have := hwlen x hx; exact ⟨this.1, by omega⟩
  · rw [hDg]; exact hrows.words
  · rw [hDg]; exact hrows.len
  · rw [hDg]; exact hrows.rend
  · rw [hDg]; exact hrows.told
  · rw [hDg]; intro p hp; have := hrows.lens p hp; exact ⟨by omega, this.2⟩
  · rw [hDg, hsg.len, hBl, hlen]
  · rw [hDg]
    intro x hx
    obtain ⟨b, s, rfl⟩ := hsg.mem x hx
    exact ⟨by simp, by simp⟩
  · rw [hDg]
    have := check_signs hsg 0
    simp only [List.replicate_zero, List.append_nil] at this
    rw [this]; exact g3
  · rw [hDg, lack_signs hsg]
    simpa using g4
  · rw [hDg]
    refine ⟨40, ?_⟩
    rw [bounce_signs hsg, ← hlen]
    simpa using g5


end
section
open PySem PySem.W PySem.Calls PyProof.Rows
theorem ns_hide {h : Heap} {a x : Addr} {o : Obj} {mm : Str → Option Value} (ho : h.get? x = some o) (hd : ∀ es ep, o.data ≠ .dict es ep) (hn : h.Ns a mm) : (hideAll h [x]).Ns a mm := by
  obtain ⟨oa, es, ep, e, hda, r⟩ := hn
  refine ⟨oa, es, ep, hideAll_get _ e fun q => ?_, hda, r⟩
  rw [List.mem_singleton] at q
  subst q
  rw [ho] at e; cases e
  exact hd _ _ hda
theorem seer_hide {h : Heap} {x : Addr} {o : Obj} (ho : h.get? x = some o) (hd : ∀ es ep, o.data ≠ .dict es ep) (hc : o.cls ≠ .type "module") (S : h.NoSeer) : (hideAll h [x]).NoSeer where
  statics := let ⟨mc, a, b⟩ := S.statics; ⟨mc, ns_hide ho hd a, b⟩
  mods := let ⟨mc, a, b⟩ := S.mods; ⟨mc, ns_hide ho hd a, b⟩
  imp := let ⟨mc, a, b⟩ := S.imp; ⟨mc, ns_hide ho hd a, b⟩
  main := let ⟨mg, bm, ob, a, b, c, d, e⟩ := S.main; ⟨mg, bm, ob, ns_hide ho hd a, b, hideAll_get _ c (fun q => by rw [List.mem_singleton] at q; subst q; rw [ho] at c; cases c; exact hc d), d, e⟩
noncomputable def noLists (K : Frag) : Bool := K.all fun p => p.2.cls != .type "list"
theorem K_hide {K : Frag} {h : Heap} {a : Addr} {o : Obj} (X : K.In h) (ho : h.get? a = some o) (hc : o.cls = .type "list") (hK : noLists K = true) : K.In (hideAll h [a]) := fun b ob e => by
  refine hideAll_get _ (X b ob e) fun q => ?_
  rw [List.mem_singleton] at q
  subst q
  have h2 := List.all_eq_true.mp hK (b, ob) (mem_of_lookupK e)
  have e2 := X b ob e
  rw [ho] at e2
  cases e2
  simp [hc] at h2
theorem noLists_hd (w : World) : noLists (hd.heap_1 w.params) = true := by kernel_rfl
theorem entry_run {w : World} {s₁ : Shared} {h₁ : Heap} {tk : Nat} {env : Env} {a : Addr} {vs : List Value} {ns : List Int} {mg mb mL : Str → Option Value} {loose : List Str} {mean : ExcName → Option Value} {p : Program} {body : List Stmt} {scope : Scope} {w0 w1 w2 w3 : Obj} {E : Value → Shared → Prop}
    (hF : fnIs (hd.heap_1 w.params) 210 body scope) (hsc : env.scope = scope) (hcl : env.cells = cellsFrom (s₁.heap.objs.size + 1) scope.names []) (hloc : env.locals = s₁.heap.objs.size) (hglo : env.globals = mainGlobals) (hbui : env.builtins = builtinsNs) (hknd : scope.kind = .function) (hge : scope.isGenerator = false) (hco : scope.isCoroutine = false)
    (T : Top p loose mean mg mb s₁.heap) (hp : importsNone p = true) (hT9 : TabsAt [(156, 152)] s₁.heap) (X' : (hd.heap_1 w.params).In (ghostOf s₁.heap [(156, 152)])) (F : Fr (ghostOf s₁.heap [(156, 152)]) s₁.heap.objs.size h₁ mL) (hmL : ∀ y, lk (lawM none none none none none none none) y = mL y)
    (N : News (ghostOf s₁.heap [(156, 152)]) s₁.heap.objs.size h₁ [(s₁.heap.objs.size + 4, w3), (s₁.heap.objs.size + 3, w2), (s₁.heap.objs.size + 2, w1), (s₁.heap.objs.size + 1, w0), (152, tabObj #[])])
    (d3 : w3.data = .cell none) (d2 : w2.data = .cell none) (d1 : w1.data = .cell none) (d0 : w0.data = .cell (some (.ref a))) (hL : (ghostOf s₁.heap [(156, 152)]).IsList a vs.toArray) (hI : IntsAre vs ns) (hlen : ns.length ≤ 63) (hg : s₁.gens = #[])
    (hfacts : ∀ N : List Int, N.length = 4 ∨ N.length = 5 → Facts N) :
    wpAny (model PG w) (callerA.deeper env) (execs body env) (fun fl s' => fl = .ret (.bool true) ∧ (∀ b o, (ghostOf s₁.heap [(156, 152)]).get? b = some o → s'.heap.get? b = some o) ∧ s'.os = s₁.os ∧ AllBare s'.gens ∧ GrownAll [(156, 152)] s'.heap) E { s₁ with heap := h₁, toks := tk } := by
  obtain ⟨o, hga, hc, k, hdd⟩ := hL
  have T' := ghost_top hT9 T
  have hnd : ∀ es ep, o.data ≠ .dict es ep := fun es ep q => by rw [hdd] at q; cases q
  have htab : s₁.heap.get? 152 = some (tabObj #[]) := (hT9 (156, 152) (List.mem_singleton.mpr rfl)).2
  have hS0 : (ghostOf s₁.heap [(156, 152)]).NoSeer := seer_hide (x := 152) htab (fun es ep q => by cases q) (fun q => by cases q) (T.seer hp)
  let c : Cx := ⟨hideAll (ghostOf s₁.heap [(156, 152)]) [a], callerA.deeper env, s₁.heap.objs.size, env, s₁.gens, s₁.os, 20, false⟩
  have okS : Seer0 c.h₀ := by
    refine ⟨seer_hide hga hnd (by rw [hc]; intro q; injection q with q; exact absurd q (by decide)) hS0, ?_⟩
    obtain ⟨bm, ob, e, hne, hget, h1, h2, h3⟩ := T'.bmain
    have e1 : mg "__builtins__" = some (.ref 4) := mg_of X' T'.g (by kernel_rfl)
    rw [e1] at e
    cases e
    refine ⟨ob, hideAll_get _ hget fun q => ?_, h1, h2, h3⟩
    rw [List.mem_singleton] at q
    subst q
    rw [hga] at hget; cases hget
    rw [hc] at h1; injection h1 with h1; exact absurd h1 (by decide)
  have okX : (hd.heap_1 w.params).In c.h₀ := K_hide X' hga hc (noLists_hd w)
  have ok : Ok w c := ⟨okX, ⟨_, _, mg, mb, ⟨ns_hide hga hnd T'.g, ns_hide hga hnd T'.b, (let ⟨mc, x, r⟩ := T'.nolimit; ⟨mc, ns_hide hga hnd x, r⟩), T'.builtins, T'.free⟩⟩, rfl, okS, fun _ => ⟨env, [], rfl, by rw [hsc]; exact hge, by rw [hsc]; exact hco, hbui, hglo⟩, ⟨_, rfl⟩, (by show callerA.depth + 1 + 10 * 20 ≤ 800; decide), (by show callerA.units + 3 + 100 * 20 ≤ 9000; decide), hloc, hglo, hbui, by rw [hsc]; exact hknd⟩
  have hlt : a < s₁.heap.objs.size := Heap.lt_size (of_hideAll _ hga)
  have ha152 : a ≠ 152 := fun q => by
    rw [q, show (ghostOf s₁.heap [(156, 152)]).get? 152 = none from hideAll_none _ (List.mem_singleton.mpr rfl)] at hga; cases hga
  have h152 : 152 < s₁.heap.objs.size := Heap.lt_size htab
  have hide : ∀ {b : Addr}, (ghostOf s₁.heap [(156, 152)]).get? b = none → c.h₀.get? b = none := fun {b} e => by
    cases q : c.h₀.get? b with
    | none => rfl
    | some o' => rw [of_hideAll _ q] at e; cases e
  have H : Hs w c (lawM none none none none none none none) [(c.L + 4, .cell none), (c.L + 3, .cell none), (c.L + 2, .cell none), (c.L + 1, .cell (some (.ref a))), (152, .raw (tabObj #[])), (a, .raw o)] { s₁ with heap := h₁, toks := tk } := by
    refine ⟨ok, ⟨?_, fun b o' e => F.keep b o' (of_hideAll _ e), hide ?_⟩, ⟨[(c.L + 4, w3), (c.L + 3, w2), (c.L + 2, w1), (c.L + 1, w0), (152, tabObj #[]), (a, o)], ?_, .cons d3 (.cons d2 (.cons d1 (.cons d0 (.cons rfl (.cons rfl .nil)))))⟩, ?_, by decide, fun i x e => e, .of_eq hg, rfl⟩
    · rw [show lk (lawM none none none none none none none) = mL from funext hmL]; exact F.ns
    · cases q : (ghostOf s₁.heap [(156, 152)]).get? c.L with
      | none => rfl
      | some o' => exact absurd (Nat.lt_of_lt_of_le (Heap.lt_size q) F.above) (Nat.lt_irrefl _)
    · intro q hq
      simp only [List.mem_cons, List.not_mem_nil, or_false] at hq
      have old : ∀ {x y}, (x, y) ∈ [(s₁.heap.objs.size + 4, w3), (s₁.heap.objs.size + 3, w2), (s₁.heap.objs.size + 2, w1), (s₁.heap.objs.size + 1, w0), (152, tabObj #[])] → h₁.get? x = some y ∧ x ≠ c.L ∧ c.h₀.get? x = none := fun {x y} hm => ⟨(N _ hm).1, (N _ hm).2.1, hide (N _ hm).2.2⟩
      rcases hq with rfl | rfl | rfl | rfl | rfl | rfl
      · exact old (.head _)
      · exact old (.tail _ (.head _))
      · exact old (.tail _ (.tail _ (.head _)))
      · exact old (.tail _ (.tail _ (.tail _ (.head _))))
      · exact old (.tail _ (.tail _ (.tail _ (.tail _ (.head _)))))
      · exact ⟨F.keep _ _ hga, Nat.ne_of_lt hlt, hideAll_none _ (List.mem_singleton.mpr rfl)⟩
    · show [s₁.heap.objs.size + 4, s₁.heap.objs.size + 3, s₁.heap.objs.size + 2, s₁.heap.objs.size + 1, 152, a].Nodup
      simp only [List.nodup_cons, List.mem_cons, List.not_mem_nil, or_false, not_or, not_false_eq_true, List.nodup_nil, and_true]
      have na : ∀ j : Nat, ¬ s₁.heap.objs.size + j = a := fun j q => absurd hlt (by rw [← q]; exact Nat.not_lt.mpr (Nat.le_add_right _ _))
      refine ⟨⟨by omega, by omega, by omega, by omega, na 4⟩, ⟨by omega, by omega, by omega, na 3⟩, ⟨by omega, by omega, na 2⟩, ⟨by omega, na 1⟩, fun q => ha152 q.symm⟩
  refine wpAny_mono (law_tt (c := c) hF hsc hcl (by show 12 ≤ 20; decide) rfl hc hdd hI hlen hfacts _ H E) ?_ fun _ _ e => e
  rintro fl s' ⟨m', n', H', rfl, ps, hpk⟩
  have H' := H'.pick hpk
  obtain ⟨o1, g1, e1, _⟩ := H'.get (a := 152) List.mem_cons_self
  obtain ⟨o2, g2, e2, _⟩ := H'.get (a := a) (List.mem_cons_of_mem _ List.mem_cons_self)
  subst e1 e2
  refine ⟨rfl, fun b ob e => ?_, H'.os, H'.bare, ⟨⟨ps, g1⟩, trivial⟩⟩
  by_cases hb : b = a
  · subst hb
    rw [hga] at e; cases e
    exact g2
  · exact H'.fr.keep b ob (hideAll_get _ e (by rw [List.mem_singleton]; exact hb))


end
section
open PySem PySem.W PySem.Calls PyProof.Rows
/-- what stood before stands after: all but the tables, and these have grown from nothing -/
theorem old_grown {h h' : Heap} {tabs : List (Addr × Addr)} (hT : TabsAt tabs h) (hk : ∀ b o, (ghostOf h tabs).get? b = some o → h'.get? b = some o) (hgr : GrownAll tabs h') : OldK h h' := by
  have key : ∀ b o, h.get? b = some o → h'.get? b = some o ∨ (b ∈ tabs.map (·.2) ∧ o = tabObj #[]) := fun b o e => by
    by_cases hb : b ∈ tabs.map (·.2)
    · obtain ⟨q, hq, rfl⟩ := List.mem_map.mp hb
      have e2 := (hT q hq).2.symm.trans e
      exact .inr ⟨hb, (Option.some.inj e2).symm⟩
    · exact .inl (hk b o (hideAll_get _ e hb))
  have tab : ∀ b, b ∈ tabs.map (·.2) → isCodeTable h b ∧ ∃ ps, h'.get? b = some (tabObj ps) := fun b hb => by
    obtain ⟨q, hq, rfl⟩ := List.mem_map.mp hb
    exact ⟨((hT q hq).1.tab (hT q hq).2).isCodeTable, hgr.get q hq⟩
  refine ⟨fun b o e => ?_, fun b o e => ?_⟩
  · rcases key b o e with h1 | ⟨hb, rfl⟩
    · exact .inl h1
    · obtain ⟨ht, ps, hP⟩ := tab b hb
      exact .inr (.inl ⟨ht, rfl, #[], ps, rfl, by simpa using hP⟩)
  · rcases key b o e with h1 | ⟨hb, _⟩
    · exact ⟨o, h1⟩
    · obtain ⟨_, ps, hP⟩ := tab b hb
      exact ⟨_, hP⟩
theorem end_true {M : Model} {A : Around} {cd : Code} {s s₁ : Shared} {cw : ClaimW} {cl : Str → Option Addr} {mean : ExcName → Option Value} {args : List WData} {tabs : List (Addr × Addr)} (hT : TabsAt tabs s₁.heap) (hr : ∀ x, cw.raises args x = false) (hp : cw.post args (.bool true) args = true)
    (h : codeAny M A cd (fun r s' => r = .ok (.ret (.bool true)) ∧ (∀ b o, (ghostOf s₁.heap tabs).get? b = some o → s'.heap.get? b = some o) ∧ s'.os = s₁.os ∧ AllBare s'.gens ∧ GrownAll tabs s'.heap) s) : codeAny M A cd (GoodWG cw cl mean args s₁) s :=
  codeAny_mono h fun r s' ⟨e, hk, hos, hg, hgr⟩ => ⟨.inl ⟨.bool true, .bool true, [], e, hr, .bool true, hp, fun _ => ⟨List.nodup_nil, fun _ h => nomatch h⟩⟩, old_grown hT hk hgr, hos, hg⟩
theorem lkM_none (y : Str) : lk (lawM none none none none none none none) y = none := by
  simp [lk_cons, lk_nil]
theorem facts (N : List Int) (h : N.length = 4 ∨ N.length = 5) : Facts N := factsOf h
set_option maxHeartbeats 8000000 in
theorem entry : PySem.Challenge.rw_rl0092_01.Holds := by
  refine hTop (by rfl) (by rfl) (by rfl) ?_
  k_fill
  intro w s₀ s₁ mg mb G Y fa o pm cd doc dV kV ho hq hcd hD hmg hg args vals as hpre hlay hrd hwl hlo
  have KX := km_in_of Y
  km_tabs Y
  have X := (Ground.X G).1
  have V := (Ground.X G).2
  refine Ground.open G ?_
  intro T B D TE TW
  try (refine guard_noD D (by decide +kernel) ?_; clear D)
  km_lay T hmg ho hq cd
  wrow_args hpre hlay hrd hwl hlo
  refine enter_call ?_
  w_top on
  refine end_true hT9 (fun _ => rfl) (by first | kernel_rfl | exact postW_of (by wrow_shape) (by wtm_val) (by str_meet; first | done | w_fin)) ?_
  w_call any ho hq hcd hD T F
  clear hq
  kn_ghosts F T
  clear Y G V X B TE TW hmg
  rename_i ns hs hlay0 hL1 hr1 hl2 as1 as2 a vs as3 hLx ra w1x r0x hI hrx hlen hT1 h1 tk w3 w2 w1 w0 d3 d2 d1 d0 X0 X1 T1 K1 F1 N1 l0
  have hll : ns.length ≤ 63 := by omega
  clear hs hlay0 hL1 hr1 hl2 hLx ra w1x r0x hrx hlen hT1 X0 K1 T1
  refine wpAny_mono (entry_run (E := fun _ _ => False) (a := a) (vs := vs) (ns := ns) ⟨_, _, _, _, _, _, _, _, _, _, _, _, _, by k_is⟩ rfl rfl rfl rfl rfl rfl rfl rfl T (by kernel_rfl) hT9 X1 F1 (fun y => ?_) N1 d3 d2 d1 d0 lifted hI hll hg facts) ?_ fun _ _ e => e.elim
  · exact lkM_none y
  · rintro fl s' ⟨rfl, hk, hos, hgens, hgr⟩
    exact ⟨rfl, hk, hos, hgens, hgr⟩


end
end Mine
end
set_option maxRecDepth 100000 in
set_option maxHeartbeats 8000000 in
theorem PySem.Challenge.cw_rl0092_01_holds : PySem.Challenge.rw_rl0092_01.Holds := by
  exact Mine.entry
