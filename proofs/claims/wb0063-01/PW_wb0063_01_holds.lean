import PyProof.Rows.All
import Wide.All
import OpenK.KLine
import OpenK.KOwn
import KE.KxBytes
import KE.KBytesCut
import KE.KBytesWalk
import Wide.FinOn
import PySem.Challenge.RW_wb0063_01
set_option Elab.async false
section
open PySem PySem.W PyProof.Rows
namespace Mine
set_option maxRecDepth 100000 in
set_option maxHeartbeats 8000000 in
open_top hd for PySem.Challenge.rw_wb0063_01
end Mine
end
section
open PySem PySem.W PyProof.Rows PySem.Spec PySem.Calls
namespace Mine
inductive MV where
  | none
  | bool (b : Bool)
  | int (i : Int)
  | str (x : List Nat)
  | bytes (x : List UInt8)
  | ref (n : Nat)
  | tup (xs : List MV)
  | fix (v : Value)
  | script
inductive MO where
  | list (xs : List MV)
  | inst (C : Addr) (d : Nat)
  | idict (v : Option MV)
  | kwd
structure Base where
  prog : Program
  w : World
  K : Frag
  s₀ : Shared
  l₀ : Addr
  svs : List Value
  sns : List Int
  mg : Str → Option Value
  mb : Str → Option Value
structure Base.Ok (B : Base) : Prop where
  islist : B.s₀.heap.IsList B.l₀ B.svs.toArray
  areInts : IntsAre B.svs B.sns
  few : B.sns.length ≤ 63
  nolimit : B.s₀.heap.NoLimit
  g : B.s₀.heap.Ns mainGlobals B.mg
  b : B.s₀.heap.Ns builtinsNs B.mb
  builtins : ∀ x : Str, x ≠ "__name__" → B.mb x = bootBuiltins x
  k : B.K.In B.s₀.heap
noncomputable def mkS (x : List Nat) : Str := ⟨⟨x⟩⟩
mutual
inductive VR (h : Heap) (ρ : List Addr) (l₀ : Addr) : MV → Value → Prop
  | none : VR h ρ l₀ .none .none
  | bool (b : Bool) : VR h ρ l₀ (.bool b) (.bool b)
  | int (i : Int) (t : Tok) : VR h ρ l₀ (.int i) (.int i t)
  | str (x : List Nat) (t : Tok) : VR h ρ l₀ (.str x) (.str (mkS x) t)
  | bytes (x : List UInt8) (t : Tok) : VR h ρ l₀ (.bytes x) (.bytes ⟨x⟩ t)
  | ref (n : Nat) (a : Addr) : ρ[n]? = some a → VR h ρ l₀ (.ref n) (.ref a)
  | tup (xs : List MV) (vs : List Value) (a : Addr) : h.IsTuple a ⟨vs⟩ → VRL h ρ l₀ xs vs → VR h ρ l₀ (.tup xs) (.ref a)
  | fix (v : Value) : VR h ρ l₀ (.fix v) v
  | script : VR h ρ l₀ .script (.ref l₀)
inductive VRL (h : Heap) (ρ : List Addr) (l₀ : Addr) : List MV → List Value → Prop
  | nil : VRL h ρ l₀ [] []
  | cons {x v xs vs} : VR h ρ l₀ x v → VRL h ρ l₀ xs vs → VRL h ρ l₀ (x :: xs) (v :: vs)
end
noncomputable def InstIs (h : Heap) (a C d : Addr) : Prop := ∃ o, h.get? a = some o ∧ o.cls = .ref C ∧ o.dict = some d ∧ ∀ c, o.data ≠ .cls c
noncomputable def KwDict (h : Heap) (a : Addr) : Prop := h.get? a = some { cls := .type "dict", dict := none, data := .dict #[] 0, slots := #[] } ∧ a ≠ sysModules
noncomputable def LIs (h : Heap) (a : Addr) (vs : List Value) : Prop := ∃ n, h.get? a = some { cls := .type "list", dict := none, data := .seq ⟨vs⟩ n, slots := #[] }
theorem LIs.isList {h a vs} (x : LIs h a vs) : h.IsList a ⟨vs⟩ := let ⟨n, e⟩ := x; ⟨_, e, rfl, n, rfl⟩
inductive OR (h : Heap) (ρ : List Addr) (l₀ : Addr) : MO → Addr → Prop
  | list (xs : List MV) (vs : List Value) (a : Addr) : LIs h a vs → VRL h ρ l₀ xs vs → OR h ρ l₀ (.list xs) a
  | inst (C : Addr) (d : Nat) (a b : Addr) : ρ[d]? = some b → InstIs h a C b → OR h ρ l₀ (.inst C d) a
  | idict0 (a : Addr) (m : Str → Option Value) : h.Ns1 a m → (∀ x, m x = none) → OR h ρ l₀ (.idict none) a
  | idict1 (a : Addr) (m : Str → Option Value) (x : MV) (v : Value) : h.Ns1 a m → VR h ρ l₀ x v → (∀ y, m y = if y = Str.ofString "_headers" then some v else none) → OR h ρ l₀ (.idict (some x)) a
  | kwd (a : Addr) : KwDict h a → OR h ρ l₀ .kwd a
structure Good (B : Base) (ρ : List Addr) (hp : List MO) (s : Shared) : Prop where
  same : ∃ h tk, s = { B.s₀ with heap := h, toks := tk }
  keep : ∀ b o, B.s₀.heap.get? b = some o → s.heap.get? b = some o
  fresh : ∀ a ∈ ρ, B.s₀.heap.get? a = none
  nd : ρ.Nodup
  len : ρ.length = hp.length
  ok : ∀ (i : Nat) (mo : MO) (a : Addr), hp[i]? = some mo → ρ[i]? = some a → OR s.heap ρ B.l₀ mo a
structure Ext (ρ : List Addr) (h : Heap) (ρ' : List Addr) (h' : Heap) (W : List Addr) : Prop where
  more : ∃ m, ρ' = ρ ++ m ∧ ∀ a ∈ m, h.get? a = none
  keep : ∀ b o, h.get? b = some o → b ∉ ρ → b ∉ W → h'.get? b = some o
  alive : ∀ b o, h.get? b = some o → b ∉ W → ∃ o', h'.get? b = some o'
theorem Ext.refl {ρ h W} : Ext ρ h ρ h W := ⟨⟨[], by simp, fun _ hp => nomatch hp⟩, fun _ _ e _ _ => e, fun _ o e _ => ⟨o, e⟩⟩
theorem Ext.weaken {ρ h ρ' h' W W'} (x : Ext ρ h ρ' h' W) (hs : ∀ a ∈ W, a ∈ W') : Ext ρ h ρ' h' W' :=
  ⟨x.more, fun b o e h1 h2 => x.keep b o e h1 fun q => h2 (hs b q), fun b o e h2 => x.alive b o e fun q => h2 (hs b q)⟩
theorem Ext.nil {ρ h ρ' h' W} (x : Ext ρ h ρ' h' []) : Ext ρ h ρ' h' W := x.weaken fun _ q => nomatch q
theorem Ext.get {ρ h ρ' h' W} (x : Ext ρ h ρ' h' W) {n : Nat} {a : Addr} (e : ρ[n]? = some a) : ρ'[n]? = some a := by
  obtain ⟨m, rfl, _⟩ := x.more
  rw [List.getElem?_append_left (by exact (List.getElem?_eq_some_iff.mp e).1)]
  exact e
theorem Ext.notin {ρ h ρ' h' W} (x : Ext ρ h ρ' h' W) {b : Addr} {o : Obj} (e : h.get? b = some o) (hb : b ∉ ρ) : b ∉ ρ' := by
  obtain ⟨m, rfl, hm⟩ := x.more
  intro q
  rcases List.mem_append.mp q with q | q
  · exact hb q
  · rw [hm b q] at e; cases e
theorem Ext.trans {ρ h ρ' h' ρ'' h'' W} (x : Ext ρ h ρ' h' W) (y : Ext ρ' h' ρ'' h'' W) (hW : ∀ a ∈ W, a ∉ ρ'' := by exact fun _ q => nomatch q) : Ext ρ h ρ'' h'' W := by
  obtain ⟨m, e1, hm⟩ := x.more
  obtain ⟨m', e2, hm'⟩ := y.more
  refine ⟨⟨m ++ m', by rw [e2, e1, List.append_assoc], fun a ha => ?_⟩, fun b o e h1 h2 => y.keep b o (x.keep b o e h1 h2) (x.notin e h1) h2, fun b o e h2 => ?_⟩
  · rcases List.mem_append.mp ha with q | q
    · exact hm a q
    · cases e : h.get? a with
      | none => rfl
      | some o =>
        by_cases hw : a ∈ W
        · exact absurd (by rw [e2]; exact List.mem_append.mpr (.inr q)) (hW a hw)
        · obtain ⟨o', e'⟩ := x.alive a o e hw
          rw [hm' a q] at e'; cases e'
  · obtain ⟨o', e'⟩ := x.alive b o e h2
    exact y.alive b o' e' h2
theorem Ext.keeps {ρ : List Addr} {h h' : Heap} {W} (hk : ∀ b o, h.get? b = some o → h'.get? b = some o) : Ext ρ h ρ h' W :=
  ⟨⟨[], by simp, fun _ hp => nomatch hp⟩, fun b o e _ _ => hk b o e, fun b o e _ => ⟨o, hk b o e⟩⟩
noncomputable def NoTup (h : Heap) (W : List Addr) : Prop := ∀ a ∈ W, ∀ its, ¬ h.IsTuple a its
theorem NoTup.nil {h} : NoTup h [] := fun _ q => nomatch q
theorem IsTuple.det {h : Heap} {a : Addr} {o : Obj} {its} (x : h.IsTuple a its) (e : h.get? a = some o) : o.cls = .type "tuple" ∧ ∃ n, o.data = .seq its n := by
  obtain ⟨o', e', hc, n, hd⟩ := x
  rw [e] at e'; cases e'
  exact ⟨hc, n, hd⟩
theorem Ns.notTup {h : Heap} {a m its} (n : h.Ns a m) : ¬ h.IsTuple a its := by
  intro t
  obtain ⟨o, es, ep, e, hd, _⟩ := n
  obtain ⟨_, k, hd'⟩ := IsTuple.det t e
  rw [hd] at hd'; cases hd'
theorem OR.notTup {h ρ l₀ mo a} (x : OR h ρ l₀ mo a) (its) : ¬ h.IsTuple a its := by
  intro t
  cases x with
  | list xs vs _ hl _ =>
    obtain ⟨n, e⟩ := hl
    have := (IsTuple.det t e).1
    simp at this
  | inst C d _ b _ hi =>
    obtain ⟨o, e, hc, _⟩ := hi
    have := (IsTuple.det t e).1
    rw [hc] at this; cases this
  | idict0 _ m hd _ => exact Ns.notTup hd.ns t
  | idict1 _ m _ _ hd _ _ => exact Ns.notTup hd.ns t
  | kwd _ hd =>
    have := (IsTuple.det t hd.1).1
    simp at this
theorem Good.notTup {B ρ hp s} (G : Good B ρ hp s) {a : Addr} (ha : a ∈ ρ) (its) : ¬ s.heap.IsTuple a its := by
  obtain ⟨i, hi, rfl⟩ := List.getElem_of_mem ha
  have hi' : i < hp.length := G.len ▸ hi
  exact (G.ok i hp[i] ρ[i] (List.getElem?_eq_getElem hi') (List.getElem?_eq_getElem hi)).notTup its
mutual
theorem VR.ext {h ρ l₀ h' ρ' W} (x : Ext ρ h ρ' h' W) (hρ : ∀ a ∈ ρ, ∀ its, ¬ h.IsTuple a its) (hW : NoTup h W) : ∀ {v u}, VR h ρ l₀ v u → VR h' ρ' l₀ v u
  | _, _, .none => .none
  | _, _, .bool b => .bool b
  | _, _, .int i t => .int i t
  | _, _, .str y t => .str y t
  | _, _, .bytes y t => .bytes y t
  | _, _, .ref n a e => .ref n a (x.get e)
  | _, _, .tup xs vs a ht hl => .tup xs vs a (by
      obtain ⟨o, e, hc, n, hd⟩ := id ht
      exact ⟨o, x.keep a o e (fun q => hρ a q _ ht) (fun q => hW a q _ ht), hc, n, hd⟩) (VRL.ext x hρ hW hl)
  | _, _, .fix v => .fix v
  | _, _, .script => .script
theorem VRL.ext {h ρ l₀ h' ρ' W} (x : Ext ρ h ρ' h' W) (hρ : ∀ a ∈ ρ, ∀ its, ¬ h.IsTuple a its) (hW : NoTup h W) : ∀ {xs vs}, VRL h ρ l₀ xs vs → VRL h' ρ' l₀ xs vs
  | _, _, .nil => .nil
  | _, _, .cons a b => .cons (VR.ext x hρ hW a) (VRL.ext x hρ hW b)
end
theorem Good.vr {B ρ hp s h' ρ' W v u} (G : Good B ρ hp s) (x : Ext ρ s.heap ρ' h' W) (hW : NoTup s.heap W) (hv : VR s.heap ρ B.l₀ v u) : VR h' ρ' B.l₀ v u :=
  hv.ext x (fun _ ha its => G.notTup ha its) hW
theorem Good.vrl {B ρ hp s h' ρ' W v u} (G : Good B ρ hp s) (x : Ext ρ s.heap ρ' h' W) (hW : NoTup s.heap W) (hv : VRL s.heap ρ B.l₀ v u) : VRL h' ρ' B.l₀ v u :=
  hv.ext x (fun _ ha its => G.notTup ha its) hW
theorem VRL.length {h ρ l₀} : ∀ {xs vs}, VRL h ρ l₀ xs vs → xs.length = vs.length
  | _, _, .nil => rfl
  | _, _, .cons _ b => by simp [b.length]
structure Ctx where
  sc : List (Str × NameKind)
  tbl : List Str
abbrev Loc := List (Option MV)
noncomputable def envW (env : Env) : List Addr := env.locals :: env.cells.map (·.2)
structure FrR (B : Base) (Γ : Ctx) (env : Env) (loc : Loc) (ρ : List Addr) (h : Heap) : Prop where
  kind : env.scope.kind = .function
  names : env.scope.names = Γ.sc
  glob : env.globals = mainGlobals
  blt : env.builtins = builtinsNs
  ns : ∃ m, h.Ns env.locals m ∧ ∀ (i : Nat) (x : Str) (v : MV), Γ.tbl[i]? = some x → loc[i]? = some (some v) → Γ.sc.lookup x = some .local → ∃ u, m x = some u ∧ VR h ρ B.l₀ v u
  cell : ∀ (x : Str), (Γ.sc.lookup x = some .cell ∨ Γ.sc.lookup x = some .free) → ∃ c u, env.cells.lookup x = some c ∧ h.IsCell c u
  cval : ∀ (i : Nat) (x : Str) (v : MV), Γ.tbl[i]? = some x → loc[i]? = some (some v) → (Γ.sc.lookup x = some .cell ∨ Γ.sc.lookup x = some .free) → ∃ c u, env.cells.lookup x = some c ∧ h.IsCell c (some u) ∧ VR h ρ B.l₀ v u
  kinds : ∀ (i : Nat) (x : Str), Γ.tbl[i]? = some x → Γ.sc.lookup x = some .local ∨ Γ.sc.lookup x = some .cell ∨ Γ.sc.lookup x = some .free
  cells : ∀ c ∈ env.cells, ∃ u, h.IsCell c.2 u
  apart : env.cells.Pairwise fun x y => x.2 ≠ y.2
  lne : ∀ c ∈ env.cells, env.locals ≠ c.2
  out : ∀ a ∈ envW env, a ∉ ρ
  new : ∀ a ∈ envW env, B.s₀.heap.get? a = none
  tnd : Γ.tbl.Nodup
theorem IsCell.notTup {h : Heap} {a u its} (n : h.IsCell a u) : ¬ h.IsTuple a its := by
  intro t
  obtain ⟨o, e, hd⟩ := n
  obtain ⟨_, k, hd'⟩ := IsTuple.det t e
  rw [hd] at hd'; cases hd'
theorem FrR.noTup {B Γ env loc ρ h} (F : FrR B Γ env loc ρ h) : NoTup h (envW env) := by
  intro a ha its
  rcases List.mem_cons.mp ha with rfl | ha
  · obtain ⟨m, hn, _⟩ := F.ns
    exact Ns.notTup hn
  · obtain ⟨c, hc, rfl⟩ := List.mem_map.mp ha
    obtain ⟨u, hu⟩ := F.cells c hc
    exact IsCell.notTup hu
theorem FrR.ext {B Γ env loc ρ hp s ρ' h'} (F : FrR B Γ env loc ρ s.heap) (G : Good B ρ hp s) (x : Ext ρ s.heap ρ' h' []) : FrR B Γ env loc ρ' h' := by
  have kc : ∀ {c u}, s.heap.IsCell c u → c ∉ ρ → h'.IsCell c u := fun ⟨o, e, hd⟩ hc => ⟨o, x.keep _ o e hc (fun q => nomatch q), hd⟩
  have cin : ∀ {n c}, env.cells.lookup n = some c → c ∉ ρ := fun e => F.out _ (List.mem_cons_of_mem _ (List.mem_map.mpr ⟨_, mem_of_lookup e, rfl⟩))
  refine ⟨F.kind, F.names, F.glob, F.blt, ?_, ?_, ?_, F.kinds, ?_, F.apart, F.lne, ?_, F.new, F.tnd⟩
  · obtain ⟨m, hn, hv⟩ := F.ns
    refine ⟨m, hn.at fun o e => x.keep _ o e (F.out _ (List.mem_cons_self ..)) (fun q => nomatch q), fun i y v a b c => ?_⟩
    obtain ⟨u, hu, hr⟩ := hv i y v a b c
    exact ⟨u, hu, G.vr x .nil hr⟩
  · intro y hy
    obtain ⟨c, u, e, hc⟩ := F.cell y hy
    exact ⟨c, u, e, kc hc (cin e)⟩
  · intro i y v a b hy
    obtain ⟨c, u, e, hc, hr⟩ := F.cval i y v a b hy
    exact ⟨c, u, e, kc hc (cin e), G.vr x .nil hr⟩
  · intro c hc
    obtain ⟨u, hu⟩ := F.cells c hc
    exact ⟨u, kc hu (F.out _ (List.mem_cons_of_mem _ (List.mem_map.mpr ⟨c, hc, rfl⟩)))⟩
  · intro a ha
    rcases List.mem_cons.mp ha with rfl | ha'
    · obtain ⟨m, ⟨o, _, _, e, _⟩, _⟩ := F.ns
      exact x.notin e (F.out _ ha)
    · obtain ⟨c, hc, rfl⟩ := List.mem_map.mp ha'
      obtain ⟨u, o, e, _⟩ := F.cells c hc
      exact x.notin e (F.out _ ha)
end Mine
end
section
open PySem PySem.W PyProof.Rows PySem.Spec PySem.Calls
namespace Mine
structure AOK (d : Nat) (A : Around) : Prop where
  handled : A.handled = none
  depth : A.depth + d ≤ 900
  units : A.units + 20 * d ≤ 9000
theorem AOK.le {d d' A} (x : AOK d A) (h : d' ≤ d) : AOK d' A := ⟨x.handled, by have := x.depth; omega, by have := x.units; omega⟩
theorem AOK.deeper {d A env} (x : AOK (d + 1) A) : AOK d (A.deeper env) := ⟨x.handled, by have := x.depth; show A.depth + 1 + d ≤ 900; omega, by have := x.units; show A.units + 3 + 20 * d ≤ 9000; omega⟩
theorem AOK.in1 {d A} (x : AOK (d + 1) A) : AOK d A.in1 := ⟨x.handled, by have := x.depth; show A.depth + d ≤ 900; omega, by have := x.units; show A.units + 1 + 20 * d ≤ 9000; omega⟩
theorem AOK.room {d A} (x : AOK d A) : A.depth < recursionLimit := by have := x.depth; show A.depth < 1000; omega
theorem AOK.cl {d A} (x : AOK d A) : A.units < cLine := by have := x.units; show A.units < 9900; omega
abbrev ME := Loc → List MO → Option (MV × List MO)
abbrev ML := Loc → List MO → Option (List MV × List MO)
abbrev MT := Loc → List MO → Option (Bool × List MO)
inductive MFlow where
  | next | brk | cont
  | ret (v : MV)
abbrev MS := Loc → List MO → Option (MFlow × Loc × List MO)
abbrev Aft (B : Base) (ρ : List Addr) (s : Shared) (hp' : List MO) (v : MV) (Q : Value → Shared → Prop) : Prop :=
  ∀ u ρ' s', Ext ρ s.heap ρ' s'.heap [] → Good B ρ' hp' s' → VR s'.heap ρ' B.l₀ v u → Q u s'
noncomputable def TreeOk (B : Base) (d : Nat) (ρ : List Addr) (s : Shared) (t : Sem Value) (v : MV) (hp' : List MO) : Prop :=
  ∀ A Q E, AOK d A → Aft B ρ s hp' v Q → wpAny (model B.prog B.w) A t Q E s
noncomputable def SndE (B : Base) (d : Nat) (Γ : Ctx) (e : PySem.Expr) (m : ME) : Prop :=
  ∀ env loc hp v hp' ρ s, m loc hp = some (v, hp') → Good B ρ hp s → FrR B Γ env loc ρ s.heap → TreeOk B d ρ s (eval e env) v hp'
noncomputable def SndT (B : Base) (d : Nat) (Γ : Ctx) (e : PySem.Expr) (m : MT) : Prop :=
  ∀ env loc hp b hp' ρ s, m loc hp = some (b, hp') → Good B ρ hp s → FrR B Γ env loc ρ s.heap →
    ∀ A Q E, AOK d A → (∀ ρ' s', Ext ρ s.heap ρ' s'.heap [] → Good B ρ' hp' s' → Q b s') → wpAny (model B.prog B.w) A (isTrue e env (eval e env)) Q E s
noncomputable def SndL (B : Base) (d : Nat) (Γ : Ctx) (es : List PySem.Expr) (m : ML) : Prop :=
  ∀ env loc hp vs hp' ρ s pos, m loc hp = some (vs, hp') → Good B ρ hp s → FrR B Γ env loc ρ s.heap →
    ∀ A Q E, AOK d A → (∀ us ρ' s', Ext ρ s.heap ρ' s'.heap [] → Good B ρ' hp' s' → VRL s'.heap ρ' B.l₀ vs us → Q us s') → wpAny (model B.prog B.w) A (spliced (backTo pos (starEach es env))) Q E s
section
variable {B : Base} {d : Nat} {Γ : Ctx} {env : Env} {loc : Loc} {hp hp' : List MO} {ρ : List Addr} {s : Shared} {A : Around} {E : Value → Shared → Prop}
theorem Good.tok (G : Good B ρ hp s) (t : Nat) : Good B ρ hp { s with toks := t } :=
  ⟨by obtain ⟨h, tk, e⟩ := G.same; exact ⟨h, t, by rw [e]⟩, G.keep, G.fresh, G.nd, G.len, G.ok⟩
theorem OR.ext {h ρ l₀ h' ρ' W mo a} (x : Ext ρ h ρ' h' W) (hρ : ∀ a ∈ ρ, ∀ its, ¬ h.IsTuple a its) (hW : NoTup h W)
    (hk : ∀ o, h.get? a = some o → h'.get? a = some o) (r : OR h ρ l₀ mo a) : OR h' ρ' l₀ mo a := by
  cases r with
  | list xs vs _ hl hv =>
    obtain ⟨n, e⟩ := hl
    exact .list xs vs _ ⟨n, hk _ e⟩ (hv.ext x hρ hW)
  | inst C d _ b e hi =>
    obtain ⟨o, e', r⟩ := hi
    exact .inst C d _ b (x.get e) ⟨o, hk o e', r⟩
  | idict0 _ m hd hm => exact .idict0 _ m (hd.at hk) hm
  | idict1 _ m y v hd hv hm => exact .idict1 _ m y v (hd.at hk) (hv.ext x hρ hW) hm
  | kwd _ hd => exact .kwd _ ⟨hk _ hd.1, hd.2⟩
theorem OR.alive {h ρ l₀ mo a} (r : OR h ρ l₀ mo a) : ∃ o, h.get? a = some o := by
  cases r with
  | list _ _ _ h _ => obtain ⟨n, e⟩ := h; exact ⟨_, e⟩
  | inst _ _ _ _ _ h => obtain ⟨o, e, _⟩ := h; exact ⟨o, e⟩
  | idict0 _ _ h _ => obtain ⟨o, _, _, e, _⟩ := h; exact ⟨o, e⟩
  | idict1 _ _ _ _ h _ _ => obtain ⟨o, _, _, e, _⟩ := h; exact ⟨o, e⟩
  | kwd _ h => exact ⟨_, h.1⟩
theorem Good.nt (G : Good B ρ hp s) : ∀ a ∈ ρ, ∀ its, ¬ s.heap.IsTuple a its := fun _ ha its => G.notTup ha its
theorem Good.keeps (G : Good B ρ hp s) {h' : Heap} {tk : Nat} (hk : ∀ b o, s.heap.get? b = some o → h'.get? b = some o) : Good B ρ hp { s with heap := h', toks := tk } :=
  ⟨by obtain ⟨h, t, e⟩ := G.same; exact ⟨h', tk, by rw [e]⟩, fun b o e => hk b o (G.keep b o e), G.fresh, G.nd, G.len,
    fun i mo a e1 e2 => (G.ok i mo a e1 e2).ext (Ext.keeps hk : Ext ρ s.heap ρ h' []) G.nt .nil (fun o e => hk a o e)⟩
theorem Good.push (G : Good B ρ hp s) (o : Obj) : Good B ρ hp { s with heap := s.heap.push o } := G.keeps (tk := s.toks) fun _ _ e => Heap.get?_push_of_some _ e
theorem Good.alloc (G : Good B ρ hp s) {o : Obj} {mo : MO} (hf : o.isFreed = false) (hr : OR (s.heap.push o) (ρ ++ [s.heap.objs.size]) B.l₀ mo s.heap.objs.size) :
    Good B (ρ ++ [s.heap.objs.size]) (hp ++ [mo]) { s with heap := s.heap.push o } ∧ Ext ρ s.heap (ρ ++ [s.heap.objs.size]) (s.heap.push o) [] := by
  have hn : s.heap.get? s.heap.objs.size = none := by
    cases e : s.heap.get? s.heap.objs.size with
    | none => rfl
    | some o => exact absurd (Heap.lt_size e) (Nat.lt_irrefl _)
  have hk : ∀ b o', s.heap.get? b = some o' → (s.heap.push o).get? b = some o' := fun _ _ e => Heap.get?_push_of_some _ e
  have x : Ext ρ s.heap (ρ ++ [s.heap.objs.size]) (s.heap.push o) [] :=
    ⟨⟨_, rfl, fun a ha => by rw [List.mem_singleton.mp ha]; exact hn⟩, fun b o' e _ _ => hk b o' e, fun b o' e _ => ⟨o', hk b o' e⟩⟩
  have hout : s.heap.objs.size ∉ ρ := fun hm => by
    obtain ⟨i, hi, e⟩ := List.getElem_of_mem hm
    have hi' : i < hp.length := G.len ▸ hi
    have r := G.ok i hp[i] ρ[i] (List.getElem?_eq_getElem hi') (List.getElem?_eq_getElem hi)
    have : ∃ o, s.heap.get? ρ[i] = some o := r.alive
    obtain ⟨o, e'⟩ := this
    rw [e, hn] at e'; cases e'
  refine ⟨⟨?_, ?_, ?_, ?_, ?_, ?_⟩, x⟩
  · obtain ⟨h, t, e⟩ := G.same
    exact ⟨_, t, by rw [e]⟩
  · exact fun b o' e => hk b o' (G.keep b o' e)
  · intro a ha
    rcases List.mem_append.mp ha with q | q
    · exact G.fresh a q
    · rw [List.mem_singleton.mp q]
      cases e : B.s₀.heap.get? s.heap.objs.size with
      | none => rfl
      | some o' => rw [G.keep _ _ e] at hn; cases hn
  · rw [List.nodup_append]
    exact ⟨G.nd, List.nodup_cons.mpr ⟨List.not_mem_nil, List.nodup_nil⟩, fun a ha b hb e => hout (by rw [List.mem_singleton.mp hb] at e; exact e ▸ ha)⟩
  · simp [G.len]
  · intro i mo' a e1 e2
    by_cases hi : i < hp.length
    · rw [List.getElem?_append_left hi] at e1
      rw [List.getElem?_append_left (G.len ▸ hi)] at e2
      exact (G.ok i mo' a e1 e2).ext x G.nt .nil fun o e => hk a o e
    · have hi' : i = hp.length := by
        have := (List.getElem?_eq_some_iff.mp e1).1
        rw [List.length_append] at this
        simp at this; omega
      subst hi'
      rw [List.getElem?_append_right (Nat.le_refl _), Nat.sub_self] at e1
      rw [List.getElem?_append_right (by rw [G.len]; exact Nat.le_refl _), G.len, Nat.sub_self] at e2
      cases e1; cases e2
      exact hr
theorem SndE.run {e : PySem.Expr} {m : ME} (S : SndE B d Γ e m) {v : MV} {hp₁ : List MO} (hm : m loc hp = some (v, hp₁)) (G : Good B ρ hp s) (F : FrR B Γ env loc ρ s.heap) (hA : AOK d A) {Q : Value → Shared → Prop}
    (k : ∀ u ρ₁ s₁, Ext ρ s.heap ρ₁ s₁.heap [] → Good B ρ₁ hp₁ s₁ → FrR B Γ env loc ρ₁ s₁.heap → VR s₁.heap ρ₁ B.l₀ v u → Q u s₁) : wpAny (model B.prog B.w) A (eval e env) Q E s :=
  S env loc hp v hp₁ ρ s hm G F A Q E hA fun u ρ' s' x G' r => k u ρ' s' x G' (F.ext G x) r
/- constants, names -/
theorem snd_int {i : Int} {k pos} : SndE B d Γ (.Constant (.int i) k pos) (fun _ hp => some (.int i, hp)) := by
  intro env loc hp v hp' ρ s hm G F A Q E hA k
  cases hm
  exact wpAny_Constant_int (k _ _ _ .refl (G.tok _) (.int _ _))
theorem snd_none {k pos} : SndE B d Γ (.Constant .none k pos) (fun _ hp => some (.none, hp)) := by
  intro env loc hp v hp' ρ s hm G F A Q E hA k
  cases hm
  exact wpAny_Constant_none (k _ _ _ .refl G .none)
theorem snd_bool {b : Bool} {k pos} : SndE B d Γ (.Constant (.bool b) k pos) (fun _ hp => some (.bool b, hp)) := by
  intro env loc hp v hp' ρ s hm G F A Q E hA k
  cases hm
  exact wpAny_Constant_bool (k _ _ _ .refl G (.bool b))
theorem snd_str {x : Str} {y : List Nat} {k pos} (hy : x = mkS y := by kernel_rfl) : SndE B d Γ (.Constant (.str x) k pos) (fun _ hp => some (.str y, hp)) := by
  intro env loc hp v hp' ρ s hm G F A Q E hA k
  cases hm
  subst hy
  exact wpAny_Constant_str (k _ _ _ .refl (G.tok _) (.str _ _))
theorem snd_bytes {x : List UInt8} {k pos} : SndE B d Γ (.Constant (.bytes x) k pos) (fun _ hp => some (.bytes x, hp)) := by
  intro env loc hp v hp' ρ s hm G F A Q E hA k
  cases hm
  have : (List.toArray x) = ⟨x⟩ := rfl
  exact fun _ _ _ => k (.bytes x.toArray s.toks) ρ { s with toks := s.toks + 1 } .refl (G.tok _) (.bytes x _)
noncomputable def mVar (i : Nat) : ME := fun loc hp => match loc[i]? with
  | some (some v) => some (v, hp)
  | _ => none
theorem snd_name {x : Str} {pos : Pos} (i : Nat) (hi : Γ.tbl[i]? = some x) (hd : (x == ("__debug__" : Str)) = false := by decide) (hc : (x == ("__classdict__" : Str)) = false := by decide) : SndE B d Γ (.Name x pos) (mVar i) := by
  intro env loc hp v hp' ρ s hm G F A Q E hA k
  unfold mVar at hm
  split at hm
  · rename_i v' hv
    cases hm
    have kn : ∀ {q}, Γ.sc.lookup x = some q → env.kindOf x = some q := fun e => by unfold Env.kindOf; rw [F.names]; exact e
    rcases F.kinds i x hi with h | h | h
    · obtain ⟨m, hn, hm⟩ := F.ns
      obtain ⟨u, hu, r⟩ := hm i x v hi hv h
      exact wpAny_Name (wpAny_loadName_local F.kind (kn h) hn hu (k _ _ _ .refl G r)) hd
    · obtain ⟨c, u, e, hcell, r⟩ := F.cval i x v hi hv (.inl h)
      exact wpAny_Name (wpAny_loadName_cell F.kind (kn h) e hcell (k _ _ _ .refl G r)) hd
    · obtain ⟨c, u, e, hcell, r⟩ := F.cval i x v hi hv (.inr h)
      exact wpAny_Name (wpAny_loadName_free F.kind (kn h) e hcell (k _ _ _ .refl G r) hc) hd
  · cases hm
theorem snd_glob {x : Str} {pos : Pos} {v : Value} (O : B.Ok) (hx : Γ.sc.lookup x = some .globalImplicit) (hv : B.mg x = some v) (hd : (x == ("__debug__" : Str)) = false := by decide) :
    SndE B d Γ (.Name x pos) (fun _ hp => some (.fix v, hp)) := by
  intro env loc hp v' hp' ρ s hm G F A Q E hA k
  cases hm
  have kn : env.kindOf x = some .globalImplicit := by unfold Env.kindOf; rw [F.names]; exact hx
  refine Name_function_global F.kind kn (loadGlobal_global (mg := B.mg) ?_ hv (k _ _ _ .refl G (.fix v))) hd
  rw [F.glob]; exact O.g.keeps G.keep
theorem snd_blt {x : Str} {pos : Pos} {v : Value} (O : B.Ok) (hx : Γ.sc.lookup x = some .globalImplicit) (hn : B.mg x = none) (hv : bootBuiltins x = some v) (hne : x ≠ "__name__" := by decide) (hd : (x == ("__debug__" : Str)) = false := by decide) :
    SndE B d Γ (.Name x pos) (fun _ hp => some (.fix v, hp)) := by
  intro env loc hp v' hp' ρ s hm G F A Q E hA k
  cases hm
  have kn : env.kindOf x = some .globalImplicit := by unfold Env.kindOf; rw [F.names]; exact hx
  refine Name_function_global F.kind kn (loadGlobal_builtin (mg := B.mg) (mb := B.mb) ?_ hn ?_ ((O.builtins x hne).trans hv) (k _ _ _ .refl G (.fix v))) hd
  · rw [F.glob]; exact O.g.keeps G.keep
  · rw [F.blt]; exact O.b.keeps G.keep
end
end Mine
end
section
open PySem PySem.W PyProof.Rows PySem.Spec PySem.Calls
set_option linter.unusedVariables false
namespace Mine
noncomputable def few : Nat := 100000
theorem few_le : few ≤ sizeLine := by decide
noncomputable def listOf (hp : List MO) (i : Nat) : Option (List MV) := match hp[i]? with
  | some (.list xs) => some xs
  | _ => none
noncomputable def addMV (a b : MV) (hp : List MO) : Option (MV × List MO) := match a, b with
  | .int a, .int b => some (.int (a + b), hp)
  | .str x, .str y => if x.length + y.length ≤ few then some (.str (x ++ y), hp) else none
  | .bytes x, .bytes y => if x.length + y.length ≤ few then some (.bytes (x ++ y), hp) else none
  | .ref i, .ref j => match listOf hp i, listOf hp j with
    | some xs, some ys => if xs.length + ys.length ≤ few then some (.ref hp.length, hp ++ [.list (xs ++ ys)]) else none
    | _, _ => none
  | _, _ => none
noncomputable def mulMV (a b : MV) (hp : List MO) : Option (MV × List MO) := match a, b with
  | .int a, .int b => if a.natAbs < 2 ^ 62 then some (.int (a * b), hp) else none
  | .str [c], .int n => if n = 2 then some (.str [c, c], hp) else none
  | _, _ => none
noncomputable def intMV (f : Int → Int → Option Int) (a b : MV) (hp : List MO) : Option (MV × List MO) := match a, b with
  | .int a, .int b => match f a b with
    | some c => some (.int c, hp)
    | none => none
  | _, _ => none
noncomputable def opI (op : Operator) (a b : Int) : Option Int := match op with
  | .Sub => some (a - b)
  | .FloorDiv => if b ≠ 0 ∧ b.natAbs < 1073741824 then some (a.fdiv b) else none
  | .Mod => if b ≠ 0 then some (a.fmod b) else none
  | .LShift => if 0 ≤ b ∧ b ≤ 1000 ∧ a.natAbs < 2 ^ 62 then some (a * 2 ^ b.toNat) else none
  | .RShift => if 0 ≤ b then some (a.fdiv (2 ^ b.toNat)) else none
  | .BitAnd => some (Builtin.bitAnd a b)
  | .BitXor => some (Builtin.bitXor a b)
  | .BitOr => some (Builtin.bitOr a b)
  | _ => none
noncomputable def binMV (op : Operator) (a b : MV) (hp : List MO) : Option (MV × List MO) := match op with
  | .Add => addMV a b hp
  | .Mult => mulMV a b hp
  | op => intMV (opI op) a b hp
section
variable {B : Base} {d : Nat} {Γ : Ctx} {env : Env} {loc : Loc} {hp hp' : List MO} {ρ : List Addr} {s : Shared} {A : Around} {E : Value → Shared → Prop}
theorem Good.listP (G : Good B ρ hp s) {i : Nat} {xs : List MV} {a : Addr} (h : listOf hp i = some xs) (e : ρ[i]? = some a) : ∃ vs, LIs s.heap a vs ∧ VRL s.heap ρ B.l₀ xs vs := by
  unfold listOf at h
  split at h
  · rename_i xs' hi
    cases h
    have := G.ok i _ a hi e
    cases this with
    | list _ vs _ hl hv => exact ⟨vs, hl, hv⟩
  · cases h
theorem Good.listAt (G : Good B ρ hp s) {i : Nat} {xs : List MV} {a : Addr} (h : listOf hp i = some xs) (e : ρ[i]? = some a) : ∃ vs, s.heap.IsList a ⟨vs⟩ ∧ VRL s.heap ρ B.l₀ xs vs :=
  let ⟨vs, h1, h2⟩ := G.listP h e; ⟨vs, h1.isList, h2⟩
theorem Good.newList (G : Good B ρ hp s) {xs : List MV} {vs : List Value} (hv : VRL s.heap ρ B.l₀ xs vs) {arr : Array Value} (e : arr = ⟨vs⟩) :
    Good B (ρ ++ [s.heap.objs.size]) (hp ++ [.list xs]) { s with heap := s.heap.push { cls := .type "list", data := .seq arr } } ∧ Ext ρ s.heap (ρ ++ [s.heap.objs.size]) (s.heap.push { cls := .type "list", data := .seq arr }) [] ∧
      VR (s.heap.push { cls := .type "list", data := .seq arr }) (ρ ++ [s.heap.objs.size]) B.l₀ (.ref hp.length) (.ref s.heap.objs.size) := by
  subst e
  have hn : s.heap.get? s.heap.objs.size = none := by
    cases e : s.heap.get? s.heap.objs.size with
    | none => rfl
    | some o => exact absurd (Heap.lt_size e) (Nat.lt_irrefl _)
  have x : Ext ρ s.heap (ρ ++ [s.heap.objs.size]) (s.heap.push { cls := .type "list", data := .seq ⟨vs⟩ }) [] :=
    ⟨⟨_, rfl, fun a ha => by rw [List.mem_singleton.mp ha]; exact hn⟩, fun b o' e _ _ => Heap.get?_push_of_some _ e, fun b o' e _ => ⟨o', Heap.get?_push_of_some _ e⟩⟩
  obtain ⟨h1, h2⟩ := G.alloc (o := { cls := .type "list", data := .seq ⟨vs⟩ }) (mo := .list xs) rfl (.list xs vs _ ⟨_, Heap.get?_push_size _ rfl⟩ (G.vrl x .nil hv))
  refine ⟨h1, h2, .ref _ _ ?_⟩
  rw [List.getElem?_append_right (by rw [G.len]; exact Nat.le_refl _), G.len, Nat.sub_self]; rfl
theorem VRL.append {h ρ l₀} : ∀ {xs vs ys us}, VRL h ρ l₀ xs vs → VRL h ρ l₀ ys us → VRL h ρ l₀ (xs ++ ys) (vs ++ us)
  | _, _, _, _, .nil, h => h
  | _, _, _, _, .cons a b, h => .cons a (b.append h)
theorem Good.newTup (G : Good B ρ hp s) {xs : List MV} {vs : List Value} (hv : VRL s.heap ρ B.l₀ xs vs) {arr : Array Value} (e : arr = ⟨vs⟩) :
    Good B ρ hp { s with heap := s.heap.push { cls := .type "tuple", data := .seq arr } } ∧ Ext ρ s.heap ρ (s.heap.push { cls := .type "tuple", data := .seq arr }) [] ∧
      VR (s.heap.push { cls := .type "tuple", data := .seq arr }) ρ B.l₀ (.tup xs) (.ref s.heap.objs.size) := by
  subst e
  have x : Ext ρ s.heap ρ (s.heap.push { cls := .type "tuple", data := .seq ⟨vs⟩ }) [] := .keeps fun _ _ e => Heap.get?_push_of_some _ e
  exact ⟨G.push _, x, .tup xs vs _ ⟨_, Heap.get?_push_size _ rfl, rfl, _, rfl⟩ (G.vrl x .nil hv)⟩
theorem strLen_mkS (x : List Nat) : (mkS x).length = x.length := rfl
theorem append_mkS (x y : List Nat) : mkS x ++ mkS y = mkS (x ++ y) := by
  show Str.append _ _ = _
  simp [mkS, Str.append]
theorem add_listsG {l b : Addr} {its its2 : List Value} {Q : Value → Shared → Prop} (hl : s.heap.IsList l ⟨its⟩) (hb : s.heap.IsList b ⟨its2⟩)
    (h : Q (.ref s.heap.objs.size) { s with heap := s.heap.push { cls := .type "list", data := .seq ⟨its ++ its2⟩ } })
    (hsz : its.length + its2.length ≤ sizeLine) : wpAny (model B.prog B.w) A (binaryOp .Add (.ref l) (.ref b)) Q E s := by
  obtain ⟨⟨cls, dd, data, sl⟩, ho, hc, n, hd⟩ := id hl
  obtain ⟨⟨cls2, dd2, data2, sl2⟩, ho2, hc2, n2, hd2⟩ := id hb
  simp only at hc hd hc2 hd2
  subst hc hd hc2 hd2
  refine concat_meets ⟨_, ho, rfl⟩ ⟨_, ho2, rfl⟩ noFill_list_add seq_list_add F.slot_list_add F.entry_list_add (F.args_list_add_2 _ _) (list_addW l b ⟨its⟩ ⟨its2⟩ n n2 dd dd2 sl sl2 hsz) ⟨ho, ho2, ?_⟩
  have e : ((⟨its⟩ : Array Value) ++ (⟨its2⟩ : Array Value)) = ⟨its ++ its2⟩ := by simp
  rw [e]; exact h
theorem opI_ok {op : Operator} {a b c : Int} {t u : Tok} (hm : opI op a b = some c) (G : Good B ρ hp s) : TreeOk B d ρ s (binaryOp op (.int a t) (.int b u)) (.int c) hp := by
  intro A Q E hA k
  unfold opI at hm
  split at hm
  · cases hm; exact PySem.P.sub_int (k _ _ _ .refl (G.tok _) (.int _ _))
  · split at hm
    · rename_i h; cases hm
      exact PyProof.Rows.floordiv_int h.1 (k _ _ _ .refl (G.tok _) (.int _ _)) (.inl (PyProof.noPylong_small h.2))
    · cases hm
  · split at hm
    · rename_i h; cases hm
      exact PyProof.Rows.mod_int' h (k _ _ _ .refl (G.tok _) (.int _ _))
    · cases hm
  · split at hm
    · rename_i h; cases hm
      exact PyProof.Rows.lshift_int_small h.1 (by omega) (by omega) (k _ _ _ .refl (G.tok _) (.int _ _))
    · cases hm
  · split at hm
    · rename_i h; cases hm
      exact PyProof.Rows.rshift_int h (k _ _ _ .refl (G.tok _) (.int _ _))
    · cases hm
  · cases hm; exact PyProof.Rows.and_int (k _ _ _ .refl (G.tok _) (.int _ _))
  · cases hm; exact PyProof.Rows.xor_int (k _ _ _ .refl (G.tok _) (.int _ _))
  · cases hm; exact PyProof.Rows.or_int (k _ _ _ .refl (G.tok _) (.int _ _))
  · cases hm
theorem addMV_ok {a b v : MV} {ua ub : Value} (hm : addMV a b hp = some (v, hp')) (G : Good B ρ hp s) (ra : VR s.heap ρ B.l₀ a ua) (rb : VR s.heap ρ B.l₀ b ub) :
    TreeOk B d ρ s (binaryOp .Add ua ub) v hp' := by
  intro A Q E hA k
  unfold addMV at hm
  split at hm
  · cases hm; cases ra; cases rb
    exact PyProof.Rows.add_int (k _ _ _ .refl (G.tok _) (.int _ _))
  · split at hm
    · rename_i h; cases hm; cases ra; cases rb
      refine PyProof.Rows.add_str (fun t' tk => ?_) (by rw [strLen_mkS, strLen_mkS]; exact Nat.le_trans h few_le)
      rw [append_mkS]
      exact k _ _ _ .refl (G.tok _) (.str _ _)
    · cases hm
  · split at hm
    · rename_i x y h; cases hm; cases ra; cases rb
      refine PySem.W.KBy.add_bytes (by simpa [sizeLine_eq] using Nat.le_trans h few_le) (fun t' tk => ?_)
      have e : ((⟨x⟩ : Array UInt8) ++ (⟨y⟩ : Array UInt8)) = ⟨x ++ y⟩ := by simp
      rw [e]
      exact k _ _ _ .refl (G.tok _) (.bytes _ _)
    · cases hm
  · rename_i i j
    split at hm
    · rename_i xs ys hx hy
      split at hm
      · rename_i h; cases hm; cases ra with
        | ref _ a ea => cases rb with
          | ref _ b eb =>
            obtain ⟨vs, hl, hv⟩ := G.listAt hx ea
            obtain ⟨us, hl2, hu⟩ := G.listAt hy eb
            obtain ⟨G', x, r⟩ := G.newList (arr := (vs ++ us).toArray) (hv.append hu) rfl
            exact add_listsG hl hl2 (k _ _ _ x G' r) (by rw [← hv.length, ← hu.length]; exact Nat.le_trans h few_le)
      · cases hm
    · cases hm
  · cases hm
theorem mulMV_ok {a b v : MV} {ua ub : Value} (hm : mulMV a b hp = some (v, hp')) (G : Good B ρ hp s) (ra : VR s.heap ρ B.l₀ a ua) (rb : VR s.heap ρ B.l₀ b ub) :
    TreeOk B d ρ s (binaryOp .Mult ua ub) v hp' := by
  intro A Q E hA k
  unfold mulMV at hm
  split at hm
  · split at hm
    · rename_i h; cases hm; cases ra; cases rb
      exact PyProof.Rows.mul_int (k _ _ _ .refl (G.tok _) (.int _ _)) (.of_left (intBits_le_64 (by omega) (by omega)))
    · cases hm
  · split at hm
    · rename_i c n h; cases hm; cases ra; cases rb
      subst h
      refine PySem.P.mul_str (by decide) (fun _ _ => ?_) (fun _ _ => ?_) ?_
      · show ¬ (((1 : Nat) : Int) > (2 ^ 63 - 1) / 2)
        decide
      · rw [strLen_mkS]; rfl
      · refine ⟨?_, ?_⟩
        · show (2 : Nat) ≤ sizeLine; decide
        · exact k _ _ _ .refl (G.tok _) (.str [c, c] _)
    · cases hm
  · cases hm
theorem intMV_ok {op : Operator} {a b v : MV} {ua ub : Value} (hm : intMV (opI op) a b hp = some (v, hp')) (G : Good B ρ hp s) (ra : VR s.heap ρ B.l₀ a ua) (rb : VR s.heap ρ B.l₀ b ub) :
    TreeOk B d ρ s (binaryOp op ua ub) v hp' := by
  unfold intMV at hm
  split at hm
  · split at hm
    · rename_i h; cases hm; cases ra; cases rb; exact opI_ok h G
    · cases hm
  · cases hm
theorem binMV_ok {op : Operator} {a b v : MV} {ua ub : Value} (hm : binMV op a b hp = some (v, hp')) (G : Good B ρ hp s) (ra : VR s.heap ρ B.l₀ a ua) (rb : VR s.heap ρ B.l₀ b ub) :
    TreeOk B d ρ s (binaryOp op ua ub) v hp' := by
  unfold binMV at hm
  split at hm
  · exact addMV_ok hm G ra rb
  · exact mulMV_ok hm G ra rb
  · exact intMV_ok hm G ra rb
noncomputable def mBin (op : Operator) (m1 m2 : ME) : ME := fun loc hp => match m1 loc hp with
  | none => none
  | some (a, hp1) => match m2 loc hp1 with
    | none => none
    | some (b, hp2) => binMV op a b hp2
theorem snd_bin {l r : PySem.Expr} {op : Operator} {pos : Pos} {m1 m2 : ME} (S1 : SndE B d Γ l m1) (S2 : SndE B d Γ r m2) : SndE B d Γ (.BinOp l op r pos) (mBin op m1 m2) := by
  intro env loc hp v hp' ρ s hm G F A Q E hA k
  unfold mBin at hm
  split at hm
  · cases hm
  · rename_i a hp1 h1
    split at hm
    · cases hm
    · rename_i b hp2 h2
      refine wpAny_BinOp (S1.run h1 G F hA fun ua ρ1 s1 x1 G1 F1 r1 => S2.run h2 G1 F1 hA fun ub ρ2 s2 x2 G2 F2 r2 => ?_)
      exact binMV_ok (d := d) hm G2 (G1.vr x2 .nil r1) r2 A Q E hA fun u ρ3 s3 x3 G3 r3 => k u ρ3 s3 (x1.trans (x2.trans x3)) G3 r3
end
end Mine
end
section
open PySem PySem.W PyProof.Rows PySem.Spec PySem.Calls
set_option linter.unusedVariables false
namespace Mine
noncomputable def eqA (a b : MV) : Option Bool := match a, b with
  | .int a, .int b => some (a == b)
  | .str a, .str b => some (a == b)
  | .bool a, .bool b => some (a == b)
  | _, _ => none
noncomputable def eqAll (f : MV → MV → Option Bool) : List MV → List MV → Option Bool
  | [], [] => some true
  | x :: xs, y :: ys => match f x y with
    | none => none
    | some a => match eqAll f xs ys with
      | none => none
      | some b => some (a && b)
  | _, _ => some false
noncomputable def eqT (a b : MV) : Option Bool := match a, b with
  | .tup xs, .tup ys => eqAll eqA xs ys
  | a, b => eqA a b
noncomputable def eqV (a b : MV) (hp : List MO) : Option Bool := match a, b with
  | .ref i, .ref j => match listOf hp i, listOf hp j with
    | some xs, some ys => if xs.length = ys.length then eqAll eqT xs ys else some false
    | _, _ => none
  | a, b => eqA a b
noncomputable def isV (a b : MV) : Option Bool := match a, b with
  | .none, .none => some true
  | .int _, .none => some false
  | .str _, .none => some false
  | .ref _, .none => some false
  | .fix (.type a), .fix (.type b) => some (a == b)
  | _, _ => none
noncomputable def anyIn (x : MV) : List MV → Option Bool
  | [] => some false
  | y :: ys => match eqA y x with
    | none => none
    | some a => match anyIn x ys with
      | none => none
      | some b => some (a || b)
noncomputable def inV (a b : MV) (hp : List MO) : Option Bool := match b with
  | .ref i => match listOf hp i with
    | some xs => anyIn a xs
    | none => none
  | _ => none
noncomputable def cmpMV (op : CmpOp) (a b : MV) (hp : List MO) : Option Bool := match op with
  | .Eq => eqV a b hp
  | .NotEq => (eqV a b hp).map not
  | .Lt => match a, b with | .int a, .int b => some (decide (a < b)) | _, _ => none
  | .LtE => match a, b with | .int a, .int b => some (decide (a ≤ b)) | _, _ => none
  | .Gt => match a, b with | .int a, .int b => some (decide (b < a)) | _, _ => none
  | .GtE => match a, b with | .int a, .int b => some (decide (b ≤ a)) | _, _ => none
  | .Is => isV a b
  | .IsNot => (isV a b).map not
  | .In => inV a b hp
  | .NotIn => (inV a b hp).map not
section
variable {B : Base} {d : Nat} {Γ : Ctx} {env : Env} {loc : Loc} {hp hp' : List MO} {ρ : List Addr} {s : Shared} {A : Around} {E : Value → Shared → Prop}
theorem mkS_beq (x y : List Nat) : (mkS x == mkS y) = (x == y) := by
  rw [Bool.eq_iff_iff]; simp [mkS]
theorem eqA_at {a b : MV} {r : Bool} {ua ub : Value} {h : Heap} {l₀ : Addr} (e : eqA a b = some r) (ra : VR h ρ l₀ a ua) (rb : VR h ρ l₀ b ub) : SeqAt.EqAt A s ua ub r := by
  unfold eqA at e
  split at e
  · cases e; cases ra; cases rb; exact SeqAt.EqAt.int_int _ _ _ _
  · cases e; cases ra; cases rb; rw [← mkS_beq]; exact SeqAt.EqAt.str_str _ _ _ _
  · cases e; cases ra; cases rb; exact SeqAt.EqAt.bool_bool _ _
  · cases e
theorem eqAll_at {f : MV → MV → Option Bool} {h : Heap} {l₀ : Addr} (hf : ∀ x y r ux uy, f x y = some r → VR h ρ l₀ x ux → VR h ρ l₀ y uy → SeqAt.EqAt A s ux uy r) :
    ∀ {xs ys vs us r}, eqAll f xs ys = some r → VRL h ρ l₀ xs vs → VRL h ρ l₀ ys us →
      ∃ e : Nat → Bool, (∀ j (h1 : j < vs.length) (h2 : j < us.length), SeqAt.EqAt A s vs[j] us[j] (e j)) ∧ ((List.range (min vs.length us.length)).all e && vs.length == us.length) = r
  | _, _, _, _, r, he, .nil, .nil => ⟨fun _ => true, fun j h1 => absurd h1 (Nat.not_lt_zero _), by cases he; rfl⟩
  | _, _, _, _, r, he, .nil, .cons _ _ => ⟨fun _ => true, fun j h1 => absurd h1 (Nat.not_lt_zero _), by cases he; rfl⟩
  | _, _, _, _, r, he, .cons _ _, .nil => ⟨fun _ => true, fun j _ h1 => absurd h1 (Nat.not_lt_zero _), by cases he; rfl⟩
  | x :: xs, y :: ys, v :: vs, u :: us, r, he, .cons a b, .cons a' b' => by
    unfold eqAll at he
    split at he
    · cases he
    · rename_i r1 h1
      split at he
      · cases he
      · rename_i r2 h2
        obtain ⟨e, q1, q2⟩ := eqAll_at hf h2 b b'
        cases he
        refine ⟨fun j => match j with | 0 => r1 | j + 1 => e j, fun j k1 k2 => ?_, ?_⟩
        · cases j with
          | zero => exact hf _ _ _ _ _ h1 a a'
          | succ j => exact q1 j (by simpa using k1) (by simpa using k2)
        · rw [← q2]
          simp only [List.length_cons, Nat.succ_min_succ, Nat.add_min_add_right, List.range_succ_eq_map, List.all_cons, List.all_map]
          have : (vs.length + 1 == us.length + 1) = (vs.length == us.length) := by rw [Bool.eq_iff_iff]; simp
          rw [this, Bool.and_assoc]
          rfl
noncomputable def valEq (u y : Value) : Bool := match y, u with
  | .int a _, .int b _ => a == b
  | .str a _, .str b _ => a == b
  | .bool a, .bool b => a == b
  | _, _ => false
theorem anyIn_at {a : MV} {ua : Value} {h : Heap} {l₀ : Addr} (ra : VR h ρ l₀ a ua) : ∀ {xs vs r}, anyIn a xs = some r → VRL h ρ l₀ xs vs →
    (∀ y ∈ vs, SeqAt.EqAt A s y ua (valEq ua y)) ∧ vs.any (valEq ua) = r
  | _, _, r, e, .nil => by
    cases e
    exact ⟨fun _ h => (nomatch h), rfl⟩
  | x :: xs, v :: vs, r, e, .cons p q => by
    unfold anyIn at e
    split at e
    · cases e
    · rename_i r1 h1
      split at e
      · cases e
      · rename_i r2 h2
        obtain ⟨i1, i2⟩ := anyIn_at ra h2 q
        cases e
        have hv : valEq ua v = r1 := by
          unfold eqA at h1
          split at h1
          · cases h1; cases p; cases ra; rfl
          · cases h1; cases p; cases ra; exact mkS_beq _ _
          · cases h1; cases p; cases ra; rfl
          · cases h1
        refine ⟨fun y hy => ?_, by rw [List.any_cons, hv, i2]⟩
        rcases List.mem_cons.mp hy with rfl | hy
        · rw [hv]; exact eqA_at h1 p ra
        · exact i1 y hy
theorem VRL.det_eq {h : Heap} {l₀ : Addr} : ∀ {xs ys : List MV} {vs : List Value}, VRL h ρ l₀ xs vs → VRL h ρ l₀ ys vs → ∀ r, eqAll eqA xs ys = some r → r = true
  | _, _, _, .nil, .nil, r, e => by cases e; rfl
  | x :: xs, y :: ys, v :: vs, .cons a b, .cons a' b', r, e => by
    unfold eqAll at e
    split at e
    · cases e
    · rename_i r1 h1
      split at e
      · cases e
      · rename_i r2 h2
        cases e
        have := b.det_eq b' r2 h2
        subst this
        have : r1 = true := by
          unfold eqA at h1
          split at h1
          · cases h1; cases a; cases a'; simp
          · cases h1; cases a; cases a'; simp
          · cases h1; cases a; cases a'; simp
          · cases h1
        subst this
        rfl
theorem eqT_at {a b : MV} {r : Bool} {ua ub : Value} (hA : AOK (d + 1) A) (e : eqT a b = some r) (ra : VR s.heap ρ B.l₀ a ua) (rb : VR s.heap ρ B.l₀ b ub) : SeqAt.EqAt A.in1 s ua ub r := by
  unfold eqT at e
  split at e
  · rename_i xs ys
    cases ra with
    | tup _ vs a ta la => cases rb with
      | tup _ us b tb lb =>
        by_cases hab : a = b
        · subst hab
          obtain ⟨o, eo, _, n, hd⟩ := ta
          have := IsTuple.det tb eo
          obtain ⟨_, n', hd'⟩ := this
          rw [hd] at hd'
          injection hd' with q _
          injection q with q
          subst q
          rw [la.det_eq lb r e]
          exact SeqAt.EqAt.same _
        · obtain ⟨f, q1, q2⟩ := eqAll_at (A := A.in1.in1) (s := s) (fun x y r ux uy h1 h2 h3 => eqA_at h1 h2 h3) e la lb
          refine SeqAt.EqAt.of_refs hab ?_
          have := SeqAt.RcAt.tuples (A := A.in1) (s := s) (e := f) ta tb hA.in1.cl (fun j h1 h2 => q1 j h1 h2)
          rw [← q2]
          exact this
  · exact eqA_at e ra rb
theorem cmpMV_ok {op : CmpOp} {a b : MV} {r : Bool} {ua ub : Value} (hm : cmpMV op a b hp = some r) (G : Good B ρ hp s) (ra : VR s.heap ρ B.l₀ a ua) (rb : VR s.heap ρ B.l₀ b ub)
    (hA : AOK (d + 1) A) {Q : Value → Shared → Prop} (k : Q (.bool r) s) : wpAny (model B.prog B.w) A (compareOp op ua ub) Q E s := by
  have key : ∀ r, eqV a b hp = some r → SeqAt.RcAt A s ua ub r ∧ SeqAt.RcNeAt A s ua ub (!r) := by
    intro r hm
    unfold eqV at hm
    split at hm
    · rename_i i j
      split at hm
      · rename_i xs ys hx hy
        cases ra with
        | ref _ a ea => cases rb with
          | ref _ b eb =>
            obtain ⟨vs, hl, hv⟩ := G.listAt hx ea
            obtain ⟨us, hl2, hu⟩ := G.listAt hy eb
            split at hm
            · rename_i hlen
              have hsz : vs.length = us.length := by rw [← hv.length, ← hu.length, hlen]
              obtain ⟨f, q1, q2⟩ := eqAll_at (A := A.in1) (s := s) (fun x y r ux uy h1 h2 h3 => eqT_at (d := d) hA h1 h2 h3) hm hv hu
              have q2' : (List.range vs.length).all f = r := by
                rw [← q2, hsz, Nat.min_self]; simp
              refine ⟨?_, ?_⟩
              · have := SeqAt.RcAt.lists (A := A) (s := s) (e := f) hl hl2 hsz hA.cl (fun j h1 h2 => q1 j h1 h2)
                rw [← q2']; exact this
              · have := SeqAt.RcNeAt.lists (A := A) (s := s) (e := f) hl hl2 hsz hA.cl (fun j h1 h2 => q1 j h1 h2)
                rw [← q2']; exact this
            · rename_i hlen
              cases hm
              have hne : ((⟨vs⟩ : Array Value).size != (⟨us⟩ : Array Value).size) = true := by
                show (vs.length != us.length) = true
                rw [bne_iff_ne]; rw [← hv.length, ← hu.length]; exact hlen
              exact ⟨SeqAt.RcAt.lists_lengths hl hl2 hne hA.cl, SeqAt.RcNeAt.lists_lengths hl hl2 hne hA.cl⟩
      · cases hm
    · unfold eqA at hm
      split at hm
      · cases hm; cases ra; cases rb
        exact ⟨fun prog w E Q h => PyProof.Rows.eq_int h, SeqAt.RcNeAt.int_int _ _ _ _⟩
      · cases hm; cases ra; cases rb
        rw [← mkS_beq]
        exact ⟨fun prog w E Q h => PyProof.Rows.eq_str h, SeqAt.RcNeAt.str_str _ _ _ _⟩
      · cases hm; cases ra; cases rb
        exact ⟨fun prog w E Q h => PyProof.Rows.eq_bool h, SeqAt.RcNeAt.bool_bool _ _⟩
      · cases hm
  have keyIs : ∀ r, isV a b = some r → isSame ua ub = pure r := by
    intro r hm
    unfold isV at hm
    split at hm
    · cases hm; cases ra; cases rb; rfl
    · cases hm; cases ra; cases rb; rfl
    · cases hm; cases ra; cases rb; rfl
    · cases hm; cases ra; cases rb; rfl
    · cases hm; cases ra; cases rb
      rw [isSame_plain rfl]
      congr 1
      rw [Bool.eq_iff_iff]; simp
    · cases hm
  have keyIn : ∀ r, inV a b hp = some r → ∃ l its, ub = .ref l ∧ s.heap.IsList l its ∧ ∃ e : Value → Bool, (∀ y, y ∈ its → SeqAt.EqAt A.in1 s y ua (e y)) ∧ its.any e = r := by
    intro r hm
    unfold inV at hm
    split at hm
    · split at hm
      · rename_i xs hx
        cases rb with
        | ref _ b eb =>
          obtain ⟨vs, hl, hv⟩ := G.listAt hx eb
          obtain ⟨q1, q2⟩ := anyIn_at (A := A.in1) (s := s) ra hm hv
          refine ⟨b, _, rfl, hl, valEq ua, fun y hy => q1 y (by simpa using hy), ?_⟩
          rw [← q2]; simp
      · cases hm
    · cases hm
  cases op with
  | Eq => exact (key r hm).1 _ _ _ _ k
  | NotEq =>
    simp only [cmpMV, Option.map_eq_some_iff] at hm
    obtain ⟨r', h1, rfl⟩ := hm
    exact (key r' h1).2 _ _ _ _ k
  | Lt =>
    simp only [cmpMV] at hm
    split at hm
    · cases hm; cases ra; cases rb; exact PyProof.Rows.lt_int k
    · cases hm
  | LtE =>
    simp only [cmpMV] at hm
    split at hm
    · cases hm; cases ra; cases rb; exact PyProof.Rows.le_int k
    · cases hm
  | Gt =>
    simp only [cmpMV] at hm
    split at hm
    · cases hm; cases ra; cases rb; exact PyProof.Rows.gt_int k
    · cases hm
  | GtE =>
    simp only [cmpMV] at hm
    split at hm
    · cases hm; cases ra; cases rb; exact PyProof.Rows.ge_int k
    · cases hm
  | Is =>
    show wpAny _ A (do return .bool (← isSame ua ub)) Q E s
    rw [keyIs r hm]; exact wpAny_bind (wpAny_pure (wpAny_pure k))
  | IsNot =>
    simp only [cmpMV, Option.map_eq_some_iff] at hm
    obtain ⟨r', h1, rfl⟩ := hm
    show wpAny _ A (do return .bool (!(← isSame ua ub))) Q E s
    rw [keyIs r' h1]; exact wpAny_bind (wpAny_pure (wpAny_pure k))
  | In =>
    obtain ⟨l, its, rfl, hl, e, he, rfl⟩ := keyIn r hm
    exact SeqAt.in_listAt e hl he k
  | NotIn =>
    simp only [cmpMV, Option.map_eq_some_iff] at hm
    obtain ⟨r', h1, rfl⟩ := hm
    obtain ⟨l, its, rfl, hl, e, he, rfl⟩ := keyIn r' h1
    exact SeqAt.notIn_listAt e hl he k
end
end Mine
end
section
open PySem PySem.W PyProof.Rows PySem.Spec PySem.Calls
set_option linter.unusedVariables false
namespace Mine
noncomputable def truMV : MV → Option Bool
  | .bool b => some b
  | .int i => some (i != 0)
  | .none => some false
  | _ => none
noncomputable def mCmp (op : CmpOp) (m1 m2 : ME) : ME := fun loc hp => match m1 loc hp with
  | none => none
  | some (a, hp1) => match m2 loc hp1 with
    | none => none
    | some (b, hp2) => match cmpMV op a b hp2 with
      | none => none
      | some r => some (.bool r, hp2)
noncomputable def tCmp (op : CmpOp) (m1 m2 : ME) : MT := fun loc hp => match m1 loc hp with
  | none => none
  | some (a, hp1) => match m2 loc hp1 with
    | none => none
    | some (b, hp2) => match cmpMV op a b hp2 with
      | none => none
      | some r => some (r, hp2)
noncomputable def tCmp2 (op op' : CmpOp) (m1 m2 m3 : ME) : MT := fun loc hp => match m1 loc hp with
  | none => none
  | some (a, hp1) => match m2 loc hp1 with
    | none => none
    | some (b, hp2) => match cmpMV op a b hp2 with
      | none => none
      | some false => some (false, hp2)
      | some true => match m3 loc hp2 with
        | none => none
        | some (c, hp3) => match cmpMV op' b c hp3 with
          | none => none
          | some r => some (r, hp3)
noncomputable def tVal (m : ME) : MT := fun loc hp => match m loc hp with
  | none => none
  | some (a, hp1) => match truMV a with
    | none => none
    | some r => some (r, hp1)
noncomputable def tNot (m : MT) : MT := fun loc hp => match m loc hp with
  | none => none
  | some (r, hp1) => some (!r, hp1)
noncomputable def mIf (t : MT) (m1 m2 : ME) : ME := fun loc hp => match t loc hp with
  | none => none
  | some (true, hp1) => m1 loc hp1
  | some (false, hp1) => m2 loc hp1
noncomputable def mNeg (m : ME) : ME := fun loc hp => match m loc hp with
  | some (.int i, hp1) => some (.int (-i), hp1)
  | _ => none
noncomputable def lNil : ML := fun _ hp => some ([], hp)
noncomputable def lCons (m : ME) (l : ML) : ML := fun loc hp => match m loc hp with
  | none => none
  | some (v, hp1) => match l loc hp1 with
    | none => none
    | some (vs, hp2) => some (v :: vs, hp2)
noncomputable def mList (l : ML) : ME := fun loc hp => match l loc hp with
  | none => none
  | some (vs, hp1) => if vs.length ≤ few then some (.ref hp1.length, hp1 ++ [.list vs]) else none
noncomputable def mTup (l : ML) : ME := fun loc hp => match l loc hp with
  | none => none
  | some (vs, hp1) => if vs.length ≤ few then some (.tup vs, hp1) else none
section
variable {B : Base} {d : Nat} {Γ : Ctx} {env : Env} {loc : Loc} {hp hp' : List MO} {ρ : List Addr} {s : Shared} {A : Around} {E : Value → Shared → Prop}
theorem truMV_ok {a : MV} {r : Bool} {ua : Value} {h : Heap} {l₀ : Addr} (hm : truMV a = some r) (ra : VR h ρ l₀ a ua) {Q : Bool → Shared → Prop} (k : Q r s) : wpAny (model B.prog B.w) A (truthy ua) Q E s := by
  unfold truMV at hm
  split at hm
  · cases hm; cases ra; exact wpAny_truthy_bool k
  · cases hm; cases ra; exact PyProof.Rows.truthy_int k
  · cases hm; cases ra; exact truthy_none k
  · cases hm
theorem SndT.run {e : PySem.Expr} {m : MT} (S : SndT B d Γ e m) {b : Bool} {hp₁ : List MO} (hm : m loc hp = some (b, hp₁)) (G : Good B ρ hp s) (F : FrR B Γ env loc ρ s.heap) (hA : AOK d A) {Q : Bool → Shared → Prop}
    (k : ∀ ρ₁ s₁, Ext ρ s.heap ρ₁ s₁.heap [] → Good B ρ₁ hp₁ s₁ → FrR B Γ env loc ρ₁ s₁.heap → Q b s₁) : wpAny (model B.prog B.w) A (isTrue e env (eval e env)) Q E s :=
  S env loc hp b hp₁ ρ s hm G F A Q E hA fun ρ' s' x G' => k ρ' s' x G' (F.ext G x)
theorem snd_cmp {l r : PySem.Expr} {op : CmpOp} {pos : Pos} {m1 m2 : ME} (S1 : SndE B (d + 1) Γ l m1) (S2 : SndE B (d + 1) Γ r m2) (hm : behindInMarks op r = false := by with_unfolding_all rfl) : SndE B (d + 1) Γ (.Compare l [op] [r] pos) (mCmp op m1 m2) := by
  intro env loc hp v hp' ρ s hm' G F A Q E hA k
  unfold mCmp at hm'
  split at hm'
  · cases hm'
  · rename_i a hp1 h1
    split at hm'
    · cases hm'
    · rename_i b hp2 h2
      split at hm'
      · cases hm'
      · rename_i r' h3
        cases hm'
        refine wpAny_Compare1 (S1.run h1 G F hA fun ua ρ1 s1 x1 G1 F1 r1 => S2.run h2 G1 F1 hA fun ub ρ2 s2 x2 G2 F2 r2 => ?_) hm
        exact cmpMV_ok h3 G2 (G1.vr x2 .nil r1) r2 hA (k _ _ _ (x1.trans x2) G2 (.bool _))
theorem snd_t_cmp {l r : PySem.Expr} {op : CmpOp} {pos : Pos} {m1 m2 : ME} (S1 : SndE B (d + 1) Γ l m1) (S2 : SndE B (d + 1) Γ r m2) (hm : behindInMarks op r = false := by with_unfolding_all rfl) : SndT B (d + 1) Γ (.Compare l [op] [r] pos) (tCmp op m1 m2) := by
  intro env loc hp v hp' ρ s hm' G F A Q E hA k
  unfold tCmp at hm'
  split at hm'
  · cases hm'
  · rename_i a hp1 h1
    split at hm'
    · cases hm'
    · rename_i b hp2 h2
      split at hm'
      · cases hm'
      · rename_i r' h3
        cases hm'
        refine wpAny_isTrue_Compare1 (S1.run h1 G F hA fun ua ρ1 s1 x1 G1 F1 r1 => S2.run h2 G1 F1 hA fun ub ρ2 s2 x2 G2 F2 r2 => ?_) hm
        exact cmpMV_ok h3 G2 (G1.vr x2 .nil r1) r2 hA (wpAny_truthy_bool (k _ _ (x1.trans x2) G2))
theorem snd_t_val {e : PySem.Expr} {m : ME} (S : SndE B d Γ e m) (he : ∀ env whole, isTrue e env whole = (do let v ← whole; standAt e.pos; holding [v] (truthy v)) := by intros; rfl) : SndT B d Γ e (tVal m) := by
  intro env loc hp v hp' ρ s hm' G F A Q E hA k
  unfold tVal at hm'
  split at hm'
  · cases hm'
  · rename_i a hp1 h1
    split at hm'
    · cases hm'
    · rename_i r h2
      cases hm'
      exact PySem.wpAny_isTrue_value (S.run h1 G F hA fun ua ρ1 s1 x1 G1 F1 r1 => truMV_ok h2 r1 (k _ _ x1 G1)) (he _ _)
theorem snd_t_not {e : PySem.Expr} {pos : Pos} {m : MT} (S : SndT B d Γ e m) : SndT B d Γ (.UnaryOp .Not e pos) (tNot m) := by
  intro env loc hp v hp' ρ s hm' G F A Q E hA k
  unfold tNot at hm'
  split at hm'
  · cases hm'
  · rename_i r hp1 h1
    cases hm'
    exact PyProof.Rows.isTrue_not (S.run h1 G F hA fun ρ1 s1 x1 G1 F1 => k _ _ x1 G1)
theorem snd_if {t e f : PySem.Expr} {pos : Pos} {mt : MT} {m1 m2 : ME} (S : SndT B d Γ t mt) (S1 : SndE B d Γ e m1) (S2 : SndE B d Γ f m2) : SndE B d Γ (.IfExp t e f pos) (mIf mt m1 m2) := by
  intro env loc hp v hp' ρ s hm' G F A Q E hA k
  unfold mIf at hm'
  split at hm'
  · cases hm'
  · rename_i hp1 h1
    exact wpAny_IfExp (S.run h1 G F hA fun ρ1 s1 x1 G1 F1 => S1.run hm' G1 F1 hA fun u ρ2 s2 x2 G2 F2 r2 => k _ _ _ (x1.trans x2) G2 r2)
  · rename_i hp1 h1
    exact wpAny_IfExp (S.run h1 G F hA fun ρ1 s1 x1 G1 F1 => S2.run hm' G1 F1 hA fun u ρ2 s2 x2 G2 F2 r2 => k _ _ _ (x1.trans x2) G2 r2)
theorem snd_neg {e : PySem.Expr} {pos : Pos} {m : ME} (S : SndE B d Γ e m) : SndE B d Γ (.UnaryOp .USub e pos) (mNeg m) := by
  intro env loc hp v hp' ρ s hm' G F A Q E hA k
  unfold mNeg at hm'
  split at hm'
  · rename_i i hp1 h1
    cases hm'
    refine wpAny_UnaryOp (S.run h1 G F hA fun u ρ1 s1 x1 G1 F1 r1 => ?_)
    cases r1
    exact PyProof.Rows.neg_int (k _ _ _ x1 (G1.tok _) (.int _ _))
  · cases hm'
theorem snd_t_cmp2 {l r r' : PySem.Expr} {op op' : CmpOp} {pos : Pos} {m1 m2 m3 : ME} (S1 : SndE B (d + 1) Γ l m1) (S2 : SndE B (d + 1) Γ r m2) (S3 : SndE B (d + 1) Γ r' m3)
    (hm : lastMarks [op, op'] [r, r'] = false := by with_unfolding_all rfl) : SndT B (d + 1) Γ (.Compare l [op, op'] [r, r'] pos) (tCmp2 op op' m1 m2 m3) := by
  intro env loc hp v hp' ρ s hm' G F A Q E hA k
  unfold tCmp2 at hm'
  split at hm'
  · cases hm'
  · rename_i a hp1 h1
    split at hm'
    · cases hm'
    · rename_i b hp2 h2
      split at hm'
      · cases hm'
      · rename_i h3
        cases hm'
        refine isTrue_chain (S1.run h1 G F hA fun ua ρ1 s1 x1 G1 F1 r1 => test_link (S2.run h2 G1 F1 hA fun ub ρ2 s2 x2 G2 F2 r2 => ?_)) hm
        exact cmpMV_ok h3 G2 (G1.vr x2 .nil r1) r2 hA (wpAny_truthy_bool (k _ _ (x1.trans x2) G2))
      · rename_i h3
        split at hm'
        · cases hm'
        · rename_i c hp3 h4
          split at hm'
          · cases hm'
          · rename_i r5 h5
            cases hm'
            refine isTrue_chain (S1.run h1 G F hA fun ua ρ1 s1 x1 G1 F1 r1 => test_link (S2.run h2 G1 F1 hA fun ub ρ2 s2 x2 G2 F2 r2 => ?_)) hm
            refine cmpMV_ok h3 G2 (G1.vr x2 .nil r1) r2 hA (wpAny_truthy_bool ?_)
            refine test_last (S3.run h4 G2 F2 hA fun uc ρ3 s3 x3 G3 F3 r3 => ?_)
            exact cmpMV_ok h5 G3 (G2.vr x3 .nil r2) r3 hA (wpAny_truthy_bool (k _ _ (x1.trans (x2.trans x3)) G3))
theorem snd_nil : SndL B d Γ [] lNil := by
  intro env loc hp v hp' ρ s pos hm' G F A Q E hA k
  cases hm'
  exact wpAny_items_nil (k _ _ _ .refl G .nil)
theorem snd_cons {e : PySem.Expr} {es : List PySem.Expr} {m : ME} {l : ML} (S : SndE B d Γ e m) (S' : SndL B d Γ es l) (he : ∀ env, starEach (e :: es) env = (false, eval e env) :: starEach es env := by intro; rfl) : SndL B d Γ (e :: es) (lCons m l) := by
  intro env loc hp v hp' ρ s pos hm' G F A Q E hA k
  unfold lCons at hm'
  split at hm'
  · cases hm'
  · rename_i a hp1 h1
    split at hm'
    · cases hm'
    · rename_i b hp2 h2
      cases hm'
      refine wpAny_items_cons (S.run h1 G F hA fun ua ρ1 s1 x1 G1 F1 r1 => ?_) (he env)
      exact S' env loc hp1 b _ ρ1 s1 pos h2 G1 F1 A _ E hA fun us ρ2 s2 x2 G2 r2 => k _ _ _ (x1.trans x2) G2 (.cons (G1.vr x2 .nil r1) r2)
theorem snd_list {es : List PySem.Expr} {pos : Pos} {l : ML} (S : SndL B d Γ es l) : SndE B d Γ (.List es pos) (mList l) := by
  intro env loc hp v hp' ρ s hm' G F A Q E hA k
  unfold mList at hm'
  split at hm'
  · cases hm'
  · rename_i vs hp1 h1
    split at hm'
    · rename_i hf
      cases hm'
      refine PySem.wpAny_List (S env loc hp vs hp1 ρ s pos h1 G F A _ E hA fun us ρ1 s1 x1 G1 r1 => ⟨?_, ?_⟩)
      · rw [← r1.length]; exact Nat.le_trans hf few_le
      · obtain ⟨G2, x2, r2⟩ := G1.newList (arr := us.toArray) r1 rfl
        exact k _ _ _ (x1.trans x2) G2 r2
    · cases hm'
theorem snd_tup {es : List PySem.Expr} {n : Nat} {pos : Pos} {l : ML} (S : SndL B d Γ es l) : SndE B d Γ (.Tuple es n pos) (mTup l) := by
  intro env loc hp v hp' ρ s hm' G F A Q E hA k
  unfold mTup at hm'
  split at hm'
  · cases hm'
  · rename_i vs hp1 h1
    split at hm'
    · rename_i hf
      cases hm'
      refine PySem.wpAny_Tuple (S env loc hp vs _ ρ s pos h1 G F A _ E hA fun us ρ1 s1 x1 G1 r1 => ⟨?_, ?_⟩)
      · rw [← r1.length]; exact Nat.le_trans hf few_le
      · obtain ⟨G2, x2, r2⟩ := G1.newTup (arr := us.toArray) r1 rfl
        exact k _ _ _ (x1.trans x2) G2 r2
    · cases hm'
end
end Mine
end
section
open PySem PySem.W PyProof.Rows PySem.Spec PySem.Calls
set_option linter.unusedVariables false
namespace Mine
inductive FlowR (h : Heap) (ρ : List Addr) (l₀ : Addr) : MFlow → Flow → Prop
  | next : FlowR h ρ l₀ .next .next
  | brk : FlowR h ρ l₀ .brk .brk
  | cont : FlowR h ρ l₀ .cont .cont
  | ret {v u} : VR h ρ l₀ v u → FlowR h ρ l₀ (.ret v) (.ret u)
noncomputable def SndX (B : Base) (d : Nat) (Γ : Ctx) (st : PySem.Stmt) (m : MS) : Prop :=
  ∀ env loc hp fl loc' hp' ρ s, m loc hp = some (fl, loc', hp') → Good B ρ hp s → FrR B Γ env loc ρ s.heap → ∀ A Q E, AOK d A →
    (∀ fl' ρ' s', Ext ρ s.heap ρ' s'.heap (envW env) → Good B ρ' hp' s' → FrR B Γ env loc' ρ' s'.heap → FlowR s'.heap ρ' B.l₀ fl fl' → Q fl' s') → wpAny (model B.prog B.w) A (exec st env) Q E s
noncomputable def SndS (B : Base) (d : Nat) (Γ : Ctx) (ss : List PySem.Stmt) (m : MS) : Prop :=
  ∀ env loc hp fl loc' hp' ρ s, m loc hp = some (fl, loc', hp') → Good B ρ hp s → FrR B Γ env loc ρ s.heap → ∀ A Q E, AOK d A →
    (∀ fl' ρ' s', Ext ρ s.heap ρ' s'.heap (envW env) → Good B ρ' hp' s' → FrR B Γ env loc' ρ' s'.heap → FlowR s'.heap ρ' B.l₀ fl fl' → Q fl' s') → wpAny (model B.prog B.w) A (execs ss env) Q E s
noncomputable def sNil : MS := fun loc hp => some (.next, loc, hp)
noncomputable def sSeq (m1 m2 : MS) : MS := fun loc hp => match m1 loc hp with
  | none => none
  | some (.next, loc1, hp1) => m2 loc1 hp1
  | some (.brk, loc1, hp1) => some (.brk, loc1, hp1)
  | some (.cont, loc1, hp1) => some (.cont, loc1, hp1)
  | some (.ret v, loc1, hp1) => some (.ret v, loc1, hp1)
noncomputable def sSet (i : Nat) (m : ME) : MS := fun loc hp => match m loc hp with
  | none => none
  | some (v, hp1) => some (.next, loc.set i (some v), hp1)
noncomputable def augMV (op : Operator) (a b : MV) : Option MV := match a, b with
  | .int x, .int y => match op with
    | .Add => some (.int (x + y))
    | .Sub => some (.int (x - y))
    | .BitXor => some (.int (Builtin.bitXor x y))
    | .BitOr => some (.int (Builtin.bitOr x y))
    | _ => none
  | _, _ => none
noncomputable def sAug (op : Operator) (i : Nat) (m : ME) : MS := fun loc hp => match mVar i loc hp with
  | none => none
  | some (a, hp1) => match m loc hp1 with
    | none => none
    | some (b, hp2) => match augMV op a b with
      | some w => some (.next, loc.set i (some w), hp2)
      | none => none
noncomputable def sIf (t : MT) (m1 m2 : MS) : MS := fun loc hp => match t loc hp with
  | none => none
  | some (true, hp1) => m1 loc hp1
  | some (false, hp1) => m2 loc hp1
noncomputable def sRet (m : ME) : MS := fun loc hp => match m loc hp with
  | none => none
  | some (v, hp1) => some (.ret v, loc, hp1)
noncomputable def sBrk : MS := fun loc hp => some (.brk, loc, hp)
noncomputable def sNone : MS := fun _ _ => none
section
variable {B : Base} {d : Nat} {Γ : Ctx} {env : Env} {loc : Loc} {hp hp' : List MO} {ρ : List Addr} {s : Shared} {A : Around} {E : Value → Shared → Prop}
theorem Good.touch (G : Good B ρ hp s) {h' : Heap} {tk : Nat} {W : List Addr} (hk : ∀ b o, s.heap.get? b = some o → b ∉ W → h'.get? b = some o)
    (hρ : ∀ a ∈ W, a ∉ ρ) (hn : ∀ a ∈ W, B.s₀.heap.get? a = none) (hW : NoTup s.heap W) :
    Good B ρ hp { s with heap := h', toks := tk } ∧ Ext ρ s.heap ρ h' W := by
  have x : Ext ρ s.heap ρ h' W := ⟨⟨[], by simp, fun _ q => nomatch q⟩, fun b o e _ h2 => hk b o e h2, fun b o e h2 => ⟨o, hk b o e h2⟩⟩
  refine ⟨⟨?_, ?_, G.fresh, G.nd, G.len, ?_⟩, x⟩
  · obtain ⟨h, t, e⟩ := G.same
    exact ⟨h', tk, by rw [e]⟩
  · intro b o e
    exact hk b o (G.keep b o e) fun hb => by rw [hn b hb] at e; cases e
  · intro i mo a e1 e2
    exact (G.ok i mo a e1 e2).ext x G.nt hW fun o e => hk a o e fun hb => hρ a hb (List.mem_of_getElem? e2)
theorem FrR.ns_out (F : FrR B Γ env loc ρ s.heap) : env.locals ∉ ρ := F.out _ (List.mem_cons_self ..)
theorem FrR.cell_in (F : FrR B Γ env loc ρ s.heap) {n : Str} {c : Addr} (e : env.cells.lookup n = some c) : c ∈ envW env := List.mem_cons_of_mem _ (List.mem_map.mpr ⟨_, mem_of_lookup e, rfl⟩)
noncomputable def wrX (Γ : Ctx) (env : Env) (x : Str) : List Addr := if Γ.sc.lookup x = some .local then [env.locals] else envW env
theorem wrX_sub {x : Str} {a : Addr} (h : a ∈ wrX Γ env x) : a ∈ envW env := by
  unfold wrX at h
  split at h
  · rw [List.mem_singleton.mp h]; exact List.mem_cons_self ..
  · exact h
theorem Ext.wr {x : Str} {h h' : Heap} {ρ' : List Addr} (y : Ext ρ h ρ' h' (wrX Γ env x)) : Ext ρ h ρ' h' (envW env) := y.weaken fun _ q => wrX_sub q
theorem store_ok {i : Nat} {x : Str} {v : MV} {u : Value} (hi : Γ.tbl[i]? = some x) (hfree : Γ.sc.lookup x ≠ some .free) (G : Good B ρ hp s) (F : FrR B Γ env loc ρ s.heap) (r : VR s.heap ρ B.l₀ v u) {Q : Unit → Shared → Prop}
    (k : ∀ s', Ext ρ s.heap ρ s'.heap (wrX Γ env x) → Good B ρ hp s' → FrR B Γ env (loc.set i (some v)) ρ s'.heap → Q () s') : wpAny (model B.prog B.w) A (storeName env x u) Q E s := by
  have kn : ∀ {y q}, Γ.sc.lookup y = some q → env.kindOf y = some q := fun e => by unfold Env.kindOf; rw [F.names]; exact e
  have setAt : ∀ {j : Nat} {v' : MV}, (loc.set i (some v))[j]? = some (some v') → (j = i ∧ v' = v) ∨ (j ≠ i ∧ loc[j]? = some (some v')) := by
    intro j v' e
    rw [List.getElem?_set] at e
    split at e
    · rename_i hij
      subst hij
      split at e
      · cases e; exact .inl ⟨rfl, rfl⟩
      · cases e
    · rename_i hij
      exact .inr ⟨fun q => hij q.symm, e⟩
  have tblNe : ∀ {j : Nat} {y : Str}, Γ.tbl[j]? = some y → j ≠ i → y ≠ x := by
    intro j y e hj q
    subst q
    obtain ⟨h1, e1⟩ := List.getElem?_eq_some_iff.mp e
    obtain ⟨h2, e2⟩ := List.getElem?_eq_some_iff.mp hi
    have nd := List.pairwise_iff_getElem.mp F.tnd
    rcases Nat.lt_or_gt_of_ne hj with q | q
    · exact nd j i h1 h2 q (e1.trans e2.symm)
    · exact nd i j h2 h1 q (e2.trans e1.symm)
  have cellOut : ∀ {n c}, env.cells.lookup n = some c → c ∉ ρ := fun e => F.out _ (F.cell_in e)
  rcases F.kinds i x hi with h | h | h
  · -- a local name
    obtain ⟨m, hn, hm⟩ := F.ns
    refine wpAny_storeName_local (kn h) hn (fun h' hn' hs' => ?_) (by rw [F.kind]; rfl)
    have alive : ∃ o, h'.get? env.locals = some o := let ⟨o, _, _, e, _⟩ := hn'; ⟨o, e⟩
    obtain ⟨G', x'⟩ := G.touch (h' := h') (tk := s.toks + 1) (W := [env.locals]) (fun b o e hb => (hs'.2 b (fun q => hb (by rw [q]; exact List.mem_cons_self ..))).trans e)
      (fun a ha => by rw [List.mem_singleton.mp ha]; exact F.ns_out) (fun a ha => by rw [List.mem_singleton.mp ha]; exact F.new _ (List.mem_cons_self ..))
      (fun a ha its => by rw [List.mem_singleton.mp ha]; exact Ns.notTup hn)
    have xW : Ext ρ s.heap ρ h' (envW env) := x'.weaken fun a ha => by rw [List.mem_singleton.mp ha]; exact List.mem_cons_self ..
    have kc : ∀ {c u}, (∃ n, env.cells.lookup n = some c) ∨ (∃ n, (n, c) ∈ env.cells) → s.heap.IsCell c u → h'.IsCell c u := fun hc ⟨o, e, hd⟩ => by
      refine ⟨o, (hs'.2 _ fun q => ?_).trans e, hd⟩
      rcases hc with ⟨n, e'⟩ | ⟨n, e'⟩
      · exact F.lne _ (mem_of_lookup e') q.symm
      · exact F.lne _ e' q.symm
    have vr : ∀ {v u}, VR s.heap ρ B.l₀ v u → VR h' ρ B.l₀ v u := fun q => G.vr xW F.noTup q
    refine k _ (by unfold wrX; rw [if_pos h]; exact x') G' ⟨F.kind, F.names, F.glob, F.blt, ⟨_, hn', ?_⟩, ?_, ?_, F.kinds, ?_, F.apart, F.lne, F.out, F.new, F.tnd⟩
    · intro j y v' e1 e2 e3
      rcases setAt e2 with ⟨rfl, rfl⟩ | ⟨hj, e2'⟩
      · rw [hi] at e1; cases e1
        exact ⟨u, by simp, vr r⟩
      · obtain ⟨u', hu, q⟩ := hm j y v' e1 e2' e3
        exact ⟨u', by rw [if_neg (tblNe e1 hj)]; exact hu, vr q⟩
    · intro y hy
      obtain ⟨c, u', e, hc⟩ := F.cell y hy
      exact ⟨c, u', e, kc (.inl ⟨y, e⟩) hc⟩
    · intro j y v' e1 e2 hy
      rcases setAt e2 with ⟨rfl, rfl⟩ | ⟨hj, e2'⟩
      · rw [hi] at e1; cases e1
        rw [h] at hy; rcases hy with q | q <;> cases q
      · obtain ⟨c, u', e, hc, q⟩ := F.cval j y v' e1 e2' hy
        exact ⟨c, u', e, kc (.inl ⟨y, e⟩) hc, vr q⟩
    · intro c hc
      obtain ⟨u', hu⟩ := F.cells c hc
      exact ⟨u', kc (.inr ⟨c.1, hc⟩) hu⟩
  · -- a name in a cell
    obtain ⟨c, u0, e, hc⟩ := F.cell x (.inl h)
    refine wpAny_storeName_cell F.kind (kn h) e hc (fun h' hc' hs' => ?_)
    have alive : ∃ o, h'.get? c = some o := let ⟨o, e, _⟩ := hc'; ⟨o, e⟩
    have hin := F.cell_in e
    obtain ⟨G', x'⟩ := G.touch (h' := h') (tk := s.toks) (W := [c]) (fun b o e hb => (hs'.2 b (fun q => hb (by rw [q]; exact List.mem_cons_self ..))).trans e)
      (fun a ha => by rw [List.mem_singleton.mp ha]; exact cellOut e) (fun a ha => by rw [List.mem_singleton.mp ha]; exact F.new _ hin)
      (fun a ha its => by rw [List.mem_singleton.mp ha]; exact IsCell.notTup hc)
    have xW : Ext ρ s.heap ρ h' (envW env) := x'.weaken fun a ha => by rw [List.mem_singleton.mp ha]; exact hin
    have kc : ∀ {c' u}, c' ≠ c → s.heap.IsCell c' u → h'.IsCell c' u := fun hne ⟨o, e, hd⟩ => ⟨o, (hs'.2 _ hne).trans e, hd⟩
    have vr : ∀ {v u}, VR s.heap ρ B.l₀ v u → VR h' ρ B.l₀ v u := fun q => G.vr xW F.noTup q
    have same : ∀ {y c'}, env.cells.lookup y = some c' → y ≠ x → c' ≠ c := fun e' hne q => hne (name_of_addr F.apart (mem_of_lookup e') (q ▸ mem_of_lookup e))
    refine k _ (by unfold wrX; rw [if_neg (by rw [h]; decide)]; exact xW) G' ⟨F.kind, F.names, F.glob, F.blt, ?_, ?_, ?_, F.kinds, ?_, F.apart, F.lne, F.out, F.new, F.tnd⟩
    · obtain ⟨m, hn, hm⟩ := F.ns
      refine ⟨m, hn.sameBut hs' (F.lne _ (mem_of_lookup e)), fun j y v' e1 e2 e3 => ?_⟩
      rcases setAt e2 with ⟨rfl, rfl⟩ | ⟨hj, e2'⟩
      · rw [hi] at e1; cases e1
        rw [h] at e3; cases e3
      · obtain ⟨u', hu, q⟩ := hm j y v' e1 e2' e3
        exact ⟨u', hu, vr q⟩
    · intro y hy
      by_cases hyx : y = x
      · subst hyx; exact ⟨c, _, e, hc'⟩
      · obtain ⟨c', u', e', hc2⟩ := F.cell y hy
        exact ⟨c', u', e', kc (same e' hyx) hc2⟩
    · intro j y v' e1 e2 hy
      rcases setAt e2 with ⟨rfl, rfl⟩ | ⟨hj, e2'⟩
      · rw [hi] at e1; cases e1
        exact ⟨c, u, e, hc', vr r⟩
      · obtain ⟨c', u', e', hc2, q⟩ := F.cval j y v' e1 e2' hy
        exact ⟨c', u', e', kc (same e' (tblNe e1 hj)) hc2, vr q⟩
    · intro c' hc2
      by_cases hcc : c'.2 = c
      · rw [hcc]; exact ⟨_, hc'⟩
      · obtain ⟨u', hu⟩ := F.cells c' hc2
        exact ⟨u', kc hcc hu⟩
  · exact absurd h hfree
theorem snd_snil : SndS B d Γ [] sNil := by
  intro env loc hp fl loc' hp' ρ s hm G F A Q E hA k
  cases hm
  exact PySem.wpAny_execs_nil (k _ _ _ .refl G F .next)
theorem snd_seq {st : PySem.Stmt} {rest : List PySem.Stmt} {m1 m2 : MS} (S1 : SndX B d Γ st m1) (S2 : SndS B d Γ rest m2) : SndS B d Γ (st :: rest) (sSeq m1 m2) := by
  intro env loc hp fl loc' hp' ρ s hm G F A Q E hA k
  unfold sSeq at hm
  split at hm
  · cases hm
  · rename_i loc1 hp1 h1
    refine PySem.wpAny_execs_cons (S1 env loc hp _ loc1 hp1 ρ s h1 G F A _ E hA fun fl' ρ1 s1 x1 G1 F1 r1 => ?_)
    cases r1
    exact S2 env loc1 hp1 fl loc' hp' ρ1 s1 hm G1 F1 A _ E hA fun fl' ρ2 s2 x2 G2 F2 r2 => k _ _ _ (x1.trans x2 F2.out) G2 F2 r2
  · rename_i loc1 hp1 h1
    cases hm
    refine PySem.wpAny_execs_cons (S1 env loc hp _ _ _ ρ s h1 G F A _ E hA fun fl' ρ1 s1 x1 G1 F1 r1 => ?_)
    cases r1
    exact k _ _ _ x1 G1 F1 .brk
  · rename_i loc1 hp1 h1
    cases hm
    refine PySem.wpAny_execs_cons (S1 env loc hp _ _ _ ρ s h1 G F A _ E hA fun fl' ρ1 s1 x1 G1 F1 r1 => ?_)
    cases r1
    exact k _ _ _ x1 G1 F1 .cont
  · rename_i v loc1 hp1 h1
    cases hm
    refine PySem.wpAny_execs_cons (S1 env loc hp _ _ _ ρ s h1 G F A _ E hA fun fl' ρ1 s1 x1 G1 F1 r1 => ?_)
    cases r1 with
    | ret q => exact k _ _ _ x1 G1 F1 (.ret q)
theorem snd_set {x : Str} {p pos : Pos} {e : PySem.Expr} {m : ME} (i : Nat) (S : SndE B d Γ e m) (hi : Γ.tbl[i]? = some x) (hfree : Γ.sc.lookup x ≠ some .free := by decide)
    (hs : ∀ env : Env, env.scope.kind = .function → env.scope.names = Γ.sc → swapsWith e (some (.Name x p)) pos.line env = pure false := by intros; rfl) : SndX B d Γ (.Assign [.Name x p] e pos) (sSet i m) := by
  intro env loc hp fl loc' hp' ρ s hm G F A Q E hA k
  unfold sSet at hm
  split at hm
  · cases hm
  · rename_i v hp1 h1
    cases hm
    refine PySem.wpAny_Assign_Name (S.run h1 G F hA fun u ρ1 s1 x1 G1 F1 r1 => store_ok hi hfree G1 F1 r1 fun s2 x2 G2 F2 => ?_) (hs env F.kind F.names)
    exact k _ _ _ (x1.nil.trans x2.wr F2.out) G2 F2 .next
theorem snd_aug {x : Str} {p pos : Pos} {op : Operator} {e : PySem.Expr} {m : ME} (i : Nat) (S : SndE B d Γ e m) (hi : Γ.tbl[i]? = some x) (hfree : Γ.sc.lookup x ≠ some .free := by decide) (hd : (x == ("__debug__" : Str)) = false := by decide) (hc : (x == ("__classdict__" : Str)) = false := by decide) : SndX B d Γ (.AugAssign (.Name x p) op e pos) (sAug op i m) := by
  intro env loc hp fl loc' hp' ρ s hm G F A Q E hA k
  unfold sAug at hm
  split at hm
  · cases hm
  · rename_i a hp1 h1
    split at hm
    · cases hm
    · rename_i b hp2 h2
      have load : ∀ {Q : Value → Shared → Prop}, (∀ u, VR s.heap ρ B.l₀ a u → Q u s) → wpAny (model B.prog B.w) A (loadName env x) Q E s ∧ hp1 = hp := by
        intro Q k
        unfold mVar at h1
        split at h1
        · rename_i v' hv
          cases h1
          have kn : ∀ {q}, Γ.sc.lookup x = some q → env.kindOf x = some q := fun e => by unfold Env.kindOf; rw [F.names]; exact e
          refine ⟨?_, rfl⟩
          rcases F.kinds i x hi with h | h | h
          · obtain ⟨m, hn, hm⟩ := F.ns
            obtain ⟨u, hu, r⟩ := hm i x a hi hv h
            exact wpAny_loadName_local F.kind (kn h) hn hu (k _ r)
          · obtain ⟨c, u, e, hcell, r⟩ := F.cval i x a hi hv (.inl h)
            exact wpAny_loadName_cell F.kind (kn h) e hcell (k _ r)
          · obtain ⟨c, u, e, hcell, r⟩ := F.cval i x a hi hv (.inr h)
            exact wpAny_loadName_free F.kind (kn h) e hcell (k _ r) hc
        · cases h1
      have ehp : hp1 = hp := (load (Q := fun _ _ => True) fun _ _ => trivial).2
      subst ehp
      have store : ∀ {t w : MV} {ut : Value} {ρ1 : List Addr} {s1 s2 : Shared}, Ext ρ s.heap ρ1 s1.heap [] → Good B ρ1 hp2 s1 → FrR B Γ env loc ρ1 s1.heap → s2 = { s1 with toks := s2.toks } → (∀ h ρ, VR h ρ B.l₀ t ut) →
          some (MFlow.next, loc.set i (some t), hp2) = some (fl, loc', hp') → wpAny (model B.prog B.w) A (storeName env x ut) (fun _ => Q .next) E s2 := by
        intro t w ut ρ1 s1 s2 x1 G1 F1 e r hm
        cases hm
        rw [e]
        refine store_ok hi hfree (G1.tok s2.toks) F1 (r _ _) fun s3 x3 G3 F3 => ?_
        exact k _ _ _ (x1.nil.trans x3.wr F3.out) G3 F3 .next
      refine PySem.wpAny_AugAssign_Name (load fun ua ra => S.run h2 G F hA fun ub ρ1 s1 x1 G1 F1 rb => ?_).1
      split at hm
      · rename_i w hw
        unfold augMV at hw
        split at hw
        · split at hw
          · cases hw; cases ra; cases rb
            exact PyProof.Rows.iadd_int (store (w := .none) x1 G1 F1 rfl (fun _ _ => .int _ _) hm)
          · cases hw; cases ra; cases rb
            exact PyProof.Rows.isub_int (store (w := .none) x1 G1 F1 rfl (fun _ _ => .int _ _) hm)
          · cases hw; cases ra; cases rb
            exact PyProof.Rows.ixor_int (store (w := .none) x1 G1 F1 rfl (fun _ _ => .int _ _) hm)
          · cases hw; cases ra; cases rb
            exact PyProof.Rows.ior_int (store (w := .none) x1 G1 F1 rfl (fun _ _ => .int _ _) hm)
          · cases hw
        · cases hw
      · cases hm
theorem snd_sif {t : PySem.Expr} {b1 b2 : List PySem.Stmt} {pos : Pos} {mt : MT} {m1 m2 : MS} (S : SndT B d Γ t mt) (S1 : SndS B d Γ b1 m1) (S2 : SndS B d Γ b2 m2) : SndX B d Γ (.If t b1 b2 pos) (sIf mt m1 m2) := by
  intro env loc hp fl loc' hp' ρ s hm G F A Q E hA k
  unfold sIf at hm
  split at hm
  · cases hm
  · rename_i hp1 h1
    refine PySem.wpAny_If (S.run h1 G F hA fun ρ1 s1 x1 G1 F1 => ?_)
    exact S1 env loc hp1 fl loc' hp' ρ1 s1 hm G1 F1 A _ E hA fun fl' ρ2 s2 x2 G2 F2 r2 => k _ _ _ (x1.nil.trans x2 F2.out) G2 F2 r2
  · rename_i hp1 h1
    refine PySem.wpAny_If (S.run h1 G F hA fun ρ1 s1 x1 G1 F1 => ?_)
    exact S2 env loc hp1 fl loc' hp' ρ1 s1 hm G1 F1 A _ E hA fun fl' ρ2 s2 x2 G2 F2 r2 => k _ _ _ (x1.nil.trans x2 F2.out) G2 F2 r2
theorem snd_ret {e : PySem.Expr} {pos : Pos} {m : ME} (S : SndE B d Γ e m) : SndX B d Γ (.Return (some e) pos) (sRet m) := by
  intro env loc hp fl loc' hp' ρ s hm G F A Q E hA k
  unfold sRet at hm
  split at hm
  · cases hm
  · rename_i v hp1 h1
    cases hm
    exact PySem.wpAny_Return_some (S.run h1 G F hA fun u ρ1 s1 x1 G1 F1 r1 => k _ _ _ x1.nil G1 F1 (.ret r1))
theorem snd_brk {pos : Pos} : SndX B d Γ (.Break pos) sBrk := by
  intro env loc hp fl loc' hp' ρ s hm G F A Q E hA k
  cases hm
  exact PySem.wpAny_Break (k _ _ _ .refl G F .brk)
theorem snd_snone {st : PySem.Stmt} : SndX B d Γ st sNone := by
  intro env loc hp fl loc' hp' ρ s hm
  cases hm
theorem snd_ssnone {ss : List PySem.Stmt} : SndS B d Γ ss sNone := by
  intro env loc hp fl loc' hp' ρ s hm
  cases hm
end
end Mine
end
section
open PySem PySem.W PyProof.Rows PySem.Spec PySem.Calls
set_option linter.unusedVariables false
namespace Mine
inductive It where
  | list (i k : Nat)
  | rng (a : Int) (n : Nat)
  | enum (i k : Nat)
  | byt (x : List UInt8) (k : Nat)
  | chr (x : List Nat) (k : Nat)
  | kw (i : Nat)
noncomputable def It.next (it : It) (hp : List MO) : Option (Option (MV × It)) := match it with
  | .list i k => match listOf hp i with
    | none => none
    | some xs => match xs[k]? with
      | none => some none
      | some x => some (some (x, .list i (k + 1)))
  | .rng a 0 => some none
  | .rng a (n + 1) => some (some (.int a, .rng (a + 1) n))
  | .enum i k => match listOf hp i with
    | none => none
    | some xs => match xs[k]? with
      | none => some none
      | some x => some (some (.tup [.int k, x], .enum i (k + 1)))
  | .byt x k => match x[k]? with
    | none => some none
    | some c => some (some (.int c.toNat, .byt x (k + 1)))
  | .chr x k => match x[k]? with
    | none => some none
    | some c => some (some (.str [c], .chr x (k + 1)))
  | .kw i => match hp[i]? with
    | some .kwd => some none
    | _ => none
inductive ItR (h : Heap) (ρ : List Addr) : It → Addr → List Addr → Prop
  | list (i k : Nat) (I a : Addr) : ρ[i]? = some a → h.IsListIter I a k → ItR h ρ (.list i k) I [I]
  | rng (a : Int) (n : Nat) (I : Addr) : IsRangeIter h I a n 1 → ItR h ρ (.rng a n) I [I]
  | enum (i k : Nat) (e it a : Addr) (old : Value) : ρ[i]? = some a → IsEnum h e it k old → h.IsListIter it a k → e ≠ it → ItR h ρ (.enum i k) e [e, it]
  | byt (x : List UInt8) (k : Nat) (I : Addr) (t : Tok) : KBw.IsBytesIter h I ⟨x⟩ t k → ItR h ρ (.byt x k) I [I]
  | chr (x : List Nat) (k : Nat) (I : Addr) (t : Tok) : h.IsStrIter I "str_ascii_iterator" (mkS x) t k → ItR h ρ (.chr x k) I [I]
  | kw (i : Nat) (I a : Addr) (ok ov : Value) : ρ[i]? = some a → IsItemIter h I a 0 0 0 ok ov → ItR h ρ (.kw i) I [I]
theorem ItR.noTup {h ρ it I own} (x : ItR h ρ it I own) : NoTup h own := by
  have key : ∀ {a : Addr} {o : Obj} {its : Array Value}, h.get? a = some o → (∀ n, o.data ≠ .seq its n) → ¬ h.IsTuple a its := by
    intro a o its e hd t
    obtain ⟨_, n, q⟩ := IsTuple.det t e
    exact hd n q
  intro a ha its
  cases x with
  | list i k _ b e hi =>
    rw [List.mem_singleton.mp ha]
    obtain ⟨o, e, _, hd⟩ := hi
    exact key e fun n => by rw [hd]; exact fun q => nomatch q
  | rng c n _ hi =>
    rw [List.mem_singleton.mp ha]
    exact key hi fun n q => nomatch q
  | enum i k _ it b old e he hi hne =>
    rcases List.mem_cons.mp ha with rfl | ha
    · exact key he fun n q => nomatch q
    · rw [List.mem_singleton.mp ha]
      obtain ⟨o, e, _, hd⟩ := hi
      exact key e fun n => by rw [hd]; exact fun q => nomatch q
  | byt y k _ t hi =>
    rw [List.mem_singleton.mp ha]
    obtain ⟨o, e, _, hd⟩ := hi
    exact key e fun n => by rw [hd]; exact fun q => nomatch q
  | chr y k _ t hi =>
    rw [List.mem_singleton.mp ha]
    obtain ⟨o, e, _, hd⟩ := hi
    exact key e fun n => by rw [hd]; exact fun q => nomatch q
  | kw i _ a ok ov e hi =>
    rw [List.mem_singleton.mp ha]
    exact key hi fun n q => nomatch q
theorem ItR.alive {h ρ it I own} (x : ItR h ρ it I own) : ∀ a ∈ own, ∃ o, h.get? a = some o := by
  intro a ha
  cases x with
  | list i k _ b e hi => rw [List.mem_singleton.mp ha]; obtain ⟨o, e, _⟩ := hi; exact ⟨o, e⟩
  | rng c n _ hi => rw [List.mem_singleton.mp ha]; exact ⟨_, hi⟩
  | enum i k _ it b old e he hi hne =>
    rcases List.mem_cons.mp ha with rfl | ha
    · exact ⟨_, he⟩
    · rw [List.mem_singleton.mp ha]; obtain ⟨o, e, _⟩ := hi; exact ⟨o, e⟩
  | byt y k _ t hi => rw [List.mem_singleton.mp ha]; obtain ⟨o, e, _⟩ := hi; exact ⟨o, e⟩
  | chr y k _ t hi => rw [List.mem_singleton.mp ha]; obtain ⟨o, e, _⟩ := hi; exact ⟨o, e⟩
  | kw i _ a ok ov e hi => rw [List.mem_singleton.mp ha]; exact ⟨_, hi⟩
theorem ItR.ext {h ρ it I own h' ρ' W} (x : ItR h ρ it I own) (y : Ext ρ h ρ' h' W) (h1 : ∀ a ∈ own, a ∉ ρ) (h2 : ∀ a ∈ own, a ∉ W) : ItR h' ρ' it I own := by
  have kp : ∀ a ∈ own, ∀ o, h.get? a = some o → h'.get? a = some o := fun a ha o e => y.keep a o e (h1 a ha) (h2 a ha)
  cases x with
  | list i k _ b e hi => obtain ⟨o, e', r⟩ := hi; exact .list i k _ b (y.get e) ⟨o, kp _ (List.mem_cons_self ..) o e', r⟩
  | rng c n _ hi => exact .rng c n _ (kp _ (List.mem_cons_self ..) _ hi)
  | enum i k _ it b old e he hi hne =>
    obtain ⟨o, e', r⟩ := hi
    exact .enum i k _ it b old (y.get e) (kp _ (List.mem_cons_self ..) _ he) ⟨o, kp _ (List.mem_cons_of_mem _ (List.mem_cons_self ..)) o e', r⟩ hne
  | byt z k _ t hi => obtain ⟨o, e', r⟩ := hi; exact .byt z k _ t ⟨o, kp _ (List.mem_cons_self ..) o e', r⟩
  | chr z k _ t hi => obtain ⟨o, e', r⟩ := hi; exact .chr z k _ t ⟨o, kp _ (List.mem_cons_self ..) o e', r⟩
  | kw i _ a ok ov e hi => exact .kw i _ a ok ov (y.get e) (kp _ (List.mem_cons_self ..) _ hi)
section
variable {B : Base} {d : Nat} {Γ : Ctx} {env : Env} {loc : Loc} {hp hp' : List MO} {ρ : List Addr} {s : Shared} {A : Around} {E : Value → Shared → Prop}
theorem VRL.at {h : Heap} {l₀ : Addr} : ∀ {xs : List MV} {vs : List Value} {n : Nat} {x : MV}, VRL h ρ l₀ xs vs → xs[n]? = some x → ∃ u, vs[n]? = some u ∧ VR h ρ l₀ x u
  | _, _, _, _, .nil, e => by cases e
  | _, _, 0, _, .cons p _, e => by cases e; exact ⟨_, rfl, p⟩
  | _, _, n + 1, _, .cons _ q, e => q.at (n := n) e
structure Beside (B : Base) (ρ : List Addr) (own : List Addr) (s : Shared) (s' : Shared) : Prop where
  same : ∃ h tk, s' = { s with heap := h, toks := tk }
  keep : ∀ b o, s.heap.get? b = some o → b ∉ own → s'.heap.get? b = some o
structure OwnOk (B : Base) (ρ : List Addr) (env : Env) (own : List Addr) : Prop where
  rho : ∀ a ∈ own, a ∉ ρ
  env : ∀ a ∈ own, a ∉ envW env
  base : ∀ a ∈ own, B.s₀.heap.get? a = none
theorem Beside.good {own : List Addr} {s' : Shared} (x : Beside B ρ own s s') (G : Good B ρ hp s) (O : OwnOk B ρ env own) (hn : NoTup s.heap own) : Good B ρ hp s' := by
  obtain ⟨⟨h, tk, rfl⟩, hk⟩ := x
  exact (G.touch hk O.rho O.base hn).1
theorem Beside.vr {own : List Addr} {s' : Shared} (x : Beside B ρ own s s') (G : Good B ρ hp s) (hn : NoTup s.heap own) {v u} (r : VR s.heap ρ B.l₀ v u) : VR s'.heap ρ B.l₀ v u := by
  have y : Ext ρ s.heap ρ s'.heap own := ⟨⟨[], by simp, fun _ q => nomatch q⟩, fun b o e _ h2 => x.keep b o e h2, fun b o e h2 => ⟨o, x.keep b o e h2⟩⟩
  exact G.vr y hn r
theorem Beside.fr {own : List Addr} {s' : Shared} (x : Beside B ρ own s s') (G : Good B ρ hp s) (F : FrR B Γ env loc ρ s.heap) (O : OwnOk B ρ env own) (hn : NoTup s.heap own) : FrR B Γ env loc ρ s'.heap := by
  have vr : ∀ {v u}, VR s.heap ρ B.l₀ v u → VR s'.heap ρ B.l₀ v u := fun r => x.vr G hn r
  have kc : ∀ {c u}, c ∈ envW env → s.heap.IsCell c u → s'.heap.IsCell c u := fun hc ⟨o, e, hd⟩ => ⟨o, x.keep _ o e fun q => O.env _ q hc, hd⟩
  refine ⟨F.kind, F.names, F.glob, F.blt, ?_, ?_, ?_, F.kinds, ?_, F.apart, F.lne, F.out, F.new, F.tnd⟩
  · obtain ⟨m, hm, hv⟩ := F.ns
    refine ⟨m, hm.at fun o e => x.keep _ o e fun q => O.env _ q (List.mem_cons_self ..), fun i y v a b c => ?_⟩
    obtain ⟨u, hu, hr⟩ := hv i y v a b c
    exact ⟨u, hu, vr hr⟩
  · intro y hy
    obtain ⟨c, u, e, hc⟩ := F.cell y hy
    exact ⟨c, u, e, kc (F.cell_in e) hc⟩
  · intro i y v a b hy
    obtain ⟨c, u, e, hc, hr⟩ := F.cval i y v a b hy
    exact ⟨c, u, e, kc (F.cell_in e) hc, vr hr⟩
  · intro c hc
    obtain ⟨u, hu⟩ := F.cells c hc
    exact ⟨u, kc (List.mem_cons_of_mem _ (List.mem_map.mpr ⟨c, hc, rfl⟩)) hu⟩
theorem Beside.of (s : Shared) {own : List Addr} {h' : Heap} {tk : Nat} (hk : ∀ b o, s.heap.get? b = some o → b ∉ own → h'.get? b = some o) : Beside B ρ own s { s with heap := h', toks := tk } := ⟨⟨h', tk, rfl⟩, hk⟩
theorem Beside.ofBut (s : Shared) {I : Addr} {own : List Addr} (hI : I ∈ own) {h' : Heap} {tk : Nat} (hk : Heap.ExtBut I s.heap h') : Beside B ρ own s { s with heap := h', toks := tk } :=
  .of s fun b o e hb => hk b o (fun q => hb (q ▸ hI)) e
theorem Beside.ofSame (s : Shared) {I : Addr} {own : List Addr} (hI : I ∈ own) {h' : Heap} {tk : Nat} (hk : Heap.SameBut I s.heap h') : Beside B ρ own s { s with heap := h', toks := tk } :=
  .ofBut s hI hk.extBut
theorem next_end {it : It} {I : Addr} {own : List Addr} (hm : it.next hp = some none) (G : Good B ρ hp s) (R : ItR s.heap ρ it I own) (hA : AOK d A) {Q : Option Value → Shared → Prop}
    (k : ∀ s', Beside B ρ own s s' → Q none s') : wpAny (model B.prog B.w) A (pyNext (.ref I)) Q E s := by
  cases R with
  | list i n _ a e hi =>
    simp only [It.next] at hm
    split at hm
    · cases hm
    · rename_i xs hx
      split at hm
      · rename_i hn
        obtain ⟨vs, hl, hv⟩ := G.listAt hx e
        exact wpAny_pyNext_list_end hA.handled hi hl (by
          have : vs.length ≤ n := by rw [← hv.length]; exact List.getElem?_eq_none_iff.mp hn
          simpa using this) fun h' hk => k _ (.ofBut s (List.mem_cons_self ..) hk)
      · cases hm
  | rng a n _ hi =>
    cases n with
    | zero => exact wpAny_pyNext_range_end hA.handled hi (by simp) fun h' hk => k _ (.ofBut s (List.mem_cons_self ..) hk)
    | succ n => cases hm
  | enum i n _ it a old e he hi hne =>
    simp only [It.next] at hm
    split at hm
    · cases hm
    · rename_i xs hx
      split at hm
      · rename_i hn
        obtain ⟨vs, hl, hv⟩ := G.listAt hx e
        exact wpAny_pyNext_enum_end hA.handled he hi hl (by
          have : vs.length ≤ n := by rw [← hv.length]; exact List.getElem?_eq_none_iff.mp hn
          simpa using this) fun h' hk => k _ (.ofBut s (List.mem_cons_of_mem _ (List.mem_cons_self ..)) hk)
      · cases hm
  | byt x n _ t hi =>
    simp only [It.next] at hm
    split at hm
    · rename_i hn
      exact KBw.next_end hA.handled hi (by simpa using hn) fun h' hk => k _ (.ofBut s (List.mem_cons_self ..) hk)
    · cases hm
  | chr x n _ t hi =>
    simp only [It.next] at hm
    split at hm
    · rename_i hn
      exact wpAny_pyNext_ascii_end hA.handled hi (by simpa [mkS] using hn) fun h' hk => k _ (.ofBut s (List.mem_cons_self ..) hk)
    · cases hm
  | kw i _ a ok ov e hi =>
    simp only [It.next] at hm
    split at hm
    · rename_i hx
      have := G.ok i _ a hx e
      cases this with
      | kwd _ hd =>
        have hdict : s.heap.DictAt (intKind B.prog B.w) a [] 0 := ⟨_, #[], hd.1, ⟨rfl, rfl, rfl⟩, rfl, fun _ he => by simp at he, .nil, List.nodup_nil⟩
        exact wpAny_pyNext_items_end hA.handled hi hdict rfl fun h' hk => k _ (.ofBut s (List.mem_cons_self ..) hk)
    · cases hm
theorem next_one {it it' : It} {x : MV} {I : Addr} {own : List Addr} (hm : it.next hp = some (some (x, it'))) (G : Good B ρ hp s) (R : ItR s.heap ρ it I own) (hne : ∀ i k, it ≠ .enum i k) {Q : Option Value → Shared → Prop}
    (k : ∀ u s', Beside B ρ own s s' → ItR s'.heap ρ it' I own → VR s'.heap ρ B.l₀ x u → Q (some u) s') : wpAny (model B.prog B.w) A (pyNext (.ref I)) Q E s := by
  have nt := R.noTup
  cases R with
  | list i n _ a e hi =>
    simp only [It.next] at hm
    split at hm
    · cases hm
    · rename_i xs hx
      split at hm
      · cases hm
      · rename_i y hy
        cases hm
        obtain ⟨vs, hl, hv⟩ := G.listAt hx e
        obtain ⟨u, hu, r⟩ := hv.at hy
        refine wpAny_pyNext_list_item hi hl (by simpa using hu) fun h' hi' hs => ?_
        have b : Beside B ρ [I] s { s with heap := h', toks := s.toks } := .ofSame s (List.mem_cons_self ..) hs
        exact k u _ b (.list i (n + 1) I a e hi') (b.vr G nt r)
  | rng a n _ hi =>
    cases n with
    | zero => cases hm
    | succ n =>
      cases hm
      refine wpAny_pyNext_range_item hi (by omega) fun h' hi' hs => ?_
      have b : Beside B ρ [I] s { s with heap := h', toks := s.toks + 1 } := .ofSame s (List.mem_cons_self ..) hs
      exact k _ _ b (.rng (a + 1) n I (by
        have : ((n + 1 : Nat) : Int) - 1 = (n : Int) := by omega
        rw [this] at hi'; exact hi')) (.int _ _)
  | enum i n _ it a old e he hi hne' => exact absurd rfl (hne i n)
  | byt x n _ t hi =>
    simp only [It.next] at hm
    split at hm
    · cases hm
    · rename_i c hc
      cases hm
      refine KBw.next_item hi (by simpa using hc) fun h' hi' hs => ?_
      have b : Beside B ρ [I] s { s with heap := h', toks := s.toks + 1 } := .ofSame s (List.mem_cons_self ..) hs
      exact k _ _ b (.byt x (n + 1) I t hi') (.int _ _)
  | chr x n _ t hi =>
    simp only [It.next] at hm
    split at hm
    · cases hm
    · rename_i c hc
      cases hm
      refine wpAny_pyNext_ascii_item hi (c := c) (by simpa [mkS] using hc) fun h' hi' hs => ?_
      have b : Beside B ρ [I] s { s with heap := h', toks := s.toks + 1 } := .ofSame s (List.mem_cons_self ..) hs
      exact k _ _ b (.chr x (n + 1) I t hi') (.str [c] _)
  | kw i _ a ok ov e hi =>
    simp only [It.next] at hm
    split at hm <;> cases hm
end
end Mine
end
section
open PySem PySem.W PyProof.Rows PySem.Spec PySem.Calls
set_option linter.unusedVariables false
namespace Mine
inductive Tgt where
  | one (i : Nat)
  | two (i j : Nat)
noncomputable def setT : Tgt → MV → Loc → Option Loc
  | .one i, v, loc => some (loc.set i (some v))
  | .two i j, .tup [a, b], loc => some ((loc.set i (some a)).set j (some b))
  | _, _, _ => none
noncomputable def fitsT : Tgt → It → Bool
  | .one _, .enum _ _ => false
  | .two _ _, .rng _ _ => false
  | .two _ _, .byt _ _ => false
  | .two _ _, .chr _ _ => false
  | .two _ _, .kw _ => false
  | _, _ => true
inductive TgtIs (Γ : Ctx) : Tgt → PySem.Expr → Prop
  | one (i : Nat) (x : Str) (p : Pos) : Γ.tbl[i]? = some x → Γ.sc.lookup x ≠ some .free → TgtIs Γ (.one i) (.Name x p)
  | two (i j : Nat) (x y : Str) (p q : Pos) (k : Nat) (r : Pos) : Γ.tbl[i]? = some x → Γ.sc.lookup x ≠ some .free → Γ.tbl[j]? = some y → Γ.sc.lookup y ≠ some .free → TgtIs Γ (.two i j) (.Tuple [.Name x p, .Name y q] k r)
section
variable {B : Base} {d : Nat} {Γ : Ctx} {env : Env} {loc : Loc} {hp hp' : List MO} {ρ : List Addr} {s : Shared} {A : Around} {E : Value → Shared → Prop}
noncomputable def wrI (Γ : Ctx) (env : Env) (i : Nat) : List Addr := match Γ.tbl[i]? with
  | some x => wrX Γ env x
  | none => []
noncomputable def wrT (Γ : Ctx) (env : Env) : Tgt → List Addr
  | .one i => wrI Γ env i
  | .two i j => wrI Γ env i ++ wrI Γ env j
theorem wrI_sub {i : Nat} {a : Addr} (h : a ∈ wrI Γ env i) : a ∈ envW env := by
  unfold wrI at h
  split at h
  · exact wrX_sub h
  · cases h
theorem wrT_sub {t : Tgt} {a : Addr} (h : a ∈ wrT Γ env t) : a ∈ envW env := by
  cases t with
  | one i => exact wrI_sub h
  | two i j =>
    rcases List.mem_append.mp h with q | q
    · exact wrI_sub q
    · exact wrI_sub q
structure Drawn (B : Base) (Γ : Ctx) (env : Env) (t : Tgt) (loc : Loc) (ρ : List Addr) (hp : List MO) (it : It) (I : Addr) (own : List Addr) (s s' : Shared) : Prop where
  good : Good B ρ hp s'
  fr : FrR B Γ env loc ρ s'.heap
  itr : ItR s'.heap ρ it I own
  keep : ∀ b o, s.heap.get? b = some o → b ∉ ρ → b ∉ own → b ∉ wrT Γ env t → s'.heap.get? b = some o
theorem OwnOk.ext_itr {own : List Addr} {it : It} {I : Addr} {h' : Heap} (O : OwnOk B ρ env own) (R : ItR s.heap ρ it I own) (x : Ext ρ s.heap ρ h' (envW env)) : ItR h' ρ it I own :=
  R.ext x O.rho O.env
theorem draw_assign {t : Tgt} {target : PySem.Expr} {x : MV} {loc1 : Loc} {it : It} {I : Addr} {own : List Addr} {u : Value} {s0 : Shared} (hs : setT t x loc = some loc1) (T : TgtIs Γ t target)
    (G : Good B ρ hp s) (F : FrR B Γ env loc ρ s.heap) (R : ItR s.heap ρ it I own) (O : OwnOk B ρ env own) (b : Beside B ρ own s0 s) (hA : AOK d A)
    (r : match t with | .one _ => VR s.heap ρ B.l₀ x u | .two _ _ => ∃ T a b ua ub, u = .ref T ∧ x = .tup [a, b] ∧ s.heap.IsTuple T ⟨[ua, ub]⟩ ∧ VR s.heap ρ B.l₀ a ua ∧ VR s.heap ρ B.l₀ b ub) {K : Shared → Prop}
    (k : ∀ s', Drawn B Γ env t loc1 ρ hp it I own s0 s' → K s') : wpAny (model B.prog B.w) A (assign target env u) (fun _ s₂ => K s₂) E s := by
  cases T with
  | one i y p hi hf =>
    cases hs
    exact PySem.wpAny_assign_Name (store_ok hi hf G F r fun s' x' G' F' => k s' ⟨G', F', O.ext_itr R x'.wr, fun c o e h0 h1 h2 => x'.keep c o (b.keep c o e h1) h0 (by simp only [wrT, wrI, hi] at h2; exact h2)⟩)
  | two i j y z p q kk rr hi hf hj hg =>
    obtain ⟨T, a, b', ua, ub, rfl, rfl, ht, ra, rb⟩ := r
    cases hs
    refine wpAny_assign_Tuple hA.handled ht rfl rfl fun h' hx => ?_
    have hk : ∀ c o, s.heap.get? c = some o → h'.get? c = some o := fun c o e => hx c o (Nat.ne_of_lt (Heap.lt_size e)) e
    have x0 : Ext ρ s.heap ρ h' [] := .keeps hk
    have G0 := G.keeps (tk := s.toks) hk
    have F0 := F.ext G x0
    have R0 : ItR h' ρ it I own := R.ext x0 O.rho (fun _ _ q => nomatch q)
    show wpAny _ A (do holding [ub] (assign (.Name y p) env ua); do holding [] (assign (.Name z q) env ub); pure ()) _ _ _
    refine wpAny_bind (wpAny_holding (PySem.wpAny_assign_Name (store_ok hi hf G0 F0 (G.vr x0 .nil ra) fun s1 x1 G1 F1 => ?_)))
    have R1 := O.ext_itr (s := { s with heap := h' }) R0 x1.wr
    refine wpAny_bind (wpAny_holding (PySem.wpAny_assign_Name (store_ok hj hg G1 F1 (G0.vr x1.wr F0.noTup (G.vr x0 .nil rb)) fun s2 x2 G2 F2 => wpAny_pure ?_)))
    refine k s2 ⟨G2, F2, O.ext_itr R1 x2.wr, fun c o e h0 h1 h2 => ?_⟩
    have h2' : c ∉ wrX Γ env y ∧ c ∉ wrX Γ env z := by
      simp only [wrT, wrI, hi, hj] at h2
      exact ⟨fun q => h2 (List.mem_append.mpr (.inl q)), fun q => h2 (List.mem_append.mpr (.inr q))⟩
    exact x2.keep c o (x1.keep c o (hk c o (b.keep c o e h1)) h0 h2'.1) h0 h2'.2
theorem draw {t : Tgt} {target : PySem.Expr} {x : MV} {loc1 : Loc} {it it' : It} {I : Addr} {own : List Addr} (hm : it.next hp = some (some (x, it'))) (hs : setT t x loc = some loc1) (hfit : fitsT t it = true) (T : TgtIs Γ t target)
    (G : Good B ρ hp s) (F : FrR B Γ env loc ρ s.heap) (R : ItR s.heap ρ it I own) (O : OwnOk B ρ env own) (hA : AOK d A) {N K : Shared → Prop}
    {E' : Value → Shared → Prop} (k : ∀ s', Drawn B Γ env t loc1 ρ hp it' I own s s' → K s') :
    wpAny (model B.prog B.w) A (pyNext (.ref I)) (fun r s₁ => match r with
      | none => N s₁
      | some v => wpAny (model B.prog B.w) A (letOwnedTupleGo target (.ref I) v) (fun _ s₁' => wpAny (model B.prog B.w) A (assign target env v) (fun _ s₂ => K s₂) E' s₁') E' s₁) E s := by
  have nt := R.noTup
  cases T with
  | one i y p hi hf =>
    have hne : ∀ a b, it ≠ .enum a b := by rintro a b rfl; cases hfit
    refine next_one hm G R hne fun u s1 b R1 r1 => ?_
    show wpAny _ A (letOwnedTupleGo (.Name y p) (.ref I) u) _ _ _
    refine wpAny_pure ?_
    exact draw_assign (t := .one i) hs (.one i y p hi hf) (b.good G O nt) (b.fr G F O nt) R1 O b hA r1 k
  | two i j y z p q kk rr hi hf hj hg =>
    cases R with
    | list n m _ a e hl =>
      have Rl : ItR s.heap ρ (.list n m) I [I] := .list n m I a e hl
      have hit : it' = .list n (m + 1) := by
        simp only [It.next] at hm
        split at hm
        · cases hm
        · split at hm
          · cases hm
          · cases hm; rfl
      subst hit
      refine next_one hm G Rl (fun _ _ q => nomatch q) fun u s1 b R1 r1 => ?_
      have hx : ∃ a b, x = .tup [a, b] := by
        unfold setT at hs
        split at hs
        · cases ‹Tgt.two _ _ = Tgt.one _›
        · exact ⟨_, _, rfl⟩
        · cases hs
      obtain ⟨xa, xb, rfl⟩ := hx
      have G1 := b.good G O nt
      have F1 := b.fr G F O nt
      cases r1 with
      | tup _ vs T ht hv =>
        cases hv with
        | cons ra hv => cases hv with
          | cons rb hv => cases hv with
            | nil =>
              cases R1 with
              | list _ _ _ a' e' hl' =>
                refine wpAny_letOwnedTupleGo_listiter hl' ?_
                exact draw_assign (t := .two i j) hs (.two i j y z p q kk rr hi hf hj hg) G1 F1 (.list n _ I a' e' hl') O b hA ⟨T, xa, xb, _, _, rfl, rfl, ht, ra, rb⟩ k
    | rng c n _ hi => cases hfit
    | enum n m _ it0 a old e he hl hne =>
      simp only [It.next] at hm
      split at hm
      · cases hm
      · rename_i xs hx
        split at hm
        · cases hm
        · rename_i y' hy
          cases hm
          obtain ⟨vs, hlist, hv⟩ := G.listAt hx e
          obtain ⟨u, hu, r⟩ := hv.at hy
          have heI : I ≠ s.heap.objs.size := Nat.ne_of_lt (Heap.lt_size he)
          refine wpAny_pyNext_enum_item he hl hlist (by simpa using hu) hne fun h' ho hi' ht hsz hk => ?_
          refine wpAny_letOwnedTupleGo_enum ho fun h2 he2 hs2 => ?_
          have ht2 : h2.IsTuple s.heap.objs.size #[.int m s.toks, u] := ⟨_, (hs2.2 _ (Ne.symm heI)).trans ht, rfl, _, rfl⟩
          have hi2 : h2.IsListIter it0 a (m + 1) := by
            obtain ⟨o, e', r'⟩ := hi'
            exact ⟨o, (hs2.2 it0 (Ne.symm hne)).trans e', r'⟩
          have hk2 : ∀ b o, s.heap.get? b = some o → b ∉ [I, it0] → h2.get? b = some o := fun b o e hb => by
            have h1 : b ≠ I := fun q => hb (by rw [q]; exact List.mem_cons_self ..)
            have h3 : b ≠ it0 := fun q => hb (by rw [q]; exact List.mem_cons_of_mem _ (List.mem_cons_self ..))
            exact (hs2.2 b h1).trans (hk b o h1 h3 e)
          have b : Beside B ρ [I, it0] s { s with heap := h2, toks := s.toks + 1 } := .of s hk2
          have he2' : IsEnum h2 I it0 ((m + 1 : Nat) : Int) u := by
            have : ((m + 1 : Nat) : Int) = (m : Int) + 1 := by push_cast; rfl
            rw [this]; exact he2
          refine draw_assign (t := .two i j) hs (.two i j y z p q kk rr hi hf hj hg) (b.good G O nt) (b.fr G F O nt) (.enum n (m + 1) I it0 a u e he2' hi2 hne) O b hA ?_ k
          exact ⟨s.heap.objs.size, _, _, _, _, rfl, rfl, ht2, .int _ _, b.vr G nt r⟩
    | byt c n _ t hi => cases hfit
    | chr c n _ t hi => cases hfit
    | kw i _ a ok ov e hi => cases hfit
abbrev MI := Loc → List MO → Option (It × List MO)
noncomputable def SndI (B : Base) (d : Nat) (Γ : Ctx) (e : PySem.Expr) (m : MI) : Prop :=
  ∀ env loc hp it hp' ρ s, m loc hp = some (it, hp') → Good B ρ hp s → FrR B Γ env loc ρ s.heap →
    ∀ A Q E, AOK d A → (∀ I own ρ' s', Ext ρ s.heap ρ' s'.heap [] → Good B ρ' hp' s' → ItR s'.heap ρ' it I own → (∀ a ∈ own, s.heap.get? a = none) → (∀ a ∈ own, a ∉ ρ') → Q (.ref I) s') →
      wpAny (model B.prog B.w) A (eval e env) (fun x s₁ => wpAny (model B.prog B.w) A (pyIter x) Q E s₁) E s
noncomputable def forGo (t : Tgt) (body : MS) : Nat → It → MS
  | 0, _ => fun _ _ => none
  | n + 1, it => fun loc hp => match it.next hp with
    | none => none
    | some none => some (.next, loc, hp)
    | some (some (x, it')) => match fitsT t it with
      | false => none
      | true => match setT t x loc with
        | none => none
        | some loc1 => match body loc1 hp with
          | none => none
          | some (.next, loc2, hp2) => forGo t body n it' loc2 hp2
          | some (.cont, loc2, hp2) => forGo t body n it' loc2 hp2
          | some (.brk, loc2, hp2) => some (.brk, loc2, hp2)
          | some (.ret v, loc2, hp2) => some (.ret v, loc2, hp2)
noncomputable def sFor (n : Nat) (t : Tgt) (mi : MI) (body orelse : MS) : MS := fun loc hp => match mi loc hp with
  | none => none
  | some (it, hp1) => match forGo t body n it loc hp1 with
    | none => none
    | some (.next, loc2, hp2) => orelse loc2 hp2
    | some (.cont, loc2, hp2) => none
    | some (.brk, loc2, hp2) => some (.next, loc2, hp2)
    | some (.ret v, loc2, hp2) => some (.ret v, loc2, hp2)
theorem snd_for {n : Nat} {t : Tgt} {target iter : PySem.Expr} {bd oe : List PySem.Stmt} {pos : Pos} {mi : MI} {mb mo : MS} (T : TgtIs Γ t target) (Si : SndI B d Γ iter mi) (Sb : SndS B d Γ bd mb) (So : SndS B d Γ oe mo)
    (hfold : ∀ env x, foldedSetIterable iter env x = pure x := by intro _ _; rfl) : SndX B d Γ (.For target iter bd oe pos) (sFor n t mi mb mo) := by
  intro env loc hp fl loc' hp' ρ s hm G F A Q E hA k
  unfold sFor at hm
  split at hm
  · cases hm
  · rename_i it hp1 h1
    refine PySem.wpAny_For (Si env loc hp it hp1 ρ s h1 G F A _ E hA fun I own ρ1 s1 x1 G1 R1 hnew hout => ?_) (hfold env)
    -- the whole loop
    have F1 := F.ext G x1
    have key : ∀ (n : Nat) (it : It) (loc1 : Loc) (hp1 : List MO) (ρ1 : List Addr) (s1 : Shared), Ext ρ s.heap ρ1 s1.heap (envW env) → Good B ρ1 hp1 s1 → FrR B Γ env loc1 ρ1 s1.heap → ItR s1.heap ρ1 it I own → (∀ a ∈ own, a ∉ ρ1) →
        (∃ r, forGo t mb n it loc1 hp1 = some r ∧ (match r with
          | (.next, loc2, hp2) => mo loc2 hp2
          | (.cont, loc2, hp2) => none
          | (.brk, loc2, hp2) => some (.next, loc2, hp2)
          | (.ret v, loc2, hp2) => some (.ret v, loc2, hp2)) = some (fl, loc', hp')) →
        codeAny (model B.prog B.w) A (.forLoop target (.ref I) bd oe env) (fun r s' => match r with | .ok f => Q f s' | .error e => cameBackBy (model B.prog B.w) A env E e s') s1 := by
      intro n it loc1 hp1 ρ1 s1 x1 G1 F1 R1 hout hgo
      refine codeAny_forLoop_any (fun n s1 => ∃ it loc1 hp1 ρ1, Ext ρ s.heap ρ1 s1.heap (envW env) ∧ Good B ρ1 hp1 s1 ∧ FrR B Γ env loc1 ρ1 s1.heap ∧ ItR s1.heap ρ1 it I own ∧ (∀ a ∈ own, a ∉ ρ1) ∧
        (∃ r, forGo t mb n it loc1 hp1 = some r ∧ (match r with
          | (.next, loc2, hp2) => mo loc2 hp2
          | (.cont, loc2, hp2) => none
          | (.brk, loc2, hp2) => some (.next, loc2, hp2)
          | (.ret v, loc2, hp2) => some (.ret v, loc2, hp2)) = some (fl, loc', hp'))) ?_ n ⟨it, loc1, hp1, ρ1, x1, G1, F1, R1, hout, hgo⟩
      rintro n s1 ⟨it, loc1, hp1, ρ1, x1, G1, F1, R1, hout, r, hgo, hr⟩
      have aliveW : ∀ a ∈ envW env, ∃ o, s.heap.get? a = some o := by
        intro a ha
        rcases List.mem_cons.mp ha with rfl | ha
        · obtain ⟨m, ⟨o, _, _, e, _⟩, _⟩ := F.ns; exact ⟨o, e⟩
        · obtain ⟨c, hc, rfl⟩ := List.mem_map.mp ha
          obtain ⟨u, o, e, _⟩ := F.cells c hc; exact ⟨o, e⟩
      have O1 : ∀ a ∈ own, a ∉ envW env := by
        intro a ha hw
        obtain ⟨o, e⟩ := aliveW a hw
        rw [hnew a ha] at e; cases e
      have O2 : ∀ a ∈ own, B.s₀.heap.get? a = none := by
        intro a ha
        cases e : B.s₀.heap.get? a with
        | none => rfl
        | some o => have := G.keep a o e; rw [hnew a ha] at this; cases this
      have O : OwnOk B ρ1 env own := ⟨hout, O1, O2⟩
      have dead : ∀ {b o}, s.heap.get? b = some o → b ∉ own := by
        intro b o e q
        rw [hnew b q] at e; cases e
      cases n with
      | zero => cases hgo
      | succ n =>
        unfold forGo at hgo
        split at hgo
        · cases hgo
        · rename_i hn
          cases hgo
          refine next_end hn G1 R1 hA fun s2 b2 => ?_
          have G2 := b2.good G1 O R1.noTup
          have F2 := b2.fr G1 F1 O R1.noTup
          have x2 : Ext ρ s.heap ρ1 s2.heap (envW env) := ⟨x1.more, fun b o e h1 h2 => b2.keep b o (x1.keep b o e h1 h2) (dead e), fun b o e h2 => by
            obtain ⟨o', e'⟩ := x1.alive b o e h2
            exact ⟨o', b2.keep b o' e' (dead e)⟩⟩
          exact So env loc1 hp1 fl loc' hp' ρ1 s2 hr G2 F2 A _ _ hA fun fl' ρ3 s3 x3 G3 F3 r3 => k fl' ρ3 s3 (x2.trans x3 F3.out) G3 F3 r3
        · rename_i y it' hn
          split at hgo
          · cases hgo
          · rename_i hfit
            split at hgo
            · cases hgo
            · rename_i loc2 hset
              refine draw (d := d) hn hset hfit T G1 F1 R1 O hA fun s2 D => ?_
              have x2 : Ext ρ s.heap ρ1 s2.heap (envW env) := ⟨x1.more, fun b o e h1 h2 => D.keep b o (x1.keep b o e h1 h2) (x1.notin (W := envW env) e h1) (dead e) (fun q => h2 (wrT_sub q)), fun b o e h2 => by
                obtain ⟨o', e'⟩ := x1.alive b o e h2
                by_cases hb : b ∈ ρ1
                · obtain ⟨i, hi, rfl⟩ := List.getElem_of_mem hb
                  have hi' : i < hp1.length := G1.len ▸ hi
                  exact (D.good.ok i hp1[i] ρ1[i] (List.getElem?_eq_getElem hi') (List.getElem?_eq_getElem hi)).alive
                · exact ⟨o', D.keep b o' e' hb (dead e) (fun q => h2 (wrT_sub q))⟩⟩
              have step : ∀ {fl2 loc3 hp3}, mb loc2 hp1 = some (fl2, loc3, hp3) → ∀ {Q2 : Flow → Shared → Prop} {E2 : Value → Shared → Prop},
                  (∀ fl' ρ3 s3, Ext ρ s.heap ρ3 s3.heap (envW env) → Good B ρ3 hp3 s3 → FrR B Γ env loc3 ρ3 s3.heap → ItR s3.heap ρ3 it' I own → (∀ a ∈ own, a ∉ ρ3) → FlowR s3.heap ρ3 B.l₀ fl2 fl' → Q2 fl' s3) → wpAny (model B.prog B.w) A (execs bd env) Q2 E2 s2 := by
                intro fl2 loc3 hp3 hb Q2 E2 k2
                refine Sb env loc2 hp1 fl2 loc3 hp3 ρ1 s2 hb D.good D.fr A _ _ hA fun fl' ρ3 s3 x3 G3 F3 r3 => ?_
                refine k2 fl' ρ3 s3 (x2.trans x3 F3.out) G3 F3 (D.itr.ext x3 hout O.env) (fun a ha => ?_) r3
                obtain ⟨o, e⟩ := D.itr.alive a ha
                exact x3.notin e (hout a ha)
              split at hgo
              · cases hgo
              · rename_i loc3 hp3 hb
                refine step hb fun fl' ρ3 s3 x3 G3 F3 R3 o3 r3 => ?_
                cases r3
                exact ⟨n, Nat.lt_succ_self _, it', loc3, hp3, ρ3, x3, G3, F3, R3, o3, r, hgo, hr⟩
              · rename_i loc3 hp3 hb
                refine step hb fun fl' ρ3 s3 x3 G3 F3 R3 o3 r3 => ?_
                cases r3
                exact ⟨n, Nat.lt_succ_self _, it', loc3, hp3, ρ3, x3, G3, F3, R3, o3, r, hgo, hr⟩
              · rename_i loc3 hp3 hb
                cases hgo; cases hr
                refine step hb fun fl' ρ3 s3 x3 G3 F3 R3 o3 r3 => ?_
                cases r3
                exact k .next ρ3 s3 x3 G3 F3 .next
              · rename_i v loc3 hp3 hb
                cases hgo; cases hr
                refine step hb fun fl' ρ3 s3 x3 G3 F3 R3 o3 r3 => ?_
                cases r3 with
                | ret q => exact k _ ρ3 s3 x3 G3 F3 (.ret q)
    have xW : Ext ρ s.heap ρ1 s1.heap (envW env) := x1.nil
    split at hm
    · cases hm
    · rename_i loc2 hp2 h2
      exact key n it loc hp1 ρ1 s1 xW G1 F1 R1 hout ⟨_, h2, hm⟩
    · cases hm
    · rename_i loc2 hp2 h2
      exact key n it loc hp1 ρ1 s1 xW G1 F1 R1 hout ⟨_, h2, hm⟩
    · rename_i v loc2 hp2 h2
      exact key n it loc hp1 ρ1 s1 xW G1 F1 R1 hout ⟨_, h2, hm⟩
end
end Mine
end
section
open PySem PySem.W PyProof.Rows PySem.Spec PySem.Calls
set_option linter.unusedVariables false
namespace Mine
noncomputable def whileGo (t : MT) (body orelse : MS) : Nat → MS
  | 0 => fun _ _ => none
  | n + 1 => fun loc hp => match t loc hp with
    | none => none
    | some (false, hp1) => orelse loc hp1
    | some (true, hp1) => match body loc hp1 with
      | none => none
      | some (.next, loc2, hp2) => whileGo t body orelse n loc2 hp2
      | some (.cont, loc2, hp2) => whileGo t body orelse n loc2 hp2
      | some (.brk, loc2, hp2) => some (.next, loc2, hp2)
      | some (.ret v, loc2, hp2) => some (.ret v, loc2, hp2)
section
variable {B : Base} {d : Nat} {Γ : Ctx} {env : Env} {loc : Loc} {hp hp' : List MO} {ρ : List Addr} {s : Shared} {A : Around} {E : Value → Shared → Prop}
theorem snd_while {n : Nat} {t : PySem.Expr} {bd oe : List PySem.Stmt} {pos : Pos} {mt : MT} {mb mo : MS} (St : SndT B d Γ t mt) (Sb : SndS B d Γ bd mb) (So : SndS B d Γ oe mo) : SndX B d Γ (.While t bd oe pos) (whileGo mt mb mo n) := by
  intro env loc hp fl loc' hp' ρ s hm G F A Q E hA k
  refine PySem.wpAny_While ?_
  refine codeAny_whileLoop (fun n s1 => ∃ loc1 hp1 ρ1, Ext ρ s.heap ρ1 s1.heap (envW env) ∧ Good B ρ1 hp1 s1 ∧ FrR B Γ env loc1 ρ1 s1.heap ∧ whileGo mt mb mo n loc1 hp1 = some (fl, loc', hp')) ?_ n ⟨loc, hp, ρ, .refl, G, F, hm⟩
  rintro n s1 ⟨loc1, hp1, ρ1, x1, G1, F1, hgo⟩
  cases n with
  | zero => cases hgo
  | succ n =>
    unfold whileGo at hgo
    split at hgo
    · cases hgo
    · rename_i hp2 h2
      refine St.run h2 G1 F1 hA fun ρ2 s2 x2 G2 F2 => ?_
      simp only [Bool.false_eq_true, if_false]
      exact So env loc1 hp2 fl loc' hp' ρ2 s2 hgo G2 F2 A _ _ hA fun fl' ρ3 s3 x3 G3 F3 r3 => k fl' ρ3 s3 (x1.trans (x2.nil.trans x3 F3.out) F3.out) G3 F3 r3
    · rename_i hp2 h2
      refine St.run h2 G1 F1 hA fun ρ2 s2 x2 G2 F2 => ?_
      simp only [if_true]
      split at hgo
      · cases hgo
      · rename_i loc3 hp3 h3
        refine Sb env loc1 hp2 _ loc3 hp3 ρ2 s2 h3 G2 F2 A _ _ hA fun fl' ρ3 s3 x3 G3 F3 r3 => ?_
        cases r3
        exact ⟨n, Nat.lt_succ_self _, loc3, hp3, ρ3, x1.trans (x2.nil.trans x3 F3.out) F3.out, G3, F3, hgo⟩
      · rename_i loc3 hp3 h3
        refine Sb env loc1 hp2 _ loc3 hp3 ρ2 s2 h3 G2 F2 A _ _ hA fun fl' ρ3 s3 x3 G3 F3 r3 => ?_
        cases r3
        exact ⟨n, Nat.lt_succ_self _, loc3, hp3, ρ3, x1.trans (x2.nil.trans x3 F3.out) F3.out, G3, F3, hgo⟩
      · rename_i loc3 hp3 h3
        cases hgo
        refine Sb env loc1 hp2 _ _ _ ρ2 s2 h3 G2 F2 A _ _ hA fun fl' ρ3 s3 x3 G3 F3 r3 => ?_
        cases r3
        exact k _ ρ3 s3 (x1.trans (x2.nil.trans x3 F3.out) F3.out) G3 F3 .next
      · rename_i v loc3 hp3 h3
        cases hgo
        refine Sb env loc1 hp2 _ _ _ ρ2 s2 h3 G2 F2 A _ _ hA fun fl' ρ3 s3 x3 G3 F3 r3 => ?_
        cases r3 with
        | ret q => exact k _ ρ3 s3 (x1.trans (x2.nil.trans x3 F3.out) F3.out) G3 F3 (.ret q)
theorem evalArgs_any {M : Model} {f : Value} {L : List (Bool × Sem Value)} {Q : Args → Shared → Prop} (hpl : L.any (·.1) = false)
    (h : wpAny M A (spliced L) (fun vs s' => Q ⟨vs, []⟩ s') E s) : wpAny M A (evalArgs f true L []) Q E s := by
  cases L with
  | nil =>
    unfold evalArgs
    show wpAny M A (spliced [] >>= _) Q E s
    refine wpAny_bind (wpAny_mono h (fun vs s' h' => ?_) fun _ _ x => x)
    refine wpAny_bind (wpAny_pure ?_)
    refine wpAny_holding ?_
    exact wpAny_bind (wpAny_pure (wpAny_bind (wpAny_pure (wpAny_pure h'))))
  | cons p rest =>
    obtain ⟨b, x⟩ := p
    cases b with
    | true => simp at hpl
    | false => exact evalArgs_plain h
noncomputable def CallOk (B : Base) (d : Nat) (f : Value) (g : List MV → List MO → Option (MV × List MO)) : Prop :=
  ∀ vs hp v hp' ρ s us, g vs hp = some (v, hp') → Good B ρ hp s → VRL s.heap ρ B.l₀ vs us → TreeOk B d ρ s (call f us) v hp'
inductive Callee (B : Base) : Value → Prop
  | type (T : String) : Callee B (.type T)
  | builtin (id : String) : Callee B (.builtin id)
  | func (a : Addr) (o : Obj) (fd : FuncData) : B.s₀.heap.get? a = some o → o.data = .func fd → Callee B (.ref a)
  | kept (v : Value) : B.Ok → keepIn B.K v = true → Callee B v
theorem callWith_ok {f : Value} {pos : Pos} {first : List Value} {L : List (Bool × Sem Value)} {Q : Value → Shared → Prop} (C : Callee B f) (hpl : L.any (·.1) = false)
    (h : wpAny (model B.prog B.w) A (spliced L) (fun us s₁ => (∀ b o, B.s₀.heap.get? b = some o → s₁.heap.get? b = some o) ∧ wpAny (model B.prog B.w) A (call f (first ++ us)) Q E s₁) E s) :
    wpAny (model B.prog B.w) A (callWith pos f first L []) Q E s := by
  cases C with
  | type T => exact PySem.callWith_type hpl (evalArgs_any hpl (wpAny_mono h (fun _ _ q => q.2) fun _ _ x => x))
  | builtin id => exact callWith_builtin hpl (evalArgs_any hpl (wpAny_mono h (fun _ _ q => q.2) fun _ _ x => x))
  | kept _ O hk => exact callWith_of (P := B.K.In) (by rw [hpl]; rfl) (keeps_K hk) (evalArgs_any hpl (wpAny_mono h (fun _ _ q => ⟨Frag.In.keeps O.k q.1, q.2⟩) fun _ _ x => x))
  | func a o fd ho hd => exact callWith_function (evalArgs_any hpl (wpAny_mono h (fun _ _ q => ⟨⟨q.1 _ _ ho, hd⟩, q.2⟩) fun _ _ x => x))
abbrev plainArgs (es : List PySem.Expr) : Prop := ∀ (env : Env) (pos : Pos), (backTo pos (starEach es env)).any (·.1) = false
noncomputable def mCall (g : List MV → List MO → Option (MV × List MO)) (l : ML) : ME := fun loc hp => match l loc hp with
  | none => none
  | some (vs, hp1) => g vs hp1
theorem snd_call {x : Str} {p pos : Pos} {es : List PySem.Expr} {f : Value} {g : List MV → List MO → Option (MV × List MO)} {l : ML} (Sf : SndE B d Γ (.Name x p) (fun _ hp => some (.fix f, hp))) (C : Callee B f) (Sl : SndL B d Γ es l)
    (K : CallOk B d f g) (hpl : plainArgs es := by intro _ _; rfl) : SndE B d Γ (.Call (.Name x p) es [] pos) (mCall g l) := by
  intro env loc hp v hp' ρ s hm G F A Q E hA k
  unfold mCall at hm
  split at hm
  · cases hm
  · rename_i vs hp1 h1
    refine wpAny_Call_NameR (Sf.run rfl G F hA fun u ρ0 s0 x0 G0 F0 r0 => ?_)
    cases r0
    refine callWith_ok C (hpl env pos) (Sl env loc _ vs hp1 ρ0 s0 pos h1 G0 F0 A _ _ hA fun us ρ1 s1 x1 G1 r1 => ⟨G1.keep, ?_⟩)
    exact K vs hp1 v hp' ρ1 s1 us hm G1 r1 A _ _ hA fun u ρ2 s2 x2 G2 r2 => k u ρ2 s2 (x0.trans (x1.trans x2)) G2 r2
/- what is walked through -/
noncomputable def itOf (v : MV) (hp : List MO) : Option It := match v with
  | .ref i => match listOf hp i with
    | some _ => some (.list i 0)
    | none => none
  | .bytes x => some (.byt x 0)
  | .str x => if x.all (fun c => decide (c < 128)) then some (.chr x 0) else none
  | _ => none
noncomputable def iVal (m : ME) : MI := fun loc hp => match m loc hp with
  | none => none
  | some (v, hp1) => match itOf v hp1 with
    | none => none
    | some it => some (it, hp1)
noncomputable def rngOf : List MV → Option It
  | [.int n] => if n.natAbs < 1000000 then some (.rng 0 n.toNat) else none
  | [.int a, .int b] => if a.natAbs < 1000000 ∧ b.natAbs < 1000000 then some (.rng a (b - a).toNat) else none
  | _ => none
noncomputable def iRange (l : ML) : MI := fun loc hp => match l loc hp with
  | none => none
  | some (vs, hp1) => match rngOf vs with
    | none => none
    | some it => some (it, hp1)
noncomputable def enumOf (hp : List MO) : List MV → Option It
  | [.ref i] => match listOf hp i with
    | some _ => some (.enum i 0)
    | none => none
  | _ => none
noncomputable def iEnum (l : ML) : MI := fun loc hp => match l loc hp with
  | none => none
  | some (vs, hp1) => match enumOf hp1 vs with
    | none => none
    | some it => some (it, hp1)
theorem Ext.back {ρ h ρ' h'} (x : Ext ρ h ρ' h' []) {a : Addr} (e : h'.get? a = none) : h.get? a = none := by
  cases e' : h.get? a with
  | none => rfl
  | some o =>
    obtain ⟨o', q⟩ := x.alive a o e' (fun q => nomatch q)
    rw [e] at q; cases q
theorem Good.alive (G : Good B ρ hp s) {a : Addr} (ha : a ∈ ρ) : ∃ o, s.heap.get? a = some o := by
  obtain ⟨i, hi, rfl⟩ := List.getElem_of_mem ha
  have hi' : i < hp.length := G.len ▸ hi
  exact (G.ok i hp[i] ρ[i] (List.getElem?_eq_getElem hi') (List.getElem?_eq_getElem hi)).alive
theorem get?_size (h : Heap) : h.get? h.objs.size = none := by
  cases e : h.get? h.objs.size with
  | none => rfl
  | some o => exact absurd (Heap.lt_size e) (Nat.lt_irrefl _)
theorem Good.size_out (G : Good B ρ hp s) {n : Nat} (hn : s.heap.objs.size ≤ n) : n ∉ ρ := fun q => by
  obtain ⟨o, e⟩ := G.alive q
  exact absurd (Heap.lt_size e) (Nat.not_lt.mpr hn)
theorem get?_big (h : Heap) {n : Nat} (hn : h.objs.size ≤ n) : h.get? n = none := by
  cases e : h.get? n with
  | none => rfl
  | some o => exact absurd (Heap.lt_size e) (Nat.not_lt.mpr hn)
theorem snd_ival {e : PySem.Expr} {m : ME} (S : SndE B d Γ e m) : SndI B d Γ e (iVal m) := by
  intro env loc hp it hp' ρ s hm G F A Q E hA k
  unfold iVal at hm
  split at hm
  · cases hm
  · rename_i v hp1 h1
    split at hm
    · cases hm
    · rename_i it' hi
      cases hm
      refine S.run h1 G F hA fun u ρ1 s1 x1 G1 F1 r1 => ?_
      have nw : ∀ a ∈ [s1.heap.objs.size], s.heap.get? a = none := fun a ha => by
        rw [List.mem_singleton.mp ha]; exact x1.back (get?_size _)
      have no : ∀ a ∈ [s1.heap.objs.size], a ∉ ρ1 := fun a ha => by
        rw [List.mem_singleton.mp ha]; exact G1.size_out (Nat.le_refl _)
      unfold itOf at hi
      split at hi
      · rename_i i
        split at hi
        · rename_i xs hx
          cases hi
          cases r1 with
          | ref _ a ea =>
            obtain ⟨vs, hl, hv⟩ := G1.listAt hx ea
            refine PySem.wpAny_pyIter_list hl ?_
            have G2 := G1.push { cls := .type "list_iterator", data := .fields #[.ref a, .int 0 0] }
            exact k _ [s1.heap.objs.size] ρ1 _ (x1.trans (.keeps fun _ _ e => Heap.get?_push_of_some _ e)) G2 (.list i 0 _ a ea ⟨_, Heap.get?_push_size _ rfl, rfl, rfl⟩) nw no
        · cases hi
      · rename_i x
        cases hi
        cases r1 with
        | bytes _ t =>
          refine KBw.pyIter_bytes ?_
          have G2 := G1.push { cls := .type "bytes_iterator", data := .fields #[.bytes ⟨x⟩ t, .int 0 0] }
          exact k _ [s1.heap.objs.size] ρ1 _ (x1.trans (.keeps fun _ _ e => Heap.get?_push_of_some _ e)) G2 (.byt x 0 _ t ⟨_, Heap.get?_push_size _ rfl, rfl, rfl⟩) nw no
      · split at hi
        · rename_i x ha
          cases hi
          cases r1 with
          | str x t =>
            refine wpAny_pyIter_ascii (by simpa [mkS] using ha) ?_
            have G2 := G1.push { cls := .type "str_ascii_iterator", data := .fields #[.str (mkS x) t, .int 0 0] }
            exact k _ [s1.heap.objs.size] ρ1 _ (x1.trans (.keeps fun _ _ e => Heap.get?_push_of_some _ e)) G2 (.chr x 0 _ t ⟨_, Heap.get?_push_size _ rfl, rfl, rfl⟩) nw no
        · cases hi
      · cases hi
theorem rng_iter {a b : Int} {t u v : Tok} {r : Addr} {Q : Value → Shared → Prop} (G : Good B ρ hp s) (hr : IsRange s.heap r a b 1 t u v) (ha : a.natAbs < 1000000) (hb : b.natAbs < 1000000)
    (k : ∀ s', Ext ρ s.heap ρ s'.heap [] → Good B ρ hp s' → ItR s'.heap ρ (.rng a (b - a).toNat) s.heap.objs.size [s.heap.objs.size] → Q (.ref s.heap.objs.size) s') : wpAny (model B.prog B.w) A (pyIter (.ref r)) Q E s := by
  refine wpAny_pyIter_range hr (small_one (by omega) (by omega) (by omega) (by omega)) ?_
  refine k _ (.keeps fun _ _ e => Heap.get?_push_of_some _ e) (G.push _) (.rng a _ _ ?_)
  have e : Builtin.Range.rangeSize a b 1 = (((b - a).toNat : Nat) : Int) := by
    rw [rangeSize_one]; split <;> omega
  rw [e]
  exact Heap.get?_push_size _ rfl
theorem snd_irange {x : Str} {p pos : Pos} {es : List PySem.Expr} {l : ML} (Sf : SndE B d Γ (.Name x p) (fun _ hp => some (.fix (.type "range"), hp))) (Sl : SndL B d Γ es l) (hpl : plainArgs es := by intro _ _; rfl) :
    SndI B d Γ (.Call (.Name x p) es [] pos) (iRange l) := by
  intro env loc hp it hp' ρ s hm G F A Q E hA k
  unfold iRange at hm
  split at hm
  · cases hm
  · rename_i vs hp1 h1
    split at hm
    · cases hm
    · rename_i it' hi
      cases hm
      refine wpAny_Call_NameR (Sf.run rfl G F hA fun u ρ0 s0 x0 G0 F0 r0 => ?_)
      cases r0
      refine callWith_ok (.type "range") (hpl env pos) (Sl env loc _ vs _ ρ0 s0 pos h1 G0 F0 A _ _ hA fun us ρ1 s1 x1 G1 r1 => ⟨G1.keep, ?_⟩)
      have fin : ∀ {a b : Int} {t u v : Tok} {r : Addr} {s2 : Shared}, Ext ρ1 s1.heap ρ1 s2.heap [] → Good B ρ1 hp' s2 → IsRange s2.heap r a b 1 t u v → a.natAbs < 1000000 → b.natAbs < 1000000 → it = .rng a (b - a).toNat →
          wpAny (model B.prog B.w) A (pyIter (.ref r)) Q E s2 := by
        intro a b t u v r s2 x2 G2 hr ha hb e
        subst e
        refine rng_iter G2 hr ha hb fun s3 x3 G3 R3 => k _ _ ρ1 s3 (x0.trans (x1.trans (x2.trans x3))) G3 R3 ?_ ?_
        · intro c hc
          rw [List.mem_singleton.mp hc]
          exact (x0.trans (x1.trans x2)).back (get?_size _)
        · intro c hc
          rw [List.mem_singleton.mp hc]
          exact G2.size_out (Nat.le_refl _)
      unfold rngOf at hi
      split at hi
      · rename_i n
        split at hi
        · rename_i hn
          cases hi
          cases r1 with
          | cons ra r1 =>
            cases r1
            cases ra with
            | int _ t =>
              refine call_range_1 ?_
              have G2 := (G1.push { cls := .type "range", data := .fields #[.int 0 s1.toks, .int n t, .int 1 (s1.toks + 1)] }).tok (s1.toks + 1 + 1)
              exact fin (.keeps fun _ _ e => Heap.get?_push_of_some _ e) G2 (IsRange.new ..) (by decide) hn (by simp)
        · cases hi
      · rename_i a b
        split at hi
        · rename_i hn
          cases hi
          cases r1 with
          | cons ra r1 => cases r1 with
            | cons rb r1 =>
              cases r1
              cases ra with
              | int _ t => cases rb with
                | int _ t' =>
                  refine call_range_2 ?_
                  have G2 := (G1.push { cls := .type "range", data := .fields #[.int a t, .int b t', .int 1 s1.toks] }).tok (s1.toks + 1)
                  exact fin (.keeps fun _ _ e => Heap.get?_push_of_some _ e) G2 (IsRange.new ..) hn.1 hn.2 rfl
        · cases hi
      · cases hi
theorem snd_ienum {x : Str} {p pos : Pos} {es : List PySem.Expr} {l : ML} (Sf : SndE B d Γ (.Name x p) (fun _ hp => some (.fix (.type "enumerate"), hp))) (Sl : SndL B d Γ es l) (hpl : plainArgs es := by intro _ _; rfl) :
    SndI B d Γ (.Call (.Name x p) es [] pos) (iEnum l) := by
  intro env loc hp it hp' ρ s hm G F A Q E hA k
  unfold iEnum at hm
  split at hm
  · cases hm
  · rename_i vs hp1 h1
    split at hm
    · cases hm
    · rename_i it' hi
      cases hm
      refine wpAny_Call_NameR (Sf.run rfl G F hA fun u ρ0 s0 x0 G0 F0 r0 => ?_)
      cases r0
      refine callWith_ok (.type "enumerate") (hpl env pos) (Sl env loc _ vs _ ρ0 s0 pos h1 G0 F0 A _ _ hA fun us ρ1 s1 x1 G1 r1 => ⟨G1.keep, ?_⟩)
      unfold enumOf at hi
      split at hi
      · rename_i i
        split at hi
        · rename_i xs hx
          cases hi
          cases r1 with
          | cons ra r1 =>
            cases r1
            cases ra with
            | ref _ a ea =>
              obtain ⟨vs, hl, hv⟩ := G1.listAt hx ea
              refine call_enumerate_list hl fun h' he hi hz hk => ?_
              refine wpAny_pyIter_enum he ?_
              have G2 : Good B ρ1 hp' { s1 with heap := h' } := G1.keeps (tk := s1.toks) hk
              refine k _ [s1.heap.objs.size + 1, s1.heap.objs.size] ρ1 _ (x0.trans (x1.trans (.keeps hk))) G2 (.enum i 0 _ _ a .none ea he hi (Nat.succ_ne_self _)) ?_ ?_
              · intro c hc
                refine (x0.trans x1).back (get?_big _ ?_)
                rcases List.mem_cons.mp hc with rfl | hc
                · exact Nat.le_succ _
                · rw [List.mem_singleton.mp hc]; exact Nat.le_refl _
              · intro c hc
                refine G1.size_out ?_
                rcases List.mem_cons.mp hc with rfl | hc
                · exact Nat.le_succ _
                · rw [List.mem_singleton.mp hc]; exact Nat.le_refl _
        · cases hi
      · cases hi
end
end Mine
end
section
open PySem PySem.W PyProof.Rows PySem.Spec PySem.Calls
set_option linter.unusedVariables false
namespace Mine
abbrev GF := List MV → List MO → Option (MV × List MO)
noncomputable def intsOf : List MV → Option (List Int)
  | [] => some []
  | .int i :: r => match intsOf r with
    | none => none
    | some l => some (i :: l)
  | _ => none
noncomputable def intL (l : List Int) : List MV := l.map .int
noncomputable def maxI : List Int → Int
  | [] => 0
  | [a] => a
  | a :: l => max a (maxI l)
noncomputable def hexL (n : Nat) : List Nat := 48 :: 120 :: (Nat.toDigits 16 n).map Char.toNat
noncomputable def gAbs : GF := fun vs hp => match vs with
  | [.int i] => some (.int (if i < 0 then -i else i), hp)
  | _ => none
noncomputable def gInt : GF := fun vs hp => match vs with
  | [.int i] => some (.int i, hp)
  | _ => none
noncomputable def gDivmod : GF := fun vs hp => match vs with
  | [.int a, .int b] => if b ≠ 0 ∧ b.natAbs < 1073741824 then some (.tup [.int (a.fdiv b), .int (a.fmod b)], hp) else none
  | _ => none
noncomputable def gChr : GF := fun vs hp => match vs with
  | [.int i] => if 0 ≤ i ∧ i ≤ 0x10FFFF then some (.str [i.toNat], hp) else none
  | _ => none
noncomputable def gHex : GF := fun vs hp => match vs with
  | [.int i] => if 0 ≤ i ∧ i < 2 ^ 64 then some (.str (hexL i.toNat), hp) else none
  | _ => none
noncomputable def gType : GF := fun vs hp => match vs with
  | [.ref i] => match listOf hp i with
    | some _ => some (.fix (.type "list"), hp)
    | none => none
  | [.str _] => some (.fix (.type "str"), hp)
  | _ => none
noncomputable def gLen (sns : List Int) : GF := fun vs hp => match vs with
  | [.ref i] => match listOf hp i with
    | some xs => if xs.length < few then some (.int xs.length, hp) else none
    | none => none
  | [.script] => some (.int sns.length, hp)
  | _ => none
noncomputable def gInts (f : List Int → Option MV) : GF := fun vs hp => match vs with
  | [.ref i] => match listOf hp i with
    | some xs => match intsOf xs with
      | none => none
      | some l => match f l with
        | none => none
        | some v => some (v, hp)
    | none => none
  | _ => none
noncomputable def gMax : GF := gInts fun l => match l with
  | [] => none
  | l => some (.int (maxI l))
noncomputable def gSorted : GF := fun vs hp => match vs with
  | [.ref i] => match listOf hp i with
    | some xs => match intsOf xs with
      | none => none
      | some l => if l.length < 64 then some (.ref hp.length, hp ++ [.list (intL (sortI l))]) else none
    | none => none
  | _ => none
theorem maxI_is : ∀ (l : List Int) (M : Int), M ∈ l → (∀ a ∈ l, a ≤ M) → maxI l = M
  | [a], M, h, _ => (List.mem_singleton.mp h).symm
  | a :: b :: l, M, h, hu => by
    show max a (maxI (b :: l)) = M
    have ha := hu a (List.mem_cons_self ..)
    by_cases hm : M ∈ b :: l
    · rw [maxI_is (b :: l) M hm fun x hx => hu x (List.mem_cons_of_mem _ hx)]
      omega
    · have e : M = a := (List.mem_cons.mp h).resolve_right hm
      subst e
      have key : ∀ (l : List Int), l ≠ [] → (∀ x ∈ l, x ≤ M) → maxI l ≤ M := by
        intro l
        induction l with
        | nil => intro q; exact absurd rfl q
        | cons x r ih =>
          intro _ hx
          cases r with
          | nil => exact hx x (List.mem_cons_self ..)
          | cons y r =>
            have h1 := ih (by simp) fun z hz => hx z (List.mem_cons_of_mem _ hz)
            have h2 := hx x (List.mem_cons_self ..)
            show max x (maxI (y :: r)) ≤ M
            omega
      have := key (b :: l) (by simp) fun x hx => hu x (List.mem_cons_of_mem _ hx)
      omega
theorem hexL_eq {i : Int} (h : 0 ≤ i) : baseText "0x" 16 i = mkS (hexL i.toNat) := by
  rw [baseText_nonneg h]
  have e1 : Str.ofString "" = mkS [] := by kernel_rfl
  have e2 : Str.ofString "0x" = mkS [48, 120] := by kernel_rfl
  have e3 : i.natAbs = i.toNat := by omega
  rw [e1, e2, e3, PySem.W.Fast.ofString_ofList]
  show mkS [] ++ mkS [48, 120] ++ mkS _ = _
  rw [append_mkS, append_mkS]; rfl
theorem hexL_len {n : Nat} (h : n < 2 ^ 64) : (hexL n).length ≤ 18 := by
  have h1 : (Nat.toDigits 16 n).length ≤ 16 := by
    by_cases h0 : n = 0
    · subst h0; decide
    · have := Nat.length_toDigits_le_iff (n := n) (b := 16) (by decide) (k := 16) (by decide)
      exact this.mpr (by omega)
  simp [hexL]; omega
section
variable {B : Base} {d : Nat} {Γ : Ctx} {env : Env} {loc : Loc} {hp hp' : List MO} {ρ : List Addr} {s : Shared} {A : Around} {E : Value → Shared → Prop}
theorem intsAre : ∀ {xs : List MV} {l : List Int} {vs : List Value} {h : Heap} {l₀ : Addr}, intsOf xs = some l → VRL h ρ l₀ xs vs → IntsAre vs l
  | [], l, _, _, _, e, .nil => by cases e; exact .nil
  | x :: xs, l, _, _, _, e, .cons a b => by
    unfold intsOf at e
    split at e
    · cases ‹_ :: _ = []›
    · rename_i hx
      cases hx
      split at e
      · cases e
      · rename_i l' hl
        cases e
        cases a
        exact .cons _ _ (intsAre hl b)
    · cases e
theorem vrl_ints {vs : List Value} {l : List Int} {h : Heap} {l₀ : Addr} (x : IntsAre vs l) : VRL h ρ l₀ (intL l) vs := by
  induction x with
  | nil => exact .nil
  | cons n t _ ih => exact .cons (.int n t) ih
theorem Good.newAt (G : Good B ρ hp s) {h' : Heap} {tk : Nat} {a : Addr} {mo : MO} (hk : ∀ b o, s.heap.get? b = some o → h'.get? b = some o) (hn : s.heap.get? a = none) (hr : OR h' (ρ ++ [a]) B.l₀ mo a) :
    Good B (ρ ++ [a]) (hp ++ [mo]) { s with heap := h', toks := tk } ∧ Ext ρ s.heap (ρ ++ [a]) h' [] := by
  have x : Ext ρ s.heap (ρ ++ [a]) h' [] :=
    ⟨⟨_, rfl, fun b hb => by rw [List.mem_singleton.mp hb]; exact hn⟩, fun b o' e _ _ => hk b o' e, fun b o' e _ => ⟨o', hk b o' e⟩⟩
  have hout : a ∉ ρ := fun hm => by
    obtain ⟨o, e⟩ := G.alive hm
    rw [hn] at e; cases e
  refine ⟨⟨?_, ?_, ?_, ?_, ?_, ?_⟩, x⟩
  · obtain ⟨h, t, e⟩ := G.same
    exact ⟨h', tk, by rw [e]⟩
  · exact fun b o' e => hk b o' (G.keep b o' e)
  · intro b hb
    rcases List.mem_append.mp hb with q | q
    · exact G.fresh b q
    · rw [List.mem_singleton.mp q]
      cases e : B.s₀.heap.get? a with
      | none => rfl
      | some o' => rw [G.keep _ _ e] at hn; cases hn
  · rw [List.nodup_append]
    exact ⟨G.nd, List.nodup_cons.mpr ⟨List.not_mem_nil, List.nodup_nil⟩, fun b hb c hc e => hout (by rw [List.mem_singleton.mp hc] at e; exact e ▸ hb)⟩
  · simp [G.len]
  · intro i mo' b e1 e2
    by_cases hi : i < hp.length
    · rw [List.getElem?_append_left hi] at e1
      rw [List.getElem?_append_left (G.len ▸ hi)] at e2
      exact (G.ok i mo' b e1 e2).ext x G.nt .nil fun o e => hk b o e
    · have hi' : i = hp.length := by
        have := (List.getElem?_eq_some_iff.mp e1).1
        rw [List.length_append] at this
        simp at this; omega
      subst hi'
      rw [List.getElem?_append_right (Nat.le_refl _), Nat.sub_self] at e1
      rw [List.getElem?_append_right (by rw [G.len]; exact Nat.le_refl _), G.len, Nat.sub_self] at e2
      cases e1; cases e2
      exact hr
theorem Good.last (G : Good B ρ hp s) (a : Addr) : (ρ ++ [a])[hp.length]? = some a := by
  rw [List.getElem?_append_right (by rw [G.len]; exact Nat.le_refl _), G.len, Nat.sub_self]; rfl
theorem Good.newListAt (G : Good B ρ hp s) {h' : Heap} {tk : Nat} {a : Addr} {xs : List MV} {vs : List Value} (hk : ∀ b o, s.heap.get? b = some o → h'.get? b = some o) (hn : s.heap.get? a = none)
    (hl : LIs h' a vs) (hv : VRL s.heap ρ B.l₀ xs vs) : Good B (ρ ++ [a]) (hp ++ [.list xs]) { s with heap := h', toks := tk } ∧ Ext ρ s.heap (ρ ++ [a]) h' [] ∧ VR h' (ρ ++ [a]) B.l₀ (.ref hp.length) (.ref a) := by
  have x : Ext ρ s.heap (ρ ++ [a]) h' [] :=
    ⟨⟨_, rfl, fun b hb => by rw [List.mem_singleton.mp hb]; exact hn⟩, fun b o' e _ _ => hk b o' e, fun b o' e _ => ⟨o', hk b o' e⟩⟩
  obtain ⟨h1, h2⟩ := G.newAt (tk := tk) hk hn (.list xs vs a hl (G.vrl x .nil hv))
  exact ⟨h1, h2, .ref _ _ (G.last a)⟩
theorem call_abs : CallOk B d (.builtin "abs") gAbs := by
  intro vs hp v hp' ρ s us hm G r A Q E hA k
  unfold gAbs at hm
  split at hm
  · cases hm
    cases r with
    | cons ra r =>
      cases r; cases ra with
      | int i t => exact call_abs_int fun u tk => k _ ρ _ .refl (G.tok tk) (.int _ _)
  · cases hm
theorem call_int : CallOk B d (.type "int") gInt := by
  intro vs hp v hp' ρ s us hm G r A Q E hA k
  unfold gInt at hm
  split at hm
  · cases hm
    cases r with
    | cons ra r =>
      cases r; cases ra with
      | int i t => exact PySem.call_int_int (k _ ρ _ .refl G (.int _ _))
  · cases hm
theorem call_divmod : CallOk B d (.builtin "divmod") gDivmod := by
  intro vs hp v hp' ρ s us hm G r A Q E hA k
  unfold gDivmod at hm
  split at hm
  · rename_i a b
    split at hm
    · rename_i h
      cases hm
      cases r with
      | cons ra r => cases r with
        | cons rb r =>
          cases r; cases ra; cases rb
          refine divmod_int h.1 ?_ (.inl (PyProof.noPylong_small h.2))
          obtain ⟨G', x, rr⟩ := (G.tok (s.toks + 1 + 1)).newTup (xs := [.int (a.fdiv b), .int (a.fmod b)]) (vs := [.int (a.fdiv b) s.toks, .int (a.fmod b) (s.toks + 1)]) (.cons (.int _ _) (.cons (.int _ _) .nil)) rfl
          exact k _ ρ _ x G' rr
    · cases hm
  · cases hm
theorem call_chr : CallOk B d (.builtin "chr") gChr := by
  intro vs hp v hp' ρ s us hm G r A Q E hA k
  unfold gChr at hm
  split at hm
  · rename_i i
    split at hm
    · rename_i h
      cases hm
      cases r with
      | cons ra r =>
        cases r; cases ra with
        | int i t =>
          refine PySem.P.chr_of_int (by simp; omega) ?_
          exact k _ ρ _ .refl (G.tok _) (.str [i.toNat] _)
    · cases hm
  · cases hm
theorem call_hex : CallOk B d (.builtin "hex") gHex := by
  intro vs hp v hp' ρ s us hm G r A Q E hA k
  unfold gHex at hm
  split at hm
  · rename_i i
    split at hm
    · rename_i h
      cases hm
      cases r with
      | cons ra r =>
        cases r; cases ra with
        | int _ t =>
          refine PySem.P.hex_of_int ?_ ?_
          · rw [hexL_eq h.1]
            exact k _ ρ _ .refl (G.tok _) (.str _ _)
          · rw [hexL_eq h.1, strLen_mkS]
            exact Nat.le_trans (hexL_len (by omega)) (by decide)
    · cases hm
  · cases hm
theorem call_type : CallOk B d (.type "type") gType := by
  intro vs hp v hp' ρ s us hm G r A Q E hA k
  unfold gType at hm
  split at hm
  · rename_i i
    split at hm
    · rename_i xs hx
      cases hm
      cases r with
      | cons ra r =>
        cases r; cases ra with
        | ref _ a ea =>
          obtain ⟨vs, ⟨n, e⟩, _⟩ := G.listP hx ea
          exact call_type_of (Tx := "list") ⟨_, e, rfl⟩ (by decide) (k _ ρ _ .refl G (.fix _))
    · cases hm
  · rename_i x
    cases hm
    cases r with
    | cons ra r =>
      cases r; cases ra with
      | str _ t => exact call_type_of (Tx := "str") (typeIs_str s _ t) (by decide) (k _ ρ _ .refl G (.fix _))
  · cases hm
theorem call_len (O : B.Ok) : CallOk B d (.builtin "len") (gLen B.sns) := by
  intro vs hp v hp' ρ s us hm G r A Q E hA k
  unfold gLen at hm
  split at hm
  · rename_i i
    split at hm
    · rename_i xs hx
      split at hm
      · rename_i hf
        cases hm
        cases r with
        | cons ra r =>
          cases r; cases ra with
          | ref _ a ea =>
            obtain ⟨vs, hl, hv⟩ := G.listAt hx ea
            have e : (⟨vs⟩ : Array Value).size = xs.length := hv.length.symm
            refine PyProof.Rows.len_list hl (by rw [e]; unfold few at hf; omega) ?_
            rw [e]
            exact k _ ρ _ .refl (G.tok _) (.int _ _)
      · cases hm
    · cases hm
  · cases hm
    cases r with
    | cons ra r =>
      cases r; cases ra with
      | script =>
        have hl : s.heap.IsList B.l₀ B.svs.toArray := by
          obtain ⟨o, e, r⟩ := O.islist
          exact ⟨o, G.keep _ _ e, r⟩
        have e : B.svs.toArray.size = B.sns.length := by simp [O.areInts.length]
        refine PyProof.Rows.len_list hl (by rw [e]; have := O.few; omega) ?_
        rw [e]
        exact k _ ρ _ .refl (G.tok _) (.int _ _)
  · cases hm
theorem intsItems {vs : List Value} {l : List Int} (h : IntsAre vs l) : ∃ xs : Array (Int × Tok), (⟨vs⟩ : Array Value) = intItems xs ∧ xs.toList.map (·.1) = l := by
  induction h with
  | nil => exact ⟨#[], by simp [intItems], rfl⟩
  | cons n t _ ih =>
    obtain ⟨xs, e, e'⟩ := ih
    refine ⟨⟨(n, t) :: xs.toList⟩, ?_, by simp [e']⟩
    have := congrArg Array.toList e
    simp only [intItems, Array.toList_map] at this
    simp only [intItems]
    apply Array.ext'
    simp [this]
theorem gInts_ok {f : List Int → Option MV} {f' : Value} (hf : ∀ {l : List Int} {v : MV} {A : Around} {E : Value → Shared → Prop} {s : Shared} {a : Addr} {xs : Array (Int × Tok)} {Q : Value → Shared → Prop}, f l = some v → A.handled = none → s.heap.IsList a (intItems xs) → xs.toList.map (·.1) = l →
    (∀ u h' tk, (∀ ρ h l₀, VR h ρ l₀ v u) → (∀ b o, s.heap.get? b = some o → h'.get? b = some o) → Q u { s with heap := h', toks := tk }) → wpAny (model B.prog B.w) A (call f' [.ref a]) Q E s) : CallOk B d f' (gInts f) := by
  intro vs hp v hp' ρ s us hm G r A Q E hA k
  unfold gInts at hm
  split at hm
  · rename_i i
    split at hm
    · rename_i xs hx
      split at hm
      · cases hm
      · rename_i l hl
        split at hm
        · cases hm
        · rename_i v' hv
          cases hm
          cases r with
          | cons ra r =>
            cases r; cases ra with
            | ref _ a ea =>
              obtain ⟨vs, hl', hvs⟩ := G.listAt hx ea
              obtain ⟨ys, e1, e2⟩ := intsItems (intsAre hl hvs)
              rw [e1] at hl'
              exact hf hv hA.handled hl' e2 fun u h' tk r hk => k u ρ _ (.keeps hk) (G.keeps hk) (r _ _ _)
    · cases hm
  · cases hm
theorem call_max : CallOk B d (.builtin "max") gMax := by
  refine gInts_ok fun {l v A E s a xs Q} hv hh hl e k => ?_
  have hne : 0 < xs.size := by
    cases l with
    | nil => cases hv
    | cons y l =>
      have := congrArg List.length e
      simp at this; omega
  have hv' : v = .int (maxI l) := by
    cases l with
    | nil => cases hv
    | cons y l => cases hv; rfl
  subst hv'
  refine max_intList hh hl hne fun u h' tk hu hk => ?_
  obtain ⟨t, rfl⟩ := intItems_at hu
  obtain ⟨h1, h2⟩ := argBest_gt (numAt xs) (xs.size - 1)
  have : maxI l = numAt xs (argBest (fun i j => decide (numAt xs i > numAt xs j)) (xs.size - 1)) := by
    refine maxI_is l _ ?_ fun a ha => ?_
    · rw [← e, numAt_eq]; exact PySem.getD_mem (by rw [List.length_map, Array.length_toList]; omega)
    · rw [← e] at ha
      obtain ⟨j, hj, rfl⟩ := mem_getD ha
      rw [← numAt_eq]
      rw [List.length_map, Array.length_toList] at hj
      exact h2 j (by omega)
  rw [← this]
  exact k _ _ _ (fun _ _ _ => .int _ _) hk
theorem call_sorted : CallOk B d (.builtin "sorted") gSorted := by
  intro vs hp v hp' ρ s us hm G r A Q E hA k
  unfold gSorted at hm
  split at hm
  · rename_i i
    split at hm
    · rename_i xs hx
      split at hm
      · cases hm
      · rename_i l hl
        split at hm
        · rename_i h64
          cases hm
          cases r with
          | cons ra r =>
            cases r; cases ra with
            | ref _ a ea =>
              obtain ⟨vs, hl', hvs⟩ := G.listAt hx ea
              have hi := intsAre hl hvs
              refine sorted_ints (vs := vs) hl' hi (by rw [hi.length]; exact h64) fun out ns' a1 a2 a3 => ?_
              have e := eq_sortI a2 a3
              subst e
              obtain ⟨ep, he⟩ := sortedAll_at s.heap vs out
              obtain ⟨G', x, r⟩ := G.newListAt (tk := s.toks) (xs := intL (sortI l)) (vs := out.toList) (fun b o q => sortedAll_old q) (get?_big _ (Nat.le_succ _)) ⟨ep, he⟩ (vrl_ints a1)
              exact k _ _ _ x G' r
        · cases hm
    · cases hm
  · cases hm
end
end Mine
end
section
open PySem PySem.W PyProof.Rows PySem.Spec PySem.Calls
set_option linter.unusedVariables false
namespace Mine
structure FunIs (B : Base) (a : Addr) (fd : FuncData) (Γ : Ctx) (body : List PySem.Stmt) : Prop where
  at_ : ∃ o, B.s₀.heap.get? a = some o ∧ o.data = .func fd
  code : B.s₀.heap.CodeRec fd.code fd.qualname
  bodyIs : fd.body = .stmts body
  clo : fd.closure = []
  co : fd.scope.isCoroutine = false
  gen : fd.scope.isGenerator = false
  kind : fd.scope.kind = .function
  glob : fd.globals = mainGlobals
  blt : fd.builtins = builtinsNs
  sc : fd.scope.names = Γ.sc
  nofree : (Γ.sc.all fun p => p.2 != .free) = true
  keys : (Γ.sc.map (·.1)).Nodup
  tbl : (Γ.tbl.all fun x => Γ.sc.lookup x == some .local || Γ.sc.lookup x == some .cell) = true
  tnd : Γ.tbl.Nodup
noncomputable def outOf (r : Option (MFlow × Loc × List MO)) : Option (MV × List MO) := match r with
  | some (.ret v, _, hp') => some (v, hp')
  | some (.next, _, hp') => some (.none, hp')
  | _ => none
noncomputable def loc0 (vs : List MV) (k : Nat) : Loc := vs.map some ++ List.replicate k none
theorem cells_keep {x : Str} : ∀ (names : List (Str × NameKind)) (n : Nat) (acc : List (Str × Addr)), (acc.lookup x).isSome = true → ((cellsFrom n names acc).lookup x).isSome = true
  | [], _, _, h => h
  | (y, k) :: r, n, acc, h => by
    unfold cellsFrom
    split
    · refine cells_keep r _ _ ?_
      rw [List.lookup_cons]
      split
      · rfl
      · exact h
    · exact cells_keep r _ _ h
theorem cells_has {x : Str} : ∀ (names : List (Str × NameKind)) (n : Nat) (acc : List (Str × Addr)), (x, NameKind.cell) ∈ names → ((cellsFrom n names acc).lookup x).isSome = true
  | (y, k) :: r, n, acc, h => by
    unfold cellsFrom
    rcases List.mem_cons.mp h with e | h
    · cases e
      rw [if_pos (by rfl)]
      exact cells_keep r _ _ (by rw [List.lookup_cons_self]; rfl)
    · split
      · exact cells_has r _ _ h
      · exact cells_has r _ _ h
theorem cells_nodup : ∀ (names : List (Str × NameKind)) (n : Nat) (acc : List (Str × Addr)), (acc.map (·.1)).Nodup → (names.map (·.1)).Nodup → (∀ x ∈ acc.map (·.1), x ∉ names.map (·.1)) → ((cellsFrom n names acc).map (·.1)).Nodup
  | [], _, _, h, _, _ => h
  | (y, k) :: r, n, acc, h, hn, ha => by
    have h1 := List.nodup_cons.mp hn
    unfold cellsFrom
    split
    · refine cells_nodup r _ _ ?_ h1.2 ?_
      · exact List.nodup_cons.mpr ⟨fun q => ha y q (List.mem_cons_self ..), h⟩
      · intro x hx q
        rcases List.mem_cons.mp hx with e | hx
        · exact h1.1 (by rw [← e]; exact q)
        · exact ha x hx (List.mem_cons_of_mem _ q)
    · exact cells_nodup r _ _ h h1.2 fun x hx q => ha x hx (List.mem_cons_of_mem _ q)
theorem lookup_of_mem {α : Type} {x : Str} {c : α} : ∀ {l : List (Str × α)}, (l.map (·.1)).Nodup → (x, c) ∈ l → l.lookup x = some c
  | (y, k) :: r, h, hm => by
    have h1 := List.nodup_cons.mp h
    rw [List.lookup_cons]
    rcases List.mem_cons.mp hm with e | hm
    · cases e; simp
    · have : (x == y) = false := by
        rw [beq_eq_false_iff_ne]
        intro e
        exact h1.1 (List.mem_map.mpr ⟨(x, c), hm, e⟩)
      rw [this]
      exact lookup_of_mem h1.2 hm
theorem bindL_skip {kf : Str → Option NameKind} {x : Str} : ∀ (binds : List (Str × Value)) (m : Str → Option Value), x ∉ binds.map (·.1) → bindL kf binds m x = m x
  | [], _, _ => rfl
  | (y, v) :: r, m, h => by
    unfold bindL
    rw [bindL_skip r _ fun q => h (List.mem_cons_of_mem _ q)]
    split
    · show (if x = y then some v else m x) = m x
      rw [if_neg (show ¬ x = y from fun e => h (by rw [e]; exact List.mem_cons_self ..))]
    · rfl
theorem bindL_get {kf : Str → Option NameKind} {x : Str} {u : Value} : ∀ (binds : List (Str × Value)) (m : Str → Option Value), (binds.map (·.1)).Nodup → (x, u) ∈ binds → kf x = some .local → bindL kf binds m x = some u
  | (y, v) :: r, m, hn, hm, hk => by
    have h1 := List.nodup_cons.mp hn
    unfold bindL
    rcases List.mem_cons.mp hm with e | hm
    · cases e
      rw [bindL_skip r _ h1.1, if_pos hk, if_pos rfl]
    · exact bindL_get r _ h1.2 hm hk
theorem bindC_skip {kf : Str → Option NameKind} {x : Str} : ∀ (binds : List (Str × Value)) (m : Str → Option Value), x ∉ binds.map (·.1) → bindC kf binds m x = m x
  | [], _, _ => rfl
  | (y, v) :: r, m, h => by
    unfold bindC
    rw [bindC_skip r _ fun q => h (List.mem_cons_of_mem _ q)]
    split
    · rfl
    · show (if x = y then some v else m x) = m x
      rw [if_neg (show ¬ x = y from fun e => h (by rw [e]; exact List.mem_cons_self ..))]
theorem bindC_get {kf : Str → Option NameKind} {x : Str} {u : Value} : ∀ (binds : List (Str × Value)) (m : Str → Option Value), (binds.map (·.1)).Nodup → (x, u) ∈ binds → kf x = some .cell → bindC kf binds m x = some u
  | (y, v) :: r, m, hn, hm, hk => by
    have h1 := List.nodup_cons.mp hn
    unfold bindC
    rcases List.mem_cons.mp hm with e | hm
    · cases e
      rw [bindC_skip r _ h1.1, if_neg (by rw [hk]; decide), if_pos rfl]
    · exact bindC_get r _ h1.2 hm hk
section
variable {B : Base} {d : Nat} {Γ : Ctx} {env : Env} {loc : Loc} {hp hp' : List MO} {ρ : List Addr} {s : Shared} {A : Around} {E : Value → Shared → Prop}
theorem loc0_at {vs : List MV} {k i : Nat} {v : MV} (h : (loc0 vs k)[i]? = some (some v)) : vs[i]? = some v := by
  unfold loc0 at h
  by_cases hi : i < vs.length
  · rw [List.getElem?_append_left (by simpa using hi)] at h
    rw [List.getElem?_map] at h
    cases e : vs[i]? with
    | none => rw [e] at h; cases h
    | some y => rw [e] at h; cases h; rfl
  · rw [List.getElem?_append_right (by simpa using hi)] at h
    rw [List.getElem?_replicate] at h
    split at h <;> cases h
theorem run_fun {a : Addr} {fd : FuncData} {body : List PySem.Stmt} {m : MS} {args : Args} {vs : List MV} {names : List Str} {k : Nat} {v : MV} {hp1 : List MO} (O : B.Ok) (Fn : FunIs B a fd Γ body) (S : SndS B d Γ body m) (G : Good B ρ hp s) (hA : AOK (d + 1) A)
    (hnames : Γ.tbl.take names.length = names) (hlen : vs.length = names.length) (hm : outOf (m (loc0 vs k) hp1) = some (v, hp'))
    (hbind : ∀ (A : Around) (Q : List (Str × Value) → Shared → Prop) (E : Value → Shared → Prop), AOK d A → (∀ us ρ1 s1, Ext ρ s.heap ρ1 s1.heap [] → Good B ρ1 hp1 s1 → VRL s1.heap ρ1 B.l₀ vs us → Q (names.zip us) s1) → wpAny (model B.prog B.w) A (bindArgs fd args) Q E s)
    {R : Result → Shared → Prop} (k' : ∀ u ρ' s', Ext ρ s.heap ρ' s'.heap [] → Good B ρ' hp' s' → VR s'.heap ρ' B.l₀ v u → R (.ok (.ret u)) s') : codeAny (model B.prog B.w) A (.call (.ref a) args) R s := by
  obtain ⟨o, ho, hd⟩ := Fn.at_
  refine codeAny_call_function hA.room (G.keep _ _ ho) hd Fn.co Fn.gen Fn.bodyIs (Fn.code.keeps G.keep) ?_
  refine hbind _ _ _ hA.in1 fun us ρ1 s1 x1 G1 r1 => ?_
  have hlu : us.length = names.length := by rw [← hlen]; exact r1.length.symm
  have hzl : (names.zip us).length = names.length := by rw [List.length_zip, hlu, Nat.min_self]
  have hzk : (names.zip us).map (·.1) = names := List.map_fst_zip (by rw [hlu]; exact Nat.le_refl _)
  have hnn : names.Nodup := by rw [← hnames]; exact Fn.tnd.sublist (List.take_sublist _ _)
  have ktab : ∀ x ∈ Γ.tbl, Γ.sc.lookup x = some .local ∨ Γ.sc.lookup x = some .cell := fun x hx => by
    have := List.all_eq_true.mp Fn.tbl x hx
    simpa using this
  have cellHas : ∀ x n, Γ.sc.lookup x = some .cell → ((cellsFrom n fd.scope.names []).lookup x).isSome = true := fun x n hx => cells_has _ _ _ (by rw [Fn.sc]; exact mem_of_lookup hx)
  rw [Fn.clo]
  refine wpAny_newFunctionEnv_cells Fn.kind (fun x hx => ?_) fun env he s2 I => ?_
  · have hx1 : x.1 ∈ names := by rw [← hzk]; exact List.mem_map.mpr ⟨x, hx, rfl⟩
    have hx2 : x.1 ∈ Γ.tbl := by rw [← hnames] at hx1; exact List.mem_of_mem_take hx1
    rw [Fn.sc]
    rcases ktab _ hx2 with q | q
    · exact .inl q
    · exact .inr ⟨q, by have := cellHas _ (s1.heap.objs.size + 1) q; rwa [Fn.sc] at this⟩
  have hk : ∀ b o, s1.heap.get? b = some o → s2.heap.get? b = some o := I.toInCall.keep
  have eL : env.locals = s1.heap.objs.size := by rw [he]; rfl
  have eC : env.cells = cellsFrom (s1.heap.objs.size + 1) fd.scope.names [] := by rw [he]; rfl
  have eS : env.scope = fd.scope := by rw [he]; rfl
  have eG : env.globals = fd.globals := by rw [he]; rfl
  have eB : env.builtins = fd.builtins := by rw [he]; rfl
  have G2 : Good B ρ1 hp1 s2 := by
    obtain ⟨h, tk, e⟩ := I.toInCall.same
    subst e
    exact G1.keeps hk
  have x2 : Ext ρ1 s1.heap ρ1 s2.heap [] := .keeps hk
  have above : ∀ c ∈ envW env, s1.heap.objs.size ≤ c := by
    intro c hc
    rcases List.mem_cons.mp hc with rfl | hc
    · rw [eL]; exact Nat.le_refl _
    · obtain ⟨⟨n, c'⟩, hc', rfl⟩ := List.mem_map.mp hc
      have := I.above n c' hc'
      rw [eL] at this
      exact Nat.le_of_lt this
  have r2 : VRL s2.heap ρ1 B.l₀ vs us := G1.vrl x2 .nil r1
  have find : ∀ {i : Nat} {x : Str} {v : MV}, Γ.tbl[i]? = some x → (loc0 vs k)[i]? = some (some v) → ∃ u, (x, u) ∈ names.zip us ∧ VR s2.heap ρ1 B.l₀ v u := by
    intro i x v hi hv
    have hv' := loc0_at hv
    obtain ⟨u, hu, r⟩ := r2.at hv'
    have hil : i < names.length := by rw [← hlen]; exact (List.getElem?_eq_some_iff.mp hv').1
    have hx : names[i]? = some x := by rw [← hnames, List.getElem?_take_of_lt hil]; exact hi
    refine ⟨u, ?_, r⟩
    have : (names.zip us)[i]? = some (x, u) := by rw [List.getElem?_zip_eq_some]; exact ⟨hx, hu⟩
    exact List.mem_of_getElem? this
  have kof : ∀ {x q}, Γ.sc.lookup x = some q → env.kindOf x = some q := fun e => by unfold Env.kindOf; rw [eS, Fn.sc]; exact e
  have nofree : ∀ x, Γ.sc.lookup x ≠ some .free := fun x hx => by
    have := List.all_eq_true.mp Fn.nofree _ (mem_of_lookup hx)
    simp at this
  have F2 : FrR B Γ env (loc0 vs k) ρ1 s2.heap := by
    refine ⟨by rw [eS]; exact Fn.kind, by rw [eS]; exact Fn.sc, by rw [eG]; exact Fn.glob, by rw [eB]; exact Fn.blt, ⟨_, I.toInCall.ns, ?_⟩, ?_, ?_, ?_, ?_, I.apart, ?_, ?_, ?_, Fn.tnd⟩
    · intro i x v hi hv hx
      obtain ⟨u, hu, r⟩ := find hi hv
      exact ⟨u, bindL_get _ _ (by rw [hzk]; exact hnn) hu (kof hx), r⟩
    · intro x hx
      rcases hx with hx | hx
      · have := cellHas x (s1.heap.objs.size + 1) hx
        rw [← eC] at this
        obtain ⟨c, hc⟩ := Option.isSome_iff_exists.mp this
        exact ⟨c, _, hc, I.cell x c hc⟩
      · exact absurd hx (nofree x)
    · intro i x v hi hv hx
      rcases hx with hx | hx
      · obtain ⟨u, hu, r⟩ := find hi hv
        have := cellHas x (s1.heap.objs.size + 1) hx
        rw [← eC] at this
        obtain ⟨c, hc⟩ := Option.isSome_iff_exists.mp this
        have hcell := I.cell x c hc
        rw [bindC_get _ _ (by rw [hzk]; exact hnn) hu (kof hx)] at hcell
        exact ⟨c, u, hc, hcell, r⟩
      · exact absurd hx (nofree x)
    · intro i x hi
      rcases ktab x (List.mem_of_getElem? hi) with q | q
      · exact .inl q
      · exact .inr (.inl q)
    · intro c hc
      refine ⟨_, I.cell c.1 c.2 (lookup_of_mem ?_ hc)⟩
      rw [eC]
      exact cells_nodup _ _ _ List.nodup_nil (by rw [Fn.sc]; exact Fn.keys) fun x hx => nomatch hx
    · intro c hc
      exact Nat.ne_of_lt (I.above c.1 c.2 hc)
    · intro a ha
      exact G1.size_out (above a ha)
    · intro a ha
      cases e : B.s₀.heap.get? a with
      | none => rfl
      | some o' =>
        have := G1.keep a o' e
        rw [get?_big _ (above a ha)] at this; cases this
  refine ⟨O.nolimit.keeps G2.keep, codeAny_func ?_⟩
  have fin : ∀ (ρ3 : List Addr) (s3 : Shared), Ext ρ1 s2.heap ρ3 s3.heap (envW env) → Ext ρ s.heap ρ3 s3.heap [] := by
    intro ρ3 s3 x3
    refine x1.trans ⟨?_, fun b o e h1 h2 => ?_, fun b o e h2 => ?_⟩
    · obtain ⟨m, e, hm⟩ := x3.more
      exact ⟨m, e, fun a ha => x2.back (hm a ha)⟩
    · exact x3.keep b o (hk b o e) h1 fun q => by rw [get?_big _ (above b q)] at e; cases e
    · exact x3.alive b o (hk b o e) fun q => by rw [get?_big _ (above b q)] at e; cases e
  unfold outOf at hm
  split at hm
  · rename_i v' loc' hp2 h1
    cases hm
    refine S env _ hp1 _ loc' hp' ρ1 s2 h1 G2 F2 (A.deeper env) _ _ hA.deeper fun fl ρ3 s3 x3 G3 F3 r3 => ?_
    cases r3 with
    | ret r => exact k' _ ρ3 s3 (fin _ _ x3) G3 r
  · rename_i loc' hp2 h1
    cases hm
    refine S env _ hp1 _ loc' hp' ρ1 s2 h1 G2 F2 (A.deeper env) _ _ hA.deeper fun fl ρ3 s3 x3 G3 F3 r3 => ?_
    cases r3
    exact k' _ ρ3 s3 (fin _ _ x3) G3 .none
  · cases hm
end
end Mine
end
section
open PySem PySem.W PyProof.Rows PySem.Spec PySem.Calls
set_option linter.unusedVariables false
namespace Mine
noncomputable def atI {α : Type} (xs : List α) (k : Int) : Option α := match seqIndex? k xs.length with
  | none => none
  | some j => xs[j]?
noncomputable def pickL {α : Type} (xs : List α) (lo hi st : Option Int) : List α :=
  (sliceRange (sliceBounds lo hi st xs.length).1 (sliceBounds lo hi st xs.length).2.1 (sliceBounds lo hi st xs.length).2.2).filterMap (xs[·]?)
noncomputable def subMV (a i : MV) (hp : List MO) : Option MV := match a, i with
  | .ref n, .int k => match listOf hp n with
    | none => none
    | some xs => if k.natAbs < few then atI xs k else none
  | .tup xs, .int k => if k.natAbs < few then atI xs k else none
  | .str x, .int k => if k.natAbs < few then (match atI x k with | some c => some (.str [c]) | none => none) else none
  | _, _ => none
noncomputable def mSub (m1 m2 : ME) : ME := fun loc hp => match m1 loc hp with
  | none => none
  | some (a, hp1) => match m2 loc hp1 with
    | none => none
    | some (b, hp2) => match subMV a b hp2 with
      | none => none
      | some v => some (v, hp2)
abbrev MP := Loc → List MO → Option (Option Int × List MO)
noncomputable def pNone : MP := fun _ hp => some (none, hp)
noncomputable def pInt (m : ME) : MP := fun loc hp => match m loc hp with
  | some (.int i, hp1) => some (some i, hp1)
  | _ => none
noncomputable def cutMV (sns : List Int) (a : MV) (lo hi st : Option Int) (hp : List MO) : Option (MV × List MO) := if st = some 0 then none else match a with
  | .ref n => match listOf hp n with
    | none => none
    | some xs => if xs.length ≤ few then some (.ref hp.length, hp ++ [.list (pickL xs lo hi st)]) else none
  | .script => some (.ref hp.length, hp ++ [.list (pickL (intL sns) lo hi st)])
  | .bytes x => match st with
    | some _ => none
    | none => if x.length ≤ few then some (.bytes ((x.drop (lo.elim 0 (clipAt x.length))).take (hi.elim x.length (clipAt x.length) - lo.elim 0 (clipAt x.length))), hp) else none
  | _ => none
noncomputable def mCut (sns : List Int) (m : ME) (p1 p2 p3 : MP) : ME := fun loc hp => match m loc hp with
  | none => none
  | some (a, hp1) => match p1 loc hp1 with
    | none => none
    | some (lo, hp2) => match p2 loc hp2 with
      | none => none
      | some (hi, hp3) => match p3 loc hp3 with
        | none => none
        | some (st, hp4) => cutMV sns a lo hi st hp4
section
variable {B : Base} {d : Nat} {Γ : Ctx} {env : Env} {loc : Loc} {hp hp' : List MO} {ρ : List Addr} {s : Shared} {A : Around} {E : Value → Shared → Prop}
theorem VRL.pick {h : Heap} {l₀ : Addr} {xs : List MV} {vs : List Value} (r : VRL h ρ l₀ xs vs) : ∀ js : List Nat, VRL h ρ l₀ (js.filterMap (xs[·]?)) (js.filterMap (vs[·]?))
  | [] => .nil
  | j :: js => by
    have ih := r.pick js
    rw [List.filterMap_cons, List.filterMap_cons]
    cases e : xs[j]? with
    | none =>
      have : vs[j]? = none := by
        rw [List.getElem?_eq_none_iff] at e ⊢
        rw [← r.length]; exact e
      rw [this]; exact ih
    | some x =>
      obtain ⟨u, hu, q⟩ := r.at e
      rw [hu]; exact .cons q ih
theorem slicePick_eq (vs : List Value) (lo hi st : Option Int) : slicePick ⟨vs⟩ lo hi st = ⟨pickL vs lo hi st⟩ := by
  unfold slicePick pickL
  simp
theorem VRL.pickL {h : Heap} {l₀ : Addr} {xs : List MV} {vs : List Value} (r : VRL h ρ l₀ xs vs) (lo hi st : Option Int) : VRL h ρ l₀ (pickL xs lo hi st) (pickL vs lo hi st) := by
  unfold Mine.pickL
  rw [r.length]; exact r.pick _
theorem sub_tail {value slice : PySem.Expr} {o i : Value} {T id : String} {Q : Value → Shared → Prop} (hT : s.TypeIs o T) (hl : typeLookup (.type T) "__getitem__" = pure (some (.builtin id)))
    (h : wpAny (model B.prog B.w) A (getItem o i) Q E s) : wpAny (model B.prog B.w) A (do
      let r ← subscripted slice (← getitemInPython o) o i
      letTemporaryGo value o r
      pure r) Q E s := by
  refine wpAny_bind ?_
  rw [getitemInPython_of_ne hT.not_modules]
  refine wpAny_bind (wpAny_specialOf hT hl ?_)
  have hs : ∃ l, subscripted slice false o i = operate l (getItem o i) := by
    unfold subscripted
    split
    · exact ⟨_, rfl⟩
    · cases ‹false = true›
    · exact ⟨_, rfl⟩
  obtain ⟨l, hs⟩ := hs
  have fin : wpAny (model B.prog B.w) A (subscripted slice false o i) (fun r s₃ => wpAny (model B.prog B.w) A (letTemporaryGo value o r >>= fun _ => pure r) Q E s₃) E s := by
    rw [hs]
    exact wpAny_operating (wpAny_mono h (fun r s₃ h₃ => wpAny_bind (wpAny_letTemporaryGo (wpAny_pure h₃))) fun _ _ x => x)
  first
    | exact wpAny_pure (wpAny_bind fin)
    | exact wpAny_bind (wpAny_pure (wpAny_bind fin))
    | exact wpAny_bind fin
theorem atI_in {α : Type} {xs : List α} {k : Int} {x : α} (h : atI xs k = some x) : ∃ j, seqIndex? k xs.length = some j ∧ xs[j]? = some x := by
  unfold atI at h
  split at h
  · cases h
  · rename_i j hj
    exact ⟨j, hj, h⟩
theorem seqIndex_cases {k : Int} {n j : Nat} (h : seqIndex? k n = some j) : (0 ≤ k ∧ j = k.toNat ∧ j < n) ∨ (k < 0 ∧ -(n : Int) ≤ k ∧ j = (k + n).toNat) := by
  unfold seqIndex? at h
  simp only at h
  by_cases hk : k < 0
  · simp only [hk, if_true] at h
    by_cases hc : (decide (0 ≤ k + (n : Int)) && decide (k + (n : Int) < (n : Int))) = true
    · rw [if_pos hc] at h
      have e := Option.some.inj h
      simp only [Bool.and_eq_true, decide_eq_true_eq] at hc
      exact .inr ⟨hk, by omega, e.symm⟩
    · rw [if_neg hc] at h; exact absurd h (by simp)
  · simp only [hk, if_false] at h
    by_cases hc : (decide (0 ≤ k) && decide (k < (n : Int))) = true
    · rw [if_pos hc] at h
      have e := Option.some.inj h
      simp only [Bool.and_eq_true, decide_eq_true_eq] at hc
      exact .inl ⟨by omega, e.symm, by omega⟩
    · rw [if_neg hc] at h; exact absurd h (by simp)
theorem subMV_ok {a i v : MV} {ua ui : Value} (hm : subMV a i hp = some v) (G : Good B ρ hp s) (ra : VR s.heap ρ B.l₀ a ua) (ri : VR s.heap ρ B.l₀ i ui) {value slice : PySem.Expr} {Q : Value → Shared → Prop}
    (k : ∀ u tk, VR s.heap ρ B.l₀ v u → Q u { s with toks := tk }) : wpAny (model B.prog B.w) A (do
      let r ← subscripted slice (← getitemInPython ua) ua ui
      letTemporaryGo value ua r
      pure r) Q E s := by
  have hfew : few < 2 ^ 63 := by decide
  unfold subMV at hm
  split at hm
  · rename_i n kk
    split at hm
    · cases hm
    · rename_i xs hx
      split at hm
      · rename_i hf
        obtain ⟨j, hj, hxj⟩ := atI_in hm
        cases ri
        cases ra with
        | ref _ addr ea =>
          obtain ⟨vs, hl, hv⟩ := G.listAt hx ea
          obtain ⟨u, hu, r⟩ := hv.at hxj
          refine sub_tail hl.typeIs slot_list_getitem.lookup ?_
          rcases seqIndex_cases hj with ⟨h0, rfl, h1⟩ | ⟨h0, h1, rfl⟩
          · exact wpAny_getItem_list hl h0 (by omega) (by simpa using hu) (k u s.toks r)
          · have hsz : (⟨vs⟩ : Array Value).size = xs.length := hv.length.symm
            exact wpAny_getItem_list_neg hl h0 (by rw [hsz]; exact h1) (by omega) (by rw [hsz]; simpa using hu) (k u s.toks r)
      · cases hm
  · rename_i xs kk
    split at hm
    · rename_i hf
      obtain ⟨j, hj, hxj⟩ := atI_in hm
      cases ri
      cases ra with
      | tup _ vs t ht hv =>
        obtain ⟨u, hu, r⟩ := hv.at hxj
        have ht' : IsTup s.heap t ⟨vs⟩ := ht
        refine sub_tail ht'.typeIs PyProof.Rows.slot_tuple_getitem.lookup ?_
        have hsz : (⟨vs⟩ : Array Value).size = xs.length := hv.length.symm
        exact PyProof.Rows.getItem_tuple ht' (by omega) (by omega) (by rw [hsz]; exact hj) (by simpa using hu) (k u s.toks r)
    · cases hm
  · rename_i x kk
    split at hm
    · rename_i hf
      split at hm
      · rename_i c hc
        cases hm
        obtain ⟨j, hj, hxj⟩ := atI_in hc
        cases ri
        cases ra with
        | str _ t =>
          refine sub_tail (typeIs_str s _ t) PyProof.Rows.slot_str_getitem.lookup ?_
          refine PyProof.Rows.getItem_str (c := c) (by simp; omega) ?_ (k _ (s.toks + 1) (.str [c] _))
          rw [strLen_mkS, hj]
          simpa [mkS] using hxj
      · cases hm
    · cases hm
  · cases hm
theorem snd_sub {value slice : PySem.Expr} {pos : Pos} {m1 m2 : ME} (S1 : SndE B d Γ value m1) (S2 : SndE B d Γ slice m2) : SndE B d Γ (.Subscript value slice pos) (mSub m1 m2) := by
  intro env loc hp v hp' ρ s hm G F A Q E hA k
  unfold mSub at hm
  split at hm
  · cases hm
  · rename_i a hp1 h1
    split at hm
    · cases hm
    · rename_i b hp2 h2
      split at hm
      · cases hm
      · rename_i v' h3
        cases hm
        rw [eval_Subscript]
        refine wpAny_bind (S1.run h1 G F hA fun ua ρ1 s1 x1 G1 F1 r1 => wpAny_bind (wpAny_holding (S2.run h2 G1 F1 hA fun ub ρ2 s2 x2 G2 F2 r2 => wpAny_bind (wpAny_standAt ?_))))
        exact subMV_ok h3 G2 (G1.vr x2 .nil r1) r2 fun u tk r => k u ρ2 _ (x1.trans x2) (G2.tok tk) r
/- parts of a slice -/
noncomputable def SndP (B : Base) (d : Nat) (Γ : Ctx) (e : Option PySem.Expr) (m : MP) : Prop :=
  ∀ env loc hp i hp' ρ s, m loc hp = some (i, hp') → Good B ρ hp s → FrR B Γ env loc ρ s.heap →
    ∀ A Q E, AOK d A → (∀ u ρ' s', Ext ρ s.heap ρ' s'.heap [] → Good B ρ' hp' s' → IsPart u i → Q u s') → wpAny (model B.prog B.w) A (evalPart e env) Q E s
theorem snd_pnone : SndP B d Γ none pNone := by
  intro env loc hp i hp' ρ s hm G F A Q E hA k
  cases hm
  exact wpAny_pure (k _ ρ s .refl G .none)
theorem snd_pint {e : PySem.Expr} {m : ME} (S : SndE B d Γ e m) : SndP B d Γ (some e) (pInt m) := by
  intro env loc hp i hp' ρ s hm G F A Q E hA k
  unfold pInt at hm
  split at hm
  · rename_i j hp1 h1
    cases hm
    rw [evalPart_some]
    refine S.run h1 G F hA fun u ρ1 s1 x1 G1 F1 r1 => ?_
    cases r1
    exact k _ ρ1 s1 x1 G1 (.int _ _)
  · cases hm
theorem cutMV_ok {a v : MV} {ua ul uh us : Value} {lo hi st : Option Int} {a' : Addr} (O : B.Ok) (hm : cutMV B.sns a lo hi st hp = some (v, hp')) (G : Good B ρ hp s) (ra : VR s.heap ρ B.l₀ a ua)
    (hs : s.heap.IsSliceOf a' ul uh us) (pl : IsPart ul lo) (pu : IsPart uh hi) (ps : IsPart us st) {value slice : PySem.Expr} : TreeOk B d ρ s (do
      let r ← subscripted slice (← getitemInPython ua) ua (.ref a')
      letTemporaryGo value ua r
      pure r) v hp' := by
  intro A Q E hA k
  unfold cutMV at hm
  split at hm
  · cases hm
  · rename_i h0
    have listCase : ∀ {a : Addr} {xs : List MV} {vs : List Value}, s.heap.IsList a ⟨vs⟩ → VRL s.heap ρ B.l₀ xs vs → xs.length ≤ few → some (MV.ref hp.length, hp ++ [.list (pickL xs lo hi st)]) = some (v, hp') →
        wpAny (model B.prog B.w) A (do
          let r ← subscripted slice (← getitemInPython (.ref a)) (.ref a) (.ref a')
          letTemporaryGo value (.ref a) r
          pure r) Q E s := by
      intro a xs vs hl hv hf hm
      cases hm
      refine sub_tail hl.typeIs slot_list_getitem.lookup ?_
      refine wpAny_getItem_list_slice hl hs pl pu ps h0 ?_ (by
        show vs.length ≤ _
        rw [← hv.length]; exact Nat.le_trans hf few_le)
      rw [slicePick_eq]
      obtain ⟨G', x, r⟩ := G.newList (hv.pickL lo hi st) rfl
      exact k _ _ _ x G' r
    split at hm
    · rename_i n
      split at hm
      · cases hm
      · rename_i xs hx
        split at hm
        · rename_i hf
          cases ra with
          | ref _ addr ea =>
            obtain ⟨vs, hl, hv⟩ := G.listAt hx ea
            exact listCase hl hv hf hm
        · cases hm
    · cases ra with
      | script =>
        have hl : s.heap.IsList B.l₀ ⟨B.svs⟩ := by
          obtain ⟨o, e, r⟩ := O.islist
          exact ⟨o, G.keep _ _ e, r⟩
        exact listCase hl (vrl_ints O.areInts) (by
          have := O.few
          simp only [intL, List.length_map]; unfold few; omega) hm
    · rename_i x
      split at hm
      · cases hm
      · split at hm
        · rename_i hf
          cases hm
          cases ra with
          | bytes _ t =>
            cases ps
            refine sub_tail (typeIs_bytes s _ t) FB.slot_bytes_getitem.lookup ?_
            refine getItem_meets (typeIs_bytes _ _ _) (by decide) FB.slot_bytes_getitem FB.entry_bytes_getitem (FB.args_bytes_getitem_2 _ _) (KBc.meets_slice2 _ t _ pl pu) ⟨hs, ?_, fun t' kk => ?_⟩
            · exact Nat.le_trans (KBc.size_picked_le _ lo hi) (Nat.le_trans hf few_le)
            · rw [KBc.picked_eq]
              exact k _ ρ _ .refl (G.tok kk) (.bytes _ _)
        · cases hm
    · cases hm
theorem snd_cut {value : PySem.Expr} {lo hi st : Option PySem.Expr} {p pos : Pos} {m : ME} {p1 p2 p3 : MP} (O : B.Ok) (S : SndE B d Γ value m) (S1 : SndP B d Γ lo p1) (S2 : SndP B d Γ hi p2) (S3 : SndP B d Γ st p3) :
    SndE B d Γ (.Subscript value (.Slice lo hi st p) pos) (mCut B.sns m p1 p2 p3) := by
  intro env loc hp v hp' ρ s hm G F A Q E hA k
  unfold mCut at hm
  split at hm
  · cases hm
  · rename_i a hp1 h1
    split at hm
    · cases hm
    · rename_i l hp2 h2
      split at hm
      · cases hm
      · rename_i h hp3 h3
        split at hm
        · cases hm
        · rename_i st' hp4 h4
          rw [eval_Subscript]
          refine wpAny_bind (S.run h1 G F hA fun ua ρ1 s1 x1 G1 F1 r1 => wpAny_bind (wpAny_holding (wpAny_Slice ?_)))
          refine S1 env loc hp1 l hp2 ρ1 s1 h2 G1 F1 A _ _ hA fun ul ρ2 s2 x2 G2 pl => ?_
          have F2 := F1.ext G1 x2
          refine S2 env loc hp2 h hp3 ρ2 s2 h3 G2 F2 A _ _ hA fun uh ρ3 s3 x3 G3 ph => ?_
          have F3 := F2.ext G2 x3
          refine S3 env loc hp3 st' hp4 ρ3 s3 h4 G3 F3 A _ _ hA fun us ρ4 s4 x4 G4 ps => ?_
          refine wpAny_bind (wpAny_standAt ?_)
          have x5 : Ext ρ4 s4.heap ρ4 (s4.heap.push { cls := .type "slice", data := .fields #[ul, uh, us] }) [] := .keeps fun _ _ e => Heap.get?_push_of_some _ e
          have r5 := G4.vr x5 .nil (G3.vr x4 .nil (G2.vr x3 .nil (G1.vr x2 .nil r1)))
          refine cutMV_ok (s := { s4 with heap := s4.heap.push { cls := .type "slice", data := .fields #[ul, uh, us] } }) (d := d) O hm (G4.push _) r5 (Heap.IsSliceOf.new _ _ _ _) pl ph ps A Q E hA fun u ρ6 s6 x6 G6 r6 => ?_
          exact k u ρ6 s6 (x1.trans (x2.trans (x3.trans (x4.trans (x5.trans x6))))) G6 r6
end
end Mine
end
section
open PySem PySem.W PyProof.Rows PySem.Spec PySem.Calls
set_option linter.unusedVariables false
namespace Mine
/- the methods of lists and strs -/
noncomputable def isListMV (a : MV) (hp : List MO) : Bool := match a with
  | .ref i => (listOf hp i).isSome
  | _ => false
noncomputable def isStrMV (a : MV) (_ : List MO) : Bool := match a with
  | .str _ => true
  | _ => false
noncomputable def gAppend : GF := fun vs hp => match vs with
  | [.ref i, x] => match listOf hp i with
    | some xs => if xs.length < few then some (.none, hp.set i (.list (xs ++ [x]))) else none
    | none => none
  | _ => none
noncomputable def gExtend : GF := fun vs hp => match vs with
  | [.ref i, .ref j] => match listOf hp i with
    | some xs => match listOf hp j with
      | some ys => if xs.length + ys.length < few then some (.none, hp.set i (.list (xs ++ ys))) else none
      | none => none
    | none => none
  | _ => none
noncomputable def findA (x : MV) : List MV → Option Nat
  | [] => none
  | y :: ys => match eqA y x with
    | none => none
    | some true => some 0
    | some false => match findA x ys with
      | none => none
      | some n => some (n + 1)
noncomputable def okA (x : MV) : List MV → Bool
  | [] => true
  | y :: ys => (eqA y x).isSome && okA x ys
noncomputable def gIndex : GF := fun vs hp => match vs with
  | [.ref i, x] => match listOf hp i with
    | some xs => if okA x xs then (match findA x xs with
      | some n => if n < few then some (.int n, hp) else none
      | none => none) else none
    | none => none
  | _ => none
noncomputable def strsOf : List MV → Option (List (List Nat))
  | [] => some []
  | .str x :: r => match strsOf r with
    | none => none
    | some l => some (x :: l)
  | _ => none
noncomputable def joinTo (sep : List Nat) : List (List Nat) → List Nat
  | [] => []
  | x :: r => sep ++ x ++ joinTo sep r
noncomputable def joinL (sep : List Nat) : List (List Nat) → List Nat
  | [] => []
  | x :: r => x ++ joinTo sep r
noncomputable def lenL : List (List Nat) → Nat
  | [] => 0
  | x :: r => x.length + lenL r
noncomputable def gJoin : GF := fun vs hp => match vs with
  | [.str sep, .ref i] => match listOf hp i with
    | some xs => match strsOf xs with
      | none => none
      | some l => if lenL l + l.length * sep.length ≤ few then some (.str (joinL sep l), hp) else none
    | none => none
  | _ => none
noncomputable def gLower : GF := fun vs hp => match vs with
  | [.str x] => if x.all (fun c => decide (c < 128)) ∧ x.length ≤ few then some (.str (x.map lo1), hp) else none
  | _ => none
noncomputable def occGo (x y : List Nat) (lim : Nat) : List Nat → List Nat → Nat → List Nat
  | [], f, _ => f
  | i :: is, f, free => if f.length < lim ∧ free ≤ i ∧ i + y.length ≤ x.length ∧ (x.drop i).take y.length = y then occGo x y lim is (f ++ [i]) (i + y.length) else occGo x y lim is f free
noncomputable def occL (x y : List Nat) : List Nat := occGo x y (x.length + 1) (List.range' 0 (x.length + 1)) [] 0
noncomputable def splitL (x y : List Nat) : List (List Nat) := (((0 :: (occL x y).map (· + y.length)).zip (occL x y ++ [x.length]))).map fun p => (x.drop p.1).take (p.2 - p.1)
noncomputable def gSplit : GF := fun vs hp => match vs with
  | [.str x, .str y] => if y ≠ [] ∧ y.all (fun c => decide (c < 256)) = true ∧ x.length ≤ few then some (.ref hp.length, hp ++ [.list ((splitL x y).map .str)]) else none
  | _ => none
noncomputable def mMeth (kind : MV → List MO → Bool) (g : GF) (m : ME) (l : ML) : ME := fun loc hp => match m loc hp with
  | none => none
  | some (a, hp1) => match kind a hp1 with
    | false => none
    | true => match l loc hp1 with
      | none => none
      | some (vs, hp2) => g (a :: vs) hp2
section
variable {B : Base} {d : Nat} {Γ : Ctx} {env : Env} {loc : Loc} {hp hp' : List MO} {ρ : List Addr} {s : Shared} {A : Around} {E : Value → Shared → Prop}
theorem Good.setObj (G : Good B ρ hp s) {i : Nat} {a : Addr} {mo : MO} {h' : Heap} {tk : Nat} (e : ρ[i]? = some a) (hk : ∀ b o, b ≠ a → s.heap.get? b = some o → h'.get? b = some o) (hr : OR h' ρ B.l₀ mo a) :
    Good B ρ (hp.set i mo) { s with heap := h', toks := tk } ∧ Ext ρ s.heap ρ h' [] := by
  have ha : a ∈ ρ := List.mem_of_getElem? e
  have x : Ext ρ s.heap ρ h' [] := ⟨⟨[], by simp, fun _ q => nomatch q⟩, fun b o e' h1 _ => hk b o (fun q => h1 (q ▸ ha)) e', fun b o e' _ => by
    by_cases q : b = a
    · subst q; exact hr.alive
    · exact ⟨o, hk b o q e'⟩⟩
  refine ⟨⟨?_, ?_, G.fresh, G.nd, by rw [List.length_set]; exact G.len, ?_⟩, x⟩
  · obtain ⟨h, t, e⟩ := G.same
    exact ⟨h', tk, by rw [e]⟩
  · intro b o e'
    refine hk b o (fun q => ?_) (G.keep b o e')
    rw [q, G.fresh a ha] at e'; cases e'
  · intro j mo' b e1 e2
    by_cases hj : i = j
    · subst hj
      rw [e] at e2; cases e2
      rw [List.getElem?_set_self (by have := (List.getElem?_eq_some_iff.mp e).1; rw [← G.len]; exact this)] at e1
      cases e1; exact hr
    · rw [List.getElem?_set_ne hj] at e1
      refine (G.ok j mo' b e1 e2).ext x G.nt .nil fun o e' => hk b o (fun q => ?_) e'
      subst q
      obtain ⟨h1, e1'⟩ := List.getElem?_eq_some_iff.mp e
      obtain ⟨h2, e2'⟩ := List.getElem?_eq_some_iff.mp e2
      have nd := List.pairwise_iff_getElem.mp G.nd
      rcases Nat.lt_or_gt_of_ne hj with q | q
      · exact nd i j h1 h2 q (e1'.trans e2'.symm)
      · exact nd j i h2 h1 q (e2'.trans e1'.symm)
theorem LIs.map {h : Heap} {a : Addr} {vs ws : List Value} {f : Array Value → Array Value} (x : LIs h a vs) (hf : f ⟨vs⟩ = ⟨ws⟩) : LIs (h.update a (Obj.mapSeq f)) a ws := by
  obtain ⟨n, e⟩ := x
  have := IsL.update e f
  rw [hf] at this
  exact ⟨_, this⟩
theorem Good.setList (G : Good B ρ hp s) {i : Nat} {a : Addr} {xs : List MV} {vs ws : List Value} {f : Array Value → Array Value} (e : ρ[i]? = some a) (hl : LIs s.heap a vs) (hf : f ⟨vs⟩ = ⟨ws⟩) (hv : VRL s.heap ρ B.l₀ xs ws) :
    Good B ρ (hp.set i (.list xs)) { s with heap := s.heap.update a (Obj.mapSeq f) } ∧ Ext ρ s.heap ρ (s.heap.update a (Obj.mapSeq f)) [] := by
  have ha : a ∈ ρ := List.mem_of_getElem? e
  have hk : ∀ b o, b ≠ a → s.heap.get? b = some o → (s.heap.update a (Obj.mapSeq f)).get? b = some o := fun b o hne e' => (Heap.get?_update_ne _ _ _ _ hne).trans e'
  have x : Ext ρ s.heap ρ (s.heap.update a (Obj.mapSeq f)) [] := ⟨⟨[], by simp, fun _ q => nomatch q⟩, fun b o e' h1 _ => hk b o (fun q => h1 (q ▸ ha)) e', fun b o e' _ => by
    by_cases q : b = a
    · subst q; obtain ⟨n, e2⟩ := LIs.map hl hf; exact ⟨_, e2⟩
    · exact ⟨o, hk b o q e'⟩⟩
  exact G.setObj (tk := s.toks) e hk (.list xs ws a (LIs.map hl hf) (G.vrl x .nil hv))
theorem call_append : CallOk B d (.builtin "list.append") gAppend := by
  intro vs hp v hp' ρ s us hm G r A Q E hA k
  unfold gAppend at hm
  split at hm
  · rename_i i x
    split at hm
    · rename_i xs hx
      split at hm
      · rename_i hf
        cases hm
        cases r with
        | cons ra r => cases r with
          | cons rb r =>
            cases r; cases ra with
            | ref _ a ea =>
              rename_i ub
              obtain ⟨vs, hl, hv⟩ := G.listP hx ea
              obtain ⟨n, e⟩ := id hl
              obtain ⟨G', x'⟩ := G.setList (xs := xs ++ [x]) (ws := vs ++ [ub]) (f := fun z => z.push ub) ea hl (by simp) (hv.append (.cons rb .nil))
              refine call_meets F.slot_list_append ⟨_, e, rfl⟩ F.entry_list_append (F.args_list_append_2 _ _) (PySem.list_append a ⟨vs⟩ n ub ?_) ⟨e, k _ ρ _ x' G' .none⟩
              show vs.length ≤ _
              rw [← hv.length]; exact Nat.le_trans (Nat.le_of_lt hf) few_le
      · cases hm
    · cases hm
  · cases hm
theorem call_extend : CallOk B d (.builtin "list.extend") gExtend := by
  intro vs hp v hp' ρ s us hm G r A Q E hA k
  unfold gExtend at hm
  split at hm
  · rename_i i j
    split at hm
    · rename_i xs hx
      split at hm
      · rename_i ys hy
        split at hm
        · rename_i hf
          cases hm
          cases r with
          | cons ra r => cases r with
            | cons rb r =>
              cases r; cases ra with
              | ref _ a ea => cases rb with
                | ref _ b eb =>
                  obtain ⟨vs, hl, hv⟩ := G.listP hx ea
                  obtain ⟨ws, hl2, hw⟩ := G.listP hy eb
                  obtain ⟨n, e⟩ := id hl
                  obtain ⟨n2, e2⟩ := id hl2
                  have h3 := few_le
                  have h1 := hv.length
                  have h2 := hw.length
                  obtain ⟨G', x'⟩ := G.setList (xs := xs ++ ys) (ws := vs ++ ws) (f := fun z => z ++ (⟨ws⟩ : Array Value)) ea hl (by simp) (hv.append hw)
                  refine call_meets F.slot_list_extend ⟨_, e, rfl⟩ F.entry_list_extend (F.args_list_extend_2 _ _) (AutoSeq1.list_extend_list_list_0 a ⟨vs⟩ n b ⟨ws⟩ n2 ?_ ?_ ?_) ⟨e, e2, k _ ρ _ x' G' .none⟩
                  · simp [Builtin.List.listTooLong]
                    intro _
                    omega
                  · show vs.length ≤ _; omega
                  · show vs.length + ws.length ≤ _; omega
        · cases hm
      · cases hm
    · cases hm
  · cases hm
theorem okA_mem {x : MV} : ∀ {xs : List MV}, okA x xs = true → ∀ y ∈ xs, ∃ b, eqA y x = some b
  | y :: ys, h, z, hz => by
    unfold okA at h
    rw [Bool.and_eq_true] at h
    rcases List.mem_cons.mp hz with rfl | hz
    · exact Option.isSome_iff_exists.mp h.1
    · exact okA_mem h.2 z hz
theorem findA_spec {x : MV} : ∀ {xs : List MV} {n : Nat}, findA x xs = some n → n < xs.length ∧ (∃ y, xs[n]? = some y ∧ eqA y x = some true) ∧ ∀ m y, m < n → xs[m]? = some y → eqA y x = some false
  | y :: ys, n, h => by
    unfold findA at h
    split at h
    · cases h
    · rename_i e
      cases h
      exact ⟨Nat.succ_pos _, ⟨y, rfl, e⟩, fun m _ hm => absurd hm (Nat.not_lt_zero _)⟩
    · rename_i e
      split at h
      · cases h
      · rename_i n' hn
        cases h
        obtain ⟨h1, ⟨z, hz, e2⟩, h3⟩ := findA_spec hn
        refine ⟨Nat.succ_lt_succ h1, ⟨z, hz, e2⟩, fun m w hm hw => ?_⟩
        cases m with
        | zero => cases hw; exact e
        | succ m => exact h3 m w (Nat.lt_of_succ_lt_succ hm) hw
theorem VRL.back {h : Heap} {l₀ : Addr} : ∀ {xs : List MV} {vs : List Value} {n : Nat} {u : Value}, VRL h ρ l₀ xs vs → vs[n]? = some u → ∃ x, xs[n]? = some x ∧ VR h ρ l₀ x u
  | _, _, _, _, .nil, e => by cases e
  | _, _, 0, _, .cons p _, e => by cases e; exact ⟨_, rfl, p⟩
  | _, _, n + 1, _, .cons _ q, e => q.back (n := n) e
theorem valEq_of {a y : MV} {ua uy : Value} {h : Heap} {l₀ : Addr} {r : Bool} (e : eqA y a = some r) (ra : VR h ρ l₀ a ua) (ry : VR h ρ l₀ y uy) : valEq ua uy = r := by
  unfold eqA at e
  split at e
  · cases e; cases ry; cases ra; rfl
  · cases e; cases ry; cases ra; exact mkS_beq _ _
  · cases e; cases ry; cases ra; rfl
  · cases e
theorem call_index : CallOk B d (.builtin "list.index") gIndex := by
  intro vs hp v hp' ρ s us hm G r A Q E hA k
  unfold gIndex at hm
  split at hm
  · rename_i i x
    split at hm
    · rename_i xs hx
      split at hm
      · rename_i hok
        split at hm
        · rename_i n hn
          split at hm
          · rename_i hf
            cases hm
            cases r with
            | cons ra r => cases r with
              | cons rb r =>
                cases r; cases ra with
                | ref _ a ea =>
                  rename_i ub
                  obtain ⟨vs, hl, hv⟩ := G.listP hx ea
                  obtain ⟨nn, e⟩ := id hl
                  obtain ⟨h1, ⟨y, hy, e2⟩, h3⟩ := findA_spec hn
                  have hlen := hv.length
                  have hn' : n < (⟨vs⟩ : Array Value).size := by show n < vs.length; omega
                  refine call_meets F.slot_list_index ⟨_, e, rfl⟩ F.entry_list_index (F.args_list_index_2 _ _) (SeqAt.list_indexAt a ⟨vs⟩ nn none #[] ub (valEq ub) n hn' ?_ ?_ ?_) ⟨e, fun u hu => ?_, k _ ρ _ .refl (G.tok _) (.int _ _)⟩
                  · have : few < 2 ^ 63 - 1 := by decide
                    omega
                  · obtain ⟨u, hu, ru⟩ := hv.at hy
                    have : (⟨vs⟩ : Array Value)[n] = u := by
                      obtain ⟨_, q⟩ := List.getElem?_eq_some_iff.mp hu
                      exact q
                    rw [this]
                    exact valEq_of e2 rb ru
                  · intro m hm hmn
                    have hm' : m < xs.length := by omega
                    obtain ⟨u, hu, ru⟩ := hv.at (List.getElem?_eq_getElem hm')
                    have : (⟨vs⟩ : Array Value)[m] = u := by
                      obtain ⟨_, q⟩ := List.getElem?_eq_some_iff.mp hu
                      exact q
                    rw [this]
                    exact valEq_of (h3 m _ hmn (List.getElem?_eq_getElem hm')) rb ru
                  · have hu' : u ∈ vs := by simpa using hu
                    obtain ⟨m, hm, rfl⟩ := List.getElem_of_mem hu'
                    obtain ⟨z, hz, rz⟩ := hv.back (List.getElem?_eq_getElem hm)
                    obtain ⟨b, hb⟩ := okA_mem hok z (List.mem_of_getElem? hz)
                    rw [valEq_of hb rb rz]
                    exact eqA_at hb rz rb
          · cases hm
        · cases hm
      · cases hm
    · cases hm
  · cases hm
theorem strsAre : ∀ {xs : List MV} {l : List (List Nat)} {vs : List Value} {h : Heap} {l₀ : Addr}, strsOf xs = some l → VRL h ρ l₀ xs vs → ∃ ts : List (Str × Tok), vs = strValues ts ∧ ts.map (·.1) = l.map mkS
  | [], _, _, _, _, e, .nil => by cases e; exact ⟨[], rfl, rfl⟩
  | x :: xs, l, _, _, _, e, .cons a b => by
    unfold strsOf at e
    split at e
    · cases ‹_ :: _ = []›
    · rename_i hx
      cases hx
      split at e
      · cases e
      · rename_i l' hl
        cases e
        obtain ⟨ts, e1, e2⟩ := strsAre hl b
        cases a with
        | str _ t =>
          rename_i y _
          refine ⟨(mkS y, t) :: ts, by rw [e1]; rfl, ?_⟩
          rw [List.map_cons, e2]; rfl
    · cases e
theorem glue_go (sep : List Nat) : ∀ (l : List (List Nat)) (acc : List Nat), ((l.map mkS).foldl (fun (acc : Array Nat) (p : Str) => acc ++ (mkS sep).cps ++ p.cps) ⟨acc⟩) = ⟨acc ++ joinTo sep l⟩
  | [], acc => by simp [joinTo]
  | x :: r, acc => by
    rw [List.map_cons, List.foldl_cons]
    have : ((⟨acc⟩ : Array Nat) ++ (mkS sep).cps ++ (mkS x).cps) = ⟨acc ++ sep ++ x⟩ := by simp [mkS]
    rw [this, glue_go sep r]
    simp [joinTo]
theorem glued_eq (sep : List Nat) (l : List (List Nat)) : Builtin.Str.glued (mkS sep) (l.map mkS) = mkS (joinL sep l) := by
  unfold Builtin.Str.glued
  cases l with
  | nil => rfl
  | cons x r =>
    rw [List.map_cons]
    show (⟨((List.map mkS r)).foldl _ (mkS x).cps⟩ : Str) = _
    show (⟨((List.map mkS r)).foldl _ (⟨x⟩ : Array Nat)⟩ : Str) = _
    rw [glue_go]; rfl
theorem fold_len (k : Nat) : ∀ (l : List Str) (n : Nat), l.foldl (fun a s => a + s.length + k) n = n + (l.map (·.length)).sum + l.length * k
  | [], n => by simp
  | x :: r, n => by
    rw [List.foldl_cons, fold_len k r, List.map_cons, List.sum_cons, List.length_cons, Nat.succ_mul]
    omega
theorem lenL_eq : ∀ l : List (List Nat), ((l.map mkS).map (·.length)).sum = lenL l
  | [] => rfl
  | x :: r => by
    rw [List.map_cons, List.map_cons, List.sum_cons, lenL_eq r]; rfl
theorem joinTo_len (sep : List Nat) : ∀ l, (joinTo sep l).length = lenL l + l.length * sep.length
  | [] => by simp [joinTo, lenL]
  | x :: r => by
    simp only [joinTo, lenL, List.length_append, joinTo_len sep r, List.length_cons, Nat.succ_mul]; omega
theorem joinL_len (sep : List Nat) : ∀ l, (joinL sep l).length ≤ lenL l + l.length * sep.length
  | [] => by simp [joinL, lenL]
  | x :: r => by
    simp only [joinL, lenL, List.length_append, joinTo_len, List.length_cons, Nat.succ_mul]; omega
theorem call_join : CallOk B d (.builtin "str.join") gJoin := by
  intro vs hp v hp' ρ s us hm G r A Q E hA k
  unfold gJoin at hm
  split at hm
  · rename_i sep i
    split at hm
    · rename_i xs hx
      split at hm
      · cases hm
      · rename_i l hl
        split at hm
        · rename_i hf
          cases hm
          cases r with
          | cons ra r => cases r with
            | cons rb r =>
              cases r; cases ra with
              | str _ t => cases rb with
                | ref _ a ea =>
                  obtain ⟨vs, hls, hv⟩ := G.listAt hx ea
                  obtain ⟨ts, e1, e2⟩ := strsAre hl hv
                  have hno : Builtin.Str.tooLong ((ts.map (·.1)).toArray.foldl (· + ·.length + (mkS sep).length) 0) = false := by
                    rw [e2]
                    simp only [List.foldl_toArray']
                    rw [fold_len, lenL_eq]
                    simp only [Builtin.Str.tooLong, decide_eq_false_iff_not, List.length_map, strLen_mkS]
                    have := few_le
                    omega
                  refine call_meets F.slot_str_join (typeIs_str _ _ _) F.entry_str_join (F.args_str_join_2 _ _) (meets_str_join_list _ t a ts hno) ⟨by rw [← e1]; exact hls, ?_⟩
                  match ts, e2 with
                  | [], e2 =>
                    have e3 : l = [] := by
                      cases l with
                      | nil => rfl
                      | cons _ _ => cases e2
                    subst e3
                    exact ⟨Nat.zero_le _, k _ ρ _ .refl (G.tok _) (.str [] _)⟩
                  | [p], e2 =>
                    match l, e2, k with
                    | [], e2, _ => cases e2
                    | _ :: _ :: _, e2, _ => simp at e2
                    | [x], e2, k =>
                      have e4 : p.1 = mkS x := (List.cons.inj e2).1
                      obtain ⟨y, ty⟩ := p
                      simp only at e4
                      subst e4
                      have : joinL sep [x] = x := by simp [joinL, joinTo]
                      rw [this] at k
                      exact k _ ρ _ .refl G (.str x ty)
                  | p :: q :: ts, e2 =>
                    show (Made.str (Builtin.Str.glued (mkS sep) ((p :: q :: ts).map (·.1)))).post _ _
                    rw [e2, glued_eq]
                    refine ⟨?_, k _ ρ _ .refl (G.tok _) (.str _ _)⟩
                    rw [strLen_mkS]
                    exact Nat.le_trans (joinL_len sep l) (Nat.le_trans hf few_le)
        · cases hm
    · cases hm
  · cases hm
theorem call_lower : CallOk B d (.builtin "str.lower") gLower := by
  intro vs hp v hp' ρ s us hm G r A Q E hA k
  unfold gLower at hm
  split at hm
  · rename_i x
    split at hm
    · rename_i hf
      cases hm
      cases r with
      | cons ra r =>
        cases r; cases ra with
        | str _ t =>
          have e : (⟨placed (mkS x) fun i _ => Unicode.lowerAt (mkS x).cps i⟩ : Str) = mkS (x.map lo1) := by
            have := lower_ascii (x := mkS x) (fun c hc => by
              have := List.all_eq_true.mp hf.1 c (by simpa [mkS] using hc)
              simpa using this)
            unfold PySem.Txt.lower at this
            rw [this]; simp [mkS]
          have e' := congrArg Str.cps e
          have hsz : (placed (mkS x) fun i _ => Unicode.lowerAt (mkS x).cps i).size = x.length := by
            show (Str.cps ⟨placed (mkS x) fun i _ => Unicode.lowerAt (mkS x).cps i⟩).size = _
            rw [e']; simp [mkS]
          have g := gives_str_lower (mkS x) t (by rw [hsz]; simp [Builtin.Str.tooLong]; have := few_le; omega)
          rw [e] at g
          refine call_gives F.slot_str_lower (typeIs_str _ _ _) F.entry_str_lower (F.args_str_lower_1 _) g ⟨?_, k _ ρ _ .refl (G.tok _) (.str _ _)⟩
          rw [strLen_mkS, List.length_map]
          exact Nat.le_trans hf.2 few_le
    · cases hm
  · cases hm
theorem strSub_eq (x : List Nat) (i j : Nat) : Builtin.Str.strSub (mkS x) i j = mkS ((x.drop i).take (j - i)) := by
  unfold Builtin.Str.strSub mkS
  congr 1
  apply Array.ext'
  simp
theorem occGo_eq (x y : List Nat) (lim : Nat) : ∀ (is : List Nat) (f : List Nat) (free : Nat), (forIn is ((⟨f⟩ : Array Nat), free) (StrLaws.occBody (mkS x) (mkS y) x.length lim)).run.fst.toList = occGo x y lim is f free
  | [], f, free => rfl
  | i :: is, f, free => by
    rw [List.forIn_cons]
    unfold StrLaws.occBody occGo
    have hs : (Builtin.Str.subAt (mkS x) (mkS y) i = true) ↔ (x.drop i).take y.length = y := by
      unfold Builtin.Str.subAt
      rw [beq_iff_eq, strLen_mkS]
      constructor
      · intro h
        have := congrArg Array.toList h
        simpa [mkS] using this
      · intro h
        apply Array.ext'
        simpa [mkS] using h
    by_cases hc : f.length < lim ∧ free ≤ i ∧ i + y.length ≤ x.length ∧ (x.drop i).take y.length = y
    · rw [if_pos hc, if_pos (by
        refine ⟨⟨⟨?_, hc.2.1⟩, hc.2.2.1⟩, hs.mpr hc.2.2.2⟩
        exact hc.1)]
      have e : ((⟨f⟩ : Array Nat).push i) = ⟨f ++ [i]⟩ := by simp
      have := occGo_eq x y lim is (f ++ [i]) (i + y.length)
      rw [← this, ← e]
      rfl
    · rw [if_neg hc, if_neg (by
        rintro ⟨⟨⟨h1, h2⟩, h3⟩, h4⟩
        exact hc ⟨h1, h2, h3, hs.mp h4⟩)]
      exact occGo_eq x y lim is f free
theorem occL_eq (x y : List Nat) : Builtin.Str.occurrences (mkS x) (mkS y) 0 (mkS x).length ((mkS x).length + 1) = occL x y := by
  rw [StrLaws.occ_eq]
  exact occGo_eq x y (x.length + 1) _ [] 0
theorem parts_eq (x y : List Nat) : Builtin.Str.partsBetween (mkS x) (occL x y) (mkS y).length = (splitL x y).map mkS := by
  unfold Builtin.Str.partsBetween splitL
  rw [List.map_map]
  apply List.map_congr_left
  intro p _
  exact strSub_eq x p.1 p.2
theorem vrl_strs {h : Heap} {l₀ : Addr} : ∀ (l : List (List Nat)) (tk : Nat), VRL h ρ l₀ (l.map .str) (strsFrom tk (l.map mkS))
  | [], _ => .nil
  | x :: r, tk => .cons (.str x tk) (vrl_strs r (tk + 1))
theorem kind_one {y : List Nat} (h : y.all (fun c => decide (c < 256)) = true) : Builtin.Str.strKind (mkS y) = 1 := by
  unfold Builtin.Str.strKind
  rw [if_pos (by
    rw [Array.all_eq_true']
    intro c hc
    exact List.all_eq_true.mp h c (by simpa [mkS] using hc))]
theorem kind_pos (x : Str) : 1 ≤ Builtin.Str.strKind x := by
  unfold Builtin.Str.strKind
  split
  · exact Nat.le_refl _
  · split <;> decide
theorem call_split : CallOk B d (.builtin "str.split") gSplit := by
  intro vs hp v hp' ρ s us hm G r A Q E hA k
  unfold gSplit at hm
  split at hm
  · rename_i x y
    split at hm
    · rename_i hf
      cases hm
      obtain ⟨hy, hy2, hf⟩ := hf
      have hfew := few_le
      cases r with
      | cons ra r => cases r with
        | cons rb r =>
          cases r; cases ra with
          | str _ t => cases rb with
            | str _ t' =>
              have hk : decide (Builtin.Str.strKind (mkS x) < Builtin.Str.strKind (mkS y)) = false := by
                rw [kind_one hy2]
                have := kind_pos (mkS x)
                simp; omega
              have self : occL x y = [] → ∀ {S : PySem.Spec}, S = listOfItself (mkS x) t → S A (wants Q E) s := by
                intro h0 S hS
                subst hS
                have e : splitL x y = [x] := by
                  unfold splitL
                  rw [h0]; simp
                rw [e] at k
                obtain ⟨G', x', r'⟩ := G.newList (xs := [.str x]) (arr := [Value.str (mkS x) t].toArray) (.cons (.str x t) .nil) rfl
                exact k _ _ _ x' G' r'
              by_cases hlen : x.length < y.length
              · have h0 : occL x y = [] := by
                  have none : ∀ (is f : List Nat) (free : Nat), occGo x y (x.length + 1) is f free = f := by
                    intro is
                    induction is with
                    | nil => intro f free; rfl
                    | cons i is ih =>
                      intro f free
                      unfold occGo
                      rw [if_neg (by omega)]
                      exact ih f free
                  exact none _ _ _
                exact call_meets F.slot_str_split (typeIs_str _ _ _) F.entry_str_split (F.args_str_split_2 _ _) (meets_str_split_cannot_occur (mkS x) (mkS y) t t' (by rw [strLen_mkS, strLen_mkS]; simp [hlen])) (self h0 rfl)
              · have h1 : (decide ((mkS x).length < (mkS y).length) || decide (Builtin.Str.strKind (mkS x) < Builtin.Str.strKind (mkS y))) = false := by
                  rw [hk, strLen_mkS, strLen_mkS]; simpa using hlen
                have hy0 : ((mkS y).length == 0) = false := by
                  rw [strLen_mkS]
                  cases y with
                  | nil => exact absurd rfl hy
                  | cons _ _ => rfl
                cases ho : occL x y with
                | nil => exact call_meets F.slot_str_split (typeIs_str _ _ _) F.entry_str_split (F.args_str_split_2 _ _) (meets_str_split_not_found (mkS x) (mkS y) t t' h1 hy0 (by rw [occL_eq, ho]; rfl)) (self ho rfl)
                | cons i is =>
                  have hz : (Builtin.Str.partsBetween (mkS x) (Builtin.Str.occurrences (mkS x) (mkS y) 0 (mkS x).length ((mkS x).length + 1)) (mkS y).length).length ≤ sizeLine := by
                    have := StrLaws.occ_length_le (mkS x) (mkS y) 0 (mkS x).length ((mkS x).length + 1)
                    unfold Builtin.Str.partsBetween
                    simp only [List.length_map, List.length_zip, List.length_cons, List.length_append, List.length_nil]
                    rw [strLen_mkS] at this ⊢
                    have h5 : few + 2 ≤ sizeLine := by decide
                    omega
                  have g := meets_str_split_sep (mkS x) (mkS y) t t' h1 hy0 (by rw [occL_eq, ho]; rfl) (by rw [strLen_mkS]; omega) hz
                  refine call_meets F.slot_str_split (typeIs_str _ _ _) F.entry_str_split (F.args_str_split_2 _ _) g ?_
                  show Q _ _
                  rw [occL_eq, parts_eq]
                  obtain ⟨G', x', r'⟩ := (G.tok (s.toks + ((splitL x y).map mkS).length)).newList (xs := (splitL x y).map .str) (arr := (strsFrom s.toks ((splitL x y).map mkS)).toArray) (vrl_strs _ _) rfl
                  exact k _ _ _ x' G' r'
    · cases hm
  · cases hm
theorem isListMV_ok {a : MV} {ua : Value} (h : isListMV a hp = true) (G : Good B ρ hp s) (r : VR s.heap ρ B.l₀ a ua) : s.TypeIs ua "list" ∧ ∀ a', ua = .ref a' → ∃ ob, s.heap.get? a' = some ob ∧ ob.dict = none := by
  unfold isListMV at h
  split at h
  · obtain ⟨xs, hx⟩ := Option.isSome_iff_exists.mp h
    cases r with
    | ref _ a ea =>
      obtain ⟨vs, ⟨n, e⟩, _⟩ := G.listP hx ea
      exact ⟨⟨_, e, rfl⟩, fun a' q => by cases q; exact ⟨_, e, rfl⟩⟩
  · cases h
theorem isStrMV_ok {a : MV} {ua : Value} (h : isStrMV a hp = true) (G : Good B ρ hp s) (r : VR s.heap ρ B.l₀ a ua) : s.TypeIs ua "str" ∧ ∀ a', ua = .ref a' → ∃ ob, s.heap.get? a' = some ob ∧ ob.dict = none := by
  unfold isStrMV at h
  split at h
  · cases r
    exact ⟨typeIs_str _ _ _, fun _ q => nomatch q⟩
  · cases h
abbrev methFew (pos : Pos) (es : List PySem.Expr) : Prop := ∀ env : Env, ((backTo pos (starEach es env)).all (fun x => !x.1) && (backToKw pos (keywordEach [] env)).all (fun x => x.1.isSome)
      && decide (es.length + ([] : List Keyword).length + (if ([] : List Keyword).isEmpty then 0 else 1) < 30)) = true
theorem snd_meth {o : PySem.Expr} {name : Str} {apos pos : Pos} {es : List PySem.Expr} {T id : String} {kind : MV → List MO → Bool} {g : GF} {m : ME} {l : ML}
    (hkind : ∀ {a : MV} {ua : Value} {hp : List MO} {ρ : List Addr} {s : Shared}, kind a hp = true → Good B ρ hp s → VR s.heap ρ B.l₀ a ua → s.TypeIs ua T ∧ ∀ a', ua = .ref a' → ∃ ob, s.heap.get? a' = some ob ∧ ob.dict = none)
    (pa : PlainAttrs T) (slot : Slot T name id) (hty : typeOf (.builtin id) = pure (.type "method_descriptor")) (K : CallOk B d (.builtin id) g)
    (So : SndE B d Γ o m) (Sl : SndL B d Γ es l) (hline : (apos.endLine == pos.line) = true := by rfl)
    (hbase : ∀ env, attributeBase o name env (eval o env) = eval o env := by intros; rfl) (hfew : methFew pos es := by intro _; rfl) (hpl : plainArgs es := by intro _ _; rfl) :
    SndE B d Γ (.Call (.Attribute o name apos) es [] pos) (mMeth kind g m l) := by
  intro env loc hp v hp' ρ s hm G F A Q E hA k
  unfold mMeth at hm
  split at hm
  · cases hm
  · rename_i a hp1 h1
    split at hm
    · cases hm
    · rename_i hk
      split at hm
      · cases hm
      · rename_i vs hp2 h2
        refine wpAny_Call_method (hbase env) (hfew env) hline pa slot hty (So.run h1 G F hA fun ua ρ1 s1 x1 G1 F1 r1 => ?_)
        obtain ⟨q1, q2⟩ := hkind hk G1 r1
        refine ⟨q1, q2, ?_⟩
        refine callWith_ok (.builtin id) (hpl env pos) (Sl env loc _ vs hp2 ρ1 s1 pos h2 G1 F1 A _ _ hA fun us ρ2 s2 x2 G2 r2 => ⟨G2.keep, ?_⟩)
        exact K (a :: vs) hp2 v hp' ρ2 s2 (ua :: us) hm G2 (.cons (G1.vr x2 .nil r1) r2) A _ _ hA fun u ρ3 s3 x3 G3 r3 => k u ρ3 s3 (x1.trans (x2.trans x3)) G3 r3
end
end Mine
end
section
open PySem PySem.W PyProof.Rows PySem.Spec PySem.Calls
set_option linter.unusedVariables false
namespace Mine
noncomputable def relN (names outer : List (Str × NameKind)) : List (Str × NameKind) :=
  names.map fun p => if (p.2 == .free && outer.lookup p.1 == some .cell) = true then (p.1, .cell) else p
noncomputable def compLoc (k : Nat) (ci : List Nat) (loc : Loc) : Loc := List.replicate k none ++ ci.map fun i => (loc[i]?).getD none
structure CompIs (Γ Γ' : Ctx) (scope : Scope) (k : Nat) (ci : List Nat) : Prop where
  kind : scope.kind = .function
  nocell : (scope.names.all fun p => p.2 != .cell) = true
  keys : (scope.names.map (·.1)).Nodup
  frees : (scope.names.all fun p => p.2 != .free || (Γ.sc.lookup p.1 == some .cell || Γ.sc.lookup p.1 == some .free)) = true
  sc : Γ'.sc = relN scope.names Γ.sc
  own : ((Γ'.tbl.take k).all fun x => scope.names.lookup x == some .local) = true
  capk : ((Γ'.tbl.drop k).all fun x => scope.names.lookup x == some .free) = true
  caps : ci.map (fun i => Γ.tbl[i]?) = (Γ'.tbl.drop k).map some
  klen : k ≤ Γ'.tbl.length
  tnd : Γ'.tbl.Nodup
noncomputable def closGo (cells : List (Str × Addr)) : List (Str × NameKind) → List (Str × Addr) → List (Str × Addr)
  | [], acc => acc
  | (n, k) :: r, acc => if k == .free then closGo cells r ((n, (cells.lookup n).getD 0) :: acc) else closGo cells r acc
theorem clos_loop {env : Env} : ∀ (names : List (Str × NameKind)) (acc : List (Str × Addr)), (∀ n, (n, NameKind.free) ∈ names → ∃ c, env.cells.lookup n = some c) →
    (forIn names acc (fun (p : Str × NameKind) (cs : List (Str × Addr)) => (if p.2 == .free then do let c ← cellOf env p.1; pure (ForInStep.yield ((p.1, c) :: cs)) else pure (ForInStep.yield cs) : Sem (ForInStep (List (Str × Addr)))))) = pure (closGo env.cells names acc)
  | [], acc, _ => rfl
  | (n, k) :: r, acc, h => by
    rw [List.forIn_cons]
    have hr : ∀ n, (n, NameKind.free) ∈ r → ∃ c, env.cells.lookup n = some c := fun n hn => h n (List.mem_cons_of_mem _ hn)
    unfold closGo
    by_cases hk : k = .free
    · subst hk
      obtain ⟨c, hc⟩ := h n (List.mem_cons_self ..)
      have e : cellOf env n = pure c := by unfold cellOf; rw [hc]
      simp only [beq_self_eq_true, if_true, e, pure_bind, hc, Option.getD_some]
      exact clos_loop r _ hr
    · have : (k == NameKind.free) = false := by simpa using hk
      simp only [this, Bool.false_eq_true, if_false, pure_bind]
      exact clos_loop r _ hr
theorem clos_mem {cells : List (Str × Addr)} {n : Str} {c : Addr} : ∀ {names acc}, (n, c) ∈ closGo cells names acc → ((n, NameKind.free) ∈ names ∧ c = (cells.lookup n).getD 0) ∨ (n, c) ∈ acc
  | [], acc, h => .inr h
  | (m, k) :: r, acc, h => by
    unfold closGo at h
    split at h
    · rename_i hk
      have hk' : k = .free := by simpa using hk
      subst hk'
      rcases clos_mem h with ⟨q, e⟩ | q
      · exact .inl ⟨List.mem_cons_of_mem _ q, e⟩
      · rcases List.mem_cons.mp q with q | q
        · cases q; exact .inl ⟨List.mem_cons_self .., rfl⟩
        · exact .inr q
    · rcases clos_mem h with ⟨q, e⟩ | q
      · exact .inl ⟨List.mem_cons_of_mem _ q, e⟩
      · exact .inr q
theorem clos_acc {cells : List (Str × Addr)} {x : Str × Addr} : ∀ {names acc}, x ∈ acc → x ∈ closGo cells names acc
  | [], acc, h => h
  | (m, k) :: r, acc, h => by
    unfold closGo
    split
    · exact clos_acc (List.mem_cons_of_mem _ h)
    · exact clos_acc h
theorem clos_has {cells : List (Str × Addr)} {n : Str} : ∀ {names acc}, (n, NameKind.free) ∈ names → (n, (cells.lookup n).getD 0) ∈ closGo cells names acc
  | (m, k) :: r, acc, h => by
    unfold closGo
    rcases List.mem_cons.mp h with q | q
    · cases q
      rw [if_pos (by rfl)]
      exact clos_acc (List.mem_cons_self ..)
    · split
      · exact clos_has q
      · exact clos_has q
theorem clos_keys {cells : List (Str × Addr)} : ∀ {names acc}, (acc.map (·.1)).Nodup → (names.map (·.1)).Nodup → (∀ x ∈ acc.map (·.1), x ∉ names.map (·.1)) → ((closGo cells names acc).map (·.1)).Nodup
  | [], acc, h, _, _ => h
  | (m, k) :: r, acc, h, hn, ha => by
    have h1 := List.nodup_cons.mp hn
    unfold closGo
    split
    · refine clos_keys ?_ h1.2 ?_
      · exact List.nodup_cons.mpr ⟨fun q => ha m q (List.mem_cons_self ..), h⟩
      · intro x hx q
        rcases List.mem_cons.mp hx with e | hx
        · exact h1.1 (by rw [← e]; exact q)
        · exact ha x hx (List.mem_cons_of_mem _ q)
    · exact clos_keys h h1.2 fun x hx q => ha x hx (List.mem_cons_of_mem _ q)
theorem relN_local {outer : List (Str × NameKind)} {x : Str} : ∀ {names : List (Str × NameKind)}, names.lookup x = some .local → (relN names outer).lookup x = some .local
  | (n, k) :: r, h => by
    rw [List.lookup_cons] at h
    show List.lookup x ((if (k == .free && outer.lookup n == some .cell) = true then (n, NameKind.cell) else (n, k)) :: relN r outer) = _
    cases hx : x == n with
    | true =>
      rw [hx] at h
      cases h
      simp [List.lookup_cons, hx]
    | false =>
      rw [hx] at h
      split <;> · rw [List.lookup_cons]; simp only [hx]; exact relN_local h
theorem relN_free {outer : List (Str × NameKind)} {x : Str} : ∀ {names : List (Str × NameKind)}, names.lookup x = some .free → (relN names outer).lookup x = some .cell ∨ (relN names outer).lookup x = some .free
  | (n, k) :: r, h => by
    rw [List.lookup_cons] at h
    show List.lookup x ((if (k == .free && outer.lookup n == some .cell) = true then (n, NameKind.cell) else (n, k)) :: relN r outer) = _ ∨ List.lookup x ((if (k == .free && outer.lookup n == some .cell) = true then (n, NameKind.cell) else (n, k)) :: relN r outer) = _
    cases hx : x == n with
    | true =>
      rw [hx] at h
      cases h
      split
      · exact .inl (by rw [List.lookup_cons]; simp [hx])
      · exact .inr (by rw [List.lookup_cons]; simp [hx])
    | false =>
      rw [hx] at h
      split <;> · rw [List.lookup_cons]; simp only [hx]; exact relN_free h
theorem relN_back {outer : List (Str × NameKind)} {x : Str} {q : NameKind} : ∀ {names : List (Str × NameKind)}, (relN names outer).lookup x = some q → names.lookup x = some q ∨ (q = .cell ∧ names.lookup x = some .free)
  | (n, k) :: r, h => by
    change List.lookup x ((if (k == .free && outer.lookup n == some .cell) = true then (n, NameKind.cell) else (n, k)) :: relN r outer) = _ at h
    rw [List.lookup_cons]
    cases hx : x == n with
    | true =>
      split at h
      · rename_i hk
        simp only [List.lookup_cons, hx] at h
        cases h
        rw [Bool.and_eq_true] at hk
        have : k = .free := by simpa using hk.1
        subst this
        exact .inr ⟨rfl, rfl⟩
      · simp only [List.lookup_cons, hx] at h
        exact .inl h
    | false =>
      have h' : (relN r outer).lookup x = some q := by
        split at h <;> · simp only [List.lookup_cons, hx] at h; exact h
      exact relN_back h'
section
variable {B : Base} {d : Nat} {Γ Γ' : Ctx} {env : Env} {loc : Loc} {hp hp' : List MO} {ρ : List Addr} {s : Shared} {A : Around} {E : Value → Shared → Prop} {scope : Scope} {k : Nat} {ci : List Nat}
theorem CompIs.clos (CI : CompIs Γ Γ' scope k ci) {h : Heap} (F : FrR B Γ env loc ρ h) : ∀ n, (n, NameKind.free) ∈ scope.names → ∃ c, env.cells.lookup n = some c ∧ ∃ u, h.IsCell c u := by
  intro n hn
  have := List.all_eq_true.mp CI.frees _ hn
  have hk : Γ.sc.lookup n = some .cell ∨ Γ.sc.lookup n = some .free := by simpa using this
  obtain ⟨c, u, e, hc⟩ := F.cell n hk
  exact ⟨c, e, u, hc⟩
theorem CompIs.closureFor (CI : CompIs Γ Γ' scope k ci) {h : Heap} (F : FrR B Γ env loc ρ h) : closureFor scope env = pure (closGo env.cells scope.names []) := by
  have := clos_loop (env := env) scope.names [] fun n hn => let ⟨c, e, _⟩ := CI.clos F n hn; ⟨c, e⟩
  unfold PySem.closureFor
  show (forIn scope.names [] _ >>= fun cs => pure cs) = _
  rw [bind_pure]
  exact this
theorem CompIs.lookup (CI : CompIs Γ Γ' scope k ci) {h : Heap} (F : FrR B Γ env loc ρ h) {n : Str} (hn : (n, NameKind.free) ∈ scope.names) {c : Addr} (e : env.cells.lookup n = some c) : (closGo env.cells scope.names []).lookup n = some c := by
  have h1 := clos_has (cells := env.cells) (acc := []) hn
  rw [e] at h1
  exact lookup_of_mem (clos_keys List.nodup_nil CI.keys fun x hx => nomatch hx) h1
theorem CompIs.mem (CI : CompIs Γ Γ' scope k ci) {h : Heap} (F : FrR B Γ env loc ρ h) {n : Str} {c : Addr} (hc : (n, c) ∈ closGo env.cells scope.names []) : (n, c) ∈ env.cells ∧ ∃ u, h.IsCell c u := by
  rcases clos_mem hc with ⟨q, e⟩ | q
  · obtain ⟨c', e', u, hu⟩ := CI.clos F n q
    rw [e'] at e
    have e2 : c = c' := e
    subst e2
    exact ⟨mem_of_lookup e', u, hu⟩
  · cases q
theorem CompIs.frame (CI : CompIs Γ Γ' scope k ci) (F : FrR B Γ env loc ρ s.heap) (G : Good B ρ hp s) {C : Addr} {h' : Heap} (hC : s.heap.get? C = none) (hns : h'.Ns C fun _ => none) (hk : ∀ b o, s.heap.get? b = some o → h'.get? b = some o) :
    FrR B Γ' (compEnvC scope (closGo env.cells scope.names []) C env) (compLoc k ci loc) ρ h' := by
  have xx : Ext ρ s.heap ρ h' [] := .keeps hk
  have kc : ∀ {c u}, s.heap.IsCell c u → h'.IsCell c u := fun ⟨o, e, hd⟩ => ⟨o, hk _ _ e, hd⟩
  have hCρ : C ∉ ρ := fun q => by
    obtain ⟨o, e⟩ := G.alive q
    rw [hC] at e; cases e
  have capAt : ∀ {i : Nat} {x : Str} {v : MV}, Γ'.tbl[i]? = some x → (compLoc k ci loc)[i]? = some (some v) → scope.names.lookup x = some .free ∧ ∃ i0 : Nat, Γ.tbl[i0]? = some x ∧ loc[i0]? = some (some v) := by
    intro i x v hi hv
    unfold compLoc at hv
    by_cases hik : i < k
    · rw [List.getElem?_append_left (by simpa using hik), List.getElem?_replicate, if_pos hik] at hv
      cases hv
    · rw [List.getElem?_append_right (by simpa using Nat.le_of_not_lt hik), List.length_replicate, List.getElem?_map] at hv
      cases hj : ci[i - k]? with
      | none => rw [hj] at hv; cases hv
      | some i0 =>
        rw [hj] at hv
        have hv' : (loc[i0]?).getD none = some v := Option.some.inj hv
        have hl : loc[i0]? = some (some v) := by
          cases e : loc[i0]? with
          | none => rw [e] at hv'; cases hv'
          | some y => rw [e] at hv'; exact congrArg some hv'
        have hd : (Γ'.tbl.drop k)[i - k]? = some x := by
          rw [List.getElem?_drop, show k + (i - k) = i by omega]; exact hi
        have hc := congrArg (fun l => l[i - k]?) CI.caps
        simp only [List.getElem?_map, hj, hd, Option.map_some, Option.some.injEq] at hc
        have hf := List.all_eq_true.mp CI.capk x (List.mem_of_getElem? hd)
        exact ⟨by simpa using hf, i0, hc, hl⟩
  have freeOf : ∀ x, (Γ'.sc.lookup x = some .cell ∨ Γ'.sc.lookup x = some .free) → scope.names.lookup x = some .free := by
    intro x hx
    rw [CI.sc] at hx
    rcases hx with hx | hx
    · rcases relN_back hx with q | ⟨_, q⟩
      · have := List.all_eq_true.mp CI.nocell _ (mem_of_lookup q)
        simp at this
      · exact q
    · rcases relN_back hx with q | ⟨q, _⟩
      · exact q
      · cases q
  have gammaOf : ∀ {n}, (n, NameKind.free) ∈ scope.names → Γ.sc.lookup n = some .cell ∨ Γ.sc.lookup n = some .free := fun hn => by
    have := List.all_eq_true.mp CI.frees _ hn
    simpa using this
  refine ⟨?_, ?_, F.glob, F.blt, ⟨_, hns, ?_⟩, ?_, ?_, ?_, ?_, ?_, ?_, ?_, ?_, CI.tnd⟩
  · exact CI.kind
  · show (relabel scope env).names = _
    rw [CI.sc]
    unfold relabel relN
    apply List.map_congr_left
    intro p _
    have e1 : env.scope.kind = .function := F.kind
    have e2 : env.kindOf p.1 = Γ.sc.lookup p.1 := by unfold Env.kindOf; rw [F.names]
    obtain ⟨n, q⟩ := p
    simp only [e1, e2, beq_self_eq_true, Bool.and_true]
  · intro i x v hi hv hx
    obtain ⟨hf, _⟩ := capAt hi hv
    rw [CI.sc] at hx
    rcases relN_free (outer := Γ.sc) hf with q | q <;> · rw [hx] at q; cases q
  · intro x hx
    have hf := mem_of_lookup (freeOf x hx)
    obtain ⟨c, e, u, hu⟩ := CI.clos F x hf
    exact ⟨c, u, CI.lookup F hf e, kc hu⟩
  · intro i x v hi hv hx
    obtain ⟨hf, i0, hi0, hl⟩ := capAt hi hv
    have hm := mem_of_lookup hf
    obtain ⟨c, u, e, hc, r⟩ := F.cval i0 x v hi0 hl (gammaOf hm)
    exact ⟨c, u, CI.lookup F hm e, kc hc, G.vr xx .nil r⟩
  · intro i x hi
    by_cases hik : i < k
    · have := List.all_eq_true.mp CI.own x (List.mem_of_getElem? (by rw [List.getElem?_take_of_lt hik]; exact hi))
      rw [CI.sc]
      exact .inl (relN_local (by simpa using this))
    · have hd : (Γ'.tbl.drop k)[i - k]? = some x := by
        rw [List.getElem?_drop, show k + (i - k) = i by omega]; exact hi
      have hf := List.all_eq_true.mp CI.capk x (List.mem_of_getElem? hd)
      rw [CI.sc]
      exact .inr (relN_free (by simpa using hf))
  · intro c hc
    obtain ⟨_, u, hu⟩ := CI.mem F (n := c.1) (c := c.2) hc
    exact ⟨u, kc hu⟩
  · have hnd : ((closGo env.cells scope.names []).map (·.1)).Nodup := clos_keys List.nodup_nil CI.keys fun x hx => nomatch hx
    show (closGo env.cells scope.names []).Pairwise _
    have hp := List.pairwise_map.mp hnd
    refine hp.imp_of_mem fun {a b} ha hb hab hne => hab ?_
    have h1 := (CI.mem F (n := a.1) (c := a.2) ha).1
    have h2 := (CI.mem F (n := b.1) (c := b.2) hb).1
    rw [hne] at h1
    exact name_of_addr F.apart h1 h2
  · intro c hc e
    obtain ⟨_, u, o, hu, _⟩ := CI.mem F (n := c.1) (c := c.2) hc
    have e' : C = c.2 := e
    rw [← e', hC] at hu; cases hu
  · intro a ha
    rcases List.mem_cons.mp ha with e | ha
    · have e' : a = C := e
      rw [e']; exact hCρ
    · obtain ⟨c, hc, rfl⟩ := List.mem_map.mp ha
      obtain ⟨hm, _⟩ := CI.mem F (n := c.1) (c := c.2) hc
      exact F.out _ (List.mem_cons_of_mem _ (List.mem_map.mpr ⟨_, hm, rfl⟩))
  · intro a ha
    rcases List.mem_cons.mp ha with e | ha
    · have e' : a = C := e
      rw [e']
      cases e : B.s₀.heap.get? C with
      | none => rfl
      | some o => have := G.keep _ _ e; rw [hC] at this; cases this
    · obtain ⟨c, hc, rfl⟩ := List.mem_map.mp ha
      obtain ⟨hm, _⟩ := CI.mem F (n := c.1) (c := c.2) hc
      exact F.new _ (List.mem_cons_of_mem _ (List.mem_map.mpr ⟨_, hm, rfl⟩))
end
end Mine
end
section
open PySem PySem.W PyProof.Rows PySem.Spec PySem.Calls
set_option linter.unusedVariables false
namespace Mine
noncomputable def tgtOwn : Tgt → Nat → Bool
  | .one i, k => decide (i < k)
  | .two i j, k => decide (i < k) && decide (j < k)
noncomputable def compGo (t : Tgt) (mc : MT) (me : ME) (D : Nat) : Nat → It → Loc → List MO → Option (List MO)
  | 0, _, _, _ => none
  | n + 1, it, loc, hp => match it.next hp with
    | none => none
    | some none => some hp
    | some (some (x, it')) => match fitsT t it with
      | false => none
      | true => match setT t x loc with
        | none => none
        | some loc1 => match mc loc1 hp with
          | none => none
          | some (false, hp1) => compGo t mc me D n it' loc1 hp1
          | some (true, hp1) => match me loc1 hp1 with
            | none => none
            | some (v, hp2) => match gAppend [.ref D, v] hp2 with
              | none => none
              | some (_, hp3) => compGo t mc me D n it' loc1 hp3
noncomputable def mComp (n : Nat) (t : Tgt) (mi : MI) (mc : MT) (me : ME) (k : Nat) (ci : List Nat) : ME := fun loc hp => match mi loc hp with
  | none => none
  | some (it, hp1) => match compGo t mc me hp1.length n it (compLoc k ci loc) (hp1 ++ [.list []]) with
    | none => none
    | some hp2 => some (.ref hp1.length, hp2)
noncomputable def tTrue : MT := fun _ hp => some (true, hp)
noncomputable def SndC (B : Base) (d : Nat) (Γ : Ctx) (ifs : List PySem.Expr) (m : MT) : Prop :=
  ∀ env loc hp b hp' ρ s, m loc hp = some (b, hp') → Good B ρ hp s → FrR B Γ env loc ρ s.heap →
    ∀ A Q E, AOK d A → (∀ ρ' s', Ext ρ s.heap ρ' s'.heap [] → Good B ρ' hp' s' → Q b s') →
      wpAny (model B.prog B.w) A (forIn ifs true fun c r => if r = true then do let ok ← isTrue c env (eval c env); pure (ForInStep.yield ok) else pure (ForInStep.yield r)) Q E s
section
variable {B : Base} {d : Nat} {Γ Γ' : Ctx} {env : Env} {loc : Loc} {hp hp' : List MO} {ρ : List Addr} {s : Shared} {A : Around} {E : Value → Shared → Prop} {scope : Scope} {k : Nat} {ci : List Nat}
theorem snd_cnil : SndC B d Γ [] tTrue := by
  intro env loc hp b hp' ρ s hm G F A Q E hA kk
  cases hm
  exact wpAny_tests_nil (kk ρ s .refl G)
theorem snd_cone {c : PySem.Expr} {m : MT} (S : SndT B d Γ c m) : SndC B d Γ [c] m := by
  intro env loc hp b hp' ρ s hm G F A Q E hA kk
  exact wpAny_tests_one (S env loc hp b hp' ρ s hm G F A Q E hA kk)
theorem entry_itemiter_iter : entryFor table "dict_itemiterator.__iter__" = some Builtin.«dict_keyiterator.__iter__» :=
  entryFor_alias (id' := "dict_keyiterator.__iter__") (by kernel_rfl) (by first | rfl | decide +kernel | (unfold String.splitOn; simp +decide [String.splitOnAux])) (by decide +kernel) (by kernel_rfl)
theorem selfItems {it d : Addr} {i n ep : Nat} {ok ov : Value} {Q : Value → Shared → Prop} (hit : IsItemIter s.heap it d i n ep ok ov) (h : Q (.ref it) s) : wpAny (model B.prog B.w) A (pyIter (.ref it)) Q E s := by
  have hT : s.TypeIs (.ref it) "dict_itemiterator" := ⟨_, hit, rfl⟩
  refine wpAny_pyIter_slot hT F.slot_dict_itemiterator_iter (wpAny_call_entry F.slot_dict_itemiterator_iter hT entry_itemiter_iter ?_ (F.args_dict_itemiterator_iter_1 _))
  show wpAny _ _ (ret (.ref it)) _ _ s
  exact wpAny_pure ⟨_, rfl, "dict_itemiterator", _, hT, F.slot_dict_itemiterator_next.lookup, h⟩
theorem ItR.self {it : It} {I : Addr} {own : List Addr} (R : ItR s.heap ρ it I own) {Q : Value → Shared → Prop} (h : Q (.ref I) s) : wpAny (model B.prog B.w) A (pyIter (.ref I)) Q E s := by
  cases R with
  | list i k _ a e hi => exact wpAny_pyIter_listiter hi h
  | rng a n _ hi => exact wpAny_pyIter_rangeiter hi h
  | enum i k _ it a old e he hi hne => exact wpAny_pyIter_enum he h
  | byt x k _ t hi => exact KBw.pyIter_self hi h
  | chr x k _ t hi => exact wpAny_pyIter_striter_ascii hi h
  | kw i _ a ok ov e hi => exact selfItems hi h
theorem comp_loop {elt target iter : PySem.Expr} {ifs : List PySem.Expr} {sc : Scope} {pos : Pos} {it acc : Value} {cenv : Env} {R : Result → Shared → Prop} (I : Nat → Shared → Prop)
    (turn : ∀ n s, I n s → ∀ E', wpAny (model B.prog B.w) A (pyNext it) (fun r s₁ => match r with
      | none => R (.ok .next) s₁
      | some v => wpAny (model B.prog B.w) A (letOwnedTupleGo target it v) (fun _ s₁' => wpAny (model B.prog B.w) A (assign target cenv v) (fun _ s₂ =>
          wpAny (model B.prog B.w) A (forIn ifs true fun c r => if r = true then do let ok ← isTrue c cenv (eval c cenv); pure (ForInStep.yield ok) else pure (ForInStep.yield r)) (fun ok s₃ =>
            if ok = true then wpAny (model B.prog B.w) A (eval elt cenv) (fun x s₄ =>
              wpAny (model B.prog B.w) A (call (.builtin "list.append") [acc, x]) (fun _ s₅ => ∃ m, m < n ∧ I m s₅) E' s₄) E' s₃
            else ∃ m, m < n ∧ I m s₃) E' s₂) E' s₁') E' s₁) E' s)
    (n : Nat) (h : I n s) :
    codeAny (model B.prog B.w) A (.compLoop (.ListComp elt [⟨target, iter, ifs, 0⟩] sc pos) 0 it acc cenv) R s := by
  refine codeAny_loop rfl I (fun n s hI => ?_) n h
  show wpAny _ A ((compTurn (.ListComp elt [⟨target, iter, ifs, 0⟩] sc pos) 0 it acc cenv).onRaise (fun x => do noteFrame x cenv; theTreesLotGoes x)) _ _ s
  refine wpAny_noted ?_
  rw [compTurn_list]
  refine wpAny_bind (wpAny_standAt (wpAny_bind (wpAny_mono (turn n s hI _) (fun r s₁ h₁ => ?_) fun _ _ h' => h')))
  cases r with
  | none => exact wpAny_pure h₁
  | some v =>
    refine wpAny_bind (wpAny_mono h₁ (fun _ s₁' h₁' => ?_) fun _ _ h' => h')
    refine wpAny_bind (wpAny_mono h₁' (fun _ s₂ h₂ => wpAny_bind (wpAny_mono h₂ (fun ok s₃ h₃ => ?_) fun _ _ h' => h')) fun _ _ h' => h')
    cases ok with
    | false => exact wpAny_pure ⟨rfl, h₃⟩
    | true =>
      exact wpAny_bind (wpAny_bind (wpAny_mono h₃ (fun x s₄ h₄ => wpAny_bind (wpAny_mono h₄ (fun _ s₅ h₅ => wpAny_pure (wpAny_pure ⟨rfl, h₅⟩)) fun _ _ h' => h')) fun _ _ h' => h'))
theorem CompIs.wr (CI : CompIs Γ Γ' scope k ci) {C : Addr} {cl : List (Str × Addr)} {t : Tgt} (ht : tgtOwn t k = true) {a : Addr} (h : a ∈ wrT Γ' (compEnvC scope cl C env) t) : a = C := by
  have one : ∀ {i : Nat}, i < k → a ∈ wrI Γ' (compEnvC scope cl C env) i → a = C := by
    intro i hi hm
    unfold wrI at hm
    split at hm
    · rename_i x hx
      have hl := List.all_eq_true.mp CI.own x (List.mem_of_getElem? (by rw [List.getElem?_take_of_lt hi]; exact hx))
      unfold wrX at hm
      rw [if_pos (by rw [CI.sc]; exact relN_local (by simpa using hl))] at hm
      exact List.mem_singleton.mp hm
    · cases hm
  cases t with
  | one i => exact one (by simpa [tgtOwn] using ht) h
  | two i j =>
    have ht' : i < k ∧ j < k := by simpa [tgtOwn] using ht
    rcases List.mem_append.mp h with q | q
    · exact one ht'.1 q
    · exact one ht'.2 q
theorem comp_core {n : Nat} {t : Tgt} {elt target iter : PySem.Expr} {ifs : List PySem.Expr} {pos pos' : Pos} {mi : MI} {mc : MT} {me : ME} {v : MV} {use : Option (Value → Sem Unit)} {Q : Value → Shared → Prop}
    (CI : CompIs Γ Γ' scope k ci) (T : TgtIs Γ' t target) (ht : tgtOwn t k = true) (Si : SndI B d Γ iter mi) (Sc : SndC B d Γ' ifs mc) (Se : SndE B d Γ' elt me)
    (hm : mComp n t mi mc me k ci loc hp = some (v, hp')) (G : Good B ρ hp s) (F : FrR B Γ env loc ρ s.heap) (hA : AOK d A) (hfold : ∀ x, foldedSetIterable iter env x = pure x)
    (fin : ∀ (D C : Addr) ρ' s' m, Ext ρ s.heap ρ' s'.heap [] → Good B ρ' hp' s' → VR s'.heap ρ' B.l₀ v (.ref D) → s'.heap.Ns C m → s.heap.get? C = none → B.s₀.heap.get? C = none → C ∉ ρ' →
      compPost (model B.prog B.w) A E use Q (.ref D) C (.ok .next) s') :
    wpAny (model B.prog B.w) A (comprehension (.ListComp elt [⟨target, iter, ifs, 0⟩] scope pos) scope env pos' (newList []) false (eval iter env) use) Q E s := by
  unfold mComp at hm
  split at hm
  · cases hm
  · rename_i it hp1 h1
    split at hm
    · cases hm
    · rename_i hp2 h2
      cases hm
      refine wpAny_comprehension_free (g := ⟨target, iter, ifs, 0⟩) (gs := []) rfl hfold (CI.closureFor F) CI.kind (fun x hx hl => by
        obtain ⟨x1, x2⟩ := x
        simp only at hl
        subst hl
        exact lookup_of_mem CI.keys hx) ?_
      refine Si env loc hp it hp1 ρ s h1 G F A _ _ hA fun I own ρ1 s1 x1 G1 R1 hnew hout => ?_
      refine wpAny_newList ?_
      obtain ⟨G2, x2, r2⟩ := G1.newList (xs := []) (vs := []) (arr := ([] : List Value).toArray) .nil rfl
      refine wpAny_newFunctionEnv (fun x hx => ?_) (fun x hx => nomatch hx) (fun h3 hns hsb => ?_) CI.kind
      · have := List.all_eq_true.mp CI.nocell x hx
        simpa using this
      -- the frame
      generalize hH : (s1.heap.push { cls := .type "list", data := .seq ([] : List Value).toArray }) = H at hns hsb G2 x2 r2 ⊢
      simp only at hns hsb ⊢
      have hk3 : ∀ b o, H.get? b = some o → h3.get? b = some o := fun b o e => hsb.extBut b o (Nat.ne_of_lt (Heap.lt_size e)) (Heap.get?_push_of_some _ e)
      have hC : H.get? H.objs.size = none := get?_size _
      have hCs : s.heap.get? H.objs.size = none := (x1.trans x2).back hC
      have G3 : Good B (ρ1 ++ [s1.heap.objs.size]) (hp1 ++ [.list []]) { s1 with heap := h3, toks := s1.toks + ([] : List (Str × Value)).length } := G2.keeps hk3
      have x3 : Ext (ρ1 ++ [s1.heap.objs.size]) H (ρ1 ++ [s1.heap.objs.size]) h3 [] := .keeps hk3
      have F2 : FrR B Γ env loc (ρ1 ++ [s1.heap.objs.size]) H := (F.ext G x1).ext G1 x2
      have F3 := CI.frame (s := { s1 with heap := H }) F2 G2 hC (by
        have : (fun x : Str => ([] : List (Str × Value)).reverse.lookup x) = fun _ => none := rfl
        rw [this] at hns
        exact hns) hk3
      have hD : (ρ1 ++ [s1.heap.objs.size])[hp1.length]? = some s1.heap.objs.size := G1.last _
      have hCρ3 : H.objs.size ∉ ρ1 ++ [s1.heap.objs.size] := fun q => by
        obtain ⟨o, e⟩ := G2.alive q
        have : H.get? H.objs.size = some o := e
        rw [hC] at this; cases this
      have R3 : ItR h3 (ρ1 ++ [s1.heap.objs.size]) it I own := (R1.ext x2 hout (fun _ _ q => nomatch q)).ext x3 (fun a ha q => by
        rcases List.mem_append.mp q with q | q
        · exact hout a ha q
        · obtain ⟨o, e⟩ := R1.alive a ha
          rw [List.mem_singleton.mp q, get?_size] at e; cases e) (fun _ _ q => nomatch q)
      have hout3 : ∀ a ∈ own, a ∉ ρ1 ++ [s1.heap.objs.size] := fun a ha q => by
        rcases List.mem_append.mp q with q | q
        · exact hout a ha q
        · obtain ⟨o, e⟩ := R1.alive a ha
          rw [List.mem_singleton.mp q, get?_size] at e; cases e
      have hCown : ∀ a ∈ own, a ≠ H.objs.size := fun a ha q => by
        obtain ⟨o, e⟩ := (R1.ext x2 hout (fun _ _ q => nomatch q)).alive a ha
        rw [q, hC] at e; cases e
      have aliveW : ∀ a ∈ envW env, ∃ o, s.heap.get? a = some o := by
        intro a ha
        rcases List.mem_cons.mp ha with rfl | ha
        · obtain ⟨m, ⟨o, _, _, e, _⟩, _⟩ := F.ns; exact ⟨o, e⟩
        · obtain ⟨c, hc, rfl⟩ := List.mem_map.mp ha
          obtain ⟨u, o, e, _⟩ := F.cells c hc; exact ⟨o, e⟩
      have O1 : ∀ a ∈ own, a ∉ envW (compEnvC scope (closGo env.cells scope.names []) H.objs.size env) := by
        intro a ha hw
        rcases List.mem_cons.mp hw with q | q
        · exact hCown a ha q
        · obtain ⟨c, hc, rfl⟩ := List.mem_map.mp q
          have hm := (CI.mem F2 (n := c.1) (c := c.2) hc).1
          obtain ⟨o, e⟩ := aliveW c.2 (List.mem_cons_of_mem _ (List.mem_map.mpr ⟨c, hm, rfl⟩))
          rw [hnew _ ha] at e; cases e
      have O2 : ∀ a ∈ own, B.s₀.heap.get? a = none := by
        intro a ha
        cases e : B.s₀.heap.get? a with
        | none => rfl
        | some o => have := G.keep a o e; rw [hnew a ha] at this; cases this
      have hCB : B.s₀.heap.get? H.objs.size = none := by
        cases e : B.s₀.heap.get? H.objs.size with
        | none => rfl
        | some o => have := G.keep _ o e; rw [hCs] at this; cases this
      have dead : ∀ {b o}, s.heap.get? b = some o → b ∉ own ∧ b ≠ H.objs.size := by
        intro b o e
        refine ⟨fun q => ?_, fun q => ?_⟩
        · rw [hnew b q] at e; cases e
        · rw [q, hCs] at e; cases e
      -- the loop
      have loop : codeAny (model B.prog B.w) A (.compLoop (.ListComp elt [⟨target, iter, ifs, 0⟩] scope pos) 0 (.ref I) (.ref s1.heap.objs.size) (compEnvC scope (closGo env.cells scope.names []) H.objs.size env))
          (compPost (model B.prog B.w) A E use Q (.ref s1.heap.objs.size) H.objs.size) { s1 with heap := h3, toks := s1.toks + ([] : List (Str × Value)).length } := by
        refine comp_loop (fun n s4 => ∃ it4 loc4 hp4 ρ4, Ext ρ s.heap ρ4 s4.heap [] ∧ Good B ρ4 hp4 s4 ∧ FrR B Γ' (compEnvC scope (closGo env.cells scope.names []) H.objs.size env) loc4 ρ4 s4.heap ∧ ItR s4.heap ρ4 it4 I own ∧ (∀ a ∈ own, a ∉ ρ4) ∧
          ρ4[hp1.length]? = some s1.heap.objs.size ∧ H.objs.size ∉ ρ4 ∧ compGo t mc me hp1.length n it4 loc4 hp4 = some hp') ?_ n
          ⟨it, compLoc k ci loc, _, _, x1.trans (x2.trans x3), G3, F3, R3, hout3, hD, hCρ3, h2⟩
        rintro n s4 ⟨it4, loc4, hp4, ρ4, x4, G4, F4, R4, hout4, hD4, hC4, hgo⟩ E'
        have O : OwnOk B ρ4 (compEnvC scope (closGo env.cells scope.names []) H.objs.size env) own := ⟨hout4, O1, O2⟩
        cases n with
        | zero => cases hgo
        | succ n =>
          unfold compGo at hgo
          split at hgo
          · cases hgo
          · rename_i hn
            cases hgo
            refine next_end hn G4 R4 hA fun s5 b5 => ?_
            have G5 := b5.good G4 O R4.noTup
            have F5 := b5.fr G4 F4 O R4.noTup
            have x5 : Ext ρ s.heap ρ4 s5.heap [] := ⟨x4.more, fun b o e h1 h2 => b5.keep b o (x4.keep b o e h1 h2) (dead e).1, fun b o e h2 => by
              obtain ⟨o', e'⟩ := x4.alive b o e h2
              exact ⟨o', b5.keep b o' e' (dead e).1⟩⟩
            obtain ⟨m, hm, _⟩ := F5.ns
            exact fin _ _ ρ4 s5 m x5 G5 (.ref _ _ hD4) hm hCs hCB hC4
          · rename_i y it5 hn
            split at hgo
            · cases hgo
            · rename_i hfit
              split at hgo
              · cases hgo
              · rename_i loc5 hset
                refine draw (d := d) hn hset hfit T G4 F4 R4 O hA fun s5 Dn => ?_
                have x5 : Ext ρ s.heap ρ4 s5.heap [] := ⟨x4.more, fun b o e h1 h2 => Dn.keep b o (x4.keep b o e h1 h2) (x4.notin e h1) (dead e).1 (fun q => (dead e).2 (CI.wr ht q)), fun b o e h2 => by
                  obtain ⟨o', e'⟩ := x4.alive b o e h2
                  by_cases hb : b ∈ ρ4
                  · exact Dn.good.alive hb
                  · exact ⟨o', Dn.keep b o' e' hb (dead e).1 (fun q => (dead e).2 (CI.wr ht q))⟩⟩
                have next : ∀ {hp6 : List MO} {ρ6 : List Addr} {s6 : Shared} {loc6 : Loc}, Ext ρ4 s5.heap ρ6 s6.heap [] → Good B ρ6 hp6 s6 → FrR B Γ' (compEnvC scope (closGo env.cells scope.names []) H.objs.size env) loc6 ρ6 s6.heap →
                    compGo t mc me hp1.length n it5 loc6 hp6 = some hp' → ∃ m, m < n + 1 ∧ ∃ it4 loc4 hp4 ρ4, Ext ρ s.heap ρ4 s6.heap [] ∧ Good B ρ4 hp4 s6 ∧ FrR B Γ' (compEnvC scope (closGo env.cells scope.names []) H.objs.size env) loc4 ρ4 s6.heap ∧ ItR s6.heap ρ4 it4 I own ∧ (∀ a ∈ own, a ∉ ρ4) ∧
                      ρ4[hp1.length]? = some s1.heap.objs.size ∧ H.objs.size ∉ ρ4 ∧ compGo t mc me hp1.length m it4 loc4 hp4 = some hp' := by
                  intro hp6 ρ6 s6 loc6 x6 G6 F6 hgo
                  refine ⟨n, Nat.lt_succ_self _, it5, loc6, hp6, ρ6, x5.trans x6, G6, F6, Dn.itr.ext x6 hout4 (fun _ _ q => nomatch q), fun a ha => ?_, x6.get hD4, F6.out _ (List.mem_cons_self ..), hgo⟩
                  obtain ⟨o, e⟩ := Dn.itr.alive a ha
                  exact x6.notin e (hout4 a ha)
                split at hgo
                · cases hgo
                · rename_i hp6 hc
                  refine Sc _ loc5 hp4 false hp6 ρ4 s5 hc Dn.good Dn.fr A _ _ hA fun ρ6 s6 x6 G6 => ?_
                  simp only [Bool.false_eq_true, if_false]
                  exact next x6 G6 (Dn.fr.ext Dn.good x6) hgo
                · rename_i hp6 hc
                  refine Sc _ loc5 hp4 true hp6 ρ4 s5 hc Dn.good Dn.fr A _ _ hA fun ρ6 s6 x6 G6 => ?_
                  simp only [if_true]
                  have F6 := Dn.fr.ext Dn.good x6
                  split at hgo
                  · cases hgo
                  · rename_i w hp7 he
                    refine Se.run he G6 F6 hA fun u ρ7 s7 x7 G7 F7 r7 => ?_
                    split at hgo
                    · cases hgo
                    · rename_i w2 hp8 happ
                      refine call_append (d := d) [.ref hp1.length, w] hp7 w2 hp8 ρ7 s7 [.ref s1.heap.objs.size, u] happ G7 (.cons (.ref _ _ (x7.get (x6.get hD4))) (.cons r7 .nil)) A _ _ hA fun u8 ρ8 s8 x8 G8 r8 => ?_
                      exact next (x6.trans (x7.trans x8)) G8 (F7.ext G7 x8) hgo
      exact codeAny_compStart_list loop (R3.self (s := { s1 with heap := h3, toks := s1.toks + ([] : List (Str × Value)).length }) loop)
theorem snd_comp {n : Nat} {t : Tgt} {elt target iter : PySem.Expr} {ifs : List PySem.Expr} {pos : Pos} {mi : MI} {mc : MT} {me : ME}
    (CI : CompIs Γ Γ' scope k ci) (T : TgtIs Γ' t target) (ht : tgtOwn t k = true) (Si : SndI B d Γ iter mi) (Sc : SndC B d Γ' ifs mc) (Se : SndE B d Γ' elt me)
    (hfold : ∀ env x, foldedSetIterable iter env x = pure x := by intro _ _; rfl) : SndE B d Γ (.ListComp elt [⟨target, iter, ifs, 0⟩] scope pos) (mComp n t mi mc me k ci) := by
  intro env loc hp v hp' ρ s hm G F A Q E hA kk
  rw [eval_ListComp]
  refine comp_core CI T ht Si Sc Se hm G F hA (hfold env) fun D C ρ' s' m x' G' r' hn hC hCB hCρ => ?_
  refine ⟨m, hn, fun h' hs => ?_⟩
  have nt : NoTup s'.heap [C] := fun a ha its => by rw [List.mem_singleton.mp ha]; exact Ns.notTup hn
  obtain ⟨G'', x''⟩ := G'.touch (h' := h') (tk := s'.toks) (W := [C]) (fun b o e hb => (hs.2 b (fun q => hb (by rw [q]; exact List.mem_cons_self ..))).trans e)
    (fun a ha => by rw [List.mem_singleton.mp ha]; exact hCρ) (fun a ha => by rw [List.mem_singleton.mp ha]; exact hCB) nt
  refine kk _ ρ' _ ⟨x'.more, fun b o e h1 h2 => x''.keep b o (x'.keep b o e h1 h2) (x'.notin e h1) (fun q => ?_), fun b o e h2 => ?_⟩ G'' (G'.vr x'' nt r')
  · rw [List.mem_singleton.mp q, hC] at e; cases e
  · obtain ⟨o', e'⟩ := x'.alive b o e h2
    exact x''.alive b o' e' fun q => by rw [List.mem_singleton.mp q, hC] at e; cases e
theorem snd_setcomp {n i : Nat} {t : Tgt} {x : Str} {p : Pos} {elt target iter : PySem.Expr} {ifs : List PySem.Expr} {pos spos : Pos} {mi : MI} {mc : MT} {me : ME}
    (CI : CompIs Γ Γ' scope k ci) (T : TgtIs Γ' t target) (ht : tgtOwn t k = true) (Si : SndI B d Γ iter mi) (Sc : SndC B d Γ' ifs mc) (Se : SndE B d Γ' elt me)
    (hi : Γ.tbl[i]? = some x) (hl : Γ.sc.lookup x = some .local)
    (hsw : ∀ env : Env, env.scope.kind = .function → env.scope.names = Γ.sc → swapsWith (.ListComp elt [⟨target, iter, ifs, 0⟩] scope pos) (some (.Name x p)) spos.line env = pure true)
    (hfold : ∀ env x, foldedSetIterable iter env x = pure x := by intro _ _; rfl) : SndX B d Γ (.Assign [.Name x p] (.ListComp elt [⟨target, iter, ifs, 0⟩] scope pos) spos) (sSet i (mComp n t mi mc me k ci)) := by
  intro env loc hp fl loc' hp' ρ s hm G F A Q E hA kk
  unfold sSet at hm
  split at hm
  · cases hm
  · rename_i v hp1 h1
    cases hm
    rw [exec_Assign_Name_used _ _ _ _ (hsw env F.kind F.names)]
    refine wpAny_bind (wpAny_standAt (wpAny_bind ?_))
    show wpAny _ A (do let _ ← comprehension (.ListComp elt [⟨target, iter, ifs, 0⟩] scope pos) scope env _ (newList []) false (eval iter env) (some (assign (.Name x p) env))) _ _ s
    refine wpAny_bind (wpAny_mono (Q := fun _ s' => Q .next s') ?_ (fun _ s' hq => wpAny_pure (wpAny_pure hq)) fun _ _ e => e)
    refine comp_core (use := some (assign (.Name x p) env)) CI T ht Si Sc Se h1 G F hA (hfold env) fun D C ρ' s' m x' G' r' hn hC hCB hCρ => ?_
    have F' := F.ext G x'
    refine PySem.wpAny_assign_Name (store_ok hi (by rw [hl]; decide) G' F' r' fun s2 x2 G2 F2 => ?_)
    have hCL : C ≠ env.locals := fun q => by
      obtain ⟨m, ⟨o, _, _, e, _⟩, _⟩ := F.ns
      rw [← q, hC] at e; cases e
    have hn2 : s2.heap.Ns C m := hn.at fun o e => x2.keep C o e hCρ (fun q => by
      unfold wrX at q
      rw [if_pos hl] at q
      exact hCL (List.mem_singleton.mp q))
    refine ⟨m, hn2, fun h' hs => ?_⟩
    have nt : NoTup s2.heap [C] := fun a ha its => by rw [List.mem_singleton.mp ha]; exact Ns.notTup hn2
    have hCW : C ∉ envW env := fun q => by
      rcases List.mem_cons.mp q with q | q
      · exact hCL q
      · obtain ⟨c, hc, e⟩ := List.mem_map.mp q
        obtain ⟨u, o, e', _⟩ := F.cells c hc
        rw [e, hC] at e'; cases e'
    have b : Beside B ρ' [C] s2 { s2 with heap := h' } := Beside.ofSame (tk := s2.toks) s2 (List.mem_cons_self ..) hs
    have O : OwnOk B ρ' env [C] := ⟨fun a ha => by rw [List.mem_singleton.mp ha]; exact hCρ, fun a ha => by rw [List.mem_singleton.mp ha]; exact hCW, fun a ha => by rw [List.mem_singleton.mp ha]; exact hCB⟩
    have G3 := b.good G2 O nt
    have F3 := b.fr G2 F2 O nt
    refine kk .next ρ' _ ?_ G3 F3 .next
    have x3 : Ext ρ s.heap ρ' s2.heap (envW env) := x'.nil.trans x2.wr F'.out
    refine ⟨x3.more, fun b' o e h1 h2 => b.keep b' o (x3.keep b' o e h1 h2) (fun q => ?_), fun b' o e h2 => ?_⟩
    · rw [List.mem_singleton.mp q, hC] at e; cases e
    · obtain ⟨o', e'⟩ := x3.alive b' o e h2
      exact ⟨o', b.keep b' o' e' (fun q => by rw [List.mem_singleton.mp q, hC] at e; cases e)⟩
end
end Mine
end
section
open PySem PySem.W PyProof.Rows PySem.Spec PySem.Calls
set_option linter.unusedVariables false
namespace Mine
noncomputable def sExpr (m : ME) : MS := fun loc hp => match m loc hp with
  | none => none
  | some (_, hp1) => some (.next, loc, hp1)
noncomputable def sSet2 (i j : Nat) (m : ME) : MS := fun loc hp => match m loc hp with
  | some (.tup [a, b], hp1) => some (.next, (loc.set i (some a)).set j (some b), hp1)
  | _ => none
section
variable {B : Base} {d : Nat} {Γ Γ' : Ctx} {env : Env} {loc : Loc} {hp hp' : List MO} {ρ : List Addr} {s : Shared} {A : Around} {E : Value → Shared → Prop}
theorem not_interactive {h : Heap} (F : FrR B Γ env loc ρ h) : interactive env = false := by
  unfold interactive
  rw [F.kind]; rfl
theorem snd_expr {e : PySem.Expr} {pos : Pos} {m : ME} (S : SndE B d Γ e m) (hs : ∀ env, swapsWith e none pos.line env = pure false := by intros; rfl) : SndX B d Γ (.Expr e pos) (sExpr m) := by
  intro env loc hp fl loc' hp' ρ s hm G F A Q E hA k
  unfold sExpr at hm
  split at hm
  · cases hm
  · rename_i v hp1 h1
    cases hm
    exact wpAny_Expr_any (S.run h1 G F hA fun u ρ1 s1 x1 G1 F1 r1 => k .next ρ1 s1 x1.nil G1 F1 .next) (not_interactive F) (hs env)
theorem snd_set2 {i j : Nat} {x y : Str} {p q tpos pos : Pos} {kk : Nat} {e : PySem.Expr} {m : ME} (S : SndE B d Γ e m) (hi : Γ.tbl[i]? = some x) (hj : Γ.tbl[j]? = some y)
    (hfi : Γ.sc.lookup x ≠ some .free := by decide) (hfj : Γ.sc.lookup y ≠ some .free := by decide)
    (hs : ∀ env, swapsWithSole [.Tuple [.Name x p, .Name y q] kk tpos] e pos.line env = pure false := by intros; rfl)
    (hw : ∀ env, swappedStores [.Tuple [.Name x p, .Name y q] kk tpos] e env = pure none := by intros; rfl) : SndX B d Γ (.Assign [.Tuple [.Name x p, .Name y q] kk tpos] e pos) (sSet2 i j m) := by
  intro env loc hp fl loc' hp' ρ s hm G F A Q E hA k
  unfold sSet2 at hm
  split at hm
  · rename_i a b hp1 h1
    cases hm
    refine Assign_Tuple (S.run h1 G F hA fun u ρ1 s1 x1 G1 F1 r1 => ?_) (hs env) (hw env)
    cases r1 with
    | tup _ vs T ht hv =>
      cases hv with
      | cons ra hv => cases hv with
        | cons rb hv =>
          cases hv
          rename_i ua ub
          refine wpAny_assign_Tuple hA.handled ht rfl rfl fun h' hx => ?_
          have hk : ∀ c o, s1.heap.get? c = some o → h'.get? c = some o := fun c o e => hx c o (Nat.ne_of_lt (Heap.lt_size e)) e
          have x0 : Ext ρ1 s1.heap ρ1 h' [] := .keeps hk
          have G0 := G1.keeps (tk := s1.toks) hk
          have F0 := F1.ext G1 x0
          show wpAny _ A (do holding [ub] (assign (.Name x p) env ua); do holding [] (assign (.Name y q) env ub); pure ()) _ _ _
          refine wpAny_bind (wpAny_holding (PySem.wpAny_assign_Name (store_ok hi hfi G0 F0 (G1.vr x0 .nil ra) fun s2 x2 G2 F2 => ?_)))
          refine wpAny_bind (wpAny_holding (PySem.wpAny_assign_Name (store_ok hj hfj G2 F2 (G0.vr x2.wr F0.noTup (G1.vr x0 .nil rb)) fun s3 x3 G3 F3 => wpAny_pure ?_)))
          exact k .next ρ1 s3 ((x1.trans x0).nil.trans (x2.wr.trans x3.wr F2.out) F2.out) G3 F3 .next
  · cases hm
/- what stands in the heap that the module has made -/
theorem Base.Ok.glob {x : Str} {v : Value} (O : B.Ok) (e : nsIn B.K mainGlobals x = some (some v)) : B.mg x = some v := mg_of O.k O.g e
theorem Base.Ok.noglob {x : Str} (O : B.Ok) (e : nsIn B.K mainGlobals x = some none) : B.mg x = none := mg_none_of O.k O.g e
theorem FunIs.ofK {a c : Addr} {o oc : Obj} {fd : FuncData} {body : List PySem.Stmt} {vs : Array Value} {t : Tok} (O : B.Ok) (hl : B.K.lookup a = some o) (hd : o.data = .func fd) (hb : fd.body = .stmts body)
    (hc : fd.code = .ref c) (hlc : B.K.lookup c = some oc) (hdc : oc.data = .fields vs) (hq : vs[1]? = some (.str fd.qualname t))
    (hclo : fd.closure = []) (hco : fd.scope.isCoroutine = false) (hgen : fd.scope.isGenerator = false) (hkind : fd.scope.kind = .function) (hg : fd.globals = mainGlobals) (hblt : fd.builtins = builtinsNs)
    (hsc : fd.scope.names = Γ.sc) (nofree : (Γ.sc.all fun p => p.2 != .free) = true) (keys : (Γ.sc.map (·.1)).Nodup) (tbl : (Γ.tbl.all fun x => Γ.sc.lookup x == some .local || Γ.sc.lookup x == some .cell) = true) (tnd : Γ.tbl.Nodup) : FunIs B a fd Γ body :=
  ⟨⟨o, O.k a o hl, hd⟩, ⟨c, oc, vs, t, hc, O.k c oc hlc, hdc, hq⟩, hb, hclo, hco, hgen, hkind, hg, hblt, hsc, nofree, keys, tbl, tnd⟩
end
end Mine
end
section
open PySem PySem.W PyProof.Rows PySem.Spec PySem.Calls
set_option linter.unusedVariables false
namespace Mine
theorem ns_some_of {K : Frag} {h : Heap} {N : Addr} {mg : Str → Option Value} {n : Str} {v : Value} (X : K.In h) (G : h.Ns N mg) (e : nsIn K N n = some (some v)) : mg n = some v := by
  obtain ⟨o, es, ep, ho, hd, _, hf⟩ := G
  unfold nsIn at e
  split at e
  · rename_i c d es' n' sl q
    have := X _ _ q
    rw [ho] at this
    cases this
    cases hd
    split at e
    · rename_i en he
      cases e
      rw [← hf]
      unfold nsFind findBy
      rw [← Array.find?_toList, he]
      rfl
    · split at e <;> cases e
  · cases e
structure HCls (B : Base) (C N : Addr) (mN : Str → Option Value) : Prop where
  obj : ∃ nm q bs sn sub ab col dd k0 k1 k2 k3 k5 newId, B.s₀.heap.get? C = some (excClassObj nm q C N bs [.type "object"] true sn sub ab col dd k0 k1 k2 k3 k5 newId)
  ns : B.s₀.heap.Ns N mN
  ga : mN "__getattribute__" = none
  gx : mN "__getattr__" = none
  sa : mN "__setattr__" = none
  hd : mN "_headers" = none
theorem HCls.ofK {B : Base} {C N : Addr} {nm q bs sn sub ab col dd k0 k1 k2 k3 k5 newId} (O : B.Ok) (hl : B.K.lookup C = some (excClassObj nm q C N bs [.type "object"] true sn sub ab col dd k0 k1 k2 k3 k5 newId))
    (hN : nsOkIn B.K N = true) (h1 : nsIn B.K N "__getattribute__" = some none) (h2 : nsIn B.K N "__getattr__" = some none) (h3 : nsIn B.K N "__setattr__" = some none) (h4 : nsIn B.K N "_headers" = some none) :
    HCls B C N (B.s₀.heap.nsMap N) :=
  ⟨⟨_, _, _, _, _, _, _, _, _, _, _, _, _, _, O.k _ _ hl⟩, .of_isNs (isNs_of_in O.k hN), nsMap_none_of_in O.k hN h1, nsMap_none_of_in O.k hN h2, nsMap_none_of_in O.k hN h3, nsMap_none_of_in O.k hN h4⟩
theorem HCls.meth {B : Base} {C N : Addr} {n : Str} {v : Value} (O : B.Ok) (hN : nsOkIn B.K N = true) (h : nsIn B.K N n = some (some v)) : B.s₀.heap.nsMap N n = some v :=
  ns_some_of O.k (.of_isNs (isNs_of_in O.k hN)) h
theorem lk_headers : typeLookup (.type "object") "_headers" = pure none := by rw [typeLookup_type, builtinLookup_eq_fast]; kernel_rfl
noncomputable def instAt (C : Addr) (hp : List MO) (i : Nat) : Option Nat := match hp[i]? with
  | some (.inst C' d) => if C' = C then some d else none
  | _ => none
noncomputable def ownAt (hp : List MO) (d : Nat) : Option (Option MV) := match hp[d]? with
  | some (.idict v) => some v
  | _ => none
noncomputable def instOf (C : Addr) (a : MV) (hp : List MO) : Option (Nat × Option MV) := match a with
  | .ref i => match instAt C hp i with
    | none => none
    | some d => match ownAt hp d with
      | none => none
      | some v => some (d, v)
  | _ => none
theorem instAt_is {C : Addr} {hp : List MO} {i d : Nat} (h : instAt C hp i = some d) : hp[i]? = some (.inst C d) := by
  unfold instAt at h
  split at h
  · rename_i C' d' e
    split at h
    · rename_i hC
      cases h; rw [e, hC]
    · cases h
  · cases h
theorem ownAt_is {hp : List MO} {d : Nat} {v : Option MV} (h : ownAt hp d = some v) : hp[d]? = some (.idict v) := by
  unfold ownAt at h
  split at h
  · rename_i v' e
    cases h; exact e
  · cases h
theorem instOf_is {C : Addr} {a : MV} {hp : List MO} {d : Nat} {v : Option MV} (h : instOf C a hp = some (d, v)) : ∃ i, a = .ref i ∧ hp[i]? = some (.inst C d) ∧ hp[d]? = some (.idict v) := by
  unfold instOf at h
  split at h
  · rename_i i
    split at h
    · cases h
    · rename_i d' h1
      split at h
      · cases h
      · rename_i v' h2
        cases h
        exact ⟨i, rfl, instAt_is h1, ownAt_is h2⟩
  · cases h
noncomputable def mAttr (C : Addr) (m : ME) : ME := fun loc hp => match m loc hp with
  | none => none
  | some (a, hp1) => match instOf C a hp1 with
    | some (_, some (.ref j)) => some (.ref j, hp1)
    | _ => none
noncomputable def sAttr (C : Addr) (mo : ME) (mv : ME) : MS := fun loc hp => match mv loc hp with
  | none => none
  | some (v, hp1) => match mo loc hp1 with
    | none => none
    | some (a, hp2) => match instOf C a hp2 with
      | some (d, none) => some (.next, loc, hp2.set d (.idict (some v)))
      | _ => none
section
variable {B : Base} {d : Nat} {Γ Γ' : Ctx} {env : Env} {loc : Loc} {hp hp' : List MO} {ρ : List Addr} {s : Shared} {A : Around} {E : Value → Shared → Prop} {C N : Addr} {mN : Str → Option Value}
theorem Good.idx (G : Good B ρ hp s) {i j : Nat} {a : Addr} (e : ρ[i]? = some a) (e' : ρ[j]? = some a) : i = j := by
  obtain ⟨h1, e1⟩ := List.getElem?_eq_some_iff.mp e
  obtain ⟨h2, e2⟩ := List.getElem?_eq_some_iff.mp e'
  have nd := List.pairwise_iff_getElem.mp G.nd
  rcases Nat.lt_trichotomy i j with q | q | q
  · exact absurd (e1.trans e2.symm) (nd i j h1 h2 q)
  · exact q
  · exact absurd (e2.trans e1.symm) (nd j i h2 h1 q)
theorem Good.inst (G : Good B ρ hp s) {a : MV} {ua : Value} {dd : Nat} {v : Option MV} (h : instOf C a hp = some (dd, v)) (r : VR s.heap ρ B.l₀ a ua) :
    ∃ (ix : Nat) (x dx : Addr) (mA : Str → Option Value), ua = .ref x ∧ ρ[ix]? = some x ∧ hp[ix]? = some (MO.inst C dd) ∧ ρ[dd]? = some dx ∧ hp[dd]? = some (MO.idict v) ∧ InstIs s.heap x C dx ∧ x ≠ dx ∧ s.heap.Inst x C mA ∧ s.heap.Ns1 dx mA ∧ (match v with | none => ∀ y, mA y = none | some w => ∃ u, VR s.heap ρ B.l₀ w u ∧ ∀ y, mA y = if y = Str.ofString "_headers" then some u else none) := by
  obtain ⟨i, rfl, hi, hd⟩ := instOf_is h
  cases r with
  | ref _ x ex =>
    have o1 := G.ok i _ x hi ex
    cases o1 with
    | inst _ _ _ dx ed hI =>
      have o2 := G.ok dd _ dx hd ed
      have hne : x ≠ dx := fun q => by
        subst q
        have := G.idx ex ed
        subst this
        rw [hi] at hd; cases hd
      obtain ⟨o, eo, hcls, hdict, hnc⟩ := id hI
      cases o2 with
      | idict0 _ m hns hm => exact ⟨i, x, dx, m, rfl, ex, hi, ed, hd, hI, hne, ⟨o, eo, hcls, hnc, .inr ⟨dx, hdict, Ne.symm hne, hns⟩⟩, hns, hm⟩
      | idict1 _ m w u hns hv hm => exact ⟨i, x, dx, m, rfl, ex, hi, ed, hd, hI, hne, ⟨o, eo, hcls, hnc, .inr ⟨dx, hdict, Ne.symm hne, hns⟩⟩, hns, u, hv, hm⟩
theorem HCls.now (H : HCls B C N mN) (G : Good B ρ hp s) : (∃ nm q bs sn sub ab col dd k0 k1 k2 k3 k5 newId, s.heap.get? C = some (excClassObj nm q C N bs [.type "object"] true sn sub ab col dd k0 k1 k2 k3 k5 newId)) ∧ s.heap.Ns N mN := by
  obtain ⟨nm, q, bs, sn, sub, ab, col, dd, k0, k1, k2, k3, k5, newId, e⟩ := H.obj
  exact ⟨⟨nm, q, bs, sn, sub, ab, col, dd, k0, k1, k2, k3, k5, newId, G.keep _ _ e⟩, H.ns.keeps G.keep⟩
theorem snd_attr {value : PySem.Expr} {attr : Str} {pos : Pos} {m : ME} (H : HCls B C N mN) (S : SndE B d Γ value m) (ha : attr = "_headers") (hbase : ∀ env, attributeBase value attr env (eval value env) = eval value env := by intros; rfl) :
    SndE B d Γ (.Attribute value attr pos) (mAttr C m) := by
  subst ha
  intro env loc hp v hp' ρ s hm G F A Q E hA k
  unfold mAttr at hm
  split at hm
  · cases hm
  · rename_i a hp1 h1
    split at hm
    · rename_i dd j hi
      cases hm
      rw [arm_eval_Attribute, hbase]
      refine wpAny_bind (S.run h1 G F hA fun ua ρ1 s1 x1 G1 F1 r1 => wpAny_bind (wpAny_standAt (wpAny_bind (wpAny_holding ?_))))
      obtain ⟨_, x, dx, mA, rfl, _, _, _, _, _, _, hI, _, u, hu, hmA⟩ := G1.inst hi r1
      obtain ⟨⟨nm, q, bs, sn, sub, ab, col, dd', k0, k1, k2, k3, k5, newId, hC⟩, hn⟩ := H.now G1
      cases hu with
      | ref _ au eu =>
        obtain ⟨h, g, dr, t, os⟩ := s1
        refine load_attr hC hn H.ga H.hd lk_headers hI (v := .ref au) (by rw [hmA, if_pos rfl]) rfl ?_
        refine wpAny_bind (wpAny_letTemporaryGo (wpAny_pure ?_))
        exact k (.ref au) ρ1 _ x1 (G1.tok (t + 1)) (.ref _ _ eu)
    · cases hm
theorem snd_sattr {o value : PySem.Expr} {attr : Str} {p pos : Pos} {mo mv : ME} (H : HCls B C N mN) (So : SndE B d Γ o mo) (Sv : SndE B d Γ value mv) (ha : attr = "_headers")
    (hs : ∀ env, swapsWith value (some (.Attribute o attr p)) pos.line env = pure false := by intros; rfl) : SndX B d Γ (.Assign [.Attribute o attr p] value pos) (sAttr C mo mv) := by
  subst ha
  intro env loc hp fl loc' hp' ρ s hm G F A Q E hA k
  unfold sAttr at hm
  split at hm
  · cases hm
  · rename_i v hp1 h1
    split at hm
    · cases hm
    · rename_i a hp2 h2
      split at hm
      · rename_i dd hi
        cases hm
        refine plainObj_wpAny_Assign_Attribute (Sv.run h1 G F hA fun uv ρ1 s1 x1 G1 F1 r1 => So.run h2 G1 F1 hA fun ua ρ2 s2 x2 G2 F2 r2 => ?_) (hs env)
        obtain ⟨ix, x, dx, mA, rfl, ex, hix, ed, hd, hII, hne, hI, hns, hmA⟩ := G2.inst hi r2
        obtain ⟨⟨nm, q, bs, sn, sub, ab, col, dd', k0, k1, k2, k3, k5, newId, hC⟩, hn⟩ := H.now G2
        have rv := G1.vr x2 .nil r1
        have hxC : x ≠ C := fun q => by
          obtain ⟨o, eo, _, _, hnc⟩ := hII
          subst q
          rw [hC] at eo; cases eo
          exact hnc _ rfl
        obtain ⟨h, g, dr, t, os⟩ := s2
        refine store_attr (ns := []) PySem.F.store_object hC hn H.sa H.hd lk_headers hxC hI (fun h' tk' hI' hk hsame => ?_) (fun y hy => absurd (hmA y) hy) (Nat.zero_le _)
        obtain ⟨o, eo, hcls, hdict, hnc⟩ := id hII
        obtain ⟨o1, eo1, hcls1, hdat1, _, hdict1⟩ := hsame o eo
        -- the own dict behind
        obtain ⟨o2, eo2, _, _, hdd⟩ := hI'
        have hns' : h'.Ns1 dx (fun y => if y = Str.ofString "_headers" then some uv else mA y) := by
          rw [eo1] at eo2; cases eo2
          rcases hdd with ⟨q, _⟩ | ⟨d2, q, _, hn2⟩
          · rw [hdict1 dx hdict] at q; cases q
          · rw [hdict1 dx hdict] at q; cases q; exact hn2
        have keepx : ∀ b ob, b ≠ x → b ≠ dx → h.get? b = some ob → h'.get? b = some ob := fun b ob hb hb2 e => hk b ob hb (fun o₀ dx' e1 e2 => by rw [eo] at e1; cases e1; rw [hdict] at e2; cases e2; exact hb2) e
        have hxρ : x ∈ ρ2 := List.mem_of_getElem? ex
        have hdρ : dx ∈ ρ2 := List.mem_of_getElem? ed
        have xx : Ext ρ2 h ρ2 h' [] := ⟨⟨[], by simp, fun _ q => nomatch q⟩, fun b ob e hb _ => keepx b ob (fun q => hb (q ▸ hxρ)) (fun q => hb (q ▸ hdρ)) e, fun b ob e _ => by
          by_cases q : b = x
          · subst q; exact ⟨o1, eo1⟩
          · by_cases q2 : b = dx
            · subst q2; obtain ⟨oo, _, _, e', _⟩ := hns'; exact ⟨oo, e'⟩
            · exact ⟨ob, keepx b ob q q2 e⟩⟩
        have rv' := G2.vr xx .nil rv
        have hor : OR h' ρ2 B.l₀ (.idict (some v)) dx := .idict1 dx _ v uv hns' rv' fun y => by
          show (if y = Str.ofString "_headers" then some uv else mA y) = _
          rw [hmA y]
        have G3 : Good B ρ2 (hp2.set dd (.idict (some v))) ⟨h', g, dr, tk', os⟩ := by
          refine ⟨?_, ?_, G2.fresh, G2.nd, by rw [List.length_set]; exact G2.len, ?_⟩
          · obtain ⟨h0, t0, e0⟩ := G2.same
            refine ⟨h', tk', ?_⟩
            cases e0; rfl
          · intro b ob e
            exact keepx b ob (fun q => by rw [q, G2.fresh x hxρ] at e; cases e) (fun q => by rw [q, G2.fresh dx hdρ] at e; cases e) (G2.keep b ob e)
          · intro j mo' b e1 e2
            by_cases hj : dd = j
            · subst hj
              rw [ed] at e2; cases e2
              rw [List.getElem?_set_self (by have := (List.getElem?_eq_some_iff.mp ed).1; rw [← G2.len]; exact this)] at e1
              cases e1; exact hor
            · rw [List.getElem?_set_ne hj] at e1
              have hbd : b ≠ dx := fun q => by
                subst q
                obtain ⟨h1, e1'⟩ := List.getElem?_eq_some_iff.mp ed
                obtain ⟨h2, e2'⟩ := List.getElem?_eq_some_iff.mp e2
                have nd := List.pairwise_iff_getElem.mp G2.nd
                rcases Nat.lt_or_gt_of_ne hj with q | q
                · exact nd dd j h1 h2 q (e1'.trans e2'.symm)
                · exact nd j dd h2 h1 q (e2'.trans e1'.symm)
              have ob := G2.ok j mo' b e1 e2
              by_cases hbx : b = x
              · subst hbx
                have := G2.idx ex e2
                subst this
                rw [hix] at e1; cases e1
                exact .inst C dd b dx ed ⟨o1, eo1, hcls1.trans hcls, hdict1 dx hdict, fun c => by rw [hdat1]; exact hnc c⟩
              · exact ob.ext xx G2.nt .nil fun ob' e' => keepx b ob' hbx hbd e'
        exact k .next ρ2 _ (x1.trans (x2.trans xx)).nil G3 (F2.ext G2 xx) .next
      · cases hm
end
end Mine
end
section
open PySem PySem.W PyProof.Rows PySem.Spec PySem.Calls
set_option linter.unusedVariables false
namespace Mine
abbrev plainMk (us : List Value) : Args := ⟨us, []⟩
abbrev kwMk (n : Str) (us : List Value) : Args := ⟨us.dropLast, [(n, us.getLastD .none)]⟩
noncomputable def CodeOk (B : Base) (d : Nat) (f : Value) (mk : List Value → Args) (g : GF) : Prop :=
  ∀ vs hp v hp' ρ s us, g vs hp = some (v, hp') → Good B ρ hp s → VRL s.heap ρ B.l₀ vs us → ∀ (A : Around) (R : Result → Shared → Prop), AOK d A →
    (∀ u ρ' s', Ext ρ s.heap ρ' s'.heap [] → Good B ρ' hp' s' → VR s'.heap ρ' B.l₀ v u → R (.ok (.ret u)) s') → codeAny (model B.prog B.w) A (.call f (mk us)) R s
theorem CodeOk.call {B : Base} {d : Nat} {f : Value} {g : GF} (K : CodeOk B d f plainMk g) : CallOk B d f g := by
  intro vs hp v hp' ρ s us hm G r A Q E hA k
  exact wpAny_call (K vs hp v hp' ρ s us hm G r A _ hA fun u ρ' s' x G' r' => k u ρ' s' x G' r')
abbrev XT := List MV → List MO → Option (List MV × List MO)
noncomputable def xPlain (n : Nat) : XT := fun vs hp => if vs.length = n then some (vs, hp) else none
noncomputable def xDflt (n : Nat) (ds : List MV) : XT := fun vs hp => if vs.length = n then some (vs ++ ds, hp) else none
noncomputable def xKwd (n : Nat) : XT := fun vs hp => if vs.length = n then some (vs ++ [.ref hp.length], hp ++ [.kwd]) else none
noncomputable def funX (x : XT) (k : Nat) (m : MS) : GF := fun vs hp => match x vs hp with
  | none => none
  | some (vs1, hp1) => outOf (m (loc0 vs1 k) hp1)
section
variable {B : Base} {d : Nat} {Γ Γ' : Ctx} {env : Env} {loc : Loc} {hp hp' : List MO} {ρ : List Addr} {s : Shared} {A : Around} {E : Value → Shared → Prop} {C N : Addr} {mN : Str → Option Value}
noncomputable def BindOk (B : Base) (d : Nat) (fd : FuncData) (mk : List Value → Args) (names : List Str) (x : XT) : Prop :=
  ∀ vs hp vs1 hp1 ρ s us, x vs hp = some (vs1, hp1) → Good B ρ hp s → VRL s.heap ρ B.l₀ vs us → vs1.length = names.length ∧
    ∀ (A : Around) (Q : List (Str × Value) → Shared → Prop) (E : Value → Shared → Prop), AOK d A → (∀ us1 ρ1 s1, Ext ρ s.heap ρ1 s1.heap [] → Good B ρ1 hp1 s1 → VRL s1.heap ρ1 B.l₀ vs1 us1 → Q (names.zip us1) s1) → wpAny (model B.prog B.w) A (bindArgs fd (mk us)) Q E s
theorem code_fun {a : Addr} {fd : FuncData} {body : List PySem.Stmt} {m : MS} {n k : Nat} {mk : List Value → Args} {x : XT} (O : B.Ok) (Fn : FunIs B a fd Γ body) (S : SndS B d Γ body m) (hn : n ≤ Γ.tbl.length)
    (hb : BindOk B d fd mk (Γ.tbl.take n) x) : CodeOk B (d + 1) (.ref a) mk (funX x k m) := by
  intro vs hp v hp' ρ s us hm G r A R hA k'
  unfold funX at hm
  split at hm
  · cases hm
  · rename_i vs1 hp1 hx
    obtain ⟨hl, hbind⟩ := hb vs hp vs1 hp1 ρ s us hx G r
    refine run_fun (names := Γ.tbl.take n) O Fn S G hA ?_ hl hm hbind k'
    rw [List.length_take, Nat.min_eq_left hn]
theorem bind_plain {fd : FuncData} {mk : List Value → Args} {names : List Str} {n : Nat} (hn : names.length = n) (h : ∀ us : List Value, us.length = n → bindArgs fd (mk us) = pure (names.zip us)) : BindOk B d fd mk names (xPlain n) := by
  intro vs hp vs1 hp1 ρ s us hx G r
  unfold xPlain at hx
  split at hx
  · rename_i hl
    cases hx
    refine ⟨hl.trans hn.symm, fun A Q E hA k => ?_⟩
    rw [h us (r.length.symm.trans hl)]
    exact wpAny_pure (k us ρ s .refl G r)
  · cases hx
theorem bind_dflt1 {fd : FuncData} {mk : List Value → Args} {names : List Str} {n : Nat} {t : Addr} {ot : Obj} {items : Array Value} {kk : Nat} {ds : List MV} {du : List Value} (O : B.Ok) (hn : names.length = n + ds.length)
    (hds : ∀ h ρ, VRL h ρ B.l₀ ds du) (hdef : fd.defaults = .ref t) (hl : B.K.lookup t = some ot) (hd : ot.data = .seq items kk)
    (h : ∀ us : List Value, us.length = n → ∀ (A : Around) (Q : List (Str × Value) → Shared → Prop) (E : Value → Shared → Prop) (s : Shared), s.heap.get? t = some ot → Q (names.zip (us ++ du)) s → wpAny (model B.prog B.w) A (bindArgs fd (mk us)) Q E s) :
    BindOk B d fd mk names (xDflt n ds) := by
  intro vs hp vs1 hp1 ρ s us hx G r
  unfold xDflt at hx
  split at hx
  · rename_i hlen
    cases hx
    have hu := r.length.symm.trans hlen
    refine ⟨by rw [List.length_append, hlen, hn], fun A Q E hA k => ?_⟩
    exact h us hu A Q E s (G.keep _ _ (O.k _ _ hl)) (k (us ++ du) ρ s .refl G (r.append (hds _ _)))
  · cases hx
theorem bind_kwd (O : B.Ok) {fd : FuncData} {mk : List Value → Args} {names : List Str} {n : Nat} (hn : names.length = n + 1)
    (h : ∀ us : List Value, us.length = n → bindArgs fd (mk us) = alloc { cls := .type "dict", data := .dict #[] } >>= fun a => pure (names.zip (us ++ [.ref a]))) : BindOk B d fd mk names (xKwd n) := by
  intro vs hp vs1 hp1 ρ s us hx G r
  unfold xKwd at hx
  split at hx
  · rename_i hlen
    cases hx
    have hu := r.length.symm.trans hlen
    refine ⟨by rw [List.length_append, hlen, hn]; rfl, fun A Q E hA k => ?_⟩
    rw [h us hu]
    refine wpAny_bind (wpAny_alloc (wpAny_pure ?_))
    obtain ⟨G', x⟩ := G.alloc (o := { cls := .type "dict", data := .dict #[] }) (mo := .kwd) rfl (.kwd _ ⟨Heap.get?_push_size _ rfl, by
      obtain ⟨o, _, _, e, _⟩ := O.g
      have h3 : (3 : Nat) < s.heap.objs.size := Heap.lt_size (G.keep _ _ e)
      intro q
      have q' : s.heap.objs.size = 1 := q
      omega⟩)
    exact k (us ++ [.ref s.heap.objs.size]) _ _ x G' ((G.vrl x .nil r).append (.cons (.ref _ _ (G.last _)) .nil))
  · cases hx
noncomputable def gMake (C : Addr) (gi : GF) : GF := fun vs hp => match gi (.ref (hp.length + 1) :: vs) (hp ++ [.idict none, .inst C hp.length]) with
  | some (.none, hp') => some (.ref (hp.length + 1), hp')
  | _ => none
theorem call_make {f : Addr} {gi : GF} (O : B.Ok) (hm : makesIn B.K C = true) (hi : findIn B.K (.ref C) "__init__" = some (some (.ref f))) (hf : typeIn B.K (.ref f) = some (.type "function"))
    (Ki : CodeOk B d (.ref f) plainMk gi) : CallOk B (d + 1) (.ref C) (gMake C gi) := by
  intro vs hp v hp' ρ s us hmm G r A Q E hA k
  unfold gMake at hmm
  split at hmm
  · rename_i hp2 h1
    cases hmm
    have X : B.K.In s.heap := Frag.In.keeps O.k G.keep
    refine wpAny_call ?_
    obtain ⟨h, g, dr, t, os⟩ := s
    refine make_core (makes_of X hm) (looks_findIn X hi) (fun self => bind_fn X self hf) (.inl rfl) ?_
    obtain ⟨G1, x1⟩ := G.alloc (o := emptyDict) (mo := .idict none) rfl (.idict0 _ (fun _ => none) (Heap.Ns1.of_empty (Heap.Ns.new h (.type "dict"))) fun _ => rfl)
    have hsz : (h.push emptyDict).objs.size = h.objs.size + 1 := Heap.size_push ..
    have hl1 : (hp ++ [MO.idict none]).length = hp.length + 1 := by simp
    obtain ⟨G2, x2⟩ := G1.alloc (o := instObj C h.objs.size) (mo := .inst C hp.length) rfl (.inst C hp.length _ h.objs.size (by
      rw [List.getElem?_append_left (by rw [List.length_append, G.len]; simp)]
      exact G.last _) ⟨_, Heap.get?_push_size _ rfl, rfl, rfl, fun c q => nomatch q⟩)
    have hlast := G1.last (h.push emptyDict).objs.size
    rw [hl1] at hlast
    have eHp : hp ++ [MO.idict none] ++ [MO.inst C hp.length] = hp ++ [MO.idict none, MO.inst C hp.length] := by simp
    rw [eHp] at G2
    have hx : (.ref (h.objs.size + 1) : Value) = .ref (h.push emptyDict).objs.size := by rw [hsz]
    rw [hx]
    have hrl : VRL ((h.push emptyDict).push (instObj C h.objs.size)) (ρ ++ [h.objs.size] ++ [(h.push emptyDict).objs.size]) B.l₀ (.ref (hp.length + 1) :: vs) (.ref (h.push emptyDict).objs.size :: us) :=
      .cons (.ref _ _ hlast) (G.vrl (x1.trans x2) .nil r)
    refine Ki _ _ .none hp' _ _ _ h1 G2 hrl _ _ ⟨hA.handled, ?_, ?_⟩ fun u ρ' s' x' G' r' => ?_
    · have := hA.depth
      show A.depth + 1 + d ≤ 900
      omega
    · have := hA.units
      show A.units + 1 + 20 * d ≤ 9000
      omega
    · cases r'
      refine ⟨rfl, ?_⟩
      rw [hsz] at x' hlast
      exact k _ ρ' s' (x1.trans (by rw [← hsz] at x'; exact x2.trans x')) G' (.ref _ _ (x'.get hlast))
  · cases hmm
end
end Mine
end
section
open PySem PySem.W PyProof.Rows PySem.Spec PySem.Calls
set_option linter.unusedVariables false
namespace Mine
structure OwnIs (B : Base) (C : Addr) (name : Str) (f : Addr) : Prop where
  find : ∃ N mN, HCls B C N mN ∧ mN name = some (.ref f)
  fn : ∃ o, B.s₀.heap.get? f = some o ∧ o.cls = .type "function"
  keep : keepIn B.K (.ref f) = true
  ne : name ≠ "_headers"
  top : ∃ y, typeLookup (.type "object") name = pure y
theorem OwnIs.ofK {B : Base} {C N : Addr} {name : Str} {f : Addr} {of : Obj} {y : Option Value} (O : B.Ok) (H : HCls B C N (B.s₀.heap.nsMap N)) (hN : nsOkIn B.K N = true) (h : nsIn B.K N name = some (some (.ref f)))
    (hl : B.K.lookup f = some of) (hc : of.cls = .type "function") (hk : keepIn B.K (.ref f) = true) (hne : name ≠ "_headers") (ht : typeLookup (.type "object") name = pure y) : OwnIs B C name f :=
  ⟨⟨N, _, H, HCls.meth (C := C) O hN h⟩, ⟨of, O.k _ _ hl, hc⟩, hk, hne, y, ht⟩
noncomputable def mOwn (C : Addr) (g : GF) (m : ME) (l : ML) : ME := fun loc hp => match m loc hp with
  | none => none
  | some (a, hp1) => match instOf C a hp1 with
    | none => none
    | some _ => match l loc hp1 with
      | none => none
      | some (vs, hp2) => g (a :: vs) hp2
noncomputable def mOwnK (C : Addr) (g : GF) (m : ME) (l : ML) (mk : ME) : ME := fun loc hp => match m loc hp with
  | none => none
  | some (a, hp1) => match instOf C a hp1 with
    | none => none
    | some _ => match l loc hp1 with
      | none => none
      | some (vs, hp2) => match mk loc hp2 with
        | none => none
        | some (w, hp3) => g (a :: (vs ++ [w])) hp3
section
variable {B : Base} {d : Nat} {Γ Γ' : Ctx} {env : Env} {loc : Loc} {hp hp' : List MO} {ρ : List Addr} {s : Shared} {A : Around} {E : Value → Shared → Prop} {C : Addr}
theorem get_own {name : Str} {f : Addr} {pl : Sem Bool} {a : MV} {ua : Value} {r : Nat × Option MV} {Q : Value × List Value → Shared → Prop} (W : OwnIs B C name f) (G : Good B ρ hp s) (hi : instOf C a hp = some r) (ra : VR s.heap ρ B.l₀ a ua)
    (k : Q (.ref f, [ua]) s) : wpAny (model B.prog B.w) A (getMethod ua name pl) Q E s := by
  obtain ⟨dd, v⟩ := r
  obtain ⟨N, mN, H, hf⟩ := W.find
  obtain ⟨o, ho, hc⟩ := W.fn
  obtain ⟨y, hy⟩ := W.top
  obtain ⟨ix, x, dx, mA, rfl, ex, hix, ed, hd, hII, hne, hI, hns, hmA⟩ := G.inst hi ra
  obtain ⟨⟨nm, q, bs, sn, sub, ab, col, dd', k0, k1, k2, k3, k5, newId, hC⟩, hn⟩ := H.now G
  have hsh : mA name = none := by
    cases v with
    | none => exact hmA name
    | some w =>
      obtain ⟨u, _, h⟩ := hmA
      rw [h, if_neg W.ne]
  have ho' := G.keep _ _ ho
  obtain ⟨h, g, dr, t, os⟩ := s
  exact method_of hC hn H.ga H.gx hf ho' hc hy hI hsh k
theorem evalArgs_anykw {M : Model} {f : Value} {L : List (Bool × Sem Value)} {n : Str} {x : Sem Value} {Q : Args → Shared → Prop} (hpl : L.any (·.1) = false)
    (h : wpAny M A (spliced L) (fun vs s₁ => wpAny M A x (fun u s₂ => Q ⟨vs, [(n, u)]⟩ s₂) E s₁) E s) : wpAny M A (evalArgs f true L [(some n, x)]) Q E s := by
  have go : ∀ {s vs}, wpAny M A x (fun u s₂ => Q ⟨vs, [(n, u)]⟩ s₂) E s → wpAny M A (evalAll (([(some n, x)] : List (Option Str × Sem Value)).map (·.2))) (fun ks s₂ => Q ⟨vs, (([(some n, x)] : List (Option Str × Sem Value)).filterMap (·.1)).zip ks⟩ s₂) E s := fun h =>
    wpAny_evalAll_cons (wpAny_mono h (fun u s₂ h₂ => wpAny_evalAll_nil h₂) fun _ _ e => e)
  cases L with
  | nil =>
    unfold evalArgs
    show wpAny M A (spliced [] >>= _) Q E s
    refine wpAny_bind (wpAny_mono h (fun vs s₁ h₁ => ?_) fun _ _ x => x)
    refine wpAny_bind (wpAny_pure ?_)
    refine wpAny_holding ?_
    simp only [List.all_cons, List.all_nil, Option.isSome_some, Bool.and_self, if_true]
    refine wpAny_bind (wpAny_mono (go h₁) (fun ks s₂ h₂ => ?_) fun _ _ x => x)
    exact wpAny_bind (wpAny_pure (wpAny_pure h₂))
  | cons p rest =>
    obtain ⟨b, y⟩ := p
    cases b with
    | true => simp at hpl
    | false => exact evalArgs_kw rfl (wpAny_mono h (fun vs s₁ h₁ => go h₁) fun _ _ e => e)
theorem snd_own {o : PySem.Expr} {name : Str} {apos pos : Pos} {es : List PySem.Expr} {f : Addr} {g : GF} {m : ME} {l : ML} (O : B.Ok) (W : OwnIs B C name f) (K : CodeOk B d (.ref f) plainMk g) (So : SndE B d Γ o m) (Sl : SndL B d Γ es l)
    (hline : (apos.endLine == pos.line) = true := by rfl) (hbase : ∀ env, attributeBase o name env (eval o env) = eval o env := by intros; rfl)
    (hform : ∀ env : Env, methodCallForm (es.length + ([] : List Keyword).length) (backTo pos (starEach es env)) (backToKw pos (keywordEach [] env)) = true := by intro _; rfl) (hpl : plainArgs es := by intro _ _; rfl) :
    SndE B d Γ (.Call (.Attribute o name apos) es [] pos) (mOwn C g m l) := by
  intro env loc hp v hp' ρ s hm G F A Q E hA k
  unfold mOwn at hm
  split at hm
  · cases hm
  · rename_i a hp1 h1
    split at hm
    · cases hm
    · rename_i r hi
      split at hm
      · cases hm
      · rename_i vs hp2 h2
        rw [arm_eval_Call, hbase]
        refine wpAny_bind (So.run h1 G F hA fun ua ρ1 s1 x1 G1 F1 r1 => wpAny_bind (wpAny_standAt ?_))
        unfold methodCall
        rw [hform]
        have hpos : methodCallPos true o env apos pos = pure pos := by unfold methodCallPos; simp [hline]
        refine wpAny_bind (wpAny_holding (get_own W G1 hi r1 ?_))
        refine wpAny_bind (wpAny_of_eq hpos ?_)
        refine callWith_ok (.kept _ O W.keep) (hpl env pos) (Sl env loc _ vs hp2 ρ1 s1 pos h2 G1 F1 A _ _ hA fun us ρ2 s2 x2 G2 r2 => ⟨G2.keep, ?_⟩)
        exact wpAny_call (K (a :: vs) hp2 v hp' ρ2 s2 (ua :: us) hm G2 (.cons (G1.vr x2 .nil r1) r2) A _ hA fun u ρ3 s3 x3 G3 r3 => k u ρ3 s3 (x1.trans (x2.trans x3)) G3 r3)
theorem snd_ownk {o value : PySem.Expr} {name n : Str} {apos pos kp : Pos} {es : List PySem.Expr} {f : Addr} {g : GF} {m mk : ME} {l : ML} (O : B.Ok) (W : OwnIs B C name f) (K : CodeOk B d (.ref f) (kwMk n) g) (So : SndE B d Γ o m) (Sl : SndL B d Γ es l) (Sk : SndE B d Γ value mk)
    (hline : (apos.endLine == pos.line) = true := by rfl) (hbase : ∀ env, attributeBase o name env (eval o env) = eval o env := by intros; rfl)
    (hform : ∀ env : Env, methodCallForm (es.length + [(⟨some n, value, kp⟩ : Keyword)].length) (backTo pos (starEach es env)) (backToKw pos (keywordEach [⟨some n, value, kp⟩] env)) = true := by intro _; rfl) (hpl : plainArgs es := by intro _ _; rfl) :
    SndE B d Γ (.Call (.Attribute o name apos) es [⟨some n, value, kp⟩] pos) (mOwnK C g m l mk) := by
  intro env loc hp v hp' ρ s hm G F A Q E hA k
  unfold mOwnK at hm
  split at hm
  · cases hm
  · rename_i a hp1 h1
    split at hm
    · cases hm
    · rename_i r hi
      split at hm
      · cases hm
      · rename_i vs hp2 h2
        split at hm
        · cases hm
        · rename_i w hp3 h3
          rw [arm_eval_Call, hbase]
          refine wpAny_bind (So.run h1 G F hA fun ua ρ1 s1 x1 G1 F1 r1 => wpAny_bind (wpAny_standAt ?_))
          unfold methodCall
          rw [hform]
          have hpos : methodCallPos true o env apos pos = pure pos := by unfold methodCallPos; simp [hline]
          refine wpAny_bind (wpAny_holding (get_own W G1 hi r1 ?_))
          refine wpAny_bind (wpAny_of_eq hpos ?_)
          refine callWith_of (P := B.K.In) (by rw [hpl env pos]; rfl) (keeps_K W.keep) ?_
          refine evalArgs_anykw (hpl env pos) (Sl env loc _ vs hp2 ρ1 s1 pos h2 G1 F1 A _ _ hA fun us ρ2 s2 x2 G2 r2 => ?_)
          have F2 := F1.ext G1 x2
          refine wpAny_bind (Sk.run h3 G2 F2 hA fun uw ρ3 s3 x3 G3 F3 r3 => wpAny_bind (wpAny_standAt (wpAny_pure ⟨Frag.In.keeps O.k G3.keep, ?_⟩)))
          have rall : VRL s3.heap ρ3 B.l₀ (a :: (vs ++ [w])) (ua :: (us ++ [uw])) := .cons (G2.vr x3 .nil (G1.vr x2 .nil r1)) ((G2.vrl x3 .nil r2).append (.cons r3 .nil))
          have e : kwMk n (ua :: (us ++ [uw])) = ⟨[ua] ++ us, [(n, uw)]⟩ := by
            have e1 : ua :: (us ++ [uw]) = (ua :: us) ++ [uw] := rfl
            unfold kwMk
            rw [e1, List.dropLast_concat, List.getLastD_concat]
            rfl
          have := K (a :: (vs ++ [w])) hp3 v hp' ρ3 s3 (ua :: (us ++ [uw])) hm G3 rall A (fun r s' => match r with | .ok (.ret v) => Q v s' | .ok _ => False | .error e => E e s') hA fun u ρ4 s4 x4 G4 r4 => k u ρ4 s4 (x1.trans (x2.trans (x3.trans x4))) G4 r4
          rw [e] at this
          exact wpAny_call this
end
end Mine
end
section
open PySem PySem.W PyProof.Rows PySem.Spec PySem.Calls
set_option linter.unusedVariables false
set_option maxRecDepth 100000
namespace Mine
/- a pattern's search -/
theorem re_plain : PlainAttrs "re.Pattern" :=
  ⟨⟨"object.__getattribute__", by rw [typeLookup_type, builtinLookup_eq_fast]; kernel_rfl, by decide +kernel⟩, by rw [typeLookup_type, builtinLookup_eq_fast]; kernel_rfl⟩
theorem re_slot : Slot "re.Pattern" "search" "re.Pattern.search" :=
  .of (owner := "re.Pattern") (n := "search") (by rw [typeLookup_type, builtinLookup_eq_fast]; kernel_rfl) (by decide +kernel) (by decide +kernel) (by decide +kernel)
    (by first | exact .inl (by decide +kernel) | exact .inr (by decide +kernel)) (by rw [isSubtype_type]; kernel_rfl)
theorem re_type : typeOf (.builtin "re.Pattern.search") = pure (.type "method_descriptor") := by show builtinType _ = _; rw [builtinType_eq_fast]; kernel_rfl
theorem re_entry : entryFor table "re.Pattern.search" = some Builtin.«re.Pattern.search» := entryFor_of_tree (by kernel_rfl)
theorem re_args (a b : Value) : argsOk "re.Pattern.search" ⟨[a, b], []⟩ := by unfold argsOk; kernel_rfl
noncomputable def okChar (c : Nat) : Bool := (decide (65 ≤ c) && decide (c ≤ 80)) || (decide (97 ≤ c) && decide (c ≤ 112))
noncomputable def isNo (r : Except String (Bool × Sre.Seen)) : Bool := match r with
  | .ok (false, _) => true
  | _ => false
theorem isNo_is {r : Except String (Bool × Sre.Seen)} (h : isNo r = true) : ∃ seen', r = .ok (false, seen') := by
  unfold isNo at h
  split at h
  · exact ⟨_, rfl⟩
  · cases h
structure ReIs (B : Base) (a : Addr) : Prop where
  is : ∃ (o : Obj) (fs : Array Value) (c : Addr) (oc : Obj) (its : Array Value) (n : Nat), B.s₀.heap.get? a = some o ∧ o.cls = .type "re.Pattern" ∧ o.dict = none ∧ o.data = .fields fs ∧
    Builtin.Re.reRawNat (fs.getD 6 .none) = 0 ∧ Builtin.Re.reRawNat (fs.getD 2 .none) = 0 ∧ fs.getD 5 .none = .ref c ∧
    B.s₀.heap.get? c = some oc ∧ oc.data = .seq its n ∧
    (let code := (its.map Builtin.Re.reRawOf).map (·.toNat)
     (∀ m : Sre.M, m.code = code → m.hasFirstSet = true) ∧
     ∀ c, okChar c = true → ∀ seen, isNo (Sre.inSet code c code.size 5 true seen) = true)
theorem admitted_none (m : Sre.M) (h : ∀ c, okChar c = true → ∀ seen, ∃ seen', Sre.inSet m.code c m.code.size 5 true seen = .ok (false, seen')) (ht : ∀ i, i < m.lim → okChar (m.text.getD i 0) = true) :
    ∀ fuel s seen, ∃ seen', m.admitted fuel s seen = .ok (none, seen')
  | 0, s, seen => ⟨seen, rfl⟩
  | fuel + 1, s, seen => by
    unfold Sre.M.admitted
    by_cases hs : s ≥ m.lim
    · rw [if_pos hs]; exact ⟨seen, rfl⟩
    · rw [if_neg hs]
      obtain ⟨seen1, e⟩ := h _ (ht s (Nat.lt_of_not_le hs)) seen
      rw [e]
      exact admitted_none m h ht fuel (s + 1) seen1
theorem no_some {code text : Array Nat} (h : ∀ c, okChar c = true → ∀ seen, ∃ seen', Sre.inSet code c code.size 5 true seen = .ok (false, seen')) (ht : ∀ i, i < text.size → okChar (text.getD i 0) = true)
    {m : Sre.M} {fuel s : Nat} {seen : Sre.Seen} {r} (e : m.admitted fuel s seen = r) (h1 : m.code = code) (h2 : m.text = text) (h3 : m.lim = text.size) : ∃ seen', r = .ok (none, seen') := by
  subst h1 h2
  obtain ⟨seen', e'⟩ := admitted_none m h (fun i hi => ht i (by rw [← h3]; exact hi)) fuel s seen
  exact ⟨seen', by rw [← e, e']⟩
theorem search_fails {code text : Array Nat} (h1 : ∀ m : Sre.M, m.code = code → m.hasFirstSet = true)
    (h : ∀ c, okChar c = true → ∀ seen, ∃ seen', Sre.inSet code c code.size 5 true seen = .ok (false, seen')) (ht : ∀ i, i < text.size → okChar (text.getD i 0) = true) :
    (Sre.forSearch code text 0 0 text.size false).answer = some false ∧ (Sre.forSearch code text 0 0 text.size false).frames = [] ∧ (Sre.forSearch code text 0 0 text.size false).outcome = none := by
  unfold Sre.forSearch
  simp only []
  split
  · exact ⟨rfl, rfl, rfl⟩
  · unfold Sre.M.attemptFrom
    rw [h1 _ rfl]
    simp only [Bool.not_true, Bool.false_eq_true, if_false]
    split
    · rename_i s seen e
      obtain ⟨_, q⟩ := no_some h ht e rfl rfl rfl
      cases q
    · exact ⟨rfl, rfl, rfl⟩
    · rename_i why e
      obtain ⟨_, q⟩ := no_some h ht e rfl rfl rfl
      cases q
theorem step_fails {m : Sre.M} (h1 : m.answer = some false) (h2 : m.frames = []) (h3 : m.outcome = none) : (m.runFor 4).outcome = some .failed := by
  have e1 : m.step = { m with outcome := some .failed } := by
    unfold Sre.M.step
    rw [h3, h1, h2]; rfl
  unfold Sre.M.runFor
  rw [h3]
  simp only [Option.isSome_none, Bool.false_eq_true, if_false, e1]
  unfold Sre.M.runFor
  simp
section
variable {B : Base} {d : Nat} {Γ Γ' : Ctx} {env : Env} {loc : Loc} {hp hp' : List MO} {ρ : List Addr} {s : Shared} {A : Around} {E : Value → Shared → Prop}
theorem drive_fails {m : Sre.M} (h1 : m.answer = some false) (h2 : m.frames = []) (h3 : m.outcome = none) {Q : Option Sre.M → Shared → Prop} (k : Q none s) : wpAny (model B.prog B.w) A (Builtin.Re.reRunToEnd m) Q E s := by
  have hf := step_fails h1 h2 h3
  unfold Builtin.Re.reRunToEnd
  have e : Builtin.Re.reDrive (2 ^ 64) m = pure (m.runFor 4) := by
    show Builtin.Re.reDrive (18446744073709551615 + 1) m = _
    rw [Builtin.Re.reDrive]
    show (if (m.runFor 4).outcome.isSome then pure (m.runFor 4) else _) = _
    rw [hf]; rfl
  refine wpAny_bind (wpAny_of_eq e ?_)
  have loop : ∀ (l : List Nat) (Q : PUnit → Shared → Prop), Q ⟨⟩ s → wpAny (model B.prog B.w) A (forIn l PUnit.unit fun i _ => (do
      if (m.runFor 4).seen.has i then rule (Sre.names.getD i "")
      pure (ForInStep.yield PUnit.unit) : Sem (ForInStep PUnit))) Q E s := by
    intro l
    induction l with
    | nil => intro Q h; exact wpAny_pure h
    | cons i r ih =>
      intro Q h
      rw [List.forIn_cons]
      refine wpAny_bind ?_
      split
      · exact wpAny_bind (wpAny_rule (wpAny_pure (ih Q h)))
      · exact wpAny_pure (ih Q h)
  refine wpAny_bind (loop _ _ ?_)
  rw [hf]
  exact wpAny_pure k
noncomputable def gSearch (a : Addr) : GF := fun vs hp => match vs with
  | [.fix (.ref b), .str x] => if b = a ∧ x.all okChar = true ∧ x.length ≤ few then some (.none, hp) else none
  | _ => none
theorem call_search {a : Addr} (W : ReIs B a) : CallOk B d (.builtin "re.Pattern.search") (gSearch a) := by
  intro vs hp v hp' ρ s us hm G r A Q E hA k
  unfold gSearch at hm
  split at hm
  · rename_i b x
    split at hm
    · rename_i hf
      obtain ⟨hb, hf, hlen⟩ := hf
      subst hb
      cases hm
      obtain ⟨o, fs, c, oc, its, n, ho, hc, hdn, hd, h6, h2, h5, hoc, hdc, hfirst, hset'⟩ := W.is
      have hset := fun c hc seen => isNo_is (hset' c hc seen)
      have ho' := G.keep _ _ ho
      have hoc' := G.keep _ _ hoc
      cases r with
      | cons ra r => cases r with
        | cons rb r =>
          cases r; cases ra; cases rb with
          | str _ t =>
            refine wpAny_call_entry re_slot ⟨o, ho', hc⟩ re_entry ?_ (re_args _ _)
            unfold Builtin.«re.Pattern.search» Builtin.Re.reTarget
            have en : Builtin.Re.reNamed "re.Pattern.search" "search" ["string", "pos", "endpos"] 1 [.str (mkS x) t] [] = pure [some (.str (mkS x) t), none, none] := by kernel_rfl
            refine wpAny_bind ?_
            show wpAny _ _ (Builtin.Re.reNamed "re.Pattern.search" "search" ["string", "pos", "endpos"] 1 [.str (mkS x) t] [] >>= _) _ _ _
            refine wpAny_bind (wpAny_of_eq en ?_)
            refine wpAny_bind (m := pure 0) (wpAny_pure ?_)
            refine wpAny_bind (m := pure (2 ^ 63 - 1)) (wpAny_pure ?_)
            refine wpAny_bind (m := fieldsOf (.ref b)) ?_
            unfold fieldsOf
            refine wpAny_bind (wpAny_load ho' ?_)
            rw [hd]
            refine wpAny_pure ?_
            refine wpAny_bind (m := Builtin.Re.reTextOf (.str (mkS x) t)) (wpAny_of_eq (a := ((mkS x).cps, 0)) rfl ?_)
            simp only [h6]
            refine wpAny_bind (m := Builtin.Re.reNoCollectionInside _ 0) (wpAny_of_eq (a := ()) rfl ?_)
            refine wpAny_bind (m := Builtin.Re.reRawItems _) ?_
            rw [h5]
            unfold Builtin.Re.reRawItems
            refine wpAny_bind (wpAny_seqItems hoc' hdc (wpAny_pure (wpAny_pure ?_)))
            have hsz : (mkS x).cps.size = x.length := rfl
            have e0 : min (0 : Int).toNat (mkS x).cps.size = 0 := by simp
            have e1 : min ((2 : Int) ^ 63 - 1).toNat (mkS x).cps.size = (mkS x).cps.size := by
              rw [hsz]
              have : ((2 : Int) ^ 63 - 1).toNat = 9223372036854775807 := by decide
              rw [this]
              have h3 : few < 9223372036854775807 := by decide
              omega
            simp only [h2, e0, e1, Option.getD_some]
            have ht : ∀ i, i < (mkS x).cps.size → okChar ((mkS x).cps.getD i 0) = true := by
              intro i hi
              have hi' : i < x.length := hi
              have : (mkS x).cps.getD i 0 = x[i] := by
                simp [mkS, hi']
              rw [this]
              exact List.all_eq_true.mp hf _ (List.getElem_mem hi')
            obtain ⟨q1, q2, q3⟩ := search_fails hfirst hset ht
            unfold Builtin.Re.reAnswer
            refine wpAny_bind (drive_fails q1 q2 q3 ?_)
            exact wpAny_pure ⟨_, rfl, k _ ρ _ .refl G .none⟩
    · cases hm
  · cases hm
end
end Mine
end
section
open PySem PySem.W PyProof.Rows PySem.Spec PySem.Calls
set_option linter.unusedVariables false
set_option maxRecDepth 100000
namespace Mine
/- a dict of names that the module has made -/
noncomputable def entOk : List DictEntry → List (Int × List Nat) → Bool
  | [], [] => true
  | e :: r, p :: q => (match e.key, e.val with
    | .int k _, .str y _ => k == p.1 && y == mkS p.2 && e.hash == hashInt k
    | _, _ => false) && entOk r q
  | _, _ => false
structure DictIs (B : Base) (a : Addr) (tbl : List (Int × List Nat)) : Prop where
  is : ∃ (es : Array DictEntry) (n : Nat), B.s₀.heap.get? a = some { cls := .type "dict", dict := none, data := .dict es n, slots := #[] } ∧ entOk es.toList tbl = true
  sys : (a == sysModules) = false
theorem entOk_keys {prog : Program} {w : World} : ∀ {es : List DictEntry} {tbl : List (Int × List Nat)}, entOk es tbl = true → ∀ e ∈ es, ∃ k, (intKind prog w).is k e.key = true ∧ e.hash = (intKind prog w).hash k
  | e :: r, p :: q, h, e', he => by
    unfold entOk at h
    rw [Bool.and_eq_true] at h
    rcases List.mem_cons.mp he with rfl | he
    · have h1 := h.1
      split at h1
      · rename_i k t y u hk hv
        simp only [Bool.and_eq_true, beq_iff_eq] at h1
        exact ⟨k, by rw [hk]; exact intKind_is _ _ _ _, h1.2⟩
      · cases h1
    · exact entOk_keys h.2 e' he
  | [], [], _, e', he => nomatch he
theorem entOk_find : ∀ {es : List DictEntry} {tbl : List (Int × List Nat)}, entOk es tbl = true → ∀ k : Int, match tbl.lookup k with
    | some x => ∃ t, (es.find? fun e => Value.isInt k e.key).map (·.val) = some (.str (mkS x) t)
    | none => (es.find? fun e => Value.isInt k e.key).map (·.val) = none
  | e :: r, p :: q, h, k => by
    unfold entOk at h
    rw [Bool.and_eq_true] at h
    have h1 := h.1
    have ih := entOk_find h.2 k
    obtain ⟨p1, p2⟩ := p
    split at h1
    · rename_i k' t y u hk hv
      simp only [Bool.and_eq_true, beq_iff_eq] at h1
      obtain ⟨⟨rfl, rfl⟩, _⟩ := h1
      by_cases hkk : k = k'
      · subst hkk
        have e1 : ((k, p2) :: q).lookup k = some p2 := by simp
        rw [show (((k, p2) :: q : List (Int × List Nat)).lookup k) = some p2 from e1]
        refine ⟨u, ?_⟩
        rw [List.find?_cons_of_pos (by rw [hk]; simp [Value.isInt])]
        rw [Option.map_some, hv]
      · have e1 : ((k', p2) :: q).lookup k = q.lookup k := by
          rw [List.lookup_cons]
          have : (k == k') = false := by simpa using hkk
          rw [this]
        rw [show (((k', p2) :: q : List (Int × List Nat)).lookup k) = q.lookup k from e1]
        rw [List.find?_cons_of_neg (by rw [hk]; simp [Value.isInt]; exact fun q => hkk q.symm)]
        exact ih
    · cases h1
  | [], [], _, k => by simp
noncomputable def gDget (a : Addr) (tbl : List (Int × List Nat)) : GF := fun vs hp => match vs with
  | [.fix (.ref b), .int k, dflt] => if b = a then (match tbl.lookup k with
    | some x => some (.str x, hp)
    | none => some (dflt, hp)) else none
  | _ => none
noncomputable def isFix (a : Addr) (v : MV) (_ : List MO) : Bool := match v with
  | .fix (.ref b) => decide (b = a)
  | _ => false
section
variable {B : Base} {d : Nat} {Γ Γ' : Ctx} {env : Env} {loc : Loc} {hp hp' : List MO} {ρ : List Addr} {s : Shared} {A : Around} {E : Value → Shared → Prop} {C : Addr}
theorem call_dget {a : Addr} {tbl : List (Int × List Nat)} (W : DictIs B a tbl) : CallOk B d (.builtin "dict.get") (gDget a tbl) := by
  intro vs hp v hp' ρ s us hm G r A Q E hA k
  unfold gDget at hm
  split at hm
  · rename_i b kk dflt
    split at hm
    · rename_i hb
      subst hb
      obtain ⟨⟨es, n, ho, hes⟩, hsys⟩ := W
      have ho' := G.keep _ _ ho
      cases r with
      | cons ra r => cases r with
        | cons rb r => cases r with
          | cons rc r =>
            cases r; cases ra; cases rb with
            | int _ t =>
              rename_i ud
              have hmap : s.heap.MapOf (intKind B.prog B.w) b (fun k => findBy (intKind B.prog B.w).is es k) := ⟨_, es, n, ho', ⟨rfl, rfl, rfl⟩, rfl, fun e he => entOk_keys hes e (by simpa using he), fun _ => rfl⟩
              refine call_meetsIn PySem.F.slot_dict_get hmap.typeIs PySem.F.entry_dict_get (PySem.F.args_dict_get_3 _ _ _) (meets_dict_get_default (intKind B.prog B.w) b (intKind_is _ _ kk t) hsys ud) ⟨_, hmap, ?_⟩
              have hf := entOk_find hes kk
              have hfind : findBy (intKind B.prog B.w).is es kk = (es.toList.find? fun e => Value.isInt kk e.key).map (·.val) := by
                unfold findBy
                rw [← Array.find?_toList]; rfl
              show Q _ _
              rw [hfind]
              split at hm
              · rename_i x hx
                cases hm
                rw [hx] at hf
                obtain ⟨t', e⟩ := hf
                rw [e]
                exact k _ ρ _ .refl (G.tok _) (.str _ _)
              · rename_i hx
                cases hm
                rw [hx] at hf
                rw [hf]
                exact k _ ρ _ .refl (G.tok _) rc
    · cases hm
  · cases hm
theorem isFix_dict {a : Addr} {tbl : List (Int × List Nat)} (W : DictIs B a tbl) {v : MV} {uv : Value} (h : isFix a v hp = true) (G : Good B ρ hp s) (r : VR s.heap ρ B.l₀ v uv) : s.TypeIs uv "dict" ∧ ∀ a', uv = .ref a' → ∃ ob, s.heap.get? a' = some ob ∧ ob.dict = none := by
  unfold isFix at h
  split at h
  · rename_i b
    have hb : b = a := by simpa using h
    subst hb
    cases r
    obtain ⟨⟨es, n, ho, _⟩, _⟩ := W
    have ho' := G.keep _ _ ho
    exact ⟨⟨_, ho', rfl⟩, fun a' q => by cases q; exact ⟨_, ho', rfl⟩⟩
  · cases h
theorem isFix_re {a : Addr} (W : ReIs B a) {v : MV} {uv : Value} (h : isFix a v hp = true) (G : Good B ρ hp s) (r : VR s.heap ρ B.l₀ v uv) : s.TypeIs uv "re.Pattern" ∧ ∀ a', uv = .ref a' → ∃ ob, s.heap.get? a' = some ob ∧ ob.dict = none := by
  unfold isFix at h
  split at h
  · rename_i b
    have hb : b = a := by simpa using h
    subst hb
    cases r
    obtain ⟨o, fs, c, oc, its, n, ho, hc, hdn, _⟩ := W.is
    have ho' := G.keep _ _ ho
    exact ⟨⟨_, ho', hc⟩, fun a' q => by cases q; exact ⟨_, ho', hdn⟩⟩
  · cases h
noncomputable def iKwItems (m : ME) : MI := fun loc hp => match m loc hp with
  | some (.ref i, hp1) => match hp1[i]? with
    | some .kwd => some (.kw i, hp1)
    | _ => none
  | _ => none
theorem snd_ikw {o : PySem.Expr} {apos pos : Pos} {m : ME} (So : SndE B d Γ o m) (hline : (apos.endLine == pos.line) = true := by rfl)
    (hbase : ∀ env, attributeBase o "items" env (eval o env) = eval o env := by intros; rfl) : SndI B d Γ (.Call (.Attribute o "items" apos) [] [] pos) (iKwItems m) := by
  intro env loc hp it hp' ρ s hm G F A Q E hA k
  unfold iKwItems at hm
  split at hm
  · rename_i i hp1 h1
    split at hm
    · rename_i hi
      cases hm
      refine wpAny_Call_method (hbase env) (by rfl) hline PySem.F.plainAttrs_dict PySem.F.slot_dict_items PySem.F.type_dict_items (So.run h1 G F hA fun ua ρ1 s1 x1 G1 F1 r1 => ?_)
      cases r1 with
      | ref _ a ea =>
        have hk := G1.ok i _ a hi ea
        cases hk with
        | kwd _ hd =>
          have hnew : (a == sysModules) = false := beq_false_of_ne hd.2
          have hd := hd.1
          refine ⟨⟨_, hd, rfl⟩, fun a' q => by cases q; exact ⟨_, hd, rfl⟩, ?_⟩
          refine callWith_ok (B := B) (.builtin "dict.items") rfl (spliced_nil ⟨G1.keep, ?_⟩)
          have hdict : s1.heap.DictAt (intKind B.prog B.w) a [] 0 := ⟨_, #[], hd, ⟨rfl, rfl, rfl⟩, rfl, fun _ he => by simp at he, .nil, List.nodup_nil⟩
          refine call_meetsIn PySem.F.slot_dict_items ⟨_, hd, rfl⟩ PySem.F.entry_dict_items (PySem.F.args_dict_items_1 _) (meets_dict_items (intKind B.prog B.w) a hnew) ⟨⟨[], hdict.dictOf⟩, ?_⟩
          show wpAny _ _ (pyIter _) _ _ _
          refine wpAny_pyIter_items (knd := intKind B.prog B.w) (kvs := []) (ep := 0) (d := a) ⟨_, Heap.get?_push_size _ rfl, rfl, rfl⟩ (hdict.push _) ?_
          have G2 := G1.push { cls := .type "dict_items", data := .fields #[.ref a] }
          have x2 : Ext ρ1 s1.heap ρ1 (s1.heap.push { cls := .type "dict_items", data := .fields #[.ref a] }) [] := .keeps fun _ _ e => Heap.get?_push_of_some _ e
          have x3 := fun o => (Ext.keeps fun _ _ e => Heap.get?_push_of_some o e : Ext ρ1 (s1.heap.push { cls := .type "dict_items", data := .fields #[.ref a] }) ρ1 ((s1.heap.push { cls := .type "dict_items", data := .fields #[.ref a] }).push o) [])
          refine k _ [_] ρ1 _ (x1.trans (x2.trans (x3 _))) (G2.push _) (.kw i _ a .none .none ea (Heap.get?_push_size _ rfl)) (fun b hb => ?_) (fun b hb => ?_)
          · rw [List.mem_singleton.mp hb]
            exact (x1.trans x2).back (get?_size _)
          · rw [List.mem_singleton.mp hb]
            exact G2.size_out (Nat.le_refl _)
    · cases hm
  · cases hm
end
end Mine
end
section
open PySem PySem.W PyProof.Rows PySem.Spec PySem.Calls
set_option linter.unusedVariables false
set_option maxRecDepth 100000
namespace Mine
abbrev mInt (i : Int) : ME := fun _ hp => some (.int i, hp)
abbrev mBytes (x : List UInt8) : ME := fun _ hp => some (.bytes x, hp)
abbrev mStr (x : List Nat) : ME := fun _ hp => some (.str x, hp)
abbrev mNone : ME := fun _ hp => some (.none, hp)
abbrev mBool (b : Bool) : ME := fun _ hp => some (.bool b, hp)
abbrev mFix (v : Value) : ME := fun _ hp => some (.fix v, hp)
theorem CodeOk.le {B : Base} {d d' : Nat} {f : Value} {mk : List Value → Args} {g : GF} (K : CodeOk B d f mk g) (h : d ≤ d' := by decide) : CodeOk B d' f mk g :=
  fun vs hp v hp' ρ s us hm G r A R hA k => K vs hp v hp' ρ s us hm G r A R (hA.le h) k
theorem CallOk.le {B : Base} {d d' : Nat} {f : Value} {g : GF} (K : CallOk B d f g) (h : d ≤ d' := by decide) : CallOk B d' f g :=
  fun vs hp v hp' ρ s us hm G r A Q E hA k => K vs hp v hp' ρ s us hm G r A Q E (hA.le h) k
theorem swaps_true {elt : PySem.Expr} {gens : List Comprehension} {scope : Scope} {pos p : Pos} {x : Str} {l : Nat} {env : Env} {names : List (Str × NameKind)} (hk : env.scope.kind = .function) (hn : env.scope.names = names) (hx : names.lookup x = some .local)
    (hl : (p.line == pos.line) = true) (ha : (scope.names.any fun q => q.1 == x && (q.2 == .local || q.2 == .cell)) = false) : swapsWith (.ListComp elt gens scope pos) (some (.Name x p)) l env = pure true := by
  have e1 : env.blockKind = .function := by unfold Env.blockKind; rw [hk]; rfl
  have e2 : env.kindOf x = some .local := by unfold Env.kindOf; rw [hn]; exact hx
  show (pure (env.blockKind == .function && env.kindOf x == some .local && p.line == pos.line && !(scope.names.any fun q => q.1 == x && (q.2 == .local || q.2 == .cell))) : Sem Bool) = _
  rw [e1, e2, hl, ha]; rfl
end Mine
end
section
open PySem PySem.W PyProof.Rows PySem.Spec PySem.Calls
set_option linter.unusedVariables false
set_option maxRecDepth 100000
namespace Mine
noncomputable def isPat2 (a b : Addr) (v : MV) (_ : List MO) : Bool := match v with
  | .fix (.ref c) => decide (c = a) || decide (c = b)
  | _ => false
noncomputable def gPat2 (a b : Addr) : GF := fun vs hp => match vs with
  | [.fix (.ref c), .str x] => if (c = a ∨ c = b) ∧ x.all okChar = true ∧ x.length ≤ few then some (.none, hp) else none
  | _ => none
section
variable {B : Base} {d : Nat} {hp hp' : List MO} {ρ : List Addr} {s : Shared}
theorem isPat_ok {a b : Addr} (Wa : ReIs B a) (Wb : ReIs B b) {v : MV} {hp : List MO} {ρ : List Addr} {s : Shared} {uv : Value} (h : isPat2 a b v hp = true) (G : Good B ρ hp s) (r : VR s.heap ρ B.l₀ v uv) : s.TypeIs uv "re.Pattern" ∧ ∀ a', uv = .ref a' → ∃ ob, s.heap.get? a' = some ob ∧ ob.dict = none := by
  unfold isPat2 at h
  split at h
  · rename_i c
    rcases Bool.or_eq_true_iff.mp h with q | q
    · exact isFix_re Wa (v := .fix (.ref c)) (hp := hp) q G r
    · exact isFix_re Wb (v := .fix (.ref c)) (hp := hp) q G r
  · cases h
theorem call_pat {a b : Addr} (Wa : ReIs B a) (Wb : ReIs B b) : CallOk B d (.builtin "re.Pattern.search") (gPat2 a b) := by
  intro vs hp v hp' ρ s us hm G r A Q E hA k
  unfold gPat2 at hm
  split at hm
  · rename_i c x
    split at hm
    · rename_i hf
      cases hm
      obtain ⟨hc, h1, h2⟩ := hf
      rcases hc with rfl | rfl
      · exact call_search (d := d) Wa [.fix (.ref c), .str x] hp .none hp ρ s us (by show (if c = c ∧ x.all okChar = true ∧ x.length ≤ few then some (MV.none, hp) else none) = _; rw [if_pos ⟨rfl, h1, h2⟩]) G r A Q E hA k
      · exact call_search (d := d) Wb [.fix (.ref c), .str x] hp .none hp ρ s us (by show (if c = c ∧ x.all okChar = true ∧ x.length ≤ few then some (MV.none, hp) else none) = _; rw [if_pos ⟨rfl, h1, h2⟩]) G r A Q E hA k
    · cases hm
  · cases hm
end
theorem okChar_cases {P : Nat → Prop} (h : ∀ i, i < 16 → P (65 + i) ∧ P (97 + i)) : ∀ c, okChar c = true → P c := by
  intro c hc
  simp only [okChar, Bool.or_eq_true, Bool.and_eq_true, decide_eq_true_eq] at hc
  rcases hc with ⟨h1, h2⟩ | ⟨h1, h2⟩
  · have := (h (c - 65) (by omega)).1
    rwa [show 65 + (c - 65) = c by omega] at this
  · have := (h (c - 97) (by omega)).2
    rwa [show 97 + (c - 97) = c by omega] at this
end Mine
end
section
open PySem PySem.W PyProof.Rows PySem.Spec PySem.Calls
set_option linter.unusedVariables false
namespace Mine
mutual
noncomputable def noRef : MV → Bool
  | .ref _ => false
  | .tup xs => noRefs xs
  | _ => true
noncomputable def noRefs : List MV → Bool
  | [] => true
  | x :: xs => noRef x && noRefs xs
end
mutual
theorem VR.noRef {h : Heap} {ρ ρ' : List Addr} {l₀ : Addr} : ∀ {x : MV} {u : Value}, VR h ρ l₀ x u → Mine.noRef x = true → VR h ρ' l₀ x u
  | _, _, .none, _ => .none
  | _, _, .bool b, _ => .bool b
  | _, _, .int i t, _ => .int i t
  | _, _, .str x t, _ => .str x t
  | _, _, .bytes x t, _ => .bytes x t
  | _, _, .ref n a _, e => by simp [Mine.noRef] at e
  | _, _, .tup xs vs a ht hv, e => .tup xs vs a ht (VRL.noRef hv (by simpa [Mine.noRef] using e))
  | _, _, .fix v, _ => .fix v
  | _, _, .script, _ => .script
theorem VRL.noRef {h : Heap} {ρ ρ' : List Addr} {l₀ : Addr} : ∀ {xs : List MV} {us : List Value}, VRL h ρ l₀ xs us → Mine.noRefs xs = true → VRL h ρ' l₀ xs us
  | _, _, .nil, _ => .nil
  | _, _, .cons r rs, e => by
    simp only [Mine.noRefs, Bool.and_eq_true] at e
    exact .cons (VR.noRef r e.1) (VRL.noRef rs e.2)
end
end Mine
end
section
open PySem PySem.W PyProof.Rows PySem.Spec PySem.Calls
set_option linter.unusedVariables false
set_option maxRecDepth 100000
namespace Mine
theorem CodeOk.alone {B : Base} {d : Nat} {f : Value} {mk : List Value → Args} {g g' : GF} (K : CodeOk B d f mk g)
    (h : ∀ vs hp v hp', g' vs hp = some (v, hp') → noRefs vs = true ∧ noRef v = true ∧ hp' = hp ∧ ∃ gar, g vs [] = some (v, gar)) : CodeOk B d f mk g' := by
  intro vs hp v hp' ρ s us e G r A R hA k
  obtain ⟨hn, hv, rfl, gar, e1⟩ := h vs hp v hp' e
  have G0 : Good B [] [] s := ⟨G.same, G.keep, (fun _ q => nomatch q), .nil, rfl, fun i mo a q => by simp at q⟩
  refine K vs [] v gar [] s us e1 G0 (VRL.noRef r hn) A R hA fun u ρ' s' x G' r' => ?_
  have hk : ∀ b o, s.heap.get? b = some o → s'.heap.get? b = some o := fun b o q => x.keep b o q (fun w => nomatch w) (fun w => nomatch w)
  have x0 : Ext ρ s.heap ρ s'.heap [] := .keeps hk
  have G1 : Good B ρ hp' s' := by
    obtain ⟨h', tk, e'⟩ := G'.same
    have := G.keeps (tk := s'.toks) hk
    obtain ⟨h2, tk2, e2⟩ := G.same
    exact ⟨G'.same, G'.keep, this.fresh, this.nd, this.len, this.ok⟩
  exact k u ρ s' x0 G1 (VR.noRef r' hv)
noncomputable def aloneF (g : GF) : GF := fun vs hp => match noRefs vs with
  | false => none
  | true => match g vs [] with
    | none => none
    | some (v, _) => match noRef v with
      | false => none
      | true => some (v, hp)
theorem CodeOk.aloneF {B : Base} {d : Nat} {f : Value} {mk : List Value → Args} {g : GF} (K : CodeOk B d f mk g) : CodeOk B d f mk (Mine.aloneF g) := by
  refine K.alone fun vs hp v hp' e => ?_
  unfold Mine.aloneF at e
  split at e
  · cases e
  · rename_i h1
    split at e
    · cases e
    · rename_i v0 gar h2
      split at e
      · cases e
      · rename_i h3
        cases e
        exact ⟨h1, h3, rfl, _, h2⟩
end Mine
end
section
open PySem PySem.W PyProof.Rows PySem.Spec PySem.Calls
set_option linter.unusedVariables false
set_option maxRecDepth 100000
namespace Mine
theorem sSeq_next {m1 m2 : MS} {loc l1 : Loc} {hp h1 : List MO} (h : m1 loc hp = some (.next, l1, h1)) : sSeq m1 m2 loc hp = m2 l1 h1 := by unfold sSeq; rw [h]
theorem sSeq_ret {m1 m2 : MS} {loc l1 : Loc} {hp h1 : List MO} {v : MV} (h : m1 loc hp = some (.ret v, l1, h1)) : sSeq m1 m2 loc hp = some (.ret v, l1, h1) := by unfold sSeq; rw [h]
theorem sSet_eq {i : Nat} {m : ME} {v : MV} {loc : Loc} {hp h1 : List MO} (h : m loc hp = some (v, h1)) : sSet i m loc hp = some (.next, loc.set i (some v), h1) := by unfold sSet; rw [h]
theorem sFor_next {n : Nat} {t : Tgt} {mi : MI} {b o : MS} {it : It} {loc l1 : Loc} {hp h0 h1 : List MO} (h : mi loc hp = some (it, h0)) (h2 : forGo t b n it loc h0 = some (.next, l1, h1)) : sFor n t mi b o loc hp = o l1 h1 := by
  unfold sFor; rw [h]; simp only [h2]
theorem sIf_true {t : MT} {m1 m2 : MS} {loc : Loc} {hp h1 : List MO} (h : t loc hp = some (true, h1)) : sIf t m1 m2 loc hp = m1 loc h1 := by unfold sIf; rw [h]
theorem sIf_false {t : MT} {m1 m2 : MS} {loc : Loc} {hp h1 : List MO} (h : t loc hp = some (false, h1)) : sIf t m1 m2 loc hp = m2 loc h1 := by unfold sIf; rw [h]
noncomputable def eqNs : List Nat → List Nat → Bool
  | [], [] => true
  | a :: x, b :: y => Nat.beq a b && eqNs x y
  | _, _ => false
theorem eqNs_eq : ∀ {x y : List Nat}, eqNs x y = true → x = y
  | [], [], _ => rfl
  | a :: x, b :: y, h => by
    simp only [eqNs, Bool.and_eq_true] at h
    rw [Nat.eq_of_beq_eq_true h.1, eqNs_eq h.2]
  | [], _ :: _, h => by cases h
  | _ :: _, [], h => by cases h
noncomputable def up (a : Nat) : Bool := Nat.ble 65 a && Nat.ble a 80
theorem up_iff {a : Nat} : up a = true ↔ 65 ≤ a ∧ a ≤ 80 := by
  unfold up; rw [Bool.and_eq_true, Nat.ble_eq, Nat.ble_eq]
theorem up_lo {a : Nat} (h : up a = true) : lo1 a = a + 32 := by
  have := up_iff.mp h
  unfold lo1
  split
  · omega
  · omega
noncomputable def atN : List Nat → Nat → Nat
  | [], _ => 0
  | a :: _, 0 => a
  | _ :: l, n + 1 => atN l n
theorem sExpr_eq {m : ME} {v : MV} {loc : Loc} {hp h1 : List MO} (h : m loc hp = some (v, h1)) : sExpr m loc hp = some (.next, loc, h1) := by unfold sExpr; rw [h]
theorem lNil_eq {loc : Loc} {hp : List MO} : lNil loc hp = some ([], hp) := rfl
theorem lCons_eq {m : ME} {l : ML} {v : MV} {vs : List MV} {loc : Loc} {hp h1 h2 : List MO} (e : m loc hp = some (v, h1)) (e2 : l loc h1 = some (vs, h2)) : lCons m l loc hp = some (v :: vs, h2) := by unfold lCons; simp only [e, e2]
theorem mTup_eq {l : ML} {vs : List MV} {loc : Loc} {hp h1 : List MO} (e : l loc hp = some (vs, h1)) (hf : vs.length ≤ few) : mTup l loc hp = some (.tup vs, h1) := by unfold mTup; simp only [e]; rw [if_pos hf]
theorem mList_eq {l : ML} {vs : List MV} {loc : Loc} {hp h1 : List MO} (e : l loc hp = some (vs, h1)) (hf : vs.length ≤ few) : mList l loc hp = some (.ref h1.length, h1 ++ [.list vs]) := by unfold mList; simp only [e]; rw [if_pos hf]
theorem sRet_eq {m : ME} {v : MV} {loc : Loc} {hp h1 : List MO} (h : m loc hp = some (v, h1)) : sRet m loc hp = some (.ret v, loc, h1) := by unfold sRet; rw [h]
theorem mCall_eq {g : GF} {l : ML} {vs : List MV} {r : Option (MV × List MO)} {loc : Loc} {hp h1 : List MO} (e : l loc hp = some (vs, h1)) (e2 : g vs h1 = r) : mCall g l loc hp = r := by unfold mCall; simp only [e]; exact e2
theorem mBin_eq {op : Operator} {m1 m2 : ME} {a b : MV} {r : Option (MV × List MO)} {loc : Loc} {hp h1 h2 : List MO} (e1 : m1 loc hp = some (a, h1)) (e2 : m2 loc h1 = some (b, h2)) (e3 : binMV op a b h2 = r) : mBin op m1 m2 loc hp = r := by unfold mBin; simp only [e1, e2]; exact e3
theorem mCmp_eq {op : CmpOp} {m1 m2 : ME} {a b : MV} {r : Bool} {loc : Loc} {hp h1 h2 : List MO} (e1 : m1 loc hp = some (a, h1)) (e2 : m2 loc h1 = some (b, h2)) (e3 : cmpMV op a b h2 = some r) : mCmp op m1 m2 loc hp = some (.bool r, h2) := by unfold mCmp; simp only [e1, e2, e3]
theorem tCmp_eq {op : CmpOp} {m1 m2 : ME} {a b : MV} {r : Bool} {loc : Loc} {hp h1 h2 : List MO} (e1 : m1 loc hp = some (a, h1)) (e2 : m2 loc h1 = some (b, h2)) (e3 : cmpMV op a b h2 = some r) : tCmp op m1 m2 loc hp = some (r, h2) := by unfold tCmp; simp only [e1, e2, e3]
theorem mSub_eq {m1 m2 : ME} {a b v : MV} {loc : Loc} {hp h1 h2 : List MO} (e1 : m1 loc hp = some (a, h1)) (e2 : m2 loc h1 = some (b, h2)) (e3 : subMV a b h2 = some v) : mSub m1 m2 loc hp = some (v, h2) := by unfold mSub; simp only [e1, e2, e3]
theorem tVal_eq {m : ME} {a : MV} {r : Bool} {loc : Loc} {hp h1 : List MO} (e1 : m loc hp = some (a, h1)) (e3 : truMV a = some r) : tVal m loc hp = some (r, h1) := by unfold tVal; simp only [e1, e3]
theorem mMeth_eq {kind : MV → List MO → Bool} {g : GF} {m : ME} {l : ML} {a : MV} {vs : List MV} {r : Option (MV × List MO)} {loc : Loc} {hp h1 h2 : List MO} (e1 : m loc hp = some (a, h1)) (ek : kind a h1 = true) (e2 : l loc h1 = some (vs, h2)) (e3 : g (a :: vs) h2 = r) : mMeth kind g m l loc hp = r := by unfold mMeth; simp only [e1, ek, e2]; exact e3
theorem mOwn_eq {C : Addr} {g : GF} {m : ME} {l : ML} {a : MV} {q : Nat × Option MV} {vs : List MV} {r : Option (MV × List MO)} {loc : Loc} {hp h1 h2 : List MO} (e1 : m loc hp = some (a, h1)) (ek : instOf C a h1 = some q) (e2 : l loc h1 = some (vs, h2)) (e3 : g (a :: vs) h2 = r) : mOwn C g m l loc hp = r := by unfold mOwn; simp only [e1, ek, e2]; exact e3
theorem mOwnK_eq {C : Addr} {g : GF} {m mk : ME} {l : ML} {a w : MV} {q : Nat × Option MV} {vs : List MV} {r : Option (MV × List MO)} {loc : Loc} {hp h1 h2 h3 : List MO} (e1 : m loc hp = some (a, h1)) (ek : instOf C a h1 = some q) (e2 : l loc h1 = some (vs, h2)) (ew : mk loc h2 = some (w, h3)) (e3 : g (a :: (vs ++ [w])) h3 = r) : mOwnK C g m l mk loc hp = r := by unfold mOwnK; simp only [e1, ek, e2, ew]; exact e3
theorem listOf_end (hp : List MO) (xs : List MV) : listOf (hp ++ [.list xs]) hp.length = some xs := by
  unfold listOf; rw [List.getElem?_append_right (Nat.le_refl _)]; simp
theorem listOf_app {hp : List MO} {j : Nat} {xs : List MV} (h : listOf hp j = some xs) (q : List MO) : listOf (hp ++ q) j = some xs := by
  have : j < hp.length := by
    rcases Nat.lt_or_ge j hp.length with h1 | h1
    · exact h1
    · unfold listOf at h; rw [List.getElem?_eq_none h1] at h; cases h
  unfold listOf at h ⊢
  rw [List.getElem?_append_left this]; exact h
theorem gAppend_end (hp : List MO) (xs : List MV) (v : MV) (h : xs.length < few) : gAppend [.ref hp.length, v] (hp ++ [.list xs]) = some (.none, hp ++ [.list (xs ++ [v])]) := by
  show (match listOf (hp ++ [.list xs]) hp.length with | some xs => _ | none => none) = _
  rw [listOf_end]
  show (if xs.length < few then _ else none) = _
  rw [if_pos h]
  simp
theorem next_list {hp : List MO} {j m : Nat} {xs : List MV} (h : listOf hp j = some xs) (hm : m < xs.length) : It.next (.list j m) hp = some (some (xs[m], .list j (m + 1))) := by
  show (match listOf hp j with | none => none | some xs => match xs[m]? with | none => some none | some x => some (some (x, It.list j (m + 1)))) = _
  rw [h]; show (match xs[m]? with | none => _ | some x => _) = _
  rw [List.getElem?_eq_getElem hm]
theorem next_list_end {hp : List MO} {j m : Nat} {xs : List MV} (h : listOf hp j = some xs) (hm : xs.length ≤ m) : It.next (.list j m) hp = some none := by
  show (match listOf hp j with | none => none | some xs => match xs[m]? with | none => some none | some x => some (some (x, It.list j (m + 1)))) = _
  rw [h]; show (match xs[m]? with | none => _ | some x => _) = _
  rw [List.getElem?_eq_none hm]
structure Feeds (ok : List MO → Prop) (it : Nat → It) (xs : List MV) : Prop where
  item : ∀ hp, ok hp → ∀ m (h : m < xs.length), It.next (it m) hp = some (some (xs[m], it (m + 1)))
  stop : ∀ hp, ok hp → ∀ m, xs.length ≤ m → It.next (it m) hp = some none
theorem feeds_list {j : Nat} {xs : List MV} : Feeds (fun hp => listOf hp j = some xs) (fun m => .list j m) xs := ⟨fun hp h m hm => next_list h hm, fun hp h m hm => next_list_end h hm⟩
theorem feeds_rng {a : Int} {n : Nat} : Feeds (fun _ => True) (fun m => .rng (a + (m : Int)) (n - m)) ((List.range n).map fun (i : Nat) => MV.int (a + (i : Int))) := by
  refine ⟨fun hp _ m hm => ?_, fun hp _ m hm => ?_⟩
  · simp only [List.length_map, List.length_range] at hm
    obtain ⟨q, hq⟩ : ∃ q, n - m = q + 1 := ⟨n - m - 1, by omega⟩
    have : n - (m + 1) = q := by omega
    simp only [hq, this, List.getElem_map, List.getElem_range]
    show some (some (MV.int (a + (m : Int)), It.rng (a + (m : Int) + 1) q)) = _
    have : a + (m : Int) + 1 = a + ((m + 1 : Nat) : Int) := by push_cast; omega
    rw [this]
  · simp only [List.length_map, List.length_range] at hm
    have : n - m = 0 := by omega
    simp only [this]
    rfl
theorem feeds_enum {j : Nat} {xs : List MV} : Feeds (fun hp => listOf hp j = some xs) (fun m => .enum j m) (xs.mapIdx fun m x => MV.tup [.int (m : Int), x]) := by
  refine ⟨fun hp h m hm => ?_, fun hp h m hm => ?_⟩
  · simp only [List.length_mapIdx] at hm
    show (match listOf hp j with | none => none | some xs => match xs[m]? with | none => some none | some x => some (some (MV.tup [.int (m : Int), x], It.enum j (m + 1)))) = _
    rw [h]; show (match xs[m]? with | none => _ | some x => _) = _
    rw [List.getElem?_eq_getElem hm]; simp
  · simp only [List.length_mapIdx] at hm
    show (match listOf hp j with | none => none | some xs => match xs[m]? with | none => some none | some x => some (some (MV.tup [.int (m : Int), x], It.enum j (m + 1)))) = _
    rw [h]; show (match xs[m]? with | none => _ | some x => _) = _
    rw [List.getElem?_eq_none hm]
theorem sliceRange_up {a b : Nat} : sliceRange (a : Int) (b : Int) 1 = (List.range (b - a)).map (a + ·) := by
  unfold sliceRange
  simp only [show (1 : Int) > 0 by decide, if_true]
  have : (if (a : Int) < b then ((b : Int) - a + 1 - 1) / 1 else 0).toNat = b - a := by
    split
    · rw [Int.ediv_one]; omega
    · simp; omega
  rw [this]
  apply List.map_congr_left
  intro k _
  omega
theorem filterMap_drop {α : Type} (xs : List α) : ∀ (a c : Nat), ((List.range c).map (a + ·)).filterMap (xs[·]?) = (xs.drop a).take c := by
  intro a c
  rw [List.filterMap_map]
  induction c generalizing a with
  | zero => simp
  | succ c ih =>
    rw [List.range_succ_eq_map, List.filterMap_cons]
    simp only [Function.comp, Nat.add_zero, List.filterMap_map]
    have e : (List.range c).filterMap (fun x => xs[a + (x + 1)]?) = (List.range c).filterMap (fun x => xs[(a + 1) + x]?) := by
      congr 1; funext x; congr 1; omega
    have ih' : (List.range c).filterMap (fun x => xs[(a + 1) + x]?) = (xs.drop (a + 1)).take c := ih (a + 1)
    rcases Nat.lt_or_ge a xs.length with h | h
    · rw [List.getElem?_eq_getElem h, List.drop_eq_getElem_cons h, List.take_succ_cons]
      simp only
      exact congrArg _ (e.trans ih')
    · rw [List.getElem?_eq_none h, List.drop_eq_nil_of_le h]
      simp only
      refine (e.trans ih').trans ?_
      rw [List.drop_eq_nil_of_le (by omega)]
      simp
theorem pickL_up {α : Type} (xs : List α) (lo hi : Option Int) (a b : Nat) (ha : (sliceBounds lo hi none xs.length).1 = (a : Int)) (hb : (sliceBounds lo hi none xs.length).2.1 = (b : Int)) : pickL xs lo hi none = (xs.drop a).take (b - a) := by
  unfold pickL
  rw [ha, hb, show (sliceBounds lo hi none xs.length).2.2 = 1 from rfl, sliceRange_up, filterMap_drop]
theorem pickL_all {α : Type} (xs : List α) : pickL xs none none none = xs := by
  rw [pickL_up xs none none 0 xs.length rfl rfl]; simp
theorem pickL_take {α : Type} (xs : List α) (n : Nat) : pickL xs none (some (n : Int)) none = xs.take n := by
  rw [pickL_up xs none (some (n : Int)) 0 (min n xs.length) rfl (by
    show (if (1 : Int) > 0 then max (0 : Int) (min (if (n : Int) < 0 then (n : Int) + xs.length else n) xs.length) else max (-1) (min (if (n : Int) < 0 then (n : Int) + xs.length else n) ((xs.length : Int) - 1))) = _
    rw [if_pos (by decide), if_neg (by omega)]; omega)]
  simp
theorem pickL_drop {α : Type} (xs : List α) (n : Nat) : pickL xs (some (n : Int)) none none = xs.drop n := by
  rw [pickL_up xs (some (n : Int)) none (min n xs.length) xs.length (by
    show (if (1 : Int) > 0 then max (0 : Int) (min (if (n : Int) < 0 then (n : Int) + xs.length else n) xs.length) else max (-1) (min (if (n : Int) < 0 then (n : Int) + xs.length else n) ((xs.length : Int) - 1))) = _
    rw [if_pos (by decide), if_neg (by omega)]; omega) rfl]
  rw [List.take_of_length_le (by rw [List.length_drop]; omega)]
  rcases Nat.le_total n xs.length with h | h
  · rw [Nat.min_eq_left h]
  · rw [Nat.min_eq_right h, List.drop_eq_nil_of_le (Nat.le_refl _), List.drop_eq_nil_of_le h]
theorem atI_nat {α : Type} (xs : List α) (k : Nat) (h : k < xs.length) : atI xs (k : Int) = some xs[k] := by
  unfold atI seqIndex?
  simp only
  split
  · rename_i q
    split at q
    · split at q
      · omega
      · rename_i h2; simp at h2; omega
    · split at q
      · cases q
      · rename_i h1 h2; simp at h2; omega
  · rename_i j q
    have : j = k := by
      split at q
      · omega
      · split at q
        · cases q; omega
        · cases q
    subst this
    exact List.getElem?_eq_getElem h
theorem sub_nat {hp : List MO} {n k : Nat} {xs : List MV} (h : listOf hp n = some xs) (hk : k < xs.length) (hf : xs.length ≤ few) : subMV (.ref n) (.int (k : Int)) hp = some xs[k] := by
  show (match listOf hp n with | none => none | some xs => if (k : Int).natAbs < few then atI xs (k : Int) else none) = _
  rw [h]
  show (if (k : Int).natAbs < few then atI xs (k : Int) else none) = _
  rw [if_pos (by simp; omega), atI_nat xs k hk]
theorem setT_one {i : Nat} {x y : MV} {L l1 : Loc} (h : setT (.one i) x L = some l1) : setT (.one i) y l1 = setT (.one i) y L := by
  cases h
  show some ((L.set i (some x)).set i (some y)) = some (L.set i (some y))
  rw [List.set_set]
theorem setT_two {i j : Nat} (hij : i ≠ j) {x y : MV} {L l1 : Loc} (h : setT (.two i j) x L = some l1) : setT (.two i j) y l1 = setT (.two i j) y L := by
  unfold setT at h
  split at h
  · rename_i q; cases q
  · rename_i i' j' a b q
    cases q; cases h
    unfold setT
    split
    · rename_i q; cases q
    · rename_i q
      cases q
      rw [List.set_comm _ _ (Ne.symm hij), List.set_set, List.set_set]
    · rfl
  · cases h
theorem compGo_pure {t : Tgt} {mc : MT} {me : ME} {hp1 : List MO} {ok : List MO → Prop} {it : Nat → It} {xs : List MV} {p : MV → Bool} {e : MV → MV} {L : Loc} {lo : MV → Loc}
    (F : Feeds ok it xs) (hok : ∀ acc, ok (hp1 ++ [.list acc])) (hfit : ∀ m, fitsT t (it m) = true)
    (hset : ∀ x ∈ xs, setT t x L = some (lo x)) (hss : ∀ x y l1, setT t x L = some l1 → setT t y l1 = setT t y L)
    (hc : ∀ x ∈ xs, ∀ acc, mc (lo x) (hp1 ++ [.list acc]) = some (p x, hp1 ++ [.list acc]))
    (he : ∀ x ∈ xs, p x = true → ∀ acc, me (lo x) (hp1 ++ [.list acc]) = some (e x, hp1 ++ [.list acc])) :
    ∀ (n m : Nat) (acc : List MV) (l : Loc), (∀ y, setT t y l = setT t y L) → m ≤ xs.length → xs.length < n + m → acc.length + (xs.length - m) < few →
      compGo t mc me hp1.length n (it m) l (hp1 ++ [.list acc]) = some (hp1 ++ [.list (acc ++ ((xs.drop m).filter p).map e)]) := by
  intro n
  induction n with
  | zero => intro m acc l _ h1 h2; omega
  | succ n ih =>
    intro m acc l hl hm hn ha
    rcases Nat.lt_or_ge m xs.length with hlt | hge
    · have hx : xs[m] ∈ xs := List.getElem_mem hlt
      have e0 : compGo t mc me hp1.length (n + 1) (it m) l (hp1 ++ [.list acc]) = (match mc (lo xs[m]) (hp1 ++ [.list acc]) with
        | none => none
        | some (false, hp1') => compGo t mc me hp1.length n (it (m + 1)) (lo xs[m]) hp1'
        | some (true, hp1') => match me (lo xs[m]) hp1' with
          | none => none
          | some (v, hp2) => match gAppend [.ref hp1.length, v] hp2 with
            | none => none
            | some (_, hp3) => compGo t mc me hp1.length n (it (m + 1)) (lo xs[m]) hp3) := by
        show (match It.next (it m) (hp1 ++ [.list acc]) with | none => none | some none => _ | some (some (x, it')) => _) = _
        rw [F.item _ (hok acc) m hlt]
        simp only [hfit, hl, hset _ hx] <;> rfl
      rw [e0, hc _ hx]
      have hl2 : ∀ y, setT t y (lo xs[m]) = setT t y L := fun y => hss _ y _ (hset _ hx)
      cases hp : p xs[m] with
      | false =>
        simp only
        rw [ih (m + 1) acc _ hl2 hlt (by omega) (by omega), List.drop_eq_getElem_cons hlt, List.filter_cons, if_neg (by rw [hp]; nofun)]
      | true =>
        simp only
        rw [he _ hx hp]
        simp only
        rw [gAppend_end _ _ _ (by omega)]
        simp only
        rw [ih (m + 1) _ _ hl2 hlt (by omega) (by rw [List.length_append, List.length_singleton]; omega), List.drop_eq_getElem_cons hlt, List.filter_cons, if_pos hp, List.map_cons, List.append_assoc]
        rfl
    · have : xs.drop m = [] := List.drop_eq_nil_of_le hge
      rw [this]
      show (match It.next (it m) (hp1 ++ [.list acc]) with | none => none | some none => _ | some (some (x, it')) => _) = _
      rw [F.stop _ (hok acc) m hge]
      simp
theorem comp_gen {n : Nat} {t : Tgt} {mi : MI} {mc : MT} {me : ME} {k : Nat} {ci : List Nat} {loc : Loc} {hp hp1 : List MO} {ok : List MO → Prop} {it : Nat → It} {xs : List MV} {p : MV → Bool} {e : MV → MV} {lo : MV → Loc}
    (F : Feeds ok it xs) (h1 : mi loc hp = some (it 0, hp1)) (hok : ∀ acc, ok (hp1 ++ [.list acc])) (hfit : ∀ m, fitsT t (it m) = true) (hn : xs.length < n) (hf : xs.length < few)
    (hset : ∀ x ∈ xs, setT t x (compLoc k ci loc) = some (lo x)) (hss : ∀ x y l1, setT t x (compLoc k ci loc) = some l1 → setT t y l1 = setT t y (compLoc k ci loc))
    (hc : ∀ x ∈ xs, ∀ acc, mc (lo x) (hp1 ++ [.list acc]) = some (p x, hp1 ++ [.list acc]))
    (he : ∀ x ∈ xs, p x = true → ∀ acc, me (lo x) (hp1 ++ [.list acc]) = some (e x, hp1 ++ [.list acc])) :
    mComp n t mi mc me k ci loc hp = some (.ref hp1.length, hp1 ++ [.list ((xs.filter p).map e)]) := by
  unfold mComp
  rw [h1]
  simp only
  rw [compGo_pure F hok hfit hset hss hc he n 0 [] _ (fun _ => rfl) (Nat.zero_le _) (by omega) (by simpa using hf)]
  simp
theorem compGo_inv {t : Tgt} {me : ME} {D : Nat} {ok : List MO → Prop} {it : Nat → It} {xs : List MV} {L : Loc} {lo : MV → Loc}
    (F : Feeds ok it xs) (hfit : ∀ m, fitsT t (it m) = true) (hset : ∀ x ∈ xs, setT t x L = some (lo x)) (hss : ∀ x y l1, setT t x L = some l1 → setT t y l1 = setT t y L)
    (I : Nat → List MO → Prop) (hok : ∀ m hp, I m hp → ok hp)
    (step : ∀ (m : Nat) (h : m < xs.length) hp, I m hp → ∃ v hp2 w hp3, me (lo xs[m]) hp = some (v, hp2) ∧ gAppend [.ref D, v] hp2 = some (w, hp3) ∧ I (m + 1) hp3) :
    ∀ (n m : Nat) (l : Loc) hp, (∀ y, setT t y l = setT t y L) → m ≤ xs.length → xs.length < n + m → I m hp → ∃ hp', compGo t tTrue me D n (it m) l hp = some hp' ∧ I xs.length hp' := by
  intro n
  induction n with
  | zero => intro m l hp _ h1 h2; omega
  | succ n ih =>
    intro m l hp hl hm hn hI
    rcases Nat.lt_or_ge m xs.length with hlt | hge
    · have hx : xs[m] ∈ xs := List.getElem_mem hlt
      obtain ⟨v, hp2, w, hp3, e1, e2, hI3⟩ := step m hlt hp hI
      have hl2 : ∀ y, setT t y (lo xs[m]) = setT t y L := fun y => hss _ y _ (hset _ hx)
      obtain ⟨hp', e3, hI'⟩ := ih (m + 1) (lo xs[m]) hp3 hl2 hlt (by omega) hI3
      refine ⟨hp', ?_, hI'⟩
      show (match It.next (it m) hp with | none => none | some none => _ | some (some (x, it')) => _) = _
      rw [F.item _ (hok m hp hI) m hlt]
      simp only [hfit, hl, hset _ hx, tTrue, e1, e2]
      exact e3
    · have : m = xs.length := by omega
      subst this
      refine ⟨hp, ?_, hI⟩
      show (match It.next (it xs.length) hp with | none => none | some none => _ | some (some (x, it')) => _) = _
      rw [F.stop _ (hok _ hp hI) _ hge]
theorem forGo_inv {t : Tgt} {body : MS} {ok : List MO → Prop} {it : Nat → It} {xs : List MV} (F : Feeds ok it xs) (hfit : ∀ m, fitsT t (it m) = true) (I : Nat → Loc → List MO → Prop) (hok : ∀ m loc hp, I m loc hp → ok hp)
    (step : ∀ (m : Nat) (h : m < xs.length) loc hp, I m loc hp → ∃ l1 l2 hp2, setT t xs[m] loc = some l1 ∧ body l1 hp = some (.next, l2, hp2) ∧ I (m + 1) l2 hp2) :
    ∀ (n m : Nat) (loc : Loc) hp, m ≤ xs.length → xs.length < n + m → I m loc hp → ∃ l' hp', forGo t body n (it m) loc hp = some (.next, l', hp') ∧ I xs.length l' hp' := by
  intro n
  induction n with
  | zero => intro m l hp h1 h2; omega
  | succ n ih =>
    intro m l hp hm hn hI
    rcases Nat.lt_or_ge m xs.length with hlt | hge
    · obtain ⟨l1, l2, hp2, e1, e2, hI2⟩ := step m hlt l hp hI
      obtain ⟨l', hp', e3, hI'⟩ := ih (m + 1) l2 hp2 hlt (by omega) hI2
      refine ⟨l', hp', ?_, hI'⟩
      show (match It.next (it m) hp with | none => none | some none => _ | some (some (x, it')) => _) = _
      rw [F.item _ (hok m l hp hI) m hlt]
      simp only [hfit, e1, e2]
      exact e3
    · have : m = xs.length := by omega
      subst this
      refine ⟨l, hp, ?_, hI⟩
      show (match It.next (it xs.length) hp with | none => none | some none => _ | some (some (x, it')) => _) = _
      rw [F.stop _ (hok _ l hp hI) _ hge]
noncomputable def natL (l : List Nat) : List MV := l.map fun (n : Nat) => MV.int (n : Int)
theorem ints_len (l : List Nat) : (natL l).length = l.length := List.length_map ..
theorem atN_get : ∀ (l : List Nat) (k : Nat) (h : k < l.length), l[k] = atN l k
  | a :: l, 0, _ => rfl
  | a :: l, k + 1, h => atN_get l k (by simpa using h)
theorem sub_ints {hp : List MO} {n k : Nat} {l : List Nat} (h : listOf hp n = some (natL l)) (hk : k < l.length) (hf : l.length ≤ few) : subMV (.ref n) (.int (k : Int)) hp = some (.int (atN l k : Int)) := by
  rw [sub_nat h (by rw [ints_len]; exact hk) (by rw [ints_len]; exact hf)]
  simp only [natL, List.getElem_map, atN_get]
theorem len_list {sns : List Int} {hp : List MO} {n : Nat} {xs : List MV} (h : listOf hp n = some xs) (hf : xs.length < few) : gLen sns [.ref n] hp = some (.int (xs.length : Int), hp) := by
  show (match listOf hp n with | some xs => if xs.length < few then some (MV.int xs.length, hp) else none | none => none) = _
  rw [h]; simp only; rw [if_pos hf]
theorem intsOf_ints : ∀ l : List Nat, intsOf (natL l) = some (l.map Int.ofNat)
  | [] => rfl
  | a :: l => by
    show (match intsOf (natL l) with | none => none | some q => some ((a : Int) :: q)) = _
    rw [intsOf_ints l]; rfl
theorem okChar_iff {c : Nat} : okChar c = true ↔ (65 ≤ c ∧ c ≤ 80) ∨ (97 ≤ c ∧ c ≤ 112) := by
  unfold okChar
  simp only [Bool.or_eq_true, Bool.and_eq_true, decide_eq_true_eq]
theorem okChar_lo {c : Nat} (h : okChar c = true) : okChar (lo1 c) = true := by
  rw [okChar_iff] at h ⊢
  unfold lo1
  split
  · omega
  · omega
theorem okChars_lo {x : List Nat} (h : x.all okChar = true) : (x.map lo1).all okChar = true := by
  rw [List.all_map]
  rw [List.all_eq_true] at h ⊢
  intro c hc
  exact okChar_lo (h c hc)
theorem okChars_128 {x : List Nat} (h : x.all okChar = true) : x.all (fun c => decide (c < 128)) = true := by
  rw [List.all_eq_true] at h ⊢
  intro c hc
  have := okChar_iff.mp (h c hc)
  simp only [decide_eq_true_eq]
  omega
theorem gLower_ok {x : List Nat} (h : x.all okChar = true) (hl : x.length ≤ few) (hp : List MO) : gLower [.str x] hp = some (.str (x.map lo1), hp) := by
  show (if _ then _ else _) = _
  rw [if_pos ⟨okChars_128 h, hl⟩]
noncomputable def hdrOk (x : MV) : Prop := ∃ k v, x = .tup [.str k, .str v] ∧ k.all okChar = true ∧ k.length ≤ few ∧ v.all okChar = true ∧ v.length ≤ few
theorem inst_of {hp : List MO} {C : Addr} {i d : Nat} {v : Option MV} (hi : hp[i]? = some (.inst C d)) (hd : hp[d]? = some (.idict v)) : instOf C (.ref i) hp = some (d, v) := by
  show (match instAt C hp i with | none => none | some d => match ownAt hp d with | none => none | some v => some (d, v)) = _
  unfold instAt ownAt
  rw [hi]; simp only [if_pos]; rw [hd]
theorem lt_of_some {hp : List MO} {i : Nat} {o : MO} (h : hp[i]? = some o) : i < hp.length := (List.getElem?_eq_some_iff.mp h).1
theorem listOf_get {hp : List MO} {j : Nat} {T : List MV} (h : listOf hp j = some T) : hp[j]? = some (.list T) := by
  unfold listOf at h
  split at h
  · rename_i xs q; cases h; exact q
  · cases h
theorem of_get {hp : List MO} {j : Nat} {T : List MV} (h : hp[j]? = some (.list T)) : listOf hp j = some T := by unfold listOf; rw [h]
theorem sAttr_eq {C : Addr} {mo mv : ME} {v a : MV} {d : Nat} {loc : Loc} {hp h1 h2 : List MO} (e1 : mv loc hp = some (v, h1)) (e2 : mo loc h1 = some (a, h2)) (e3 : instOf C a h2 = some (d, none)) : sAttr C mo mv loc hp = some (.next, loc, h2.set d (.idict (some v))) := by
  unfold sAttr; simp only [e1, e2, e3]
theorem mAttr_eq {C : Addr} {m : ME} {a : MV} {d j : Nat} {loc : Loc} {hp h1 : List MO} (e : m loc hp = some (a, h1)) (e2 : instOf C a h1 = some (d, some (.ref j))) : mAttr C m loc hp = some (.ref j, h1) := by
  unfold mAttr; simp only [e, e2]
theorem iVal_list {m : ME} {j : Nat} {T : List MV} {loc : Loc} {hp h1 : List MO} (e : m loc hp = some (.ref j, h1)) (h : listOf h1 j = some T) : iVal m loc hp = some (.list j 0, h1) := by
  unfold iVal; simp only [e]
  have : itOf (.ref j) h1 = some (.list j 0) := by
    show (match listOf h1 j with | some _ => some (It.list j 0) | none => none) = _
    rw [h]
  simp only [this]
theorem iAttr_list {C : Addr} {m : ME} {a : MV} {d j : Nat} {T : List MV} {loc : Loc} {hp h1 : List MO} (e : m loc hp = some (a, h1)) (e2 : instOf C a h1 = some (d, some (.ref j))) (h : listOf h1 j = some T) : iVal (mAttr C m) loc hp = some (.list j 0, h1) := iVal_list (mAttr_eq e e2) h
theorem instOf_app {C : Addr} {a : MV} {q : Nat × Option MV} {hp : List MO} (h : instOf C a hp = some q) (g : List MO) : instOf C a (hp ++ g) = some q := by
  unfold instOf at h ⊢
  split at h
  · rename_i i
    unfold instAt ownAt at *
    split at h
    · cases h
    · rename_i d hd
      split at hd
      · rename_i C' d' e
        rw [List.getElem?_append_left (lt_of_some e), e]
        simp only [hd]
        split at h
        · cases h
        · rename_i v hv
          split at hv
          · rename_i v' e'
            rw [List.getElem?_append_left (lt_of_some e'), e']
            simp only
            cases hv; exact h
          · cases hv
      · cases hd
  · cases h
theorem up_okChars {x : List Nat} (h : x.all up = true) : x.all okChar = true := by
  rw [List.all_eq_true] at h ⊢
  intro c hc
  have := up_iff.mp (h c hc)
  rw [okChar_iff]
  omega
noncomputable def fmodN (v : Int) (n : Nat) : Nat := (v.fmod n).toNat
theorem fmodN_ok (v : Int) {n : Nat} (h : 0 < n) : v.fmod n = (fmodN v n : Int) ∧ fmodN v n < n := by
  have h1 := Int.fmod_nonneg_of_pos v (b := (n : Int)) (by omega)
  have h2 := Int.fmod_lt_of_pos v (b := (n : Int)) (by omega)
  unfold fmodN
  omega
theorem natL_app (a b : List Nat) : natL a ++ natL b = natL (a ++ b) := by unfold natL; rw [List.map_append]
theorem comp_map {n i : Nat} {mi : MI} {me : ME} {k : Nat} {ci : List Nat} {loc : Loc} {hp hp1 : List MO} {ok : List MO → Prop} {it : Nat → It} {xs : List MV} {e : MV → MV}
    (F : Feeds ok it xs) (h1 : mi loc hp = some (it 0, hp1)) (hok : ∀ acc, ok (hp1 ++ [.list acc])) (hfit : ∀ m, fitsT (.one i) (it m) = true) (hn : xs.length < n) (hf : xs.length < few)
    (he : ∀ x ∈ xs, ∀ acc, me ((compLoc k ci loc).set i (some x)) (hp1 ++ [.list acc]) = some (e x, hp1 ++ [.list acc])) :
    mComp n (.one i) mi tTrue me k ci loc hp = some (.ref hp1.length, hp1 ++ [.list (xs.map e)]) := by
  rw [comp_gen (p := fun _ => true) (lo := fun x => (compLoc k ci loc).set i (some x)) F h1 hok hfit hn hf (fun x _ => rfl) (fun x y l1 h => setT_one h) (fun _ _ _ => rfl) (fun x hx _ acc => he x hx acc)]
  rw [List.filter_eq_self.mpr (fun _ _ => rfl)]
noncomputable def sN (l : List Nat) : List Nat := (sortI (l.map Int.ofNat)).map Int.toNat
theorem mem_sort {l : List Nat} {x : Int} (h : x ∈ sortI (l.map Int.ofNat)) : ∃ k ∈ l, x = (k : Int) := by
  have := (sortI_perm (l.map Int.ofNat)).mem_iff.mp h
  obtain ⟨k, hk, rfl⟩ := List.mem_map.mp this
  exact ⟨k, hk, rfl⟩
theorem intL_sN (l : List Nat) : intL (sortI (l.map Int.ofNat)) = natL (sN l) := by
  unfold intL natL sN
  rw [List.map_map]
  apply List.map_congr_left
  intro x hx
  obtain ⟨k, _, rfl⟩ := mem_sort hx
  rfl
theorem sN_len (l : List Nat) : (sN l).length = l.length := by
  unfold sN; rw [List.length_map, (sortI_perm _).length_eq, List.length_map]
theorem sorted_nat {hp : List MO} {i : Nat} {l : List Nat} (h : listOf hp i = some (natL l)) (hl : l.length < 64) : gSorted [.ref i] hp = some (.ref hp.length, hp ++ [.list (natL (sN l))]) := by
  show (match listOf hp i with | some xs => (match intsOf xs with | none => none | some l => if l.length < 64 then some (MV.ref hp.length, hp ++ [MO.list (intL (sortI l))]) else none) | none => none) = _
  rw [h]
  simp only [intsOf_ints]
  rw [if_pos (by rw [List.length_map]; exact hl), intL_sN]
theorem get_app {hp : List MO} {i : Nat} {o : MO} (h : hp[i]? = some o) (g : List MO) : (hp ++ g)[i]? = some o := by
  rw [List.getElem?_append_left (lt_of_some h)]; exact h
theorem listOf_set {hp : List MO} {i j : Nat} {o : MO} (h : i ≠ j) : listOf (hp.set i o) j = listOf hp j := by
  unfold listOf; rw [List.getElem?_set_ne h]
theorem max_nat {hp : List MO} {i : Nat} {l : List Nat} (h : listOf hp i = some (natL l)) (hl : l ≠ []) : gMax [.ref i] hp = some (.int (maxI (l.map Int.ofNat)), hp) := by
  show (match listOf hp i with | some xs => (match intsOf xs with | none => none | some l => (match (match l with | [] => none | l => some (MV.int (maxI l))) with | none => none | some v => some (v, hp))) | none => none) = _
  rw [h]
  simp only [intsOf_ints]
  cases l with
  | nil => exact absurd rfl hl
  | cons a l => rfl
noncomputable def eBool (f : Nat → Bool) (x : MV) : Bool := match x with
  | .int i => f i.toNat
  | _ => false
theorem intL_take (l : List Int) (n : Nat) : (intL l).take n = intL (l.take n) := by unfold intL; rw [List.map_take]
theorem intL_drop (l : List Int) (n : Nat) : (intL l).drop n = intL (l.drop n) := by unfold intL; rw [List.map_drop]
theorem intL_app (a b : List Int) : intL a ++ intL b = intL (a ++ b) := by unfold intL; rw [List.map_append]
theorem intL_len (l : List Int) : (intL l).length = l.length := List.length_map ..
theorem eq_lists {hp : List MO} {i j : Nat} {xs ys : List MV} (hi : listOf hp i = some xs) (hj : listOf hp j = some ys) : eqV (.ref i) (.ref j) hp = if xs.length = ys.length then eqAll eqT xs ys else some false := by
  show (match listOf hp i, listOf hp j with | some xs, some ys => if xs.length = ys.length then eqAll eqT xs ys else some false | _, _ => none) = _
  rw [hi, hj]
end Mine
end
section
open PySem PySem.W PyProof.Rows PySem.Spec PySem.Calls
set_option linter.unusedVariables false
set_option maxRecDepth 100000
namespace Mine
theorem CodeOk.aloneL {B : Base} {d : Nat} {f : Value} {mk : List Value → Args} {g g' : GF} (K : CodeOk B d f mk g)
    (h : ∀ vs hp v hp', g' vs hp = some (v, hp') → noRefs vs = true ∧ ∃ r gar xs, g vs [] = some (.ref r, gar) ∧ gar[r]? = some (.list xs) ∧ noRefs xs = true ∧ v = .ref hp.length ∧ hp' = hp ++ [.list xs]) : CodeOk B d f mk g' := by
  intro vs hp v hp' ρ s us e G r A R hA k
  obtain ⟨hn, i0, gar, xs, e1, hg, hx, rfl, rfl⟩ := h vs hp v hp' e
  have G0 : Good B [] [] s := ⟨G.same, G.keep, (fun _ q => nomatch q), .nil, rfl, fun i mo a q => by simp at q⟩
  refine K vs [] (.ref i0) gar [] s us e1 G0 (VRL.noRef r hn) A R hA fun u ρ' s' x G' r' => ?_
  have hk : ∀ b o, s.heap.get? b = some o → s'.heap.get? b = some o := fun b o q => x.keep b o q (fun w => nomatch w) (fun w => nomatch w)
  cases r' with
  | ref _ a ea =>
    have hO := G'.ok i0 (.list xs) a hg ea
    have hnew : s.heap.get? a = none := by
      obtain ⟨m, e2, hm⟩ := x.more
      have : a ∈ ρ' := List.mem_of_getElem? ea
      rw [e2] at this
      exact hm a (by simpa using this)
    have hal : ∀ b ∈ ρ, ∃ o, s.heap.get? b = some o := by
      intro b hb
      obtain ⟨i, hi, rfl⟩ := List.getElem_of_mem hb
      have hi' : i < hp.length := G.len ▸ hi
      exact (G.ok i hp[i] ρ[i] (List.getElem?_eq_getElem hi') (List.getElem?_eq_getElem hi)).alive
    have hna : a ∉ ρ := fun q => by obtain ⟨o, e3⟩ := hal a q; rw [hnew] at e3; cases e3
    have x2 : Ext ρ s.heap (ρ ++ [a]) s'.heap [] := ⟨⟨[a], rfl, fun b hb => by rw [List.mem_singleton.mp hb]; exact hnew⟩, fun b o e _ _ => hk b o e, fun b o e _ => ⟨o, hk b o e⟩⟩
    have hlast : (ρ ++ [a])[hp.length]? = some a := by rw [← G.len, List.getElem?_append_right (Nat.le_refl _)]; simp
    have G2 : Good B (ρ ++ [a]) (hp ++ [.list xs]) s' := by
      refine ⟨G'.same, G'.keep, ?_, ?_, ?_, ?_⟩
      · intro b hb
        rcases List.mem_append.mp hb with q | q
        · exact G.fresh b q
        · rw [List.mem_singleton.mp q]
          cases e3 : B.s₀.heap.get? a with
          | none => rfl
          | some o => rw [G.keep a o e3] at hnew; cases hnew
      · rw [List.nodup_append]
        exact ⟨G.nd, by simp, fun b hb c hc => by rw [List.mem_singleton.mp hc]; rintro rfl; exact hna hb⟩
      · rw [List.length_append, List.length_append, G.len]; rfl
      · intro i mo b q1 q2
        rcases Nat.lt_or_ge i hp.length with hi | hi
        · rw [List.getElem?_append_left hi] at q1
          rw [List.getElem?_append_left (by rw [G.len]; exact hi)] at q2
          exact (G.ok i mo b q1 q2).ext x2 G.nt .nil fun o e => hk b o e
        · have hi2 : i = hp.length := by
            have := (List.getElem?_eq_some_iff.mp q1).1
            rw [List.length_append, List.length_singleton] at this
            omega
          subst hi2
          rw [List.getElem?_append_right (Nat.le_refl _)] at q1
          simp at q1
          subst q1
          rw [hlast] at q2
          cases q2
          cases hO with
          | list _ vs' _ hl hv => exact .list xs vs' a hl (VRL.noRef hv hx)
    exact k (.ref a) (ρ ++ [a]) s' x2 G2 (.ref _ a hlast)
noncomputable def aloneL (g : GF) : GF := fun vs hp => match noRefs vs with
  | false => none
  | true => match g vs [] with
    | some (.ref r, gar) => match gar[r]? with
      | some (.list xs) => match noRefs xs with
        | true => some (.ref hp.length, hp ++ [.list xs])
        | false => none
      | _ => none
    | _ => none
theorem CodeOk.aloneL_ok {B : Base} {d : Nat} {f : Value} {mk : List Value → Args} {g : GF} (K : CodeOk B d f mk g) : CodeOk B d f mk (Mine.aloneL g) := by
  refine K.aloneL fun vs hp v hp' e => ?_
  unfold Mine.aloneL at e
  split at e
  · cases e
  · rename_i h1
    split at e
    · rename_i r gar h2
      split at e
      · rename_i xs h3
        split at e
        · rename_i h4
          cases e
          exact ⟨h1, r, gar, xs, h2, h3, h4, rfl, rfl⟩
        · cases e
      · cases e
    · cases e
end Mine
end
section
open PySem PySem.W PyProof.Rows PySem.Spec PySem.Calls
set_option linter.unusedVariables false
set_option maxRecDepth 100000
namespace Mine
section
variable {B : Base} {p : Params}
theorem bn_abs (O : B.Ok) (hK : B.K = Mine.hd.heap_39 p) : B.mg "abs" = none := O.noglob (by rw [hK]; kernel_rfl)
theorem bb_abs : bootBuiltins "abs" = some (.builtin "abs") := by decide +kernel
theorem bn_chr (O : B.Ok) (hK : B.K = Mine.hd.heap_39 p) : B.mg "chr" = none := O.noglob (by rw [hK]; kernel_rfl)
theorem bb_chr : bootBuiltins "chr" = some (.builtin "chr") := by decide +kernel
theorem bn_divmod (O : B.Ok) (hK : B.K = Mine.hd.heap_39 p) : B.mg "divmod" = none := O.noglob (by rw [hK]; kernel_rfl)
theorem bb_divmod : bootBuiltins "divmod" = some (.builtin "divmod") := by decide +kernel
theorem bn_enumerate (O : B.Ok) (hK : B.K = Mine.hd.heap_39 p) : B.mg "enumerate" = none := O.noglob (by rw [hK]; kernel_rfl)
theorem bb_enumerate : bootBuiltins "enumerate" = some (.type "enumerate") := by decide +kernel
theorem bn_hex (O : B.Ok) (hK : B.K = Mine.hd.heap_39 p) : B.mg "hex" = none := O.noglob (by rw [hK]; kernel_rfl)
theorem bb_hex : bootBuiltins "hex" = some (.builtin "hex") := by decide +kernel
theorem bn_int (O : B.Ok) (hK : B.K = Mine.hd.heap_39 p) : B.mg "int" = none := O.noglob (by rw [hK]; kernel_rfl)
theorem bb_int : bootBuiltins "int" = some (.type "int") := by decide +kernel
theorem bn_len (O : B.Ok) (hK : B.K = Mine.hd.heap_39 p) : B.mg "len" = none := O.noglob (by rw [hK]; kernel_rfl)
theorem bb_len : bootBuiltins "len" = some (.builtin "len") := by decide +kernel
theorem bn_list (O : B.Ok) (hK : B.K = Mine.hd.heap_39 p) : B.mg "list" = none := O.noglob (by rw [hK]; kernel_rfl)
theorem bb_list : bootBuiltins "list" = some (.type "list") := by decide +kernel
theorem bn_max (O : B.Ok) (hK : B.K = Mine.hd.heap_39 p) : B.mg "max" = none := O.noglob (by rw [hK]; kernel_rfl)
theorem bb_max : bootBuiltins "max" = some (.builtin "max") := by decide +kernel
theorem bn_range (O : B.Ok) (hK : B.K = Mine.hd.heap_39 p) : B.mg "range" = none := O.noglob (by rw [hK]; kernel_rfl)
theorem bb_range : bootBuiltins "range" = some (.type "range") := by decide +kernel
theorem bn_sorted (O : B.Ok) (hK : B.K = Mine.hd.heap_39 p) : B.mg "sorted" = none := O.noglob (by rw [hK]; kernel_rfl)
theorem bb_sorted : bootBuiltins "sorted" = some (.builtin "sorted") := by decide +kernel
theorem bn_str (O : B.Ok) (hK : B.K = Mine.hd.heap_39 p) : B.mg "str" = none := O.noglob (by rw [hK]; kernel_rfl)
theorem bb_str : bootBuiltins "str" = some (.type "str") := by decide +kernel
theorem bn_type (O : B.Ok) (hK : B.K = Mine.hd.heap_39 p) : B.mg "type" = none := O.noglob (by rw [hK]; kernel_rfl)
theorem bb_type : bootBuiltins "type" = some (.type "type") := by decide +kernel
theorem gl_COMPILER_FLAG_NAMES (O : B.Ok) (hK : B.K = Mine.hd.heap_39 p) : B.mg "COMPILER_FLAG_NAMES" = some (.ref 187) := O.glob (by rw [hK]; kernel_rfl)
theorem gl_Headers (O : B.Ok) (hK : B.K = Mine.hd.heap_39 p) : B.mg "Headers" = some (.ref 182) := O.glob (by rw [hK]; kernel_rfl)
theorem gl_Int2AP (O : B.Ok) (hK : B.K = Mine.hd.heap_39 p) : B.mg "Int2AP" = some (.ref 201) := O.glob (by rw [hK]; kernel_rfl)
theorem gl__law_powers (O : B.Ok) (hK : B.K = Mine.hd.heap_39 p) : B.mg "_law_powers" = some (.ref 211) := O.glob (by rw [hK]; kernel_rfl)
theorem gl__law_reached (O : B.Ok) (hK : B.K = Mine.hd.heap_39 p) : B.mg "_law_reached" = some (.ref 232) := O.glob (by rw [hK]; kernel_rfl)
theorem gl__law_table (O : B.Ok) (hK : B.K = Mine.hd.heap_39 p) : B.mg "_law_table" = some (.ref 218) := O.glob (by rw [hK]; kernel_rfl)
theorem gl__law_upto (O : B.Ok) (hK : B.K = Mine.hd.heap_39 p) : B.mg "_law_upto" = some (.ref 225) := O.glob (by rw [hK]; kernel_rfl)
theorem gl__law_word (O : B.Ok) (hK : B.K = Mine.hd.heap_39 p) : B.mg "_law_word" = some (.ref 206) := O.glob (by rw [hK]; kernel_rfl)
theorem gl__name_disallowed_re (O : B.Ok) (hK : B.K = Mine.hd.heap_39 p) : B.mg "_name_disallowed_re" = some (.ref 48) := O.glob (by rw [hK]; kernel_rfl)
theorem gl__value_disallowed_re (O : B.Ok) (hK : B.K = Mine.hd.heap_39 p) : B.mg "_value_disallowed_re" = some (.ref 53) := O.glob (by rw [hK]; kernel_rfl)
theorem gl_pretty_flags (O : B.Ok) (hK : B.K = Mine.hd.heap_39 p) : B.mg "pretty_flags" = some (.ref 194) := O.glob (by rw [hK]; kernel_rfl)
theorem kp_182 (O : B.Ok) (hK : B.K = Mine.hd.heap_39 p) : keepIn B.K (.ref 182) = true := by rw [hK]; kernel_rfl
theorem kp_194 (O : B.Ok) (hK : B.K = Mine.hd.heap_39 p) : keepIn B.K (.ref 194) = true := by rw [hK]; kernel_rfl
theorem kp_201 (O : B.Ok) (hK : B.K = Mine.hd.heap_39 p) : keepIn B.K (.ref 201) = true := by rw [hK]; kernel_rfl
theorem kp_206 (O : B.Ok) (hK : B.K = Mine.hd.heap_39 p) : keepIn B.K (.ref 206) = true := by rw [hK]; kernel_rfl
theorem kp_211 (O : B.Ok) (hK : B.K = Mine.hd.heap_39 p) : keepIn B.K (.ref 211) = true := by rw [hK]; kernel_rfl
theorem kp_218 (O : B.Ok) (hK : B.K = Mine.hd.heap_39 p) : keepIn B.K (.ref 218) = true := by rw [hK]; kernel_rfl
theorem kp_225 (O : B.Ok) (hK : B.K = Mine.hd.heap_39 p) : keepIn B.K (.ref 225) = true := by rw [hK]; kernel_rfl
theorem kp_232 (O : B.Ok) (hK : B.K = Mine.hd.heap_39 p) : keepIn B.K (.ref 232) = true := by rw [hK]; kernel_rfl
noncomputable def flagTbl : List (Int × List Nat) := [(1, [79, 80, 84, 73, 77, 73, 90, 69, 68]), (2, [78, 69, 87, 76, 79, 67, 65, 76, 83]), (4, [86, 65, 82, 65, 82, 71, 83]), (8, [86, 65, 82, 75, 69, 89, 87, 79, 82, 68, 83]), (16, [78, 69, 83, 84, 69, 68]), (32, [71, 69, 78, 69, 82, 65, 84, 79, 82]), (64, [78, 79, 70, 82, 69, 69]), (128, [67, 79, 82, 79, 85, 84, 73, 78, 69]), (256, [73, 84, 69, 82, 65, 66, 76, 69, 95, 67, 79, 82, 79, 85, 84, 73, 78, 69]), (512, [65, 83, 89, 78, 67, 95, 71, 69, 78, 69, 82, 65, 84, 79, 82])]
theorem di_flags (O : B.Ok) (hK : B.K = Mine.hd.heap_39 p) : DictIs B 187 flagTbl := ⟨⟨_, _, O.k _ _ (by rw [hK]; with_unfolding_all rfl), by decide +kernel⟩, by decide⟩
theorem re_name (O : B.Ok) (hK : B.K = Mine.hd.heap_39 p) : ReIs B 48 := by
  refine ⟨_, _, _, _, _, _, O.k _ _ (by rw [hK]; with_unfolding_all rfl), rfl, rfl, rfl, rfl, rfl, rfl, O.k _ _ (by rw [hK]; with_unfolding_all rfl), rfl, fun m hm => ?_, ?_⟩
  · unfold Sre.M.hasFirstSet
    rw [hm]; kernel_rfl
  · refine okChar_cases fun i hi => ?_
    match i, hi with
    | 0, _ => exact ⟨fun seen => by kernel_rfl, fun seen => by kernel_rfl⟩
    | 1, _ => exact ⟨fun seen => by kernel_rfl, fun seen => by kernel_rfl⟩
    | 2, _ => exact ⟨fun seen => by kernel_rfl, fun seen => by kernel_rfl⟩
    | 3, _ => exact ⟨fun seen => by kernel_rfl, fun seen => by kernel_rfl⟩
    | 4, _ => exact ⟨fun seen => by kernel_rfl, fun seen => by kernel_rfl⟩
    | 5, _ => exact ⟨fun seen => by kernel_rfl, fun seen => by kernel_rfl⟩
    | 6, _ => exact ⟨fun seen => by kernel_rfl, fun seen => by kernel_rfl⟩
    | 7, _ => exact ⟨fun seen => by kernel_rfl, fun seen => by kernel_rfl⟩
    | 8, _ => exact ⟨fun seen => by kernel_rfl, fun seen => by kernel_rfl⟩
    | 9, _ => exact ⟨fun seen => by kernel_rfl, fun seen => by kernel_rfl⟩
    | 10, _ => exact ⟨fun seen => by kernel_rfl, fun seen => by kernel_rfl⟩
    | 11, _ => exact ⟨fun seen => by kernel_rfl, fun seen => by kernel_rfl⟩
    | 12, _ => exact ⟨fun seen => by kernel_rfl, fun seen => by kernel_rfl⟩
    | 13, _ => exact ⟨fun seen => by kernel_rfl, fun seen => by kernel_rfl⟩
    | 14, _ => exact ⟨fun seen => by kernel_rfl, fun seen => by kernel_rfl⟩
    | 15, _ => exact ⟨fun seen => by kernel_rfl, fun seen => by kernel_rfl⟩
    | n + 16, h => exact absurd h (by omega)
theorem re_value (O : B.Ok) (hK : B.K = Mine.hd.heap_39 p) : ReIs B 53 := by
  refine ⟨_, _, _, _, _, _, O.k _ _ (by rw [hK]; with_unfolding_all rfl), rfl, rfl, rfl, rfl, rfl, rfl, O.k _ _ (by rw [hK]; with_unfolding_all rfl), rfl, fun m hm => ?_, ?_⟩
  · unfold Sre.M.hasFirstSet
    rw [hm]; kernel_rfl
  · refine okChar_cases fun i hi => ?_
    match i, hi with
    | 0, _ => exact ⟨fun seen => by kernel_rfl, fun seen => by kernel_rfl⟩
    | 1, _ => exact ⟨fun seen => by kernel_rfl, fun seen => by kernel_rfl⟩
    | 2, _ => exact ⟨fun seen => by kernel_rfl, fun seen => by kernel_rfl⟩
    | 3, _ => exact ⟨fun seen => by kernel_rfl, fun seen => by kernel_rfl⟩
    | 4, _ => exact ⟨fun seen => by kernel_rfl, fun seen => by kernel_rfl⟩
    | 5, _ => exact ⟨fun seen => by kernel_rfl, fun seen => by kernel_rfl⟩
    | 6, _ => exact ⟨fun seen => by kernel_rfl, fun seen => by kernel_rfl⟩
    | 7, _ => exact ⟨fun seen => by kernel_rfl, fun seen => by kernel_rfl⟩
    | 8, _ => exact ⟨fun seen => by kernel_rfl, fun seen => by kernel_rfl⟩
    | 9, _ => exact ⟨fun seen => by kernel_rfl, fun seen => by kernel_rfl⟩
    | 10, _ => exact ⟨fun seen => by kernel_rfl, fun seen => by kernel_rfl⟩
    | 11, _ => exact ⟨fun seen => by kernel_rfl, fun seen => by kernel_rfl⟩
    | 12, _ => exact ⟨fun seen => by kernel_rfl, fun seen => by kernel_rfl⟩
    | 13, _ => exact ⟨fun seen => by kernel_rfl, fun seen => by kernel_rfl⟩
    | 14, _ => exact ⟨fun seen => by kernel_rfl, fun seen => by kernel_rfl⟩
    | 15, _ => exact ⟨fun seen => by kernel_rfl, fun seen => by kernel_rfl⟩
    | n + 16, h => exact absurd h (by omega)
theorem hn_ok (O : B.Ok) (hK : B.K = Mine.hd.heap_39 p) : nsOkIn B.K 181 = true := by rw [hK]; kernel_rfl
theorem hcls (O : B.Ok) (hK : B.K = Mine.hd.heap_39 p) : HCls B 182 181 (B.s₀.heap.nsMap 181) :=
  HCls.ofK O (by rw [hK]; with_unfolding_all rfl) (hn_ok O hK) (by rw [hK]; kernel_rfl) (by rw [hK]; kernel_rfl) (by rw [hK]; kernel_rfl) (by rw [hK]; kernel_rfl)
theorem mk_cls (O : B.Ok) (hK : B.K = Mine.hd.heap_39 p) : makesIn B.K 182 = true := by rw [hK]; kernel_rfl
theorem ow_items (O : B.Ok) (hK : B.K = Mine.hd.heap_39 p) : OwnIs B 182 "items" 146 := OwnIs.ofK (y := none) O (hcls O hK) (hn_ok O hK) (by rw [hK]; kernel_rfl) (by rw [hK]; with_unfolding_all rfl) rfl (by rw [hK]; kernel_rfl) (by decide) (by rw [typeLookup_type, builtinLookup_eq_fast]; kernel_rfl)
theorem ow__convert_string_type (O : B.Ok) (hK : B.K = Mine.hd.heap_39 p) : OwnIs B 182 "_convert_string_type" 83 := OwnIs.ofK (y := none) O (hcls O hK) (hn_ok O hK) (by rw [hK]; kernel_rfl) (by rw [hK]; with_unfolding_all rfl) rfl (by rw [hK]; kernel_rfl) (by decide) (by rw [typeLookup_type, builtinLookup_eq_fast]; kernel_rfl)
theorem ow_get_all (O : B.Ok) (hK : B.K = Mine.hd.heap_39 p) : OwnIs B 182 "get_all" 121 := OwnIs.ofK (y := none) O (hcls O hK) (hn_ok O hK) (by rw [hK]; kernel_rfl) (by rw [hK]; with_unfolding_all rfl) rfl (by rw [hK]; kernel_rfl) (by decide) (by rw [typeLookup_type, builtinLookup_eq_fast]; kernel_rfl)
theorem fi_dinitd (O : B.Ok) (hK : B.K = Mine.hd.heap_39 p) : findIn B.K (.ref 182) "__init__" = some (some (.ref 76)) := by rw [hK]; kernel_rfl
theorem ty_dinitd (O : B.Ok) (hK : B.K = Mine.hd.heap_39 p) : typeIn B.K (.ref 76) = some (.type "function") := by rw [hK]; kernel_rfl
theorem ow_add_header (O : B.Ok) (hK : B.K = Mine.hd.heap_39 p) : OwnIs B 182 "add_header" 179 := OwnIs.ofK (y := none) O (hcls O hK) (hn_ok O hK) (by rw [hK]; kernel_rfl) (by rw [hK]; with_unfolding_all rfl) rfl (by rw [hK]; kernel_rfl) (by decide) (by rw [typeLookup_type, builtinLookup_eq_fast]; kernel_rfl)
noncomputable def f_H_items (sns : List Int) : GF := funX (xPlain 1) 0
  (sSeq (sRet (mCut sns (mAttr 182 (mVar 0)) pNone pNone pNone))
   sNil)
set_option maxHeartbeats 4000000 in
theorem ok_H_items (O : B.Ok) (hK : B.K = Mine.hd.heap_39 p) : CodeOk B 4 (.ref 146) plainMk (f_H_items B.sns) := by
  refine code_fun (n := 1) (Γ := ⟨_, ["self"]⟩) O (FunIs.ofK O (by rw [hK]; with_unfolding_all rfl) rfl rfl rfl (by rw [hK]; with_unfolding_all rfl) rfl rfl rfl rfl rfl rfl rfl rfl rfl (by decide +kernel) (by decide +kernel) (by decide +kernel) (by decide +kernel)) ?_ (by decide) ?_
  · exact (snd_seq (snd_ret (snd_cut O (snd_attr (hcls O hK) (snd_name 0 rfl) rfl) snd_pnone snd_pnone snd_pnone))
   snd_snil)
  · exact (bind_plain rfl (fun us hl => match us, hl with | [a0], _ => rfl))
noncomputable def f_H__convert_string_type (sns : List Int) : GF := funX (xPlain 3) 1
  (sSeq (sIf (tCmp .Is (mCall gType (lCons (mVar 1) lNil)) (mFix (.type "str"))) (sSeq (sSet 3 (mIf (tVal (mVar 2)) (mFix (.ref 48)) (mFix (.ref 53))))
   (sSeq (sIf (tVal (mMeth (isPat2 48 53) (gPat2 48 53) (mVar 3) (lCons (mVar 1) lNil))) (sSeq sNone
   sNil) sNil)
   (sSeq (sRet (mVar 1))
   sNil))) sNil)
   (sSeq sNone
   sNil))
set_option maxHeartbeats 4000000 in
theorem ok_H__convert_string_type (O : B.Ok) (hK : B.K = Mine.hd.heap_39 p) : CodeOk B 4 (.ref 83) (kwMk "name") (f_H__convert_string_type B.sns) := by
  refine code_fun (n := 3) (Γ := ⟨_, ["self", "value", "name", "regex"]⟩) O (FunIs.ofK O (by rw [hK]; with_unfolding_all rfl) rfl rfl rfl (by rw [hK]; with_unfolding_all rfl) rfl rfl rfl rfl rfl rfl rfl rfl rfl (by decide +kernel) (by decide +kernel) (by decide +kernel) (by decide +kernel)) ?_ (by decide) ?_
  · exact (snd_seq (snd_sif (snd_t_cmp (snd_call (snd_blt O rfl (bn_type O hK) bb_type) (.type _) (snd_cons (snd_name 1 rfl) snd_nil) call_type) (snd_blt O rfl (bn_str O hK) bb_str)) (snd_seq (snd_set 3 (snd_if (snd_t_val (snd_name 2 rfl)) (snd_glob O rfl (gl__name_disallowed_re O hK)) (snd_glob O rfl (gl__value_disallowed_re O hK))) rfl)
   (snd_seq (snd_sif (snd_t_val (snd_meth (isPat_ok (re_name O hK) (re_value O hK)) re_plain re_slot re_type (call_pat (re_name O hK) (re_value O hK)) (snd_name 3 rfl) (snd_cons (snd_name 1 rfl) snd_nil))) (snd_seq snd_snone
   snd_snil) snd_snil)
   (snd_seq (snd_ret (snd_name 1 rfl))
   snd_snil))) snd_snil)
   (snd_seq snd_snone
   snd_snil))
  · exact (bind_plain rfl (fun us hl => match us, hl with | [a0, a1, a2], _ => rfl))
noncomputable def f_H_get_all (sns : List Int) : GF := funX (xPlain 2) 0
  (sSeq (sSet 1 (mOwnK 182 (f_H__convert_string_type sns) (mVar 0) (lCons (mMeth isStrMV gLower (mVar 1) lNil) lNil) (mBool true)))
   (sSeq (sRet (mComp 4000 (.one 1) (iVal (mAttr 182 (mVar 0))) (tCmp .Eq (mMeth isStrMV gLower (mSub (mVar 1) (mInt 0)) lNil) (mVar 2)) (mSub (mVar 1) (mInt 1)) 2 [1]))
   sNil))
set_option maxHeartbeats 4000000 in
theorem ok_H_get_all (O : B.Ok) (hK : B.K = Mine.hd.heap_39 p) : CodeOk B 6 (.ref 121) plainMk (f_H_get_all B.sns) := by
  refine code_fun (n := 2) (Γ := ⟨_, ["self", "name"]⟩) O (FunIs.ofK O (by rw [hK]; with_unfolding_all rfl) rfl rfl rfl (by rw [hK]; with_unfolding_all rfl) rfl rfl rfl rfl rfl rfl rfl rfl rfl (by decide +kernel) (by decide +kernel) (by decide +kernel) (by decide +kernel)) ?_ (by decide) ?_
  · exact (snd_seq (snd_set 1 (snd_ownk O (ow__convert_string_type O hK) ((ok_H__convert_string_type O hK).le) (snd_name 0 rfl) (snd_cons (snd_meth isStrMV_ok PySem.F.plainAttrs_str PySem.F.slot_str_lower PySem.F.type_str_lower call_lower (snd_name 1 rfl) snd_nil) snd_nil) snd_bool) rfl)
   (snd_seq (snd_ret (snd_comp (Γ' := ⟨_, [".0", "kv", "name"]⟩) (k := 2) (ci := [1]) ⟨rfl, by decide +kernel, by decide +kernel, by decide +kernel, rfl, by decide +kernel, by decide +kernel, by rfl, by decide, by decide +kernel⟩ (.one 1 _ _ rfl (by decide)) rfl (snd_ival (snd_attr (hcls O hK) (snd_name 0 rfl) rfl)) (snd_cone (snd_t_cmp (snd_meth isStrMV_ok PySem.F.plainAttrs_str PySem.F.slot_str_lower PySem.F.type_str_lower call_lower (snd_sub (snd_name 1 rfl) snd_int) snd_nil) (snd_name 2 rfl))) (snd_sub (snd_name 1 rfl) snd_int)))
   snd_snil))
  · exact (bind_plain rfl (fun us hl => match us, hl with | [a0, a1], _ => rfl))
noncomputable def f_Int2AP (sns : List Int) : GF := funX (xPlain 1) 3
  (sSeq (sSet 1 (mBytes []))
   (sSeq (sSet 2 (mBytes [65, 66, 67, 68, 69, 70, 71, 72, 73, 74, 75, 76, 77, 78, 79, 80]))
   (sSeq (sSet 0 (mCall gInt (lCons (mCall gAbs (lCons (mVar 0) lNil)) lNil)))
   (sSeq (whileGo (tVal (mVar 0)) (sSeq (sSet2 0 3 (mCall gDivmod (lCons (mVar 0) (lCons (mInt 16) lNil))))
   (sSeq (sSet 1 (mBin .Add (mCut sns (mVar 2) (pInt (mVar 3)) (pInt (mBin .Add (mVar 3) (mInt 1))) pNone) (mVar 1)))
   sNil)) sNil 4000)
   (sSeq (sRet (mVar 1))
   sNil)))))
set_option maxHeartbeats 4000000 in
theorem ok_Int2AP (O : B.Ok) (hK : B.K = Mine.hd.heap_39 p) : CodeOk B 4 (.ref 201) plainMk (f_Int2AP B.sns) := by
  refine code_fun (n := 1) (Γ := ⟨_, ["num", "val", "AP", "mod"]⟩) O (FunIs.ofK O (by rw [hK]; with_unfolding_all rfl) rfl rfl rfl (by rw [hK]; with_unfolding_all rfl) rfl rfl rfl rfl rfl rfl rfl rfl rfl (by decide +kernel) (by decide +kernel) (by decide +kernel) (by decide +kernel)) ?_ (by decide) ?_
  · exact (snd_seq (snd_set 1 snd_bytes rfl)
   (snd_seq (snd_set 2 snd_bytes rfl)
   (snd_seq (snd_set 0 (snd_call (snd_blt O rfl (bn_int O hK) bb_int) (.type _) (snd_cons (snd_call (snd_blt O rfl (bn_abs O hK) bb_abs) (.builtin _) (snd_cons (snd_name 0 rfl) snd_nil) call_abs) snd_nil) call_int) rfl)
   (snd_seq (snd_while (snd_t_val (snd_name 0 rfl)) (snd_seq (snd_set2 (snd_call (snd_blt O rfl (bn_divmod O hK) bb_divmod) (.builtin _) (snd_cons (snd_name 0 rfl) (snd_cons snd_int snd_nil)) call_divmod) rfl rfl)
   (snd_seq (snd_set 1 (snd_bin (snd_cut O (snd_name 2 rfl) (snd_pint (snd_name 3 rfl)) (snd_pint (snd_bin (snd_name 3 rfl) snd_int)) snd_pnone) (snd_name 1 rfl)) rfl)
   snd_snil)) snd_snil)
   (snd_seq (snd_ret (snd_name 1 rfl))
   snd_snil)))))
  · exact (bind_plain rfl (fun us hl => match us, hl with | [a0], _ => rfl))
noncomputable def f__law_word (sns : List Int) : GF := funX (xPlain 1) 0
  (sSeq (sRet (mMeth isStrMV gJoin (mStr []) (lCons (mComp 4000 (.one 1) (iVal (mCall (f_Int2AP sns) (lCons (mVar 0) lNil))) tTrue (mCall gChr (lCons (mVar 1) lNil)) 2 []) lNil)))
   sNil)
set_option maxHeartbeats 4000000 in
theorem ok__law_word (O : B.Ok) (hK : B.K = Mine.hd.heap_39 p) : CodeOk B 6 (.ref 206) plainMk (f__law_word B.sns) := by
  refine code_fun (n := 1) (Γ := ⟨_, ["number"]⟩) O (FunIs.ofK O (by rw [hK]; with_unfolding_all rfl) rfl rfl rfl (by rw [hK]; with_unfolding_all rfl) rfl rfl rfl rfl rfl rfl rfl rfl rfl (by decide +kernel) (by decide +kernel) (by decide +kernel) (by decide +kernel)) ?_ (by decide) ?_
  · exact (snd_seq (snd_ret (snd_meth isStrMV_ok PySem.F.plainAttrs_str PySem.F.slot_str_join PySem.F.type_str_join call_join snd_str (snd_cons (snd_comp (Γ' := ⟨_, [".0", "octet"]⟩) (k := 2) (ci := []) ⟨rfl, by decide +kernel, by decide +kernel, by decide +kernel, rfl, by decide +kernel, by decide +kernel, by rfl, by decide, by decide +kernel⟩ (.one 1 _ _ rfl (by decide)) rfl (snd_ival (snd_call (snd_glob O rfl (gl_Int2AP O hK)) (.kept _ O (kp_201 O hK)) (snd_cons (snd_name 0 rfl) snd_nil) ((ok_Int2AP O hK).call.le))) snd_cnil (snd_call (snd_blt O rfl (bn_chr O hK) bb_chr) (.builtin _) (snd_cons (snd_name 1 rfl) snd_nil) call_chr)) snd_nil)))
   snd_snil)
  · exact (bind_plain rfl (fun us hl => match us, hl with | [a0], _ => rfl))
noncomputable def f_H_dinitd (sns : List Int) : GF := funX (xDflt 2 []) 2
  (sSeq (sSet 1 (mIf (tCmp .IsNot (mVar 1) mNone) (mVar 1) (mList lNil)))
   (sSeq (sIf (tCmp .IsNot (mCall gType (lCons (mVar 1) lNil)) (mFix (.type "list"))) (sSeq sNone
   sNil) sNil)
   (sSeq (sAttr 182 (mVar 0) (mVar 1))
   (sSeq (sIf (tVal (mBool true)) (sSeq (sFor 4000 (.two 2 3) (iVal (mVar 1)) (sSeq (sExpr (mOwnK 182 (f_H__convert_string_type sns) (mVar 0) (lCons (mVar 2) lNil) (mBool true)))
   (sSeq (sExpr (mOwnK 182 (f_H__convert_string_type sns) (mVar 0) (lCons (mVar 3) lNil) (mBool false)))
   sNil)) sNil)
   sNil) sNil)
   sNil))))
set_option maxHeartbeats 4000000 in
theorem ok_H_dinitd (O : B.Ok) (hK : B.K = Mine.hd.heap_39 p) : CodeOk B 6 (.ref 76) plainMk (f_H_dinitd B.sns) := by
  refine code_fun (n := 2) (Γ := ⟨_, ["self", "headers", "k", "v"]⟩) O (FunIs.ofK O (by rw [hK]; with_unfolding_all rfl) rfl rfl rfl (by rw [hK]; with_unfolding_all rfl) rfl rfl rfl rfl rfl rfl rfl rfl rfl (by decide +kernel) (by decide +kernel) (by decide +kernel) (by decide +kernel)) ?_ (by decide) ?_
  · exact (snd_seq (snd_set 1 (snd_if (snd_t_cmp (snd_name 1 rfl) snd_none) (snd_name 1 rfl) (snd_list snd_nil)) rfl)
   (snd_seq (snd_sif (snd_t_cmp (snd_call (snd_blt O rfl (bn_type O hK) bb_type) (.type _) (snd_cons (snd_name 1 rfl) snd_nil) call_type) (snd_blt O rfl (bn_list O hK) bb_list)) (snd_seq snd_snone
   snd_snil) snd_snil)
   (snd_seq (snd_sattr (hcls O hK) (snd_name 0 rfl) (snd_name 1 rfl) rfl)
   (snd_seq (snd_sif (snd_t_val snd_bool) (snd_seq (snd_for (.two 2 3 _ _ _ _ _ _ rfl (by decide) rfl (by decide)) (snd_ival (snd_name 1 rfl)) (snd_seq (snd_expr (snd_ownk O (ow__convert_string_type O hK) ((ok_H__convert_string_type O hK).le) (snd_name 0 rfl) (snd_cons (snd_name 2 rfl) snd_nil) snd_bool))
   (snd_seq (snd_expr (snd_ownk O (ow__convert_string_type O hK) ((ok_H__convert_string_type O hK).le) (snd_name 0 rfl) (snd_cons (snd_name 3 rfl) snd_nil) snd_bool))
   snd_snil)) snd_snil)
   snd_snil) snd_snil)
   snd_snil))))
  · exact (bind_dflt1 (du := []) O rfl (fun _ _ => .nil) rfl (by rw [hK]; with_unfolding_all rfl) rfl (fun us hl => match us, hl with | [a0, a1], _ => fun A Q E s hg hq => by show wpAny _ _ (seqItems? (.ref _) >>= _) _ _ _; exact wpAny_bind (wpAny_seqItems hg rfl (wpAny_pure hq))))
noncomputable def f_H_add_header (sns : List Int) : GF := funX (xKwd 3) 3
  (sSeq (sSet 4 (mList lNil))
   (sSeq (sIf (tCmp .IsNot (mVar 2) mNone) (sSeq (sSet 2 (mOwnK 182 (f_H__convert_string_type sns) (mVar 0) (lCons (mVar 2) lNil) (mBool false)))
   (sSeq (sExpr (mMeth isListMV gAppend (mVar 4) (lCons (mVar 2) lNil)))
   sNil)) sNil)
   (sSeq (sFor 4000 (.two 5 6) (iKwItems (mVar 3)) sNone sNil)
   (sSeq (sExpr (mMeth isListMV gAppend (mAttr 182 (mVar 0)) (lCons (mTup (lCons (mOwnK 182 (f_H__convert_string_type sns) (mVar 0) (lCons (mVar 1) lNil) (mBool true)) (lCons (mMeth isStrMV gJoin (mStr [59, 32]) (lCons (mVar 4) lNil)) lNil))) lNil)))
   sNil))))
set_option maxHeartbeats 4000000 in
theorem ok_H_add_header (O : B.Ok) (hK : B.K = Mine.hd.heap_39 p) : CodeOk B 6 (.ref 179) plainMk (f_H_add_header B.sns) := by
  refine code_fun (n := 4) (Γ := ⟨_, ["self", "_name", "_value", "_params", "parts", "k", "v"]⟩) O (FunIs.ofK O (by rw [hK]; with_unfolding_all rfl) rfl rfl rfl (by rw [hK]; with_unfolding_all rfl) rfl rfl rfl rfl rfl rfl rfl rfl rfl (by decide +kernel) (by decide +kernel) (by decide +kernel) (by decide +kernel)) ?_ (by decide) ?_
  · exact (snd_seq (snd_set 4 (snd_list snd_nil) rfl)
   (snd_seq (snd_sif (snd_t_cmp (snd_name 2 rfl) snd_none) (snd_seq (snd_set 2 (snd_ownk O (ow__convert_string_type O hK) ((ok_H__convert_string_type O hK).le) (snd_name 0 rfl) (snd_cons (snd_name 2 rfl) snd_nil) snd_bool) rfl)
   (snd_seq (snd_expr (snd_meth isListMV_ok PySem.F.plainAttrs_list PySem.F.slot_list_append PySem.type_list_append call_append (snd_name 4 rfl) (snd_cons (snd_name 2 rfl) snd_nil)))
   snd_snil)) snd_snil)
   (snd_seq (snd_for (.two 5 6 _ _ _ _ _ _ rfl (by decide) rfl (by decide)) (snd_ikw (snd_name 3 rfl)) snd_ssnone snd_snil)
   (snd_seq (snd_expr (snd_meth isListMV_ok PySem.F.plainAttrs_list PySem.F.slot_list_append PySem.type_list_append call_append (snd_attr (hcls O hK) (snd_name 0 rfl) rfl) (snd_cons (snd_tup (snd_cons (snd_ownk O (ow__convert_string_type O hK) ((ok_H__convert_string_type O hK).le) (snd_name 0 rfl) (snd_cons (snd_name 1 rfl) snd_nil) snd_bool) (snd_cons (snd_meth isStrMV_ok PySem.F.plainAttrs_str PySem.F.slot_str_join PySem.F.type_str_join call_join snd_str (snd_cons (snd_name 4 rfl) snd_nil)) snd_nil))) snd_nil)))
   snd_snil))))
  · exact (bind_kwd O rfl (fun us hl => match us, hl with | [a0, a1, a2], _ => rfl))
noncomputable def f_pretty_flags (sns : List Int) : GF := funX (xPlain 1) 3
  (sSeq (sSet 1 (mList lNil))
   (sSeq (sFor 4000 (.one 2) (iRange (lCons (mInt 32) lNil)) (sSeq (sSet 3 (mBin .LShift (mInt 1) (mVar 2)))
   (sSeq (sIf (tVal (mBin .BitAnd (mVar 0) (mVar 3))) (sSeq (sExpr (mMeth isListMV gAppend (mVar 1) (lCons (mMeth (isFix 187) (gDget 187 flagTbl) (mFix (.ref 187)) (lCons (mVar 3) (lCons (mCall gHex (lCons (mVar 3) lNil)) lNil))) lNil)))
   (sSeq (sAug .BitXor 0 (mVar 3))
   (sSeq (sIf (tNot (tVal (mVar 0))) (sSeq sBrk
   sNil) sNil)
   sNil))) sNil)
   sNil)) (sSeq (sExpr (mMeth isListMV gAppend (mVar 1) (lCons (mCall gHex (lCons (mVar 0) lNil)) lNil)))
   sNil))
   (sSeq (sRet (mMeth isStrMV gJoin (mStr [44, 32]) (lCons (mVar 1) lNil)))
   sNil)))
set_option maxHeartbeats 4000000 in
theorem ok_pretty_flags (O : B.Ok) (hK : B.K = Mine.hd.heap_39 p) : CodeOk B 4 (.ref 194) plainMk (f_pretty_flags B.sns) := by
  refine code_fun (n := 1) (Γ := ⟨_, ["flags", "names", "i", "flag"]⟩) O (FunIs.ofK O (by rw [hK]; with_unfolding_all rfl) rfl rfl rfl (by rw [hK]; with_unfolding_all rfl) rfl rfl rfl rfl rfl rfl rfl rfl rfl (by decide +kernel) (by decide +kernel) (by decide +kernel) (by decide +kernel)) ?_ (by decide) ?_
  · exact (snd_seq (snd_set 1 (snd_list snd_nil) rfl)
   (snd_seq (snd_for (.one 2 _ _ rfl (by decide)) (snd_irange (snd_blt O rfl (bn_range O hK) bb_range) (snd_cons snd_int snd_nil)) (snd_seq (snd_set 3 (snd_bin snd_int (snd_name 2 rfl)) rfl)
   (snd_seq (snd_sif (snd_t_val (snd_bin (snd_name 0 rfl) (snd_name 3 rfl))) (snd_seq (snd_expr (snd_meth isListMV_ok PySem.F.plainAttrs_list PySem.F.slot_list_append PySem.type_list_append call_append (snd_name 1 rfl) (snd_cons (snd_meth (isFix_dict (di_flags O hK)) PySem.F.plainAttrs_dict PySem.F.slot_dict_get PySem.F.type_dict_get (call_dget (di_flags O hK)) (snd_glob O rfl (gl_COMPILER_FLAG_NAMES O hK)) (snd_cons (snd_name 3 rfl) (snd_cons (snd_call (snd_blt O rfl (bn_hex O hK) bb_hex) (.builtin _) (snd_cons (snd_name 3 rfl) snd_nil) call_hex) snd_nil))) snd_nil)))
   (snd_seq (snd_aug 0 (snd_name 3 rfl) rfl)
   (snd_seq (snd_sif (snd_t_not (snd_t_val (snd_name 0 rfl))) (snd_seq snd_brk
   snd_snil) snd_snil)
   snd_snil))) snd_snil)
   snd_snil)) (snd_seq (snd_expr (snd_meth isListMV_ok PySem.F.plainAttrs_list PySem.F.slot_list_append PySem.type_list_append call_append (snd_name 1 rfl) (snd_cons (snd_call (snd_blt O rfl (bn_hex O hK) bb_hex) (.builtin _) (snd_cons (snd_name 0 rfl) snd_nil) call_hex) snd_nil)))
   snd_snil))
   (snd_seq (snd_ret (snd_meth isStrMV_ok PySem.F.plainAttrs_str PySem.F.slot_str_join PySem.F.type_str_join call_join snd_str (snd_cons (snd_name 1 rfl) snd_nil)))
   snd_snil)))
  · exact (bind_plain rfl (fun us hl => match us, hl with | [a0], _ => rfl))
noncomputable def f__law_powers (sns : List Int) : GF := funX (xPlain 1) 2
  (sSeq (sSet 1 (mList (lCons (mStr [79, 80, 84, 73, 77, 73, 90, 69, 68]) (lCons (mStr [78, 69, 87, 76, 79, 67, 65, 76, 83]) (lCons (mStr [86, 65, 82, 65, 82, 71, 83]) (lCons (mStr [86, 65, 82, 75, 69, 89, 87, 79, 82, 68, 83]) lNil))))))
   (sSeq (sSet 2 (mCall (f_pretty_flags sns) (lCons (mVar 0) lNil)))
   (sSeq (sRet (mIf (tCmp .Eq (mVar 2) (mStr [48, 120, 48])) (mList lNil) (mComp 4000 (.one 1) (iVal (mMeth isStrMV gSplit (mVar 2) (lCons (mStr [44, 32]) lNil))) tTrue (mBin .LShift (mInt 1) (mMeth isListMV gIndex (mVar 2) (lCons (mVar 1) lNil))) 2 [1])))
   sNil)))
set_option maxHeartbeats 4000000 in
theorem ok__law_powers (O : B.Ok) (hK : B.K = Mine.hd.heap_39 p) : CodeOk B 6 (.ref 211) plainMk (f__law_powers B.sns) := by
  refine code_fun (n := 1) (Γ := ⟨_, ["number", "names", "words"]⟩) O (FunIs.ofK O (by rw [hK]; with_unfolding_all rfl) rfl rfl rfl (by rw [hK]; with_unfolding_all rfl) rfl rfl rfl rfl rfl rfl rfl rfl rfl (by decide +kernel) (by decide +kernel) (by decide +kernel) (by decide +kernel)) ?_ (by decide) ?_
  · exact (snd_seq (snd_set 1 (snd_list (snd_cons snd_str (snd_cons snd_str (snd_cons snd_str (snd_cons snd_str snd_nil))))) rfl)
   (snd_seq (snd_set 2 (snd_call (snd_glob O rfl (gl_pretty_flags O hK)) (.kept _ O (kp_194 O hK)) (snd_cons (snd_name 0 rfl) snd_nil) ((ok_pretty_flags O hK).call.le)) rfl)
   (snd_seq (snd_ret (snd_if (snd_t_cmp (snd_name 2 rfl) snd_str) (snd_list snd_nil) (snd_comp (Γ' := ⟨_, [".0", "word", "names"]⟩) (k := 2) (ci := [1]) ⟨rfl, by decide +kernel, by decide +kernel, by decide +kernel, rfl, by decide +kernel, by decide +kernel, by rfl, by decide, by decide +kernel⟩ (.one 1 _ _ rfl (by decide)) rfl (snd_ival (snd_meth isStrMV_ok PySem.F.plainAttrs_str PySem.F.slot_str_split PySem.F.type_str_split call_split (snd_name 2 rfl) (snd_cons snd_str snd_nil))) snd_cnil (snd_bin snd_int (snd_meth isListMV_ok PySem.F.plainAttrs_list PySem.F.slot_list_index PySem.F.type_list_index call_index (snd_name 2 rfl) (snd_cons (snd_name 1 rfl) snd_nil))))))
   snd_snil)))
  · exact (bind_plain rfl (fun us hl => match us, hl with | [a0], _ => rfl))
end
end Mine
end
section
open PySem PySem.W PyProof.Rows PySem.Spec PySem.Calls
set_option linter.unusedVariables false
set_option maxRecDepth 100000
namespace Mine
section
variable {B : Base} {p : Params}
noncomputable def wordF (sns : List Int) : GF := aloneF (f__law_word sns)
theorem ok_wordF (O : B.Ok) (hK : B.K = Mine.hd.heap_39 p) : CodeOk B 6 (.ref 206) plainMk (wordF B.sns) := (ok__law_word O hK).aloneF
noncomputable def powersF (sns : List Int) : GF := aloneL (f__law_powers sns)
theorem ok_powersF (O : B.Ok) (hK : B.K = Mine.hd.heap_39 p) : CodeOk B 6 (.ref 211) plainMk (powersF B.sns) := (ok__law_powers O hK).aloneL_ok
noncomputable def f_reached1 (sns : List Int) : GF := funX (xPlain 2) 3
  (sSeq (sSet 2 (mInt 0))
   (sSeq (sFor 4000 (.one 3) (iVal (mList (lCons (mInt 8) (lCons (mInt 4) (lCons (mInt 2) (lCons (mInt 1) lNil)))))) (sSeq (sSet 4 (mCall (gLen sns) (lCons (mOwn 182 (f_H_get_all sns) (mVar 0) (lCons (mCall (wordF sns) (lCons (mBin .Add (mVar 2) (mVar 3)) lNil)) lNil)) lNil)))
   (sSeq (sIf (tCmp .Lt (mVar 4) (mVar 1)) (sSeq (sAug .Sub 1 (mVar 4))
   (sSeq (sAug .Add 2 (mVar 3))
   sNil)) sNil)
   sNil)) sNil)
   (sSeq (sRet (mVar 2))
   sNil)))
set_option maxHeartbeats 4000000 in
theorem ok_reached1 (O : B.Ok) (hK : B.K = Mine.hd.heap_39 p) : CodeOk B 8 (.ref 232) plainMk (f_reached1 B.sns) := by
  refine code_fun (n := 2) (Γ := ⟨_, ["table", "count", "cell", "power", "many"]⟩) O (FunIs.ofK O (by rw [hK]; with_unfolding_all rfl) rfl rfl rfl (by rw [hK]; with_unfolding_all rfl) rfl rfl rfl rfl rfl rfl rfl rfl rfl (by decide +kernel) (by decide +kernel) (by decide +kernel) (by decide +kernel)) ?_ (by decide) ?_
  · exact (snd_seq (snd_set 2 snd_int rfl)
   (snd_seq (snd_for (.one 3 _ _ rfl (by decide)) (snd_ival (snd_list (snd_cons snd_int (snd_cons snd_int (snd_cons snd_int (snd_cons snd_int snd_nil)))))) (snd_seq (snd_set 4 (snd_call (snd_blt O rfl (bn_len O hK) bb_len) (.builtin _) (snd_cons (snd_own O (ow_get_all O hK) ((ok_H_get_all O hK).le) (snd_name 0 rfl) (snd_cons (snd_call (snd_glob O rfl (gl__law_word O hK)) (.kept _ O (kp_206 O hK)) (snd_cons (snd_bin (snd_name 2 rfl) (snd_name 3 rfl)) snd_nil) ((ok_wordF O hK).call.le)) snd_nil)) snd_nil) (call_len O)) rfl)
   (snd_seq (snd_sif (snd_t_cmp (snd_name 4 rfl) (snd_name 1 rfl)) (snd_seq (snd_aug 1 (snd_name 4 rfl) rfl)
   (snd_seq (snd_aug 2 (snd_name 3 rfl) rfl)
   snd_snil)) snd_snil)
   snd_snil)) snd_snil)
   (snd_seq (snd_ret (snd_name 2 rfl))
   snd_snil)))
  · exact (bind_plain rfl (fun us hl => match us, hl with | [a0, a1], _ => rfl))
noncomputable def f_table1 (sns : List Int) : GF := funX (xPlain 1) 5
  (sSeq (sSet 1 (mCall (gMake 182 (f_H_dinitd sns)) (lCons (mList lNil) lNil)))
   (sSeq (sFor 4000 (.two 2 3) (iEnum (lCons (mVar 0) lNil)) (sSeq (sSet 4 (mVar 3))
   (sSeq (whileGo (tCmp .Lt (mVar 4) (mInt 16)) (sSeq (sSet 5 (mCall (wordF sns) (lCons (mVar 4) lNil)))
   (sSeq (sExpr (mOwn 182 (f_H_add_header sns) (mVar 1) (lCons (mIf (tVal (mBin .Mod (mVar 2) (mInt 2))) (mVar 5) (mMeth isStrMV gLower (mVar 5) lNil)) (lCons (mCall (wordF sns) (lCons (mBin .Add (mVar 2) (mInt 1)) lNil)) lNil))))
   (sSeq (sAug .Add 4 (mSub (mCall (powersF sns) (lCons (mVar 4) lNil)) (mInt 0)))
   sNil))) sNil 4000)
   sNil)) sNil)
   (sSeq (sRet (mVar 1))
   sNil)))
set_option maxHeartbeats 4000000 in
theorem ok_table1 (O : B.Ok) (hK : B.K = Mine.hd.heap_39 p) : CodeOk B 9 (.ref 218) plainMk (f_table1 B.sns) := by
  refine code_fun (n := 1) (Γ := ⟨_, ["places", "table", "turn", "place", "cell", "name"]⟩) O (FunIs.ofK O (by rw [hK]; with_unfolding_all rfl) rfl rfl rfl (by rw [hK]; with_unfolding_all rfl) rfl rfl rfl rfl rfl rfl rfl rfl rfl (by decide +kernel) (by decide +kernel) (by decide +kernel) (by decide +kernel)) ?_ (by decide) ?_
  · exact (snd_seq (snd_set 1 (snd_call (snd_glob O rfl (gl_Headers O hK)) (.kept _ O (kp_182 O hK)) (snd_cons (snd_list snd_nil) snd_nil) ((call_make O (mk_cls O hK) (fi_dinitd O hK) (ty_dinitd O hK) (ok_H_dinitd O hK)).le)) rfl)
   (snd_seq (snd_for (.two 2 3 _ _ _ _ _ _ rfl (by decide) rfl (by decide)) (snd_ienum (snd_blt O rfl (bn_enumerate O hK) bb_enumerate) (snd_cons (snd_name 0 rfl) snd_nil)) (snd_seq (snd_set 4 (snd_name 3 rfl) rfl)
   (snd_seq (snd_while (snd_t_cmp (snd_name 4 rfl) snd_int) (snd_seq (snd_set 5 (snd_call (snd_glob O rfl (gl__law_word O hK)) (.kept _ O (kp_206 O hK)) (snd_cons (snd_name 4 rfl) snd_nil) ((ok_wordF O hK).call.le)) rfl)
   (snd_seq (snd_expr (snd_own O (ow_add_header O hK) ((ok_H_add_header O hK).le) (snd_name 1 rfl) (snd_cons (snd_if (snd_t_val (snd_bin (snd_name 2 rfl) snd_int)) (snd_name 5 rfl) (snd_meth isStrMV_ok PySem.F.plainAttrs_str PySem.F.slot_str_lower PySem.F.type_str_lower call_lower (snd_name 5 rfl) snd_nil)) (snd_cons (snd_call (snd_glob O rfl (gl__law_word O hK)) (.kept _ O (kp_206 O hK)) (snd_cons (snd_bin (snd_name 2 rfl) snd_int) snd_nil) ((ok_wordF O hK).call.le)) snd_nil))))
   (snd_seq (snd_aug 4 (snd_sub (snd_call (snd_glob O rfl (gl__law_powers O hK)) (.kept _ O (kp_211 O hK)) (snd_cons (snd_name 4 rfl) snd_nil) ((ok_powersF O hK).call.le)) snd_int) rfl)
   snd_snil))) snd_snil)
   snd_snil)) snd_snil)
   (snd_seq (snd_ret (snd_name 1 rfl))
   snd_snil)))
  · exact (bind_plain rfl (fun us hl => match us, hl with | [a0], _ => rfl))
noncomputable def f_upto1 (sns : List Int) : GF := funX (xPlain 2) 3
  (sSeq (sSet 2 (mList lNil))
   (sSeq (sSet 3 (mInt 0))
   (sSeq (sFor 4000 (.one 4) (iVal (mCut sns (mCall (powersF sns) (lCons (mVar 1) lNil)) pNone pNone (pInt (mNeg (mInt 1))))) (sSeq (sAug .Add 3 (mVar 4))
   (sSeq (sExpr (mMeth isListMV gExtend (mVar 2) (lCons (mOwn 182 (f_H_get_all sns) (mVar 0) (lCons (mCall (wordF sns) (lCons (mVar 3) lNil)) lNil)) lNil)))
   sNil)) sNil)
   (sSeq (sRet (mVar 2))
   sNil))))
set_option maxHeartbeats 4000000 in
theorem ok_upto1 (O : B.Ok) (hK : B.K = Mine.hd.heap_39 p) : CodeOk B 8 (.ref 225) plainMk (f_upto1 B.sns) := by
  refine code_fun (n := 2) (Γ := ⟨_, ["table", "place", "told", "cell", "power"]⟩) O (FunIs.ofK O (by rw [hK]; with_unfolding_all rfl) rfl rfl rfl (by rw [hK]; with_unfolding_all rfl) rfl rfl rfl rfl rfl rfl rfl rfl rfl (by decide +kernel) (by decide +kernel) (by decide +kernel) (by decide +kernel)) ?_ (by decide) ?_
  · exact (snd_seq (snd_set 2 (snd_list snd_nil) rfl)
   (snd_seq (snd_set 3 snd_int rfl)
   (snd_seq (snd_for (.one 4 _ _ rfl (by decide)) (snd_ival (snd_cut O (snd_call (snd_glob O rfl (gl__law_powers O hK)) (.kept _ O (kp_211 O hK)) (snd_cons (snd_name 1 rfl) snd_nil) ((ok_powersF O hK).call.le)) snd_pnone snd_pnone (snd_pint (snd_neg snd_int)))) (snd_seq (snd_aug 3 (snd_name 4 rfl) rfl)
   (snd_seq (snd_expr (snd_meth isListMV_ok PySem.F.plainAttrs_list PySem.F.slot_list_extend PySem.F.type_list_extend call_extend (snd_name 2 rfl) (snd_cons (snd_own O (ow_get_all O hK) ((ok_H_get_all O hK).le) (snd_name 0 rfl) (snd_cons (snd_call (snd_glob O rfl (gl__law_word O hK)) (.kept _ O (kp_206 O hK)) (snd_cons (snd_name 3 rfl) snd_nil) ((ok_wordF O hK).call.le)) snd_nil)) snd_nil)))
   snd_snil)) snd_snil)
   (snd_seq (snd_ret (snd_name 2 rfl))
   snd_snil))))
  · exact (bind_plain rfl (fun us hl => match us, hl with | [a0, a1], _ => rfl))
noncomputable def f_law1 (sns : List Int) : GF := funX (xPlain 1) 11
  (sSeq (sSet 1 (mComp 4000 (.one 1) (iVal (mBin .Add (mCut sns (mVar 0) pNone (pInt (mInt 5)) pNone) (mCut sns (mList (lCons (mInt 4) (lCons (mInt 0) (lCons (mInt 10) (lCons (mInt 7) (lCons (mInt 12) lNil)))))) (pInt (mCall (gLen sns) (lCons (mVar 0) lNil))) pNone pNone))) tTrue (mBin .Add (mInt 1) (mBin .Mod (mVar 1) (mInt 15))) 2 []))
   (sSeq (sSet 2 (mCall (f_table1 sns) (lCons (mVar 1) lNil)))
   (sSeq (sSet 3 (mStr [65, 66, 67, 68, 69, 70, 71, 72, 73, 74, 75, 76, 77, 78, 79, 80]))
   (sSeq (sSet 4 (mList lNil))
   (sSeq (sFor 4000 (.two 5 6) (iEnum (lCons (mVar 1) lNil)) (sSeq (sFor 4000 (.one 7) (iRange (lCons (mInt 1) (lCons (mInt 16) lNil))) (sSeq (sSet 8 (mCall gMax (lCons (mComp 4000 (.one 1) (iVal (mList (lCons (mInt 1) (lCons (mInt 2) (lCons (mInt 4) (lCons (mInt 8) lNil)))))) (tCmp .Eq (mBin .Mod (mVar 2) (mVar 1)) (mInt 0)) (mVar 1) 2 [7]) lNil)))
   (sSeq (sIf (tCmp2 .Lt .LtE (mBin .Sub (mVar 7) (mVar 8)) (mVar 6) (mVar 7)) (sSeq (sExpr (mMeth isListMV gAppend (mVar 4) (lCons (mTup (lCons (mIf (tVal (mBin .Mod (mVar 5) (mInt 2))) (mSub (mVar 3) (mVar 7)) (mMeth isStrMV gLower (mSub (mVar 3) (mVar 7)) lNil)) (lCons (mSub (mVar 3) (mBin .Add (mVar 5) (mInt 1))) lNil))) lNil)))
   sNil) sNil)
   sNil)) sNil)
   sNil) sNil)
   (sSeq (sIf (tCmp .NotEq (mOwn 182 (f_H_items sns) (mVar 2) lNil) (mVar 4)) (sSeq (sRet (mBool false))
   sNil) sNil)
   (sSeq (sFor 4000 (.one 9) (iRange (lCons (mInt 16) lNil)) (sSeq (sSet 10 (mList lNil))
   (sSeq (sSet 11 (mInt 0))
   (sSeq (sFor 4000 (.one 8) (iVal (mList (lCons (mInt 8) (lCons (mInt 4) (lCons (mInt 2) (lCons (mInt 1) lNil)))))) (sSeq (sIf (tCmp .GtE (mBin .Sub (mVar 9) (mVar 11)) (mVar 8)) (sSeq (sExpr (mMeth isListMV gExtend (mVar 10) (lCons (mComp 4000 (.two 1 2) (iEnum (lCons (mVar 1) lNil)) (tCmp2 .Lt .LtE (mVar 3) (mVar 2) (mBin .Add (mVar 3) (mVar 4))) (mSub (mVar 5) (mBin .Add (mVar 1) (mInt 1))) 3 [11, 8, 3]) lNil)))
   (sSeq (sAug .Add 11 (mVar 8))
   sNil)) sNil)
   sNil) sNil)
   (sSeq (sIf (tCmp .NotEq (mCall (f_upto1 sns) (lCons (mVar 2) (lCons (mVar 9) lNil))) (mVar 10)) (sSeq (sRet (mBool false))
   sNil) sNil)
   sNil)))) sNil)
   (sSeq (sRet (mCmp .Eq (mComp 4000 (.one 1) (iRange (lCons (mCall (gLen sns) (lCons (mVar 1) lNil)) lNil)) tTrue (mBin .Add (mCall (f_reached1 sns) (lCons (mVar 2) (lCons (mBin .Add (mVar 1) (mInt 1)) lNil))) (mInt 1)) 2 [2]) (mCall gSorted (lCons (mVar 1) lNil))))
   sNil))))))))
set_option maxHeartbeats 4000000 in
theorem ok_law1 (O : B.Ok) (hK : B.K = Mine.hd.heap_39 p) : CodeOk B 11 (.ref 237) plainMk (f_law1 B.sns) := by
  refine code_fun (n := 1) (Γ := ⟨_, ["script", "places", "table", "letters", "items", "turn", "place", "cell", "size", "asked", "told", "start"]⟩) O (FunIs.ofK O (by rw [hK]; with_unfolding_all rfl) rfl rfl rfl (by rw [hK]; with_unfolding_all rfl) rfl rfl rfl rfl rfl rfl rfl rfl rfl (by decide +kernel) (by decide +kernel) (by decide +kernel) (by decide +kernel)) ?_ (by decide) ?_
  · exact (snd_seq (snd_setcomp (i := 1) (Γ' := ⟨_, [".0", "v"]⟩) (k := 2) (ci := []) ⟨rfl, by decide +kernel, by decide +kernel, by decide +kernel, rfl, by decide +kernel, by decide +kernel, by rfl, by decide, by decide +kernel⟩ (.one 1 _ _ rfl (by decide)) rfl (snd_ival (snd_bin (snd_cut O (snd_name 0 rfl) snd_pnone (snd_pint snd_int) snd_pnone) (snd_cut O (snd_list (snd_cons snd_int (snd_cons snd_int (snd_cons snd_int (snd_cons snd_int (snd_cons snd_int snd_nil)))))) (snd_pint (snd_call (snd_blt O rfl (bn_len O hK) bb_len) (.builtin _) (snd_cons (snd_name 0 rfl) snd_nil) (call_len O))) snd_pnone snd_pnone))) snd_cnil (snd_bin snd_int (snd_bin (snd_name 1 rfl) snd_int)) rfl rfl (fun env hk hn => swaps_true hk hn rfl rfl rfl))
   (snd_seq (snd_set 2 (snd_call (snd_glob O rfl (gl__law_table O hK)) (.kept _ O (kp_218 O hK)) (snd_cons (snd_name 1 rfl) snd_nil) ((ok_table1 O hK).call.le)) rfl)
   (snd_seq (snd_set 3 snd_str rfl)
   (snd_seq (snd_set 4 (snd_list snd_nil) rfl)
   (snd_seq (snd_for (.two 5 6 _ _ _ _ _ _ rfl (by decide) rfl (by decide)) (snd_ienum (snd_blt O rfl (bn_enumerate O hK) bb_enumerate) (snd_cons (snd_name 1 rfl) snd_nil)) (snd_seq (snd_for (.one 7 _ _ rfl (by decide)) (snd_irange (snd_blt O rfl (bn_range O hK) bb_range) (snd_cons snd_int (snd_cons snd_int snd_nil))) (snd_seq (snd_set 8 (snd_call (snd_blt O rfl (bn_max O hK) bb_max) (.builtin _) (snd_cons (snd_comp (Γ' := ⟨_, [".0", "power", "cell"]⟩) (k := 2) (ci := [7]) ⟨rfl, by decide +kernel, by decide +kernel, by decide +kernel, rfl, by decide +kernel, by decide +kernel, by rfl, by decide, by decide +kernel⟩ (.one 1 _ _ rfl (by decide)) rfl (snd_ival (snd_list (snd_cons snd_int (snd_cons snd_int (snd_cons snd_int (snd_cons snd_int snd_nil)))))) (snd_cone (snd_t_cmp (snd_bin (snd_name 2 rfl) (snd_name 1 rfl)) snd_int)) (snd_name 1 rfl)) snd_nil) call_max) rfl)
   (snd_seq (snd_sif (snd_t_cmp2 (snd_bin (snd_name 7 rfl) (snd_name 8 rfl)) (snd_name 6 rfl) (snd_name 7 rfl)) (snd_seq (snd_expr (snd_meth isListMV_ok PySem.F.plainAttrs_list PySem.F.slot_list_append PySem.type_list_append call_append (snd_name 4 rfl) (snd_cons (snd_tup (snd_cons (snd_if (snd_t_val (snd_bin (snd_name 5 rfl) snd_int)) (snd_sub (snd_name 3 rfl) (snd_name 7 rfl)) (snd_meth isStrMV_ok PySem.F.plainAttrs_str PySem.F.slot_str_lower PySem.F.type_str_lower call_lower (snd_sub (snd_name 3 rfl) (snd_name 7 rfl)) snd_nil)) (snd_cons (snd_sub (snd_name 3 rfl) (snd_bin (snd_name 5 rfl) snd_int)) snd_nil))) snd_nil)))
   snd_snil) snd_snil)
   snd_snil)) snd_snil)
   snd_snil) snd_snil)
   (snd_seq (snd_sif (snd_t_cmp (snd_own O (ow_items O hK) ((ok_H_items O hK).le) (snd_name 2 rfl) snd_nil) (snd_name 4 rfl)) (snd_seq (snd_ret snd_bool)
   snd_snil) snd_snil)
   (snd_seq (snd_for (.one 9 _ _ rfl (by decide)) (snd_irange (snd_blt O rfl (bn_range O hK) bb_range) (snd_cons snd_int snd_nil)) (snd_seq (snd_set 10 (snd_list snd_nil) rfl)
   (snd_seq (snd_set 11 snd_int rfl)
   (snd_seq (snd_for (.one 8 _ _ rfl (by decide)) (snd_ival (snd_list (snd_cons snd_int (snd_cons snd_int (snd_cons snd_int (snd_cons snd_int snd_nil)))))) (snd_seq (snd_sif (snd_t_cmp (snd_bin (snd_name 9 rfl) (snd_name 11 rfl)) (snd_name 8 rfl)) (snd_seq (snd_expr (snd_meth isListMV_ok PySem.F.plainAttrs_list PySem.F.slot_list_extend PySem.F.type_list_extend call_extend (snd_name 10 rfl) (snd_cons (snd_comp (Γ' := ⟨_, [".0", "turn", "place", "start", "size", "letters"]⟩) (k := 3) (ci := [11, 8, 3]) ⟨rfl, by decide +kernel, by decide +kernel, by decide +kernel, rfl, by decide +kernel, by decide +kernel, by rfl, by decide, by decide +kernel⟩ (.two 1 2 _ _ _ _ _ _ rfl (by decide) rfl (by decide)) rfl (snd_ienum (snd_blt O rfl (bn_enumerate O hK) bb_enumerate) (snd_cons (snd_name 1 rfl) snd_nil)) (snd_cone (snd_t_cmp2 (snd_name 3 rfl) (snd_name 2 rfl) (snd_bin (snd_name 3 rfl) (snd_name 4 rfl)))) (snd_sub (snd_name 5 rfl) (snd_bin (snd_name 1 rfl) snd_int))) snd_nil)))
   (snd_seq (snd_aug 11 (snd_name 8 rfl) rfl)
   snd_snil)) snd_snil)
   snd_snil) snd_snil)
   (snd_seq (snd_sif (snd_t_cmp (snd_call (snd_glob O rfl (gl__law_upto O hK)) (.kept _ O (kp_225 O hK)) (snd_cons (snd_name 2 rfl) (snd_cons (snd_name 9 rfl) snd_nil)) ((ok_upto1 O hK).call.le)) (snd_name 10 rfl)) (snd_seq (snd_ret snd_bool)
   snd_snil) snd_snil)
   snd_snil)))) snd_snil)
   (snd_seq (snd_ret (snd_cmp (snd_comp (Γ' := ⟨_, [".0", "turn", "table"]⟩) (k := 2) (ci := [2]) ⟨rfl, by decide +kernel, by decide +kernel, by decide +kernel, rfl, by decide +kernel, by decide +kernel, by rfl, by decide, by decide +kernel⟩ (.one 1 _ _ rfl (by decide)) rfl (snd_irange (snd_blt O rfl (bn_range O hK) bb_range) (snd_cons (snd_call (snd_blt O rfl (bn_len O hK) bb_len) (.builtin _) (snd_cons (snd_name 1 rfl) snd_nil) (call_len O)) snd_nil)) snd_cnil (snd_bin (snd_call (snd_glob O rfl (gl__law_reached O hK)) (.kept _ O (kp_232 O hK)) (snd_cons (snd_name 2 rfl) (snd_cons (snd_bin (snd_name 1 rfl) snd_int) snd_nil)) ((ok_reached1 O hK).call.le)) snd_int)) (snd_call (snd_blt O rfl (bn_sorted O hK) bb_sorted) (.builtin _) (snd_cons (snd_name 1 rfl) snd_nil) call_sorted)))
   snd_snil))))))))
  · exact (bind_plain rfl (fun us hl => match us, hl with | [a0], _ => rfl))
end
end Mine
end
section
open PySem PySem.W PyProof.Rows PySem.Spec PySem.Calls
set_option linter.unusedVariables false
set_option maxRecDepth 100000
namespace Mine
theorem convF (sns : List Int) (a : MV) (x : List Nat) (b : Bool) (hp : List MO) (h2 : x.all okChar = true) (h3 : x.length ≤ few) : f_H__convert_string_type sns [a, .str x, .bool b] hp = some (.str x, hp) := by
  have key : ∀ p : Nat, p = 48 ∨ p = 53 → gPat2 48 53 [.fix (.ref p), .str x] hp = some (.none, hp) := fun p hpp => by
    show (if _ then _ else _) = _
    rw [if_pos ⟨hpp, h2, h3⟩]
  have fin : ∀ p : Nat, p = 48 ∨ p = 53 → isPat2 48 53 (.fix (.ref p)) hp = true → (sSeq (sIf (tVal (mMeth (isPat2 48 53) (gPat2 48 53) (mVar 3) (lCons (mVar 1) lNil))) (sSeq sNone sNil) sNil) (sSeq (sRet (mVar 1)) sNil)) [some a, some (.str x), some (.bool b), some (.fix (.ref p))] hp = some (.ret (.str x), [some a, some (.str x), some (.bool b), some (.fix (.ref p))], hp) := fun p hpp hi => by
    have e1 : mMeth (isPat2 48 53) (gPat2 48 53) (mVar 3) (lCons (mVar 1) lNil) [some a, some (.str x), some (.bool b), some (.fix (.ref p))] hp = some (.none, hp) := by
      show (match isPat2 48 53 (.fix (.ref p)) hp with | false => none | true => gPat2 48 53 [.fix (.ref p), .str x] hp) = _
      rw [hi, key p hpp]
    rw [sSeq_next (l1 := [some a, some (.str x), some (.bool b), some (.fix (.ref p))]) (h1 := hp)]
    · rfl
    · rw [sIf_false (h1 := hp) (by unfold tVal; rw [e1]; rfl)]; rfl
  have e : sIf (tCmp .Is (mCall gType (lCons (mVar 1) lNil)) (mFix (.type "str"))) (sSeq (sSet 3 (mIf (tVal (mVar 2)) (mFix (.ref 48)) (mFix (.ref 53)))) (sSeq (sIf (tVal (mMeth (isPat2 48 53) (gPat2 48 53) (mVar 3) (lCons (mVar 1) lNil))) (sSeq sNone sNil) sNil) (sSeq (sRet (mVar 1)) sNil))) sNil [some a, some (.str x), some (.bool b), none] hp = some (.ret (.str x), [some a, some (.str x), some (.bool b), some (.fix (.ref (cond b 48 53)))], hp) := by
    rw [sIf_true (h1 := hp) (by rfl)]
    cases b
    · rw [sSeq_next (sSet_eq (v := .fix (.ref 53)) (h1 := hp) (by rfl))]; exact fin 53 (.inr rfl) rfl
    · rw [sSeq_next (sSet_eq (v := .fix (.ref 48)) (h1 := hp) (by rfl))]; exact fin 48 (.inl rfl) rfl
  show outOf (sSeq (sIf _ _ _) _ [some a, some (.str x), some (.bool b), none] hp) = _
  rw [sSeq_ret e]; rfl
noncomputable def dinitBody (sns : List Int) : MS := sSeq (sExpr (mOwnK 182 (f_H__convert_string_type sns) (mVar 0) (lCons (mVar 2) lNil) (mBool true)))
   (sSeq (sExpr (mOwnK 182 (f_H__convert_string_type sns) (mVar 0) (lCons (mVar 3) lNil) (mBool false))) sNil)
theorem dinit_loop {sns : List Int} {hp : List MO} {i j d : Nat} {q : Option MV} {T : List MV} {b : Option MV} (hi : instOf 182 (.ref i) hp = some (d, q)) (hT : listOf hp j = some T) (ht : ∀ x ∈ T, hdrOk x) :
    ∀ (n m : Nat) (l2 l3 : Option MV), m ≤ T.length → T.length < n + m → ∃ m2 m3, forGo (.two 2 3) (dinitBody sns) n (.list j m) [some (.ref i), b, l2, l3] hp = some (.next, [some (.ref i), b, m2, m3], hp)
  | 0, m, _, _, h1, h2 => by omega
  | n + 1, m, l2, l3, h1, h2 => by
    rcases Nat.lt_or_ge m T.length with hlt | hge
    · obtain ⟨k, v, e, hk, hkl, hv, hvl⟩ := ht T[m] (List.getElem_mem hlt)
      obtain ⟨m2, m3, ih⟩ := dinit_loop hi hT ht n (m + 1) (some (.str k)) (some (.str v)) (b := b) hlt (by omega)
      refine ⟨m2, m3, ?_⟩
      have e1 := next_list hT hlt
      have eb : dinitBody sns [some (.ref i), b, some (.str k), some (.str v)] hp = some (.next, [some (.ref i), b, some (.str k), some (.str v)], hp) := by
        unfold dinitBody
        rw [sSeq_next (sExpr_eq (mOwnK_eq (hp := hp) (h1 := hp) (h2 := hp) (h3 := hp) (a := .ref i) (vs := [.str k]) (w := .bool true) rfl hi rfl rfl (convF sns _ k true hp hk hkl)))]
        rw [sSeq_next (sExpr_eq (mOwnK_eq (hp := hp) (h1 := hp) (h2 := hp) (h3 := hp) (a := .ref i) (vs := [.str v]) (w := .bool false) rfl hi rfl rfl (convF sns _ v false hp hv hvl)))]
        rfl
      rw [← ih]
      show (match It.next (.list j m) hp with | none => none | some none => _ | some (some (x, it')) => _) = _
      rw [e1]
      simp only [e, fitsT, setT]
      show (match dinitBody sns [some (.ref i), b, some (.str k), some (.str v)] hp with | none => none | some (.next, loc2, hp2) => _ | some (.cont, loc2, hp2) => _ | some (.brk, loc2, hp2) => _ | some (.ret v, loc2, hp2) => _) = _
      rw [eb]
    · refine ⟨l2, l3, ?_⟩
      show (match It.next (.list j m) hp with | none => none | some none => _ | some (some (x, it')) => _) = _
      rw [next_list_end hT hge]
theorem dinit_eq {sns : List Int} {hp : List MO} {i j d : Nat} {T : List MV} (hi : hp[i]? = some (.inst 182 d)) (hd : hp[d]? = some (.idict none)) (hT : listOf hp j = some T) (ht : ∀ x ∈ T, hdrOk x) (hl : T.length < 3999) :
    f_H_dinitd sns [.ref i, .ref j] hp = some (.none, hp.set d (.idict (some (.ref j)))) := by
  have hid : i ≠ d := by rintro rfl; rw [hi] at hd; cases hd
  have hjd : j ≠ d := by rintro rfl; rw [listOf_get hT] at hd; cases hd
  have hi' : instOf 182 (.ref i) (hp.set d (.idict (some (.ref j)))) = some (d, some (.ref j)) := inst_of (by rw [List.getElem?_set_ne (Ne.symm hid)]; exact hi) (by rw [List.getElem?_set_self (lt_of_some hd)])
  have hT' : listOf (hp.set d (.idict (some (.ref j)))) j = some T := of_get (by rw [List.getElem?_set_ne (Ne.symm hjd)]; exact listOf_get hT)
  obtain ⟨m2, m3, L⟩ := dinit_loop (sns := sns) (b := some (.ref j)) hi' hT' ht 4000 0 none none (Nat.zero_le _) (by omega)
  show outOf (sSeq (sSet 1 _) (sSeq (sIf _ _ _) (sSeq (sAttr 182 (mVar 0) (mVar 1)) (sSeq (sIf (tVal (mBool true)) (sSeq (sFor 4000 (.two 2 3) (iVal (mVar 1)) (dinitBody sns) sNil) sNil) sNil) sNil))) [some (.ref i), some (.ref j), none, none] hp) = _
  rw [sSeq_next (sSet_eq (v := .ref j) (h1 := hp) rfl)]
  show outOf (sSeq (sIf _ _ _) _ [some (.ref i), some (.ref j), none, none] hp) = _
  have et : tCmp .IsNot (mCall gType (lCons (mVar 1) lNil)) (mFix (.type "list")) [some (.ref i), some (.ref j), none, none] hp = some (false, hp) := by
    refine tCmp_eq (a := .fix (.type "list")) (h1 := hp) (b := .fix (.type "list")) (h2 := hp) (mCall_eq (vs := [.ref j]) (h1 := hp) rfl ?_) rfl rfl
    show (match listOf hp j with | some _ => some (MV.fix (.type "list"), hp) | none => none) = _
    rw [hT]
  rw [sSeq_next (l1 := [some (.ref i), some (.ref j), none, none]) (h1 := hp) (by rw [sIf_false et]; rfl)]
  rw [sSeq_next (sAttr_eq (v := .ref j) (h1 := hp) (a := .ref i) (h2 := hp) rfl rfl (inst_of hi hd))]
  have ef : sSeq (sFor 4000 (.two 2 3) (iVal (mVar 1)) (dinitBody sns) sNil) sNil [some (.ref i), some (.ref j), none, none] (hp.set d (.idict (some (.ref j)))) = some (.next, [some (.ref i), some (.ref j), m2, m3], hp.set d (.idict (some (.ref j)))) := by
    rw [sSeq_next (by rw [sFor_next (iVal_list (h1 := hp.set d (.idict (some (.ref j)))) rfl hT') L]; rfl)]; rfl
  rw [sSeq_next (l1 := [some (.ref i), some (.ref j), m2, m3]) (h1 := hp.set d (.idict (some (.ref j)))) (by rw [sIf_true (h1 := hp.set d (.idict (some (.ref j)))) rfl]; exact ef)]
  rfl
theorem make_eq {sns : List Int} {hp : List MO} {j : Nat} {T : List MV} (hT : listOf hp j = some T) (ht : ∀ x ∈ T, hdrOk x) (hl : T.length < 3999) :
    gMake 182 (f_H_dinitd sns) [.ref j] hp = some (.ref (hp.length + 1), hp ++ [.idict (some (.ref j)), .inst 182 hp.length]) := by
  unfold gMake
  rw [dinit_eq (d := hp.length) (T := T) (by rw [List.getElem?_append_right (by omega)]; simp) (by rw [List.getElem?_append_right (Nat.le_refl _)]; simp) (listOf_app hT _) ht hl]
  simp
theorem items_eq {sns : List Int} {hp : List MO} {i j d : Nat} {T : List MV} (hi : hp[i]? = some (.inst 182 d)) (hd : hp[d]? = some (.idict (some (.ref j)))) (hT : listOf hp j = some T) (hl : T.length < 3999) :
    f_H_items sns [.ref i] hp = some (.ref hp.length, hp ++ [MO.list T]) := by
  show outOf (sSeq (sRet (mCut sns (mAttr 182 (mVar 0)) pNone pNone pNone)) sNil [some (.ref i)] hp) = _
  have e : mCut sns (mAttr 182 (mVar 0)) pNone pNone pNone [some (.ref i)] hp = some (.ref hp.length, hp ++ [MO.list T]) := by
    unfold mCut
    rw [mAttr_eq (a := .ref i) (h1 := hp) rfl (inst_of hi hd)]
    show (match listOf hp j with | none => none | some xs => if xs.length ≤ few then some (MV.ref hp.length, hp ++ [MO.list (pickL xs none none none)]) else none) = _
    rw [hT]
    simp only
    rw [if_pos (by unfold few; omega), pickL_all]
  rw [sSeq_ret (sRet_eq e)]
  rfl
end Mine
end
section
open PySem PySem.W PyProof.Rows PySem.Spec PySem.Calls
set_option linter.unusedVariables false
set_option maxRecDepth 100000
namespace Mine
noncomputable def keyEq (y : List Nat) (x : MV) : Bool := match x with
  | .tup (.str k :: _) => k.map lo1 == y
  | _ => false
noncomputable def sndV (x : MV) : MV := match x with
  | .tup [_, v] => v
  | _ => .none
noncomputable def allT (y : List Nat) (T : List MV) : List MV := (T.filter (keyEq y)).map sndV
theorem getall_eq {sns : List Int} {hp : List MO} {i j d : Nat} {x : List Nat} {T : List MV} (hi : hp[i]? = some (.inst 182 d)) (hd : hp[d]? = some (.idict (some (.ref j)))) (hT : listOf hp j = some T) (ht : ∀ x ∈ T, hdrOk x) (hl : T.length < 3999)
    (hx : x.all okChar = true) (hxl : x.length ≤ few) : f_H_get_all sns [.ref i, .str x] hp = some (.ref hp.length, hp ++ [.list (allT (x.map lo1) T)]) := by
  have io := inst_of hi hd
  have e1 : mOwnK 182 (f_H__convert_string_type sns) (mVar 0) (lCons (mMeth isStrMV gLower (mVar 1) lNil) lNil) (mBool true) [some (.ref i), some (.str x)] hp = some (.str (x.map lo1), hp) :=
    mOwnK_eq (h1 := hp) (h2 := hp) (h3 := hp) (a := .ref i) (vs := [.str (x.map lo1)]) (w := .bool true) rfl io (lCons_eq (mMeth_eq (a := .str x) (vs := []) (h1 := hp) (h2 := hp) rfl rfl rfl (gLower_ok hx hxl hp)) rfl) rfl (convF sns _ _ true hp (okChars_lo hx) (by simpa using hxl))
  have hT' : ∀ acc, listOf (hp ++ [.list acc]) j = some T := fun acc => listOf_app hT _
  have e2 := comp_gen (n := 4000) (t := .one 1) (mi := iVal (mAttr 182 (mVar 0))) (mc := tCmp .Eq (mMeth isStrMV gLower (mSub (mVar 1) (mInt 0)) lNil) (mVar 2)) (me := mSub (mVar 1) (mInt 1)) (k := 2) (ci := [1]) (loc := [some (.ref i), some (.str (x.map lo1))]) (hp := hp) (hp1 := hp) (p := keyEq (x.map lo1)) (e := sndV) (lo := fun y => [none, some y, some (.str (x.map lo1))])
    (feeds_list (j := j) (xs := T)) (iAttr_list (h1 := hp) rfl io hT) hT' (fun m => rfl) (by omega) (by unfold few; omega) (fun _ _ => rfl) (fun x y l1 h => setT_one h) (by
      intro y hy acc
      obtain ⟨k, v, rfl, hk, hkl, _⟩ := ht y hy
      show tCmp .Eq (mMeth isStrMV gLower (mSub (mVar 1) (mInt 0)) lNil) (mVar 2) [none, some (.tup [.str k, .str v]), some (.str (x.map lo1))] (hp ++ [MO.list acc]) = some (keyEq (x.map lo1) (.tup [.str k, .str v]), hp ++ [MO.list acc])
      have q1 : mMeth isStrMV gLower (mSub (mVar 1) (mInt 0)) lNil [none, some (.tup [.str k, .str v]), some (.str (x.map lo1))] (hp ++ [MO.list acc]) = some (.str (k.map lo1), hp ++ [MO.list acc]) := mMeth_eq (a := .str k) (vs := []) (h1 := hp ++ [.list acc]) (h2 := hp ++ [.list acc]) rfl rfl rfl (gLower_ok hk hkl _)
      have q2 : mVar 2 [none, some (.tup [.str k, .str v]), some (.str (x.map lo1))] (hp ++ [MO.list acc]) = some (.str (x.map lo1), hp ++ [MO.list acc]) := rfl
      exact tCmp_eq (op := .Eq) q1 q2 rfl) (fun y hy _ acc => by
      obtain ⟨k, v, rfl, _⟩ := ht y hy
      exact mSub_eq (a := .tup [.str k, .str v]) (b := .int 1) (h1 := hp ++ [.list acc]) rfl rfl rfl)
  show outOf (sSeq (sSet 1 _) (sSeq (sRet (mComp 4000 (.one 1) (iVal (mAttr 182 (mVar 0))) (tCmp .Eq (mMeth isStrMV gLower (mSub (mVar 1) (mInt 0)) lNil) (mVar 2)) (mSub (mVar 1) (mInt 1)) 2 [1])) sNil) [some (.ref i), some (.str x)] hp) = _
  rw [sSeq_next (sSet_eq e1)]
  show outOf (sSeq (sRet _) sNil [some (.ref i), some (.str (x.map lo1))] hp) = _
  rw [sSeq_ret (sRet_eq e2)]
  rfl
theorem add_eq {sns : List Int} {hp : List MO} {i j d : Nat} {x v : List Nat} {T : List MV} (hi : hp[i]? = some (.inst 182 d)) (hd : hp[d]? = some (.idict (some (.ref j)))) (hT : listOf hp j = some T) (hl : T.length < 3999)
    (hx : x.all okChar = true) (hxl : x.length ≤ few) (hv : v.all okChar = true) (hvl : v.length + 2 ≤ few) : f_H_add_header sns [.ref i, .str x, .str v] hp = some (.none, (hp ++ [MO.kwd] ++ [MO.list [.str v]]).set j (MO.list (T ++ [MV.tup [.str x, .str v]]))) := by
  have io := inst_of hi hd
  have io1 := instOf_app io [.kwd]
  have hT1 := listOf_app hT [.kwd]
  have hk1 : (hp ++ [MO.kwd])[hp.length]? = some .kwd := by rw [List.getElem?_append_right (Nat.le_refl _)]; simp
  have hlen1 : (hp ++ [MO.kwd]).length = hp.length + 1 := by simp
  have hkw : ∀ xs : List MV, (hp ++ [MO.kwd] ++ [MO.list xs])[hp.length]? = some .kwd := fun xs => by rw [List.getElem?_append_left (by omega)]; exact hk1
  generalize hh1 : hp ++ [MO.kwd] = h1 at *
  have e1 : mList lNil [some (.ref i), some (.str x), some (.str v), some (.ref hp.length), none, none, none] h1 = some (.ref h1.length, h1 ++ [.list []]) := mList_eq rfl (by simp)
  have io2 := instOf_app io1 [.list []]
  have e2 : tCmp .IsNot (mVar 2) mNone [some (.ref i), some (.str x), some (.str v), some (.ref hp.length), some (.ref h1.length), none, none] (h1 ++ [.list []]) = some (true, h1 ++ [.list []]) := rfl
  have e3 : mOwnK 182 (f_H__convert_string_type sns) (mVar 0) (lCons (mVar 2) lNil) (mBool false) [some (.ref i), some (.str x), some (.str v), some (.ref hp.length), some (.ref h1.length), none, none] (h1 ++ [.list []]) = some (.str v, h1 ++ [.list []]) :=
    mOwnK_eq (h1 := h1 ++ [.list []]) (h2 := h1 ++ [.list []]) (h3 := h1 ++ [.list []]) (a := .ref i) (vs := [.str v]) (w := .bool false) rfl io2 rfl rfl (convF sns _ v false _ hv (by omega))
  have e4 : mMeth isListMV gAppend (mVar 4) (lCons (mVar 2) lNil) [some (.ref i), some (.str x), some (.str v), some (.ref hp.length), some (.ref h1.length), none, none] (h1 ++ [.list []]) = some (.none, h1 ++ [.list [.str v]]) :=
    mMeth_eq (a := .ref h1.length) (vs := [.str v]) (h1 := h1 ++ [.list []]) (h2 := h1 ++ [.list []]) rfl (by show (listOf (h1 ++ [.list []]) h1.length).isSome = true; rw [listOf_end]; rfl) rfl (gAppend_end h1 [] (.str v) (by simp [few]))
  have io3 := instOf_app io1 [.list [.str v]]
  have hT3 := listOf_app hT1 [.list [.str v]]
  have hp3 := listOf_end h1 [.str v]
  have hkw3 := hkw [.str v]
  generalize hh3 : h1 ++ [MO.list [.str v]] = h3 at *
  have e5 : sFor 4000 (.two 5 6) (iKwItems (mVar 3)) sNone sNil [some (.ref i), some (.str x), some (.str v), some (.ref hp.length), some (.ref h1.length), none, none] h3 = some (.next, [some (.ref i), some (.str x), some (.str v), some (.ref hp.length), some (.ref h1.length), none, none], h3) := by
    have q1 : iKwItems (mVar 3) [some (.ref i), some (.str x), some (.str v), some (.ref hp.length), some (.ref h1.length), none, none] h3 = some (.kw hp.length, h3) := by
      show (match h3[hp.length]? with | some .kwd => some (It.kw hp.length, h3) | _ => none) = _
      rw [hkw3]
    have q2 : It.next (.kw hp.length) h3 = some none := by
      show (match h3[hp.length]? with | some .kwd => some none | _ => none) = _
      rw [hkw3]
    rw [sFor_next q1 (l1 := [some (.ref i), some (.str x), some (.str v), some (.ref hp.length), some (.ref h1.length), none, none]) (h1 := h3)]
    · rfl
    · show (match It.next (.kw hp.length) h3 with | none => none | some none => _ | some (some (x, it')) => _) = _
      rw [q2]
  have e6 : mOwnK 182 (f_H__convert_string_type sns) (mVar 0) (lCons (mVar 1) lNil) (mBool true) [some (.ref i), some (.str x), some (.str v), some (.ref hp.length), some (.ref h1.length), none, none] h3 = some (.str x, h3) :=
    mOwnK_eq (h1 := h3) (h2 := h3) (h3 := h3) (a := .ref i) (vs := [.str x]) (w := .bool true) rfl io3 rfl rfl (convF sns _ x true _ hx hxl)
  have e7 : mMeth isStrMV gJoin (mStr [59, 32]) (lCons (mVar 4) lNil) [some (.ref i), some (.str x), some (.str v), some (.ref hp.length), some (.ref h1.length), none, none] h3 = some (.str v, h3) := by
    refine mMeth_eq (a := .str [59, 32]) (vs := [.ref h1.length]) (h1 := h3) (h2 := h3) rfl rfl rfl ?_
    show (match listOf h3 h1.length with | some xs => (match strsOf xs with | none => none | some l => if lenL l + l.length * 2 ≤ few then some (MV.str (joinL [59, 32] l), h3) else none) | none => none) = _
    rw [hp3]
    show (if (v.length + 0) + 1 * 2 ≤ few then some (MV.str (v ++ []), h3) else none) = _
    rw [if_pos (by omega), List.append_nil]
  have e8 : mMeth isListMV gAppend (mAttr 182 (mVar 0)) (lCons (mTup (lCons (mOwnK 182 (f_H__convert_string_type sns) (mVar 0) (lCons (mVar 1) lNil) (mBool true)) (lCons (mMeth isStrMV gJoin (mStr [59, 32]) (lCons (mVar 4) lNil)) lNil))) lNil) [some (.ref i), some (.str x), some (.str v), some (.ref hp.length), some (.ref h1.length), none, none] h3 = some (.none, h3.set j (.list (T ++ [.tup [.str x, .str v]]))) := by
    refine mMeth_eq (a := .ref j) (vs := [.tup [.str x, .str v]]) (h1 := h3) (h2 := h3) (mAttr_eq (a := .ref i) rfl io3) (by show (listOf h3 j).isSome = true; rw [hT3]; rfl) (lCons_eq (mTup_eq (lCons_eq e6 (lCons_eq e7 lNil_eq)) (by simp [few])) lNil_eq) ?_
    show (match listOf h3 j with | some xs => if xs.length < few then some (MV.none, h3.set j (.list (xs ++ [MV.tup [.str x, .str v]]))) else none | none => none) = _
    rw [hT3]
    simp only
    rw [if_pos (by unfold few; omega)]
  have start : f_H_add_header sns [.ref i, .str x, .str v] hp = outOf (sSeq (sSet 4 (mList lNil)) (sSeq (sIf (tCmp .IsNot (mVar 2) mNone) (sSeq (sSet 2 (mOwnK 182 (f_H__convert_string_type sns) (mVar 0) (lCons (mVar 2) lNil) (mBool false))) (sSeq (sExpr (mMeth isListMV gAppend (mVar 4) (lCons (mVar 2) lNil))) sNil)) sNil) (sSeq (sFor 4000 (.two 5 6) (iKwItems (mVar 3)) sNone sNil) (sSeq (sExpr (mMeth isListMV gAppend (mAttr 182 (mVar 0)) (lCons (mTup (lCons (mOwnK 182 (f_H__convert_string_type sns) (mVar 0) (lCons (mVar 1) lNil) (mBool true)) (lCons (mMeth isStrMV gJoin (mStr [59, 32]) (lCons (mVar 4) lNil)) lNil))) lNil))) sNil))) [some (.ref i), some (.str x), some (.str v), some (.ref hp.length), none, none, none] h1) := by
    rw [← hh1]; rfl
  rw [start, sSeq_next (sSet_eq e1)]
  rw [show ([some (.ref i), some (.str x), some (.str v), some (.ref hp.length), none, none, none] : Loc).set 4 (some (.ref h1.length)) = [some (.ref i), some (.str x), some (.str v), some (.ref hp.length), some (.ref h1.length), none, none] from rfl]
  have e9 : sIf (tCmp .IsNot (mVar 2) mNone) (sSeq (sSet 2 (mOwnK 182 (f_H__convert_string_type sns) (mVar 0) (lCons (mVar 2) lNil) (mBool false))) (sSeq (sExpr (mMeth isListMV gAppend (mVar 4) (lCons (mVar 2) lNil))) sNil)) sNil [some (.ref i), some (.str x), some (.str v), some (.ref hp.length), some (.ref h1.length), none, none] (h1 ++ [.list []]) = some (.next, [some (.ref i), some (.str x), some (.str v), some (.ref hp.length), some (.ref h1.length), none, none], h3) := by
    rw [sIf_true e2, sSeq_next (sSet_eq e3)]
    show sSeq (sExpr _) sNil [some (.ref i), some (.str x), some (.str v), some (.ref hp.length), some (.ref h1.length), none, none] (h1 ++ [.list []]) = _
    rw [sSeq_next (sExpr_eq e4)]
    rfl
  rw [sSeq_next e9, sSeq_next e5, sSeq_next (sExpr_eq e8)]
  rfl
end Mine
end
section
open PySem PySem.W PyProof.Rows PySem.Spec PySem.Calls
set_option linter.unusedVariables false
set_option maxRecDepth 100000
namespace Mine
theorem lt16 {P : Nat → Prop} (h0 : P 0) (h1 : P 1) (h2 : P 2) (h3 : P 3) (h4 : P 4) (h5 : P 5) (h6 : P 6) (h7 : P 7) (h8 : P 8) (h9 : P 9) (h10 : P 10) (h11 : P 11) (h12 : P 12) (h13 : P 13) (h14 : P 14) (h15 : P 15) : ∀ k, k < 16 → P k
  | 0, _ => h0
  | 1, _ => h1
  | 2, _ => h2
  | 3, _ => h3
  | 4, _ => h4
  | 5, _ => h5
  | 6, _ => h6
  | 7, _ => h7
  | 8, _ => h8
  | 9, _ => h9
  | 10, _ => h10
  | 11, _ => h11
  | 12, _ => h12
  | 13, _ => h13
  | 14, _ => h14
  | 15, _ => h15
  | n + 16, h => absurd h (by omega)
noncomputable def isStr (r : Option (MV × List MO)) (x : List Nat) : Bool := match r with
  | some (.str y, _) => eqNs y x
  | _ => false
theorem wordAt (sns : List Int) : ∀ c, c < 16 → (Nat.beq c 0 || isStr (f__law_word sns [.int c] []) [65 + c]) = true :=
  lt16 rfl (by kernel_rfl) (by kernel_rfl) (by kernel_rfl) (by kernel_rfl) (by kernel_rfl) (by kernel_rfl) (by kernel_rfl) (by kernel_rfl) (by kernel_rfl) (by kernel_rfl) (by kernel_rfl) (by kernel_rfl) (by kernel_rfl) (by kernel_rfl) (by kernel_rfl)
theorem word_eq (sns : List Int) {c : Nat} (h0 : 0 < c) (h : c < 16) (hp : List MO) : wordF sns [.int (c : Int)] hp = some (.str [65 + c], hp) := by
  have := wordAt sns c h
  rw [Bool.or_eq_true] at this
  rcases this with q | q
  · have := Nat.eq_of_beq_eq_true q; omega
  · show (match f__law_word sns [.int c] [] with | none => none | some (v, _) => _) = _
    revert q
    generalize f__law_word sns [.int (c : Int)] [] = r
    intro q
    unfold isStr at q
    split at q
    · rw [eqNs_eq q]; rfl
    · cases q
noncomputable def powsN (c : Nat) : List Nat := [1, 2, 4, 8].filter fun k => Nat.beq (c / k % 2) 1
noncomputable def isInts (xs : List MV) (l : List Nat) : Bool := match xs, l with
  | [], [] => true
  | .int a :: r, b :: t => (match a with
    | .ofNat a => Nat.beq a b
    | _ => false) && isInts r t
  | _, _ => false
theorem isInts_eq : ∀ {xs : List MV} {l : List Nat}, isInts xs l = true → xs = natL l
  | [], [], _ => rfl
  | .int (.ofNat a) :: r, b :: t, h => by
    simp only [isInts, Bool.and_eq_true] at h
    rw [Nat.eq_of_beq_eq_true h.1, isInts_eq h.2]
    rfl
  | .int (.negSucc a) :: r, b :: t, h => by simp [isInts] at h
  | [], _ :: _, h => by simp [isInts] at h
  | .none :: _, _, h | .bool _ :: _, _, h | .str _ :: _, _, h | .bytes _ :: _, _, h | .ref _ :: _, _, h | .tup _ :: _, _, h | .fix _ :: _, _, h | .script :: _, _, h => by simp [isInts] at h
  | .int (.ofNat a) :: r, [], h => by simp [isInts] at h
  | .int (.negSucc a) :: r, [], h => by simp [isInts] at h
noncomputable def isPow (r : Option (MV × List MO)) (l : List Nat) : Bool := match r with
  | some (.ref r, gar) => (match gar[r]? with
    | some (.list xs) => isInts xs l
    | _ => false)
  | _ => false
theorem powAt (sns : List Int) : ∀ c : Nat, c < 16 → isPow (f__law_powers sns [.int (c : Int)] []) (powsN c) = true :=
  lt16 (by kernel_rfl) (by kernel_rfl) (by kernel_rfl) (by kernel_rfl) (by kernel_rfl) (by kernel_rfl) (by kernel_rfl) (by kernel_rfl) (by kernel_rfl) (by kernel_rfl) (by kernel_rfl) (by kernel_rfl) (by kernel_rfl) (by kernel_rfl) (by kernel_rfl) (by kernel_rfl)
theorem noRefs_natL : ∀ l : List Nat, noRefs (natL l) = true
  | [] => by simp [natL, noRefs]
  | a :: l => by
    have := noRefs_natL l
    simp only [natL] at this
    simp [natL, noRefs, noRef, this]
theorem pow_eq (sns : List Int) {c : Nat} (h : c < 16) (hp : List MO) : powersF sns [.int (c : Int)] hp = some (.ref hp.length, hp ++ [.list (natL (powsN c))]) := by
  have := powAt sns c h
  show (match f__law_powers sns [.int c] [] with | some (.ref r, gar) => _ | _ => none) = _
  revert this
  generalize f__law_powers sns [.int (c : Int)] [] = r
  intro q
  unfold isPow at q
  split at q
  · rename_i r0 gar
    split at q
    · rename_i xs hx
      first
        | (rw [isInts_eq q, noRefs_natL]; done)
        | (show (match gar[r0]? with | some (.list xs) => (match noRefs xs with | true => some (MV.ref hp.length, hp ++ [MO.list xs]) | false => none) | _ => none) = _
           rw [hx]
           show (match noRefs xs with | true => some (MV.ref hp.length, hp ++ [MO.list xs]) | false => none) = _
           rw [isInts_eq q, noRefs_natL])
    · cases q
  · cases q
structure TH (H : List MO) (i d j : Nat) (T : List MV) : Prop where
  ins : H[i]? = some (.inst 182 d)
  dic : H[d]? = some (.idict (some (.ref j)))
  tab : listOf H j = some T
noncomputable def Keep (j : Nat) (H H' : List MO) : Prop := ∀ k xs, k ≠ j → listOf H k = some xs → listOf H' k = some xs
theorem Keep.refl {j H} : Keep j H H := fun _ _ _ h => h
theorem Keep.trans {j H H1 H2} (a : Keep j H H1) (b : Keep j H1 H2) : Keep j H H2 := fun k xs h e => b k xs h (a k xs h e)
theorem Keep.app {j H} (g : List MO) : Keep j H (H ++ g) := fun k xs _ e => listOf_app e g
theorem TH.app {H i d j T} (h : TH H i d j T) (g : List MO) : TH (H ++ g) i d j T := ⟨get_app h.ins g, get_app h.dic g, listOf_app h.tab g⟩
theorem TH.set {H i d j T} (h : TH H i d j T) (T' : List MV) : TH (H.set j (.list T')) i d j T' := by
  have h1 : j ≠ i := by rintro rfl; have := listOf_get h.tab; rw [h.ins] at this; cases this
  have h2 : j ≠ d := by rintro rfl; have := listOf_get h.tab; rw [h.dic] at this; cases this
  exact ⟨by rw [List.getElem?_set_ne h1]; exact h.ins, by rw [List.getElem?_set_ne h2]; exact h.dic, of_get (by rw [List.getElem?_set_self (lt_of_some (listOf_get h.tab))])⟩
theorem Keep.set {j H} (o : MO) : Keep j H (H.set j o) := fun k xs hk e => by rw [listOf_set (Ne.symm hk)]; exact e
noncomputable def lsbN (c : Nat) : Nat := atN (powsN c) 0
noncomputable def nameN (t c : Nat) : List Nat := match Nat.beq (t % 2) 1 with
  | true => [65 + c]
  | false => [97 + c]
noncomputable def entN (t c : Nat) : MV := .tup [.str (nameN t c), .str [66 + t]]
noncomputable def chainGo : Nat → Nat → Option (List Nat)
  | 0, _ => none
  | f + 1, c => match Nat.blt c 16 with
    | true => (match chainGo f (c + lsbN c) with
      | some r => some (c :: r)
      | none => none)
    | false => some []
noncomputable def cellBody (sns : List Int) : MS := sSeq (sSet 5 (mCall (wordF sns) (lCons (mVar 4) lNil)))
   (sSeq (sExpr (mOwn 182 (f_H_add_header sns) (mVar 1) (lCons (mIf (tVal (mBin .Mod (mVar 2) (mInt 2))) (mVar 5) (mMeth isStrMV gLower (mVar 5) lNil)) (lCons (mCall (wordF sns) (lCons (mBin .Add (mVar 2) (mInt 1)) lNil)) lNil))))
   (sSeq (sAug .Add 4 (mSub (mCall (powersF sns) (lCons (mVar 4) lNil)) (mInt 0)))
   sNil))
theorem nameN_ok {t c : Nat} (h : c < 16) : (nameN t c).all okChar = true ∧ (nameN t c).length = 1 := by
  unfold nameN
  cases Nat.beq (t % 2) 1 with
  | true => refine ⟨?_, rfl⟩; simp only [List.all_cons, List.all_nil, Bool.and_true]; rw [okChar_iff]; omega
  | false => refine ⟨?_, rfl⟩; simp only [List.all_cons, List.all_nil, Bool.and_true]; rw [okChar_iff]; omega
theorem pows_len : ∀ c, c < 16 → (powsN c).length ≤ 4 ∧ (0 < c → 0 < (powsN c).length) := by decide +kernel
theorem lo_up1 {c : Nat} (h : c < 16) : [65 + c].map lo1 = [97 + c] := by
  simp only [List.map_cons, List.map_nil]
  rw [up_lo (up_iff.mpr (by omega))]
  congr 1
  omega
theorem name_if {sns : List Int} {t c : Nat} (hc : c < 16) {H : List MO} {a b l3 l4 : Option MV} :
    mIf (tVal (mBin .Mod (mVar 2) (mInt 2))) (mVar 5) (mMeth isStrMV gLower (mVar 5) lNil) [a, b, some (.int (t : Int)), l3, l4, some (.str [65 + c])] H = some (.str (nameN t c), H) := by
  have e1 : mBin .Mod (mVar 2) (mInt 2) [a, b, some (.int (t : Int)), l3, l4, some (.str [65 + c])] H = some (.int ((t % 2 : Nat) : Int), H) := by
    refine mBin_eq (a := .int (t : Int)) (b := .int 2) (h1 := H) (h2 := H) rfl rfl ?_
    show some (MV.int ((t : Int).fmod 2), H) = _
    rw [Int.fmod_eq_emod_of_nonneg _ (by omega)]
    rfl
  have e2 : tVal (mBin .Mod (mVar 2) (mInt 2)) [a, b, some (.int (t : Int)), l3, l4, some (.str [65 + c])] H = some (((t % 2 : Nat) : Int) != 0, H) := tVal_eq e1 rfl
  unfold mIf
  rw [e2]
  unfold nameN
  have hm : t % 2 < 2 := Nat.mod_lt _ (by decide)
  rcases (by omega : t % 2 = 0 ∨ t % 2 = 1) with q | q
  · rw [q]
    show mMeth isStrMV gLower (mVar 5) lNil [a, b, some (.int (t : Int)), l3, l4, some (.str [65 + c])] H = some (.str [97 + c], H)
    refine mMeth_eq (a := .str [65 + c]) (vs := []) (h1 := H) (h2 := H) rfl rfl rfl ?_
    rw [gLower_ok (up_okChars (by simp only [List.all_cons, List.all_nil, Bool.and_true]; exact up_iff.mpr (by omega))) (by simp [few]), lo_up1 hc]
  · rw [q]; rfl
theorem cell_body {sns : List Int} {H : List MO} {i d j t c : Nat} {T : List MV} {a l3 l5 : Option MV} (h : TH H i d j T) (hl : T.length < 3000) (h0 : 0 < c) (hc : c < 16) (ht : t < 15) :
    ∃ H', cellBody sns [a, some (.ref i), some (.int (t : Int)), l3, some (.int (c : Int)), l5] H = some (.next, [a, some (.ref i), some (.int (t : Int)), l3, some (.int ((c + lsbN c : Nat) : Int)), some (.str [65 + c])], H') ∧ TH H' i d j (T ++ [entN t c]) ∧ Keep j H H' := by
  have e1 : mCall (wordF sns) (lCons (mVar 4) lNil) [a, some (.ref i), some (.int (t : Int)), l3, some (.int (c : Int)), l5] H = some (.str [65 + c], H) := mCall_eq (vs := [.int (c : Int)]) (h1 := H) rfl (word_eq sns h0 hc H)
  have e2 : mCall (wordF sns) (lCons (mBin .Add (mVar 2) (mInt 1)) lNil) [a, some (.ref i), some (.int (t : Int)), l3, some (.int (c : Int)), some (.str [65 + c])] H = some (.str [66 + t], H) := by
    refine mCall_eq (vs := [.int ((t + 1 : Nat) : Int)]) (h1 := H) rfl ?_
    rw [word_eq sns (by omega) (by omega) H, show 65 + (t + 1) = 66 + t by omega]
  obtain ⟨n1, n2⟩ := nameN_ok (t := t) hc
  have e3 := add_eq (sns := sns) (x := nameN t c) (v := [66 + t]) h.ins h.dic h.tab (by omega) n1 (by rw [n2]; simp [few]) (by simp only [List.all_cons, List.all_nil, Bool.and_true]; rw [okChar_iff]; omega) (by simp [few])
  have e4 : mOwn 182 (f_H_add_header sns) (mVar 1) (lCons (mIf (tVal (mBin .Mod (mVar 2) (mInt 2))) (mVar 5) (mMeth isStrMV gLower (mVar 5) lNil)) (lCons (mCall (wordF sns) (lCons (mBin .Add (mVar 2) (mInt 1)) lNil)) lNil)) [a, some (.ref i), some (.int (t : Int)), l3, some (.int (c : Int)), some (.str [65 + c])] H = some (.none, (H ++ [MO.kwd] ++ [MO.list [.str [66 + t]]]).set j (MO.list (T ++ [entN t c]))) :=
    mOwn_eq (a := .ref i) (h1 := H) rfl (inst_of h.ins h.dic) (lCons_eq (name_if (sns := sns) hc) (lCons_eq e2 lNil_eq)) e3
  have h1 := ((h.app [.kwd]).app [.list [.str [66 + t]]]).set (T ++ [entN t c])
  have k1 : Keep j H ((H ++ [MO.kwd] ++ [MO.list [.str [66 + t]]]).set j (MO.list (T ++ [entN t c]))) := ((Keep.app [.kwd]).trans (Keep.app [.list [.str [66 + t]]])).trans (Keep.set _)
  generalize (H ++ [MO.kwd] ++ [MO.list [.str [66 + t]]]).set j (MO.list (T ++ [entN t c])) = H1 at *
  obtain ⟨p1, p2⟩ := pows_len c hc
  have e5 : mSub (mCall (powersF sns) (lCons (mVar 4) lNil)) (mInt 0) [a, some (.ref i), some (.int (t : Int)), l3, some (.int (c : Int)), some (.str [65 + c])] H1 = some (.int (lsbN c : Int), H1 ++ [.list (natL (powsN c))]) :=
    mSub_eq (b := .int ((0 : Nat) : Int)) (mCall_eq (vs := [.int (c : Int)]) (h1 := H1) rfl (pow_eq sns hc H1)) rfl (sub_ints (listOf_end _ _) (p2 h0) (by unfold few; omega))
  have e6 : sAug .Add 4 (mSub (mCall (powersF sns) (lCons (mVar 4) lNil)) (mInt 0)) [a, some (.ref i), some (.int (t : Int)), l3, some (.int (c : Int)), some (.str [65 + c])] H1 = some (.next, [a, some (.ref i), some (.int (t : Int)), l3, some (.int ((c + lsbN c : Nat) : Int)), some (.str [65 + c])], H1 ++ [.list (natL (powsN c))]) := by
    unfold sAug
    rw [show mVar 4 [a, some (.ref i), some (.int (t : Int)), l3, some (.int (c : Int)), some (.str [65 + c])] H1 = some (.int (c : Int), H1) from rfl]
    simp only [e5]
    rfl
  refine ⟨H1 ++ [.list (natL (powsN c))], ?_, h1.app _, k1.trans (Keep.app _)⟩
  unfold cellBody
  rw [sSeq_next (sSet_eq e1)]
  show sSeq (sExpr _) _ [a, some (.ref i), some (.int (t : Int)), l3, some (.int (c : Int)), some (.str [65 + c])] H = _
  rw [sSeq_next (sExpr_eq e4), sSeq_next e6]
  rfl
noncomputable def cellT : MT := tCmp .Lt (mVar 4) (mInt 16)
theorem cell_go {sns : List Int} {i d j t : Nat} {a l3 : Option MV} (ht : t < 15) : ∀ (f c n : Nat) (cs : List Nat) (H : List MO) (T : List MV) (l5 : Option MV), 0 < c → chainGo f c = some cs → f ≤ n → TH H i d j T → T.length + f < 3000 →
    ∃ l4 l5' H', whileGo cellT (cellBody sns) sNil n [a, some (.ref i), some (.int (t : Int)), l3, some (.int (c : Int)), l5] H = some (.next, [a, some (.ref i), some (.int (t : Int)), l3, l4, l5'], H') ∧ TH H' i d j (T ++ cs.map (entN t)) ∧ Keep j H H'
  | 0, c, n, cs, H, T, l5, h0, hc, hn, h, hl => by cases hc
  | f + 1, c, n, cs, H, T, l5, h0, hc, hn, h, hl => by
    obtain ⟨n, rfl⟩ : ∃ q, n = q + 1 := ⟨n - 1, by omega⟩
    have et : cellT [a, some (.ref i), some (.int (t : Int)), l3, some (.int (c : Int)), l5] H = some (decide ((c : Int) < 16), H) := rfl
    unfold chainGo at hc
    split at hc
    · rename_i hb
      have hlt : c < 16 := by rw [Nat.blt_eq] at hb; exact hb
      split at hc
      · rename_i r hr
        cases hc
        obtain ⟨H1, e1, h1, k1⟩ := cell_body (sns := sns) (a := a) (l3 := l3) (l5 := l5) h (by omega) h0 hlt ht
        obtain ⟨l4, l5', H2, e2, h2, k2⟩ := cell_go (sns := sns) (a := a) (l3 := l3) ht f (c + lsbN c) n r H1 (T ++ [entN t c]) (some (.str [65 + c])) (by omega) hr (by omega) h1 (by rw [List.length_append, List.length_singleton]; omega)
        refine ⟨l4, l5', H2, ?_, by simpa using h2, k1.trans k2⟩
        show (match cellT _ _ with | none => none | some (false, hp1) => _ | some (true, hp1) => match cellBody sns _ hp1 with | none => none | some (.next, loc2, hp2) => _ | some (.cont, loc2, hp2) => _ | some (.brk, loc2, hp2) => _ | some (.ret v, loc2, hp2) => _) = _
        rw [et, show decide ((c : Int) < 16) = true by simp; omega]
        simp only
        rw [e1]
        exact e2
      · cases hc
    · rename_i hb
      cases hc
      have hge : ¬ c < 16 := by
        intro q
        have : Nat.blt c 16 = true := by rw [Nat.blt_eq]; exact q
        rw [this] at hb; cases hb
      refine ⟨some (.int (c : Int)), l5, H, ?_, by simpa using h, Keep.refl⟩
      show (match cellT _ _ with | none => none | some (false, hp1) => _ | some (true, hp1) => _) = _
      rw [et, show decide ((c : Int) < 16) = false by simp; omega]
      rfl
end Mine
end
section
open PySem PySem.W PyProof.Rows PySem.Spec PySem.Calls
set_option linter.unusedVariables false
set_option maxRecDepth 100000
namespace Mine
noncomputable def chainOf (p : Nat) : List Nat := (chainGo 20 p).getD []
theorem chain_ok : ∀ p, p < 16 → 0 < p → chainGo 20 p = some (chainOf p) ∧ (chainOf p).length ≤ 5 := by decide +kernel
noncomputable def itemsFrom : Nat → List Nat → List MV
  | _, [] => []
  | t, p :: r => (chainOf p).map (entN t) ++ itemsFrom (t + 1) r
theorem itemsFrom_snoc : ∀ (t : Nat) (l : List Nat) (p : Nat), itemsFrom t (l ++ [p]) = itemsFrom t l ++ (chainOf p).map (entN (t + l.length))
  | t, [], p => by simp [itemsFrom]
  | t, q :: l, p => by
    simp only [List.cons_append, itemsFrom, itemsFrom_snoc (t + 1) l p, List.append_assoc, List.length_cons]
    rw [show t + 1 + l.length = t + (l.length + 1) by omega]
theorem itemsFrom_len : ∀ (t : Nat) (l : List Nat), (∀ p ∈ l, 0 < p ∧ p < 16) → (itemsFrom t l).length ≤ 5 * l.length
  | _, [], _ => by simp [itemsFrom]
  | t, p :: l, h => by
    have h1 := h p (List.mem_cons_self ..)
    have h2 := (chain_ok p h1.2 h1.1).2
    have h3 := itemsFrom_len (t + 1) l fun q hq => h q (List.mem_cons_of_mem _ hq)
    simp only [itemsFrom, List.length_append, List.length_map, List.length_cons]
    omega
noncomputable def turnBody (sns : List Int) : MS := sSeq (sSet 4 (mVar 3)) (sSeq (whileGo cellT (cellBody sns) sNil 4000) sNil)
theorem iEnum_list {j : Nat} {xs : List MV} {m : ME} {loc : Loc} {H : List MO} (e : m loc H = some (.ref j, H)) (h : listOf H j = some xs) : iEnum (lCons m lNil) loc H = some (.enum j 0, H) := by
  unfold iEnum
  rw [lCons_eq e lNil_eq]
  show (match (match listOf H j with | some _ => some (It.enum j 0) | none => none) with | none => none | some it => some (it, H)) = _
  rw [h]
theorem enum_at {ps : List Nat} {m : Nat} (h : m < ((natL ps).mapIdx fun m x => MV.tup [.int (m : Int), x]).length) (h' : m < ps.length) : ((natL ps).mapIdx fun m x => MV.tup [.int (m : Int), x])[m] = .tup [.int (m : Int), .int (ps[m] : Int)] := by
  simp [natL]
theorem table_eq {sns : List Int} {hp : List MO} {pl : Nat} {ps : List Nat} (hpl : listOf hp pl = some (natL ps)) (hps : ∀ p ∈ ps, 0 < p ∧ p < 16) (hl : ps.length ≤ 14) :
    ∃ H' i d j, f_table1 sns [.ref pl] hp = some (.ref i, H') ∧ TH H' i d j (itemsFrom 0 ps) ∧ ∀ k xs, listOf hp k = some xs → listOf H' k = some xs := by
  have e0 : mList lNil [some (.ref pl), none, none, none, none, none] hp = some (.ref hp.length, hp ++ [.list []]) := mList_eq rfl (by simp)
  have em := make_eq (sns := sns) (listOf_end hp []) (fun _ h => nomatch h) (by simp)
  have e1 : mCall (gMake 182 (f_H_dinitd sns)) (lCons (mList lNil) lNil) [some (.ref pl), none, none, none, none, none] hp = some (.ref ((hp ++ [MO.list []]).length + 1), hp ++ [.list []] ++ [.idict (some (.ref hp.length)), .inst 182 (hp ++ [MO.list []]).length]) := mCall_eq (lCons_eq e0 lNil_eq) em
  have hlen : (hp ++ [MO.list []]).length = hp.length + 1 := by simp
  have t0 : TH (hp ++ [.list []] ++ [.idict (some (.ref hp.length)), .inst 182 (hp ++ [MO.list []]).length]) ((hp ++ [MO.list []]).length + 1) (hp ++ [MO.list []]).length hp.length [] :=
    ⟨by rw [List.getElem?_append_right (by omega)]; simp, by rw [List.getElem?_append_right (Nat.le_refl _)]; simp, listOf_app (listOf_end hp []) _⟩
  have k0 : ∀ k xs, listOf hp k = some xs → listOf (hp ++ [.list []] ++ [.idict (some (.ref hp.length)), .inst 182 (hp ++ [MO.list []]).length]) k = some xs := fun k xs e => listOf_app (listOf_app e _) _
  have hne : ∀ k xs, listOf hp k = some xs → k ≠ hp.length := fun k xs e => by have := lt_of_some (listOf_get e); omega
  generalize (hp ++ [MO.list []]).length = d at *
  generalize hp ++ [.list []] ++ [.idict (some (.ref hp.length)), .inst 182 d] = H0 at *
  obtain ⟨l', H', e2, I⟩ := forGo_inv (t := .two 2 3) (body := turnBody sns) (feeds_enum (j := pl) (xs := natL ps)) (fun _ => rfl)
    (fun m loc H => ∃ l2 l3 l4 l5, loc = [some (.ref pl), some (.ref (d + 1)), l2, l3, l4, l5] ∧ TH H (d + 1) d hp.length (itemsFrom 0 (ps.take m)) ∧ Keep hp.length H0 H) (fun m loc H ⟨_, _, _, _, _, _, q⟩ => q pl _ (hne _ _ hpl) (k0 _ _ hpl)) (by
      rintro m hm loc H ⟨l2, l3, l4, l5, rfl, q, kq⟩
      have hm' : m < ps.length := by simpa [natL] using hm
      have hp1 := hps _ (List.getElem_mem hm')
      have hlen := itemsFrom_len 0 (ps.take m) fun p hp => hps p (List.mem_of_mem_take hp)
      have hmin : (ps.take m).length = m := by rw [List.length_take]; omega
      obtain ⟨l4', l5', H2, e, q2, k2⟩ := cell_go (sns := sns) (a := some (.ref pl)) (l3 := some (.int (ps[m] : Int))) (t := m) (by omega) 20 ps[m] 4000 (chainOf ps[m]) H (itemsFrom 0 (ps.take m)) l5 hp1.1 (chain_ok _ hp1.2 hp1.1).1 (by omega) q (by omega)
      refine ⟨[some (.ref pl), some (.ref (d + 1)), some (.int (m : Int)), some (.int (ps[m] : Int)), l4, l5], [some (.ref pl), some (.ref (d + 1)), some (.int (m : Int)), some (.int (ps[m] : Int)), l4', l5'], H2, by rw [enum_at hm hm']; rfl, ?_, _, _, _, _, rfl, ?_, kq.trans k2⟩
      · unfold turnBody
        rw [sSeq_next (sSet_eq (v := .int (ps[m] : Int)) (h1 := H) rfl)]
        show sSeq (whileGo cellT (cellBody sns) sNil 4000) sNil [some (.ref pl), some (.ref (d + 1)), some (.int (m : Int)), some (.int (ps[m] : Int)), some (.int (ps[m] : Int)), l5] H = _
        rw [sSeq_next e]
        rfl
      · rw [List.take_succ_eq_append_getElem hm', itemsFrom_snoc, hmin, Nat.zero_add]
        exact q2) 4000 0 [some (.ref pl), some (.ref (d + 1)), none, none, none, none] H0 (Nat.zero_le _) (by simp [natL]; omega) ⟨none, none, none, none, rfl, t0, Keep.refl⟩
  obtain ⟨l2, l3, l4, l5, rfl, q, kq⟩ := I
  have hnl : ((natL ps).mapIdx fun m x => MV.tup [.int (m : Int), x]).length = ps.length := by simp [natL]
  rw [hnl, List.take_length] at q
  refine ⟨H', d + 1, d, hp.length, ?_, q, fun k xs e => kq k xs (hne k xs e) (k0 k xs e)⟩
  show outOf (sSeq (sSet 1 (mCall (gMake 182 (f_H_dinitd sns)) (lCons (mList lNil) lNil))) (sSeq (sFor 4000 (.two 2 3) (iEnum (lCons (mVar 0) lNil)) (turnBody sns) sNil) (sSeq (sRet (mVar 1)) sNil)) [some (.ref pl), none, none, none, none, none] hp) = _
  rw [sSeq_next (sSet_eq e1)]
  show outOf (sSeq (sFor 4000 (.two 2 3) (iEnum (lCons (mVar 0) lNil)) (turnBody sns) sNil) (sSeq (sRet (mVar 1)) sNil) [some (.ref pl), some (.ref (d + 1)), none, none, none, none] H0) = _
  rw [sSeq_next (by rw [sFor_next (iEnum_list (m := mVar 0) (j := pl) (xs := natL ps) rfl (k0 _ _ hpl)) e2]; rfl)]
  rfl
noncomputable def hitsFrom : Nat → List Nat → Nat → List Nat
  | _, [], _ => []
  | t, p :: r, c => (match (chainOf p).contains c with
    | true => [t]
    | false => []) ++ hitsFrom (t + 1) r c
theorem chain_once : ∀ p, p < 16 → ∀ c, c < 16 → (chainOf p).filter (Nat.beq c) = (match (chainOf p).contains c with | true => [c] | false => []) := by decide +kernel
theorem chain_lt : ∀ p, p < 16 → ∀ c ∈ chainOf p, c < 16 := by decide +kernel
theorem keyEq_ent {t c c' : Nat} (h : c < 16) (h' : c' < 16) : keyEq [97 + c] (entN t c') = Nat.beq c c' := by
  show ((nameN t c').map lo1 == [97 + c]) = _
  have e : (nameN t c').map lo1 = [97 + c'] := by
    unfold nameN
    cases Nat.beq (t % 2) 1 with
    | true => exact lo_up1 h'
    | false =>
      simp only [List.map_cons, List.map_nil]
      unfold lo1
      rw [if_neg (by omega)]
  rw [e]
  cases hb : Nat.beq c c' with
  | true => rw [Nat.eq_of_beq_eq_true hb]; simp
  | false =>
    have := Nat.ne_of_beq_eq_false hb
    simp
    omega
theorem all_items {c : Nat} (h : c < 16) : ∀ (t : Nat) (ps : List Nat), (∀ p ∈ ps, 0 < p ∧ p < 16) → allT [97 + c] (itemsFrom t ps) = (hitsFrom t ps c).map fun t => .str [66 + t]
  | t, [], _ => rfl
  | t, p :: r, hps => by
    have h1 := hps p (List.mem_cons_self ..)
    have ih := all_items h (t + 1) r fun q hq => hps q (List.mem_cons_of_mem _ hq)
    have e : allT [97 + c] (itemsFrom t (p :: r)) = allT [97 + c] ((chainOf p).map (entN t)) ++ allT [97 + c] (itemsFrom (t + 1) r) := by
      show ((((chainOf p).map (entN t)) ++ itemsFrom (t + 1) r).filter (keyEq [97 + c])).map sndV = _
      rw [List.filter_append, List.map_append]
      rfl
    rw [e, ih]
    show _ = List.map (fun t => MV.str [66 + t]) ((match (chainOf p).contains c with | true => [t] | false => []) ++ hitsFrom (t + 1) r c)
    rw [List.map_append]
    congr 1
    show ((((chainOf p).map (entN t)).filter (keyEq [97 + c])).map sndV) = _
    rw [List.filter_map, List.map_map]
    have : (chainOf p).filter (keyEq [97 + c] ∘ entN t) = (chainOf p).filter (Nat.beq c) := List.filter_congr fun x hx => keyEq_ent h (chain_lt p h1.2 x hx)
    rw [this, chain_once p h1.2 c h]
    cases (chainOf p).contains c <;> rfl
theorem items_hdr : ∀ (t : Nat) (ps : List Nat), (∀ p ∈ ps, 0 < p ∧ p < 16) → t + ps.length ≤ 14 → ∀ x ∈ itemsFrom t ps, hdrOk x
  | t, [], _, _, x, hx => nomatch hx
  | t, p :: r, hps, hl, x, hx => by
    have h1 := hps p (List.mem_cons_self ..)
    simp only [List.length_cons] at hl
    rcases List.mem_append.mp hx with q | q
    · obtain ⟨c, hc, rfl⟩ := List.mem_map.mp q
      obtain ⟨n1, n2⟩ := nameN_ok (t := t) (chain_lt p h1.2 c hc)
      refine ⟨nameN t c, [66 + t], rfl, n1, by rw [n2]; simp [few], ?_, by simp [few]⟩
      simp only [List.all_cons, List.all_nil, Bool.and_true]
      rw [okChar_iff]
      omega
    · exact items_hdr (t + 1) r (fun q hq => hps q (List.mem_cons_of_mem _ hq)) (by omega) x q
noncomputable def hitV (ps : List Nat) (c : Nat) : List MV := (hitsFrom 0 ps c).map fun t => .str [66 + t]
theorem cellget {sns : List Int} {H : List MO} {i d j c : Nat} {ps : List Nat} (h : TH H i d j (itemsFrom 0 ps)) (hps : ∀ p ∈ ps, 0 < p ∧ p < 16) (hl : ps.length ≤ 14) (hc : c < 16) : f_H_get_all sns [.ref i, .str [65 + c]] H = some (.ref H.length, H ++ [.list (hitV ps c)]) := by
  have hlen := itemsFrom_len 0 ps hps
  rw [getall_eq h.ins h.dic h.tab (items_hdr 0 ps hps (by omega)) (by omega) (up_okChars (by simp only [List.all_cons, List.all_nil, Bool.and_true]; exact up_iff.mpr (by omega))) (by simp [few]), lo_up1 hc, all_items hc 0 ps hps]
  rfl
theorem hits_len : ∀ (t : Nat) (ps : List Nat) (c : Nat), (hitsFrom t ps c).length ≤ ps.length
  | _, [], _ => by simp [hitsFrom]
  | t, p :: r, c => by
    have := hits_len (t + 1) r c
    unfold hitsFrom
    rw [List.length_append, List.length_cons]
    cases (chainOf p).contains c <;> simp <;> omega
end Mine
end
section
open PySem PySem.W PyProof.Rows PySem.Spec PySem.Calls
set_option linter.unusedVariables false
set_option maxRecDepth 100000
namespace Mine
theorem TH.other {H i d j T} (h : TH H i d j T) {D : Nat} (o : MO) (h1 : D ≠ i) (h2 : D ≠ d) (h3 : D ≠ j) : TH (H.set D o) i d j T :=
  ⟨by rw [List.getElem?_set_ne h1]; exact h.ins, by rw [List.getElem?_set_ne h2]; exact h.dic, by rw [listOf_set h3]; exact h.tab⟩
theorem TH.lt {H i d j T} (h : TH H i d j T) : i < H.length ∧ d < H.length ∧ j < H.length := ⟨lt_of_some h.ins, lt_of_some h.dic, lt_of_some (listOf_get h.tab)⟩
noncomputable def revP (a : Nat) : List Nat := (powsN a).reverse
theorem rev_cut : ∀ a, a < 16 → pickL (natL (powsN a)) none none (some (-1)) = natL (revP a) :=
  lt16 (by kernel_rfl) (by kernel_rfl) (by kernel_rfl) (by kernel_rfl) (by kernel_rfl) (by kernel_rfl) (by kernel_rfl) (by kernel_rfl) (by kernel_rfl) (by kernel_rfl) (by kernel_rfl) (by kernel_rfl) (by kernel_rfl) (by kernel_rfl) (by kernel_rfl) (by kernel_rfl)
noncomputable def csum (a m : Nat) : Nat := ((revP a).take m).sum
theorem csum_ok : ∀ a, a < 16 → ∀ m, m < 5 → m < (revP a).length → 0 < csum a (m + 1) ∧ csum a (m + 1) < 16 := by decide +kernel
theorem rev_len : ∀ a, a < 16 → (revP a).length ≤ 4 := by decide +kernel
theorem csum_succ {a m : Nat} (h : m < (revP a).length) : csum a (m + 1) = csum a m + (revP a)[m] := by
  unfold csum
  rw [List.take_succ_eq_append_getElem h, List.sum_append]
  simp
noncomputable def uptoV (ps : List Nat) (a m : Nat) : List MV := (List.range m).flatMap fun k => hitV ps (csum a (k + 1))
theorem uptoV_succ (ps : List Nat) (a m : Nat) : uptoV ps a (m + 1) = uptoV ps a m ++ hitV ps (csum a (m + 1)) := by
  unfold uptoV
  rw [List.range_succ, List.flatMap_append]
  simp
theorem hitV_len (ps : List Nat) (c : Nat) : (hitV ps c).length ≤ ps.length := by
  unfold hitV; rw [List.length_map]; exact hits_len 0 ps c
theorem uptoV_len (ps : List Nat) (a : Nat) : ∀ m, (uptoV ps a m).length ≤ m * ps.length
  | 0 => by simp [uptoV]
  | m + 1 => by
    have h1 := uptoV_len ps a m
    have h2 := hitV_len ps (csum a (m + 1))
    rw [uptoV_succ, List.length_append, Nat.succ_mul]
    omega
theorem extend_eq {H : List MO} {i j : Nat} {xs ys : List MV} (hi : listOf H i = some xs) (hj : listOf H j = some ys) (hl : xs.length + ys.length < few) : gExtend [.ref i, .ref j] H = some (.none, H.set i (.list (xs ++ ys))) := by
  show (match listOf H i with | some xs => (match listOf H j with | some ys => if xs.length + ys.length < few then some (MV.none, H.set i (.list (xs ++ ys))) else none | none => none) | none => none) = _
  rw [hi]
  simp only
  rw [hj]
  simp only
  rw [if_pos hl]
noncomputable def uptoBody (sns : List Int) : MS := sSeq (sAug .Add 3 (mVar 4))
   (sSeq (sExpr (mMeth isListMV gExtend (mVar 2) (lCons (mOwn 182 (f_H_get_all sns) (mVar 0) (lCons (mCall (wordF sns) (lCons (mVar 3) lNil)) lNil)) lNil)))
   sNil)
theorem upto_body {sns : List Int} {H : List MO} {i d j D c p : Nat} {ps : List Nat} {T : List MV} {a : Option MV} (h : TH H i d j (itemsFrom 0 ps)) (hps : ∀ p ∈ ps, 0 < p ∧ p < 16) (hl : ps.length ≤ 14) (h0 : 0 < c + p) (hc : c + p < 16)
    (hD : listOf H D = some T) (hT : T.length < 1000) (n1 : D ≠ i) (n2 : D ≠ d) (n3 : D ≠ j) :
    ∃ H', uptoBody sns [some (.ref i), a, some (.ref D), some (.int (c : Int)), some (.int (p : Int))] H = some (.next, [some (.ref i), a, some (.ref D), some (.int ((c + p : Nat) : Int)), some (.int (p : Int))], H') ∧ TH H' i d j (itemsFrom 0 ps) ∧ listOf H' D = some (T ++ hitV ps (c + p)) ∧ Keep D H H' := by
  have e1 : sAug .Add 3 (mVar 4) [some (.ref i), a, some (.ref D), some (.int (c : Int)), some (.int (p : Int))] H = some (.next, [some (.ref i), a, some (.ref D), some (.int ((c + p : Nat) : Int)), some (.int (p : Int))], H) := by
    show some (MFlow.next, ([some (.ref i), a, some (.ref D), some (.int ((c : Int) + (p : Int))), some (.int (p : Int))] : Loc), H) = _
    rw [show (c : Int) + (p : Int) = ((c + p : Nat) : Int) by omega]
  have e2 : mCall (wordF sns) (lCons (mVar 3) lNil) [some (.ref i), a, some (.ref D), some (.int ((c + p : Nat) : Int)), some (.int (p : Int))] H = some (.str [65 + (c + p)], H) := mCall_eq (vs := [.int ((c + p : Nat) : Int)]) (h1 := H) rfl (word_eq sns h0 hc H)
  have e3 : mOwn 182 (f_H_get_all sns) (mVar 0) (lCons (mCall (wordF sns) (lCons (mVar 3) lNil)) lNil) [some (.ref i), a, some (.ref D), some (.int ((c + p : Nat) : Int)), some (.int (p : Int))] H = some (.ref H.length, H ++ [.list (hitV ps (c + p))]) :=
    mOwn_eq (a := .ref i) (h1 := H) rfl (inst_of h.ins h.dic) (lCons_eq e2 lNil_eq) (cellget h hps hl hc)
  have h2 := hitV_len ps (c + p)
  have e4 : mMeth isListMV gExtend (mVar 2) (lCons (mOwn 182 (f_H_get_all sns) (mVar 0) (lCons (mCall (wordF sns) (lCons (mVar 3) lNil)) lNil)) lNil) [some (.ref i), a, some (.ref D), some (.int ((c + p : Nat) : Int)), some (.int (p : Int))] H = some (.none, (H ++ [MO.list (hitV ps (c + p))]).set D (.list (T ++ hitV ps (c + p)))) :=
    mMeth_eq (a := .ref D) (h1 := H) rfl (by show (listOf H D).isSome = true; rw [hD]; rfl) (lCons_eq e3 lNil_eq) (extend_eq (listOf_app hD _) (listOf_end _ _) (by unfold few; omega))
  refine ⟨(H ++ [MO.list (hitV ps (c + p))]).set D (.list (T ++ hitV ps (c + p))), ?_, (h.app _).other _ n1 n2 n3, ?_, (Keep.app _).trans (Keep.set _)⟩
  · unfold uptoBody
    rw [sSeq_next e1, sSeq_next (sExpr_eq e4)]
    rfl
  · exact of_get (by rw [List.getElem?_set_self (by have := lt_of_some (listOf_get hD); rw [List.length_append]; omega)])
theorem upto_eq {sns : List Int} {hp : List MO} {i d j a : Nat} {ps : List Nat} (h : TH hp i d j (itemsFrom 0 ps)) (hps : ∀ p ∈ ps, 0 < p ∧ p < 16) (hl : ps.length ≤ 14) (ha : a < 16) :
    ∃ H', f_upto1 sns [.ref i, .int (a : Int)] hp = some (.ref hp.length, H') ∧ TH H' i d j (itemsFrom 0 ps) ∧ listOf H' hp.length = some (uptoV ps a (revP a).length) ∧ ∀ k xs, listOf hp k = some xs → listOf H' k = some xs := by
  obtain ⟨b1, b2, b3⟩ := h.lt
  have e1 : mList lNil [some (.ref i), some (.int (a : Int)), none, none, none] hp = some (.ref hp.length, hp ++ [.list []]) := mList_eq rfl (by simp)
  have e2 : mCall (powersF sns) (lCons (mVar 1) lNil) [some (.ref i), some (.int (a : Int)), some (.ref hp.length), some (.int 0), none] (hp ++ [.list []]) = some (.ref (hp ++ [MO.list []]).length, hp ++ [.list []] ++ [.list (natL (powsN a))]) := mCall_eq (vs := [.int (a : Int)]) (h1 := hp ++ [.list []]) rfl (pow_eq sns ha _)
  have hl0 := (pows_len a ha).1
  have e3 : mCut sns (mCall (powersF sns) (lCons (mVar 1) lNil)) pNone pNone (pInt (mNeg (mInt 1))) [some (.ref i), some (.int (a : Int)), some (.ref hp.length), some (.int 0), none] (hp ++ [.list []]) = some (.ref (hp ++ [MO.list []] ++ [MO.list (natL (powsN a))]).length, hp ++ [.list []] ++ [.list (natL (powsN a))] ++ [.list (natL (revP a))]) := by
    unfold mCut
    rw [e2]
    show (match listOf (hp ++ [MO.list []] ++ [MO.list (natL (powsN a))]) (hp ++ [MO.list []]).length with | none => none | some xs => if xs.length ≤ few then some (MV.ref (hp ++ [MO.list []] ++ [MO.list (natL (powsN a))]).length, hp ++ [MO.list []] ++ [MO.list (natL (powsN a))] ++ [MO.list (pickL xs none none (some (-1)))]) else none) = _
    rw [listOf_end]
    simp only
    rw [if_pos (by rw [ints_len]; unfold few; omega), rev_cut a ha]
  have hr : listOf (hp ++ [.list []] ++ [.list (natL (powsN a))] ++ [.list (natL (revP a))]) (hp ++ [MO.list []] ++ [MO.list (natL (powsN a))]).length = some (natL (revP a)) := listOf_end _ _
  have hD : listOf (hp ++ [.list []] ++ [.list (natL (powsN a))] ++ [.list (natL (revP a))]) hp.length = some [] := listOf_app (listOf_app (listOf_end hp []) _) _
  have hk : ∀ k xs, listOf hp k = some xs → listOf (hp ++ [.list []] ++ [.list (natL (powsN a))] ++ [.list (natL (revP a))]) k = some xs := fun k xs q => listOf_app (listOf_app (listOf_app q _) _) _
  have h3 := ((h.app [.list []]).app [.list (natL (powsN a))]).app [.list (natL (revP a))]
  have hne : (hp ++ [MO.list []] ++ [MO.list (natL (powsN a))]).length ≠ hp.length := by simp
  have e4 := iVal_list e3 hr
  generalize (hp ++ [MO.list []] ++ [MO.list (natL (powsN a))]).length = R at *
  generalize hp ++ [.list []] ++ [.list (natL (powsN a))] ++ [.list (natL (revP a))] = H3 at *
  have hrl := rev_len a ha
  obtain ⟨l', H', e5, I⟩ := forGo_inv (t := .one 4) (body := uptoBody sns) (feeds_list (j := R) (xs := natL (revP a))) (fun _ => rfl)
    (fun m loc H => ∃ l4, loc = [some (.ref i), some (.int (a : Int)), some (.ref hp.length), some (.int (csum a m : Int)), l4] ∧ TH H i d j (itemsFrom 0 ps) ∧ listOf H hp.length = some (uptoV ps a m) ∧ Keep hp.length H3 H) (fun m loc H ⟨_, _, _, _, q⟩ => q _ _ hne hr) (by
      rintro m hm loc H ⟨l4, rfl, q, qD, qk⟩
      have hm' : m < (revP a).length := by rw [ints_len] at hm; exact hm
      obtain ⟨c1, c2⟩ := csum_ok a ha m (by omega) hm'
      rw [csum_succ hm'] at c1 c2
      have hul := uptoV_len ps a m
      have hmul : m * ps.length ≤ 4 * 14 := Nat.mul_le_mul (by omega) hl
      obtain ⟨H2, e, q2, qD2, k2⟩ := upto_body (sns := sns) (a := some (.int (a : Int))) q hps hl c1 c2 qD (by omega) (by omega) (by omega) (by omega)
      refine ⟨[some (.ref i), some (.int (a : Int)), some (.ref hp.length), some (.int (csum a m : Int)), some (.int ((revP a)[m] : Int))], _, H2, by simp only [natL, List.getElem_map]; rfl, e, some (.int ((revP a)[m] : Int)), ?_, q2, ?_, qk.trans k2⟩
      · rw [csum_succ hm']
      · rw [qD2, uptoV_succ, csum_succ hm']) 4000 0 [some (.ref i), some (.int (a : Int)), some (.ref hp.length), some (.int 0), none] H3 (Nat.zero_le _) (by rw [ints_len]; omega) ⟨none, rfl, h3, hD, Keep.refl⟩
  obtain ⟨l4, rfl, q, qD, qk⟩ := I
  rw [ints_len] at qD
  refine ⟨H', ?_, q, qD, fun k xs e => qk k xs (by have := lt_of_some (listOf_get e); omega) (hk k xs e)⟩
  show outOf (sSeq (sSet 2 (mList lNil)) (sSeq (sSet 3 (mInt 0)) (sSeq (sFor 4000 (.one 4) (iVal (mCut sns (mCall (powersF sns) (lCons (mVar 1) lNil)) pNone pNone (pInt (mNeg (mInt 1))))) (uptoBody sns) sNil) (sSeq (sRet (mVar 2)) sNil))) [some (.ref i), some (.int (a : Int)), none, none, none] hp) = _
  rw [sSeq_next (sSet_eq e1)]
  rw [sSeq_next (sSet_eq (v := .int 0) (h1 := hp ++ [.list []]) rfl)]
  show outOf (sSeq (sFor 4000 (.one 4) _ (uptoBody sns) sNil) (sSeq (sRet (mVar 2)) sNil) [some (.ref i), some (.int (a : Int)), some (.ref hp.length), some (.int 0), none] (hp ++ [.list []])) = _
  rw [sSeq_next (by rw [sFor_next e4 e5]; rfl)]
  rfl
noncomputable def reachS (ps : List Nat) (s : Nat × Nat) (p : Nat) : Nat × Nat := match Nat.blt (hitsFrom 0 ps (s.1 + p)).length s.2 with
  | true => (s.1 + p, s.2 - (hitsFrom 0 ps (s.1 + p)).length)
  | false => s
noncomputable def reachA (ps : List Nat) (cnt m : Nat) : Nat × Nat := (([8, 4, 2, 1] : List Nat).take m).foldl (reachS ps) (0, cnt)
theorem reachA_succ (ps : List Nat) (cnt : Nat) {m : Nat} (h : m < ([8, 4, 2, 1] : List Nat).length) : reachA ps cnt (m + 1) = reachS ps (reachA ps cnt m) ([8, 4, 2, 1] : List Nat)[m] := by
  unfold reachA
  rw [List.take_succ_eq_append_getElem h, List.foldl_append]
  rfl
theorem reachS_le (ps : List Nat) (s : Nat × Nat) (p : Nat) : (reachS ps s p).1 ≤ s.1 + p := by
  unfold reachS
  split
  · exact Nat.le_refl _
  · exact Nat.le_add_right _ _
theorem reachA_le (ps : List Nat) (cnt : Nat) : ∀ m, m < 5 → (reachA ps cnt m).1 + ((([8, 4, 2, 1] : List Nat).drop m).sum) ≤ 15 := by
  have h1 := reachS_le ps (0, cnt) 8
  have h2 := reachS_le ps (reachS ps (0, cnt) 8) 4
  have h3 := reachS_le ps (reachS ps (reachS ps (0, cnt) 8) 4) 2
  have h4 := reachS_le ps (reachS ps (reachS ps (reachS ps (0, cnt) 8) 4) 2) 1
  simp only at h1
  intro m hm
  match m, hm with
  | 0, _ => show 0 + 15 ≤ 15; omega
  | 1, _ => show (reachS ps (0, cnt) 8).1 + 7 ≤ 15; omega
  | 2, _ => show (reachS ps (reachS ps (0, cnt) 8) 4).1 + 3 ≤ 15; omega
  | 3, _ => show (reachS ps (reachS ps (reachS ps (0, cnt) 8) 4) 2).1 + 1 ≤ 15; omega
  | 4, _ => show (reachS ps (reachS ps (reachS ps (reachS ps (0, cnt) 8) 4) 2) 1).1 + 0 ≤ 15; omega
  | m + 5, h => omega
noncomputable def reachBody (sns : List Int) : MS := sSeq (sSet 4 (mCall (gLen sns) (lCons (mOwn 182 (f_H_get_all sns) (mVar 0) (lCons (mCall (wordF sns) (lCons (mBin .Add (mVar 2) (mVar 3)) lNil)) lNil)) lNil)))
   (sSeq (sIf (tCmp .Lt (mVar 4) (mVar 1)) (sSeq (sAug .Sub 1 (mVar 4))
   (sSeq (sAug .Add 2 (mVar 3))
   sNil)) sNil)
   sNil)
theorem reach_body {sns : List Int} {H : List MO} {i d j p : Nat} {s : Nat × Nat} {ps : List Nat} {l4 : Option MV} (h : TH H i d j (itemsFrom 0 ps)) (hps : ∀ p ∈ ps, 0 < p ∧ p < 16) (hl : ps.length ≤ 14) (h0 : 0 < p) (hc : s.1 + p < 16) :
    ∃ l4' H', reachBody sns [some (.ref i), some (.int (s.2 : Int)), some (.int (s.1 : Int)), some (.int (p : Int)), l4] H = some (.next, [some (.ref i), some (.int ((reachS ps s p).2 : Int)), some (.int ((reachS ps s p).1 : Int)), some (.int (p : Int)), l4'], H') ∧ TH H' i d j (itemsFrom 0 ps) ∧ ∀ k xs, listOf H k = some xs → listOf H' k = some xs := by
  have e1 : mBin .Add (mVar 2) (mVar 3) [some (.ref i), some (.int (s.2 : Int)), some (.int (s.1 : Int)), some (.int (p : Int)), l4] H = some (.int ((s.1 + p : Nat) : Int), H) := rfl
  have e2 : mCall (wordF sns) (lCons (mBin .Add (mVar 2) (mVar 3)) lNil) [some (.ref i), some (.int (s.2 : Int)), some (.int (s.1 : Int)), some (.int (p : Int)), l4] H = some (.str [65 + (s.1 + p)], H) := mCall_eq (lCons_eq e1 lNil_eq) (word_eq sns (by omega) hc H)
  have e3 := mOwn_eq (C := 182) (g := f_H_get_all sns) (m := mVar 0) (a := .ref i) (h1 := H) rfl (inst_of h.ins h.dic) (lCons_eq e2 lNil_eq) (cellget h hps hl hc)
  have hv := hitV_len ps (s.1 + p)
  have hvl : (hitV ps (s.1 + p)).length = (hitsFrom 0 ps (s.1 + p)).length := by unfold hitV; rw [List.length_map]
  have e4 : mCall (gLen sns) (lCons (mOwn 182 (f_H_get_all sns) (mVar 0) (lCons (mCall (wordF sns) (lCons (mBin .Add (mVar 2) (mVar 3)) lNil)) lNil)) lNil) [some (.ref i), some (.int (s.2 : Int)), some (.int (s.1 : Int)), some (.int (p : Int)), l4] H = some (.int ((hitsFrom 0 ps (s.1 + p)).length : Int), H ++ [.list (hitV ps (s.1 + p))]) :=
    mCall_eq (lCons_eq e3 lNil_eq) (by rw [len_list (listOf_end _ _) (by unfold few; omega), hvl])
  have hT := h.app [.list (hitV ps (s.1 + p))]
  have hk : ∀ k xs, listOf H k = some xs → listOf (H ++ [.list (hitV ps (s.1 + p))]) k = some xs := fun k xs q => listOf_app q _
  generalize H ++ [.list (hitV ps (s.1 + p))] = H1 at *
  have e5 : tCmp .Lt (mVar 4) (mVar 1) [some (.ref i), some (.int (s.2 : Int)), some (.int (s.1 : Int)), some (.int (p : Int)), some (.int ((hitsFrom 0 ps (s.1 + p)).length : Int))] H1 = some (decide (((hitsFrom 0 ps (s.1 + p)).length : Int) < (s.2 : Int)), H1) := rfl
  have eb : Nat.blt (hitsFrom 0 ps (s.1 + p)).length s.2 = decide (((hitsFrom 0 ps (s.1 + p)).length : Int) < (s.2 : Int)) := by
    rw [Bool.eq_iff_iff, Nat.blt_eq, decide_eq_true_eq]; omega
  refine ⟨some (.int ((hitsFrom 0 ps (s.1 + p)).length : Int)), H1, ?_, hT, hk⟩
  unfold reachBody
  rw [sSeq_next (sSet_eq e4)]
  show sSeq (sIf _ _ _) _ [some (.ref i), some (.int (s.2 : Int)), some (.int (s.1 : Int)), some (.int (p : Int)), some (.int ((hitsFrom 0 ps (s.1 + p)).length : Int))] H1 = _
  unfold reachS
  rw [← eb] at e5
  cases hb : Nat.blt (hitsFrom 0 ps (s.1 + p)).length s.2 with
  | true =>
    rw [hb] at e5
    have hlt : (hitsFrom 0 ps (s.1 + p)).length < s.2 := by rw [Nat.blt_eq] at hb; exact hb
    refine sSeq_next (l1 := [some (.ref i), some (.int ((s.2 - (hitsFrom 0 ps (s.1 + p)).length : Nat) : Int)), some (.int ((s.1 + p : Nat) : Int)), some (.int (p : Int)), some (.int ((hitsFrom 0 ps (s.1 + p)).length : Int))]) (h1 := H1) ?_
    rw [sIf_true e5]
    have e6 : sAug .Sub 1 (mVar 4) [some (.ref i), some (.int (s.2 : Int)), some (.int (s.1 : Int)), some (.int (p : Int)), some (.int ((hitsFrom 0 ps (s.1 + p)).length : Int))] H1 = some (.next, [some (.ref i), some (.int ((s.2 - (hitsFrom 0 ps (s.1 + p)).length : Nat) : Int)), some (.int (s.1 : Int)), some (.int (p : Int)), some (.int ((hitsFrom 0 ps (s.1 + p)).length : Int))], H1) := by
      show some (MFlow.next, ([some (.ref i), some (.int ((s.2 : Int) - ((hitsFrom 0 ps (s.1 + p)).length : Int))), some (.int (s.1 : Int)), some (.int (p : Int)), some (.int ((hitsFrom 0 ps (s.1 + p)).length : Int))] : Loc), H1) = _
      rw [show (s.2 : Int) - ((hitsFrom 0 ps (s.1 + p)).length : Int) = ((s.2 - (hitsFrom 0 ps (s.1 + p)).length : Nat) : Int) by omega]
    rw [sSeq_next e6]
    rfl
  | false =>
    rw [hb] at e5
    exact sSeq_next (l1 := [some (.ref i), some (.int (s.2 : Int)), some (.int (s.1 : Int)), some (.int (p : Int)), some (.int ((hitsFrom 0 ps (s.1 + p)).length : Int))]) (h1 := H1) (by rw [sIf_false e5]; rfl)
theorem four_pos : ∀ m (h : m < ([8, 4, 2, 1] : List Nat).length), 0 < ([8, 4, 2, 1] : List Nat)[m] ∧ ([8, 4, 2, 1] : List Nat)[m] ≤ (([8, 4, 2, 1] : List Nat).drop m).sum
  | 0, _ => ⟨by show 0 < 8; omega, by show 8 ≤ 15; omega⟩
  | 1, _ => ⟨by show 0 < 4; omega, by show 4 ≤ 7; omega⟩
  | 2, _ => ⟨by show 0 < 2; omega, by show 2 ≤ 3; omega⟩
  | 3, _ => ⟨by show 0 < 1; omega, by show 1 ≤ 1; omega⟩
  | m + 4, h => absurd h (by simp)
theorem reached_eq {sns : List Int} {hp : List MO} {i d j cnt : Nat} {ps : List Nat} (h : TH hp i d j (itemsFrom 0 ps)) (hps : ∀ p ∈ ps, 0 < p ∧ p < 16) (hl : ps.length ≤ 14) :
    ∃ H', f_reached1 sns [.ref i, .int (cnt : Int)] hp = some (.int ((reachA ps cnt 4).1 : Int), H') ∧ TH H' i d j (itemsFrom 0 ps) ∧ ∀ k xs, listOf hp k = some xs → listOf H' k = some xs := by
  have e1 : iVal (mList (lCons (mInt 8) (lCons (mInt 4) (lCons (mInt 2) (lCons (mInt 1) lNil))))) [some (.ref i), some (.int (cnt : Int)), some (.int 0), none, none] hp = some (.list hp.length 0, hp ++ [.list (natL [8, 4, 2, 1])]) :=
    iVal_list (mList_eq (vs := natL [8, 4, 2, 1]) rfl (by simp [natL, few])) (listOf_end _ _)
  have hT := h.app [.list (natL [8, 4, 2, 1])]
  have hL := listOf_end hp (natL [8, 4, 2, 1])
  have hk : ∀ k xs, listOf hp k = some xs → listOf (hp ++ [.list (natL [8, 4, 2, 1])]) k = some xs := fun k xs q => listOf_app q _
  generalize hp ++ [.list (natL [8, 4, 2, 1])] = H0 at *
  obtain ⟨l', H', e5, I⟩ := forGo_inv (t := .one 3) (body := reachBody sns) (feeds_list (j := hp.length) (xs := natL [8, 4, 2, 1])) (fun _ => rfl)
    (fun m loc H => ∃ l3 l4, loc = [some (.ref i), some (.int ((reachA ps cnt m).2 : Int)), some (.int ((reachA ps cnt m).1 : Int)), l3, l4] ∧ TH H i d j (itemsFrom 0 ps) ∧ ∀ k xs, listOf H0 k = some xs → listOf H k = some xs) (fun m loc H ⟨_, _, _, _, q⟩ => q _ _ hL) (by
      rintro m hm loc H ⟨l3, l4, rfl, q, qk⟩
      have hm' : m < ([8, 4, 2, 1] : List Nat).length := hm
      have b := reachA_le ps cnt m (by simp only [List.length_cons, List.length_nil] at hm'; omega)
      obtain ⟨b1, b2⟩ := four_pos m hm'
      obtain ⟨l4', H2, e, q2, k2⟩ := reach_body (sns := sns) (s := reachA ps cnt m) (l4 := l4) q hps hl b1 (by omega)
      refine ⟨[some (.ref i), some (.int ((reachA ps cnt m).2 : Int)), some (.int ((reachA ps cnt m).1 : Int)), some (.int (([8, 4, 2, 1] : List Nat)[m] : Int)), l4], _, H2, by simp only [natL, List.getElem_map]; rfl, e, some (.int (([8, 4, 2, 1] : List Nat)[m] : Int)), l4', ?_, q2, fun k xs w => k2 k xs (qk k xs w)⟩
      rw [reachA_succ ps cnt hm']) 4000 0 [some (.ref i), some (.int (cnt : Int)), some (.int 0), none, none] H0 (Nat.zero_le _) (by decide) ⟨none, none, rfl, hT, fun _ _ q => q⟩
  obtain ⟨l3, l4, rfl, q, qk⟩ := I
  refine ⟨H', ?_, q, fun k xs w => qk k xs (hk k xs w)⟩
  show outOf (sSeq (sSet 2 (mInt 0)) (sSeq (sFor 4000 (.one 3) (iVal (mList (lCons (mInt 8) (lCons (mInt 4) (lCons (mInt 2) (lCons (mInt 1) lNil)))))) (reachBody sns) sNil) (sSeq (sRet (mVar 2)) sNil)) [some (.ref i), some (.int (cnt : Int)), none, none, none] hp) = _
  rw [sSeq_next (sSet_eq (v := .int 0) (h1 := hp) rfl)]
  show outOf (sSeq (sFor 4000 (.one 3) _ (reachBody sns) sNil) (sSeq (sRet (mVar 2)) sNil) [some (.ref i), some (.int (cnt : Int)), some (.int 0), none, none] hp) = _
  rw [sSeq_next (by rw [sFor_next e1 e5]; rfl)]
  rfl
end Mine
end
section
open PySem PySem.W PyProof.Rows PySem.Spec PySem.Calls
set_option linter.unusedVariables false
set_option maxRecDepth 100000
namespace Mine
noncomputable def inC (c p : Nat) : Bool := Nat.blt (c - lsbN c) p && Nat.ble p c
theorem chain_in : ∀ p, p < 16 → 0 < p → ∀ c, c < 16 → (chainOf p).contains c = (Nat.blt 0 c && inC c p) := by decide +kernel
theorem chain_filter : ∀ p, p < 16 → 0 < p → chainOf p = ((List.range 15).map (· + 1)).filter (inC · p) := by decide +kernel
noncomputable def rngFrom : Nat → List Nat → Nat → Nat → List Nat
  | _, [], _, _ => []
  | t, p :: r, s, e => (match Nat.blt s p && Nat.ble p e with
    | true => [t]
    | false => []) ++ rngFrom (t + 1) r s e
theorem hits_rng {c : Nat} (h0 : 0 < c) (h : c < 16) : ∀ (t : Nat) (ps : List Nat), (∀ p ∈ ps, 0 < p ∧ p < 16) → hitsFrom t ps c = rngFrom t ps (c - lsbN c) c
  | t, [], _ => rfl
  | t, p :: r, hps => by
    have h1 := hps p (List.mem_cons_self ..)
    have ih := hits_rng h0 h (t + 1) r fun q hq => hps q (List.mem_cons_of_mem _ hq)
    have hb : Nat.blt 0 c = true := by rw [Nat.blt_eq]; exact h0
    show (match (chainOf p).contains c with | true => [t] | false => []) ++ hitsFrom (t + 1) r c = (match Nat.blt (c - lsbN c) p && Nat.ble p c with | true => [t] | false => []) ++ rngFrom (t + 1) r (c - lsbN c) c
    rw [ih, chain_in p h1.2 h1.1 c h, hb, Bool.true_and]
    rfl
noncomputable def rngV (ps : List Nat) (s e : Nat) : List MV := (rngFrom 0 ps s e).map fun t => .str [66 + t]
noncomputable def cellsGo (a : Nat) : List Nat → Nat → List (Nat × Nat)
  | [], _ => []
  | s :: r, st => match Nat.ble (st + s) a with
    | true => (st, s) :: cellsGo a r (st + s)
    | false => cellsGo a r st
noncomputable def toldV (ps : List Nat) (a : Nat) : List MV := (cellsGo a [8, 4, 2, 1] 0).flatMap fun q => rngV ps q.1 (q.1 + q.2)
theorem cells_map : ∀ a, a < 16 → (cellsGo a [8, 4, 2, 1] 0).map (fun q => q.1 + q.2) = (List.range (revP a).length).map fun k => csum a (k + 1) := by decide +kernel
theorem cells_lsb : ∀ a, a < 16 → ∀ q ∈ cellsGo a [8, 4, 2, 1] 0, q.1 + q.2 - lsbN (q.1 + q.2) = q.1 ∧ 0 < q.1 + q.2 ∧ q.1 + q.2 < 16 := by decide +kernel
theorem told_upto {ps : List Nat} (hps : ∀ p ∈ ps, 0 < p ∧ p < 16) {a : Nat} (ha : a < 16) : toldV ps a = uptoV ps a (revP a).length := by
  have e1 : toldV ps a = (cellsGo a [8, 4, 2, 1] 0).flatMap fun q => hitV ps (q.1 + q.2) := by
    unfold toldV
    rw [List.flatMap_def, List.flatMap_def]
    congr 1
    refine List.map_congr_left fun q hq => ?_
    obtain ⟨h1, h2, h3⟩ := cells_lsb a ha q hq
    unfold rngV hitV
    rw [hits_rng h2 h3 0 ps hps, h1]
  rw [e1]
  unfold uptoV
  have e2 : ∀ (l : List (Nat × Nat)), (l.flatMap fun q => hitV ps (q.1 + q.2)) = (l.map fun q => q.1 + q.2).flatMap (hitV ps) := by
    intro l
    rw [List.flatMap_map]
  have e3 : ∀ (l : List Nat), (l.flatMap fun k => hitV ps (csum a (k + 1))) = (l.map fun k => csum a (k + 1)).flatMap (hitV ps) := by
    intro l
    rw [List.flatMap_map]
  rw [e2, e3, cells_map a ha]
noncomputable def cntN (ps : List Nat) (x : Nat) : Nat := (ps.filter fun p => Nat.ble p x).length
theorem cnt_cons (p : Nat) (ps : List Nat) (x : Nat) : cntN (p :: ps) x = (if p ≤ x then 1 else 0) + cntN ps x := by
  unfold cntN
  rw [List.filter_cons]
  by_cases h : p ≤ x
  · rw [if_pos (by rw [Nat.ble_eq]; exact h), if_pos h, List.length_cons]; omega
  · rw [if_neg (by rw [Nat.ble_eq]; exact h), if_neg h]; omega
theorem rng_cnt {s e : Nat} (h : s ≤ e) : ∀ (t : Nat) (ps : List Nat), (rngFrom t ps s e).length + cntN ps s = cntN ps e
  | t, [] => rfl
  | t, p :: r => by
    have ih := rng_cnt h (t + 1) r
    rw [cnt_cons, cnt_cons]
    show ((match Nat.blt s p && Nat.ble p e with | true => [t] | false => []) ++ rngFrom (t + 1) r s e).length + _ = _
    rw [List.length_append]
    cases hb : Nat.blt s p && Nat.ble p e with
    | true =>
      rw [Bool.and_eq_true, Nat.blt_eq, Nat.ble_eq] at hb
      rw [if_neg (by omega), if_pos hb.2]
      simp only [List.length_cons, List.length_nil]
      omega
    | false =>
      rw [Bool.and_eq_false_iff] at hb
      simp only [List.length_nil]
      have hb' : ¬ (s < p ∧ p ≤ e) := by
        rintro ⟨q1, q2⟩
        rcases hb with q | q
        · have : Nat.blt s p = true := by rw [Nat.blt_eq]; exact q1
          rw [this] at q; cases q
        · have : Nat.ble p e = true := by rw [Nat.ble_eq]; exact q2
          rw [this] at q; cases q
      by_cases h1 : p ≤ s
      · rw [if_pos h1, if_pos (by omega)]; omega
      · rw [if_neg h1, if_neg (by omega)]; omega
theorem cnt_mono (ps : List Nat) {x y : Nat} (h : x ≤ y) : cntN ps x ≤ cntN ps y := by
  have := rng_cnt h 0 ps; omega
theorem cnt_all {ps : List Nat} (hps : ∀ p ∈ ps, 0 < p ∧ p < 16) : cntN ps 16 = ps.length := by
  unfold cntN
  rw [List.filter_eq_self.mpr]
  intro p hp
  rw [Nat.ble_eq]
  have := (hps p hp).2
  omega
theorem cnt_zero : ∀ {ps : List Nat}, (∀ p ∈ ps, 0 < p ∧ p < 16) → cntN ps 0 = 0
  | [], _ => rfl
  | p :: r, h => by
    have := (h p (List.mem_cons_self ..)).1
    rw [cnt_cons, cnt_zero fun q hq => h q (List.mem_cons_of_mem _ hq), if_neg (by omega)]
theorem lsb_half : ∀ p ∈ [8, 4, 2, 1], ∀ c, c < 16 → c % (2 * p) = 0 → c + p < 16 → lsbN (c + p) = p := by decide +kernel
structure Desc (ps : List Nat) (k w : Nat) (s : Nat × Nat) : Prop where
  dv : s.1 % w = 0
  le : s.1 + w ≤ 16
  eq : cntN ps s.1 + s.2 = k
  pos : 0 < s.2
  up : k ≤ cntN ps (s.1 + w)
theorem desc_step {ps : List Nat} (hps : ∀ p ∈ ps, 0 < p ∧ p < 16) {k p : Nat} (hp : p ∈ [8, 4, 2, 1]) {s : Nat × Nat} (D : Desc ps k (2 * p) s) : Desc ps k p (reachS ps s p) := by
  have hp0 : 0 < p ∧ p ≤ 8 := by
    simp only [List.mem_cons, List.not_mem_nil, or_false] at hp
    omega
  have hle := D.le
  have hl := lsb_half p hp s.1 (by omega) D.dv (by omega)
  have e1 : (hitsFrom 0 ps (s.1 + p)).length + cntN ps s.1 = cntN ps (s.1 + p) := by
    rw [hits_rng (by omega) (by omega) 0 ps hps, hl, show s.1 + p - p = s.1 by omega]
    exact rng_cnt (by omega) 0 ps
  have heq := D.eq
  have hps' := D.pos
  have hup := D.up
  have hdv : s.1 % p = 0 := by
    have := D.dv
    exact Nat.mod_eq_zero_of_dvd (Nat.dvd_trans (Nat.dvd_mul_left p 2) (Nat.dvd_of_mod_eq_zero this))
  unfold reachS
  cases hb : Nat.blt (hitsFrom 0 ps (s.1 + p)).length s.2 with
  | true =>
    rw [Nat.blt_eq] at hb
    refine ⟨?_, ?_, ?_, ?_, ?_⟩
    · show (s.1 + p) % p = 0
      rw [Nat.add_mod_right]; exact hdv
    · show s.1 + p + p ≤ 16; omega
    · show cntN ps (s.1 + p) + (s.2 - _) = k; omega
    · show 0 < s.2 - _; omega
    · show k ≤ cntN ps (s.1 + p + p)
      rw [show s.1 + p + p = s.1 + 2 * p by omega]; exact hup
  | false =>
    have hb' : ¬ (hitsFrom 0 ps (s.1 + p)).length < s.2 := by
      intro q
      have : Nat.blt (hitsFrom 0 ps (s.1 + p)).length s.2 = true := by rw [Nat.blt_eq]; exact q
      rw [this] at hb; cases hb
    exact ⟨hdv, by show s.1 + p ≤ 16; omega, heq, hps', by show k ≤ cntN ps (s.1 + p); omega⟩
theorem desc_end {ps : List Nat} (hps : ∀ p ∈ ps, 0 < p ∧ p < 16) {k : Nat} (h1 : 0 < k) (h2 : k ≤ ps.length) : cntN ps (reachA ps k 4).1 < k ∧ k ≤ cntN ps ((reachA ps k 4).1 + 1) := by
  have D0 : Desc ps k (2 * 8) (0, k) := ⟨rfl, by show 0 + 2 * 8 ≤ 16; omega, by show cntN ps 0 + k = k; rw [cnt_zero hps]; omega, h1, by show k ≤ cntN ps (0 + 2 * 8); rw [show 0 + 2 * 8 = 16 from rfl, cnt_all hps]; exact h2⟩
  have D1 : Desc ps k (2 * 4) (reachS ps (0, k) 8) := desc_step hps (by decide) D0
  have D2 : Desc ps k (2 * 2) (reachS ps (reachS ps (0, k) 8) 4) := desc_step hps (by decide) D1
  have D3 : Desc ps k (2 * 1) (reachS ps (reachS ps (reachS ps (0, k) 8) 4) 2) := desc_step hps (by decide) D2
  have D4 : Desc ps k 1 (reachA ps k 4) := desc_step hps (by decide) D3
  have := D4.eq
  have := D4.pos
  exact ⟨by omega, D4.up⟩
theorem cnt_perm {a b : List Nat} (h : a.Perm b) (x : Nat) : cntN a x = cntN b x := (h.filter _).length_eq
theorem sN_perm (l : List Nat) : (sN l).Perm l := by
  have h := (sortI_perm (l.map Int.ofNat)).map Int.toNat
  rw [List.map_map] at h
  have e : l.map (Int.toNat ∘ Int.ofNat) = l := by
    conv => rhs; rw [← List.map_id l]
    exact List.map_congr_left fun x _ => rfl
  rw [e] at h
  exact h
theorem sN_rises (l : List Nat) : (sN l).Pairwise (· ≤ ·) := by
  unfold sN
  rw [List.pairwise_map]
  exact (sortI_rises (l.map Int.ofNat)).imp fun h => by omega
theorem cnt_sorted_ge {s : List Nat} (hs : s.Pairwise (· ≤ ·)) {i : Nat} (hi : i < s.length) : i + 1 ≤ cntN s s[i] := by
  unfold cntN
  have e : s.filter (fun p => Nat.ble p s[i]) = (s.take (i + 1)).filter (fun p => Nat.ble p s[i]) ++ (s.drop (i + 1)).filter (fun p => Nat.ble p s[i]) := by
    rw [← List.filter_append, List.take_append_drop]
  have e2 : (s.take (i + 1)).filter (fun p => Nat.ble p s[i]) = s.take (i + 1) := by
    rw [List.filter_eq_self]
    intro p hp
    rw [Nat.ble_eq]
    obtain ⟨j, hj, rfl⟩ := List.getElem_of_mem hp
    rw [List.length_take] at hj
    rw [List.getElem_take]
    rcases Nat.lt_or_ge j i with q | q
    · exact List.pairwise_iff_getElem.mp hs j i (by omega) hi q
    · have : j = i := by omega
      subst this; exact Nat.le_refl _
  rw [e, e2, List.length_append, List.length_take]
  omega
theorem cnt_sorted_lt {s : List Nat} (hs : s.Pairwise (· ≤ ·)) {i x : Nat} (hi : i < s.length) (hx : x < s[i]) : cntN s x ≤ i := by
  unfold cntN
  have e : s.filter (fun p => Nat.ble p x) = (s.take i).filter (fun p => Nat.ble p x) ++ (s.drop i).filter (fun p => Nat.ble p x) := by
    rw [← List.filter_append, List.take_append_drop]
  have e2 : (s.drop i).filter (fun p => Nat.ble p x) = [] := by
    rw [List.filter_eq_nil_iff]
    intro p hp
    rw [Nat.ble_eq]
    obtain ⟨j, hj, rfl⟩ := List.getElem_of_mem hp
    rw [List.length_drop] at hj
    rw [List.getElem_drop]
    rcases Nat.eq_zero_or_pos j with rfl | q
    · simp only [Nat.add_zero]; omega
    · have := List.pairwise_iff_getElem.mp hs i (i + j) hi (by omega) (by omega)
      omega
  rw [e, e2, List.append_nil]
  refine Nat.le_trans (List.length_filter_le _ _) ?_
  rw [List.length_take]
  omega
theorem reach_sorted {ps : List Nat} (hps : ∀ p ∈ ps, 0 < p ∧ p < 16) : ((List.range ps.length).map fun t => (reachA ps (t + 1) 4).1 + 1) = sN ps := by
  have hl := sN_len ps
  apply List.ext_getElem
  · rw [List.length_map, List.length_range, hl]
  · intro i h1 h2
    rw [List.getElem_map, List.getElem_range]
    have hi : i < ps.length := by rw [List.length_map, List.length_range] at h1; exact h1
    obtain ⟨d1, d2⟩ := desc_end hps (k := i + 1) (by omega) (by omega)
    have g := cnt_sorted_ge (sN_rises ps) h2
    have l := fun x hx => cnt_sorted_lt (sN_rises ps) (x := x) h2 hx
    have cp := fun x => cnt_perm (sN_perm ps) x
    rw [cp] at g
    generalize (sN ps)[i] = v at *
    generalize (reachA ps (i + 1) 4).1 = c at *
    rcases Nat.lt_trichotomy (c + 1) v with q | q | q
    · have := l (c + 1) q
      rw [cp] at this
      omega
    · exact q
    · have := cnt_mono ps (x := v) (y := c) (by omega)
      omega
end Mine
end
section
open PySem PySem.W PyProof.Rows PySem.Spec PySem.Calls
set_option linter.unusedVariables false
set_option maxRecDepth 100000
namespace Mine
noncomputable def LT : List Nat := [65, 66, 67, 68, 69, 70, 71, 72, 73, 74, 75, 76, 77, 78, 79, 80]
theorem letter_at (hp : List MO) : ∀ c : Nat, c < 16 → subMV (.str LT) (.int (c : Int)) hp = some (.str [65 + c]) :=
  lt16 (by kernel_rfl) (by kernel_rfl) (by kernel_rfl) (by kernel_rfl) (by kernel_rfl) (by kernel_rfl) (by kernel_rfl) (by kernel_rfl) (by kernel_rfl) (by kernel_rfl) (by kernel_rfl) (by kernel_rfl) (by kernel_rfl) (by kernel_rfl) (by kernel_rfl) (by kernel_rfl)
theorem name_if2 {t c : Nat} (hc : c < 16) {H : List MO} {loc : Loc} {m tm : ME} (em : m loc H = some (.str [65 + c], H)) (et : tm loc H = some (.int (t : Int), H)) :
    mIf (tVal (mBin .Mod tm (mInt 2))) m (mMeth isStrMV gLower m lNil) loc H = some (.str (nameN t c), H) := by
  have e1 : mBin .Mod tm (mInt 2) loc H = some (.int ((t % 2 : Nat) : Int), H) := by
    refine mBin_eq (b := .int 2) (h2 := H) et rfl ?_
    show some (MV.int ((t : Int).fmod 2), H) = _
    rw [Int.fmod_eq_emod_of_nonneg _ (by omega)]
    rfl
  have e2 : tVal (mBin .Mod tm (mInt 2)) loc H = some (((t % 2 : Nat) : Int) != 0, H) := tVal_eq e1 rfl
  unfold mIf
  rw [e2]
  unfold nameN
  have hm : t % 2 < 2 := Nat.mod_lt _ (by decide)
  rcases (by omega : t % 2 = 0 ∨ t % 2 = 1) with q | q
  · rw [q]
    show mMeth isStrMV gLower m lNil loc H = some (.str [97 + c], H)
    refine mMeth_eq (vs := []) (h2 := H) em rfl rfl ?_
    rw [gLower_ok (up_okChars (by simp only [List.all_cons, List.all_nil, Bool.and_true]; exact up_iff.mpr (by omega))) (by simp [few]), lo_up1 hc]
  · rw [q]; exact em
noncomputable def l12 (P T D : Nat) (l5 l6 l7 l8 l9 l10 l11 : Option MV) : Loc := [some .script, some (.ref P), some (.ref T), some (.str LT), some (.ref D), l5, l6, l7, l8, l9, l10, l11]
noncomputable def sizeE : ME := mCall gMax (lCons (mComp 4000 (.one 1) (iVal (mList (lCons (mInt 1) (lCons (mInt 2) (lCons (mInt 4) (lCons (mInt 8) lNil)))))) (tCmp .Eq (mBin .Mod (mVar 2) (mVar 1)) (mInt 0)) (mVar 1) 2 [7]) lNil)
theorem natL_filter (f : Nat → Bool) : ∀ l : List Nat, (natL l).filter (eBool f) = natL (l.filter f)
  | [] => rfl
  | a :: l => by
    show (MV.int (a : Int) :: natL l).filter (eBool f) = _
    rw [List.filter_cons, List.filter_cons, natL_filter f l]
    show (if f a = true then MV.int (a : Int) :: natL (l.filter f) else natL (l.filter f)) = _
    cases f a <;> rfl
noncomputable def divs (c : Nat) : List Nat := [1, 2, 4, 8].filter fun k => Nat.beq (c % k) 0
theorem divs_max : ∀ c, c < 16 → 0 < c → maxI ((divs c).map Int.ofNat) = (lsbN c : Int) ∧ divs c ≠ [] ∧ lsbN c ≤ c := by decide +kernel
theorem size_eq {H : List MO} {P T D c : Nat} {l5 l6 l8 l9 l10 l11 : Option MV} (h0 : 0 < c) (h : c < 16) :
    ∃ g, sizeE (l12 P T D l5 l6 (some (.int (c : Int))) l8 l9 l10 l11) H = some (.int (lsbN c : Int), H ++ g) := by
  have e1 : iVal (mList (lCons (mInt 1) (lCons (mInt 2) (lCons (mInt 4) (lCons (mInt 8) lNil))))) (l12 P T D l5 l6 (some (.int (c : Int))) l8 l9 l10 l11) H = some (.list H.length 0, H ++ [.list (natL [1, 2, 4, 8])]) :=
    iVal_list (mList_eq (vs := natL [1, 2, 4, 8]) rfl (by simp [natL, few])) (listOf_end _ _)
  have e2 := comp_gen (n := 4000) (t := .one 1) (mc := tCmp .Eq (mBin .Mod (mVar 2) (mVar 1)) (mInt 0)) (me := mVar 1) (k := 2) (ci := [7]) (p := eBool fun k => Nat.beq (c % k) 0) (e := id) (lo := fun x => [none, some x, some (.int (c : Int))])
    (feeds_list (j := H.length) (xs := natL [1, 2, 4, 8])) e1 (fun acc => listOf_app (listOf_end _ _) _) (fun _ => rfl) (by decide) (by decide) (fun _ _ => rfl) (fun x y l1 h => setT_one h) (by
      intro x hx acc
      obtain ⟨k, hk, rfl⟩ := List.mem_map.mp hx
      have hk0 : 0 < k := by
        simp only [List.mem_cons, List.not_mem_nil, or_false] at hk
        omega
      generalize H ++ [MO.list (natL [1, 2, 4, 8])] ++ [MO.list acc] = H1
      have q1 : mBin .Mod (mVar 2) (mVar 1) [none, some (.int (k : Int)), some (.int (c : Int))] H1 = some (.int ((c % k : Nat) : Int), H1) := by
        refine mBin_eq (a := .int (c : Int)) (b := .int (k : Int)) (h1 := H1) (h2 := H1) rfl rfl ?_
        show (match (if (k : Int) ≠ 0 then some ((c : Int).fmod k) else none) with | some c' => some (MV.int c', H1) | none => none) = _
        rw [if_pos (by omega), Int.fmod_eq_emod_of_nonneg _ (by omega)]
        rfl
      have q2 : tCmp .Eq (mBin .Mod (mVar 2) (mVar 1)) (mInt 0) [none, some (.int (k : Int)), some (.int (c : Int))] H1 = some (((c % k : Nat) : Int) == 0, H1) := tCmp_eq (op := .Eq) (b := .int 0) (h2 := H1) q1 rfl rfl
      show tCmp .Eq (mBin .Mod (mVar 2) (mVar 1)) (mInt 0) [none, some (.int (k : Int)), some (.int (c : Int))] H1 = some (Nat.beq (c % k) 0, H1)
      rw [q2]
      congr 2
      cases hb : Nat.beq (c % k) 0 with
      | true => rw [Nat.eq_of_beq_eq_true hb]; rfl
      | false =>
        have := Nat.ne_of_beq_eq_false hb
        rw [beq_eq_false_iff_ne]
        omega) (fun x _ _ acc => rfl)
  rw [List.map_id, natL_filter] at e2
  obtain ⟨d1, d2, _⟩ := divs_max c h h0
  refine ⟨[.list (natL [1, 2, 4, 8])] ++ [.list (natL (divs c))], ?_⟩
  have e3 := max_nat (listOf_end (H ++ [MO.list (natL [1, 2, 4, 8])]) (natL (divs c))) d2
  rw [d1] at e3
  rw [← List.append_assoc]
  exact mCall_eq (lCons_eq e2 lNil_eq) e3
noncomputable def itemE : ME := mTup (lCons (mIf (tVal (mBin .Mod (mVar 5) (mInt 2))) (mSub (mVar 3) (mVar 7)) (mMeth isStrMV gLower (mSub (mVar 3) (mVar 7)) lNil)) (lCons (mSub (mVar 3) (mBin .Add (mVar 5) (mInt 1))) lNil))
noncomputable def cellIn : MS := sSeq (sSet 8 sizeE)
   (sSeq (sIf (tCmp2 .Lt .LtE (mBin .Sub (mVar 7) (mVar 8)) (mVar 6) (mVar 7)) (sSeq (sExpr (mMeth isListMV gAppend (mVar 4) (lCons itemE lNil)))
   sNil) sNil)
   sNil)
theorem tCmp2_eq {op op' : CmpOp} {m1 m2 m3 : ME} {a b c : MV} {r r' : Bool} {loc : Loc} {H : List MO} (e1 : m1 loc H = some (a, H)) (e2 : m2 loc H = some (b, H)) (e3 : m3 loc H = some (c, H)) (q1 : cmpMV op a b H = some r) (q2 : cmpMV op' b c H = some r') : tCmp2 op op' m1 m2 m3 loc H = some (r && r', H) := by
  unfold tCmp2
  simp only [e1, e2, q1]
  cases r with
  | false => rfl
  | true => simp only [e3, q2, Bool.true_and]
theorem cell_in {H : List MO} {P T D t p c : Nat} {I : List MV} {l8 l9 l10 l11 : Option MV} (hD : listOf H D = some I) (hI : I.length < 1000) (h0 : 0 < c) (hc : c < 16) (ht : t < 15) :
    ∃ l8' H', cellIn (l12 P T D (some (.int (t : Int))) (some (.int (p : Int))) (some (.int (c : Int))) l8 l9 l10 l11) H = some (.next, l12 P T D (some (.int (t : Int))) (some (.int (p : Int))) (some (.int (c : Int))) l8' l9 l10 l11, H') ∧
      listOf H' D = some (I ++ if inC c p = true then [entN t c] else []) ∧ Keep D H H' ∧ (∀ k o, k ≠ D → H[k]? = some o → H'[k]? = some o) := by
  obtain ⟨g, e1⟩ := size_eq (H := H) (P := P) (T := T) (D := D) (l5 := some (.int (t : Int))) (l6 := some (.int (p : Int))) (l8 := l8) (l9 := l9) (l10 := l10) (l11 := l11) h0 hc
  have hle := (divs_max c hc h0).2.2
  have hD1 := listOf_app hD g
  have k1 : Keep D H (H ++ g) := Keep.app g
  have o1 : ∀ k o, k ≠ D → H[k]? = some o → (H ++ g)[k]? = some o := fun k o _ q => get_app q g
  generalize H ++ g = H1 at *
  have e2 : tCmp2 .Lt .LtE (mBin .Sub (mVar 7) (mVar 8)) (mVar 6) (mVar 7) (l12 P T D (some (.int (t : Int))) (some (.int (p : Int))) (some (.int (c : Int))) (some (.int (lsbN c : Int))) l9 l10 l11) H1 = some (inC c p, H1) := by
    rw [tCmp2_eq (op := .Lt) (op' := .LtE) (a := .int ((c : Int) - (lsbN c : Int))) (b := .int (p : Int)) (c := .int (c : Int)) (loc := l12 P T D (some (.int (t : Int))) (some (.int (p : Int))) (some (.int (c : Int))) (some (.int (lsbN c : Int))) l9 l10 l11) rfl rfl rfl rfl rfl]
    congr 2
    unfold inC
    congr 1
    · rw [Bool.eq_iff_iff, decide_eq_true_eq, Nat.blt_eq]; omega
    · rw [Bool.eq_iff_iff, decide_eq_true_eq, Nat.ble_eq]; omega
  have start : cellIn (l12 P T D (some (.int (t : Int))) (some (.int (p : Int))) (some (.int (c : Int))) l8 l9 l10 l11) H = sSeq (sIf (tCmp2 .Lt .LtE (mBin .Sub (mVar 7) (mVar 8)) (mVar 6) (mVar 7)) (sSeq (sExpr (mMeth isListMV gAppend (mVar 4) (lCons itemE lNil))) sNil) sNil) sNil (l12 P T D (some (.int (t : Int))) (some (.int (p : Int))) (some (.int (c : Int))) (some (.int (lsbN c : Int))) l9 l10 l11) H1 := by
    unfold cellIn
    rw [sSeq_next (sSet_eq e1)]
    rfl
  rw [start]
  cases hb : inC c p with
  | false =>
    rw [hb] at e2
    refine ⟨some (.int (lsbN c : Int)), H1, sSeq_next (by rw [sIf_false e2]; rfl), by simpa using hD1, k1, o1⟩
  | true =>
    rw [hb] at e2
    have q1 : mSub (mVar 3) (mVar 7) (l12 P T D (some (.int (t : Int))) (some (.int (p : Int))) (some (.int (c : Int))) (some (.int (lsbN c : Int))) l9 l10 l11) H1 = some (.str [65 + c], H1) := mSub_eq (a := .str LT) (b := .int (c : Int)) (h1 := H1) rfl rfl (letter_at H1 c hc)
    have q2 := name_if2 (tm := mVar 5) (t := t) hc q1 rfl
    have q3 : mSub (mVar 3) (mBin .Add (mVar 5) (mInt 1)) (l12 P T D (some (.int (t : Int))) (some (.int (p : Int))) (some (.int (c : Int))) (some (.int (lsbN c : Int))) l9 l10 l11) H1 = some (.str [66 + t], H1) := by
      refine mSub_eq (a := .str LT) (b := .int ((t + 1 : Nat) : Int)) (h1 := H1) rfl rfl ?_
      rw [letter_at H1 (t + 1) (by omega), show 65 + (t + 1) = 66 + t by omega]
    have q4 : itemE (l12 P T D (some (.int (t : Int))) (some (.int (p : Int))) (some (.int (c : Int))) (some (.int (lsbN c : Int))) l9 l10 l11) H1 = some (entN t c, H1) := mTup_eq (lCons_eq q2 (lCons_eq q3 lNil_eq)) (by simp [few])
    have q5 : mMeth isListMV gAppend (mVar 4) (lCons itemE lNil) (l12 P T D (some (.int (t : Int))) (some (.int (p : Int))) (some (.int (c : Int))) (some (.int (lsbN c : Int))) l9 l10 l11) H1 = some (.none, H1.set D (.list (I ++ [entN t c]))) := by
      refine mMeth_eq (a := .ref D) (h1 := H1) rfl (by show (listOf H1 D).isSome = true; rw [hD1]; rfl) (lCons_eq q4 lNil_eq) ?_
      show (match listOf H1 D with | some xs => if xs.length < few then some (MV.none, H1.set D (.list (xs ++ [entN t c]))) else none | none => none) = _
      rw [hD1]
      simp only
      rw [if_pos (by unfold few; omega)]
    refine ⟨some (.int (lsbN c : Int)), H1.set D (.list (I ++ [entN t c])), ?_, ?_, k1.trans (Keep.set _), fun k o hk q => by rw [List.getElem?_set_ne (Ne.symm hk)]; exact o1 k o hk q⟩
    · refine sSeq_next (l1 := l12 P T D (some (.int (t : Int))) (some (.int (p : Int))) (some (.int (c : Int))) (some (.int (lsbN c : Int))) l9 l10 l11) (h1 := H1.set D (.list (I ++ [entN t c]))) ?_
      rw [sIf_true e2]
      exact sSeq_next (sExpr_eq q5)
    · rw [of_get (by rw [List.getElem?_set_self (lt_of_some (listOf_get hD1))])]
      simp
noncomputable def turnIn : MS := sSeq (sFor 4000 (.one 7) (iRange (lCons (mInt 1) (lCons (mInt 16) lNil))) cellIn sNil) sNil
theorem turn_in {H : List MO} {P T D t p : Nat} {I : List MV} {l7 l8 l9 l10 l11 : Option MV} (hD : listOf H D = some I) (hI : I.length < 900) (ht : t < 15) (hp : 0 < p ∧ p < 16) :
    ∃ l7' l8' H', turnIn (l12 P T D (some (.int (t : Int))) (some (.int (p : Int))) l7 l8 l9 l10 l11) H = some (.next, l12 P T D (some (.int (t : Int))) (some (.int (p : Int))) l7' l8' l9 l10 l11, H') ∧
      listOf H' D = some (I ++ (chainOf p).map (entN t)) ∧ Keep D H H' ∧ (∀ k o, k ≠ D → H[k]? = some o → H'[k]? = some o) := by
  obtain ⟨l', H', e, J⟩ := forGo_inv (t := .one 7) (body := cellIn) (feeds_rng (a := 1) (n := 15)) (fun _ => rfl)
    (fun m loc H1 => ∃ l7 l8, loc = l12 P T D (some (.int (t : Int))) (some (.int (p : Int))) l7 l8 l9 l10 l11 ∧ listOf H1 D = some (I ++ (((List.range m).map (· + 1)).filter (inC · p)).map (entN t)) ∧ Keep D H H1 ∧ (∀ k o, k ≠ D → H[k]? = some o → H1[k]? = some o)) (fun _ _ _ _ => trivial) (by
      rintro m hm loc H1 ⟨l7, l8, rfl, qD, qk, qo⟩
      have hm15 : m < 15 := by simpa using hm
      have hlen : ((((List.range m).map (· + 1)).filter (inC · p)).map (entN t)).length ≤ m := by
        rw [List.length_map]
        refine Nat.le_trans (List.length_filter_le _ _) ?_
        simp
      obtain ⟨l8', H2, e2, d2, k2, o2⟩ := cell_in (P := P) (T := T) (t := t) (p := p) (c := m + 1) (l8 := l8) (l9 := l9) (l10 := l10) (l11 := l11) qD (by rw [List.length_append]; omega) (by omega) (by omega) ht
      refine ⟨l12 P T D (some (.int (t : Int))) (some (.int (p : Int))) (some (.int ((m + 1 : Nat) : Int))) l8 l9 l10 l11, _, H2, ?_, e2, some (.int ((m + 1 : Nat) : Int)), l8', rfl, ?_, qk.trans k2, fun k o hk w => o2 k o hk (qo k o hk w)⟩
      · simp only [List.getElem_map, List.getElem_range]
        rw [show (1 : Int) + (m : Int) = ((m + 1 : Nat) : Int) by omega]
        rfl
      · rw [d2, List.range_succ, List.map_append, List.filter_append, List.map_append, List.append_assoc]
        congr 3
        show _ = (List.filter (inC · p) [m + 1]).map (entN t)
        rw [List.filter_cons, List.filter_nil]
        cases inC (m + 1) p <;> rfl) 4000 0 (l12 P T D (some (.int (t : Int))) (some (.int (p : Int))) l7 l8 l9 l10 l11) H (Nat.zero_le _) (by simp) ⟨l7, l8, rfl, by simpa using hD, Keep.refl, fun _ _ _ q => q⟩
  obtain ⟨l7', l8', rfl, qD, qk, qo⟩ := J
  simp only [List.length_map, List.length_range] at qD
  rw [← chain_filter p hp.2 hp.1] at qD
  refine ⟨l7', l8', H', ?_, qD, qk, qo⟩
  unfold turnIn
  have e1 : iRange (lCons (mInt 1) (lCons (mInt 16) lNil)) (l12 P T D (some (.int (t : Int))) (some (.int (p : Int))) l7 l8 l9 l10 l11) H = some (.rng (1 + ((0 : Nat) : Int)) (15 - 0), H) := rfl
  exact sSeq_next (by rw [sFor_next e1 e]; rfl)
end Mine
end
section
open PySem PySem.W PyProof.Rows PySem.Spec PySem.Calls
set_option linter.unusedVariables false
set_option maxRecDepth 100000
namespace Mine
noncomputable def enumV : Nat → List Nat → List MV
  | _, [] => []
  | t, p :: r => .tup [.int (t : Int), .int (p : Int)] :: enumV (t + 1) r
theorem enumV_eq : ∀ (t : Nat) (ps : List Nat), ((natL ps).mapIdx fun m x => MV.tup [.int ((m + t : Nat) : Int), x]) = enumV t ps
  | t, [] => rfl
  | t, p :: r => by
    show ((MV.int (p : Int) :: natL r).mapIdx fun m x => MV.tup [.int ((m + t : Nat) : Int), x]) = _
    rw [List.mapIdx_cons, Nat.zero_add]
    unfold enumV
    congr 1
    rw [← enumV_eq (t + 1) r]
    congr 1
    funext m x
    rw [show m + 1 + t = m + (t + 1) by omega]
noncomputable def pIn (s e : Nat) (x : MV) : Bool := match x with
  | .tup [_, .int p] => Nat.blt s p.toNat && Nat.ble p.toNat e
  | _ => false
noncomputable def eTurn (x : MV) : MV := match x with
  | .tup [.int t, _] => .str [66 + t.toNat]
  | _ => .none
theorem enumV_rng (s e : Nat) : ∀ (t : Nat) (ps : List Nat), ((enumV t ps).filter (pIn s e)).map eTurn = (rngFrom t ps s e).map fun t => .str [66 + t]
  | t, [] => rfl
  | t, p :: r => by
    have ih := enumV_rng s e (t + 1) r
    show ((MV.tup [.int (t : Int), .int (p : Int)] :: enumV (t + 1) r).filter (pIn s e)).map eTurn = ((match Nat.blt s p && Nat.ble p e with | true => [t] | false => []) ++ rngFrom (t + 1) r s e).map fun t => .str [66 + t]
    rw [List.filter_cons, List.map_append, ← ih]
    show List.map eTurn (if (Nat.blt s p && Nat.ble p e) = true then MV.tup [.int (t : Int), .int (p : Int)] :: (enumV (t + 1) r).filter (pIn s e) else (enumV (t + 1) r).filter (pIn s e)) = _
    cases Nat.blt s p && Nat.ble p e <;> rfl
theorem enumV_mem : ∀ {t : Nat} {ps : List Nat} {x : MV}, x ∈ enumV t ps → ∃ k p, k < t + ps.length ∧ p ∈ ps ∧ x = .tup [.int ((k : Nat) : Int), .int ((p : Nat) : Int)]
  | t, [], x, h => nomatch h
  | t, q :: r, x, h => by
    rcases List.mem_cons.mp h with rfl | h
    · exact ⟨t, q, by simp, List.mem_cons_self .., rfl⟩
    · obtain ⟨k, p, h1, h2, rfl⟩ := enumV_mem h
      exact ⟨k, p, by simp only [List.length_cons]; omega, List.mem_cons_of_mem _ h2, rfl⟩
theorem enumV_len : ∀ (t : Nat) (ps : List Nat), (enumV t ps).length = ps.length
  | _, [] => rfl
  | t, p :: r => by unfold enumV; rw [List.length_cons, List.length_cons, enumV_len]
noncomputable def rngE : ME := mComp 4000 (.two 1 2) (iEnum (lCons (mVar 1) lNil)) (tCmp2 .Lt .LtE (mVar 3) (mVar 2) (mBin .Add (mVar 3) (mVar 4))) (mSub (mVar 5) (mBin .Add (mVar 1) (mInt 1))) 3 [11, 8, 3]
theorem rngE_eq {H : List MO} {P T D a s z : Nat} {ps : List Nat} {l5 l6 l7 l10 : Option MV} (hP : listOf H P = some (natL ps)) (hl : ps.length ≤ 14) :
    rngE (l12 P T D l5 l6 l7 (some (.int (z : Int))) (some (.int (a : Int))) l10 (some (.int (s : Int)))) H = some (.ref H.length, H ++ [.list (rngV ps s (s + z))]) := by
  have F := feeds_enum (j := P) (xs := natL ps)
  have hx : ((natL ps).mapIdx fun m x => MV.tup [.int (m : Int), x]) = enumV 0 ps := by
    rw [← enumV_eq 0 ps]; rfl
  rw [hx] at F
  have := comp_gen (n := 4000) (t := .two 1 2) (mi := iEnum (lCons (mVar 1) lNil)) (mc := tCmp2 .Lt .LtE (mVar 3) (mVar 2) (mBin .Add (mVar 3) (mVar 4))) (me := mSub (mVar 5) (mBin .Add (mVar 1) (mInt 1))) (k := 3) (ci := [11, 8, 3]) (loc := l12 P T D l5 l6 l7 (some (.int (z : Int))) (some (.int (a : Int))) l10 (some (.int (s : Int)))) (hp := H) (hp1 := H) (p := pIn s (s + z)) (e := eTurn)
    (lo := fun x => match x with | .tup [a, b] => [none, some a, some b, some (.int (s : Int)), some (.int (z : Int)), some (.str LT)] | _ => []) F (iEnum_list (xs := natL ps) rfl hP) (fun acc => listOf_app hP _) (fun _ => rfl) (by rw [enumV_len]; omega) (by rw [enumV_len]; unfold few; omega)
    (fun x hx => by obtain ⟨k, p, _, _, rfl⟩ := enumV_mem hx; rfl) (fun x y l1 h => setT_two (by decide) h) (fun x hx acc => by
      obtain ⟨k, p, _, _, rfl⟩ := enumV_mem hx
      generalize H ++ [.list acc] = H1
      show tCmp2 .Lt .LtE (mVar 3) (mVar 2) (mBin .Add (mVar 3) (mVar 4)) [none, some (.int (k : Int)), some (.int (p : Int)), some (.int (s : Int)), some (.int (z : Int)), some (.str LT)] H1 = some (Nat.blt s p && Nat.ble p (s + z), H1)
      rw [tCmp2_eq (op := .Lt) (op' := .LtE) (a := .int (s : Int)) (b := .int (p : Int)) (c := .int ((s : Int) + (z : Int))) (loc := [none, some (.int (k : Int)), some (.int (p : Int)), some (.int (s : Int)), some (.int (z : Int)), some (.str LT)]) rfl rfl rfl rfl rfl]
      congr 2
      congr 1
      · rw [Bool.eq_iff_iff, decide_eq_true_eq, Nat.blt_eq]; omega
      · rw [Bool.eq_iff_iff, decide_eq_true_eq, Nat.ble_eq]; omega) (fun x hx _ acc => by
      obtain ⟨k, p, hk, _, rfl⟩ := enumV_mem hx
      generalize H ++ [.list acc] = H1
      show mSub (mVar 5) (mBin .Add (mVar 1) (mInt 1)) [none, some (.int (k : Int)), some (.int (p : Int)), some (.int (s : Int)), some (.int (z : Int)), some (.str LT)] H1 = some (.str [66 + k], H1)
      refine mSub_eq (a := .str LT) (b := .int ((k + 1 : Nat) : Int)) (h1 := H1) rfl rfl ?_
      rw [letter_at H1 (k + 1) (by omega), show 65 + (k + 1) = 66 + k by omega])
  rw [enumV_rng] at this
  exact this
noncomputable def askS (ps : List Nat) (a : Nat) (st : Nat × List MV) (s : Nat) : Nat × List MV := match Nat.ble (st.1 + s) a with
  | true => (st.1 + s, st.2 ++ rngV ps st.1 (st.1 + s))
  | false => st
theorem ask_fold (ps : List Nat) (a : Nat) : ∀ (l : List Nat) (st : Nat × List MV), (l.foldl (askS ps a) st).2 = st.2 ++ (cellsGo a l st.1).flatMap fun q => rngV ps q.1 (q.1 + q.2)
  | [], st => by simp [cellsGo]
  | s :: l, st => by
    rw [List.foldl_cons, ask_fold ps a l]
    have e : cellsGo a (s :: l) st.1 = (match Nat.ble (st.1 + s) a with | true => (st.1, s) :: cellsGo a l (st.1 + s) | false => cellsGo a l st.1) := rfl
    rw [e]
    unfold askS
    cases Nat.ble (st.1 + s) a with
    | true => simp only [List.flatMap_cons, List.append_assoc]
    | false => rfl
noncomputable def askA (ps : List Nat) (a m : Nat) : Nat × List MV := (([8, 4, 2, 1] : List Nat).take m).foldl (askS ps a) (0, [])
theorem askA_succ (ps : List Nat) (a : Nat) {m : Nat} (h : m < ([8, 4, 2, 1] : List Nat).length) : askA ps a (m + 1) = askS ps a (askA ps a m) ([8, 4, 2, 1] : List Nat)[m] := by
  unfold askA
  rw [List.take_succ_eq_append_getElem h, List.foldl_append]
  rfl
theorem rngFrom_len : ∀ (t : Nat) (ps : List Nat) (s e : Nat), (rngFrom t ps s e).length ≤ ps.length
  | _, [], _, _ => by simp [rngFrom]
  | t, p :: r, s, e => by
    have := rngFrom_len (t + 1) r s e
    unfold rngFrom
    rw [List.length_append, List.length_cons]
    cases Nat.blt s p && Nat.ble p e <;> simp <;> omega
theorem rngV_len (ps : List Nat) (s e : Nat) : (rngV ps s e).length ≤ ps.length := by
  unfold rngV; rw [List.length_map]; exact rngFrom_len 0 ps s e
theorem askS_len (ps : List Nat) (a : Nat) (st : Nat × List MV) (s : Nat) : (askS ps a st s).2.length ≤ st.2.length + ps.length := by
  unfold askS
  split
  · have := rngV_len ps st.1 (st.1 + s)
    rw [List.length_append]; omega
  · omega
theorem askA_len (ps : List Nat) (a : Nat) : ∀ m, m < 5 → (askA ps a m).2.length ≤ m * ps.length
  | 0, _ => by simp [askA]
  | m + 1, h => by
    have h1 := askA_len ps a m (by omega)
    have hm : m < ([8, 4, 2, 1] : List Nat).length := by simp only [List.length_cons, List.length_nil]; omega
    have h2 := askS_len ps a (askA ps a m) ([8, 4, 2, 1] : List Nat)[m]
    rw [askA_succ ps a hm, Nat.succ_mul]
    omega
noncomputable def askBody : MS := sSeq (sIf (tCmp .GtE (mBin .Sub (mVar 9) (mVar 11)) (mVar 8)) (sSeq (sExpr (mMeth isListMV gExtend (mVar 10) (lCons rngE lNil)))
   (sSeq (sAug .Add 11 (mVar 8))
   sNil)) sNil)
   sNil
theorem ask_body {H : List MO} {P T D W a z : Nat} {ps : List Nat} {st : Nat × List MV} {l5 l6 l7 : Option MV} (hP : listOf H P = some (natL ps)) (hl : ps.length ≤ 14) (hW : listOf H W = some st.2) (hWl : st.2.length < 1000) :
    ∃ H', askBody (l12 P T D l5 l6 l7 (some (.int (z : Int))) (some (.int (a : Int))) (some (.ref W)) (some (.int (st.1 : Int)))) H = some (.next, l12 P T D l5 l6 l7 (some (.int (z : Int))) (some (.int (a : Int))) (some (.ref W)) (some (.int ((askS ps a st z).1 : Int))), H') ∧
      listOf H' W = some (askS ps a st z).2 ∧ Keep W H H' ∧ (∀ k o, k ≠ W → H[k]? = some o → H'[k]? = some o) := by
  have e1 : tCmp .GtE (mBin .Sub (mVar 9) (mVar 11)) (mVar 8) (l12 P T D l5 l6 l7 (some (.int (z : Int))) (some (.int (a : Int))) (some (.ref W)) (some (.int (st.1 : Int)))) H = some (decide ((z : Int) ≤ (a : Int) - (st.1 : Int)), H) := rfl
  have eb : decide ((z : Int) ≤ (a : Int) - (st.1 : Int)) = Nat.ble (st.1 + z) a := by
    rw [Bool.eq_iff_iff, decide_eq_true_eq, Nat.ble_eq]; omega
  rw [eb] at e1
  unfold askS askBody
  cases hb : Nat.ble (st.1 + z) a with
  | false =>
    rw [hb] at e1
    exact ⟨H, sSeq_next (by rw [sIf_false e1]; rfl), hW, Keep.refl, fun _ _ _ q => q⟩
  | true =>
    rw [hb] at e1
    have e2 := rngE_eq (T := T) (D := D) (a := a) (s := st.1) (z := z) (l5 := l5) (l6 := l6) (l7 := l7) (l10 := some (.ref W)) hP hl
    have hv := rngV_len ps st.1 (st.1 + z)
    have e3 : mMeth isListMV gExtend (mVar 10) (lCons rngE lNil) (l12 P T D l5 l6 l7 (some (.int (z : Int))) (some (.int (a : Int))) (some (.ref W)) (some (.int (st.1 : Int)))) H = some (.none, (H ++ [MO.list (rngV ps st.1 (st.1 + z))]).set W (.list (st.2 ++ rngV ps st.1 (st.1 + z)))) :=
      mMeth_eq (a := .ref W) (h1 := H) rfl (by show (listOf H W).isSome = true; rw [hW]; rfl) (lCons_eq e2 lNil_eq) (extend_eq (listOf_app hW _) (listOf_end _ _) (by unfold few; omega))
    refine ⟨(H ++ [MO.list (rngV ps st.1 (st.1 + z))]).set W (.list (st.2 ++ rngV ps st.1 (st.1 + z))), ?_, ?_, (Keep.app _).trans (Keep.set _), fun k o hk q => by rw [List.getElem?_set_ne (Ne.symm hk)]; exact get_app q _⟩
    · refine sSeq_next (l1 := l12 P T D l5 l6 l7 (some (.int (z : Int))) (some (.int (a : Int))) (some (.ref W)) (some (.int ((st.1 + z : Nat) : Int)))) (h1 := (H ++ [MO.list (rngV ps st.1 (st.1 + z))]).set W (.list (st.2 ++ rngV ps st.1 (st.1 + z)))) ?_
      rw [sIf_true e1, sSeq_next (sExpr_eq e3)]
      rfl
    · exact of_get (by rw [List.getElem?_set_self (by have := lt_of_some (listOf_get hW); rw [List.length_append]; omega)])
theorem eqA_strs (x : List Nat) : eqA (.str x) (.str x) = some true := by
  show some (x == x) = some true
  simp
theorem eqAll_self {P : MV → Prop} (hP : ∀ x, P x → eqT x x = some true) : ∀ l : List MV, (∀ x ∈ l, P x) → eqAll eqT l l = some true
  | [], _ => rfl
  | x :: l, h => by
    show (match eqT x x with | none => none | some a => match eqAll eqT l l with | none => none | some b => some (a && b)) = _
    rw [eqAll_self hP l fun y hy => h y (List.mem_cons_of_mem _ hy), hP x (h x (List.mem_cons_self ..))]
    rfl
theorem eqT_str {x : MV} (h : ∃ s, x = .str s) : eqT x x = some true := by
  obtain ⟨s, rfl⟩ := h; exact eqA_strs s
theorem eqT_hdr {x : MV} (h : hdrOk x) : eqT x x = some true := by
  obtain ⟨k, v, rfl, _⟩ := h
  show (match eqA (.str k) (.str k) with | none => none | some a => match (match eqA (.str v) (.str v) with | none => none | some a => some (a && true)) with | none => none | some b => some (a && b)) = _
  rw [eqA_strs, eqA_strs]; rfl
theorem eqT_int {x : MV} (h : ∃ n : Nat, x = .int (n : Int)) : eqT x x = some true := by
  obtain ⟨n, rfl⟩ := h
  show some ((n : Int) == (n : Int)) = some true
  simp
noncomputable def askLoop (sns : List Int) : MS := sSeq (sSet 10 (mList lNil))
   (sSeq (sSet 11 (mInt 0))
   (sSeq (sFor 4000 (.one 8) (iVal (mList (lCons (mInt 8) (lCons (mInt 4) (lCons (mInt 2) (lCons (mInt 1) lNil)))))) askBody sNil)
   (sSeq (sIf (tCmp .NotEq (mCall (f_upto1 sns) (lCons (mVar 2) (lCons (mVar 9) lNil))) (mVar 10)) (sSeq (sRet (mBool false))
   sNil) sNil)
   sNil)))
theorem ask_loop {sns : List Int} {H : List MO} {P T D a d j : Nat} {ps : List Nat} {l5 l6 l7 l8 l10 l11 : Option MV} (h : TH H T d j (itemsFrom 0 ps)) (hP : listOf H P = some (natL ps)) (hps : ∀ p ∈ ps, 0 < p ∧ p < 16) (hl : ps.length ≤ 14) (ha : a < 16) :
    ∃ l8' l10' l11' H', askLoop sns (l12 P T D l5 l6 l7 l8 (some (.int (a : Int))) l10 l11) H = some (.next, l12 P T D l5 l6 l7 l8' (some (.int (a : Int))) l10' l11', H') ∧ TH H' T d j (itemsFrom 0 ps) ∧ listOf H' P = some (natL ps) := by
  obtain ⟨b1, b2, b3⟩ := h.lt
  have bP := lt_of_some (listOf_get hP)
  have e1 : mList lNil (l12 P T D l5 l6 l7 l8 (some (.int (a : Int))) l10 l11) H = some (.ref H.length, H ++ [.list []]) := mList_eq rfl (by simp)
  have hW := listOf_end H []
  have hP1 := listOf_app hP [.list []]
  have h1 := h.app [.list []]
  have hlen : (H ++ [MO.list []]).length = H.length + 1 := by simp
  generalize hH1 : H ++ [.list []] = H1 at *
  have e2 : iVal (mList (lCons (mInt 8) (lCons (mInt 4) (lCons (mInt 2) (lCons (mInt 1) lNil))))) (l12 P T D l5 l6 l7 l8 (some (.int (a : Int))) (some (.ref H.length)) (some (.int 0))) H1 = some (.list H1.length 0, H1 ++ [.list (natL [8, 4, 2, 1])]) :=
    iVal_list (mList_eq (vs := natL [8, 4, 2, 1]) rfl (by simp [natL, few])) (listOf_end _ _)
  have hS := listOf_end H1 (natL [8, 4, 2, 1])
  have hW2 := listOf_app hW [.list (natL [8, 4, 2, 1])]
  have hP2 := listOf_app hP1 [.list (natL [8, 4, 2, 1])]
  have h2 := h1.app [.list (natL [8, 4, 2, 1])]
  generalize hS1 : H1.length = S at *
  generalize H1 ++ [.list (natL [8, 4, 2, 1])] = H2 at *
  obtain ⟨l', H3, e3, J⟩ := forGo_inv (t := .one 8) (body := askBody) (feeds_list (j := S) (xs := natL [8, 4, 2, 1])) (fun _ => rfl)
    (fun m loc H' => ∃ l8, loc = l12 P T D l5 l6 l7 l8 (some (.int (a : Int))) (some (.ref H.length)) (some (.int ((askA ps a m).1 : Int))) ∧ TH H' T d j (itemsFrom 0 ps) ∧ listOf H' P = some (natL ps) ∧ listOf H' H.length = some (askA ps a m).2 ∧ listOf H' S = some (natL [8, 4, 2, 1])) (fun m loc H ⟨_, _, _, _, _, q⟩ => q) (by
      rintro m hm loc H' ⟨l8, rfl, q, qP, qW, qS⟩
      have hm' : m < ([8, 4, 2, 1] : List Nat).length := hm
      have hm4 : m < 4 := by simpa using hm'
      have hal := askA_len ps a m (by omega)
      have hmul : m * ps.length ≤ 4 * 14 := Nat.mul_le_mul (by omega) hl
      obtain ⟨H4, e, w, kp, ko⟩ := ask_body (T := T) (D := D) (a := a) (z := ([8, 4, 2, 1] : List Nat)[m]) (st := askA ps a m) (l5 := l5) (l6 := l6) (l7 := l7) qP hl qW (by omega)
      refine ⟨l12 P T D l5 l6 l7 (some (.int (([8, 4, 2, 1] : List Nat)[m] : Int))) (some (.int (a : Int))) (some (.ref H.length)) (some (.int ((askA ps a m).1 : Int))), _, H4, by simp only [natL, List.getElem_map]; rfl, e, some (.int (([8, 4, 2, 1] : List Nat)[m] : Int)), ?_, ⟨ko _ _ (by omega) q.ins, ko _ _ (by omega) q.dic, kp _ _ (by omega) q.tab⟩, kp _ _ (by omega) qP, ?_, kp _ _ (by omega) qS⟩
      · rw [askA_succ ps a hm']
      · rw [askA_succ ps a hm']; exact w) 4000 0 (l12 P T D l5 l6 l7 l8 (some (.int (a : Int))) (some (.ref H.length)) (some (.int 0))) H2 (Nat.zero_le _) (by decide) ⟨l8, rfl, h2, hP2, hW2, hS⟩
  obtain ⟨l8', rfl, q3, qP3, qW3, _⟩ := J
  have efold : (askA ps a (natL [8, 4, 2, 1]).length).2 = toldV ps a := by
    show (([8, 4, 2, 1] : List Nat).foldl (askS ps a) (0, [])).2 = _
    rw [ask_fold]
    rfl
  rw [efold, told_upto hps ha] at qW3
  obtain ⟨H4, e4, q4, r4, k4⟩ := upto_eq (sns := sns) q3 hps hl ha
  have e5 : tCmp .NotEq (mCall (f_upto1 sns) (lCons (mVar 2) (lCons (mVar 9) lNil))) (mVar 10) (l12 P T D l5 l6 l7 l8' (some (.int (a : Int))) (some (.ref H.length)) (some (.int ((askA ps a (natL [8, 4, 2, 1]).length).1 : Int)))) H3 = some (false, H4) := by
    refine tCmp_eq (op := .NotEq) (b := .ref H.length) (h2 := H4) (mCall_eq (vs := [.ref T, .int (a : Int)]) (h1 := H3) rfl e4) rfl ?_
    show (eqV (.ref H3.length) (.ref H.length) H4).map not = _
    rw [eq_lists r4 (k4 _ _ qW3), if_pos rfl, eqAll_self (P := fun x => ∃ s, x = .str s) (fun x hx => eqT_str hx)]
    · rfl
    · intro x hx
      unfold uptoV hitV at hx
      obtain ⟨k, _, hx⟩ := List.mem_flatMap.mp hx
      obtain ⟨t, _, rfl⟩ := List.mem_map.mp hx
      exact ⟨_, rfl⟩
  refine ⟨l8', some (.ref H.length), some (.int ((askA ps a (natL [8, 4, 2, 1]).length).1 : Int)), H4, ?_, q4, k4 _ _ qP3⟩
  unfold askLoop
  rw [sSeq_next (sSet_eq e1)]
  rw [sSeq_next (sSet_eq (v := .int 0) (h1 := H1) rfl)]
  show sSeq (sFor 4000 (.one 8) _ askBody sNil) _ (l12 P T D l5 l6 l7 l8 (some (.int (a : Int))) (some (.ref H.length)) (some (.int 0))) H1 = _
  rw [sSeq_next (by rw [sFor_next e2 e3]; rfl)]
  exact sSeq_next (by rw [sIf_false e5]; rfl)
end Mine
end
section
open PySem PySem.W PyProof.Rows PySem.Spec PySem.Calls
set_option linter.unusedVariables false
set_option maxRecDepth 100000
namespace Mine
noncomputable def drawn5 (sns : List Int) : List Int := sns.take 5 ++ [4, 0, 10, 7, 12].drop sns.length
theorem drawn5_len (sns : List Int) : (drawn5 sns).length = 5 := by
  unfold drawn5
  rw [List.length_append, List.length_take, List.length_drop]
  simp only [List.length_cons, List.length_nil]
  omega
noncomputable def psOf (sns : List Int) : List Nat := (drawn5 sns).map fun v => 1 + fmodN v 15
theorem psOf_len (sns : List Int) : (psOf sns).length = 5 := by unfold psOf; rw [List.length_map, drawn5_len]
theorem psOf_ok (sns : List Int) : ∀ p ∈ psOf sns, 0 < p ∧ p < 16 := by
  intro p hp
  obtain ⟨v, _, rfl⟩ := List.mem_map.mp hp
  have := (fmodN_ok v (n := 15) (by decide)).2
  omega
noncomputable def placesE (sns : List Int) : ME := mBin .Add (mCut sns (mVar 0) pNone (pInt (mInt 5)) pNone) (mCut sns (mList (lCons (mInt 4) (lCons (mInt 0) (lCons (mInt 10) (lCons (mInt 7) (lCons (mInt 12) lNil)))))) (pInt (mCall (gLen sns) (lCons (mVar 0) lNil))) pNone pNone)
noncomputable def loS : Loc := [some .script, none, none, none, none, none, none, none, none, none, none, none]
noncomputable def eMod (x : MV) : MV := match x with
  | .int v => .int (1 + v.fmod 15)
  | _ => .none
theorem eMod_map : ∀ vs : List Int, (intL vs).map eMod = natL (vs.map fun v => 1 + fmodN v 15)
  | [] => rfl
  | v :: vs => by
    show MV.int (1 + v.fmod 15) :: (intL vs).map eMod = _
    have := (fmodN_ok v (n := 15) (by decide)).1
    rw [eMod_map vs, show v.fmod 15 = v.fmod ((15 : Nat) : Int) from rfl, this, show (1 : Int) + (fmodN v 15 : Int) = ((1 + fmodN v 15 : Nat) : Int) by omega]
    rfl
theorem places_st (sns : List Int) : ∃ a b c d, mComp 4000 (.one 1) (iVal (placesE sns)) tTrue (mBin .Add (mInt 1) (mBin .Mod (mVar 1) (mInt 15))) 2 [] loS [] = some (.ref 4, [a, b, c, d, .list (natL (psOf sns))]) := by
  have c1 : mCut sns (mVar 0) pNone (pInt (mInt 5)) pNone loS [] = some (.ref 0, [.list (intL (sns.take 5))]) := by
    show some (MV.ref 0, [MO.list (pickL (intL sns) none (some ((5 : Nat) : Int)) none)]) = _
    rw [pickL_take, intL_take]
  have c2 : mCut sns (mList (lCons (mInt 4) (lCons (mInt 0) (lCons (mInt 10) (lCons (mInt 7) (lCons (mInt 12) lNil)))))) (pInt (mCall (gLen sns) (lCons (mVar 0) lNil))) pNone pNone loS [.list (intL (sns.take 5))] = some (.ref 2, [.list (intL (sns.take 5)), .list (intL [4, 0, 10, 7, 12]), .list (intL ([4, 0, 10, 7, 12].drop sns.length))]) := by
    show some (MV.ref 2, [MO.list (intL (sns.take 5)), MO.list (intL [4, 0, 10, 7, 12]), MO.list (pickL (intL [4, 0, 10, 7, 12]) (some (sns.length : Int)) none none)]) = _
    rw [pickL_drop, intL_drop]
  have c3 : placesE sns loS [] = some (.ref 3, [.list (intL (sns.take 5)), .list (intL [4, 0, 10, 7, 12]), .list (intL ([4, 0, 10, 7, 12].drop sns.length)), .list (intL (drawn5 sns))]) := by
    refine mBin_eq c1 c2 ?_
    show (if (intL (sns.take 5)).length + (intL ([4, 0, 10, 7, 12].drop sns.length)).length ≤ few then some (MV.ref 3, [MO.list (intL (sns.take 5)), MO.list (intL [4, 0, 10, 7, 12]), MO.list (intL ([4, 0, 10, 7, 12].drop sns.length)), MO.list (intL (sns.take 5) ++ intL ([4, 0, 10, 7, 12].drop sns.length))]) else none) = _
    rw [if_pos (by rw [intL_len, intL_len, ← List.length_append]; show (drawn5 sns).length ≤ few; rw [drawn5_len]; simp [few]), intL_app]
    rfl
  have c4 : iVal (placesE sns) loS [] = some (.list 3 0, [.list (intL (sns.take 5)), .list (intL [4, 0, 10, 7, 12]), .list (intL ([4, 0, 10, 7, 12].drop sns.length)), .list (intL (drawn5 sns))]) := iVal_list c3 rfl
  have := comp_map (n := 4000) (i := 1) (me := mBin .Add (mInt 1) (mBin .Mod (mVar 1) (mInt 15))) (k := 2) (ci := []) (e := eMod) (feeds_list (j := 3) (xs := intL (drawn5 sns))) c4 (fun _ => rfl) (fun _ => rfl) (by rw [intL_len, drawn5_len]; decide) (by rw [intL_len, drawn5_len]; decide) (fun x hx acc => by
    obtain ⟨v, _, rfl⟩ := List.mem_map.mp hx
    rfl)
  rw [eMod_map] at this
  exact ⟨_, _, _, _, this⟩
theorem turns_st {H : List MO} {T D d j : Nat} {ps : List Nat} (h : TH H T d j (itemsFrom 0 ps)) (hP : listOf H 4 = some (natL ps)) (hps : ∀ p ∈ ps, 0 < p ∧ p < 16) (hl : ps.length ≤ 14) (hD : listOf H D = some []) (n1 : D ≠ T) (n2 : D ≠ d) (n3 : D ≠ j) (n4 : D ≠ 4) :
    ∃ l5 l6 l7 l8 H', sFor 4000 (.two 5 6) (iEnum (lCons (mVar 1) lNil)) turnIn sNil (l12 4 T D none none none none none none none) H = some (.next, l12 4 T D l5 l6 l7 l8 none none none, H') ∧ TH H' T d j (itemsFrom 0 ps) ∧ listOf H' 4 = some (natL ps) ∧ listOf H' D = some (itemsFrom 0 ps) := by
  obtain ⟨l', H', e2, I⟩ := forGo_inv (t := .two 5 6) (body := turnIn) (feeds_enum (j := 4) (xs := natL ps)) (fun _ => rfl)
    (fun m loc H => ∃ l5 l6 l7 l8, loc = l12 4 T D l5 l6 l7 l8 none none none ∧ TH H T d j (itemsFrom 0 ps) ∧ listOf H 4 = some (natL ps) ∧ listOf H D = some (itemsFrom 0 (ps.take m))) (fun m loc H ⟨_, _, _, _, _, _, q, _⟩ => q) (by
      rintro m hm loc H ⟨l5, l6, l7, l8, rfl, q, qP, qD⟩
      have hm' : m < ps.length := by simpa [natL] using hm
      have hp1 := hps _ (List.getElem_mem hm')
      have hlen := itemsFrom_len 0 (ps.take m) fun p hp => hps p (List.mem_of_mem_take hp)
      have hmin : (ps.take m).length = m := by rw [List.length_take]; omega
      obtain ⟨l7', l8', H2, e, d2, k2, o2⟩ := turn_in (P := 4) (T := T) (t := m) (p := ps[m]) (l7 := l7) (l8 := l8) (l9 := none) (l10 := none) (l11 := none) qD (by omega) (by omega) hp1
      refine ⟨l12 4 T D (some (.int (m : Int))) (some (.int (ps[m] : Int))) l7 l8 none none none, _, H2, by rw [enum_at hm hm']; rfl, e, _, _, l7', l8', rfl, ⟨o2 _ _ (Ne.symm n1) q.ins, o2 _ _ (Ne.symm n2) q.dic, k2 _ _ (Ne.symm n3) q.tab⟩, k2 _ _ (Ne.symm n4) qP, ?_⟩
      rw [d2, List.take_succ_eq_append_getElem hm', itemsFrom_snoc, hmin, Nat.zero_add]) 4000 0 (l12 4 T D none none none none none none none) H (Nat.zero_le _) (by simp [natL]; omega) ⟨none, none, none, none, rfl, h, hP, hD⟩
  obtain ⟨l5, l6, l7, l8, rfl, q, qP, qD⟩ := I
  have hnl : ((natL ps).mapIdx fun m x => MV.tup [.int (m : Int), x]).length = ps.length := by simp [natL]
  rw [hnl, List.take_length] at qD
  refine ⟨l5, l6, l7, l8, H', ?_, q, qP, qD⟩
  rw [sFor_next (iEnum_list (xs := natL ps) rfl hP) e2]
  rfl
theorem asks_st {sns : List Int} {H : List MO} {T D d j : Nat} {ps : List Nat} {l5 l6 l7 l8 : Option MV} (h : TH H T d j (itemsFrom 0 ps)) (hP : listOf H 4 = some (natL ps)) (hps : ∀ p ∈ ps, 0 < p ∧ p < 16) (hl : ps.length ≤ 14) :
    ∃ l8' l9 l10 l11 H', sFor 4000 (.one 9) (iRange (lCons (mInt 16) lNil)) (askLoop sns) sNil (l12 4 T D l5 l6 l7 l8 none none none) H = some (.next, l12 4 T D l5 l6 l7 l8' l9 l10 l11, H') ∧ TH H' T d j (itemsFrom 0 ps) ∧ listOf H' 4 = some (natL ps) := by
  obtain ⟨l', H', e2, I⟩ := forGo_inv (t := .one 9) (body := askLoop sns) (feeds_rng (a := 0) (n := 16)) (fun _ => rfl)
    (fun m loc H => ∃ l8 l9 l10 l11, loc = l12 4 T D l5 l6 l7 l8 l9 l10 l11 ∧ TH H T d j (itemsFrom 0 ps) ∧ listOf H 4 = some (natL ps)) (fun _ _ _ _ => trivial) (by
      rintro m hm loc H ⟨l8, l9, l10, l11, rfl, q, qP⟩
      have hm16 : m < 16 := by simpa using hm
      obtain ⟨l8', l10', l11', H2, e, q2, p2⟩ := ask_loop (sns := sns) (D := D) (a := m) (l5 := l5) (l6 := l6) (l7 := l7) (l8 := l8) (l10 := l10) (l11 := l11) q qP hps hl hm16
      refine ⟨l12 4 T D l5 l6 l7 l8 (some (.int (m : Int))) l10 l11, _, H2, ?_, e, l8', _, l10', l11', rfl, q2, p2⟩
      simp only [List.getElem_map, List.getElem_range]
      rw [show (0 : Int) + (m : Int) = (m : Int) by omega]
      rfl) 4000 0 (l12 4 T D l5 l6 l7 l8 none none none) H (Nat.zero_le _) (by simp) ⟨l8, none, none, none, rfl, h, hP⟩
  obtain ⟨l8', l9, l10, l11, rfl, q, qP⟩ := I
  refine ⟨l8', l9, l10, l11, H', ?_, q, qP⟩
  have e1 : iRange (lCons (mInt 16) lNil) (l12 4 T D l5 l6 l7 l8 none none none) H = some (.rng (0 + ((0 : Nat) : Int)) (16 - 0), H) := rfl
  rw [sFor_next e1 e2]
  rfl
noncomputable def lastE (sns : List Int) : ME := mComp 4000 (.one 1) (iRange (lCons (mCall (gLen sns) (lCons (mVar 1) lNil)) lNil)) tTrue (mBin .Add (mCall (f_reached1 sns) (lCons (mVar 2) (lCons (mBin .Add (mVar 1) (mInt 1)) lNil))) (mInt 1)) 2 [2]
theorem last_st {sns : List Int} {H : List MO} {T D d j : Nat} {ps : List Nat} {l5 l6 l7 l8 l9 l10 l11 : Option MV} (h : TH H T d j (itemsFrom 0 ps)) (hP : listOf H 4 = some (natL ps)) (hps : ∀ p ∈ ps, 0 < p ∧ p < 16) (hl : ps.length ≤ 14) :
    ∃ H', lastE sns (l12 4 T D l5 l6 l7 l8 l9 l10 l11) H = some (.ref H.length, H') ∧ listOf H' H.length = some (natL ((List.range ps.length).map fun t => (reachA ps (t + 1) 4).1 + 1)) ∧ listOf H' 4 = some (natL ps) := by
  obtain ⟨b1, b2, b3⟩ := h.lt
  have b4 := lt_of_some (listOf_get hP)
  have e1 : iRange (lCons (mCall (gLen sns) (lCons (mVar 1) lNil)) lNil) (l12 4 T D l5 l6 l7 l8 l9 l10 l11) H = some (.rng (0 + ((0 : Nat) : Int)) (ps.length - 0), H) := by
    have q : lCons (mCall (gLen sns) (lCons (mVar 1) lNil)) lNil (l12 4 T D l5 l6 l7 l8 l9 l10 l11) H = some ([.int (ps.length : Int)], H) := lCons_eq (mCall_eq (vs := [.ref 4]) (h1 := H) rfl (by rw [len_list hP (by rw [ints_len]; unfold few; omega), ints_len])) lNil_eq
    unfold iRange
    rw [q]
    show (match (if (ps.length : Int).natAbs < 1000000 then some (It.rng 0 (ps.length : Int).toNat) else none) with | none => none | some it => some (it, H)) = _
    rw [if_pos (by omega)]
    rfl
  obtain ⟨H', e2, I⟩ := compGo_inv (t := .one 1) (me := mBin .Add (mCall (f_reached1 sns) (lCons (mVar 2) (lCons (mBin .Add (mVar 1) (mInt 1)) lNil))) (mInt 1)) (D := H.length) (L := [none, none, some (.ref T)]) (lo := fun x => [none, some x, some (.ref T)]) (feeds_rng (a := 0) (n := ps.length)) (fun _ => rfl) (fun x _ => rfl) (fun x y l1 h => setT_one h)
    (fun m H' => TH H' T d j (itemsFrom 0 ps) ∧ listOf H' 4 = some (natL ps) ∧ listOf H' H.length = some (natL ((List.range m).map fun t => (reachA ps (t + 1) 4).1 + 1))) (fun _ _ _ => trivial) (by
      rintro m hm H1 ⟨q, qP, qD⟩
      have hm' : m < ps.length := by simpa using hm
      have ex : ((List.range ps.length).map fun (i : Nat) => MV.int (0 + (i : Int)))[m]'hm = .int (m : Int) := by
        simp only [List.getElem_map, List.getElem_range]
        rw [show (0 : Int) + (m : Int) = (m : Int) by omega]
      obtain ⟨H2, e, q2, k2⟩ := reached_eq (sns := sns) (cnt := m + 1) q hps hl
      have em : mBin .Add (mCall (f_reached1 sns) (lCons (mVar 2) (lCons (mBin .Add (mVar 1) (mInt 1)) lNil))) (mInt 1) [none, some (.int (m : Int)), some (.ref T)] H1 = some (.int (((reachA ps (m + 1) 4).1 + 1 : Nat) : Int), H2) :=
        mBin_eq (b := .int 1) (h2 := H2) (mCall_eq (vs := [.ref T, .int ((m + 1 : Nat) : Int)]) (h1 := H1) rfl e) rfl rfl
      have hD2 := k2 _ _ qD
      refine ⟨_, H2, .none, H2.set H.length (.list (natL ((List.range m).map fun t => (reachA ps (t + 1) 4).1 + 1) ++ [.int (((reachA ps (m + 1) 4).1 + 1 : Nat) : Int)])), by simp only [ex]; exact em, ?_, q2.other _ (by omega) (by omega) (by omega), by rw [listOf_set (by omega)]; exact k2 _ _ qP, ?_⟩
      · show (match listOf H2 H.length with | some xs => if xs.length < few then some (MV.none, H2.set H.length (.list (xs ++ [_]))) else none | none => none) = _
        rw [hD2]
        simp only
        rw [if_pos (by rw [ints_len, List.length_map, List.length_range]; unfold few; omega)]
      · rw [of_get (by rw [List.getElem?_set_self (lt_of_some (listOf_get hD2))]), List.range_succ, List.map_append, ← natL_app]
        rfl) 4000 0 [none, none, some (.ref T)] (H ++ [.list []]) (fun _ => rfl) (Nat.zero_le _) (by simp; omega) ⟨h.app _, listOf_app hP _, listOf_end H []⟩
  obtain ⟨_, qP, qD⟩ := I
  simp only [List.length_map, List.length_range] at qD
  refine ⟨H', ?_, qD, qP⟩
  unfold lastE mComp
  rw [e1]
  simp only
  rw [show compLoc 2 [2] (l12 4 T D l5 l6 l7 l8 l9 l10 l11) = [none, none, some (.ref T)] from rfl, e2]
set_option maxHeartbeats 4000000 in
theorem law_all (sns : List Int) : ∃ hp', f_law1 sns [.script] [] = some (.bool true, hp') := by
  have hps := psOf_ok sns
  have hl : (psOf sns).length ≤ 14 := by rw [psOf_len]; decide
  obtain ⟨o0, o1, o2, o3, e1⟩ := places_st sns
  generalize psOf sns = ps at *
  have hP1 : listOf [o0, o1, o2, o3, .list (natL ps)] 4 = some (natL ps) := rfl
  obtain ⟨H2, T, d, j, e2, q2, k2⟩ := table_eq (sns := sns) hP1 hps hl
  have hP2 := k2 _ _ hP1
  obtain ⟨b1, b2, b3⟩ := q2.lt
  have b4 := lt_of_some (listOf_get hP2)
  have e4 : mList lNil [some .script, some (.ref 4), some (.ref T), some (.str LT), none, none, none, none, none, none, none, none] H2 = some (.ref H2.length, H2 ++ [.list []]) := mList_eq rfl (by simp)
  obtain ⟨l5, l6, l7, l8, H4, e5, q4, hP4, hD4⟩ := turns_st (T := T) (D := H2.length) (q2.app [.list []]) (listOf_app hP2 _) hps hl (listOf_end H2 []) (by omega) (by omega) (by omega) (by omega)
  have hil := itemsFrom_len 0 ps hps
  have e6 := items_eq (sns := sns) q4.ins q4.dic q4.tab (by omega)
  have e6' : tCmp .NotEq (mOwn 182 (f_H_items sns) (mVar 2) lNil) (mVar 4) (l12 4 T H2.length l5 l6 l7 l8 none none none) H4 = some (false, H4 ++ [.list (itemsFrom 0 ps)]) := by
    have w1 : mOwn 182 (f_H_items sns) (mVar 2) lNil (l12 4 T H2.length l5 l6 l7 l8 none none none) H4 = some (.ref H4.length, H4 ++ [.list (itemsFrom 0 ps)]) := mOwn_eq (a := .ref T) (vs := []) (h1 := H4) rfl (inst_of q4.ins q4.dic) rfl e6
    have w2 : mVar 4 (l12 4 T H2.length l5 l6 l7 l8 none none none) (H4 ++ [.list (itemsFrom 0 ps)]) = some (.ref H2.length, H4 ++ [.list (itemsFrom 0 ps)]) := rfl
    refine tCmp_eq (op := .NotEq) w1 w2 ?_
    show (eqV (.ref H4.length) (.ref H2.length) (H4 ++ [.list (itemsFrom 0 ps)])).map not = _
    rw [eq_lists (listOf_end H4 _) (listOf_app hD4 _), if_pos rfl, eqAll_self (fun x hx => eqT_hdr hx) _ (items_hdr 0 ps hps (by omega))]
    rfl
  obtain ⟨l8', l9, l10, l11, H5, e7, q5, hP5⟩ := asks_st (sns := sns) (D := H2.length) (l5 := l5) (l6 := l6) (l7 := l7) (l8 := l8) (q4.app [.list (itemsFrom 0 ps)]) (listOf_app hP4 _) hps hl
  obtain ⟨H6, e8, r6, hP6⟩ := last_st (sns := sns) (D := H2.length) (l5 := l5) (l6 := l6) (l7 := l7) (l8 := l8') (l9 := l9) (l10 := l10) (l11 := l11) q5 hP5 hps hl
  rw [reach_sorted hps] at r6
  have e9 := sorted_nat hP6 (by omega)
  have e10 : mCmp .Eq (lastE sns) (mCall gSorted (lCons (mVar 1) lNil)) (l12 4 T H2.length l5 l6 l7 l8' l9 l10 l11) H5 = some (.bool true, H6 ++ [.list (natL (sN ps))]) := by
    refine mCmp_eq (op := .Eq) e8 (mCall_eq (vs := [.ref 4]) (h1 := H6) rfl e9) ?_
    show eqV (.ref H5.length) (.ref H6.length) (H6 ++ [.list (natL (sN ps))]) = _
    rw [eq_lists (listOf_app r6 _) (listOf_end H6 _), if_pos rfl, eqAll_self (P := fun x => ∃ n : Nat, x = .int (n : Int)) (fun x hx => eqT_int hx)]
    intro x hx
    obtain ⟨n, _, rfl⟩ := List.mem_map.mp hx
    exact ⟨n, rfl⟩
  refine ⟨H6 ++ [.list (natL (sN ps))], ?_⟩
  unfold turnIn cellIn sizeE itemE at e5
  unfold askLoop askBody rngE at e7
  unfold lastE at e10
  unfold placesE at e1
  show outOf (sSeq (sSet 1 _) _ loS []) = _
  rw [sSeq_next (sSet_eq e1)]
  rw [show loS.set 1 (some (.ref 4)) = [some .script, some (.ref 4), none, none, none, none, none, none, none, none, none, none] from rfl]
  rw [sSeq_next (sSet_eq (mCall_eq (vs := [.ref 4]) (h1 := [o0, o1, o2, o3, .list (natL ps)]) rfl e2))]
  rw [show ([some .script, some (.ref 4), none, none, none, none, none, none, none, none, none, none] : Loc).set 2 (some (.ref T)) = [some .script, some (.ref 4), some (.ref T), none, none, none, none, none, none, none, none, none] from rfl]
  rw [sSeq_next (sSet_eq (v := .str LT) (h1 := H2) rfl)]
  rw [show ([some .script, some (.ref 4), some (.ref T), none, none, none, none, none, none, none, none, none] : Loc).set 3 (some (.str LT)) = [some .script, some (.ref 4), some (.ref T), some (.str LT), none, none, none, none, none, none, none, none] from rfl]
  rw [sSeq_next (sSet_eq e4)]
  rw [show ([some .script, some (.ref 4), some (.ref T), some (.str LT), none, none, none, none, none, none, none, none] : Loc).set 4 (some (.ref H2.length)) = l12 4 T H2.length none none none none none none none from rfl]
  rw [sSeq_next e5]
  rw [sSeq_next (by rw [sIf_false e6']; rfl)]
  rw [sSeq_next e7]
  rw [sSeq_ret (sRet_eq e10)]
  rfl
end Mine
end
section
open PySem PySem.W PyProof.Rows PySem.Spec PySem.Calls
set_option maxRecDepth 100000
namespace Mine
theorem ok_start {p p' : Program} {w : World} {K : Frag} {loose : List Str} {mean : ExcName → Option Value} {mg mb : Str → Option Value} {s₁ : Shared} {l : Addr} {vs : List Value} {ws : List Int}
    (T : Top p' loose mean mg mb s₁.heap) (KX : K.In s₁.heap) (hL : s₁.heap.IsList l vs.toArray) (hI : IntsAre vs ws) (hc : ¬ ((63 : Int) < (ws.length : Int))) :
    Base.Ok { prog := p, w := w, K := K, s₀ := s₁, l₀ := l, svs := vs, sns := ws, mg := mg, mb := mb } :=
  { islist := hL, areInts := hI, few := (by show ws.length ≤ 63; omega), nolimit := T.nolimit, g := T.g, b := T.b, builtins := T.builtins, k := KX }
theorem good_start {B : Base} : Good B [] [] B.s₀ :=
  { same := ⟨_, _, rfl⟩, keep := fun _ _ e => e, fresh := (fun _ h => nomatch h), nd := .nil, len := rfl, ok := fun i mo a h => by simp at h }
set_option maxHeartbeats 8000000 in
theorem join01 : PySem.Challenge.rw_wb0063_01.Holds := Mine.hd (by
  k_fill
  intro w s₀ s₁ mg mb G Y fa o pm cd doc dV kV ho hd hcd hD hmg hg args vals as hpre hlay hrd hwl hlo
  have KX := kIn_of Y
  have X := (Ground.X G).1
  have V := (Ground.X G).2
  refine Ground.open G ?_
  intro T B D TE TW
  try (refine guard_noD D (by decide +kernel) ?_; clear D)
  have hmg0 := hmg
  clear hmg
  wrow_args hpre hlay hrd hwl hlo
  all_goals clear hd hcd ho hD
  rename_i ws hs _ _ _ _ _ _ l vs _ hL _ _ _ hI _ hc _
  have O := ok_start (p := PySem.Challenge.rw_wb0063_01.row.prog) (w := w) T KX hL hI hc
  have e := O.glob (x := Str.ofString "law") (v := .ref 237) (by kernel_rfl)
  have e2 : fa = 237 := by
    have := hmg0.symm.trans e
    cases this; rfl
  subst e2
  obtain ⟨hp', hP⟩ := law_all ws
  show wpAny (model PySem.Challenge.rw_wb0063_01.row.prog w) callerA (call (.ref 237) [.ref l]) _ _ _
  refine (ok_law1 O rfl).call [.script] [] (.bool true) hp' [] s₁ [.ref l] hP good_start (.cons .script .nil) callerA _ _ ⟨rfl, by decide, by decide⟩ fun u ρ' s' x G' r' => ?_
  cases r'
  exact GoodW.toG ⟨.inl ⟨_, .bool true, [], rfl, (by intro c; rfl), .bool true, (postW_of rfl rfl (by decide +kernel)), unshared_nil⟩, G'.keep, (by obtain ⟨h, tk, e⟩ := G'.same; rw [e]), (by obtain ⟨h, tk, e⟩ := G'.same; rw [e]; exact hg)⟩)
end Mine
end
open PySem PySem.W PyProof.Rows
theorem PySem.Challenge.cw_wb0063_01_holds : PySem.Challenge.rw_wb0063_01.Holds :=
  Mine.join01
