import PyProof.Rows.All
import Wide.All
import OpenK.KLine
import OpenK.KOwn
import KE.KxBytes
import KE.KBytesCut
import KE.KBytesWalk
import Wide.FinOn
import PySem.Challenge.RW_wb0063_03
set_option Elab.async false
section
open PySem PySem.W PyProof.Rows
namespace Mine
set_option maxRecDepth 100000 in
set_option maxHeartbeats 8000000 in
open_top hd for PySem.Challenge.rw_wb0063_03
end Mine
end
section
open PySem PySem.W PyProof.Rows PySem.Spec PySem.Calls
namespace Mine
inductive MV where
  | none
  | bool (b : Bool)
  | int (i : Int)
  | str (x : List Nat)
  | bytes (x : List UInt8)
  | ref (n : Nat)
  | tup (xs : List MV)
  | fix (v : Value)
  | script
inductive MO where
  | list (xs : List MV)
  | inst (C : Addr) (d : Nat)
  | idict (v : Option MV)
  | kwd
  | junk
structure Base where
  prog : Program
  w : World
  K : Frag
  s₀ : Shared
  l₀ : Addr
  svs : List Value
  sns : List Int
  mg : Str → Option Value
  mb : Str → Option Value
structure Base.Ok (B : Base) : Prop where
  islist : B.s₀.heap.IsList B.l₀ B.svs.toArray
  areInts : IntsAre B.svs B.sns
  few : B.sns.length ≤ 63
  nolimit : B.s₀.heap.NoLimit
  g : B.s₀.heap.Ns mainGlobals B.mg
  b : B.s₀.heap.Ns builtinsNs B.mb
  builtins : ∀ x : Str, x ≠ "__name__" → B.mb x = bootBuiltins x
  k : B.K.In B.s₀.heap
noncomputable def mkS (x : List Nat) : Str := ⟨⟨x⟩⟩
mutual
inductive VR (h : Heap) (ρ : List Addr) (l₀ : Addr) : MV → Value → Prop
  | none : VR h ρ l₀ .none .none
  | bool (b : Bool) : VR h ρ l₀ (.bool b) (.bool b)
  | int (i : Int) (t : Tok) : VR h ρ l₀ (.int i) (.int i t)
  | str (x : List Nat) (t : Tok) : VR h ρ l₀ (.str x) (.str (mkS x) t)
  | bytes (x : List UInt8) (t : Tok) : VR h ρ l₀ (.bytes x) (.bytes ⟨x⟩ t)
  | ref (n : Nat) (a : Addr) : ρ[n]? = some a → VR h ρ l₀ (.ref n) (.ref a)
  | tup (xs : List MV) (vs : List Value) (a : Addr) : h.IsTuple a ⟨vs⟩ → VRL h ρ l₀ xs vs → a ∉ ρ → VR h ρ l₀ (.tup xs) (.ref a)
  | fix (v : Value) : VR h ρ l₀ (.fix v) v
  | script : VR h ρ l₀ .script (.ref l₀)
inductive VRL (h : Heap) (ρ : List Addr) (l₀ : Addr) : List MV → List Value → Prop
  | nil : VRL h ρ l₀ [] []
  | cons {x v xs vs} : VR h ρ l₀ x v → VRL h ρ l₀ xs vs → VRL h ρ l₀ (x :: xs) (v :: vs)
end
theorem VR.case_none {h ρ l₀} {motive : (u : Value) → VR h ρ l₀ .none u → Prop} (none : motive .none .none) {u} (t : VR h ρ l₀ .none u) : motive u t := by
  cases t; exact none
theorem VR.case_bool {h ρ l₀ b} {motive : (u : Value) → VR h ρ l₀ (.bool b) u → Prop} (bool : motive (.bool b) (.bool b)) {u} (t : VR h ρ l₀ (.bool b) u) : motive u t := by
  cases t; exact bool
theorem VR.case_int {h ρ l₀ i} {motive : (u : Value) → VR h ρ l₀ (.int i) u → Prop} (int : ∀ t, motive (.int i t) (.int i t)) {u} (t : VR h ρ l₀ (.int i) u) : motive u t := by
  cases t; exact int _
theorem VR.case_str {h ρ l₀ x} {motive : (u : Value) → VR h ρ l₀ (.str x) u → Prop} (str : ∀ t, motive (.str (mkS x) t) (.str x t)) {u} (t : VR h ρ l₀ (.str x) u) : motive u t := by
  cases t; exact str _
theorem VR.case_bytes {h ρ l₀ x} {motive : (u : Value) → VR h ρ l₀ (.bytes x) u → Prop} (bytes : ∀ t, motive (.bytes ⟨x⟩ t) (.bytes x t)) {u} (t : VR h ρ l₀ (.bytes x) u) : motive u t := by
  cases t; exact bytes _
theorem VR.case_ref {h ρ l₀ n} {motive : (u : Value) → VR h ρ l₀ (.ref n) u → Prop} (ref : ∀ a (e : ρ[n]? = some a), motive (.ref a) (.ref n a e)) {u} (t : VR h ρ l₀ (.ref n) u) : motive u t := by
  cases t; exact ref _ ‹_›
theorem VR.case_tup {h ρ l₀ xs} {motive : (u : Value) → VR h ρ l₀ (.tup xs) u → Prop} (tup : ∀ vs a (ht : h.IsTuple a ⟨vs⟩) (hv : VRL h ρ l₀ xs vs) (hn : a ∉ ρ), motive (.ref a) (.tup xs vs a ht hv hn)) {u} (t : VR h ρ l₀ (.tup xs) u) : motive u t := by
  cases t; exact tup _ _ ‹_› ‹_› ‹_›
theorem VR.case_fix {h ρ l₀ v} {motive : (u : Value) → VR h ρ l₀ (.fix v) u → Prop} (fix : motive v (.fix v)) {u} (t : VR h ρ l₀ (.fix v) u) : motive u t := by
  cases t; exact fix
theorem VR.case_script {h ρ l₀} {motive : (u : Value) → VR h ρ l₀ .script u → Prop} (script : motive (.ref l₀) .script) {u} (t : VR h ρ l₀ .script u) : motive u t := by
  cases t; exact script
theorem VRL.case_nil {h ρ l₀} {motive : (u : List Value) → VRL h ρ l₀ [] u → Prop} (nil : motive [] .nil) {u} (t : VRL h ρ l₀ [] u) : motive u t := by
  cases t; exact nil
theorem VRL.case_cons {h ρ l₀ x xs} {motive : (u : List Value) → VRL h ρ l₀ (x :: xs) u → Prop} (cons : ∀ {v vs} (r : VR h ρ l₀ x v) (q : VRL h ρ l₀ xs vs), motive (v :: vs) (.cons r q)) {u} (t : VRL h ρ l₀ (x :: xs) u) : motive u t := by
  cases t; exact cons ‹_› ‹_›
noncomputable def InstIs (h : Heap) (a C d : Addr) : Prop := ∃ o, h.get? a = some o ∧ o.cls = .ref C ∧ o.dict = some d ∧ ∀ c, o.data ≠ .cls c
noncomputable def KwDict (h : Heap) (a : Addr) : Prop := h.get? a = some { cls := .type "dict", dict := none, data := .dict #[] 0, slots := #[] } ∧ a ≠ sysModules
noncomputable def LIs (h : Heap) (a : Addr) (vs : List Value) : Prop := ∃ n, h.get? a = some { cls := .type "list", dict := none, data := .seq ⟨vs⟩ n, slots := #[] }
theorem LIs.isList {h a vs} (x : LIs h a vs) : h.IsList a ⟨vs⟩ := let ⟨n, e⟩ := x; ⟨_, e, rfl, n, rfl⟩
inductive OR (h : Heap) (ρ : List Addr) (l₀ : Addr) : MO → Addr → Prop
  | list (xs : List MV) (vs : List Value) (a : Addr) : LIs h a vs → VRL h ρ l₀ xs vs → OR h ρ l₀ (.list xs) a
  | inst (C : Addr) (d : Nat) (a b : Addr) : ρ[d]? = some b → InstIs h a C b → OR h ρ l₀ (.inst C d) a
  | idict0 (a : Addr) (m : Str → Option Value) : h.Ns1 a m → (∀ x, m x = none) → OR h ρ l₀ (.idict none) a
  | idict1 (a : Addr) (m : Str → Option Value) (x : MV) (v : Value) : h.Ns1 a m → VR h ρ l₀ x v → (∀ y, m y = if y = Str.ofString "_headers" then some v else none) → OR h ρ l₀ (.idict (some x)) a
  | kwd (a : Addr) : KwDict h a → OR h ρ l₀ .kwd a
  | junk (a : Addr) (u v : Value) : IsPair h a u v → OR h ρ l₀ .junk a
structure Good (B : Base) (ρ : List Addr) (hp : List MO) (s : Shared) : Prop where
  same : ∃ h tk, s = { B.s₀ with heap := h, toks := tk }
  keep : ∀ b o, B.s₀.heap.get? b = some o → s.heap.get? b = some o
  fresh : ∀ a ∈ ρ, B.s₀.heap.get? a = none
  nd : ρ.Nodup
  len : ρ.length = hp.length
  ok : ∀ (i : Nat) (mo : MO) (a : Addr), hp[i]? = some mo → ρ[i]? = some a → OR s.heap ρ B.l₀ mo a
structure Ext (ρ : List Addr) (h : Heap) (ρ' : List Addr) (h' : Heap) (W : List Addr) : Prop where
  more : ∃ m, ρ' = ρ ++ m ∧ ∀ a ∈ m, h.get? a = none
  keep : ∀ b o, h.get? b = some o → b ∉ ρ → b ∉ W → h'.get? b = some o
  alive : ∀ b o, h.get? b = some o → b ∉ W → ∃ o', h'.get? b = some o'
theorem Ext.refl {ρ h W} : Ext ρ h ρ h W := ⟨⟨[], by simp, fun _ hp => nomatch hp⟩, fun _ _ e _ _ => e, fun _ o e _ => ⟨o, e⟩⟩
theorem Ext.weaken {ρ h ρ' h' W W'} (x : Ext ρ h ρ' h' W) (hs : ∀ a ∈ W, a ∈ W') : Ext ρ h ρ' h' W' :=
  ⟨x.more, fun b o e h1 h2 => x.keep b o e h1 fun q => h2 (hs b q), fun b o e h2 => x.alive b o e fun q => h2 (hs b q)⟩
theorem Ext.nil {ρ h ρ' h' W} (x : Ext ρ h ρ' h' []) : Ext ρ h ρ' h' W := x.weaken fun _ q => nomatch q
theorem Ext.get {ρ h ρ' h' W} (x : Ext ρ h ρ' h' W) {n : Nat} {a : Addr} (e : ρ[n]? = some a) : ρ'[n]? = some a := by
  obtain ⟨m, rfl, _⟩ := x.more
  rw [List.getElem?_append_left (by exact (List.getElem?_eq_some_iff.mp e).1)]
  exact e
theorem Ext.notin {ρ h ρ' h' W} (x : Ext ρ h ρ' h' W) {b : Addr} {o : Obj} (e : h.get? b = some o) (hb : b ∉ ρ) : b ∉ ρ' := by
  obtain ⟨m, rfl, hm⟩ := x.more
  intro q
  rcases List.mem_append.mp q with q | q
  · exact hb q
  · rw [hm b q] at e; cases e
theorem Ext.trans {ρ h ρ' h' ρ'' h'' W} (x : Ext ρ h ρ' h' W) (y : Ext ρ' h' ρ'' h'' W) (hW : ∀ a ∈ W, a ∉ ρ'' := by exact fun _ q => nomatch q) : Ext ρ h ρ'' h'' W := by
  obtain ⟨m, e1, hm⟩ := x.more
  obtain ⟨m', e2, hm'⟩ := y.more
  refine ⟨⟨m ++ m', by rw [e2, e1, List.append_assoc], fun a ha => ?_⟩, fun b o e h1 h2 => y.keep b o (x.keep b o e h1 h2) (x.notin e h1) h2, fun b o e h2 => ?_⟩
  · rcases List.mem_append.mp ha with q | q
    · exact hm a q
    · cases e : h.get? a with
      | none => rfl
      | some o =>
        by_cases hw : a ∈ W
        · exact absurd (by rw [e2]; exact List.mem_append.mpr (.inr q)) (hW a hw)
        · obtain ⟨o', e'⟩ := x.alive a o e hw
          rw [hm' a q] at e'; cases e'
  · obtain ⟨o', e'⟩ := x.alive b o e h2
    exact y.alive b o' e' h2
theorem Ext.keeps {ρ : List Addr} {h h' : Heap} {W} (hk : ∀ b o, h.get? b = some o → h'.get? b = some o) : Ext ρ h ρ h' W :=
  ⟨⟨[], by simp, fun _ hp => nomatch hp⟩, fun b o e _ _ => hk b o e, fun b o e _ => ⟨o, hk b o e⟩⟩
noncomputable def NoTup (h : Heap) (W : List Addr) : Prop := ∀ a ∈ W, ∀ its, ¬ h.IsTuple a its
theorem NoTup.nil {h} : NoTup h [] := fun _ q => nomatch q
theorem IsTuple.det {h : Heap} {a : Addr} {o : Obj} {its} (x : h.IsTuple a its) (e : h.get? a = some o) : o.cls = .type "tuple" ∧ ∃ n, o.data = .seq its n := by
  obtain ⟨o', e', hc, n, hd⟩ := x
  rw [e] at e'; cases e'
  exact ⟨hc, n, hd⟩
theorem Ns.notTup {h : Heap} {a m its} (n : h.Ns a m) : ¬ h.IsTuple a its := by
  intro t
  obtain ⟨o, es, ep, e, hd, _⟩ := n
  obtain ⟨_, k, hd'⟩ := IsTuple.det t e
  rw [hd] at hd'; cases hd'
mutual
theorem VR.ext {h ρ l₀ h' ρ' W} (x : Ext ρ h ρ' h' W) (hW : NoTup h W) : ∀ {v u}, VR h ρ l₀ v u → VR h' ρ' l₀ v u
  | _, _, .none => .none
  | _, _, .bool b => .bool b
  | _, _, .int i t => .int i t
  | _, _, .str y t => .str y t
  | _, _, .bytes y t => .bytes y t
  | _, _, .ref n a e => .ref n a (x.get e)
  | _, _, .tup xs vs a ht hl hn => .tup xs vs a (by
      obtain ⟨o, e, hc, n, hd⟩ := id ht
      exact ⟨o, x.keep a o e hn (fun q => hW a q _ ht), hc, n, hd⟩) (VRL.ext x hW hl) (by obtain ⟨o, e, _⟩ := ht; exact x.notin e hn)
  | _, _, .fix v => .fix v
  | _, _, .script => .script
theorem VRL.ext {h ρ l₀ h' ρ' W} (x : Ext ρ h ρ' h' W) (hW : NoTup h W) : ∀ {xs vs}, VRL h ρ l₀ xs vs → VRL h' ρ' l₀ xs vs
  | _, _, .nil => .nil
  | _, _, .cons a b => .cons (VR.ext x hW a) (VRL.ext x hW b)
end
theorem Good.vr {B ρ hp s h' ρ' W v u} (G : Good B ρ hp s) (x : Ext ρ s.heap ρ' h' W) (hW : NoTup s.heap W) (hv : VR s.heap ρ B.l₀ v u) : VR h' ρ' B.l₀ v u :=
  hv.ext x hW
theorem Good.vrl {B ρ hp s h' ρ' W v u} (G : Good B ρ hp s) (x : Ext ρ s.heap ρ' h' W) (hW : NoTup s.heap W) (hv : VRL s.heap ρ B.l₀ v u) : VRL h' ρ' B.l₀ v u :=
  hv.ext x hW
theorem VRL.length {h ρ l₀} : ∀ {xs vs}, VRL h ρ l₀ xs vs → xs.length = vs.length
  | _, _, .nil => rfl
  | _, _, .cons _ b => by simp [b.length]
structure Ctx where
  sc : List (Str × NameKind)
  tbl : List Str
abbrev Loc := List (Option MV)
noncomputable def envW (env : Env) : List Addr := env.locals :: env.cells.map (·.2)
structure FrR (B : Base) (Γ : Ctx) (env : Env) (loc : Loc) (ρ : List Addr) (h : Heap) : Prop where
  kind : env.scope.kind = .function
  names : env.scope.names = Γ.sc
  glob : env.globals = mainGlobals
  blt : env.builtins = builtinsNs
  ns : ∃ m, h.Ns env.locals m ∧ ∀ (i : Nat) (x : Str) (v : MV), Γ.tbl[i]? = some x → loc[i]? = some (some v) → Γ.sc.lookup x = some .local → ∃ u, m x = some u ∧ VR h ρ B.l₀ v u
  cell : ∀ (x : Str), (Γ.sc.lookup x = some .cell ∨ Γ.sc.lookup x = some .free) → ∃ c u, env.cells.lookup x = some c ∧ h.IsCell c u
  cval : ∀ (i : Nat) (x : Str) (v : MV), Γ.tbl[i]? = some x → loc[i]? = some (some v) → (Γ.sc.lookup x = some .cell ∨ Γ.sc.lookup x = some .free) → ∃ c u, env.cells.lookup x = some c ∧ h.IsCell c (some u) ∧ VR h ρ B.l₀ v u
  kinds : ∀ (i : Nat) (x : Str), Γ.tbl[i]? = some x → Γ.sc.lookup x = some .local ∨ Γ.sc.lookup x = some .cell ∨ Γ.sc.lookup x = some .free
  cells : ∀ c ∈ env.cells, ∃ u, h.IsCell c.2 u
  apart : env.cells.Pairwise fun x y => x.2 ≠ y.2
  lne : ∀ c ∈ env.cells, env.locals ≠ c.2
  out : ∀ a ∈ envW env, a ∉ ρ
  new : ∀ a ∈ envW env, B.s₀.heap.get? a = none
  tnd : Γ.tbl.Nodup
theorem IsCell.notTup {h : Heap} {a u its} (n : h.IsCell a u) : ¬ h.IsTuple a its := by
  intro t
  obtain ⟨o, e, hd⟩ := n
  obtain ⟨_, k, hd'⟩ := IsTuple.det t e
  rw [hd] at hd'; cases hd'
theorem FrR.noTup {B Γ env loc ρ h} (F : FrR B Γ env loc ρ h) : NoTup h (envW env) := by
  intro a ha its
  rcases List.mem_cons.mp ha with rfl | ha
  · obtain ⟨m, hn, _⟩ := F.ns
    exact Ns.notTup hn
  · obtain ⟨c, hc, rfl⟩ := List.mem_map.mp ha
    obtain ⟨u, hu⟩ := F.cells c hc
    exact IsCell.notTup hu
theorem FrR.ext {B Γ env loc ρ hp s ρ' h'} (F : FrR B Γ env loc ρ s.heap) (G : Good B ρ hp s) (x : Ext ρ s.heap ρ' h' []) : FrR B Γ env loc ρ' h' := by
  have kc : ∀ {c u}, s.heap.IsCell c u → c ∉ ρ → h'.IsCell c u := fun ⟨o, e, hd⟩ hc => ⟨o, x.keep _ o e hc (fun q => nomatch q), hd⟩
  have cin : ∀ {n c}, env.cells.lookup n = some c → c ∉ ρ := fun e => F.out _ (List.mem_cons_of_mem _ (List.mem_map.mpr ⟨_, mem_of_lookup e, rfl⟩))
  refine ⟨F.kind, F.names, F.glob, F.blt, ?_, ?_, ?_, F.kinds, ?_, F.apart, F.lne, ?_, F.new, F.tnd⟩
  · obtain ⟨m, hn, hv⟩ := F.ns
    refine ⟨m, hn.at fun o e => x.keep _ o e (F.out _ (List.mem_cons_self ..)) (fun q => nomatch q), fun i y v a b c => ?_⟩
    obtain ⟨u, hu, hr⟩ := hv i y v a b c
    exact ⟨u, hu, G.vr x .nil hr⟩
  · intro y hy
    obtain ⟨c, u, e, hc⟩ := F.cell y hy
    exact ⟨c, u, e, kc hc (cin e)⟩
  · intro i y v a b hy
    obtain ⟨c, u, e, hc, hr⟩ := F.cval i y v a b hy
    exact ⟨c, u, e, kc hc (cin e), G.vr x .nil hr⟩
  · intro c hc
    obtain ⟨u, hu⟩ := F.cells c hc
    exact ⟨u, kc hu (F.out _ (List.mem_cons_of_mem _ (List.mem_map.mpr ⟨c, hc, rfl⟩)))⟩
  · intro a ha
    rcases List.mem_cons.mp ha with rfl | ha'
    · obtain ⟨m, ⟨o, _, _, e, _⟩, _⟩ := F.ns
      exact x.notin e (F.out _ ha)
    · obtain ⟨c, hc, rfl⟩ := List.mem_map.mp ha'
      obtain ⟨u, o, e, _⟩ := F.cells c hc
      exact x.notin e (F.out _ ha)
end Mine
end
section
open PySem PySem.W PyProof.Rows PySem.Spec PySem.Calls
namespace Mine
structure AOK (d : Nat) (A : Around) : Prop where
  handled : A.handled = none
  depth : A.depth + d ≤ 900
  units : A.units + 20 * d ≤ 9000
theorem AOK.le {d d' A} (x : AOK d A) (h : d' ≤ d) : AOK d' A := ⟨x.handled, by have := x.depth; omega, by have := x.units; omega⟩
theorem AOK.deeper {d A env} (x : AOK (d + 1) A) : AOK d (A.deeper env) := ⟨x.handled, by have := x.depth; show A.depth + 1 + d ≤ 900; omega, by have := x.units; show A.units + 3 + 20 * d ≤ 9000; omega⟩
theorem AOK.in1 {d A} (x : AOK (d + 1) A) : AOK d A.in1 := ⟨x.handled, by have := x.depth; show A.depth + d ≤ 900; omega, by have := x.units; show A.units + 1 + 20 * d ≤ 9000; omega⟩
theorem AOK.room {d A} (x : AOK d A) : A.depth < recursionLimit := by have := x.depth; show A.depth < 1000; omega
theorem AOK.cl {d A} (x : AOK d A) : A.units < cLine := by have := x.units; show A.units < 9900; omega
abbrev ME := Loc → List MO → Option (MV × List MO)
abbrev ML := Loc → List MO → Option (List MV × List MO)
abbrev MT := Loc → List MO → Option (Bool × List MO)
inductive MFlow where
  | next | brk | cont
  | ret (v : MV)
abbrev MS := Loc → List MO → Option (MFlow × Loc × List MO)
abbrev Aft (B : Base) (ρ : List Addr) (s : Shared) (hp' : List MO) (v : MV) (Q : Value → Shared → Prop) : Prop :=
  ∀ u ρ' s', Ext ρ s.heap ρ' s'.heap [] → Good B ρ' hp' s' → VR s'.heap ρ' B.l₀ v u → Q u s'
noncomputable def TreeOk (B : Base) (d : Nat) (ρ : List Addr) (s : Shared) (t : Sem Value) (v : MV) (hp' : List MO) : Prop :=
  ∀ A Q E, AOK d A → Aft B ρ s hp' v Q → wpAny (model B.prog B.w) A t Q E s
noncomputable def SndE (B : Base) (d : Nat) (Γ : Ctx) (e : PySem.Expr) (m : ME) : Prop :=
  ∀ env loc hp v hp' ρ s, m loc hp = some (v, hp') → Good B ρ hp s → FrR B Γ env loc ρ s.heap → TreeOk B d ρ s (eval e env) v hp'
noncomputable def SndT (B : Base) (d : Nat) (Γ : Ctx) (e : PySem.Expr) (m : MT) : Prop :=
  ∀ env loc hp b hp' ρ s, m loc hp = some (b, hp') → Good B ρ hp s → FrR B Γ env loc ρ s.heap →
    ∀ A Q E, AOK d A → (∀ ρ' s', Ext ρ s.heap ρ' s'.heap [] → Good B ρ' hp' s' → Q b s') → wpAny (model B.prog B.w) A (isTrue e env (eval e env)) Q E s
noncomputable def SndL (B : Base) (d : Nat) (Γ : Ctx) (es : List PySem.Expr) (m : ML) : Prop :=
  ∀ env loc hp vs hp' ρ s pos, m loc hp = some (vs, hp') → Good B ρ hp s → FrR B Γ env loc ρ s.heap →
    ∀ A Q E, AOK d A → (∀ us ρ' s', Ext ρ s.heap ρ' s'.heap [] → Good B ρ' hp' s' → VRL s'.heap ρ' B.l₀ vs us → Q us s') → wpAny (model B.prog B.w) A (spliced (backTo pos (starEach es env))) Q E s
section
variable {B : Base} {d : Nat} {Γ : Ctx} {env : Env} {loc : Loc} {hp hp' : List MO} {ρ : List Addr} {s : Shared} {A : Around} {E : Value → Shared → Prop}
theorem Good.tok (G : Good B ρ hp s) (t : Nat) : Good B ρ hp { s with toks := t } :=
  ⟨by obtain ⟨h, tk, e⟩ := G.same; exact ⟨h, t, by rw [e]⟩, G.keep, G.fresh, G.nd, G.len, G.ok⟩
theorem OR.ext {h ρ l₀ h' ρ' W mo a} (x : Ext ρ h ρ' h' W) (_ : True) (hW : NoTup h W)
    (hk : ∀ o, h.get? a = some o → h'.get? a = some o) (r : OR h ρ l₀ mo a) : OR h' ρ' l₀ mo a := by
  cases r with
  | list xs vs _ hl hv =>
    obtain ⟨n, e⟩ := hl
    exact .list xs vs _ ⟨n, hk _ e⟩ (hv.ext x hW)
  | inst C d _ b e hi =>
    obtain ⟨o, e', r⟩ := hi
    exact .inst C d _ b (x.get e) ⟨o, hk o e', r⟩
  | idict0 _ m hd hm => exact .idict0 _ m (hd.at hk) hm
  | idict1 _ m y v hd hv hm => exact .idict1 _ m y v (hd.at hk) (hv.ext x hW) hm
  | kwd _ hd => exact .kwd _ ⟨hk _ hd.1, hd.2⟩
  | junk _ u v h => exact .junk _ u v (hk _ h)
theorem OR.alive {h ρ l₀ mo a} (r : OR h ρ l₀ mo a) : ∃ o, h.get? a = some o := by
  cases r with
  | list _ _ _ h _ => obtain ⟨n, e⟩ := h; exact ⟨_, e⟩
  | inst _ _ _ _ _ h => obtain ⟨o, e, _⟩ := h; exact ⟨o, e⟩
  | idict0 _ _ h _ => obtain ⟨o, _, _, e, _⟩ := h; exact ⟨o, e⟩
  | idict1 _ _ _ _ h _ _ => obtain ⟨o, _, _, e, _⟩ := h; exact ⟨o, e⟩
  | kwd _ h => exact ⟨_, h.1⟩
  | junk _ u v h => exact ⟨_, h⟩
theorem Good.nt (G : Good B ρ hp s) : True := trivial
theorem Good.keeps (G : Good B ρ hp s) {h' : Heap} {tk : Nat} (hk : ∀ b o, s.heap.get? b = some o → h'.get? b = some o) : Good B ρ hp { s with heap := h', toks := tk } :=
  ⟨by obtain ⟨h, t, e⟩ := G.same; exact ⟨h', tk, by rw [e]⟩, fun b o e => hk b o (G.keep b o e), G.fresh, G.nd, G.len,
    fun i mo a e1 e2 => (G.ok i mo a e1 e2).ext (Ext.keeps hk : Ext ρ s.heap ρ h' []) G.nt .nil (fun o e => hk a o e)⟩
theorem Good.push (G : Good B ρ hp s) (o : Obj) : Good B ρ hp { s with heap := s.heap.push o } := G.keeps (tk := s.toks) fun _ _ e => Heap.get?_push_of_some _ e
theorem Good.alloc (G : Good B ρ hp s) {o : Obj} {mo : MO} (hf : o.isFreed = false) (hr : OR (s.heap.push o) (ρ ++ [s.heap.objs.size]) B.l₀ mo s.heap.objs.size) :
    Good B (ρ ++ [s.heap.objs.size]) (hp ++ [mo]) { s with heap := s.heap.push o } ∧ Ext ρ s.heap (ρ ++ [s.heap.objs.size]) (s.heap.push o) [] := by
  have hn : s.heap.get? s.heap.objs.size = none := by
    cases e : s.heap.get? s.heap.objs.size with
    | none => rfl
    | some o => exact absurd (Heap.lt_size e) (Nat.lt_irrefl _)
  have hk : ∀ b o', s.heap.get? b = some o' → (s.heap.push o).get? b = some o' := fun _ _ e => Heap.get?_push_of_some _ e
  have x : Ext ρ s.heap (ρ ++ [s.heap.objs.size]) (s.heap.push o) [] :=
    ⟨⟨_, rfl, fun a ha => by rw [List.mem_singleton.mp ha]; exact hn⟩, fun b o' e _ _ => hk b o' e, fun b o' e _ => ⟨o', hk b o' e⟩⟩
  have hout : s.heap.objs.size ∉ ρ := fun hm => by
    obtain ⟨i, hi, e⟩ := List.getElem_of_mem hm
    have hi' : i < hp.length := G.len ▸ hi
    have r := G.ok i hp[i] ρ[i] (List.getElem?_eq_getElem hi') (List.getElem?_eq_getElem hi)
    have : ∃ o, s.heap.get? ρ[i] = some o := r.alive
    obtain ⟨o, e'⟩ := this
    rw [e, hn] at e'; cases e'
  refine ⟨⟨?_, ?_, ?_, ?_, ?_, ?_⟩, x⟩
  · obtain ⟨h, t, e⟩ := G.same
    exact ⟨_, t, by rw [e]⟩
  · exact fun b o' e => hk b o' (G.keep b o' e)
  · intro a ha
    rcases List.mem_append.mp ha with q | q
    · exact G.fresh a q
    · rw [List.mem_singleton.mp q]
      cases e : B.s₀.heap.get? s.heap.objs.size with
      | none => rfl
      | some o' => rw [G.keep _ _ e] at hn; cases hn
  · rw [List.nodup_append]
    exact ⟨G.nd, List.nodup_cons.mpr ⟨List.not_mem_nil, List.nodup_nil⟩, fun a ha b hb e => hout (by rw [List.mem_singleton.mp hb] at e; exact e ▸ ha)⟩
  · simp [G.len]
  · intro i mo' a e1 e2
    by_cases hi : i < hp.length
    · rw [List.getElem?_append_left hi] at e1
      rw [List.getElem?_append_left (G.len ▸ hi)] at e2
      exact (G.ok i mo' a e1 e2).ext x G.nt .nil fun o e => hk a o e
    · have hi' : i = hp.length := by
        have := (List.getElem?_eq_some_iff.mp e1).1
        rw [List.length_append] at this
        simp at this; omega
      subst hi'
      rw [List.getElem?_append_right (Nat.le_refl _), Nat.sub_self] at e1
      rw [List.getElem?_append_right (by rw [G.len]; exact Nat.le_refl _), G.len, Nat.sub_self] at e2
      cases e1; cases e2
      exact hr
theorem SndE.run {e : PySem.Expr} {m : ME} (S : SndE B d Γ e m) {v : MV} {hp₁ : List MO} (hm : m loc hp = some (v, hp₁)) (G : Good B ρ hp s) (F : FrR B Γ env loc ρ s.heap) (hA : AOK d A) {Q : Value → Shared → Prop}
    (k : ∀ u ρ₁ s₁, Ext ρ s.heap ρ₁ s₁.heap [] → Good B ρ₁ hp₁ s₁ → FrR B Γ env loc ρ₁ s₁.heap → VR s₁.heap ρ₁ B.l₀ v u → Q u s₁) : wpAny (model B.prog B.w) A (eval e env) Q E s :=
  S env loc hp v hp₁ ρ s hm G F A Q E hA fun u ρ' s' x G' r => k u ρ' s' x G' (F.ext G x) r
/- constants, names -/
theorem snd_int {i : Int} {k pos} : SndE B d Γ (.Constant (.int i) k pos) (fun _ hp => some (.int i, hp)) := by
  intro env loc hp v hp' ρ s hm G F A Q E hA k
  cases hm
  exact wpAny_Constant_int (k _ _ _ .refl (G.tok _) (.int _ _))
theorem snd_none {k pos} : SndE B d Γ (.Constant .none k pos) (fun _ hp => some (.none, hp)) := by
  intro env loc hp v hp' ρ s hm G F A Q E hA k
  cases hm
  exact wpAny_Constant_none (k _ _ _ .refl G .none)
theorem snd_bool {b : Bool} {k pos} : SndE B d Γ (.Constant (.bool b) k pos) (fun _ hp => some (.bool b, hp)) := by
  intro env loc hp v hp' ρ s hm G F A Q E hA k
  cases hm
  exact wpAny_Constant_bool (k _ _ _ .refl G (.bool b))
theorem snd_str {x : Str} {y : List Nat} {k pos} (hy : x = mkS y := by kernel_rfl) : SndE B d Γ (.Constant (.str x) k pos) (fun _ hp => some (.str y, hp)) := by
  intro env loc hp v hp' ρ s hm G F A Q E hA k
  cases hm
  subst hy
  exact wpAny_Constant_str (k _ _ _ .refl (G.tok _) (.str _ _))
theorem snd_bytes {x : List UInt8} {k pos} : SndE B d Γ (.Constant (.bytes x) k pos) (fun _ hp => some (.bytes x, hp)) := by
  intro env loc hp v hp' ρ s hm G F A Q E hA k
  cases hm
  have : (List.toArray x) = ⟨x⟩ := rfl
  exact fun _ _ _ => k (.bytes x.toArray s.toks) ρ { s with toks := s.toks + 1 } .refl (G.tok _) (.bytes x _)
noncomputable def mVar (i : Nat) : ME := fun loc hp => match loc[i]? with
  | some (some v) => some (v, hp)
  | _ => none
theorem snd_name {x : Str} {pos : Pos} (i : Nat) (hi : Γ.tbl[i]? = some x) (hd : (x == ("__debug__" : Str)) = false := by decide) (hc : (x == ("__classdict__" : Str)) = false := by decide) : SndE B d Γ (.Name x pos) (mVar i) := by
  intro env loc hp v hp' ρ s hm G F A Q E hA k
  unfold mVar at hm
  split at hm
  · rename_i v' hv
    cases hm
    have kn : ∀ {q}, Γ.sc.lookup x = some q → env.kindOf x = some q := fun e => by unfold Env.kindOf; rw [F.names]; exact e
    rcases F.kinds i x hi with h | h | h
    · obtain ⟨m, hn, hm⟩ := F.ns
      obtain ⟨u, hu, r⟩ := hm i x v hi hv h
      exact wpAny_Name (wpAny_loadName_local F.kind (kn h) hn hu (k _ _ _ .refl G r)) hd
    · obtain ⟨c, u, e, hcell, r⟩ := F.cval i x v hi hv (.inl h)
      exact wpAny_Name (wpAny_loadName_cell F.kind (kn h) e hcell (k _ _ _ .refl G r)) hd
    · obtain ⟨c, u, e, hcell, r⟩ := F.cval i x v hi hv (.inr h)
      exact wpAny_Name (wpAny_loadName_free F.kind (kn h) e hcell (k _ _ _ .refl G r) hc) hd
  · cases hm
theorem snd_glob {x : Str} {pos : Pos} {v : Value} (O : B.Ok) (hx : Γ.sc.lookup x = some .globalImplicit) (hv : B.mg x = some v) (hd : (x == ("__debug__" : Str)) = false := by decide) :
    SndE B d Γ (.Name x pos) (fun _ hp => some (.fix v, hp)) := by
  intro env loc hp v' hp' ρ s hm G F A Q E hA k
  cases hm
  have kn : env.kindOf x = some .globalImplicit := by unfold Env.kindOf; rw [F.names]; exact hx
  refine Name_function_global F.kind kn (loadGlobal_global (mg := B.mg) ?_ hv (k _ _ _ .refl G (.fix v))) hd
  rw [F.glob]; exact O.g.keeps G.keep
theorem snd_blt {x : Str} {pos : Pos} {v : Value} (O : B.Ok) (hx : Γ.sc.lookup x = some .globalImplicit) (hn : B.mg x = none) (hv : bootBuiltins x = some v) (hne : x ≠ "__name__" := by decide) (hd : (x == ("__debug__" : Str)) = false := by decide) :
    SndE B d Γ (.Name x pos) (fun _ hp => some (.fix v, hp)) := by
  intro env loc hp v' hp' ρ s hm G F A Q E hA k
  cases hm
  have kn : env.kindOf x = some .globalImplicit := by unfold Env.kindOf; rw [F.names]; exact hx
  refine Name_function_global F.kind kn (loadGlobal_builtin (mg := B.mg) (mb := B.mb) ?_ hn ?_ ((O.builtins x hne).trans hv) (k _ _ _ .refl G (.fix v))) hd
  · rw [F.glob]; exact O.g.keeps G.keep
  · rw [F.blt]; exact O.b.keeps G.keep
end
end Mine
end
section
open PySem PySem.W PyProof.Rows PySem.Spec PySem.Calls
set_option linter.unusedVariables false
namespace Mine
noncomputable def few : Nat := 100000
theorem few_le : few ≤ sizeLine := by decide
noncomputable def listOf (hp : List MO) (i : Nat) : Option (List MV) := match hp[i]? with
  | some (.list xs) => some xs
  | _ => none
noncomputable def addMV (a b : MV) (hp : List MO) : Option (MV × List MO) := match a, b with
  | .int a, .int b => some (.int (a + b), hp)
  | .str x, .str y => if x.length + y.length ≤ few then some (.str (x ++ y), hp) else none
  | .bytes x, .bytes y => if x.length + y.length ≤ few then some (.bytes (x ++ y), hp) else none
  | .ref i, .ref j => match listOf hp i, listOf hp j with
    | some xs, some ys => if xs.length + ys.length ≤ few then some (.ref hp.length, hp ++ [.list (xs ++ ys)]) else none
    | _, _ => none
  | _, _ => none
noncomputable def mulMV (a b : MV) (hp : List MO) : Option (MV × List MO) := match a, b with
  | .int a, .int b => if a.natAbs < 2 ^ 62 then some (.int (a * b), hp) else none
  | .str [c], .int n => if n = 2 then some (.str [c, c], hp) else none
  | _, _ => none
noncomputable def intMV (f : Int → Int → Option Int) (a b : MV) (hp : List MO) : Option (MV × List MO) := match a, b with
  | .int a, .int b => match f a b with
    | some c => some (.int c, hp)
    | none => none
  | _, _ => none
noncomputable def opI (op : Operator) (a b : Int) : Option Int := match op with
  | .Sub => some (a - b)
  | .FloorDiv => if b ≠ 0 ∧ b.natAbs < 1073741824 then some (a.fdiv b) else none
  | .Mod => if b ≠ 0 then some (a.fmod b) else none
  | .LShift => if 0 ≤ b ∧ b ≤ 1000 ∧ a.natAbs < 2 ^ 62 then some (a * 2 ^ b.toNat) else none
  | .RShift => if 0 ≤ b then some (a.fdiv (2 ^ b.toNat)) else none
  | .BitAnd => some (Builtin.bitAnd a b)
  | .BitXor => some (Builtin.bitXor a b)
  | .BitOr => some (Builtin.bitOr a b)
  | _ => none
noncomputable def binMV (op : Operator) (a b : MV) (hp : List MO) : Option (MV × List MO) := match op with
  | .Add => addMV a b hp
  | .Mult => mulMV a b hp
  | op => intMV (opI op) a b hp
section
variable {B : Base} {d : Nat} {Γ : Ctx} {env : Env} {loc : Loc} {hp hp' : List MO} {ρ : List Addr} {s : Shared} {A : Around} {E : Value → Shared → Prop}
theorem Good.listP (G : Good B ρ hp s) {i : Nat} {xs : List MV} {a : Addr} (h : listOf hp i = some xs) (e : ρ[i]? = some a) : ∃ vs, LIs s.heap a vs ∧ VRL s.heap ρ B.l₀ xs vs := by
  unfold listOf at h
  split at h
  · rename_i xs' hi
    cases h
    have := G.ok i _ a hi e
    cases this with
    | list _ vs _ hl hv => exact ⟨vs, hl, hv⟩
  · cases h
theorem Good.listAt (G : Good B ρ hp s) {i : Nat} {xs : List MV} {a : Addr} (h : listOf hp i = some xs) (e : ρ[i]? = some a) : ∃ vs, s.heap.IsList a ⟨vs⟩ ∧ VRL s.heap ρ B.l₀ xs vs :=
  let ⟨vs, h1, h2⟩ := G.listP h e; ⟨vs, h1.isList, h2⟩
theorem Good.newList (G : Good B ρ hp s) {xs : List MV} {vs : List Value} (hv : VRL s.heap ρ B.l₀ xs vs) {arr : Array Value} (e : arr = ⟨vs⟩) :
    Good B (ρ ++ [s.heap.objs.size]) (hp ++ [.list xs]) { s with heap := s.heap.push { cls := .type "list", data := .seq arr } } ∧ Ext ρ s.heap (ρ ++ [s.heap.objs.size]) (s.heap.push { cls := .type "list", data := .seq arr }) [] ∧
      VR (s.heap.push { cls := .type "list", data := .seq arr }) (ρ ++ [s.heap.objs.size]) B.l₀ (.ref hp.length) (.ref s.heap.objs.size) := by
  subst e
  have hn : s.heap.get? s.heap.objs.size = none := by
    cases e : s.heap.get? s.heap.objs.size with
    | none => rfl
    | some o => exact absurd (Heap.lt_size e) (Nat.lt_irrefl _)
  have x : Ext ρ s.heap (ρ ++ [s.heap.objs.size]) (s.heap.push { cls := .type "list", data := .seq ⟨vs⟩ }) [] :=
    ⟨⟨_, rfl, fun a ha => by rw [List.mem_singleton.mp ha]; exact hn⟩, fun b o' e _ _ => Heap.get?_push_of_some _ e, fun b o' e _ => ⟨o', Heap.get?_push_of_some _ e⟩⟩
  obtain ⟨h1, h2⟩ := G.alloc (o := { cls := .type "list", data := .seq ⟨vs⟩ }) (mo := .list xs) rfl (.list xs vs _ ⟨_, Heap.get?_push_size _ rfl⟩ (G.vrl x .nil hv))
  refine ⟨h1, h2, .ref _ _ ?_⟩
  rw [List.getElem?_append_right (by rw [G.len]; exact Nat.le_refl _), G.len, Nat.sub_self]; rfl
theorem VRL.append {h ρ l₀} : ∀ {xs vs ys us}, VRL h ρ l₀ xs vs → VRL h ρ l₀ ys us → VRL h ρ l₀ (xs ++ ys) (vs ++ us)
  | _, _, _, _, .nil, h => h
  | _, _, _, _, .cons a b, h => .cons a (b.append h)
theorem Good.newTup (G : Good B ρ hp s) {xs : List MV} {vs : List Value} (hv : VRL s.heap ρ B.l₀ xs vs) {arr : Array Value} (e : arr = ⟨vs⟩) :
    Good B ρ hp { s with heap := s.heap.push { cls := .type "tuple", data := .seq arr } } ∧ Ext ρ s.heap ρ (s.heap.push { cls := .type "tuple", data := .seq arr }) [] ∧
      VR (s.heap.push { cls := .type "tuple", data := .seq arr }) ρ B.l₀ (.tup xs) (.ref s.heap.objs.size) := by
  subst e
  have x : Ext ρ s.heap ρ (s.heap.push { cls := .type "tuple", data := .seq ⟨vs⟩ }) [] := .keeps fun _ _ e => Heap.get?_push_of_some _ e
  exact ⟨G.push _, x, .tup xs vs _ ⟨_, Heap.get?_push_size _ rfl, rfl, _, rfl⟩ (G.vrl x .nil hv) (fun q => by
    obtain ⟨i, hi, e⟩ := List.getElem_of_mem q
    have hi' : i < hp.length := G.len ▸ hi
    obtain ⟨o, e'⟩ := (G.ok i hp[i] ρ[i] (List.getElem?_eq_getElem hi') (List.getElem?_eq_getElem hi)).alive
    rw [e] at e'
    exact absurd (Heap.lt_size e') (Nat.lt_irrefl _))⟩
theorem strLen_mkS (x : List Nat) : (mkS x).length = x.length := rfl
theorem append_mkS (x y : List Nat) : mkS x ++ mkS y = mkS (x ++ y) := by
  show Str.append _ _ = _
  simp [mkS, Str.append]
theorem add_listsG {l b : Addr} {its its2 : List Value} {Q : Value → Shared → Prop} (hl : s.heap.IsList l ⟨its⟩) (hb : s.heap.IsList b ⟨its2⟩)
    (h : Q (.ref s.heap.objs.size) { s with heap := s.heap.push { cls := .type "list", data := .seq ⟨its ++ its2⟩ } })
    (hsz : its.length + its2.length ≤ sizeLine) : wpAny (model B.prog B.w) A (binaryOp .Add (.ref l) (.ref b)) Q E s := by
  obtain ⟨⟨cls, dd, data, sl⟩, ho, hc, n, hd⟩ := id hl
  obtain ⟨⟨cls2, dd2, data2, sl2⟩, ho2, hc2, n2, hd2⟩ := id hb
  simp only at hc hd hc2 hd2
  subst hc hd hc2 hd2
  refine concat_meets ⟨_, ho, rfl⟩ ⟨_, ho2, rfl⟩ noFill_list_add seq_list_add F.slot_list_add F.entry_list_add (F.args_list_add_2 _ _) (list_addW l b ⟨its⟩ ⟨its2⟩ n n2 dd dd2 sl sl2 hsz) ⟨ho, ho2, ?_⟩
  have e : ((⟨its⟩ : Array Value) ++ (⟨its2⟩ : Array Value)) = ⟨its ++ its2⟩ := by simp
  rw [e]; exact h
theorem opI_ok {op : Operator} {a b c : Int} {t u : Tok} (hm : opI op a b = some c) (G : Good B ρ hp s) : TreeOk B d ρ s (binaryOp op (.int a t) (.int b u)) (.int c) hp := by
  intro A Q E hA k
  unfold opI at hm
  split at hm
  · cases hm; exact PySem.P.sub_int (k _ _ _ .refl (G.tok _) (.int _ _))
  · split at hm
    · rename_i h; cases hm
      exact PyProof.Rows.floordiv_int h.1 (k _ _ _ .refl (G.tok _) (.int _ _)) (.inl (PyProof.noPylong_small h.2))
    · cases hm
  · split at hm
    · rename_i h; cases hm
      exact PyProof.Rows.mod_int' h (k _ _ _ .refl (G.tok _) (.int _ _))
    · cases hm
  · split at hm
    · rename_i h; cases hm
      exact PyProof.Rows.lshift_int_small h.1 (by omega) (by omega) (k _ _ _ .refl (G.tok _) (.int _ _))
    · cases hm
  · split at hm
    · rename_i h; cases hm
      exact PyProof.Rows.rshift_int h (k _ _ _ .refl (G.tok _) (.int _ _))
    · cases hm
  · cases hm; exact PyProof.Rows.and_int (k _ _ _ .refl (G.tok _) (.int _ _))
  · cases hm; exact PyProof.Rows.xor_int (k _ _ _ .refl (G.tok _) (.int _ _))
  · cases hm; exact PyProof.Rows.or_int (k _ _ _ .refl (G.tok _) (.int _ _))
  · cases hm
theorem addMV_ok {a b v : MV} {ua ub : Value} (hm : addMV a b hp = some (v, hp')) (G : Good B ρ hp s) (ra : VR s.heap ρ B.l₀ a ua) (rb : VR s.heap ρ B.l₀ b ub) :
    TreeOk B d ρ s (binaryOp .Add ua ub) v hp' := by
  intro A Q E hA k
  unfold addMV at hm
  split at hm
  · cases hm; (first | cases ra using VR.case_int | cases ra using VR.case_str | cases ra using VR.case_bool | cases ra using VR.case_none | cases ra using VR.case_ref | cases ra using VR.case_tup | cases ra using VR.case_bytes | cases ra using VR.case_fix | cases ra using VR.case_script | cases ra); (first | cases rb using VR.case_int | cases rb using VR.case_str | cases rb using VR.case_bool | cases rb using VR.case_none | cases rb using VR.case_ref | cases rb using VR.case_tup | cases rb using VR.case_bytes | cases rb using VR.case_fix | cases rb using VR.case_script | cases rb)
    exact PyProof.Rows.add_int (k _ _ _ .refl (G.tok _) (.int _ _))
  · split at hm
    · rename_i h; cases hm; (first | cases ra using VR.case_int | cases ra using VR.case_str | cases ra using VR.case_bool | cases ra using VR.case_none | cases ra using VR.case_ref | cases ra using VR.case_tup | cases ra using VR.case_bytes | cases ra using VR.case_fix | cases ra using VR.case_script | cases ra); (first | cases rb using VR.case_int | cases rb using VR.case_str | cases rb using VR.case_bool | cases rb using VR.case_none | cases rb using VR.case_ref | cases rb using VR.case_tup | cases rb using VR.case_bytes | cases rb using VR.case_fix | cases rb using VR.case_script | cases rb)
      refine PyProof.Rows.add_str (fun t' tk => ?_) (by rw [strLen_mkS, strLen_mkS]; exact Nat.le_trans h few_le)
      rw [append_mkS]
      exact k _ _ _ .refl (G.tok _) (.str _ _)
    · cases hm
  · split at hm
    · rename_i x y h; cases hm; (first | cases ra using VR.case_int | cases ra using VR.case_str | cases ra using VR.case_bool | cases ra using VR.case_none | cases ra using VR.case_ref | cases ra using VR.case_tup | cases ra using VR.case_bytes | cases ra using VR.case_fix | cases ra using VR.case_script | cases ra); (first | cases rb using VR.case_int | cases rb using VR.case_str | cases rb using VR.case_bool | cases rb using VR.case_none | cases rb using VR.case_ref | cases rb using VR.case_tup | cases rb using VR.case_bytes | cases rb using VR.case_fix | cases rb using VR.case_script | cases rb)
      refine PySem.W.KBy.add_bytes (by simpa [sizeLine_eq] using Nat.le_trans h few_le) (fun t' tk => ?_)
      have e : ((⟨x⟩ : Array UInt8) ++ (⟨y⟩ : Array UInt8)) = ⟨x ++ y⟩ := by simp
      rw [e]
      exact k _ _ _ .refl (G.tok _) (.bytes _ _)
    · cases hm
  · rename_i i j
    split at hm
    · rename_i xs ys hx hy
      split at hm
      · rename_i h; cases hm; cases ra using VR.case_ref with
        | ref a ea => cases rb using VR.case_ref with
          | ref b eb =>
            obtain ⟨vs, hl, hv⟩ := G.listAt hx ea
            obtain ⟨us, hl2, hu⟩ := G.listAt hy eb
            obtain ⟨G', x, r⟩ := G.newList (arr := (vs ++ us).toArray) (hv.append hu) rfl
            exact add_listsG hl hl2 (k _ _ _ x G' r) (by rw [← hv.length, ← hu.length]; exact Nat.le_trans h few_le)
      · cases hm
    · cases hm
  · cases hm
theorem mulMV_ok {a b v : MV} {ua ub : Value} (hm : mulMV a b hp = some (v, hp')) (G : Good B ρ hp s) (ra : VR s.heap ρ B.l₀ a ua) (rb : VR s.heap ρ B.l₀ b ub) :
    TreeOk B d ρ s (binaryOp .Mult ua ub) v hp' := by
  intro A Q E hA k
  unfold mulMV at hm
  split at hm
  · split at hm
    · rename_i h; cases hm; (first | cases ra using VR.case_int | cases ra using VR.case_str | cases ra using VR.case_bool | cases ra using VR.case_none | cases ra using VR.case_ref | cases ra using VR.case_tup | cases ra using VR.case_bytes | cases ra using VR.case_fix | cases ra using VR.case_script | cases ra); (first | cases rb using VR.case_int | cases rb using VR.case_str | cases rb using VR.case_bool | cases rb using VR.case_none | cases rb using VR.case_ref | cases rb using VR.case_tup | cases rb using VR.case_bytes | cases rb using VR.case_fix | cases rb using VR.case_script | cases rb)
      exact PyProof.Rows.mul_int (k _ _ _ .refl (G.tok _) (.int _ _)) (.of_left (intBits_le_64 (by omega) (by omega)))
    · cases hm
  · split at hm
    · rename_i c n h; cases hm; (first | cases ra using VR.case_int | cases ra using VR.case_str | cases ra using VR.case_bool | cases ra using VR.case_none | cases ra using VR.case_ref | cases ra using VR.case_tup | cases ra using VR.case_bytes | cases ra using VR.case_fix | cases ra using VR.case_script | cases ra); (first | cases rb using VR.case_int | cases rb using VR.case_str | cases rb using VR.case_bool | cases rb using VR.case_none | cases rb using VR.case_ref | cases rb using VR.case_tup | cases rb using VR.case_bytes | cases rb using VR.case_fix | cases rb using VR.case_script | cases rb)
      subst h
      refine PySem.P.mul_str (by decide) (fun _ _ => ?_) (fun _ _ => ?_) ?_
      · show ¬ (((1 : Nat) : Int) > (2 ^ 63 - 1) / 2)
        decide
      · rw [strLen_mkS]; rfl
      · refine ⟨?_, ?_⟩
        · show (2 : Nat) ≤ sizeLine; decide
        · exact k _ _ _ .refl (G.tok _) (.str [c, c] _)
    · cases hm
  · cases hm
theorem intMV_ok {op : Operator} {a b v : MV} {ua ub : Value} (hm : intMV (opI op) a b hp = some (v, hp')) (G : Good B ρ hp s) (ra : VR s.heap ρ B.l₀ a ua) (rb : VR s.heap ρ B.l₀ b ub) :
    TreeOk B d ρ s (binaryOp op ua ub) v hp' := by
  unfold intMV at hm
  split at hm
  · split at hm
    · rename_i h; cases hm; (first | cases ra using VR.case_int | cases ra using VR.case_str | cases ra using VR.case_bool | cases ra using VR.case_none | cases ra using VR.case_ref | cases ra using VR.case_tup | cases ra using VR.case_bytes | cases ra using VR.case_fix | cases ra using VR.case_script | cases ra); (first | cases rb using VR.case_int | cases rb using VR.case_str | cases rb using VR.case_bool | cases rb using VR.case_none | cases rb using VR.case_ref | cases rb using VR.case_tup | cases rb using VR.case_bytes | cases rb using VR.case_fix | cases rb using VR.case_script | cases rb); exact opI_ok h G
    · cases hm
  · cases hm
theorem binMV_ok {op : Operator} {a b v : MV} {ua ub : Value} (hm : binMV op a b hp = some (v, hp')) (G : Good B ρ hp s) (ra : VR s.heap ρ B.l₀ a ua) (rb : VR s.heap ρ B.l₀ b ub) :
    TreeOk B d ρ s (binaryOp op ua ub) v hp' := by
  unfold binMV at hm
  split at hm
  · exact addMV_ok hm G ra rb
  · exact mulMV_ok hm G ra rb
  · exact intMV_ok hm G ra rb
noncomputable def mBin (op : Operator) (m1 m2 : ME) : ME := fun loc hp => match m1 loc hp with
  | none => none
  | some (a, hp1) => match m2 loc hp1 with
    | none => none
    | some (b, hp2) => binMV op a b hp2
theorem snd_bin {l r : PySem.Expr} {op : Operator} {pos : Pos} {m1 m2 : ME} (S1 : SndE B d Γ l m1) (S2 : SndE B d Γ r m2) : SndE B d Γ (.BinOp l op r pos) (mBin op m1 m2) := by
  intro env loc hp v hp' ρ s hm G F A Q E hA k
  unfold mBin at hm
  split at hm
  · cases hm
  · rename_i a hp1 h1
    split at hm
    · cases hm
    · rename_i b hp2 h2
      refine wpAny_BinOp (S1.run h1 G F hA fun ua ρ1 s1 x1 G1 F1 r1 => S2.run h2 G1 F1 hA fun ub ρ2 s2 x2 G2 F2 r2 => ?_)
      exact binMV_ok (d := d) hm G2 (G1.vr x2 .nil r1) r2 A Q E hA fun u ρ3 s3 x3 G3 r3 => k u ρ3 s3 (x1.trans (x2.trans x3)) G3 r3
end
end Mine
end
section
open PySem PySem.W PyProof.Rows PySem.Spec PySem.Calls
set_option linter.unusedVariables false
namespace Mine
noncomputable def eqA (a b : MV) : Option Bool := match a, b with
  | .int a, .int b => some (a == b)
  | .str a, .str b => some (a == b)
  | .bool a, .bool b => some (a == b)
  | _, _ => none
noncomputable def eqAll (f : MV → MV → Option Bool) : List MV → List MV → Option Bool
  | [], [] => some true
  | x :: xs, y :: ys => match f x y with
    | none => none
    | some a => match eqAll f xs ys with
      | none => none
      | some b => some (a && b)
  | _, _ => some false
noncomputable def eqT (a b : MV) : Option Bool := match a, b with
  | .tup xs, .tup ys => eqAll eqA xs ys
  | a, b => eqA a b
noncomputable def eqV (a b : MV) (hp : List MO) : Option Bool := match a, b with
  | .ref i, .ref j => match listOf hp i, listOf hp j with
    | some xs, some ys => if xs.length = ys.length then eqAll eqT xs ys else some false
    | _, _ => none
  | a, b => eqA a b
noncomputable def isV (a b : MV) : Option Bool := match a, b with
  | .none, .none => some true
  | .int _, .none => some false
  | .str _, .none => some false
  | .ref _, .none => some false
  | .fix (.type a), .fix (.type b) => some (a == b)
  | _, _ => none
noncomputable def anyIn (x : MV) : List MV → Option Bool
  | [] => some false
  | y :: ys => match eqA y x with
    | none => none
    | some a => match anyIn x ys with
      | none => none
      | some b => some (a || b)
noncomputable def inV (a b : MV) (hp : List MO) : Option Bool := match b with
  | .ref i => match listOf hp i with
    | some xs => anyIn a xs
    | none => none
  | _ => none
noncomputable def cmpMV (op : CmpOp) (a b : MV) (hp : List MO) : Option Bool := match op with
  | .Eq => eqV a b hp
  | .NotEq => (eqV a b hp).map not
  | .Lt => match a, b with | .int a, .int b => some (decide (a < b)) | _, _ => none
  | .LtE => match a, b with | .int a, .int b => some (decide (a ≤ b)) | _, _ => none
  | .Gt => match a, b with | .int a, .int b => some (decide (b < a)) | _, _ => none
  | .GtE => match a, b with | .int a, .int b => some (decide (b ≤ a)) | _, _ => none
  | .Is => isV a b
  | .IsNot => (isV a b).map not
  | .In => inV a b hp
  | .NotIn => (inV a b hp).map not
section
variable {B : Base} {d : Nat} {Γ : Ctx} {env : Env} {loc : Loc} {hp hp' : List MO} {ρ : List Addr} {s : Shared} {A : Around} {E : Value → Shared → Prop}
theorem mkS_beq (x y : List Nat) : (mkS x == mkS y) = (x == y) := by
  rw [Bool.eq_iff_iff]; simp [mkS]
theorem eqA_at {a b : MV} {r : Bool} {ua ub : Value} {h : Heap} {l₀ : Addr} (e : eqA a b = some r) (ra : VR h ρ l₀ a ua) (rb : VR h ρ l₀ b ub) : SeqAt.EqAt A s ua ub r := by
  unfold eqA at e
  split at e
  · cases e; (first | cases ra using VR.case_int | cases ra using VR.case_str | cases ra using VR.case_bool | cases ra using VR.case_none | cases ra using VR.case_ref | cases ra using VR.case_tup | cases ra using VR.case_bytes | cases ra using VR.case_fix | cases ra using VR.case_script | cases ra); (first | cases rb using VR.case_int | cases rb using VR.case_str | cases rb using VR.case_bool | cases rb using VR.case_none | cases rb using VR.case_ref | cases rb using VR.case_tup | cases rb using VR.case_bytes | cases rb using VR.case_fix | cases rb using VR.case_script | cases rb); exact SeqAt.EqAt.int_int _ _ _ _
  · cases e; (first | cases ra using VR.case_int | cases ra using VR.case_str | cases ra using VR.case_bool | cases ra using VR.case_none | cases ra using VR.case_ref | cases ra using VR.case_tup | cases ra using VR.case_bytes | cases ra using VR.case_fix | cases ra using VR.case_script | cases ra); (first | cases rb using VR.case_int | cases rb using VR.case_str | cases rb using VR.case_bool | cases rb using VR.case_none | cases rb using VR.case_ref | cases rb using VR.case_tup | cases rb using VR.case_bytes | cases rb using VR.case_fix | cases rb using VR.case_script | cases rb); rw [← mkS_beq]; exact SeqAt.EqAt.str_str _ _ _ _
  · cases e; (first | cases ra using VR.case_int | cases ra using VR.case_str | cases ra using VR.case_bool | cases ra using VR.case_none | cases ra using VR.case_ref | cases ra using VR.case_tup | cases ra using VR.case_bytes | cases ra using VR.case_fix | cases ra using VR.case_script | cases ra); (first | cases rb using VR.case_int | cases rb using VR.case_str | cases rb using VR.case_bool | cases rb using VR.case_none | cases rb using VR.case_ref | cases rb using VR.case_tup | cases rb using VR.case_bytes | cases rb using VR.case_fix | cases rb using VR.case_script | cases rb); exact SeqAt.EqAt.bool_bool _ _
  · cases e
theorem eqAll_at {f : MV → MV → Option Bool} {h : Heap} {l₀ : Addr} (hf : ∀ x y r ux uy, f x y = some r → VR h ρ l₀ x ux → VR h ρ l₀ y uy → SeqAt.EqAt A s ux uy r) :
    ∀ {xs ys vs us r}, eqAll f xs ys = some r → VRL h ρ l₀ xs vs → VRL h ρ l₀ ys us →
      ∃ e : Nat → Bool, (∀ j (h1 : j < vs.length) (h2 : j < us.length), SeqAt.EqAt A s vs[j] us[j] (e j)) ∧ ((List.range (min vs.length us.length)).all e && vs.length == us.length) = r
  | _, _, _, _, r, he, .nil, .nil => ⟨fun _ => true, fun j h1 => absurd h1 (Nat.not_lt_zero _), by cases he; rfl⟩
  | _, _, _, _, r, he, .nil, .cons _ _ => ⟨fun _ => true, fun j h1 => absurd h1 (Nat.not_lt_zero _), by cases he; rfl⟩
  | _, _, _, _, r, he, .cons _ _, .nil => ⟨fun _ => true, fun j _ h1 => absurd h1 (Nat.not_lt_zero _), by cases he; rfl⟩
  | x :: xs, y :: ys, v :: vs, u :: us, r, he, .cons a b, .cons a' b' => by
    unfold eqAll at he
    split at he
    · cases he
    · rename_i r1 h1
      split at he
      · cases he
      · rename_i r2 h2
        obtain ⟨e, q1, q2⟩ := eqAll_at hf h2 b b'
        cases he
        refine ⟨fun j => match j with | 0 => r1 | j + 1 => e j, fun j k1 k2 => ?_, ?_⟩
        · cases j with
          | zero => exact hf _ _ _ _ _ h1 a a'
          | succ j => exact q1 j (by simpa using k1) (by simpa using k2)
        · rw [← q2]
          simp only [List.length_cons, Nat.succ_min_succ, Nat.add_min_add_right, List.range_succ_eq_map, List.all_cons, List.all_map]
          have : (vs.length + 1 == us.length + 1) = (vs.length == us.length) := by rw [Bool.eq_iff_iff]; simp
          rw [this, Bool.and_assoc]
          rfl
noncomputable def valEq (u y : Value) : Bool := match y, u with
  | .int a _, .int b _ => a == b
  | .str a _, .str b _ => a == b
  | .bool a, .bool b => a == b
  | _, _ => false
theorem anyIn_at {a : MV} {ua : Value} {h : Heap} {l₀ : Addr} (ra : VR h ρ l₀ a ua) : ∀ {xs vs r}, anyIn a xs = some r → VRL h ρ l₀ xs vs →
    (∀ y ∈ vs, SeqAt.EqAt A s y ua (valEq ua y)) ∧ vs.any (valEq ua) = r
  | _, _, r, e, .nil => by
    cases e
    exact ⟨fun _ h => (nomatch h), rfl⟩
  | x :: xs, v :: vs, r, e, .cons p q => by
    unfold anyIn at e
    split at e
    · cases e
    · rename_i r1 h1
      split at e
      · cases e
      · rename_i r2 h2
        obtain ⟨i1, i2⟩ := anyIn_at ra h2 q
        cases e
        have hv : valEq ua v = r1 := by
          unfold eqA at h1
          split at h1
          · cases h1; cases p; (first | cases ra using VR.case_int | cases ra using VR.case_str | cases ra using VR.case_bool | cases ra using VR.case_none | cases ra using VR.case_ref | cases ra using VR.case_tup | cases ra using VR.case_bytes | cases ra using VR.case_fix | cases ra using VR.case_script | cases ra); rfl
          · cases h1; cases p; (first | cases ra using VR.case_int | cases ra using VR.case_str | cases ra using VR.case_bool | cases ra using VR.case_none | cases ra using VR.case_ref | cases ra using VR.case_tup | cases ra using VR.case_bytes | cases ra using VR.case_fix | cases ra using VR.case_script | cases ra); exact mkS_beq _ _
          · cases h1; cases p; (first | cases ra using VR.case_int | cases ra using VR.case_str | cases ra using VR.case_bool | cases ra using VR.case_none | cases ra using VR.case_ref | cases ra using VR.case_tup | cases ra using VR.case_bytes | cases ra using VR.case_fix | cases ra using VR.case_script | cases ra); rfl
          · cases h1
        refine ⟨fun y hy => ?_, by rw [List.any_cons, hv, i2]⟩
        rcases List.mem_cons.mp hy with rfl | hy
        · rw [hv]; exact eqA_at h1 p ra
        · exact i1 y hy
theorem VRL.det_eq {h : Heap} {l₀ : Addr} : ∀ {xs ys : List MV} {vs : List Value}, VRL h ρ l₀ xs vs → VRL h ρ l₀ ys vs → ∀ r, eqAll eqA xs ys = some r → r = true
  | _, _, _, .nil, .nil, r, e => by cases e; rfl
  | x :: xs, y :: ys, v :: vs, .cons a b, .cons a' b', r, e => by
    unfold eqAll at e
    split at e
    · cases e
    · rename_i r1 h1
      split at e
      · cases e
      · rename_i r2 h2
        cases e
        have := b.det_eq b' r2 h2
        subst this
        have : r1 = true := by
          unfold eqA at h1
          split at h1
          · cases h1; cases a; cases a'; simp
          · cases h1; cases a; cases a'; simp
          · cases h1; cases a; cases a'; simp
          · cases h1
        subst this
        rfl
theorem eqT_at {a b : MV} {r : Bool} {ua ub : Value} (hA : AOK (d + 1) A) (e : eqT a b = some r) (ra : VR s.heap ρ B.l₀ a ua) (rb : VR s.heap ρ B.l₀ b ub) : SeqAt.EqAt A.in1 s ua ub r := by
  unfold eqT at e
  split at e
  · rename_i xs ys
    cases ra using VR.case_tup with
    | tup vs a ta la => cases rb using VR.case_tup with
      | tup us b tb lb =>
        by_cases hab : a = b
        · subst hab
          obtain ⟨o, eo, _, n, hd⟩ := ta
          have := IsTuple.det tb eo
          obtain ⟨_, n', hd'⟩ := this
          rw [hd] at hd'
          injection hd' with q _
          injection q with q
          subst q
          rw [la.det_eq lb r e]
          exact SeqAt.EqAt.same _
        · obtain ⟨f, q1, q2⟩ := eqAll_at (A := A.in1.in1) (s := s) (fun x y r ux uy h1 h2 h3 => eqA_at h1 h2 h3) e la lb
          refine SeqAt.EqAt.of_refs hab ?_
          have := SeqAt.RcAt.tuples (A := A.in1) (s := s) (e := f) ta tb hA.in1.cl (fun j h1 h2 => q1 j h1 h2)
          rw [← q2]
          exact this
  · exact eqA_at e ra rb
theorem cmpMV_ok {op : CmpOp} {a b : MV} {r : Bool} {ua ub : Value} (hm : cmpMV op a b hp = some r) (G : Good B ρ hp s) (ra : VR s.heap ρ B.l₀ a ua) (rb : VR s.heap ρ B.l₀ b ub)
    (hA : AOK (d + 1) A) {Q : Value → Shared → Prop} (k : Q (.bool r) s) : wpAny (model B.prog B.w) A (compareOp op ua ub) Q E s := by
  have key : ∀ r, eqV a b hp = some r → SeqAt.RcAt A s ua ub r ∧ SeqAt.RcNeAt A s ua ub (!r) := by
    intro r hm
    unfold eqV at hm
    split at hm
    · rename_i i j
      split at hm
      · rename_i xs ys hx hy
        cases ra using VR.case_ref with
        | ref a ea => cases rb using VR.case_ref with
          | ref b eb =>
            obtain ⟨vs, hl, hv⟩ := G.listAt hx ea
            obtain ⟨us, hl2, hu⟩ := G.listAt hy eb
            split at hm
            · rename_i hlen
              have hsz : vs.length = us.length := by rw [← hv.length, ← hu.length, hlen]
              obtain ⟨f, q1, q2⟩ := eqAll_at (A := A.in1) (s := s) (fun x y r ux uy h1 h2 h3 => eqT_at (d := d) hA h1 h2 h3) hm hv hu
              have q2' : (List.range vs.length).all f = r := by
                rw [← q2, hsz, Nat.min_self]; simp
              refine ⟨?_, ?_⟩
              · have := SeqAt.RcAt.lists (A := A) (s := s) (e := f) hl hl2 hsz hA.cl (fun j h1 h2 => q1 j h1 h2)
                rw [← q2']; exact this
              · have := SeqAt.RcNeAt.lists (A := A) (s := s) (e := f) hl hl2 hsz hA.cl (fun j h1 h2 => q1 j h1 h2)
                rw [← q2']; exact this
            · rename_i hlen
              cases hm
              have hne : ((⟨vs⟩ : Array Value).size != (⟨us⟩ : Array Value).size) = true := by
                show (vs.length != us.length) = true
                rw [bne_iff_ne]; rw [← hv.length, ← hu.length]; exact hlen
              exact ⟨SeqAt.RcAt.lists_lengths hl hl2 hne hA.cl, SeqAt.RcNeAt.lists_lengths hl hl2 hne hA.cl⟩
      · cases hm
    · unfold eqA at hm
      split at hm
      · cases hm; (first | cases ra using VR.case_int | cases ra using VR.case_str | cases ra using VR.case_bool | cases ra using VR.case_none | cases ra using VR.case_ref | cases ra using VR.case_tup | cases ra using VR.case_bytes | cases ra using VR.case_fix | cases ra using VR.case_script | cases ra); (first | cases rb using VR.case_int | cases rb using VR.case_str | cases rb using VR.case_bool | cases rb using VR.case_none | cases rb using VR.case_ref | cases rb using VR.case_tup | cases rb using VR.case_bytes | cases rb using VR.case_fix | cases rb using VR.case_script | cases rb)
        exact ⟨fun prog w E Q h => PyProof.Rows.eq_int h, SeqAt.RcNeAt.int_int _ _ _ _⟩
      · cases hm; (first | cases ra using VR.case_int | cases ra using VR.case_str | cases ra using VR.case_bool | cases ra using VR.case_none | cases ra using VR.case_ref | cases ra using VR.case_tup | cases ra using VR.case_bytes | cases ra using VR.case_fix | cases ra using VR.case_script | cases ra); (first | cases rb using VR.case_int | cases rb using VR.case_str | cases rb using VR.case_bool | cases rb using VR.case_none | cases rb using VR.case_ref | cases rb using VR.case_tup | cases rb using VR.case_bytes | cases rb using VR.case_fix | cases rb using VR.case_script | cases rb)
        rw [← mkS_beq]
        exact ⟨fun prog w E Q h => PyProof.Rows.eq_str h, SeqAt.RcNeAt.str_str _ _ _ _⟩
      · cases hm; (first | cases ra using VR.case_int | cases ra using VR.case_str | cases ra using VR.case_bool | cases ra using VR.case_none | cases ra using VR.case_ref | cases ra using VR.case_tup | cases ra using VR.case_bytes | cases ra using VR.case_fix | cases ra using VR.case_script | cases ra); (first | cases rb using VR.case_int | cases rb using VR.case_str | cases rb using VR.case_bool | cases rb using VR.case_none | cases rb using VR.case_ref | cases rb using VR.case_tup | cases rb using VR.case_bytes | cases rb using VR.case_fix | cases rb using VR.case_script | cases rb)
        exact ⟨fun prog w E Q h => PyProof.Rows.eq_bool h, SeqAt.RcNeAt.bool_bool _ _⟩
      · cases hm
  have keyIs : ∀ r, isV a b = some r → isSame ua ub = pure r := by
    intro r hm
    unfold isV at hm
    split at hm
    · cases hm; (first | cases ra using VR.case_int | cases ra using VR.case_str | cases ra using VR.case_bool | cases ra using VR.case_none | cases ra using VR.case_ref | cases ra using VR.case_tup | cases ra using VR.case_bytes | cases ra using VR.case_fix | cases ra using VR.case_script | cases ra); (first | cases rb using VR.case_int | cases rb using VR.case_str | cases rb using VR.case_bool | cases rb using VR.case_none | cases rb using VR.case_ref | cases rb using VR.case_tup | cases rb using VR.case_bytes | cases rb using VR.case_fix | cases rb using VR.case_script | cases rb); rfl
    · cases hm; (first | cases ra using VR.case_int | cases ra using VR.case_str | cases ra using VR.case_bool | cases ra using VR.case_none | cases ra using VR.case_ref | cases ra using VR.case_tup | cases ra using VR.case_bytes | cases ra using VR.case_fix | cases ra using VR.case_script | cases ra); (first | cases rb using VR.case_int | cases rb using VR.case_str | cases rb using VR.case_bool | cases rb using VR.case_none | cases rb using VR.case_ref | cases rb using VR.case_tup | cases rb using VR.case_bytes | cases rb using VR.case_fix | cases rb using VR.case_script | cases rb); rfl
    · cases hm; (first | cases ra using VR.case_int | cases ra using VR.case_str | cases ra using VR.case_bool | cases ra using VR.case_none | cases ra using VR.case_ref | cases ra using VR.case_tup | cases ra using VR.case_bytes | cases ra using VR.case_fix | cases ra using VR.case_script | cases ra); (first | cases rb using VR.case_int | cases rb using VR.case_str | cases rb using VR.case_bool | cases rb using VR.case_none | cases rb using VR.case_ref | cases rb using VR.case_tup | cases rb using VR.case_bytes | cases rb using VR.case_fix | cases rb using VR.case_script | cases rb); rfl
    · cases hm; (first | cases ra using VR.case_int | cases ra using VR.case_str | cases ra using VR.case_bool | cases ra using VR.case_none | cases ra using VR.case_ref | cases ra using VR.case_tup | cases ra using VR.case_bytes | cases ra using VR.case_fix | cases ra using VR.case_script | cases ra); (first | cases rb using VR.case_int | cases rb using VR.case_str | cases rb using VR.case_bool | cases rb using VR.case_none | cases rb using VR.case_ref | cases rb using VR.case_tup | cases rb using VR.case_bytes | cases rb using VR.case_fix | cases rb using VR.case_script | cases rb); rfl
    · cases hm; (first | cases ra using VR.case_int | cases ra using VR.case_str | cases ra using VR.case_bool | cases ra using VR.case_none | cases ra using VR.case_ref | cases ra using VR.case_tup | cases ra using VR.case_bytes | cases ra using VR.case_fix | cases ra using VR.case_script | cases ra); (first | cases rb using VR.case_int | cases rb using VR.case_str | cases rb using VR.case_bool | cases rb using VR.case_none | cases rb using VR.case_ref | cases rb using VR.case_tup | cases rb using VR.case_bytes | cases rb using VR.case_fix | cases rb using VR.case_script | cases rb)
      rw [isSame_plain rfl]
      congr 1
      rw [Bool.eq_iff_iff]; simp
    · cases hm
  have keyIn : ∀ r, inV a b hp = some r → ∃ l its, ub = .ref l ∧ s.heap.IsList l its ∧ ∃ e : Value → Bool, (∀ y, y ∈ its → SeqAt.EqAt A.in1 s y ua (e y)) ∧ its.any e = r := by
    intro r hm
    unfold inV at hm
    split at hm
    · split at hm
      · rename_i xs hx
        cases rb using VR.case_ref with
        | ref b eb =>
          obtain ⟨vs, hl, hv⟩ := G.listAt hx eb
          obtain ⟨q1, q2⟩ := anyIn_at (A := A.in1) (s := s) ra hm hv
          refine ⟨b, _, rfl, hl, valEq ua, fun y hy => q1 y (by simpa using hy), ?_⟩
          rw [← q2]; simp
      · cases hm
    · cases hm
  cases op with
  | Eq => exact (key r hm).1 _ _ _ _ k
  | NotEq =>
    simp only [cmpMV, Option.map_eq_some_iff] at hm
    obtain ⟨r', h1, rfl⟩ := hm
    exact (key r' h1).2 _ _ _ _ k
  | Lt =>
    simp only [cmpMV] at hm
    split at hm
    · cases hm; (first | cases ra using VR.case_int | cases ra using VR.case_str | cases ra using VR.case_bool | cases ra using VR.case_none | cases ra using VR.case_ref | cases ra using VR.case_tup | cases ra using VR.case_bytes | cases ra using VR.case_fix | cases ra using VR.case_script | cases ra); (first | cases rb using VR.case_int | cases rb using VR.case_str | cases rb using VR.case_bool | cases rb using VR.case_none | cases rb using VR.case_ref | cases rb using VR.case_tup | cases rb using VR.case_bytes | cases rb using VR.case_fix | cases rb using VR.case_script | cases rb); exact PyProof.Rows.lt_int k
    · cases hm
  | LtE =>
    simp only [cmpMV] at hm
    split at hm
    · cases hm; (first | cases ra using VR.case_int | cases ra using VR.case_str | cases ra using VR.case_bool | cases ra using VR.case_none | cases ra using VR.case_ref | cases ra using VR.case_tup | cases ra using VR.case_bytes | cases ra using VR.case_fix | cases ra using VR.case_script | cases ra); (first | cases rb using VR.case_int | cases rb using VR.case_str | cases rb using VR.case_bool | cases rb using VR.case_none | cases rb using VR.case_ref | cases rb using VR.case_tup | cases rb using VR.case_bytes | cases rb using VR.case_fix | cases rb using VR.case_script | cases rb); exact PyProof.Rows.le_int k
    · cases hm
  | Gt =>
    simp only [cmpMV] at hm
    split at hm
    · cases hm; (first | cases ra using VR.case_int | cases ra using VR.case_str | cases ra using VR.case_bool | cases ra using VR.case_none | cases ra using VR.case_ref | cases ra using VR.case_tup | cases ra using VR.case_bytes | cases ra using VR.case_fix | cases ra using VR.case_script | cases ra); (first | cases rb using VR.case_int | cases rb using VR.case_str | cases rb using VR.case_bool | cases rb using VR.case_none | cases rb using VR.case_ref | cases rb using VR.case_tup | cases rb using VR.case_bytes | cases rb using VR.case_fix | cases rb using VR.case_script | cases rb); exact PyProof.Rows.gt_int k
    · cases hm
  | GtE =>
    simp only [cmpMV] at hm
    split at hm
    · cases hm; (first | cases ra using VR.case_int | cases ra using VR.case_str | cases ra using VR.case_bool | cases ra using VR.case_none | cases ra using VR.case_ref | cases ra using VR.case_tup | cases ra using VR.case_bytes | cases ra using VR.case_fix | cases ra using VR.case_script | cases ra); (first | cases rb using VR.case_int | cases rb using VR.case_str | cases rb using VR.case_bool | cases rb using VR.case_none | cases rb using VR.case_ref | cases rb using VR.case_tup | cases rb using VR.case_bytes | cases rb using VR.case_fix | cases rb using VR.case_script | cases rb); exact PyProof.Rows.ge_int k
    · cases hm
  | Is =>
    show wpAny _ A (do return .bool (← isSame ua ub)) Q E s
    rw [keyIs r hm]; exact wpAny_bind (wpAny_pure (wpAny_pure k))
  | IsNot =>
    simp only [cmpMV, Option.map_eq_some_iff] at hm
    obtain ⟨r', h1, rfl⟩ := hm
    show wpAny _ A (do return .bool (!(← isSame ua ub))) Q E s
    rw [keyIs r' h1]; exact wpAny_bind (wpAny_pure (wpAny_pure k))
  | In =>
    obtain ⟨l, its, rfl, hl, e, he, rfl⟩ := keyIn r hm
    exact SeqAt.in_listAt e hl he k
  | NotIn =>
    simp only [cmpMV, Option.map_eq_some_iff] at hm
    obtain ⟨r', h1, rfl⟩ := hm
    obtain ⟨l, its, rfl, hl, e, he, rfl⟩ := keyIn r' h1
    exact SeqAt.notIn_listAt e hl he k
end
end Mine
end
section
open PySem PySem.W PyProof.Rows PySem.Spec PySem.Calls
set_option linter.unusedVariables false
namespace Mine
noncomputable def truMV : MV → Option Bool
  | .bool b => some b
  | .int i => some (i != 0)
  | .none => some false
  | _ => none
noncomputable def mCmp (op : CmpOp) (m1 m2 : ME) : ME := fun loc hp => match m1 loc hp with
  | none => none
  | some (a, hp1) => match m2 loc hp1 with
    | none => none
    | some (b, hp2) => match cmpMV op a b hp2 with
      | none => none
      | some r => some (.bool r, hp2)
noncomputable def tCmp (op : CmpOp) (m1 m2 : ME) : MT := fun loc hp => match m1 loc hp with
  | none => none
  | some (a, hp1) => match m2 loc hp1 with
    | none => none
    | some (b, hp2) => match cmpMV op a b hp2 with
      | none => none
      | some r => some (r, hp2)
noncomputable def tVal (m : ME) : MT := fun loc hp => match m loc hp with
  | none => none
  | some (a, hp1) => match truMV a with
    | none => none
    | some r => some (r, hp1)
noncomputable def tNot (m : MT) : MT := fun loc hp => match m loc hp with
  | none => none
  | some (r, hp1) => some (!r, hp1)
noncomputable def tOr (m1 m2 : MT) : MT := fun loc hp => match m1 loc hp with
  | none => none
  | some (true, hp1) => some (true, hp1)
  | some (false, hp1) => m2 loc hp1
noncomputable def mIf (t : MT) (m1 m2 : ME) : ME := fun loc hp => match t loc hp with
  | none => none
  | some (true, hp1) => m1 loc hp1
  | some (false, hp1) => m2 loc hp1
noncomputable def lNil : ML := fun _ hp => some ([], hp)
noncomputable def lCons (m : ME) (l : ML) : ML := fun loc hp => match m loc hp with
  | none => none
  | some (v, hp1) => match l loc hp1 with
    | none => none
    | some (vs, hp2) => some (v :: vs, hp2)
noncomputable def mList (l : ML) : ME := fun loc hp => match l loc hp with
  | none => none
  | some (vs, hp1) => if vs.length ≤ few then some (.ref hp1.length, hp1 ++ [.list vs]) else none
noncomputable def mTup (l : ML) : ME := fun loc hp => match l loc hp with
  | none => none
  | some (vs, hp1) => if vs.length ≤ few then some (.tup vs, hp1) else none
section
variable {B : Base} {d : Nat} {Γ : Ctx} {env : Env} {loc : Loc} {hp hp' : List MO} {ρ : List Addr} {s : Shared} {A : Around} {E : Value → Shared → Prop}
theorem truMV_ok {a : MV} {r : Bool} {ua : Value} {h : Heap} {l₀ : Addr} (hm : truMV a = some r) (ra : VR h ρ l₀ a ua) {Q : Bool → Shared → Prop} (k : Q r s) : wpAny (model B.prog B.w) A (truthy ua) Q E s := by
  unfold truMV at hm
  split at hm
  · cases hm; (first | cases ra using VR.case_int | cases ra using VR.case_str | cases ra using VR.case_bool | cases ra using VR.case_none | cases ra using VR.case_ref | cases ra using VR.case_tup | cases ra using VR.case_bytes | cases ra using VR.case_fix | cases ra using VR.case_script | cases ra); exact wpAny_truthy_bool k
  · cases hm; (first | cases ra using VR.case_int | cases ra using VR.case_str | cases ra using VR.case_bool | cases ra using VR.case_none | cases ra using VR.case_ref | cases ra using VR.case_tup | cases ra using VR.case_bytes | cases ra using VR.case_fix | cases ra using VR.case_script | cases ra); exact PyProof.Rows.truthy_int k
  · cases hm; (first | cases ra using VR.case_int | cases ra using VR.case_str | cases ra using VR.case_bool | cases ra using VR.case_none | cases ra using VR.case_ref | cases ra using VR.case_tup | cases ra using VR.case_bytes | cases ra using VR.case_fix | cases ra using VR.case_script | cases ra); exact truthy_none k
  · cases hm
theorem SndT.run {e : PySem.Expr} {m : MT} (S : SndT B d Γ e m) {b : Bool} {hp₁ : List MO} (hm : m loc hp = some (b, hp₁)) (G : Good B ρ hp s) (F : FrR B Γ env loc ρ s.heap) (hA : AOK d A) {Q : Bool → Shared → Prop}
    (k : ∀ ρ₁ s₁, Ext ρ s.heap ρ₁ s₁.heap [] → Good B ρ₁ hp₁ s₁ → FrR B Γ env loc ρ₁ s₁.heap → Q b s₁) : wpAny (model B.prog B.w) A (isTrue e env (eval e env)) Q E s :=
  S env loc hp b hp₁ ρ s hm G F A Q E hA fun ρ' s' x G' => k ρ' s' x G' (F.ext G x)
theorem snd_cmp {l r : PySem.Expr} {op : CmpOp} {pos : Pos} {m1 m2 : ME} (S1 : SndE B (d + 1) Γ l m1) (S2 : SndE B (d + 1) Γ r m2) (hm : behindInMarks op r = false := by with_unfolding_all rfl) : SndE B (d + 1) Γ (.Compare l [op] [r] pos) (mCmp op m1 m2) := by
  intro env loc hp v hp' ρ s hm' G F A Q E hA k
  unfold mCmp at hm'
  split at hm'
  · cases hm'
  · rename_i a hp1 h1
    split at hm'
    · cases hm'
    · rename_i b hp2 h2
      split at hm'
      · cases hm'
      · rename_i r' h3
        cases hm'
        refine wpAny_Compare1 (S1.run h1 G F hA fun ua ρ1 s1 x1 G1 F1 r1 => S2.run h2 G1 F1 hA fun ub ρ2 s2 x2 G2 F2 r2 => ?_) hm
        exact cmpMV_ok h3 G2 (G1.vr x2 .nil r1) r2 hA (k _ _ _ (x1.trans x2) G2 (.bool _))
theorem snd_t_cmp {l r : PySem.Expr} {op : CmpOp} {pos : Pos} {m1 m2 : ME} (S1 : SndE B (d + 1) Γ l m1) (S2 : SndE B (d + 1) Γ r m2) (hm : behindInMarks op r = false := by with_unfolding_all rfl) : SndT B (d + 1) Γ (.Compare l [op] [r] pos) (tCmp op m1 m2) := by
  intro env loc hp v hp' ρ s hm' G F A Q E hA k
  unfold tCmp at hm'
  split at hm'
  · cases hm'
  · rename_i a hp1 h1
    split at hm'
    · cases hm'
    · rename_i b hp2 h2
      split at hm'
      · cases hm'
      · rename_i r' h3
        cases hm'
        refine wpAny_isTrue_Compare1 (S1.run h1 G F hA fun ua ρ1 s1 x1 G1 F1 r1 => S2.run h2 G1 F1 hA fun ub ρ2 s2 x2 G2 F2 r2 => ?_) hm
        exact cmpMV_ok h3 G2 (G1.vr x2 .nil r1) r2 hA (wpAny_truthy_bool (k _ _ (x1.trans x2) G2))
theorem snd_t_val {e : PySem.Expr} {m : ME} (S : SndE B d Γ e m) (he : ∀ env whole, isTrue e env whole = (do let v ← whole; standAt e.pos; holding [v] (truthy v)) := by intros; rfl) : SndT B d Γ e (tVal m) := by
  intro env loc hp v hp' ρ s hm' G F A Q E hA k
  unfold tVal at hm'
  split at hm'
  · cases hm'
  · rename_i a hp1 h1
    split at hm'
    · cases hm'
    · rename_i r h2
      cases hm'
      exact PySem.wpAny_isTrue_value (S.run h1 G F hA fun ua ρ1 s1 x1 G1 F1 r1 => truMV_ok h2 r1 (k _ _ x1 G1)) (he _ _)
theorem snd_t_not {e : PySem.Expr} {pos : Pos} {m : MT} (S : SndT B d Γ e m) : SndT B d Γ (.UnaryOp .Not e pos) (tNot m) := by
  intro env loc hp v hp' ρ s hm' G F A Q E hA k
  unfold tNot at hm'
  split at hm'
  · cases hm'
  · rename_i r hp1 h1
    cases hm'
    exact PyProof.Rows.isTrue_not (S.run h1 G F hA fun ρ1 s1 x1 G1 F1 => k _ _ x1 G1)
theorem snd_t_or {e f : PySem.Expr} {pos : Pos} {m1 m2 : MT} (S1 : SndT B d Γ e m1) (S2 : SndT B d Γ f m2) : SndT B d Γ (.BoolOp .Or [e, f] pos) (tOr m1 m2) := by
  intro env loc hp v hp' ρ s hm' G F A Q E hA k
  unfold tOr at hm'
  split at hm'
  · cases hm'
  · rename_i hp1 h1
    cases hm'
    exact PyProof.Rows.isTrue_or (S1.run h1 G F hA fun ρ1 s1 x1 G1 F1 => k _ _ x1 G1)
  · rename_i hp1 h1
    refine PyProof.Rows.isTrue_or (S1.run h1 G F hA fun ρ1 s1 x1 G1 F1 => PyProof.Rows.isTrue_or (S2.run hm' G1 F1 hA fun ρ2 s2 x2 G2 F2 => ?_))
    cases v with
    | true => exact k _ _ (x1.trans x2) G2
    | false => exact PyProof.Rows.isTrue_or_nil (k _ _ (x1.trans x2) G2)
theorem snd_if {t e f : PySem.Expr} {pos : Pos} {mt : MT} {m1 m2 : ME} (S : SndT B d Γ t mt) (S1 : SndE B d Γ e m1) (S2 : SndE B d Γ f m2) : SndE B d Γ (.IfExp t e f pos) (mIf mt m1 m2) := by
  intro env loc hp v hp' ρ s hm' G F A Q E hA k
  unfold mIf at hm'
  split at hm'
  · cases hm'
  · rename_i hp1 h1
    exact wpAny_IfExp (S.run h1 G F hA fun ρ1 s1 x1 G1 F1 => S1.run hm' G1 F1 hA fun u ρ2 s2 x2 G2 F2 r2 => k _ _ _ (x1.trans x2) G2 r2)
  · rename_i hp1 h1
    exact wpAny_IfExp (S.run h1 G F hA fun ρ1 s1 x1 G1 F1 => S2.run hm' G1 F1 hA fun u ρ2 s2 x2 G2 F2 r2 => k _ _ _ (x1.trans x2) G2 r2)
theorem snd_nil : SndL B d Γ [] lNil := by
  intro env loc hp v hp' ρ s pos hm' G F A Q E hA k
  cases hm'
  exact wpAny_items_nil (k _ _ _ .refl G .nil)
theorem snd_cons {e : PySem.Expr} {es : List PySem.Expr} {m : ME} {l : ML} (S : SndE B d Γ e m) (S' : SndL B d Γ es l) (he : ∀ env, starEach (e :: es) env = (false, eval e env) :: starEach es env := by intro; rfl) : SndL B d Γ (e :: es) (lCons m l) := by
  intro env loc hp v hp' ρ s pos hm' G F A Q E hA k
  unfold lCons at hm'
  split at hm'
  · cases hm'
  · rename_i a hp1 h1
    split at hm'
    · cases hm'
    · rename_i b hp2 h2
      cases hm'
      refine wpAny_items_cons (S.run h1 G F hA fun ua ρ1 s1 x1 G1 F1 r1 => ?_) (he env)
      exact S' env loc hp1 b _ ρ1 s1 pos h2 G1 F1 A _ E hA fun us ρ2 s2 x2 G2 r2 => k _ _ _ (x1.trans x2) G2 (.cons (G1.vr x2 .nil r1) r2)
theorem snd_list {es : List PySem.Expr} {pos : Pos} {l : ML} (S : SndL B d Γ es l) : SndE B d Γ (.List es pos) (mList l) := by
  intro env loc hp v hp' ρ s hm' G F A Q E hA k
  unfold mList at hm'
  split at hm'
  · cases hm'
  · rename_i vs hp1 h1
    split at hm'
    · rename_i hf
      cases hm'
      refine PySem.wpAny_List (S env loc hp vs hp1 ρ s pos h1 G F A _ E hA fun us ρ1 s1 x1 G1 r1 => ⟨?_, ?_⟩)
      · rw [← r1.length]; exact Nat.le_trans hf few_le
      · obtain ⟨G2, x2, r2⟩ := G1.newList (arr := us.toArray) r1 rfl
        exact k _ _ _ (x1.trans x2) G2 r2
    · cases hm'
theorem snd_tup {es : List PySem.Expr} {n : Nat} {pos : Pos} {l : ML} (S : SndL B d Γ es l) : SndE B d Γ (.Tuple es n pos) (mTup l) := by
  intro env loc hp v hp' ρ s hm' G F A Q E hA k
  unfold mTup at hm'
  split at hm'
  · cases hm'
  · rename_i vs hp1 h1
    split at hm'
    · rename_i hf
      cases hm'
      refine PySem.wpAny_Tuple (S env loc hp vs _ ρ s pos h1 G F A _ E hA fun us ρ1 s1 x1 G1 r1 => ⟨?_, ?_⟩)
      · rw [← r1.length]; exact Nat.le_trans hf few_le
      · obtain ⟨G2, x2, r2⟩ := G1.newTup (arr := us.toArray) r1 rfl
        exact k _ _ _ (x1.trans x2) G2 r2
    · cases hm'
end
end Mine
end
section
open PySem PySem.W PyProof.Rows PySem.Spec PySem.Calls
set_option linter.unusedVariables false
namespace Mine
inductive FlowR (h : Heap) (ρ : List Addr) (l₀ : Addr) : MFlow → Flow → Prop
  | next : FlowR h ρ l₀ .next .next
  | brk : FlowR h ρ l₀ .brk .brk
  | cont : FlowR h ρ l₀ .cont .cont
  | ret {v u} : VR h ρ l₀ v u → FlowR h ρ l₀ (.ret v) (.ret u)
noncomputable def SndX (B : Base) (d : Nat) (Γ : Ctx) (st : PySem.Stmt) (m : MS) : Prop :=
  ∀ env loc hp fl loc' hp' ρ s, m loc hp = some (fl, loc', hp') → Good B ρ hp s → FrR B Γ env loc ρ s.heap → ∀ A Q E, AOK d A →
    (∀ fl' ρ' s', Ext ρ s.heap ρ' s'.heap (envW env) → Good B ρ' hp' s' → FrR B Γ env loc' ρ' s'.heap → FlowR s'.heap ρ' B.l₀ fl fl' → Q fl' s') → wpAny (model B.prog B.w) A (exec st env) Q E s
noncomputable def SndS (B : Base) (d : Nat) (Γ : Ctx) (ss : List PySem.Stmt) (m : MS) : Prop :=
  ∀ env loc hp fl loc' hp' ρ s, m loc hp = some (fl, loc', hp') → Good B ρ hp s → FrR B Γ env loc ρ s.heap → ∀ A Q E, AOK d A →
    (∀ fl' ρ' s', Ext ρ s.heap ρ' s'.heap (envW env) → Good B ρ' hp' s' → FrR B Γ env loc' ρ' s'.heap → FlowR s'.heap ρ' B.l₀ fl fl' → Q fl' s') → wpAny (model B.prog B.w) A (execs ss env) Q E s
noncomputable def sNil : MS := fun loc hp => some (.next, loc, hp)
noncomputable def sSeq (m1 m2 : MS) : MS := fun loc hp => match m1 loc hp with
  | none => none
  | some (.next, loc1, hp1) => m2 loc1 hp1
  | some (.brk, loc1, hp1) => some (.brk, loc1, hp1)
  | some (.cont, loc1, hp1) => some (.cont, loc1, hp1)
  | some (.ret v, loc1, hp1) => some (.ret v, loc1, hp1)
noncomputable def sSet (i : Nat) (m : ME) : MS := fun loc hp => match m loc hp with
  | none => none
  | some (v, hp1) => some (.next, loc.set i (some v), hp1)
noncomputable def augMV (op : Operator) (a b : MV) : Option MV := match a, b with
  | .int x, .int y => match op with
    | .Add => some (.int (x + y))
    | .Sub => some (.int (x - y))
    | .BitXor => some (.int (Builtin.bitXor x y))
    | .BitOr => some (.int (Builtin.bitOr x y))
    | _ => none
  | _, _ => none
noncomputable def sAug (op : Operator) (i : Nat) (m : ME) : MS := fun loc hp => match mVar i loc hp with
  | none => none
  | some (a, hp1) => match m loc hp1 with
    | none => none
    | some (b, hp2) => match augMV op a b with
      | some w => some (.next, loc.set i (some w), hp2)
      | none => none
noncomputable def sIf (t : MT) (m1 m2 : MS) : MS := fun loc hp => match t loc hp with
  | none => none
  | some (true, hp1) => m1 loc hp1
  | some (false, hp1) => m2 loc hp1
noncomputable def sRet (m : ME) : MS := fun loc hp => match m loc hp with
  | none => none
  | some (v, hp1) => some (.ret v, loc, hp1)
noncomputable def sBrk : MS := fun loc hp => some (.brk, loc, hp)
noncomputable def sNone : MS := fun _ _ => none
section
variable {B : Base} {d : Nat} {Γ : Ctx} {env : Env} {loc : Loc} {hp hp' : List MO} {ρ : List Addr} {s : Shared} {A : Around} {E : Value → Shared → Prop}
theorem Good.touch (G : Good B ρ hp s) {h' : Heap} {tk : Nat} {W : List Addr} (hk : ∀ b o, s.heap.get? b = some o → b ∉ W → h'.get? b = some o)
    (hρ : ∀ a ∈ W, a ∉ ρ) (hn : ∀ a ∈ W, B.s₀.heap.get? a = none) (hW : NoTup s.heap W) :
    Good B ρ hp { s with heap := h', toks := tk } ∧ Ext ρ s.heap ρ h' W := by
  have x : Ext ρ s.heap ρ h' W := ⟨⟨[], by simp, fun _ q => nomatch q⟩, fun b o e _ h2 => hk b o e h2, fun b o e h2 => ⟨o, hk b o e h2⟩⟩
  refine ⟨⟨?_, ?_, G.fresh, G.nd, G.len, ?_⟩, x⟩
  · obtain ⟨h, t, e⟩ := G.same
    exact ⟨h', tk, by rw [e]⟩
  · intro b o e
    exact hk b o (G.keep b o e) fun hb => by rw [hn b hb] at e; cases e
  · intro i mo a e1 e2
    exact (G.ok i mo a e1 e2).ext x G.nt hW fun o e => hk a o e fun hb => hρ a hb (List.mem_of_getElem? e2)
theorem FrR.ns_out (F : FrR B Γ env loc ρ s.heap) : env.locals ∉ ρ := F.out _ (List.mem_cons_self ..)
theorem FrR.cell_in (F : FrR B Γ env loc ρ s.heap) {n : Str} {c : Addr} (e : env.cells.lookup n = some c) : c ∈ envW env := List.mem_cons_of_mem _ (List.mem_map.mpr ⟨_, mem_of_lookup e, rfl⟩)
noncomputable def wrX (Γ : Ctx) (env : Env) (x : Str) : List Addr := if Γ.sc.lookup x = some .local then [env.locals] else envW env
theorem wrX_sub {x : Str} {a : Addr} (h : a ∈ wrX Γ env x) : a ∈ envW env := by
  unfold wrX at h
  split at h
  · rw [List.mem_singleton.mp h]; exact List.mem_cons_self ..
  · exact h
theorem Ext.wr {x : Str} {h h' : Heap} {ρ' : List Addr} (y : Ext ρ h ρ' h' (wrX Γ env x)) : Ext ρ h ρ' h' (envW env) := y.weaken fun _ q => wrX_sub q
theorem store_ok {i : Nat} {x : Str} {v : MV} {u : Value} (hi : Γ.tbl[i]? = some x) (hfree : Γ.sc.lookup x ≠ some .free) (G : Good B ρ hp s) (F : FrR B Γ env loc ρ s.heap) (r : VR s.heap ρ B.l₀ v u) {Q : Unit → Shared → Prop}
    (k : ∀ s', Ext ρ s.heap ρ s'.heap (wrX Γ env x) → Good B ρ hp s' → FrR B Γ env (loc.set i (some v)) ρ s'.heap → Q () s') : wpAny (model B.prog B.w) A (storeName env x u) Q E s := by
  have kn : ∀ {y q}, Γ.sc.lookup y = some q → env.kindOf y = some q := fun e => by unfold Env.kindOf; rw [F.names]; exact e
  have setAt : ∀ {j : Nat} {v' : MV}, (loc.set i (some v))[j]? = some (some v') → (j = i ∧ v' = v) ∨ (j ≠ i ∧ loc[j]? = some (some v')) := by
    intro j v' e
    rw [List.getElem?_set] at e
    split at e
    · rename_i hij
      subst hij
      split at e
      · cases e; exact .inl ⟨rfl, rfl⟩
      · cases e
    · rename_i hij
      exact .inr ⟨fun q => hij q.symm, e⟩
  have tblNe : ∀ {j : Nat} {y : Str}, Γ.tbl[j]? = some y → j ≠ i → y ≠ x := by
    intro j y e hj q
    subst q
    obtain ⟨h1, e1⟩ := List.getElem?_eq_some_iff.mp e
    obtain ⟨h2, e2⟩ := List.getElem?_eq_some_iff.mp hi
    have nd := List.pairwise_iff_getElem.mp F.tnd
    rcases Nat.lt_or_gt_of_ne hj with q | q
    · exact nd j i h1 h2 q (e1.trans e2.symm)
    · exact nd i j h2 h1 q (e2.trans e1.symm)
  have cellOut : ∀ {n c}, env.cells.lookup n = some c → c ∉ ρ := fun e => F.out _ (F.cell_in e)
  rcases F.kinds i x hi with h | h | h
  · -- a local name
    obtain ⟨m, hn, hm⟩ := F.ns
    refine wpAny_storeName_local (kn h) hn (fun h' hn' hs' => ?_) (by rw [F.kind]; rfl)
    have alive : ∃ o, h'.get? env.locals = some o := let ⟨o, _, _, e, _⟩ := hn'; ⟨o, e⟩
    obtain ⟨G', x'⟩ := G.touch (h' := h') (tk := s.toks + 1) (W := [env.locals]) (fun b o e hb => (hs'.2 b (fun q => hb (by rw [q]; exact List.mem_cons_self ..))).trans e)
      (fun a ha => by rw [List.mem_singleton.mp ha]; exact F.ns_out) (fun a ha => by rw [List.mem_singleton.mp ha]; exact F.new _ (List.mem_cons_self ..))
      (fun a ha its => by rw [List.mem_singleton.mp ha]; exact Ns.notTup hn)
    have xW : Ext ρ s.heap ρ h' (envW env) := x'.weaken fun a ha => by rw [List.mem_singleton.mp ha]; exact List.mem_cons_self ..
    have kc : ∀ {c u}, (∃ n, env.cells.lookup n = some c) ∨ (∃ n, (n, c) ∈ env.cells) → s.heap.IsCell c u → h'.IsCell c u := fun hc ⟨o, e, hd⟩ => by
      refine ⟨o, (hs'.2 _ fun q => ?_).trans e, hd⟩
      rcases hc with ⟨n, e'⟩ | ⟨n, e'⟩
      · exact F.lne _ (mem_of_lookup e') q.symm
      · exact F.lne _ e' q.symm
    have vr : ∀ {v u}, VR s.heap ρ B.l₀ v u → VR h' ρ B.l₀ v u := fun q => G.vr xW F.noTup q
    refine k _ (by unfold wrX; rw [if_pos h]; exact x') G' ⟨F.kind, F.names, F.glob, F.blt, ⟨_, hn', ?_⟩, ?_, ?_, F.kinds, ?_, F.apart, F.lne, F.out, F.new, F.tnd⟩
    · intro j y v' e1 e2 e3
      rcases setAt e2 with ⟨rfl, rfl⟩ | ⟨hj, e2'⟩
      · rw [hi] at e1; cases e1
        exact ⟨u, by simp, vr r⟩
      · obtain ⟨u', hu, q⟩ := hm j y v' e1 e2' e3
        exact ⟨u', by rw [if_neg (tblNe e1 hj)]; exact hu, vr q⟩
    · intro y hy
      obtain ⟨c, u', e, hc⟩ := F.cell y hy
      exact ⟨c, u', e, kc (.inl ⟨y, e⟩) hc⟩
    · intro j y v' e1 e2 hy
      rcases setAt e2 with ⟨rfl, rfl⟩ | ⟨hj, e2'⟩
      · rw [hi] at e1; cases e1
        rw [h] at hy; rcases hy with q | q <;> cases q
      · obtain ⟨c, u', e, hc, q⟩ := F.cval j y v' e1 e2' hy
        exact ⟨c, u', e, kc (.inl ⟨y, e⟩) hc, vr q⟩
    · intro c hc
      obtain ⟨u', hu⟩ := F.cells c hc
      exact ⟨u', kc (.inr ⟨c.1, hc⟩) hu⟩
  · -- a name in a cell
    obtain ⟨c, u0, e, hc⟩ := F.cell x (.inl h)
    refine wpAny_storeName_cell F.kind (kn h) e hc (fun h' hc' hs' => ?_)
    have alive : ∃ o, h'.get? c = some o := let ⟨o, e, _⟩ := hc'; ⟨o, e⟩
    have hin := F.cell_in e
    obtain ⟨G', x'⟩ := G.touch (h' := h') (tk := s.toks) (W := [c]) (fun b o e hb => (hs'.2 b (fun q => hb (by rw [q]; exact List.mem_cons_self ..))).trans e)
      (fun a ha => by rw [List.mem_singleton.mp ha]; exact cellOut e) (fun a ha => by rw [List.mem_singleton.mp ha]; exact F.new _ hin)
      (fun a ha its => by rw [List.mem_singleton.mp ha]; exact IsCell.notTup hc)
    have xW : Ext ρ s.heap ρ h' (envW env) := x'.weaken fun a ha => by rw [List.mem_singleton.mp ha]; exact hin
    have kc : ∀ {c' u}, c' ≠ c → s.heap.IsCell c' u → h'.IsCell c' u := fun hne ⟨o, e, hd⟩ => ⟨o, (hs'.2 _ hne).trans e, hd⟩
    have vr : ∀ {v u}, VR s.heap ρ B.l₀ v u → VR h' ρ B.l₀ v u := fun q => G.vr xW F.noTup q
    have same : ∀ {y c'}, env.cells.lookup y = some c' → y ≠ x → c' ≠ c := fun e' hne q => hne (name_of_addr F.apart (mem_of_lookup e') (q ▸ mem_of_lookup e))
    refine k _ (by unfold wrX; rw [if_neg (by rw [h]; decide)]; exact xW) G' ⟨F.kind, F.names, F.glob, F.blt, ?_, ?_, ?_, F.kinds, ?_, F.apart, F.lne, F.out, F.new, F.tnd⟩
    · obtain ⟨m, hn, hm⟩ := F.ns
      refine ⟨m, hn.sameBut hs' (F.lne _ (mem_of_lookup e)), fun j y v' e1 e2 e3 => ?_⟩
      rcases setAt e2 with ⟨rfl, rfl⟩ | ⟨hj, e2'⟩
      · rw [hi] at e1; cases e1
        rw [h] at e3; cases e3
      · obtain ⟨u', hu, q⟩ := hm j y v' e1 e2' e3
        exact ⟨u', hu, vr q⟩
    · intro y hy
      by_cases hyx : y = x
      · subst hyx; exact ⟨c, _, e, hc'⟩
      · obtain ⟨c', u', e', hc2⟩ := F.cell y hy
        exact ⟨c', u', e', kc (same e' hyx) hc2⟩
    · intro j y v' e1 e2 hy
      rcases setAt e2 with ⟨rfl, rfl⟩ | ⟨hj, e2'⟩
      · rw [hi] at e1; cases e1
        exact ⟨c, u, e, hc', vr r⟩
      · obtain ⟨c', u', e', hc2, q⟩ := F.cval j y v' e1 e2' hy
        exact ⟨c', u', e', kc (same e' (tblNe e1 hj)) hc2, vr q⟩
    · intro c' hc2
      by_cases hcc : c'.2 = c
      · rw [hcc]; exact ⟨_, hc'⟩
      · obtain ⟨u', hu⟩ := F.cells c' hc2
        exact ⟨u', kc hcc hu⟩
  · exact absurd h hfree
theorem snd_snil : SndS B d Γ [] sNil := by
  intro env loc hp fl loc' hp' ρ s hm G F A Q E hA k
  cases hm
  exact PySem.wpAny_execs_nil (k _ _ _ .refl G F .next)
theorem snd_seq {st : PySem.Stmt} {rest : List PySem.Stmt} {m1 m2 : MS} (S1 : SndX B d Γ st m1) (S2 : SndS B d Γ rest m2) : SndS B d Γ (st :: rest) (sSeq m1 m2) := by
  intro env loc hp fl loc' hp' ρ s hm G F A Q E hA k
  unfold sSeq at hm
  split at hm
  · cases hm
  · rename_i loc1 hp1 h1
    refine PySem.wpAny_execs_cons (S1 env loc hp _ loc1 hp1 ρ s h1 G F A _ E hA fun fl' ρ1 s1 x1 G1 F1 r1 => ?_)
    (first | cases r1 using VRL.case_nil | cases r1 using VR.case_int | cases r1 using VR.case_str | cases r1 using VR.case_bool | cases r1 using VR.case_none | cases r1 using VR.case_ref | cases r1 using VR.case_tup | cases r1 using VR.case_bytes | cases r1 using VR.case_fix | cases r1 using VR.case_script | cases r1)
    exact S2 env loc1 hp1 fl loc' hp' ρ1 s1 hm G1 F1 A _ E hA fun fl' ρ2 s2 x2 G2 F2 r2 => k _ _ _ (x1.trans x2 F2.out) G2 F2 r2
  · rename_i loc1 hp1 h1
    cases hm
    refine PySem.wpAny_execs_cons (S1 env loc hp _ _ _ ρ s h1 G F A _ E hA fun fl' ρ1 s1 x1 G1 F1 r1 => ?_)
    (first | cases r1 using VRL.case_nil | cases r1 using VR.case_int | cases r1 using VR.case_str | cases r1 using VR.case_bool | cases r1 using VR.case_none | cases r1 using VR.case_ref | cases r1 using VR.case_tup | cases r1 using VR.case_bytes | cases r1 using VR.case_fix | cases r1 using VR.case_script | cases r1)
    exact k _ _ _ x1 G1 F1 .brk
  · rename_i loc1 hp1 h1
    cases hm
    refine PySem.wpAny_execs_cons (S1 env loc hp _ _ _ ρ s h1 G F A _ E hA fun fl' ρ1 s1 x1 G1 F1 r1 => ?_)
    (first | cases r1 using VRL.case_nil | cases r1 using VR.case_int | cases r1 using VR.case_str | cases r1 using VR.case_bool | cases r1 using VR.case_none | cases r1 using VR.case_ref | cases r1 using VR.case_tup | cases r1 using VR.case_bytes | cases r1 using VR.case_fix | cases r1 using VR.case_script | cases r1)
    exact k _ _ _ x1 G1 F1 .cont
  · rename_i v loc1 hp1 h1
    cases hm
    refine PySem.wpAny_execs_cons (S1 env loc hp _ _ _ ρ s h1 G F A _ E hA fun fl' ρ1 s1 x1 G1 F1 r1 => ?_)
    cases r1 with
    | ret q => exact k _ _ _ x1 G1 F1 (.ret q)
theorem snd_set {x : Str} {p pos : Pos} {e : PySem.Expr} {m : ME} (i : Nat) (S : SndE B d Γ e m) (hi : Γ.tbl[i]? = some x) (hfree : Γ.sc.lookup x ≠ some .free := by decide)
    (hs : ∀ env : Env, env.scope.kind = .function → env.scope.names = Γ.sc → swapsWith e (some (.Name x p)) pos.line env = pure false := by intros; rfl) : SndX B d Γ (.Assign [.Name x p] e pos) (sSet i m) := by
  intro env loc hp fl loc' hp' ρ s hm G F A Q E hA k
  unfold sSet at hm
  split at hm
  · cases hm
  · rename_i v hp1 h1
    cases hm
    refine PySem.wpAny_Assign_Name (S.run h1 G F hA fun u ρ1 s1 x1 G1 F1 r1 => store_ok hi hfree G1 F1 r1 fun s2 x2 G2 F2 => ?_) (hs env F.kind F.names)
    exact k _ _ _ (x1.nil.trans x2.wr F2.out) G2 F2 .next
theorem snd_aug {x : Str} {p pos : Pos} {op : Operator} {e : PySem.Expr} {m : ME} (i : Nat) (S : SndE B d Γ e m) (hi : Γ.tbl[i]? = some x) (hfree : Γ.sc.lookup x ≠ some .free := by decide) (hd : (x == ("__debug__" : Str)) = false := by decide) (hc : (x == ("__classdict__" : Str)) = false := by decide) : SndX B d Γ (.AugAssign (.Name x p) op e pos) (sAug op i m) := by
  intro env loc hp fl loc' hp' ρ s hm G F A Q E hA k
  unfold sAug at hm
  split at hm
  · cases hm
  · rename_i a hp1 h1
    split at hm
    · cases hm
    · rename_i b hp2 h2
      have load : ∀ {Q : Value → Shared → Prop}, (∀ u, VR s.heap ρ B.l₀ a u → Q u s) → wpAny (model B.prog B.w) A (loadName env x) Q E s ∧ hp1 = hp := by
        intro Q k
        unfold mVar at h1
        split at h1
        · rename_i v' hv
          cases h1
          have kn : ∀ {q}, Γ.sc.lookup x = some q → env.kindOf x = some q := fun e => by unfold Env.kindOf; rw [F.names]; exact e
          refine ⟨?_, rfl⟩
          rcases F.kinds i x hi with h | h | h
          · obtain ⟨m, hn, hm⟩ := F.ns
            obtain ⟨u, hu, r⟩ := hm i x a hi hv h
            exact wpAny_loadName_local F.kind (kn h) hn hu (k _ r)
          · obtain ⟨c, u, e, hcell, r⟩ := F.cval i x a hi hv (.inl h)
            exact wpAny_loadName_cell F.kind (kn h) e hcell (k _ r)
          · obtain ⟨c, u, e, hcell, r⟩ := F.cval i x a hi hv (.inr h)
            exact wpAny_loadName_free F.kind (kn h) e hcell (k _ r) hc
        · cases h1
      have ehp : hp1 = hp := (load (Q := fun _ _ => True) fun _ _ => trivial).2
      subst ehp
      have store : ∀ {t w : MV} {ut : Value} {ρ1 : List Addr} {s1 s2 : Shared}, Ext ρ s.heap ρ1 s1.heap [] → Good B ρ1 hp2 s1 → FrR B Γ env loc ρ1 s1.heap → s2 = { s1 with toks := s2.toks } → (∀ h ρ, VR h ρ B.l₀ t ut) →
          some (MFlow.next, loc.set i (some t), hp2) = some (fl, loc', hp') → wpAny (model B.prog B.w) A (storeName env x ut) (fun _ => Q .next) E s2 := by
        intro t w ut ρ1 s1 s2 x1 G1 F1 e r hm
        cases hm
        rw [e]
        refine store_ok hi hfree (G1.tok s2.toks) F1 (r _ _) fun s3 x3 G3 F3 => ?_
        exact k _ _ _ (x1.nil.trans x3.wr F3.out) G3 F3 .next
      refine PySem.wpAny_AugAssign_Name (load fun ua ra => S.run h2 G F hA fun ub ρ1 s1 x1 G1 F1 rb => ?_).1
      split at hm
      · rename_i w hw
        unfold augMV at hw
        split at hw
        · split at hw
          · cases hw; (first | cases ra using VR.case_int | cases ra using VR.case_str | cases ra using VR.case_bool | cases ra using VR.case_none | cases ra using VR.case_ref | cases ra using VR.case_tup | cases ra using VR.case_bytes | cases ra using VR.case_fix | cases ra using VR.case_script | cases ra); (first | cases rb using VR.case_int | cases rb using VR.case_str | cases rb using VR.case_bool | cases rb using VR.case_none | cases rb using VR.case_ref | cases rb using VR.case_tup | cases rb using VR.case_bytes | cases rb using VR.case_fix | cases rb using VR.case_script | cases rb)
            exact PyProof.Rows.iadd_int (store (w := .none) x1 G1 F1 rfl (fun _ _ => .int _ _) hm)
          · cases hw; (first | cases ra using VR.case_int | cases ra using VR.case_str | cases ra using VR.case_bool | cases ra using VR.case_none | cases ra using VR.case_ref | cases ra using VR.case_tup | cases ra using VR.case_bytes | cases ra using VR.case_fix | cases ra using VR.case_script | cases ra); (first | cases rb using VR.case_int | cases rb using VR.case_str | cases rb using VR.case_bool | cases rb using VR.case_none | cases rb using VR.case_ref | cases rb using VR.case_tup | cases rb using VR.case_bytes | cases rb using VR.case_fix | cases rb using VR.case_script | cases rb)
            exact PyProof.Rows.isub_int (store (w := .none) x1 G1 F1 rfl (fun _ _ => .int _ _) hm)
          · cases hw; (first | cases ra using VR.case_int | cases ra using VR.case_str | cases ra using VR.case_bool | cases ra using VR.case_none | cases ra using VR.case_ref | cases ra using VR.case_tup | cases ra using VR.case_bytes | cases ra using VR.case_fix | cases ra using VR.case_script | cases ra); (first | cases rb using VR.case_int | cases rb using VR.case_str | cases rb using VR.case_bool | cases rb using VR.case_none | cases rb using VR.case_ref | cases rb using VR.case_tup | cases rb using VR.case_bytes | cases rb using VR.case_fix | cases rb using VR.case_script | cases rb)
            exact PyProof.Rows.ixor_int (store (w := .none) x1 G1 F1 rfl (fun _ _ => .int _ _) hm)
          · cases hw; (first | cases ra using VR.case_int | cases ra using VR.case_str | cases ra using VR.case_bool | cases ra using VR.case_none | cases ra using VR.case_ref | cases ra using VR.case_tup | cases ra using VR.case_bytes | cases ra using VR.case_fix | cases ra using VR.case_script | cases ra); (first | cases rb using VR.case_int | cases rb using VR.case_str | cases rb using VR.case_bool | cases rb using VR.case_none | cases rb using VR.case_ref | cases rb using VR.case_tup | cases rb using VR.case_bytes | cases rb using VR.case_fix | cases rb using VR.case_script | cases rb)
            exact PyProof.Rows.ior_int (store (w := .none) x1 G1 F1 rfl (fun _ _ => .int _ _) hm)
          · cases hw
        · cases hw
      · cases hm
theorem snd_sif {t : PySem.Expr} {b1 b2 : List PySem.Stmt} {pos : Pos} {mt : MT} {m1 m2 : MS} (S : SndT B d Γ t mt) (S1 : SndS B d Γ b1 m1) (S2 : SndS B d Γ b2 m2) : SndX B d Γ (.If t b1 b2 pos) (sIf mt m1 m2) := by
  intro env loc hp fl loc' hp' ρ s hm G F A Q E hA k
  unfold sIf at hm
  split at hm
  · cases hm
  · rename_i hp1 h1
    refine PySem.wpAny_If (S.run h1 G F hA fun ρ1 s1 x1 G1 F1 => ?_)
    exact S1 env loc hp1 fl loc' hp' ρ1 s1 hm G1 F1 A _ E hA fun fl' ρ2 s2 x2 G2 F2 r2 => k _ _ _ (x1.nil.trans x2 F2.out) G2 F2 r2
  · rename_i hp1 h1
    refine PySem.wpAny_If (S.run h1 G F hA fun ρ1 s1 x1 G1 F1 => ?_)
    exact S2 env loc hp1 fl loc' hp' ρ1 s1 hm G1 F1 A _ E hA fun fl' ρ2 s2 x2 G2 F2 r2 => k _ _ _ (x1.nil.trans x2 F2.out) G2 F2 r2
theorem snd_ret {e : PySem.Expr} {pos : Pos} {m : ME} (S : SndE B d Γ e m) : SndX B d Γ (.Return (some e) pos) (sRet m) := by
  intro env loc hp fl loc' hp' ρ s hm G F A Q E hA k
  unfold sRet at hm
  split at hm
  · cases hm
  · rename_i v hp1 h1
    cases hm
    exact PySem.wpAny_Return_some (S.run h1 G F hA fun u ρ1 s1 x1 G1 F1 r1 => k _ _ _ x1.nil G1 F1 (.ret r1))
theorem snd_brk {pos : Pos} : SndX B d Γ (.Break pos) sBrk := by
  intro env loc hp fl loc' hp' ρ s hm G F A Q E hA k
  cases hm
  exact PySem.wpAny_Break (k _ _ _ .refl G F .brk)
theorem snd_snone {st : PySem.Stmt} : SndX B d Γ st sNone := by
  intro env loc hp fl loc' hp' ρ s hm
  cases hm
end
end Mine
end
section
open PySem PySem.W PyProof.Rows PySem.Spec PySem.Calls
set_option linter.unusedVariables false
namespace Mine
inductive It where
  | list (i k : Nat)
  | rng (a : Int) (n : Nat)
  | enum (i k : Nat)
  | byt (x : List UInt8) (k : Nat)
  | chr (x : List Nat) (k : Nat)
  | kw (i : Nat)
  | zip (i j k t : Nat)
noncomputable def It.next (it : It) (hp : List MO) : Option (Option (MV × It)) := match it with
  | .list i k => match listOf hp i with
    | none => none
    | some xs => match xs[k]? with
      | none => some none
      | some x => some (some (x, .list i (k + 1)))
  | .rng a 0 => some none
  | .rng a (n + 1) => some (some (.int a, .rng (a + 1) n))
  | .enum i k => match listOf hp i with
    | none => none
    | some xs => match xs[k]? with
      | none => some none
      | some x => some (some (.tup [.int k, x], .enum i (k + 1)))
  | .byt x k => match x[k]? with
    | none => some none
    | some c => some (some (.int c.toNat, .byt x (k + 1)))
  | .chr x k => match x[k]? with
    | none => some none
    | some c => some (some (.str [c], .chr x (k + 1)))
  | .kw i => match hp[i]? with
    | some .kwd => some none
    | _ => none
  | .zip i j k t => match hp[t]? with
    | some .junk => (match listOf hp i with
      | none => none
      | some xs => match listOf hp j with
        | none => none
        | some ys => match xs[k]? with
          | none => some none
          | some x => match ys[k]? with
            | none => none
            | some y => some (some (.tup [x, y], .zip i j (k + 1) t)))
    | _ => none
inductive ItR (h : Heap) (ρ : List Addr) : It → Addr → List Addr → Prop
  | list (i k : Nat) (I a : Addr) : ρ[i]? = some a → h.IsListIter I a k → ItR h ρ (.list i k) I [I]
  | rng (a : Int) (n : Nat) (I : Addr) : IsRangeIter h I a n 1 → ItR h ρ (.rng a n) I [I]
  | enum (i k : Nat) (e it a : Addr) (old : Value) : ρ[i]? = some a → IsEnum h e it k old → h.IsListIter it a k → e ≠ it → ItR h ρ (.enum i k) e [e, it]
  | byt (x : List UInt8) (k : Nat) (I : Addr) (t : Tok) : KBw.IsBytesIter h I ⟨x⟩ t k → ItR h ρ (.byt x k) I [I]
  | chr (x : List Nat) (k : Nat) (I : Addr) (t : Tok) : h.IsStrIter I "str_ascii_iterator" (mkS x) t k → ItR h ρ (.chr x k) I [I]
  | kw (i : Nat) (I a : Addr) (ok ov : Value) : ρ[i]? = some a → IsItemIter h I a 0 0 0 ok ov → ItR h ρ (.kw i) I [I]
  | zip (i j k t : Nat) (z TI TO i1 i2 l1 l2 : Addr) : ZipApart z TI TO i1 i2 l1 l2 → IsZip h z TI TO .none → IsPair h TI (.ref i1) (.ref i2) → h.IsListIter i1 l1 k → h.IsListIter i2 l2 k → ρ[i]? = some l1 → ρ[j]? = some l2 → ρ[t]? = some TO → TI ∉ ρ → ItR h ρ (.zip i j k t) z [z, i1, i2]
theorem ItR.noTup {h ρ it I own} (x : ItR h ρ it I own) : NoTup h own := by
  have key : ∀ {a : Addr} {o : Obj} {its : Array Value}, h.get? a = some o → (∀ n, o.data ≠ .seq its n) → ¬ h.IsTuple a its := by
    intro a o its e hd t
    obtain ⟨_, n, q⟩ := IsTuple.det t e
    exact hd n q
  intro a ha its
  cases x with
  | list i k _ b e hi =>
    rw [List.mem_singleton.mp ha]
    obtain ⟨o, e, _, hd⟩ := hi
    exact key e fun n => by rw [hd]; exact fun q => nomatch q
  | rng c n _ hi =>
    rw [List.mem_singleton.mp ha]
    exact key hi fun n q => nomatch q
  | enum i k _ it b old e he hi hne =>
    rcases List.mem_cons.mp ha with rfl | ha
    · exact key he fun n q => nomatch q
    · rw [List.mem_singleton.mp ha]
      obtain ⟨o, e, _, hd⟩ := hi
      exact key e fun n => by rw [hd]; exact fun q => nomatch q
  | byt y k _ t hi =>
    rw [List.mem_singleton.mp ha]
    obtain ⟨o, e, _, hd⟩ := hi
    exact key e fun n => by rw [hd]; exact fun q => nomatch q
  | chr y k _ t hi =>
    rw [List.mem_singleton.mp ha]
    obtain ⟨o, e, _, hd⟩ := hi
    exact key e fun n => by rw [hd]; exact fun q => nomatch q
  | kw i _ a ok ov e hi =>
    rw [List.mem_singleton.mp ha]
    exact key hi fun n q => nomatch q
  | zip i j k t _ TI TO i1 i2 l1 l2 D hz hTI h1 h2 e1 e2 e3 hn =>
    rcases List.mem_cons.mp ha with rfl | ha
    · exact key hz fun n q => nomatch q
    · rcases List.mem_cons.mp ha with rfl | ha
      · obtain ⟨o, e, _, hd⟩ := h1
        exact key e fun n => by rw [hd]; exact fun q => nomatch q
      · rw [List.mem_singleton.mp ha]
        obtain ⟨o, e, _, hd⟩ := h2
        exact key e fun n => by rw [hd]; exact fun q => nomatch q
theorem ItR.alive {h ρ it I own} (x : ItR h ρ it I own) : ∀ a ∈ own, ∃ o, h.get? a = some o := by
  intro a ha
  cases x with
  | list i k _ b e hi => rw [List.mem_singleton.mp ha]; obtain ⟨o, e, _⟩ := hi; exact ⟨o, e⟩
  | rng c n _ hi => rw [List.mem_singleton.mp ha]; exact ⟨_, hi⟩
  | enum i k _ it b old e he hi hne =>
    rcases List.mem_cons.mp ha with rfl | ha
    · exact ⟨_, he⟩
    · rw [List.mem_singleton.mp ha]; obtain ⟨o, e, _⟩ := hi; exact ⟨o, e⟩
  | byt y k _ t hi => rw [List.mem_singleton.mp ha]; obtain ⟨o, e, _⟩ := hi; exact ⟨o, e⟩
  | chr y k _ t hi => rw [List.mem_singleton.mp ha]; obtain ⟨o, e, _⟩ := hi; exact ⟨o, e⟩
  | kw i _ a ok ov e hi => rw [List.mem_singleton.mp ha]; exact ⟨_, hi⟩
  | zip i j k t _ TI TO i1 i2 l1 l2 D hz hTI h1 h2 e1 e2 e3 hn =>
    rcases List.mem_cons.mp ha with rfl | ha
    · exact ⟨_, hz⟩
    · rcases List.mem_cons.mp ha with rfl | ha
      · obtain ⟨o, e, _⟩ := h1; exact ⟨o, e⟩
      · rw [List.mem_singleton.mp ha]; obtain ⟨o, e, _⟩ := h2; exact ⟨o, e⟩
theorem ItR.ext {h ρ it I own h' ρ' W} (x : ItR h ρ it I own) (y : Ext ρ h ρ' h' W) (hW : NoTup h W) (h1 : ∀ a ∈ own, a ∉ ρ) (h2 : ∀ a ∈ own, a ∉ W) : ItR h' ρ' it I own := by
  have kp : ∀ a ∈ own, ∀ o, h.get? a = some o → h'.get? a = some o := fun a ha o e => y.keep a o e (h1 a ha) (h2 a ha)
  cases x with
  | list i k _ b e hi => obtain ⟨o, e', r⟩ := hi; exact .list i k _ b (y.get e) ⟨o, kp _ (List.mem_cons_self ..) o e', r⟩
  | rng c n _ hi => exact .rng c n _ (kp _ (List.mem_cons_self ..) _ hi)
  | enum i k _ it b old e he hi hne =>
    obtain ⟨o, e', r⟩ := hi
    exact .enum i k _ it b old (y.get e) (kp _ (List.mem_cons_self ..) _ he) ⟨o, kp _ (List.mem_cons_of_mem _ (List.mem_cons_self ..)) o e', r⟩ hne
  | byt z k _ t hi => obtain ⟨o, e', r⟩ := hi; exact .byt z k _ t ⟨o, kp _ (List.mem_cons_self ..) o e', r⟩
  | chr z k _ t hi => obtain ⟨o, e', r⟩ := hi; exact .chr z k _ t ⟨o, kp _ (List.mem_cons_self ..) o e', r⟩
  | kw i _ a ok ov e hi => exact .kw i _ a ok ov (y.get e) (kp _ (List.mem_cons_self ..) _ hi)
  | zip i j k t _ TI TO i1 i2 l1 l2 D hz hTI q1 q2 e1 e2 e3 hn =>
    obtain ⟨o1, g1, r1⟩ := q1
    obtain ⟨o2, g2, r2⟩ := q2
    have hTW : TI ∉ W := fun q => hW TI q _ ⟨_, hTI, rfl, _, rfl⟩
    exact .zip i j k t _ TI TO i1 i2 l1 l2 D (kp _ (List.mem_cons_self ..) _ hz) (y.keep _ _ hTI hn hTW) ⟨o1, kp _ (List.mem_cons_of_mem _ (List.mem_cons_self ..)) o1 g1, r1⟩ ⟨o2, kp _ (List.mem_cons_of_mem _ (List.mem_cons_of_mem _ (List.mem_cons_self ..))) o2 g2, r2⟩ (y.get e1) (y.get e2) (y.get e3) (y.notin hTI hn)
section
variable {B : Base} {d : Nat} {Γ : Ctx} {env : Env} {loc : Loc} {hp hp' : List MO} {ρ : List Addr} {s : Shared} {A : Around} {E : Value → Shared → Prop}
theorem VRL.at {h : Heap} {l₀ : Addr} : ∀ {xs : List MV} {vs : List Value} {n : Nat} {x : MV}, VRL h ρ l₀ xs vs → xs[n]? = some x → ∃ u, vs[n]? = some u ∧ VR h ρ l₀ x u
  | _, _, _, _, .nil, e => by cases e
  | _, _, 0, _, .cons p _, e => by cases e; exact ⟨_, rfl, p⟩
  | _, _, n + 1, _, .cons _ q, e => q.at (n := n) e
structure Beside (B : Base) (ρ : List Addr) (own : List Addr) (s : Shared) (s' : Shared) : Prop where
  same : ∃ h tk, s' = { s with heap := h, toks := tk }
  keep : ∀ b o, s.heap.get? b = some o → b ∉ own → s'.heap.get? b = some o
structure OwnOk (B : Base) (ρ : List Addr) (env : Env) (own : List Addr) : Prop where
  rho : ∀ a ∈ own, a ∉ ρ
  env : ∀ a ∈ own, a ∉ envW env
  base : ∀ a ∈ own, B.s₀.heap.get? a = none
theorem Beside.good {own : List Addr} {s' : Shared} (x : Beside B ρ own s s') (G : Good B ρ hp s) (O : OwnOk B ρ env own) (hn : NoTup s.heap own) : Good B ρ hp s' := by
  obtain ⟨⟨h, tk, rfl⟩, hk⟩ := x
  exact (G.touch hk O.rho O.base hn).1
theorem Beside.vr {own : List Addr} {s' : Shared} (x : Beside B ρ own s s') (G : Good B ρ hp s) (hn : NoTup s.heap own) {v u} (r : VR s.heap ρ B.l₀ v u) : VR s'.heap ρ B.l₀ v u := by
  have y : Ext ρ s.heap ρ s'.heap own := ⟨⟨[], by simp, fun _ q => nomatch q⟩, fun b o e _ h2 => x.keep b o e h2, fun b o e h2 => ⟨o, x.keep b o e h2⟩⟩
  exact G.vr y hn r
theorem Beside.fr {own : List Addr} {s' : Shared} (x : Beside B ρ own s s') (G : Good B ρ hp s) (F : FrR B Γ env loc ρ s.heap) (O : OwnOk B ρ env own) (hn : NoTup s.heap own) : FrR B Γ env loc ρ s'.heap := by
  have vr : ∀ {v u}, VR s.heap ρ B.l₀ v u → VR s'.heap ρ B.l₀ v u := fun r => x.vr G hn r
  have kc : ∀ {c u}, c ∈ envW env → s.heap.IsCell c u → s'.heap.IsCell c u := fun hc ⟨o, e, hd⟩ => ⟨o, x.keep _ o e fun q => O.env _ q hc, hd⟩
  refine ⟨F.kind, F.names, F.glob, F.blt, ?_, ?_, ?_, F.kinds, ?_, F.apart, F.lne, F.out, F.new, F.tnd⟩
  · obtain ⟨m, hm, hv⟩ := F.ns
    refine ⟨m, hm.at fun o e => x.keep _ o e fun q => O.env _ q (List.mem_cons_self ..), fun i y v a b c => ?_⟩
    obtain ⟨u, hu, hr⟩ := hv i y v a b c
    exact ⟨u, hu, vr hr⟩
  · intro y hy
    obtain ⟨c, u, e, hc⟩ := F.cell y hy
    exact ⟨c, u, e, kc (F.cell_in e) hc⟩
  · intro i y v a b hy
    obtain ⟨c, u, e, hc, hr⟩ := F.cval i y v a b hy
    exact ⟨c, u, e, kc (F.cell_in e) hc, vr hr⟩
  · intro c hc
    obtain ⟨u, hu⟩ := F.cells c hc
    exact ⟨u, kc (List.mem_cons_of_mem _ (List.mem_map.mpr ⟨c, hc, rfl⟩)) hu⟩
theorem Beside.of (s : Shared) {own : List Addr} {h' : Heap} {tk : Nat} (hk : ∀ b o, s.heap.get? b = some o → b ∉ own → h'.get? b = some o) : Beside B ρ own s { s with heap := h', toks := tk } := ⟨⟨h', tk, rfl⟩, hk⟩
theorem Beside.ofBut (s : Shared) {I : Addr} {own : List Addr} (hI : I ∈ own) {h' : Heap} {tk : Nat} (hk : Heap.ExtBut I s.heap h') : Beside B ρ own s { s with heap := h', toks := tk } :=
  .of s fun b o e hb => hk b o (fun q => hb (q ▸ hI)) e
theorem Beside.ofSame (s : Shared) {I : Addr} {own : List Addr} (hI : I ∈ own) {h' : Heap} {tk : Nat} (hk : Heap.SameBut I s.heap h') : Beside B ρ own s { s with heap := h', toks := tk } :=
  .ofBut s hI hk.extBut
theorem FrR.extW {ρ' : List Addr} {h' : Heap} {W : List Addr} (F : FrR B Γ env loc ρ s.heap) (G : Good B ρ hp s) (x : Ext ρ s.heap ρ' h' W) (hd : ∀ a ∈ envW env, a ∉ W) (hW : NoTup s.heap W) : FrR B Γ env loc ρ' h' := by
  have kc : ∀ {c u}, c ∈ envW env → s.heap.IsCell c u → h'.IsCell c u := fun hc ⟨o, e, hq⟩ => ⟨o, x.keep _ o e (F.out _ hc) (hd _ hc), hq⟩
  have cin : ∀ {n c}, env.cells.lookup n = some c → c ∈ envW env := fun e => List.mem_cons_of_mem _ (List.mem_map.mpr ⟨_, mem_of_lookup e, rfl⟩)
  refine ⟨F.kind, F.names, F.glob, F.blt, ?_, ?_, ?_, F.kinds, ?_, F.apart, F.lne, ?_, F.new, F.tnd⟩
  · obtain ⟨m, hn, hv⟩ := F.ns
    refine ⟨m, hn.at fun o e => x.keep _ o e (F.out _ (List.mem_cons_self ..)) (hd _ (List.mem_cons_self ..)), fun i y v a b c => ?_⟩
    obtain ⟨u, hu, hr⟩ := hv i y v a b c
    exact ⟨u, hu, G.vr x hW hr⟩
  · intro y hy
    obtain ⟨c, u, e, hc⟩ := F.cell y hy
    exact ⟨c, u, e, kc (cin e) hc⟩
  · intro i y v a b hy
    obtain ⟨c, u, e, hc, hr⟩ := F.cval i y v a b hy
    exact ⟨c, u, e, kc (cin e) hc, G.vr x hW hr⟩
  · intro c hc
    obtain ⟨u, hu⟩ := F.cells c hc
    exact ⟨u, kc (List.mem_cons_of_mem _ (List.mem_map.mpr ⟨c, hc, rfl⟩)) hu⟩
  · intro a ha
    have hal : ∃ o, s.heap.get? a = some o := by
      rcases List.mem_cons.mp ha with rfl | ha
      · obtain ⟨m, ⟨o, _, _, e, _⟩, _⟩ := F.ns; exact ⟨o, e⟩
      · obtain ⟨c, hc, rfl⟩ := List.mem_map.mp ha
        obtain ⟨u, o, e, _⟩ := F.cells c hc
        exact ⟨o, e⟩
    obtain ⟨o, e⟩ := hal
    exact x.notin e (F.out _ ha)
theorem Good.touchJ (G : Good B ρ hp s) {h' : Heap} {tk : Nat} {W : List Addr} {t : Nat} {TO : Addr} (ht : hp[t]? = some .junk) (eT : ρ[t]? = some TO) (hk : ∀ b o, s.heap.get? b = some o → b ∉ W → b ≠ TO → h'.get? b = some o) (hJ : ∃ u v, IsPair h' TO u v)
    (hρ : ∀ a ∈ W, a ∉ ρ) (hn : ∀ a ∈ W, B.s₀.heap.get? a = none) (hW : NoTup s.heap W) :
    Good B ρ hp { s with heap := h', toks := tk } ∧ Ext ρ s.heap ρ h' W := by
  obtain ⟨u, v, hJ⟩ := hJ
  have hT : TO ∈ ρ := List.mem_of_getElem? eT
  have x : Ext ρ s.heap ρ h' W := ⟨⟨[], by simp, fun _ q => nomatch q⟩, fun b o e h1 h2 => hk b o e h2 (by rintro rfl; exact h1 hT), fun b o e h2 => by
    by_cases hb : b = TO
    · subst hb; exact ⟨_, hJ⟩
    · exact ⟨o, hk b o e h2 hb⟩⟩
  refine ⟨⟨?_, ?_, G.fresh, G.nd, G.len, ?_⟩, x⟩
  · obtain ⟨h, t, e⟩ := G.same
    exact ⟨h', tk, by rw [e]⟩
  · intro b o e
    refine hk b o (G.keep b o e) (fun hb => by rw [hn b hb] at e; cases e) ?_
    rintro rfl
    rw [G.fresh b hT] at e; cases e
  · intro i mo a e1 e2
    by_cases ha : a = TO
    · subst ha
      have hi := (List.getElem?_eq_some_iff.mp e2).1
      have : i = t := (List.getElem?_inj hi G.nd).mp (e2.trans eT.symm)
      subst this
      rw [ht] at e1; cases e1
      exact .junk _ u v hJ
    · exact (G.ok i mo a e1 e2).ext x G.nt hW fun o e => hk a o e (fun hb => hρ a hb (List.mem_of_getElem? e2)) ha
theorem next_zip_end {z TI TO i1 i2 l1 : Addr} {k : Nat} {xs : Array Value} {Q : Option Value → Shared → Prop} (hh : A.handled = none) (i1z : i1 ≠ z) (l1z : l1 ≠ z) (hz : IsZip s.heap z TI TO .none) (hTI : IsPair s.heap TI (.ref i1) (.ref i2))
    (h1 : s.heap.IsListIter i1 l1 k) (hl1 : s.heap.IsList l1 xs) (hx : xs[k]? = none) (hQ : ∀ h', (∀ c o, c ≠ z → c ≠ i1 → s.heap.get? c = some o → h'.get? c = some o) → Q none { s with heap := h' }) :
    wpAny (model B.prog B.w) A (pyNext (.ref z)) Q E s := by
  have hT : s.TypeIs (.ref z) "zip" := ⟨_, hz, rfl⟩
  have walk : ∀ (A : Around) (hh : A.handled = none) (R : Fin → Shared → Prop) (E' : Value → Shared → Prop), (∀ h' e, (∀ c o, c ≠ z → c ≠ i1 → s.heap.get? c = some o → h'.get? c = some o) → (∃ o, h'.get? e = some o ∧ o.cls = .type "StopIteration") → E' (.ref e) { s with heap := h' }) →
      wpAny (model B.prog B.w) A (Builtin.«zip.__next__» ⟨[.ref z], []⟩) R E' s := by
    intro A hh R E' k
    show wpAny _ _ (field (.ref z) 2 >>= _) _ _ _
    refine wpAny_bind (wpAny_field hz rfl (x := .bool false) rfl ?_)
    show wpAny _ _ (field (.ref z) 3 >>= _) _ _ _
    refine wpAny_bind (wpAny_field hz rfl (x := .ref TI) rfl (wpAny_bind (wpAny_seqItems hTI rfl ?_)))
    show wpAny _ _ (Builtin.SmallTypes.ownedTupleIsFree (.ref z) >>= _) _ _ _
    unfold Builtin.SmallTypes.ownedTupleIsFree
    refine wpAny_bind (wpAny_bind (wpAny_field hz rfl (x := .none) rfl (wpAny_pure ?_)))
    simp only [if_true]
    refine wpAny_bind (wpAny_rule (wpAny_bind (wpAny_field hz rfl (x := .ref TO) rfl (wpAny_bind (wpAny_setField_rec hz (by simp) fun h2 hz2 hs2 => ?_)))))
    have hz2' : IsZip h2 z TI TO .ellipsis := hz2
    simp only [List.zipIdx_cons, List.zipIdx_nil, List.forIn_cons, List.forIn_nil]
    refine wpAny_bind (wpAny_bind (wpAny_bind (wpAny_onRaise ?_)))
    show wpAny _ _ (Builtin.SmallTypes.nextOf (.ref i1) >>= _) _ _ _
    refine wpAny_bind (wpAny_nextOf_list_end hh (h1.extBut hs2.extBut i1z) (hl1.extBut hs2.extBut l1z) hx fun h3 e hs3 he => ?_)
    obtain ⟨oe, hoe, hce⟩ := he
    have hz3 : IsZip h3 z TI TO .ellipsis := hs3 _ _ (Ne.symm i1z) hz2'
    have hez : e ≠ z := fun q => by subst q; rw [hz3] at hoe; cases hoe; simp at hce
    exact wpAny_setField_rec hz3 (by simp) fun h4 _ hs4 => k h4 e (fun c o c1 c2 q => hs4.extBut _ _ c1 (hs3 _ _ c2 (hs2.extBut _ _ c1 q))) ⟨oe, hs4.extBut _ _ hez hoe, hce⟩
  unfold pyNext
  refine wpAny_bind (wpAny_attempt (wpAny_callSpecial?_slot (name := Str.ofString "__next__") hT F.slot_zip_next (wpAny_call_entry F.slot_zip_next hT F.entry_zip_next (walk A.in1 hh _ _ fun h' e hk he => ?_) (F.args_zip_next_1 _))))
  obtain ⟨o, ho, hc⟩ := he
  exact wpAny_bind (wpAny_isInstance (T := "StopIteration") (b := true) ⟨o, ho, hc⟩ isSubtype_stop (wpAny_pure (hQ _ hk)))
theorem next_end {it : It} {I : Addr} {own : List Addr} (hm : it.next hp = some none) (G : Good B ρ hp s) (R : ItR s.heap ρ it I own) (hA : AOK d A) {Q : Option Value → Shared → Prop}
    (k : ∀ s', Beside B ρ own s s' → Q none s') : wpAny (model B.prog B.w) A (pyNext (.ref I)) Q E s := by
  cases R with
  | list i n _ a e hi =>
    simp only [It.next] at hm
    split at hm
    · cases hm
    · rename_i xs hx
      split at hm
      · rename_i hn
        obtain ⟨vs, hl, hv⟩ := G.listAt hx e
        exact wpAny_pyNext_list_end hA.handled hi hl (by
          have : vs.length ≤ n := by rw [← hv.length]; exact List.getElem?_eq_none_iff.mp hn
          simpa using this) fun h' hk => k _ (.ofBut s (List.mem_cons_self ..) hk)
      · cases hm
  | rng a n _ hi =>
    cases n with
    | zero => exact wpAny_pyNext_range_end hA.handled hi (by simp) fun h' hk => k _ (.ofBut s (List.mem_cons_self ..) hk)
    | succ n => cases hm
  | enum i n _ it a old e he hi hne =>
    simp only [It.next] at hm
    split at hm
    · cases hm
    · rename_i xs hx
      split at hm
      · rename_i hn
        obtain ⟨vs, hl, hv⟩ := G.listAt hx e
        exact wpAny_pyNext_enum_end hA.handled he hi hl (by
          have : vs.length ≤ n := by rw [← hv.length]; exact List.getElem?_eq_none_iff.mp hn
          simpa using this) fun h' hk => k _ (.ofBut s (List.mem_cons_of_mem _ (List.mem_cons_self ..)) hk)
      · cases hm
  | byt x n _ t hi =>
    simp only [It.next] at hm
    split at hm
    · rename_i hn
      exact KBw.next_end hA.handled hi (by simpa using hn) fun h' hk => k _ (.ofBut s (List.mem_cons_self ..) hk)
    · cases hm
  | chr x n _ t hi =>
    simp only [It.next] at hm
    split at hm
    · rename_i hn
      exact wpAny_pyNext_ascii_end hA.handled hi (by simpa [mkS] using hn) fun h' hk => k _ (.ofBut s (List.mem_cons_self ..) hk)
    · cases hm
  | kw i _ a ok ov e hi =>
    simp only [It.next] at hm
    split at hm
    · rename_i hx
      have := G.ok i _ a hx e
      cases this with
      | kwd _ hd =>
        have hdict : s.heap.DictAt (intKind B.prog B.w) a [] 0 := ⟨_, #[], hd.1, ⟨rfl, rfl, rfl⟩, rfl, fun _ he => by simp at he, .nil, List.nodup_nil⟩
        exact wpAny_pyNext_items_end hA.handled hi hdict rfl fun h' hk => k _ (.ofBut s (List.mem_cons_self ..) hk)
    · cases hm
  | zip i j n t _ TI TO i1 i2 l1 l2 D hz hTI h1 h2 e1 e2 e3 hn =>
    simp only [It.next] at hm
    split at hm
    · split at hm
      · cases hm
      · rename_i xs hx
        split at hm
        · cases hm
        · split at hm
          · rename_i hend
            obtain ⟨vs, hl, hv⟩ := G.listAt hx e1
            refine next_zip_end hA.handled D.i1z D.l1z hz hTI h1 hl (by
              have : vs.length ≤ n := by rw [← hv.length]; exact List.getElem?_eq_none_iff.mp hend
              simpa using this) fun h' hk => k _ (.of s fun b o e hb => hk b o (fun q => hb (by rw [q]; exact List.mem_cons_self ..)) (fun q => hb (by rw [q]; exact List.mem_cons_of_mem _ (List.mem_cons_self ..))) e)
          · split at hm <;> cases hm
    · cases hm
theorem next_one {it it' : It} {x : MV} {I : Addr} {own : List Addr} (hm : it.next hp = some (some (x, it'))) (G : Good B ρ hp s) (R : ItR s.heap ρ it I own) (hne : ∀ i k, it ≠ .enum i k) (hnz : ∀ i j k t, it ≠ .zip i j k t) {Q : Option Value → Shared → Prop}
    (k : ∀ u s', Beside B ρ own s s' → ItR s'.heap ρ it' I own → VR s'.heap ρ B.l₀ x u → Q (some u) s') : wpAny (model B.prog B.w) A (pyNext (.ref I)) Q E s := by
  have nt := R.noTup
  cases R with
  | list i n _ a e hi =>
    simp only [It.next] at hm
    split at hm
    · cases hm
    · rename_i xs hx
      split at hm
      · cases hm
      · rename_i y hy
        cases hm
        obtain ⟨vs, hl, hv⟩ := G.listAt hx e
        obtain ⟨u, hu, r⟩ := hv.at hy
        refine wpAny_pyNext_list_item hi hl (by simpa using hu) fun h' hi' hs => ?_
        have b : Beside B ρ [I] s { s with heap := h', toks := s.toks } := .ofSame s (List.mem_cons_self ..) hs
        exact k u _ b (.list i (n + 1) I a e hi') (b.vr G nt r)
  | rng a n _ hi =>
    cases n with
    | zero => cases hm
    | succ n =>
      cases hm
      refine wpAny_pyNext_range_item hi (by omega) fun h' hi' hs => ?_
      have b : Beside B ρ [I] s { s with heap := h', toks := s.toks + 1 } := .ofSame s (List.mem_cons_self ..) hs
      exact k _ _ b (.rng (a + 1) n I (by
        have : ((n + 1 : Nat) : Int) - 1 = (n : Int) := by omega
        rw [this] at hi'; exact hi')) (.int _ _)
  | enum i n _ it a old e he hi hne' => exact absurd rfl (hne i n)
  | byt x n _ t hi =>
    simp only [It.next] at hm
    split at hm
    · cases hm
    · rename_i c hc
      cases hm
      refine KBw.next_item hi (by simpa using hc) fun h' hi' hs => ?_
      have b : Beside B ρ [I] s { s with heap := h', toks := s.toks + 1 } := .ofSame s (List.mem_cons_self ..) hs
      exact k _ _ b (.byt x (n + 1) I t hi') (.int _ _)
  | chr x n _ t hi =>
    simp only [It.next] at hm
    split at hm
    · cases hm
    · rename_i c hc
      cases hm
      refine wpAny_pyNext_ascii_item hi (c := c) (by simpa [mkS] using hc) fun h' hi' hs => ?_
      have b : Beside B ρ [I] s { s with heap := h', toks := s.toks + 1 } := .ofSame s (List.mem_cons_self ..) hs
      exact k _ _ b (.chr x (n + 1) I t hi') (.str [c] _)
  | kw i _ a ok ov e hi =>
    simp only [It.next] at hm
    split at hm <;> cases hm
  | zip i j n t _ TI TO i1 i2 l1 l2 D hz hTI h1 h2 e1 e2 e3 hn => exact absurd rfl (hnz i j n t)
end
end Mine
end
section
open PySem PySem.W PyProof.Rows PySem.Spec PySem.Calls
set_option linter.unusedVariables false
namespace Mine
inductive Tgt where
  | one (i : Nat)
  | two (i j : Nat)
noncomputable def setT : Tgt → MV → Loc → Option Loc
  | .one i, v, loc => some (loc.set i (some v))
  | .two i j, .tup [a, b], loc => some ((loc.set i (some a)).set j (some b))
  | _, _, _ => none
noncomputable def fitsT : Tgt → It → Bool
  | .one _, .enum _ _ => false
  | .one _, .zip _ _ _ _ => false
  | .two _ _, .rng _ _ => false
  | .two _ _, .byt _ _ => false
  | .two _ _, .chr _ _ => false
  | .two _ _, .kw _ => false
  | _, _ => true
inductive TgtIs (Γ : Ctx) : Tgt → PySem.Expr → Prop
  | one (i : Nat) (x : Str) (p : Pos) : Γ.tbl[i]? = some x → Γ.sc.lookup x ≠ some .free → TgtIs Γ (.one i) (.Name x p)
  | two (i j : Nat) (x y : Str) (p q : Pos) (k : Nat) (r : Pos) : Γ.tbl[i]? = some x → Γ.sc.lookup x ≠ some .free → Γ.tbl[j]? = some y → Γ.sc.lookup y ≠ some .free → TgtIs Γ (.two i j) (.Tuple [.Name x p, .Name y q] k r)
section
variable {B : Base} {d : Nat} {Γ : Ctx} {env : Env} {loc : Loc} {hp hp' : List MO} {ρ : List Addr} {s : Shared} {A : Around} {E : Value → Shared → Prop}
noncomputable def wrI (Γ : Ctx) (env : Env) (i : Nat) : List Addr := match Γ.tbl[i]? with
  | some x => wrX Γ env x
  | none => []
noncomputable def wrT (Γ : Ctx) (env : Env) : Tgt → List Addr
  | .one i => wrI Γ env i
  | .two i j => wrI Γ env i ++ wrI Γ env j
theorem wrI_sub {i : Nat} {a : Addr} (h : a ∈ wrI Γ env i) : a ∈ envW env := by
  unfold wrI at h
  split at h
  · exact wrX_sub h
  · cases h
theorem wrT_sub {t : Tgt} {a : Addr} (h : a ∈ wrT Γ env t) : a ∈ envW env := by
  cases t with
  | one i => exact wrI_sub h
  | two i j =>
    rcases List.mem_append.mp h with q | q
    · exact wrI_sub q
    · exact wrI_sub q
structure Drawn (B : Base) (Γ : Ctx) (env : Env) (t : Tgt) (loc : Loc) (ρ : List Addr) (hp : List MO) (it : It) (I : Addr) (own : List Addr) (s s' : Shared) : Prop where
  good : Good B ρ hp s'
  fr : FrR B Γ env loc ρ s'.heap
  itr : ItR s'.heap ρ it I own
  keep : ∀ b o, s.heap.get? b = some o → b ∉ ρ → b ∉ own → b ∉ wrT Γ env t → s'.heap.get? b = some o
theorem OwnOk.ext_itr {own : List Addr} {it : It} {I : Addr} {h' : Heap} (O : OwnOk B ρ env own) (hW : NoTup s.heap (envW env)) (R : ItR s.heap ρ it I own) (x : Ext ρ s.heap ρ h' (envW env)) : ItR h' ρ it I own :=
  R.ext x hW O.rho O.env
theorem draw_assign {t : Tgt} {target : PySem.Expr} {x : MV} {loc1 : Loc} {it : It} {I : Addr} {own : List Addr} {u : Value} {s0 : Shared} (hs : setT t x loc = some loc1) (T : TgtIs Γ t target)
    (G : Good B ρ hp s) (F : FrR B Γ env loc ρ s.heap) (R : ItR s.heap ρ it I own) (O : OwnOk B ρ env own) (b : ∀ c o, s0.heap.get? c = some o → c ∉ ρ → c ∉ own → s.heap.get? c = some o) (hA : AOK d A)
    (r : match t with | .one _ => VR s.heap ρ B.l₀ x u | .two _ _ => ∃ T a b ua ub, u = .ref T ∧ x = .tup [a, b] ∧ s.heap.IsTuple T ⟨[ua, ub]⟩ ∧ VR s.heap ρ B.l₀ a ua ∧ VR s.heap ρ B.l₀ b ub) {K : Shared → Prop}
    (k : ∀ s', Drawn B Γ env t loc1 ρ hp it I own s0 s' → K s') : wpAny (model B.prog B.w) A (assign target env u) (fun _ s₂ => K s₂) E s := by
  cases T with
  | one i y p hi hf =>
    cases hs
    exact PySem.wpAny_assign_Name (store_ok hi hf G F r fun s' x' G' F' => k s' ⟨G', F', O.ext_itr F.noTup R x'.wr, fun c o e h0 h1 h2 => x'.keep c o (b c o e h0 h1) h0 (by simp only [wrT, wrI, hi] at h2; exact h2)⟩)
  | two i j y z p q kk rr hi hf hj hg =>
    obtain ⟨T, a, b', ua, ub, rfl, rfl, ht, ra, rb⟩ := r
    cases hs
    refine wpAny_assign_Tuple hA.handled ht rfl rfl fun h' hx => ?_
    have hk : ∀ c o, s.heap.get? c = some o → h'.get? c = some o := fun c o e => hx c o (Nat.ne_of_lt (Heap.lt_size e)) e
    have x0 : Ext ρ s.heap ρ h' [] := .keeps hk
    have G0 := G.keeps (tk := s.toks) hk
    have F0 := F.ext G x0
    have R0 : ItR h' ρ it I own := R.ext x0 .nil O.rho (fun _ _ q => nomatch q)
    show wpAny _ A (do holding [ub] (assign (.Name y p) env ua); do holding [] (assign (.Name z q) env ub); pure ()) _ _ _
    refine wpAny_bind (wpAny_holding (PySem.wpAny_assign_Name (store_ok hi hf G0 F0 (G.vr x0 .nil ra) fun s1 x1 G1 F1 => ?_)))
    have R1 := O.ext_itr (s := { s with heap := h' }) F0.noTup R0 x1.wr
    refine wpAny_bind (wpAny_holding (PySem.wpAny_assign_Name (store_ok hj hg G1 F1 (G0.vr x1.wr F0.noTup (G.vr x0 .nil rb)) fun s2 x2 G2 F2 => wpAny_pure ?_)))
    refine k s2 ⟨G2, F2, O.ext_itr F1.noTup R1 x2.wr, fun c o e h0 h1 h2 => ?_⟩
    have h2' : c ∉ wrX Γ env y ∧ c ∉ wrX Γ env z := by
      simp only [wrT, wrI, hi, hj] at h2
      exact ⟨fun q => h2 (List.mem_append.mpr (.inl q)), fun q => h2 (List.mem_append.mpr (.inr q))⟩
    exact x2.keep c o (x1.keep c o (hk c o (b c o e h0 h1)) h0 h2'.1) h0 h2'.2
theorem draw {t : Tgt} {target : PySem.Expr} {x : MV} {loc1 : Loc} {it it' : It} {I : Addr} {own : List Addr} (hm : it.next hp = some (some (x, it'))) (hs : setT t x loc = some loc1) (hfit : fitsT t it = true) (T : TgtIs Γ t target)
    (G : Good B ρ hp s) (F : FrR B Γ env loc ρ s.heap) (R : ItR s.heap ρ it I own) (O : OwnOk B ρ env own) (hA : AOK d A) {N K : Shared → Prop}
    {E' : Value → Shared → Prop} (k : ∀ s', Drawn B Γ env t loc1 ρ hp it' I own s s' → K s') :
    wpAny (model B.prog B.w) A (pyNext (.ref I)) (fun r s₁ => match r with
      | none => N s₁
      | some v => wpAny (model B.prog B.w) A (letOwnedTupleGo target (.ref I) v) (fun _ s₁' => wpAny (model B.prog B.w) A (assign target env v) (fun _ s₂ => K s₂) E' s₁') E' s₁) E s := by
  have nt := R.noTup
  cases T with
  | one i y p hi hf =>
    have hne : ∀ a b, it ≠ .enum a b := by rintro a b rfl; cases hfit
    have hnz : ∀ a b c e, it ≠ .zip a b c e := by rintro a b c e rfl; cases hfit
    refine next_one hm G R hne hnz fun u s1 b R1 r1 => ?_
    show wpAny _ A (letOwnedTupleGo (.Name y p) (.ref I) u) _ _ _
    refine wpAny_pure ?_
    exact draw_assign (t := .one i) hs (.one i y p hi hf) (b.good G O nt) (b.fr G F O nt) R1 O (fun c o e _ h => b.keep c o e h) hA r1 k
  | two i j y z p q kk rr hi hf hj hg =>
    cases R with
    | list n m _ a e hl =>
      have Rl : ItR s.heap ρ (.list n m) I [I] := .list n m I a e hl
      have hit : it' = .list n (m + 1) := by
        simp only [It.next] at hm
        split at hm
        · cases hm
        · split at hm
          · cases hm
          · cases hm; rfl
      subst hit
      refine next_one hm G Rl (fun _ _ q => nomatch q) (fun _ _ _ _ q => nomatch q) fun u s1 b R1 r1 => ?_
      have hx : ∃ a b, x = .tup [a, b] := by
        unfold setT at hs
        split at hs
        · cases ‹Tgt.two _ _ = Tgt.one _›
        · exact ⟨_, _, rfl⟩
        · cases hs
      obtain ⟨xa, xb, rfl⟩ := hx
      have G1 := b.good G O nt
      have F1 := b.fr G F O nt
      cases r1 using VR.case_tup with
      | tup vs T ht hv _ =>
        cases hv using VRL.case_cons with
        | cons ra hv => cases hv using VRL.case_cons with
          | cons rb hv => cases hv with
            | nil =>
              cases R1 with
              | list _ _ _ a' e' hl' =>
                refine wpAny_letOwnedTupleGo_listiter hl' ?_
                exact draw_assign (t := .two i j) hs (.two i j y z p q kk rr hi hf hj hg) G1 F1 (.list n _ I a' e' hl') O (fun c o e _ h => b.keep c o e h) hA ⟨T, xa, xb, _, _, rfl, rfl, ht, ra, rb⟩ k
    | rng c n _ hi => cases hfit
    | enum n m _ it0 a old e he hl hne =>
      simp only [It.next] at hm
      split at hm
      · cases hm
      · rename_i xs hx
        split at hm
        · cases hm
        · rename_i y' hy
          cases hm
          obtain ⟨vs, hlist, hv⟩ := G.listAt hx e
          obtain ⟨u, hu, r⟩ := hv.at hy
          have heI : I ≠ s.heap.objs.size := Nat.ne_of_lt (Heap.lt_size he)
          refine wpAny_pyNext_enum_item he hl hlist (by simpa using hu) hne fun h' ho hi' ht hsz hk => ?_
          refine wpAny_letOwnedTupleGo_enum ho fun h2 he2 hs2 => ?_
          have ht2 : h2.IsTuple s.heap.objs.size #[.int m s.toks, u] := ⟨_, (hs2.2 _ (Ne.symm heI)).trans ht, rfl, _, rfl⟩
          have hi2 : h2.IsListIter it0 a (m + 1) := by
            obtain ⟨o, e', r'⟩ := hi'
            exact ⟨o, (hs2.2 it0 (Ne.symm hne)).trans e', r'⟩
          have hk2 : ∀ b o, s.heap.get? b = some o → b ∉ [I, it0] → h2.get? b = some o := fun b o e hb => by
            have h1 : b ≠ I := fun q => hb (by rw [q]; exact List.mem_cons_self ..)
            have h3 : b ≠ it0 := fun q => hb (by rw [q]; exact List.mem_cons_of_mem _ (List.mem_cons_self ..))
            exact (hs2.2 b h1).trans (hk b o h1 h3 e)
          have b : Beside B ρ [I, it0] s { s with heap := h2, toks := s.toks + 1 } := .of s hk2
          have he2' : IsEnum h2 I it0 ((m + 1 : Nat) : Int) u := by
            have : ((m + 1 : Nat) : Int) = (m : Int) + 1 := by push_cast; rfl
            rw [this]; exact he2
          refine draw_assign (t := .two i j) hs (.two i j y z p q kk rr hi hf hj hg) (b.good G O nt) (b.fr G F O nt) (.enum n (m + 1) I it0 a u e he2' hi2 hne) O (fun c o e _ h => b.keep c o e h) hA ?_ k
          exact ⟨s.heap.objs.size, _, _, _, _, rfl, rfl, ht2, .int _ _, b.vr G nt r⟩
    | byt c n _ t hi => cases hfit
    | chr c n _ t hi => cases hfit
    | kw i _ a ok ov e hi => cases hfit
    | zip i1' j1' m tt _ TI TO ia ib la lb D hz hTI h1 h2 e1 e2 e3 hTI0 =>
      simp only [It.next] at hm
      split at hm
      · rename_i hJ
        split at hm
        · cases hm
        · rename_i xs hx
          split at hm
          · cases hm
          · rename_i ys hy
            split at hm
            · cases hm
            · rename_i x0 hx0
              split at hm
              · cases hm
              · rename_i y0 hy0
                cases hm
                obtain ⟨vs, hl1, hv⟩ := G.listAt hx e1
                obtain ⟨us, hl2, hu⟩ := G.listAt hy e2
                obtain ⟨ua, hua, ra⟩ := hv.at hx0
                obtain ⟨ub, hub, rb⟩ := hu.at hy0
                have hOT := G.ok tt .junk TO hJ e3
                cases hOT with
                | junk _ pu pv hTO =>
                  have hzs : I < s.heap.objs.size := Heap.lt_size hz
                  have hTOs : TO < s.heap.objs.size := Heap.lt_size hTO
                  have hTIs : TI < s.heap.objs.size := Heap.lt_size hTI
                  refine wpAny_pyNext_zip_item D hz hTI hTO h1 h2 hl1 hl2 (by simpa using hua) (by simpa using hub) fun h' hz' hTO' h1' h2' ht' hsz hk => ?_
                  refine wpAny_letOwnedTupleGo_zip hz' fun h3 hz3 hs3 => ?_
                  have neT : s.heap.objs.size ≠ I := Nat.ne_of_gt hzs
                  have ht3 : h3.IsTuple s.heap.objs.size ⟨[ua, ub]⟩ := ⟨_, (hs3.2 _ neT).trans ht', rfl, _, rfl⟩
                  have hTO3 : IsPair h3 TO ua ub := (hs3.2 _ D.TOz).trans hTO'
                  have kp : ∀ b o, s.heap.get? b = some o → b ∉ [I, ia, ib] → b ≠ TO → h3.get? b = some o := fun b o e hb hne => by
                    have q1 : b ≠ I := fun q => hb (by rw [q]; exact List.mem_cons_self ..)
                    have q2 : b ≠ ia := fun q => hb (by rw [q]; exact List.mem_cons_of_mem _ (List.mem_cons_self ..))
                    have q3 : b ≠ ib := fun q => hb (by rw [q]; exact List.mem_cons_of_mem _ (List.mem_cons_of_mem _ (List.mem_cons_self ..)))
                    exact (hs3.2 b q1).trans (hk b o q1 hne q2 q3 e)
                  obtain ⟨G3, x3⟩ := G.touchJ (tk := s.toks) hJ e3 kp ⟨_, _, hTO3⟩ O.rho O.base nt
                  have F3 := F.extW G x3 (fun a ha hw => O.env a hw ha) nt
                  have h13 : h3.IsListIter ia la (m + 1) := h1'.at fun o e => (hs3.2 _ D.i1z).trans e
                  have h23 : h3.IsListIter ib lb (m + 1) := h2'.at fun o e => (hs3.2 _ D.i2z).trans e
                  have hTI3 : IsPair h3 TI (.ref ia) (.ref ib) := kp _ _ hTI (fun hb => by
                    rcases List.mem_cons.mp hb with q | hb
                    · exact D.TIz q
                    · rcases List.mem_cons.mp hb with q | hb
                      · exact D.TIi1 q
                      · exact D.TIi2 (List.mem_singleton.mp hb)) D.TITO
                  refine draw_assign (t := .two i j) (s := { s with heap := h3 }) hs (.two i j y z p q kk rr hi hf hj hg) G3 F3 (.zip i1' j1' (m + 1) tt I TI TO ia ib la lb D hz3 hTI3 h13 h23 e1 e2 e3 hTI0) O (fun c o e h0 h4 => kp c o e h4 (by rintro rfl; exact h0 (List.mem_of_getElem? e3))) hA ?_ k
                  exact ⟨s.heap.objs.size, _, _, _, _, rfl, rfl, ht3, G.vr x3 nt ra, G.vr x3 nt rb⟩
      · cases hm
abbrev MI := Loc → List MO → Option (It × List MO)
noncomputable def SndI (B : Base) (d : Nat) (Γ : Ctx) (e : PySem.Expr) (m : MI) : Prop :=
  ∀ env loc hp it hp' ρ s, m loc hp = some (it, hp') → Good B ρ hp s → FrR B Γ env loc ρ s.heap →
    ∀ A Q E, AOK d A → (∀ I own ρ' s', Ext ρ s.heap ρ' s'.heap [] → Good B ρ' hp' s' → ItR s'.heap ρ' it I own → (∀ a ∈ own, s.heap.get? a = none) → (∀ a ∈ own, a ∉ ρ') → Q (.ref I) s') →
      wpAny (model B.prog B.w) A (eval e env) (fun x s₁ => wpAny (model B.prog B.w) A (pyIter x) Q E s₁) E s
noncomputable def forGo (t : Tgt) (body : MS) : Nat → It → MS
  | 0, _ => fun _ _ => none
  | n + 1, it => fun loc hp => match it.next hp with
    | none => none
    | some none => some (.next, loc, hp)
    | some (some (x, it')) => match fitsT t it with
      | false => none
      | true => match setT t x loc with
        | none => none
        | some loc1 => match body loc1 hp with
          | none => none
          | some (.next, loc2, hp2) => forGo t body n it' loc2 hp2
          | some (.cont, loc2, hp2) => forGo t body n it' loc2 hp2
          | some (.brk, loc2, hp2) => some (.brk, loc2, hp2)
          | some (.ret v, loc2, hp2) => some (.ret v, loc2, hp2)
noncomputable def sFor (n : Nat) (t : Tgt) (mi : MI) (body orelse : MS) : MS := fun loc hp => match mi loc hp with
  | none => none
  | some (it, hp1) => match forGo t body n it loc hp1 with
    | none => none
    | some (.next, loc2, hp2) => orelse loc2 hp2
    | some (.cont, loc2, hp2) => none
    | some (.brk, loc2, hp2) => some (.next, loc2, hp2)
    | some (.ret v, loc2, hp2) => some (.ret v, loc2, hp2)
inductive ForI (B : Base) (Γ : Ctx) (env : Env) (t : Tgt) (mb mo : MS) (I : Addr) (own ρ : List Addr) (h : Heap) (r' : MFlow × Loc × List MO) (n : Nat) (s1 : Shared) : Prop
  | mk (it : It) (loc1 : Loc) (hp1 : List MO) (ρ1 : List Addr) (x : Ext ρ h ρ1 s1.heap (envW env)) (G : Good B ρ1 hp1 s1) (F : FrR B Γ env loc1 ρ1 s1.heap) (R : ItR s1.heap ρ1 it I own) (o : ∀ a ∈ own, a ∉ ρ1) (r : MFlow × Loc × List MO) (e : forGo t mb n it loc1 hp1 = some r) (e' : (match (generalizing := false) r with
      | (.next, loc2, hp2) => mo loc2 hp2
      | (.cont, loc2, hp2) => none
      | (.brk, loc2, hp2) => some (.next, loc2, hp2)
      | (.ret v, loc2, hp2) => some (.ret v, loc2, hp2)) = some r') : ForI B Γ env t mb mo I own ρ h r' n s1
theorem snd_for {n : Nat} {t : Tgt} {target iter : PySem.Expr} {bd oe : List PySem.Stmt} {pos : Pos} {mi : MI} {mb mo : MS} (T : TgtIs Γ t target) (Si : SndI B d Γ iter mi) (Sb : SndS B d Γ bd mb) (So : SndS B d Γ oe mo)
    (hfold : ∀ env x, foldedSetIterable iter env x = pure x := by intro _ _; rfl) : SndX B d Γ (.For target iter bd oe pos) (sFor n t mi mb mo) := by
  intro env loc hp fl loc' hp' ρ s hm G F A Q E hA k
  unfold sFor at hm
  split at hm
  · cases hm
  · rename_i it hp1 h1
    refine PySem.wpAny_For (Si env loc hp it hp1 ρ s h1 G F A _ E hA fun I own ρ1 s1 x1 G1 R1 hnew hout => ?_) (hfold env)
    -- the whole loop
    have F1 := F.ext G x1
    have key : ∀ (n : Nat) (s1 : Shared), ForI B Γ env t mb mo I own ρ s.heap (fl, loc', hp') n s1 →
        codeAny (model B.prog B.w) A (.forLoop target (.ref I) bd oe env) (fun r s' => match r with | .ok f => Q f s' | .error e => cameBackBy (model B.prog B.w) A env E e s') s1 := by
      intro n s1 hI
      refine codeAny_forLoop_any (fun n s1 => ForI B Γ env t mb mo I own ρ s.heap (fl, loc', hp') n s1) ?_ n hI
      rintro n s1 ⟨it, loc1, hp1, ρ1, x1, G1, F1, R1, hout, r, hgo, hr⟩
      have aliveW : ∀ a ∈ envW env, ∃ o, s.heap.get? a = some o := by
        intro a ha
        rcases List.mem_cons.mp ha with rfl | ha
        · obtain ⟨m, ⟨o, _, _, e, _⟩, _⟩ := F.ns; exact ⟨o, e⟩
        · obtain ⟨c, hc, rfl⟩ := List.mem_map.mp ha
          obtain ⟨u, o, e, _⟩ := F.cells c hc; exact ⟨o, e⟩
      have O1 : ∀ a ∈ own, a ∉ envW env := by
        intro a ha hw
        obtain ⟨o, e⟩ := aliveW a hw
        rw [hnew a ha] at e; cases e
      have O2 : ∀ a ∈ own, B.s₀.heap.get? a = none := by
        intro a ha
        cases e : B.s₀.heap.get? a with
        | none => rfl
        | some o => have := G.keep a o e; rw [hnew a ha] at this; cases this
      have O : OwnOk B ρ1 env own := ⟨hout, O1, O2⟩
      have dead : ∀ {b o}, s.heap.get? b = some o → b ∉ own := by
        intro b o e q
        rw [hnew b q] at e; cases e
      cases n with
      | zero => cases hgo
      | succ n =>
        unfold forGo at hgo
        split at hgo
        · cases hgo
        · rename_i hn
          cases hgo
          refine next_end hn G1 R1 hA fun s2 b2 => ?_
          have G2 := b2.good G1 O R1.noTup
          have F2 := b2.fr G1 F1 O R1.noTup
          have x2 : Ext ρ s.heap ρ1 s2.heap (envW env) := ⟨x1.more, fun b o e h1 h2 => b2.keep b o (x1.keep b o e h1 h2) (dead e), fun b o e h2 => by
            obtain ⟨o', e'⟩ := x1.alive b o e h2
            exact ⟨o', b2.keep b o' e' (dead e)⟩⟩
          exact So env loc1 hp1 fl loc' hp' ρ1 s2 hr G2 F2 A _ _ hA fun fl' ρ3 s3 x3 G3 F3 r3 => k fl' ρ3 s3 (x2.trans x3 F3.out) G3 F3 r3
        · rename_i y it' hn
          split at hgo
          · cases hgo
          · rename_i hfit
            split at hgo
            · cases hgo
            · rename_i loc2 hset
              refine draw (d := d) hn hset hfit T G1 F1 R1 O hA fun s2 D => ?_
              have x2 : Ext ρ s.heap ρ1 s2.heap (envW env) := ⟨x1.more, fun b o e h1 h2 => D.keep b o (x1.keep b o e h1 h2) (x1.notin (W := envW env) e h1) (dead e) (fun q => h2 (wrT_sub q)), fun b o e h2 => by
                obtain ⟨o', e'⟩ := x1.alive b o e h2
                by_cases hb : b ∈ ρ1
                · obtain ⟨i, hi, rfl⟩ := List.getElem_of_mem hb
                  have hi' : i < hp1.length := G1.len ▸ hi
                  exact (D.good.ok i hp1[i] ρ1[i] (List.getElem?_eq_getElem hi') (List.getElem?_eq_getElem hi)).alive
                · exact ⟨o', D.keep b o' e' hb (dead e) (fun q => h2 (wrT_sub q))⟩⟩
              have step : ∀ {fl2 loc3 hp3}, mb loc2 hp1 = some (fl2, loc3, hp3) → ∀ {Q2 : Flow → Shared → Prop} {E2 : Value → Shared → Prop},
                  (∀ fl' ρ3 s3, Ext ρ s.heap ρ3 s3.heap (envW env) → Good B ρ3 hp3 s3 → FrR B Γ env loc3 ρ3 s3.heap → ItR s3.heap ρ3 it' I own → (∀ a ∈ own, a ∉ ρ3) → FlowR s3.heap ρ3 B.l₀ fl2 fl' → Q2 fl' s3) → wpAny (model B.prog B.w) A (execs bd env) Q2 E2 s2 := by
                intro fl2 loc3 hp3 hb Q2 E2 k2
                refine Sb env loc2 hp1 fl2 loc3 hp3 ρ1 s2 hb D.good D.fr A _ _ hA fun fl' ρ3 s3 x3 G3 F3 r3 => ?_
                refine k2 fl' ρ3 s3 (x2.trans x3 F3.out) G3 F3 (D.itr.ext x3 D.fr.noTup hout O.env) (fun a ha => ?_) r3
                obtain ⟨o, e⟩ := D.itr.alive a ha
                exact x3.notin e (hout a ha)
              split at hgo
              · cases hgo
              · rename_i loc3 hp3 hb
                refine step hb fun fl' ρ3 s3 x3 G3 F3 R3 o3 r3 => ?_
                (first | cases r3 using VRL.case_nil | cases r3 using VR.case_int | cases r3 using VR.case_str | cases r3 using VR.case_bool | cases r3 using VR.case_none | cases r3 using VR.case_ref | cases r3 using VR.case_tup | cases r3 using VR.case_bytes | cases r3 using VR.case_fix | cases r3 using VR.case_script | cases r3)
                exact ⟨n, Nat.lt_succ_self _, it', loc3, hp3, ρ3, x3, G3, F3, R3, o3, r, hgo, hr⟩
              · rename_i loc3 hp3 hb
                refine step hb fun fl' ρ3 s3 x3 G3 F3 R3 o3 r3 => ?_
                (first | cases r3 using VRL.case_nil | cases r3 using VR.case_int | cases r3 using VR.case_str | cases r3 using VR.case_bool | cases r3 using VR.case_none | cases r3 using VR.case_ref | cases r3 using VR.case_tup | cases r3 using VR.case_bytes | cases r3 using VR.case_fix | cases r3 using VR.case_script | cases r3)
                exact ⟨n, Nat.lt_succ_self _, it', loc3, hp3, ρ3, x3, G3, F3, R3, o3, r, hgo, hr⟩
              · rename_i loc3 hp3 hb
                cases hgo; cases hr
                refine step hb fun fl' ρ3 s3 x3 G3 F3 R3 o3 r3 => ?_
                (first | cases r3 using VRL.case_nil | cases r3 using VR.case_int | cases r3 using VR.case_str | cases r3 using VR.case_bool | cases r3 using VR.case_none | cases r3 using VR.case_ref | cases r3 using VR.case_tup | cases r3 using VR.case_bytes | cases r3 using VR.case_fix | cases r3 using VR.case_script | cases r3)
                exact k .next ρ3 s3 x3 G3 F3 .next
              · rename_i v loc3 hp3 hb
                cases hgo; cases hr
                refine step hb fun fl' ρ3 s3 x3 G3 F3 R3 o3 r3 => ?_
                cases r3 with
                | ret q => exact k _ ρ3 s3 x3 G3 F3 (.ret q)
    have xW : Ext ρ s.heap ρ1 s1.heap (envW env) := x1.nil
    split at hm
    · cases hm
    · rename_i loc2 hp2 h2
      exact key n s1 ⟨it, loc, hp1, ρ1, xW, G1, F1, R1, hout, _, h2, hm⟩
    · cases hm
    · rename_i loc2 hp2 h2
      exact key n s1 ⟨it, loc, hp1, ρ1, xW, G1, F1, R1, hout, _, h2, hm⟩
    · rename_i v loc2 hp2 h2
      exact key n s1 ⟨it, loc, hp1, ρ1, xW, G1, F1, R1, hout, _, h2, hm⟩
end
end Mine
end
section
open PySem PySem.W PyProof.Rows PySem.Spec PySem.Calls
set_option linter.unusedVariables false
namespace Mine
noncomputable def whileGo (t : MT) (body orelse : MS) : Nat → MS
  | 0 => fun _ _ => none
  | n + 1 => fun loc hp => match t loc hp with
    | none => none
    | some (false, hp1) => orelse loc hp1
    | some (true, hp1) => match body loc hp1 with
      | none => none
      | some (.next, loc2, hp2) => whileGo t body orelse n loc2 hp2
      | some (.cont, loc2, hp2) => whileGo t body orelse n loc2 hp2
      | some (.brk, loc2, hp2) => some (.next, loc2, hp2)
      | some (.ret v, loc2, hp2) => some (.ret v, loc2, hp2)
section
variable {B : Base} {d : Nat} {Γ : Ctx} {env : Env} {loc : Loc} {hp hp' : List MO} {ρ : List Addr} {s : Shared} {A : Around} {E : Value → Shared → Prop}
theorem snd_while {n : Nat} {t : PySem.Expr} {bd oe : List PySem.Stmt} {pos : Pos} {mt : MT} {mb mo : MS} (St : SndT B d Γ t mt) (Sb : SndS B d Γ bd mb) (So : SndS B d Γ oe mo) : SndX B d Γ (.While t bd oe pos) (whileGo mt mb mo n) := by
  intro env loc hp fl loc' hp' ρ s hm G F A Q E hA k
  refine PySem.wpAny_While ?_
  refine codeAny_whileLoop (fun n s1 => ∃ loc1 hp1 ρ1, Ext ρ s.heap ρ1 s1.heap (envW env) ∧ Good B ρ1 hp1 s1 ∧ FrR B Γ env loc1 ρ1 s1.heap ∧ whileGo mt mb mo n loc1 hp1 = some (fl, loc', hp')) ?_ n ⟨loc, hp, ρ, .refl, G, F, hm⟩
  rintro n s1 ⟨loc1, hp1, ρ1, x1, G1, F1, hgo⟩
  cases n with
  | zero => cases hgo
  | succ n =>
    unfold whileGo at hgo
    split at hgo
    · cases hgo
    · rename_i hp2 h2
      refine St.run h2 G1 F1 hA fun ρ2 s2 x2 G2 F2 => ?_
      simp only [Bool.false_eq_true, if_false]
      exact So env loc1 hp2 fl loc' hp' ρ2 s2 hgo G2 F2 A _ _ hA fun fl' ρ3 s3 x3 G3 F3 r3 => k fl' ρ3 s3 (x1.trans (x2.nil.trans x3 F3.out) F3.out) G3 F3 r3
    · rename_i hp2 h2
      refine St.run h2 G1 F1 hA fun ρ2 s2 x2 G2 F2 => ?_
      simp only [if_true]
      split at hgo
      · cases hgo
      · rename_i loc3 hp3 h3
        refine Sb env loc1 hp2 _ loc3 hp3 ρ2 s2 h3 G2 F2 A _ _ hA fun fl' ρ3 s3 x3 G3 F3 r3 => ?_
        (first | cases r3 using VRL.case_nil | cases r3 using VR.case_int | cases r3 using VR.case_str | cases r3 using VR.case_bool | cases r3 using VR.case_none | cases r3 using VR.case_ref | cases r3 using VR.case_tup | cases r3 using VR.case_bytes | cases r3 using VR.case_fix | cases r3 using VR.case_script | cases r3)
        exact ⟨n, Nat.lt_succ_self _, loc3, hp3, ρ3, x1.trans (x2.nil.trans x3 F3.out) F3.out, G3, F3, hgo⟩
      · rename_i loc3 hp3 h3
        refine Sb env loc1 hp2 _ loc3 hp3 ρ2 s2 h3 G2 F2 A _ _ hA fun fl' ρ3 s3 x3 G3 F3 r3 => ?_
        (first | cases r3 using VRL.case_nil | cases r3 using VR.case_int | cases r3 using VR.case_str | cases r3 using VR.case_bool | cases r3 using VR.case_none | cases r3 using VR.case_ref | cases r3 using VR.case_tup | cases r3 using VR.case_bytes | cases r3 using VR.case_fix | cases r3 using VR.case_script | cases r3)
        exact ⟨n, Nat.lt_succ_self _, loc3, hp3, ρ3, x1.trans (x2.nil.trans x3 F3.out) F3.out, G3, F3, hgo⟩
      · rename_i loc3 hp3 h3
        cases hgo
        refine Sb env loc1 hp2 _ _ _ ρ2 s2 h3 G2 F2 A _ _ hA fun fl' ρ3 s3 x3 G3 F3 r3 => ?_
        (first | cases r3 using VRL.case_nil | cases r3 using VR.case_int | cases r3 using VR.case_str | cases r3 using VR.case_bool | cases r3 using VR.case_none | cases r3 using VR.case_ref | cases r3 using VR.case_tup | cases r3 using VR.case_bytes | cases r3 using VR.case_fix | cases r3 using VR.case_script | cases r3)
        exact k _ ρ3 s3 (x1.trans (x2.nil.trans x3 F3.out) F3.out) G3 F3 .next
      · rename_i v loc3 hp3 h3
        cases hgo
        refine Sb env loc1 hp2 _ _ _ ρ2 s2 h3 G2 F2 A _ _ hA fun fl' ρ3 s3 x3 G3 F3 r3 => ?_
        cases r3 with
        | ret q => exact k _ ρ3 s3 (x1.trans (x2.nil.trans x3 F3.out) F3.out) G3 F3 (.ret q)
theorem evalArgs_any {M : Model} {f : Value} {L : List (Bool × Sem Value)} {Q : Args → Shared → Prop} (hpl : L.any (·.1) = false)
    (h : wpAny M A (spliced L) (fun vs s' => Q ⟨vs, []⟩ s') E s) : wpAny M A (evalArgs f true L []) Q E s := by
  cases L with
  | nil =>
    unfold evalArgs
    show wpAny M A (spliced [] >>= _) Q E s
    refine wpAny_bind (wpAny_mono h (fun vs s' h' => ?_) fun _ _ x => x)
    refine wpAny_bind (wpAny_pure ?_)
    refine wpAny_holding ?_
    exact wpAny_bind (wpAny_pure (wpAny_bind (wpAny_pure (wpAny_pure h'))))
  | cons p rest =>
    obtain ⟨b, x⟩ := p
    cases b with
    | true => simp at hpl
    | false => exact evalArgs_plain h
noncomputable def CallOk (B : Base) (d : Nat) (f : Value) (g : List MV → List MO → Option (MV × List MO)) : Prop :=
  ∀ vs hp v hp' ρ s us, g vs hp = some (v, hp') → Good B ρ hp s → VRL s.heap ρ B.l₀ vs us → TreeOk B d ρ s (call f us) v hp'
inductive Callee (B : Base) : Value → Prop
  | type (T : String) : Callee B (.type T)
  | builtin (id : String) : Callee B (.builtin id)
  | func (a : Addr) (o : Obj) (fd : FuncData) : B.s₀.heap.get? a = some o → o.data = .func fd → Callee B (.ref a)
  | kept (v : Value) : B.Ok → keepIn B.K v = true → Callee B v
theorem callWith_ok {f : Value} {pos : Pos} {first : List Value} {L : List (Bool × Sem Value)} {Q : Value → Shared → Prop} (C : Callee B f) (hpl : L.any (·.1) = false)
    (h : wpAny (model B.prog B.w) A (spliced L) (fun us s₁ => (∀ b o, B.s₀.heap.get? b = some o → s₁.heap.get? b = some o) ∧ wpAny (model B.prog B.w) A (call f (first ++ us)) Q E s₁) E s) :
    wpAny (model B.prog B.w) A (callWith pos f first L []) Q E s := by
  cases C with
  | type T => exact PySem.callWith_type hpl (evalArgs_any hpl (wpAny_mono h (fun _ _ q => q.2) fun _ _ x => x))
  | builtin id => exact callWith_builtin hpl (evalArgs_any hpl (wpAny_mono h (fun _ _ q => q.2) fun _ _ x => x))
  | kept _ O hk => exact callWith_of (P := B.K.In) (by rw [hpl]; rfl) (keeps_K hk) (evalArgs_any hpl (wpAny_mono h (fun _ _ q => ⟨Frag.In.keeps O.k q.1, q.2⟩) fun _ _ x => x))
  | func a o fd ho hd => exact callWith_function (evalArgs_any hpl (wpAny_mono h (fun _ _ q => ⟨⟨q.1 _ _ ho, hd⟩, q.2⟩) fun _ _ x => x))
abbrev plainArgs (es : List PySem.Expr) : Prop := ∀ (env : Env) (pos : Pos), (backTo pos (starEach es env)).any (·.1) = false
noncomputable def mCall (g : List MV → List MO → Option (MV × List MO)) (l : ML) : ME := fun loc hp => match l loc hp with
  | none => none
  | some (vs, hp1) => g vs hp1
theorem snd_call {x : Str} {p pos : Pos} {es : List PySem.Expr} {f : Value} {g : List MV → List MO → Option (MV × List MO)} {l : ML} (Sf : SndE B d Γ (.Name x p) (fun _ hp => some (.fix f, hp))) (C : Callee B f) (Sl : SndL B d Γ es l)
    (K : CallOk B d f g) (hpl : plainArgs es := by intro _ _; rfl) : SndE B d Γ (.Call (.Name x p) es [] pos) (mCall g l) := by
  intro env loc hp v hp' ρ s hm G F A Q E hA k
  unfold mCall at hm
  split at hm
  · cases hm
  · rename_i vs hp1 h1
    refine wpAny_Call_NameR (Sf.run rfl G F hA fun u ρ0 s0 x0 G0 F0 r0 => ?_)
    cases r0
    refine callWith_ok C (hpl env pos) (Sl env loc _ vs hp1 ρ0 s0 pos h1 G0 F0 A _ _ hA fun us ρ1 s1 x1 G1 r1 => ⟨G1.keep, ?_⟩)
    exact K vs hp1 v hp' ρ1 s1 us hm G1 r1 A _ _ hA fun u ρ2 s2 x2 G2 r2 => k u ρ2 s2 (x0.trans (x1.trans x2)) G2 r2
/- what is walked through -/
noncomputable def itOf (v : MV) (hp : List MO) : Option It := match v with
  | .ref i => match listOf hp i with
    | some _ => some (.list i 0)
    | none => none
  | .bytes x => some (.byt x 0)
  | .str x => if x.all (fun c => decide (c < 128)) then some (.chr x 0) else none
  | _ => none
noncomputable def iVal (m : ME) : MI := fun loc hp => match m loc hp with
  | none => none
  | some (v, hp1) => match itOf v hp1 with
    | none => none
    | some it => some (it, hp1)
noncomputable def rngOf : List MV → Option It
  | [.int n] => if n.natAbs < 1000000 then some (.rng 0 n.toNat) else none
  | [.int a, .int b] => if a.natAbs < 1000000 ∧ b.natAbs < 1000000 then some (.rng a (b - a).toNat) else none
  | _ => none
noncomputable def iRange (l : ML) : MI := fun loc hp => match l loc hp with
  | none => none
  | some (vs, hp1) => match rngOf vs with
    | none => none
    | some it => some (it, hp1)
noncomputable def enumOf (hp : List MO) : List MV → Option It
  | [.ref i] => match listOf hp i with
    | some _ => some (.enum i 0)
    | none => none
  | _ => none
noncomputable def iEnum (l : ML) : MI := fun loc hp => match l loc hp with
  | none => none
  | some (vs, hp1) => match enumOf hp1 vs with
    | none => none
    | some it => some (it, hp1)
theorem Ext.back {ρ h ρ' h'} (x : Ext ρ h ρ' h' []) {a : Addr} (e : h'.get? a = none) : h.get? a = none := by
  cases e' : h.get? a with
  | none => rfl
  | some o =>
    obtain ⟨o', q⟩ := x.alive a o e' (fun q => nomatch q)
    rw [e] at q; cases q
theorem Good.alive (G : Good B ρ hp s) {a : Addr} (ha : a ∈ ρ) : ∃ o, s.heap.get? a = some o := by
  obtain ⟨i, hi, rfl⟩ := List.getElem_of_mem ha
  have hi' : i < hp.length := G.len ▸ hi
  exact (G.ok i hp[i] ρ[i] (List.getElem?_eq_getElem hi') (List.getElem?_eq_getElem hi)).alive
theorem get?_size (h : Heap) : h.get? h.objs.size = none := by
  cases e : h.get? h.objs.size with
  | none => rfl
  | some o => exact absurd (Heap.lt_size e) (Nat.lt_irrefl _)
theorem Good.size_out (G : Good B ρ hp s) {n : Nat} (hn : s.heap.objs.size ≤ n) : n ∉ ρ := fun q => by
  obtain ⟨o, e⟩ := G.alive q
  exact absurd (Heap.lt_size e) (Nat.not_lt.mpr hn)
theorem get?_big (h : Heap) {n : Nat} (hn : h.objs.size ≤ n) : h.get? n = none := by
  cases e : h.get? n with
  | none => rfl
  | some o => exact absurd (Heap.lt_size e) (Nat.not_lt.mpr hn)
theorem snd_ival {e : PySem.Expr} {m : ME} (S : SndE B d Γ e m) : SndI B d Γ e (iVal m) := by
  intro env loc hp it hp' ρ s hm G F A Q E hA k
  unfold iVal at hm
  split at hm
  · cases hm
  · rename_i v hp1 h1
    split at hm
    · cases hm
    · rename_i it' hi
      cases hm
      refine S.run h1 G F hA fun u ρ1 s1 x1 G1 F1 r1 => ?_
      have nw : ∀ a ∈ [s1.heap.objs.size], s.heap.get? a = none := fun a ha => by
        rw [List.mem_singleton.mp ha]; exact x1.back (get?_size _)
      have no : ∀ a ∈ [s1.heap.objs.size], a ∉ ρ1 := fun a ha => by
        rw [List.mem_singleton.mp ha]; exact G1.size_out (Nat.le_refl _)
      unfold itOf at hi
      split at hi
      · rename_i i
        split at hi
        · rename_i xs hx
          cases hi
          cases r1 using VR.case_ref with
          | ref a ea =>
            obtain ⟨vs, hl, hv⟩ := G1.listAt hx ea
            refine PySem.wpAny_pyIter_list hl ?_
            have G2 := G1.push { cls := .type "list_iterator", data := .fields #[.ref a, .int 0 0] }
            exact k _ [s1.heap.objs.size] ρ1 _ (x1.trans (.keeps fun _ _ e => Heap.get?_push_of_some _ e)) G2 (.list i 0 _ a ea ⟨_, Heap.get?_push_size _ rfl, rfl, rfl⟩) nw no
        · cases hi
      · rename_i x
        cases hi
        cases r1 using VR.case_bytes with
        | bytes t =>
          refine KBw.pyIter_bytes ?_
          have G2 := G1.push { cls := .type "bytes_iterator", data := .fields #[.bytes ⟨x⟩ t, .int 0 0] }
          exact k _ [s1.heap.objs.size] ρ1 _ (x1.trans (.keeps fun _ _ e => Heap.get?_push_of_some _ e)) G2 (.byt x 0 _ t ⟨_, Heap.get?_push_size _ rfl, rfl, rfl⟩) nw no
      · split at hi
        · rename_i x ha
          cases hi
          cases r1 using VR.case_str with
          | str t =>
            refine wpAny_pyIter_ascii (by simpa [mkS] using ha) ?_
            have G2 := G1.push { cls := .type "str_ascii_iterator", data := .fields #[.str (mkS x) t, .int 0 0] }
            exact k _ [s1.heap.objs.size] ρ1 _ (x1.trans (.keeps fun _ _ e => Heap.get?_push_of_some _ e)) G2 (.chr x 0 _ t ⟨_, Heap.get?_push_size _ rfl, rfl, rfl⟩) nw no
        · cases hi
      · cases hi
theorem rng_iter {a b : Int} {t u v : Tok} {r : Addr} {Q : Value → Shared → Prop} (G : Good B ρ hp s) (hr : IsRange s.heap r a b 1 t u v) (ha : a.natAbs < 1000000) (hb : b.natAbs < 1000000)
    (k : ∀ s', Ext ρ s.heap ρ s'.heap [] → Good B ρ hp s' → ItR s'.heap ρ (.rng a (b - a).toNat) s.heap.objs.size [s.heap.objs.size] → Q (.ref s.heap.objs.size) s') : wpAny (model B.prog B.w) A (pyIter (.ref r)) Q E s := by
  refine wpAny_pyIter_range hr (small_one (by omega) (by omega) (by omega) (by omega)) ?_
  refine k _ (.keeps fun _ _ e => Heap.get?_push_of_some _ e) (G.push _) (.rng a _ _ ?_)
  have e : Builtin.Range.rangeSize a b 1 = (((b - a).toNat : Nat) : Int) := by
    rw [rangeSize_one]; split <;> omega
  rw [e]
  exact Heap.get?_push_size _ rfl
theorem snd_irange {x : Str} {p pos : Pos} {es : List PySem.Expr} {l : ML} (Sf : SndE B d Γ (.Name x p) (fun _ hp => some (.fix (.type "range"), hp))) (Sl : SndL B d Γ es l) (hpl : plainArgs es := by intro _ _; rfl) :
    SndI B d Γ (.Call (.Name x p) es [] pos) (iRange l) := by
  intro env loc hp it hp' ρ s hm G F A Q E hA k
  unfold iRange at hm
  split at hm
  · cases hm
  · rename_i vs hp1 h1
    split at hm
    · cases hm
    · rename_i it' hi
      cases hm
      refine wpAny_Call_NameR (Sf.run rfl G F hA fun u ρ0 s0 x0 G0 F0 r0 => ?_)
      cases r0
      refine callWith_ok (.type "range") (hpl env pos) (Sl env loc _ vs _ ρ0 s0 pos h1 G0 F0 A _ _ hA fun us ρ1 s1 x1 G1 r1 => ⟨G1.keep, ?_⟩)
      have fin : ∀ {a b : Int} {t u v : Tok} {r : Addr} {s2 : Shared}, Ext ρ1 s1.heap ρ1 s2.heap [] → Good B ρ1 hp' s2 → IsRange s2.heap r a b 1 t u v → a.natAbs < 1000000 → b.natAbs < 1000000 → it = .rng a (b - a).toNat →
          wpAny (model B.prog B.w) A (pyIter (.ref r)) Q E s2 := by
        intro a b t u v r s2 x2 G2 hr ha hb e
        subst e
        refine rng_iter G2 hr ha hb fun s3 x3 G3 R3 => k _ _ ρ1 s3 (x0.trans (x1.trans (x2.trans x3))) G3 R3 ?_ ?_
        · intro c hc
          rw [List.mem_singleton.mp hc]
          exact (x0.trans (x1.trans x2)).back (get?_size _)
        · intro c hc
          rw [List.mem_singleton.mp hc]
          exact G2.size_out (Nat.le_refl _)
      unfold rngOf at hi
      split at hi
      · rename_i n
        split at hi
        · rename_i hn
          cases hi
          cases r1 using VRL.case_cons with
          | cons ra r1 =>
            (first | cases r1 using VRL.case_nil | cases r1 using VR.case_int | cases r1 using VR.case_str | cases r1 using VR.case_bool | cases r1 using VR.case_none | cases r1 using VR.case_ref | cases r1 using VR.case_tup | cases r1 using VR.case_bytes | cases r1 using VR.case_fix | cases r1 using VR.case_script | cases r1)
            cases ra using VR.case_int with
            | int t =>
              refine call_range_1 ?_
              have G2 := (G1.push { cls := .type "range", data := .fields #[.int 0 s1.toks, .int n t, .int 1 (s1.toks + 1)] }).tok (s1.toks + 1 + 1)
              exact fin (.keeps fun _ _ e => Heap.get?_push_of_some _ e) G2 (IsRange.new ..) (by decide) hn (by simp)
        · cases hi
      · rename_i a b
        split at hi
        · rename_i hn
          cases hi
          cases r1 using VRL.case_cons with
          | cons ra r1 => cases r1 using VRL.case_cons with
            | cons rb r1 =>
              (first | cases r1 using VRL.case_nil | cases r1 using VR.case_int | cases r1 using VR.case_str | cases r1 using VR.case_bool | cases r1 using VR.case_none | cases r1 using VR.case_ref | cases r1 using VR.case_tup | cases r1 using VR.case_bytes | cases r1 using VR.case_fix | cases r1 using VR.case_script | cases r1)
              cases ra using VR.case_int with
              | int t => cases rb using VR.case_int with
                | int t' =>
                  refine call_range_2 ?_
                  have G2 := (G1.push { cls := .type "range", data := .fields #[.int a t, .int b t', .int 1 s1.toks] }).tok (s1.toks + 1)
                  exact fin (.keeps fun _ _ e => Heap.get?_push_of_some _ e) G2 (IsRange.new ..) hn.1 hn.2 rfl
        · cases hi
      · cases hi
theorem snd_ienum {x : Str} {p pos : Pos} {es : List PySem.Expr} {l : ML} (Sf : SndE B d Γ (.Name x p) (fun _ hp => some (.fix (.type "enumerate"), hp))) (Sl : SndL B d Γ es l) (hpl : plainArgs es := by intro _ _; rfl) :
    SndI B d Γ (.Call (.Name x p) es [] pos) (iEnum l) := by
  intro env loc hp it hp' ρ s hm G F A Q E hA k
  unfold iEnum at hm
  split at hm
  · cases hm
  · rename_i vs hp1 h1
    split at hm
    · cases hm
    · rename_i it' hi
      cases hm
      refine wpAny_Call_NameR (Sf.run rfl G F hA fun u ρ0 s0 x0 G0 F0 r0 => ?_)
      cases r0
      refine callWith_ok (.type "enumerate") (hpl env pos) (Sl env loc _ vs _ ρ0 s0 pos h1 G0 F0 A _ _ hA fun us ρ1 s1 x1 G1 r1 => ⟨G1.keep, ?_⟩)
      unfold enumOf at hi
      split at hi
      · rename_i i
        split at hi
        · rename_i xs hx
          cases hi
          cases r1 using VRL.case_cons with
          | cons ra r1 =>
            (first | cases r1 using VRL.case_nil | cases r1 using VR.case_int | cases r1 using VR.case_str | cases r1 using VR.case_bool | cases r1 using VR.case_none | cases r1 using VR.case_ref | cases r1 using VR.case_tup | cases r1 using VR.case_bytes | cases r1 using VR.case_fix | cases r1 using VR.case_script | cases r1)
            cases ra using VR.case_ref with
            | ref a ea =>
              obtain ⟨vs, hl, hv⟩ := G1.listAt hx ea
              refine call_enumerate_list hl fun h' he hi hz hk => ?_
              refine wpAny_pyIter_enum he ?_
              have G2 : Good B ρ1 hp' { s1 with heap := h' } := G1.keeps (tk := s1.toks) hk
              refine k _ [s1.heap.objs.size + 1, s1.heap.objs.size] ρ1 _ (x0.trans (x1.trans (.keeps hk))) G2 (.enum i 0 _ _ a .none ea he hi (Nat.succ_ne_self _)) ?_ ?_
              · intro c hc
                refine (x0.trans x1).back (get?_big _ ?_)
                rcases List.mem_cons.mp hc with rfl | hc
                · exact Nat.le_succ _
                · rw [List.mem_singleton.mp hc]; exact Nat.le_refl _
              · intro c hc
                refine G1.size_out ?_
                rcases List.mem_cons.mp hc with rfl | hc
                · exact Nat.le_succ _
                · rw [List.mem_singleton.mp hc]; exact Nat.le_refl _
        · cases hi
      · cases hi
noncomputable def zipOf (hp : List MO) : List MV → Option (It × List MO)
  | [.ref i, .ref j] => match listOf hp i with
    | none => none
    | some _ => match listOf hp j with
      | none => none
      | some _ => some (.zip i j 0 hp.length, hp ++ [.junk])
  | _ => none
noncomputable def iZip (l : ML) : MI := fun loc hp => match l loc hp with
  | none => none
  | some (vs, hp1) => zipOf hp1 vs
theorem snd_izip {x : Str} {p pos : Pos} {es : List PySem.Expr} {l : ML} (Sf : SndE B d Γ (.Name x p) (fun _ hp => some (.fix (.type "zip"), hp))) (Sl : SndL B d Γ es l) (hpl : plainArgs es := by intro _ _; rfl) :
    SndI B d Γ (.Call (.Name x p) es [] pos) (iZip l) := by
  intro env loc hp it hp' ρ s hm G F A Q E hA k
  unfold iZip at hm
  split at hm
  · cases hm
  · rename_i vs hp1 h1
    refine wpAny_Call_NameR (Sf.run rfl G F hA fun u ρ0 s0 x0 G0 F0 r0 => ?_)
    cases r0
    refine callWith_ok (.type "zip") (hpl env pos) (Sl env loc _ vs _ ρ0 s0 pos h1 G0 F0 A _ _ hA fun us ρ1 s1 x1 G1 r1 => ⟨G1.keep, ?_⟩)
    unfold zipOf at hm
    split at hm
    · rename_i i j
      split at hm
      · cases hm
      · rename_i xs hx
        split at hm
        · cases hm
        · rename_i ys hy
          cases hm
          cases r1 using VRL.case_cons with
          | cons ra r1 => cases r1 using VRL.case_cons with
            | cons rb r1 =>
              (first | cases r1 using VRL.case_nil | cases r1 using VR.case_int | cases r1 using VR.case_str | cases r1 using VR.case_bool | cases r1 using VR.case_none | cases r1 using VR.case_ref | cases r1 using VR.case_tup | cases r1 using VR.case_bytes | cases r1 using VR.case_fix | cases r1 using VR.case_script | cases r1)
              cases ra using VR.case_ref with
              | ref a ea => cases rb using VR.case_ref with
                | ref b eb =>
                  obtain ⟨vs, hl1, hv⟩ := G1.listAt hx ea
                  obtain ⟨us, hl2, hu⟩ := G1.listAt hy eb
                  have a1 : a < s1.heap.objs.size := by obtain ⟨_, e, _⟩ := hl1; exact Heap.lt_size e
                  have a2 : b < s1.heap.objs.size := by obtain ⟨_, e, _⟩ := hl2; exact Heap.lt_size e
                  refine call_zip_2 hl1 hl2 fun h' hz hTI hTO h1' h2' hsz hk => ?_
                  refine wpAny_pyIter_zip hz ?_
                  have big : ∀ n, s1.heap.objs.size ≤ n → s1.heap.get? n = none := fun n hn => get?_big _ hn
                  have hnew : s1.heap.get? (s1.heap.objs.size + 3) = none := big _ (Nat.le_add_right _ _)
                  have hout : ∀ n, s1.heap.objs.size ≤ n → n ≠ s1.heap.objs.size + 3 → n ∉ ρ1 ++ [s1.heap.objs.size + 3] := fun n hn hne q => by
                    rcases List.mem_append.mp q with q | q
                    · exact G1.size_out hn q
                    · exact hne (List.mem_singleton.mp q)
                  have x2 : Ext ρ1 s1.heap (ρ1 ++ [s1.heap.objs.size + 3]) h' [] := ⟨⟨[_], rfl, fun c hc => by rw [List.mem_singleton.mp hc]; exact hnew⟩, fun c o e _ _ => hk c o e, fun c o e _ => ⟨o, hk c o e⟩⟩
                  have hlast : (ρ1 ++ [s1.heap.objs.size + 3])[hp1.length]? = some (s1.heap.objs.size + 3) := by rw [← G1.len, List.getElem?_append_right (Nat.le_refl _)]; simp
                  have G2 : Good B (ρ1 ++ [s1.heap.objs.size + 3]) (hp1 ++ [.junk]) { s1 with heap := h' } := by
                    refine ⟨?_, fun c o e => hk c o (G1.keep c o e), ?_, ?_, ?_, ?_⟩
                    · obtain ⟨h, t, e⟩ := G1.same
                      exact ⟨h', s1.toks, by rw [e]⟩
                    · intro c hc
                      rcases List.mem_append.mp hc with q | q
                      · exact G1.fresh c q
                      · rw [List.mem_singleton.mp q]
                        cases e3 : B.s₀.heap.get? (s1.heap.objs.size + 3) with
                        | none => rfl
                        | some o => rw [G1.keep _ o e3] at hnew; cases hnew
                    · rw [List.nodup_append]
                      exact ⟨G1.nd, by simp, fun c hc e he => by rw [List.mem_singleton.mp he]; rintro rfl; exact G1.size_out (Nat.le_add_right _ _) hc⟩
                    · rw [List.length_append, List.length_append, G1.len]; rfl
                    · intro n mo c q1 q2
                      rcases Nat.lt_or_ge n hp1.length with hi | hi
                      · rw [List.getElem?_append_left hi] at q1
                        rw [List.getElem?_append_left (by rw [G1.len]; exact hi)] at q2
                        exact (G1.ok n mo c q1 q2).ext x2 trivial .nil fun o e => hk c o e
                      · have hi2 : n = hp1.length := by
                          have := (List.getElem?_eq_some_iff.mp q1).1
                          rw [List.length_append, List.length_singleton] at this
                          omega
                        subst hi2
                        rw [List.getElem?_append_right (Nat.le_refl _)] at q1
                        simp at q1
                        subst q1
                        rw [hlast] at q2
                        cases q2
                        exact .junk _ _ _ hTO
                  refine k _ [s1.heap.objs.size + 4, s1.heap.objs.size, s1.heap.objs.size + 1] (ρ1 ++ [s1.heap.objs.size + 3]) _ (x0.trans (x1.trans x2)) G2 (.zip i j 0 hp1.length _ (s1.heap.objs.size + 2) (s1.heap.objs.size + 3) s1.heap.objs.size (s1.heap.objs.size + 1) a b (zipApart_new a1 a2) hz hTI h1' h2' (x2.get ea) (x2.get eb) hlast (hout _ (Nat.le_add_right _ _) (by omega))) ?_ ?_
                  · intro c hc
                    refine (x0.trans x1).back (big _ ?_)
                    rcases List.mem_cons.mp hc with rfl | hc
                    · exact Nat.le_add_right _ _
                    · rcases List.mem_cons.mp hc with rfl | hc
                      · exact Nat.le_refl _
                      · rw [List.mem_singleton.mp hc]; exact Nat.le_succ _
                  · intro c hc
                    rcases List.mem_cons.mp hc with rfl | hc
                    · exact hout _ (Nat.le_add_right _ _) (by omega)
                    · rcases List.mem_cons.mp hc with rfl | hc
                      · exact hout _ (Nat.le_refl _) (by omega)
                      · rw [List.mem_singleton.mp hc]; exact hout _ (Nat.le_succ _) (by omega)
    · cases hm
end
end Mine
end
section
open PySem PySem.W PyProof.Rows PySem.Spec PySem.Calls
set_option linter.unusedVariables false
namespace Mine
abbrev GF := List MV → List MO → Option (MV × List MO)
noncomputable def intsOf : List MV → Option (List Int)
  | [] => some []
  | .int i :: r => match intsOf r with
    | none => none
    | some l => some (i :: l)
  | _ => none
noncomputable def intL (l : List Int) : List MV := l.map .int
noncomputable def maxI : List Int → Int
  | [] => 0
  | [a] => a
  | a :: l => max a (maxI l)
noncomputable def minI : List Int → Int
  | [] => 0
  | [a] => a
  | a :: l => min a (minI l)
noncomputable def hexL (n : Nat) : List Nat := 48 :: 120 :: (Nat.toDigits 16 n).map Char.toNat
noncomputable def gAbs : GF := fun vs hp => match vs with
  | [.int i] => some (.int (if i < 0 then -i else i), hp)
  | _ => none
noncomputable def gInt : GF := fun vs hp => match vs with
  | [.int i] => some (.int i, hp)
  | _ => none
noncomputable def gDivmod : GF := fun vs hp => match vs with
  | [.int a, .int b] => if b ≠ 0 ∧ b.natAbs < 1073741824 then some (.tup [.int (a.fdiv b), .int (a.fmod b)], hp) else none
  | _ => none
noncomputable def gChr : GF := fun vs hp => match vs with
  | [.int i] => if 0 ≤ i ∧ i ≤ 0x10FFFF then some (.str [i.toNat], hp) else none
  | _ => none
noncomputable def gOrd : GF := fun vs hp => match vs with
  | [.str [c]] => some (.int c, hp)
  | _ => none
noncomputable def gHex : GF := fun vs hp => match vs with
  | [.int i] => if 0 ≤ i ∧ i < 2 ^ 64 then some (.str (hexL i.toNat), hp) else none
  | _ => none
noncomputable def gType : GF := fun vs hp => match vs with
  | [.ref i] => match listOf hp i with
    | some _ => some (.fix (.type "list"), hp)
    | none => none
  | [.str _] => some (.fix (.type "str"), hp)
  | _ => none
noncomputable def gLen (sns : List Int) : GF := fun vs hp => match vs with
  | [.ref i] => match listOf hp i with
    | some xs => if xs.length < few then some (.int xs.length, hp) else none
    | none => none
  | [.script] => some (.int sns.length, hp)
  | _ => none
noncomputable def gInts (f : List Int → Option MV) : GF := fun vs hp => match vs with
  | [.ref i] => match listOf hp i with
    | some xs => match intsOf xs with
      | none => none
      | some l => match f l with
        | none => none
        | some v => some (v, hp)
    | none => none
  | _ => none
noncomputable def gMax : GF := gInts fun l => match l with
  | [] => none
  | l => some (.int (maxI l))
noncomputable def gMin : GF := gInts fun l => match l with
  | [] => none
  | l => some (.int (minI l))
noncomputable def gSum : GF := gInts fun l => some (.int l.sum)
theorem maxI_is : ∀ (l : List Int) (M : Int), M ∈ l → (∀ a ∈ l, a ≤ M) → maxI l = M
  | [a], M, h, _ => (List.mem_singleton.mp h).symm
  | a :: b :: l, M, h, hu => by
    show max a (maxI (b :: l)) = M
    have ha := hu a (List.mem_cons_self ..)
    by_cases hm : M ∈ b :: l
    · rw [maxI_is (b :: l) M hm fun x hx => hu x (List.mem_cons_of_mem _ hx)]
      omega
    · have e : M = a := (List.mem_cons.mp h).resolve_right hm
      subst e
      have key : ∀ (l : List Int), l ≠ [] → (∀ x ∈ l, x ≤ M) → maxI l ≤ M := by
        intro l
        induction l with
        | nil => intro q; exact absurd rfl q
        | cons x r ih =>
          intro _ hx
          cases r with
          | nil => exact hx x (List.mem_cons_self ..)
          | cons y r =>
            have h1 := ih (by simp) fun z hz => hx z (List.mem_cons_of_mem _ hz)
            have h2 := hx x (List.mem_cons_self ..)
            show max x (maxI (y :: r)) ≤ M
            omega
      have := key (b :: l) (by simp) fun x hx => hu x (List.mem_cons_of_mem _ hx)
      omega
theorem minI_is : ∀ (l : List Int) (M : Int), M ∈ l → (∀ a ∈ l, M ≤ a) → minI l = M
  | [a], M, h, _ => (List.mem_singleton.mp h).symm
  | a :: b :: l, M, h, hu => by
    show min a (minI (b :: l)) = M
    have ha := hu a (List.mem_cons_self ..)
    by_cases hm : M ∈ b :: l
    · rw [minI_is (b :: l) M hm fun x hx => hu x (List.mem_cons_of_mem _ hx)]
      omega
    · have e : M = a := (List.mem_cons.mp h).resolve_right hm
      subst e
      have key : ∀ (l : List Int), l ≠ [] → (∀ x ∈ l, M ≤ x) → M ≤ minI l := by
        intro l
        induction l with
        | nil => intro q; exact absurd rfl q
        | cons x r ih =>
          intro _ hx
          cases r with
          | nil => exact hx x (List.mem_cons_self ..)
          | cons y r =>
            have h1 := ih (by simp) fun z hz => hx z (List.mem_cons_of_mem _ hz)
            have h2 := hx x (List.mem_cons_self ..)
            show M ≤ min x (minI (y :: r))
            omega
      have := key (b :: l) (by simp) fun x hx => hu x (List.mem_cons_of_mem _ hx)
      omega
theorem hexL_eq {i : Int} (h : 0 ≤ i) : baseText "0x" 16 i = mkS (hexL i.toNat) := by
  rw [baseText_nonneg h]
  have e1 : Str.ofString "" = mkS [] := by kernel_rfl
  have e2 : Str.ofString "0x" = mkS [48, 120] := by kernel_rfl
  have e3 : i.natAbs = i.toNat := by omega
  rw [e1, e2, e3, PySem.W.Fast.ofString_ofList]
  show mkS [] ++ mkS [48, 120] ++ mkS _ = _
  rw [append_mkS, append_mkS]; rfl
theorem hexL_len {n : Nat} (h : n < 2 ^ 64) : (hexL n).length ≤ 18 := by
  have h1 : (Nat.toDigits 16 n).length ≤ 16 := by
    by_cases h0 : n = 0
    · subst h0; decide
    · have := Nat.length_toDigits_le_iff (n := n) (b := 16) (by decide) (k := 16) (by decide)
      exact this.mpr (by omega)
  simp [hexL]; omega
section
variable {B : Base} {d : Nat} {Γ : Ctx} {env : Env} {loc : Loc} {hp hp' : List MO} {ρ : List Addr} {s : Shared} {A : Around} {E : Value → Shared → Prop}
theorem intsAre : ∀ {xs : List MV} {l : List Int} {vs : List Value} {h : Heap} {l₀ : Addr}, intsOf xs = some l → VRL h ρ l₀ xs vs → IntsAre vs l
  | [], l, _, _, _, e, .nil => by cases e; exact .nil
  | x :: xs, l, _, _, _, e, .cons a b => by
    unfold intsOf at e
    split at e
    · cases ‹_ :: _ = []›
    · rename_i hx
      cases hx
      split at e
      · cases e
      · rename_i l' hl
        cases e
        cases a
        exact .cons _ _ (intsAre hl b)
    · cases e
theorem vrl_ints {vs : List Value} {l : List Int} {h : Heap} {l₀ : Addr} (x : IntsAre vs l) : VRL h ρ l₀ (intL l) vs := by
  induction x with
  | nil => exact .nil
  | cons n t _ ih => exact .cons (.int n t) ih
theorem Good.last (G : Good B ρ hp s) (a : Addr) : (ρ ++ [a])[hp.length]? = some a := by
  rw [List.getElem?_append_right (by rw [G.len]; exact Nat.le_refl _), G.len, Nat.sub_self]; rfl
theorem call_abs : CallOk B d (.builtin "abs") gAbs := by
  intro vs hp v hp' ρ s us hm G r A Q E hA k
  unfold gAbs at hm
  split at hm
  · cases hm
    cases r using VRL.case_cons with
    | cons ra r =>
      (first | cases r using VRL.case_nil | cases r using VR.case_int | cases r using VR.case_str | cases r using VR.case_bool | cases r using VR.case_none | cases r using VR.case_ref | cases r using VR.case_tup | cases r using VR.case_bytes | cases r using VR.case_fix | cases r using VR.case_script | cases r); cases ra using VR.case_int with
      | int t => exact call_abs_int fun u tk => k _ ρ _ .refl (G.tok tk) (.int _ _)
  · cases hm
theorem call_int : CallOk B d (.type "int") gInt := by
  intro vs hp v hp' ρ s us hm G r A Q E hA k
  unfold gInt at hm
  split at hm
  · cases hm
    cases r using VRL.case_cons with
    | cons ra r =>
      (first | cases r using VRL.case_nil | cases r using VR.case_int | cases r using VR.case_str | cases r using VR.case_bool | cases r using VR.case_none | cases r using VR.case_ref | cases r using VR.case_tup | cases r using VR.case_bytes | cases r using VR.case_fix | cases r using VR.case_script | cases r); cases ra using VR.case_int with
      | int t => exact PySem.call_int_int (k _ ρ _ .refl G (.int _ _))
  · cases hm
theorem call_divmod : CallOk B d (.builtin "divmod") gDivmod := by
  intro vs hp v hp' ρ s us hm G r A Q E hA k
  unfold gDivmod at hm
  split at hm
  · rename_i a b
    split at hm
    · rename_i h
      cases hm
      cases r using VRL.case_cons with
      | cons ra r => cases r using VRL.case_cons with
        | cons rb r =>
          (first | cases r using VRL.case_nil | cases r using VR.case_int | cases r using VR.case_str | cases r using VR.case_bool | cases r using VR.case_none | cases r using VR.case_ref | cases r using VR.case_tup | cases r using VR.case_bytes | cases r using VR.case_fix | cases r using VR.case_script | cases r); (first | cases ra using VR.case_int | cases ra using VR.case_str | cases ra using VR.case_bool | cases ra using VR.case_none | cases ra using VR.case_ref | cases ra using VR.case_tup | cases ra using VR.case_bytes | cases ra using VR.case_fix | cases ra using VR.case_script | cases ra); (first | cases rb using VR.case_int | cases rb using VR.case_str | cases rb using VR.case_bool | cases rb using VR.case_none | cases rb using VR.case_ref | cases rb using VR.case_tup | cases rb using VR.case_bytes | cases rb using VR.case_fix | cases rb using VR.case_script | cases rb)
          refine divmod_int h.1 ?_ (.inl (PyProof.noPylong_small h.2))
          obtain ⟨G', x, rr⟩ := (G.tok (s.toks + 1 + 1)).newTup (xs := [.int (a.fdiv b), .int (a.fmod b)]) (vs := [.int (a.fdiv b) s.toks, .int (a.fmod b) (s.toks + 1)]) (.cons (.int _ _) (.cons (.int _ _) .nil)) rfl
          exact k _ ρ _ x G' rr
    · cases hm
  · cases hm
theorem call_chr : CallOk B d (.builtin "chr") gChr := by
  intro vs hp v hp' ρ s us hm G r A Q E hA k
  unfold gChr at hm
  split at hm
  · rename_i i
    split at hm
    · rename_i h
      cases hm
      cases r using VRL.case_cons with
      | cons ra r =>
        (first | cases r using VRL.case_nil | cases r using VR.case_int | cases r using VR.case_str | cases r using VR.case_bool | cases r using VR.case_none | cases r using VR.case_ref | cases r using VR.case_tup | cases r using VR.case_bytes | cases r using VR.case_fix | cases r using VR.case_script | cases r); cases ra using VR.case_int with
        | int t =>
          refine PySem.P.chr_of_int (by simp; omega) ?_
          exact k _ ρ _ .refl (G.tok _) (.str [i.toNat] _)
    · cases hm
  · cases hm
theorem call_ord : CallOk B d (.builtin "ord") gOrd := by
  intro vs hp v hp' ρ s us hm G r A Q E hA k
  unfold gOrd at hm
  split at hm
  · rename_i c
    cases hm
    cases r using VRL.case_cons with
    | cons ra r =>
      (first | cases r using VRL.case_nil | cases r using VR.case_int | cases r using VR.case_str | cases r using VR.case_bool | cases r using VR.case_none | cases r using VR.case_ref | cases r using VR.case_tup | cases r using VR.case_bytes | cases r using VR.case_fix | cases r using VR.case_script | cases r); cases ra using VR.case_str with
      | str t =>
        refine PySem.P.ord_of_char (c := c) ?_
        exact k _ ρ _ .refl (G.tok _) (.int c _)
  · cases hm
theorem call_hex : CallOk B d (.builtin "hex") gHex := by
  intro vs hp v hp' ρ s us hm G r A Q E hA k
  unfold gHex at hm
  split at hm
  · rename_i i
    split at hm
    · rename_i h
      cases hm
      cases r using VRL.case_cons with
      | cons ra r =>
        (first | cases r using VRL.case_nil | cases r using VR.case_int | cases r using VR.case_str | cases r using VR.case_bool | cases r using VR.case_none | cases r using VR.case_ref | cases r using VR.case_tup | cases r using VR.case_bytes | cases r using VR.case_fix | cases r using VR.case_script | cases r); cases ra using VR.case_int with
        | int t =>
          refine PySem.P.hex_of_int ?_ ?_
          · rw [hexL_eq h.1]
            exact k _ ρ _ .refl (G.tok _) (.str _ _)
          · rw [hexL_eq h.1, strLen_mkS]
            exact Nat.le_trans (hexL_len (by omega)) (by decide)
    · cases hm
  · cases hm
theorem call_type : CallOk B d (.type "type") gType := by
  intro vs hp v hp' ρ s us hm G r A Q E hA k
  unfold gType at hm
  split at hm
  · rename_i i
    split at hm
    · rename_i xs hx
      cases hm
      cases r using VRL.case_cons with
      | cons ra r =>
        (first | cases r using VRL.case_nil | cases r using VR.case_int | cases r using VR.case_str | cases r using VR.case_bool | cases r using VR.case_none | cases r using VR.case_ref | cases r using VR.case_tup | cases r using VR.case_bytes | cases r using VR.case_fix | cases r using VR.case_script | cases r); cases ra using VR.case_ref with
        | ref a ea =>
          obtain ⟨vs, ⟨n, e⟩, _⟩ := G.listP hx ea
          exact call_type_of (Tx := "list") ⟨_, e, rfl⟩ (by decide) (k _ ρ _ .refl G (.fix _))
    · cases hm
  · rename_i x
    cases hm
    cases r using VRL.case_cons with
    | cons ra r =>
      (first | cases r using VRL.case_nil | cases r using VR.case_int | cases r using VR.case_str | cases r using VR.case_bool | cases r using VR.case_none | cases r using VR.case_ref | cases r using VR.case_tup | cases r using VR.case_bytes | cases r using VR.case_fix | cases r using VR.case_script | cases r); cases ra using VR.case_str with
      | str t => exact call_type_of (Tx := "str") (typeIs_str s _ t) (by decide) (k _ ρ _ .refl G (.fix _))
  · cases hm
theorem call_len (O : B.Ok) : CallOk B d (.builtin "len") (gLen B.sns) := by
  intro vs hp v hp' ρ s us hm G r A Q E hA k
  unfold gLen at hm
  split at hm
  · rename_i i
    split at hm
    · rename_i xs hx
      split at hm
      · rename_i hf
        cases hm
        cases r using VRL.case_cons with
        | cons ra r =>
          (first | cases r using VRL.case_nil | cases r using VR.case_int | cases r using VR.case_str | cases r using VR.case_bool | cases r using VR.case_none | cases r using VR.case_ref | cases r using VR.case_tup | cases r using VR.case_bytes | cases r using VR.case_fix | cases r using VR.case_script | cases r); cases ra using VR.case_ref with
          | ref a ea =>
            obtain ⟨vs, hl, hv⟩ := G.listAt hx ea
            have e : (⟨vs⟩ : Array Value).size = xs.length := hv.length.symm
            refine PyProof.Rows.len_list hl (by rw [e]; unfold few at hf; omega) ?_
            rw [e]
            exact k _ ρ _ .refl (G.tok _) (.int _ _)
      · cases hm
    · cases hm
  · cases hm
    cases r using VRL.case_cons with
    | cons ra r =>
      (first | cases r using VRL.case_nil | cases r using VR.case_int | cases r using VR.case_str | cases r using VR.case_bool | cases r using VR.case_none | cases r using VR.case_ref | cases r using VR.case_tup | cases r using VR.case_bytes | cases r using VR.case_fix | cases r using VR.case_script | cases r); cases ra with
      | script =>
        have hl : s.heap.IsList B.l₀ B.svs.toArray := by
          obtain ⟨o, e, r⟩ := O.islist
          exact ⟨o, G.keep _ _ e, r⟩
        have e : B.svs.toArray.size = B.sns.length := by simp [O.areInts.length]
        refine PyProof.Rows.len_list hl (by rw [e]; have := O.few; omega) ?_
        rw [e]
        exact k _ ρ _ .refl (G.tok _) (.int _ _)
  · cases hm
theorem intsItems {vs : List Value} {l : List Int} (h : IntsAre vs l) : ∃ xs : Array (Int × Tok), (⟨vs⟩ : Array Value) = intItems xs ∧ xs.toList.map (·.1) = l := by
  induction h with
  | nil => exact ⟨#[], by simp [intItems], rfl⟩
  | cons n t _ ih =>
    obtain ⟨xs, e, e'⟩ := ih
    refine ⟨⟨(n, t) :: xs.toList⟩, ?_, by simp [e']⟩
    have := congrArg Array.toList e
    simp only [intItems, Array.toList_map] at this
    simp only [intItems]
    apply Array.ext'
    simp [this]
theorem gInts_ok {f : List Int → Option MV} {f' : Value} (hf : ∀ {l : List Int} {v : MV} {A : Around} {E : Value → Shared → Prop} {s : Shared} {a : Addr} {xs : Array (Int × Tok)} {Q : Value → Shared → Prop}, f l = some v → A.handled = none → s.heap.IsList a (intItems xs) → xs.toList.map (·.1) = l →
    (∀ u h' tk, (∀ ρ h l₀, VR h ρ l₀ v u) → (∀ b o, s.heap.get? b = some o → h'.get? b = some o) → Q u { s with heap := h', toks := tk }) → wpAny (model B.prog B.w) A (call f' [.ref a]) Q E s) : CallOk B d f' (gInts f) := by
  intro vs hp v hp' ρ s us hm G r A Q E hA k
  unfold gInts at hm
  split at hm
  · rename_i i
    split at hm
    · rename_i xs hx
      split at hm
      · cases hm
      · rename_i l hl
        split at hm
        · cases hm
        · rename_i v' hv
          cases hm
          cases r using VRL.case_cons with
          | cons ra r =>
            (first | cases r using VRL.case_nil | cases r using VR.case_int | cases r using VR.case_str | cases r using VR.case_bool | cases r using VR.case_none | cases r using VR.case_ref | cases r using VR.case_tup | cases r using VR.case_bytes | cases r using VR.case_fix | cases r using VR.case_script | cases r); cases ra using VR.case_ref with
            | ref a ea =>
              obtain ⟨vs, hl', hvs⟩ := G.listAt hx ea
              obtain ⟨ys, e1, e2⟩ := intsItems (intsAre hl hvs)
              rw [e1] at hl'
              exact hf hv hA.handled hl' e2 fun u h' tk r hk => k u ρ _ (.keeps hk) (G.keeps hk) (r _ _ _)
    · cases hm
  · cases hm
theorem call_max : CallOk B d (.builtin "max") gMax := by
  refine gInts_ok fun {l v A E s a xs Q} hv hh hl e k => ?_
  have hne : 0 < xs.size := by
    cases l with
    | nil => cases hv
    | cons y l =>
      have := congrArg List.length e
      simp at this; omega
  have hv' : v = .int (maxI l) := by
    cases l with
    | nil => cases hv
    | cons y l => cases hv; rfl
  subst hv'
  refine max_intList hh hl hne fun u h' tk hu hk => ?_
  obtain ⟨t, rfl⟩ := intItems_at hu
  obtain ⟨h1, h2⟩ := argBest_gt (numAt xs) (xs.size - 1)
  have : maxI l = numAt xs (argBest (fun i j => decide (numAt xs i > numAt xs j)) (xs.size - 1)) := by
    refine maxI_is l _ ?_ fun a ha => ?_
    · rw [← e, numAt_eq]; exact PySem.getD_mem (by rw [List.length_map, Array.length_toList]; omega)
    · rw [← e] at ha
      obtain ⟨j, hj, rfl⟩ := mem_getD ha
      rw [← numAt_eq]
      rw [List.length_map, Array.length_toList] at hj
      exact h2 j (by omega)
  rw [← this]
  exact k _ _ _ (fun _ _ _ => .int _ _) hk
theorem call_min : CallOk B d (.builtin "min") gMin := by
  refine gInts_ok fun {l v A E s a xs Q} hv hh hl e k => ?_
  have hne : 0 < xs.size := by
    cases l with
    | nil => cases hv
    | cons y l =>
      have := congrArg List.length e
      simp at this; omega
  have hv' : v = .int (minI l) := by
    cases l with
    | nil => cases hv
    | cons y l => cases hv; rfl
  subst hv'
  refine min_intList hh hl hne fun u h' tk hu hk => ?_
  obtain ⟨t, rfl⟩ := intItems_at hu
  obtain ⟨h1, h2⟩ := argBest_lt (numAt xs) (xs.size - 1)
  have : minI l = numAt xs (argBest (fun i j => decide (numAt xs i < numAt xs j)) (xs.size - 1)) := by
    refine minI_is l _ ?_ fun a ha => ?_
    · rw [← e, numAt_eq]; exact PySem.getD_mem (by rw [List.length_map, Array.length_toList]; omega)
    · rw [← e] at ha
      obtain ⟨j, hj, rfl⟩ := mem_getD ha
      rw [← numAt_eq]
      rw [List.length_map, Array.length_toList] at hj
      exact h2 j (by omega)
  rw [← this]
  exact k _ _ _ (fun _ _ _ => .int _ _) hk
theorem call_sum : CallOk B d (.builtin "sum") gSum := by
  refine gInts_ok fun {l v A E s a xs Q} hv hh hl e k => ?_
  cases hv
  refine sum_intListG hh hl fun h' tk t' hk => ?_
  rw [preSum_eq, List.take_of_length_le (by simp), e]
  exact k _ _ _ (fun _ _ _ => .int _ _) hk
end
end Mine
end
section
open PySem PySem.W PyProof.Rows PySem.Spec PySem.Calls
set_option linter.unusedVariables false
namespace Mine
structure FunIs (B : Base) (a : Addr) (fd : FuncData) (Γ : Ctx) (body : List PySem.Stmt) : Prop where
  at_ : ∃ o, B.s₀.heap.get? a = some o ∧ o.data = .func fd
  code : B.s₀.heap.CodeRec fd.code fd.qualname
  bodyIs : fd.body = .stmts body
  clo : fd.closure = []
  co : fd.scope.isCoroutine = false
  gen : fd.scope.isGenerator = false
  kind : fd.scope.kind = .function
  glob : fd.globals = mainGlobals
  blt : fd.builtins = builtinsNs
  sc : fd.scope.names = Γ.sc
  nofree : (Γ.sc.all fun p => p.2 != .free) = true
  keys : (Γ.sc.map (·.1)).Nodup
  tbl : (Γ.tbl.all fun x => Γ.sc.lookup x == some .local || Γ.sc.lookup x == some .cell) = true
  tnd : Γ.tbl.Nodup
noncomputable def outOf (r : Option (MFlow × Loc × List MO)) : Option (MV × List MO) := match r with
  | some (.ret v, _, hp') => some (v, hp')
  | some (.next, _, hp') => some (.none, hp')
  | _ => none
noncomputable def loc0 (vs : List MV) (k : Nat) : Loc := vs.map some ++ List.replicate k none
theorem cells_keep {x : Str} : ∀ (names : List (Str × NameKind)) (n : Nat) (acc : List (Str × Addr)), (acc.lookup x).isSome = true → ((cellsFrom n names acc).lookup x).isSome = true
  | [], _, _, h => h
  | (y, k) :: r, n, acc, h => by
    unfold cellsFrom
    split
    · refine cells_keep r _ _ ?_
      rw [List.lookup_cons]
      split
      · rfl
      · exact h
    · exact cells_keep r _ _ h
theorem cells_has {x : Str} : ∀ (names : List (Str × NameKind)) (n : Nat) (acc : List (Str × Addr)), (x, NameKind.cell) ∈ names → ((cellsFrom n names acc).lookup x).isSome = true
  | (y, k) :: r, n, acc, h => by
    unfold cellsFrom
    rcases List.mem_cons.mp h with e | h
    · cases e
      rw [if_pos (by rfl)]
      exact cells_keep r _ _ (by rw [List.lookup_cons_self]; rfl)
    · split
      · exact cells_has r _ _ h
      · exact cells_has r _ _ h
theorem cells_nodup : ∀ (names : List (Str × NameKind)) (n : Nat) (acc : List (Str × Addr)), (acc.map (·.1)).Nodup → (names.map (·.1)).Nodup → (∀ x ∈ acc.map (·.1), x ∉ names.map (·.1)) → ((cellsFrom n names acc).map (·.1)).Nodup
  | [], _, _, h, _, _ => h
  | (y, k) :: r, n, acc, h, hn, ha => by
    have h1 := List.nodup_cons.mp hn
    unfold cellsFrom
    split
    · refine cells_nodup r _ _ ?_ h1.2 ?_
      · exact List.nodup_cons.mpr ⟨fun q => ha y q (List.mem_cons_self ..), h⟩
      · intro x hx q
        rcases List.mem_cons.mp hx with e | hx
        · exact h1.1 (by rw [← e]; exact q)
        · exact ha x hx (List.mem_cons_of_mem _ q)
    · exact cells_nodup r _ _ h h1.2 fun x hx q => ha x hx (List.mem_cons_of_mem _ q)
theorem lookup_of_mem {α : Type} {x : Str} {c : α} : ∀ {l : List (Str × α)}, (l.map (·.1)).Nodup → (x, c) ∈ l → l.lookup x = some c
  | (y, k) :: r, h, hm => by
    have h1 := List.nodup_cons.mp h
    rw [List.lookup_cons]
    rcases List.mem_cons.mp hm with e | hm
    · cases e; simp
    · have : (x == y) = false := by
        rw [beq_eq_false_iff_ne]
        intro e
        exact h1.1 (List.mem_map.mpr ⟨(x, c), hm, e⟩)
      rw [this]
      exact lookup_of_mem h1.2 hm
theorem bindL_skip {kf : Str → Option NameKind} {x : Str} : ∀ (binds : List (Str × Value)) (m : Str → Option Value), x ∉ binds.map (·.1) → bindL kf binds m x = m x
  | [], _, _ => rfl
  | (y, v) :: r, m, h => by
    unfold bindL
    rw [bindL_skip r _ fun q => h (List.mem_cons_of_mem _ q)]
    split
    · show (if x = y then some v else m x) = m x
      rw [if_neg (show ¬ x = y from fun e => h (by rw [e]; exact List.mem_cons_self ..))]
    · rfl
theorem bindL_get {kf : Str → Option NameKind} {x : Str} {u : Value} : ∀ (binds : List (Str × Value)) (m : Str → Option Value), (binds.map (·.1)).Nodup → (x, u) ∈ binds → kf x = some .local → bindL kf binds m x = some u
  | (y, v) :: r, m, hn, hm, hk => by
    have h1 := List.nodup_cons.mp hn
    unfold bindL
    rcases List.mem_cons.mp hm with e | hm
    · cases e
      rw [bindL_skip r _ h1.1, if_pos hk, if_pos rfl]
    · exact bindL_get r _ h1.2 hm hk
theorem bindC_skip {kf : Str → Option NameKind} {x : Str} : ∀ (binds : List (Str × Value)) (m : Str → Option Value), x ∉ binds.map (·.1) → bindC kf binds m x = m x
  | [], _, _ => rfl
  | (y, v) :: r, m, h => by
    unfold bindC
    rw [bindC_skip r _ fun q => h (List.mem_cons_of_mem _ q)]
    split
    · rfl
    · show (if x = y then some v else m x) = m x
      rw [if_neg (show ¬ x = y from fun e => h (by rw [e]; exact List.mem_cons_self ..))]
theorem bindC_get {kf : Str → Option NameKind} {x : Str} {u : Value} : ∀ (binds : List (Str × Value)) (m : Str → Option Value), (binds.map (·.1)).Nodup → (x, u) ∈ binds → kf x = some .cell → bindC kf binds m x = some u
  | (y, v) :: r, m, hn, hm, hk => by
    have h1 := List.nodup_cons.mp hn
    unfold bindC
    rcases List.mem_cons.mp hm with e | hm
    · cases e
      rw [bindC_skip r _ h1.1, if_neg (by rw [hk]; decide), if_pos rfl]
    · exact bindC_get r _ h1.2 hm hk
section
variable {B : Base} {d : Nat} {Γ : Ctx} {env : Env} {loc : Loc} {hp hp' : List MO} {ρ : List Addr} {s : Shared} {A : Around} {E : Value → Shared → Prop}
theorem loc0_at {vs : List MV} {k i : Nat} {v : MV} (h : (loc0 vs k)[i]? = some (some v)) : vs[i]? = some v := by
  unfold loc0 at h
  by_cases hi : i < vs.length
  · rw [List.getElem?_append_left (by simpa using hi)] at h
    rw [List.getElem?_map] at h
    cases e : vs[i]? with
    | none => rw [e] at h; cases h
    | some y => rw [e] at h; cases h; rfl
  · rw [List.getElem?_append_right (by simpa using hi)] at h
    rw [List.getElem?_replicate] at h
    split at h <;> cases h
theorem run_fun {a : Addr} {fd : FuncData} {body : List PySem.Stmt} {m : MS} {args : Args} {vs : List MV} {names : List Str} {k : Nat} {v : MV} {hp1 : List MO} (O : B.Ok) (Fn : FunIs B a fd Γ body) (S : SndS B d Γ body m) (G : Good B ρ hp s) (hA : AOK (d + 1) A)
    (hnames : Γ.tbl.take names.length = names) (hlen : vs.length = names.length) (hm : outOf (m (loc0 vs k) hp1) = some (v, hp'))
    (hbind : ∀ (A : Around) (Q : List (Str × Value) → Shared → Prop) (E : Value → Shared → Prop), AOK d A → (∀ us ρ1 s1, Ext ρ s.heap ρ1 s1.heap [] → Good B ρ1 hp1 s1 → VRL s1.heap ρ1 B.l₀ vs us → Q (names.zip us) s1) → wpAny (model B.prog B.w) A (bindArgs fd args) Q E s)
    {R : Result → Shared → Prop} (k' : ∀ u ρ' s', Ext ρ s.heap ρ' s'.heap [] → Good B ρ' hp' s' → VR s'.heap ρ' B.l₀ v u → R (.ok (.ret u)) s') : codeAny (model B.prog B.w) A (.call (.ref a) args) R s := by
  obtain ⟨o, ho, hd⟩ := Fn.at_
  refine codeAny_call_function hA.room (G.keep _ _ ho) hd Fn.co Fn.gen Fn.bodyIs (Fn.code.keeps G.keep) ?_
  refine hbind _ _ _ hA.in1 fun us ρ1 s1 x1 G1 r1 => ?_
  have hlu : us.length = names.length := by rw [← hlen]; exact r1.length.symm
  have hzl : (names.zip us).length = names.length := by rw [List.length_zip, hlu, Nat.min_self]
  have hzk : (names.zip us).map (·.1) = names := List.map_fst_zip (by rw [hlu]; exact Nat.le_refl _)
  have hnn : names.Nodup := by rw [← hnames]; exact Fn.tnd.sublist (List.take_sublist _ _)
  have ktab : ∀ x ∈ Γ.tbl, Γ.sc.lookup x = some .local ∨ Γ.sc.lookup x = some .cell := fun x hx => by
    have := List.all_eq_true.mp Fn.tbl x hx
    simpa using this
  have cellHas : ∀ x n, Γ.sc.lookup x = some .cell → ((cellsFrom n fd.scope.names []).lookup x).isSome = true := fun x n hx => cells_has _ _ _ (by rw [Fn.sc]; exact mem_of_lookup hx)
  rw [Fn.clo]
  refine wpAny_newFunctionEnv_cells Fn.kind (fun x hx => ?_) fun env he s2 I => ?_
  · have hx1 : x.1 ∈ names := by rw [← hzk]; exact List.mem_map.mpr ⟨x, hx, rfl⟩
    have hx2 : x.1 ∈ Γ.tbl := by rw [← hnames] at hx1; exact List.mem_of_mem_take hx1
    rw [Fn.sc]
    rcases ktab _ hx2 with q | q
    · exact .inl q
    · exact .inr ⟨q, by have := cellHas _ (s1.heap.objs.size + 1) q; rwa [Fn.sc] at this⟩
  have hk : ∀ b o, s1.heap.get? b = some o → s2.heap.get? b = some o := I.toInCall.keep
  have eL : env.locals = s1.heap.objs.size := by rw [he]; rfl
  have eC : env.cells = cellsFrom (s1.heap.objs.size + 1) fd.scope.names [] := by rw [he]; rfl
  have eS : env.scope = fd.scope := by rw [he]; rfl
  have eG : env.globals = fd.globals := by rw [he]; rfl
  have eB : env.builtins = fd.builtins := by rw [he]; rfl
  have G2 : Good B ρ1 hp1 s2 := by
    obtain ⟨h, tk, e⟩ := I.toInCall.same
    subst e
    exact G1.keeps hk
  have x2 : Ext ρ1 s1.heap ρ1 s2.heap [] := .keeps hk
  have above : ∀ c ∈ envW env, s1.heap.objs.size ≤ c := by
    intro c hc
    rcases List.mem_cons.mp hc with rfl | hc
    · rw [eL]; exact Nat.le_refl _
    · obtain ⟨⟨n, c'⟩, hc', rfl⟩ := List.mem_map.mp hc
      have := I.above n c' hc'
      rw [eL] at this
      exact Nat.le_of_lt this
  have r2 : VRL s2.heap ρ1 B.l₀ vs us := G1.vrl x2 .nil r1
  have find : ∀ {i : Nat} {x : Str} {v : MV}, Γ.tbl[i]? = some x → (loc0 vs k)[i]? = some (some v) → ∃ u, (x, u) ∈ names.zip us ∧ VR s2.heap ρ1 B.l₀ v u := by
    intro i x v hi hv
    have hv' := loc0_at hv
    obtain ⟨u, hu, r⟩ := r2.at hv'
    have hil : i < names.length := by rw [← hlen]; exact (List.getElem?_eq_some_iff.mp hv').1
    have hx : names[i]? = some x := by rw [← hnames, List.getElem?_take_of_lt hil]; exact hi
    refine ⟨u, ?_, r⟩
    have : (names.zip us)[i]? = some (x, u) := by rw [List.getElem?_zip_eq_some]; exact ⟨hx, hu⟩
    exact List.mem_of_getElem? this
  have kof : ∀ {x q}, Γ.sc.lookup x = some q → env.kindOf x = some q := fun e => by unfold Env.kindOf; rw [eS, Fn.sc]; exact e
  have nofree : ∀ x, Γ.sc.lookup x ≠ some .free := fun x hx => by
    have := List.all_eq_true.mp Fn.nofree _ (mem_of_lookup hx)
    simp at this
  have F2 : FrR B Γ env (loc0 vs k) ρ1 s2.heap := by
    refine ⟨by rw [eS]; exact Fn.kind, by rw [eS]; exact Fn.sc, by rw [eG]; exact Fn.glob, by rw [eB]; exact Fn.blt, ⟨_, I.toInCall.ns, ?_⟩, ?_, ?_, ?_, ?_, I.apart, ?_, ?_, ?_, Fn.tnd⟩
    · intro i x v hi hv hx
      obtain ⟨u, hu, r⟩ := find hi hv
      exact ⟨u, bindL_get _ _ (by rw [hzk]; exact hnn) hu (kof hx), r⟩
    · intro x hx
      rcases hx with hx | hx
      · have := cellHas x (s1.heap.objs.size + 1) hx
        rw [← eC] at this
        obtain ⟨c, hc⟩ := Option.isSome_iff_exists.mp this
        exact ⟨c, _, hc, I.cell x c hc⟩
      · exact absurd hx (nofree x)
    · intro i x v hi hv hx
      rcases hx with hx | hx
      · obtain ⟨u, hu, r⟩ := find hi hv
        have := cellHas x (s1.heap.objs.size + 1) hx
        rw [← eC] at this
        obtain ⟨c, hc⟩ := Option.isSome_iff_exists.mp this
        have hcell := I.cell x c hc
        rw [bindC_get _ _ (by rw [hzk]; exact hnn) hu (kof hx)] at hcell
        exact ⟨c, u, hc, hcell, r⟩
      · exact absurd hx (nofree x)
    · intro i x hi
      rcases ktab x (List.mem_of_getElem? hi) with q | q
      · exact .inl q
      · exact .inr (.inl q)
    · intro c hc
      refine ⟨_, I.cell c.1 c.2 (lookup_of_mem ?_ hc)⟩
      rw [eC]
      exact cells_nodup _ _ _ List.nodup_nil (by rw [Fn.sc]; exact Fn.keys) fun x hx => nomatch hx
    · intro c hc
      exact Nat.ne_of_lt (I.above c.1 c.2 hc)
    · intro a ha
      exact G1.size_out (above a ha)
    · intro a ha
      cases e : B.s₀.heap.get? a with
      | none => rfl
      | some o' =>
        have := G1.keep a o' e
        rw [get?_big _ (above a ha)] at this; cases this
  refine ⟨O.nolimit.keeps G2.keep, codeAny_func ?_⟩
  have fin : ∀ (ρ3 : List Addr) (s3 : Shared), Ext ρ1 s2.heap ρ3 s3.heap (envW env) → Ext ρ s.heap ρ3 s3.heap [] := by
    intro ρ3 s3 x3
    refine x1.trans ⟨?_, fun b o e h1 h2 => ?_, fun b o e h2 => ?_⟩
    · obtain ⟨m, e, hm⟩ := x3.more
      exact ⟨m, e, fun a ha => x2.back (hm a ha)⟩
    · exact x3.keep b o (hk b o e) h1 fun q => by rw [get?_big _ (above b q)] at e; cases e
    · exact x3.alive b o (hk b o e) fun q => by rw [get?_big _ (above b q)] at e; cases e
  unfold outOf at hm
  split at hm
  · rename_i v' loc' hp2 h1
    cases hm
    refine S env _ hp1 _ loc' hp' ρ1 s2 h1 G2 F2 (A.deeper env) _ _ hA.deeper fun fl ρ3 s3 x3 G3 F3 r3 => ?_
    cases r3 with
    | ret r => exact k' _ ρ3 s3 (fin _ _ x3) G3 r
  · rename_i loc' hp2 h1
    cases hm
    refine S env _ hp1 _ loc' hp' ρ1 s2 h1 G2 F2 (A.deeper env) _ _ hA.deeper fun fl ρ3 s3 x3 G3 F3 r3 => ?_
    (first | cases r3 using VRL.case_nil | cases r3 using VR.case_int | cases r3 using VR.case_str | cases r3 using VR.case_bool | cases r3 using VR.case_none | cases r3 using VR.case_ref | cases r3 using VR.case_tup | cases r3 using VR.case_bytes | cases r3 using VR.case_fix | cases r3 using VR.case_script | cases r3)
    exact k' _ ρ3 s3 (fin _ _ x3) G3 .none
  · cases hm
end
end Mine
end
section
open PySem PySem.W PyProof.Rows PySem.Spec PySem.Calls
set_option linter.unusedVariables false
namespace Mine
noncomputable def atI {α : Type} (xs : List α) (k : Int) : Option α := match seqIndex? k xs.length with
  | none => none
  | some j => xs[j]?
noncomputable def pickL {α : Type} (xs : List α) (lo hi st : Option Int) : List α :=
  (sliceRange (sliceBounds lo hi st xs.length).1 (sliceBounds lo hi st xs.length).2.1 (sliceBounds lo hi st xs.length).2.2).filterMap (xs[·]?)
noncomputable def subMV (a i : MV) (hp : List MO) : Option MV := match a, i with
  | .ref n, .int k => match listOf hp n with
    | none => none
    | some xs => if k.natAbs < few then atI xs k else none
  | .tup xs, .int k => if k.natAbs < few then atI xs k else none
  | .str x, .int k => if k.natAbs < few then (match atI x k with | some c => some (.str [c]) | none => none) else none
  | _, _ => none
noncomputable def mSub (m1 m2 : ME) : ME := fun loc hp => match m1 loc hp with
  | none => none
  | some (a, hp1) => match m2 loc hp1 with
    | none => none
    | some (b, hp2) => match subMV a b hp2 with
      | none => none
      | some v => some (v, hp2)
abbrev MP := Loc → List MO → Option (Option Int × List MO)
noncomputable def pNone : MP := fun _ hp => some (none, hp)
noncomputable def pInt (m : ME) : MP := fun loc hp => match m loc hp with
  | some (.int i, hp1) => some (some i, hp1)
  | _ => none
noncomputable def cutMV (sns : List Int) (a : MV) (lo hi st : Option Int) (hp : List MO) : Option (MV × List MO) := if st = some 0 then none else match a with
  | .ref n => match listOf hp n with
    | none => none
    | some xs => if xs.length ≤ few then some (.ref hp.length, hp ++ [.list (pickL xs lo hi st)]) else none
  | .script => some (.ref hp.length, hp ++ [.list (pickL (intL sns) lo hi st)])
  | .bytes x => match st with
    | some _ => none
    | none => if x.length ≤ few then some (.bytes ((x.drop (lo.elim 0 (clipAt x.length))).take (hi.elim x.length (clipAt x.length) - lo.elim 0 (clipAt x.length))), hp) else none
  | _ => none
noncomputable def mCut (sns : List Int) (m : ME) (p1 p2 p3 : MP) : ME := fun loc hp => match m loc hp with
  | none => none
  | some (a, hp1) => match p1 loc hp1 with
    | none => none
    | some (lo, hp2) => match p2 loc hp2 with
      | none => none
      | some (hi, hp3) => match p3 loc hp3 with
        | none => none
        | some (st, hp4) => cutMV sns a lo hi st hp4
section
variable {B : Base} {d : Nat} {Γ : Ctx} {env : Env} {loc : Loc} {hp hp' : List MO} {ρ : List Addr} {s : Shared} {A : Around} {E : Value → Shared → Prop}
theorem VRL.pick {h : Heap} {l₀ : Addr} {xs : List MV} {vs : List Value} (r : VRL h ρ l₀ xs vs) : ∀ js : List Nat, VRL h ρ l₀ (js.filterMap (xs[·]?)) (js.filterMap (vs[·]?))
  | [] => .nil
  | j :: js => by
    have ih := r.pick js
    rw [List.filterMap_cons, List.filterMap_cons]
    cases e : xs[j]? with
    | none =>
      have : vs[j]? = none := by
        rw [List.getElem?_eq_none_iff] at e ⊢
        rw [← r.length]; exact e
      rw [this]; exact ih
    | some x =>
      obtain ⟨u, hu, q⟩ := r.at e
      rw [hu]; exact .cons q ih
theorem slicePick_eq (vs : List Value) (lo hi st : Option Int) : slicePick ⟨vs⟩ lo hi st = ⟨pickL vs lo hi st⟩ := by
  unfold slicePick pickL
  simp
theorem VRL.pickL {h : Heap} {l₀ : Addr} {xs : List MV} {vs : List Value} (r : VRL h ρ l₀ xs vs) (lo hi st : Option Int) : VRL h ρ l₀ (pickL xs lo hi st) (pickL vs lo hi st) := by
  unfold Mine.pickL
  rw [r.length]; exact r.pick _
theorem sub_tail {value slice : PySem.Expr} {o i : Value} {T id : String} {Q : Value → Shared → Prop} (hT : s.TypeIs o T) (hl : typeLookup (.type T) "__getitem__" = pure (some (.builtin id)))
    (h : wpAny (model B.prog B.w) A (getItem o i) Q E s) : wpAny (model B.prog B.w) A (do
      let r ← subscripted slice (← getitemInPython o) o i
      letTemporaryGo value o r
      pure r) Q E s := by
  refine wpAny_bind ?_
  rw [getitemInPython_of_ne hT.not_modules]
  refine wpAny_bind (wpAny_specialOf hT hl ?_)
  have hs : ∃ l, subscripted slice false o i = operate l (getItem o i) := by
    cases slice with
    | Slice a b c p => cases c <;> exact ⟨_, rfl⟩
    | _ => exact ⟨_, rfl⟩
  obtain ⟨l, hs⟩ := hs
  have fin : wpAny (model B.prog B.w) A (subscripted slice false o i) (fun r s₃ => wpAny (model B.prog B.w) A (letTemporaryGo value o r >>= fun _ => pure r) Q E s₃) E s := by
    rw [hs]
    exact wpAny_operating (wpAny_mono h (fun r s₃ h₃ => wpAny_bind (wpAny_letTemporaryGo (wpAny_pure h₃))) fun _ _ x => x)
  first
    | exact wpAny_pure (wpAny_bind fin)
    | exact wpAny_bind (wpAny_pure (wpAny_bind fin))
    | exact wpAny_bind fin
theorem atI_in {α : Type} {xs : List α} {k : Int} {x : α} (h : atI xs k = some x) : ∃ j, seqIndex? k xs.length = some j ∧ xs[j]? = some x := by
  unfold atI at h
  split at h
  · cases h
  · rename_i j hj
    exact ⟨j, hj, h⟩
theorem seqIndex_cases {k : Int} {n j : Nat} (h : seqIndex? k n = some j) : (0 ≤ k ∧ j = k.toNat ∧ j < n) ∨ (k < 0 ∧ -(n : Int) ≤ k ∧ j = (k + n).toNat) := by
  unfold seqIndex? at h
  simp only at h
  by_cases hk : k < 0
  · simp only [hk, if_true] at h
    by_cases hc : (decide (0 ≤ k + (n : Int)) && decide (k + (n : Int) < (n : Int))) = true
    · rw [if_pos hc] at h
      have e := Option.some.inj h
      simp only [Bool.and_eq_true, decide_eq_true_eq] at hc
      exact .inr ⟨hk, by omega, e.symm⟩
    · rw [if_neg hc] at h; exact absurd h (by simp)
  · simp only [hk, if_false] at h
    by_cases hc : (decide (0 ≤ k) && decide (k < (n : Int))) = true
    · rw [if_pos hc] at h
      have e := Option.some.inj h
      simp only [Bool.and_eq_true, decide_eq_true_eq] at hc
      exact .inl ⟨by omega, e.symm, by omega⟩
    · rw [if_neg hc] at h; exact absurd h (by simp)
theorem subMV_ok {a i v : MV} {ua ui : Value} (hm : subMV a i hp = some v) (G : Good B ρ hp s) (ra : VR s.heap ρ B.l₀ a ua) (ri : VR s.heap ρ B.l₀ i ui) {value slice : PySem.Expr} {Q : Value → Shared → Prop}
    (k : ∀ u tk, VR s.heap ρ B.l₀ v u → Q u { s with toks := tk }) : wpAny (model B.prog B.w) A (do
      let r ← subscripted slice (← getitemInPython ua) ua ui
      letTemporaryGo value ua r
      pure r) Q E s := by
  have hfew : few < 2 ^ 63 := by decide
  unfold subMV at hm
  split at hm
  · rename_i n kk
    split at hm
    · cases hm
    · rename_i xs hx
      split at hm
      · rename_i hf
        obtain ⟨j, hj, hxj⟩ := atI_in hm
        cases ri
        cases ra using VR.case_ref with
        | ref addr ea =>
          obtain ⟨vs, hl, hv⟩ := G.listAt hx ea
          obtain ⟨u, hu, r⟩ := hv.at hxj
          refine sub_tail hl.typeIs slot_list_getitem.lookup ?_
          rcases seqIndex_cases hj with ⟨h0, rfl, h1⟩ | ⟨h0, h1, rfl⟩
          · exact wpAny_getItem_list hl h0 (by omega) (by simpa using hu) (k u s.toks r)
          · have hsz : (⟨vs⟩ : Array Value).size = xs.length := hv.length.symm
            exact wpAny_getItem_list_neg hl h0 (by rw [hsz]; exact h1) (by omega) (by rw [hsz]; simpa using hu) (k u s.toks r)
      · cases hm
  · rename_i xs kk
    split at hm
    · rename_i hf
      obtain ⟨j, hj, hxj⟩ := atI_in hm
      cases ri
      cases ra using VR.case_tup with
      | tup vs t ht hv =>
        obtain ⟨u, hu, r⟩ := hv.at hxj
        have ht' : IsTup s.heap t ⟨vs⟩ := ht
        refine sub_tail ht'.typeIs PyProof.Rows.slot_tuple_getitem.lookup ?_
        have hsz : (⟨vs⟩ : Array Value).size = xs.length := hv.length.symm
        exact PyProof.Rows.getItem_tuple ht' (by omega) (by omega) (by rw [hsz]; exact hj) (by simpa using hu) (k u s.toks r)
    · cases hm
  · rename_i x kk
    split at hm
    · rename_i hf
      split at hm
      · rename_i c hc
        cases hm
        obtain ⟨j, hj, hxj⟩ := atI_in hc
        cases ri
        cases ra using VR.case_str with
        | str t =>
          refine sub_tail (typeIs_str s _ t) PyProof.Rows.slot_str_getitem.lookup ?_
          refine PyProof.Rows.getItem_str (c := c) (by simp; omega) ?_ (k _ (s.toks + 1) (.str [c] _))
          rw [strLen_mkS, hj]
          simpa [mkS] using hxj
      · cases hm
    · cases hm
  · cases hm
theorem snd_sub {value slice : PySem.Expr} {pos : Pos} {m1 m2 : ME} (S1 : SndE B d Γ value m1) (S2 : SndE B d Γ slice m2) : SndE B d Γ (.Subscript value slice pos) (mSub m1 m2) := by
  intro env loc hp v hp' ρ s hm G F A Q E hA k
  unfold mSub at hm
  split at hm
  · cases hm
  · rename_i a hp1 h1
    split at hm
    · cases hm
    · rename_i b hp2 h2
      split at hm
      · cases hm
      · rename_i v' h3
        cases hm
        rw [eval_Subscript]
        refine wpAny_bind (S1.run h1 G F hA fun ua ρ1 s1 x1 G1 F1 r1 => wpAny_bind (wpAny_holding (S2.run h2 G1 F1 hA fun ub ρ2 s2 x2 G2 F2 r2 => wpAny_bind (wpAny_standAt ?_))))
        exact subMV_ok h3 G2 (G1.vr x2 .nil r1) r2 fun u tk r => k u ρ2 _ (x1.trans x2) (G2.tok tk) r
/- parts of a slice -/
noncomputable def SndP (B : Base) (d : Nat) (Γ : Ctx) (e : Option PySem.Expr) (m : MP) : Prop :=
  ∀ env loc hp i hp' ρ s, m loc hp = some (i, hp') → Good B ρ hp s → FrR B Γ env loc ρ s.heap →
    ∀ A Q E, AOK d A → (∀ u ρ' s', Ext ρ s.heap ρ' s'.heap [] → Good B ρ' hp' s' → IsPart u i → Q u s') → wpAny (model B.prog B.w) A (evalPart e env) Q E s
theorem snd_pnone : SndP B d Γ none pNone := by
  intro env loc hp i hp' ρ s hm G F A Q E hA k
  cases hm
  exact wpAny_pure (k _ ρ s .refl G .none)
theorem snd_pint {e : PySem.Expr} {m : ME} (S : SndE B d Γ e m) : SndP B d Γ (some e) (pInt m) := by
  intro env loc hp i hp' ρ s hm G F A Q E hA k
  unfold pInt at hm
  split at hm
  · rename_i j hp1 h1
    cases hm
    rw [evalPart_some]
    refine S.run h1 G F hA fun u ρ1 s1 x1 G1 F1 r1 => ?_
    (first | cases r1 using VRL.case_nil | cases r1 using VR.case_int | cases r1 using VR.case_str | cases r1 using VR.case_bool | cases r1 using VR.case_none | cases r1 using VR.case_ref | cases r1 using VR.case_tup | cases r1 using VR.case_bytes | cases r1 using VR.case_fix | cases r1 using VR.case_script | cases r1)
    exact k _ ρ1 s1 x1 G1 (.int _ _)
  · cases hm
theorem cutMV_ok {a v : MV} {ua ul uh us : Value} {lo hi st : Option Int} {a' : Addr} (O : B.Ok) (hm : cutMV B.sns a lo hi st hp = some (v, hp')) (G : Good B ρ hp s) (ra : VR s.heap ρ B.l₀ a ua)
    (hs : s.heap.IsSliceOf a' ul uh us) (pl : IsPart ul lo) (pu : IsPart uh hi) (ps : IsPart us st) {value slice : PySem.Expr} : TreeOk B d ρ s (do
      let r ← subscripted slice (← getitemInPython ua) ua (.ref a')
      letTemporaryGo value ua r
      pure r) v hp' := by
  intro A Q E hA k
  unfold cutMV at hm
  split at hm
  · cases hm
  · rename_i h0
    have listCase : ∀ {a : Addr} {xs : List MV} {vs : List Value}, s.heap.IsList a ⟨vs⟩ → VRL s.heap ρ B.l₀ xs vs → xs.length ≤ few → some (MV.ref hp.length, hp ++ [.list (pickL xs lo hi st)]) = some (v, hp') →
        wpAny (model B.prog B.w) A (do
          let r ← subscripted slice (← getitemInPython (.ref a)) (.ref a) (.ref a')
          letTemporaryGo value (.ref a) r
          pure r) Q E s := by
      intro a xs vs hl hv hf hm
      cases hm
      refine sub_tail hl.typeIs slot_list_getitem.lookup ?_
      refine wpAny_getItem_list_slice hl hs pl pu ps h0 ?_ (by
        show vs.length ≤ _
        rw [← hv.length]; exact Nat.le_trans hf few_le)
      rw [slicePick_eq]
      obtain ⟨G', x, r⟩ := G.newList (hv.pickL lo hi st) rfl
      exact k _ _ _ x G' r
    split at hm
    · rename_i n
      split at hm
      · cases hm
      · rename_i xs hx
        split at hm
        · rename_i hf
          cases ra using VR.case_ref with
          | ref addr ea =>
            obtain ⟨vs, hl, hv⟩ := G.listAt hx ea
            exact listCase hl hv hf hm
        · cases hm
    · cases ra with
      | script =>
        have hl : s.heap.IsList B.l₀ ⟨B.svs⟩ := by
          obtain ⟨o, e, r⟩ := O.islist
          exact ⟨o, G.keep _ _ e, r⟩
        exact listCase hl (vrl_ints O.areInts) (by
          have := O.few
          simp only [intL, List.length_map]; unfold few; omega) hm
    · rename_i x
      split at hm
      · cases hm
      · split at hm
        · rename_i hf
          cases hm
          cases ra using VR.case_bytes with
          | bytes t =>
            cases ps
            refine sub_tail (typeIs_bytes s _ t) FB.slot_bytes_getitem.lookup ?_
            refine getItem_meets (typeIs_bytes _ _ _) (by decide) FB.slot_bytes_getitem FB.entry_bytes_getitem (FB.args_bytes_getitem_2 _ _) (KBc.meets_slice2 _ t _ pl pu) ⟨hs, ?_, fun t' kk => ?_⟩
            · exact Nat.le_trans (KBc.size_picked_le _ lo hi) (Nat.le_trans hf few_le)
            · rw [KBc.picked_eq]
              exact k _ ρ _ .refl (G.tok kk) (.bytes _ _)
        · cases hm
    · cases hm
theorem snd_cut {value : PySem.Expr} {lo hi st : Option PySem.Expr} {p pos : Pos} {m : ME} {p1 p2 p3 : MP} (O : B.Ok) (S : SndE B d Γ value m) (S1 : SndP B d Γ lo p1) (S2 : SndP B d Γ hi p2) (S3 : SndP B d Γ st p3) :
    SndE B d Γ (.Subscript value (.Slice lo hi st p) pos) (mCut B.sns m p1 p2 p3) := by
  intro env loc hp v hp' ρ s hm G F A Q E hA k
  unfold mCut at hm
  split at hm
  · cases hm
  · rename_i a hp1 h1
    split at hm
    · cases hm
    · rename_i l hp2 h2
      split at hm
      · cases hm
      · rename_i h hp3 h3
        split at hm
        · cases hm
        · rename_i st' hp4 h4
          rw [eval_Subscript]
          refine wpAny_bind (S.run h1 G F hA fun ua ρ1 s1 x1 G1 F1 r1 => wpAny_bind (wpAny_holding (wpAny_Slice ?_)))
          refine S1 env loc hp1 l hp2 ρ1 s1 h2 G1 F1 A _ _ hA fun ul ρ2 s2 x2 G2 pl => ?_
          have F2 := F1.ext G1 x2
          refine S2 env loc hp2 h hp3 ρ2 s2 h3 G2 F2 A _ _ hA fun uh ρ3 s3 x3 G3 ph => ?_
          have F3 := F2.ext G2 x3
          refine S3 env loc hp3 st' hp4 ρ3 s3 h4 G3 F3 A _ _ hA fun us ρ4 s4 x4 G4 ps => ?_
          refine wpAny_bind (wpAny_standAt ?_)
          have x5 : Ext ρ4 s4.heap ρ4 (s4.heap.push { cls := .type "slice", data := .fields #[ul, uh, us] }) [] := .keeps fun _ _ e => Heap.get?_push_of_some _ e
          have r5 := G4.vr x5 .nil (G3.vr x4 .nil (G2.vr x3 .nil (G1.vr x2 .nil r1)))
          refine cutMV_ok (s := { s4 with heap := s4.heap.push { cls := .type "slice", data := .fields #[ul, uh, us] } }) (d := d) O hm (G4.push _) r5 (Heap.IsSliceOf.new _ _ _ _) pl ph ps A Q E hA fun u ρ6 s6 x6 G6 r6 => ?_
          exact k u ρ6 s6 (x1.trans (x2.trans (x3.trans (x4.trans (x5.trans x6))))) G6 r6
end
end Mine
end
section
open PySem PySem.W PyProof.Rows PySem.Spec PySem.Calls
set_option linter.unusedVariables false
namespace Mine
/- the methods of lists and strs -/
noncomputable def isListMV (a : MV) (hp : List MO) : Bool := match a with
  | .ref i => (listOf hp i).isSome
  | _ => false
noncomputable def isStrMV (a : MV) (_ : List MO) : Bool := match a with
  | .str _ => true
  | _ => false
noncomputable def gAppend : GF := fun vs hp => match vs with
  | [.ref i, x] => match listOf hp i with
    | some xs => if xs.length < few then some (.none, hp.set i (.list (xs ++ [x]))) else none
    | none => none
  | _ => none
noncomputable def gExtend : GF := fun vs hp => match vs with
  | [.ref i, .ref j] => match listOf hp i with
    | some xs => match listOf hp j with
      | some ys => if xs.length + ys.length < few then some (.none, hp.set i (.list (xs ++ ys))) else none
      | none => none
    | none => none
  | _ => none
noncomputable def findA (x : MV) : List MV → Option Nat
  | [] => none
  | y :: ys => match eqA y x with
    | none => none
    | some true => some 0
    | some false => match findA x ys with
      | none => none
      | some n => some (n + 1)
noncomputable def okA (x : MV) : List MV → Bool
  | [] => true
  | y :: ys => (eqA y x).isSome && okA x ys
noncomputable def gIndex : GF := fun vs hp => match vs with
  | [.ref i, x] => match listOf hp i with
    | some xs => if okA x xs then (match findA x xs with
      | some n => if n < few then some (.int n, hp) else none
      | none => none) else none
    | none => none
  | _ => none
noncomputable def strsOf : List MV → Option (List (List Nat))
  | [] => some []
  | .str x :: r => match strsOf r with
    | none => none
    | some l => some (x :: l)
  | _ => none
noncomputable def joinTo (sep : List Nat) : List (List Nat) → List Nat
  | [] => []
  | x :: r => sep ++ x ++ joinTo sep r
noncomputable def joinL (sep : List Nat) : List (List Nat) → List Nat
  | [] => []
  | x :: r => x ++ joinTo sep r
noncomputable def lenL : List (List Nat) → Nat
  | [] => 0
  | x :: r => x.length + lenL r
noncomputable def gJoin : GF := fun vs hp => match vs with
  | [.str sep, .ref i] => match listOf hp i with
    | some xs => match strsOf xs with
      | none => none
      | some l => if lenL l + l.length * sep.length ≤ few then some (.str (joinL sep l), hp) else none
    | none => none
  | _ => none
noncomputable def gLower : GF := fun vs hp => match vs with
  | [.str x] => if x.all (fun c => decide (c < 128)) ∧ x.length ≤ few then some (.str (x.map lo1), hp) else none
  | _ => none
noncomputable def occGo (x y : List Nat) (lim : Nat) : List Nat → List Nat → Nat → List Nat
  | [], f, _ => f
  | i :: is, f, free => if f.length < lim ∧ free ≤ i ∧ i + y.length ≤ x.length ∧ (x.drop i).take y.length = y then occGo x y lim is (f ++ [i]) (i + y.length) else occGo x y lim is f free
noncomputable def occL (x y : List Nat) : List Nat := occGo x y (x.length + 1) (List.range' 0 (x.length + 1)) [] 0
noncomputable def splitL (x y : List Nat) : List (List Nat) := (((0 :: (occL x y).map (· + y.length)).zip (occL x y ++ [x.length]))).map fun p => (x.drop p.1).take (p.2 - p.1)
noncomputable def gSplit : GF := fun vs hp => match vs with
  | [.str x, .str y] => if y ≠ [] ∧ y.all (fun c => decide (c < 256)) = true ∧ x.length ≤ few then some (.ref hp.length, hp ++ [.list ((splitL x y).map .str)]) else none
  | _ => none
noncomputable def gLstrip : GF := fun vs hp => match vs with
  | [.str x, .str y] => if x.length ≤ few then some (.str (x.dropWhile (fun c => y.contains c)), hp) else none
  | _ => none
noncomputable def mMeth (kind : MV → List MO → Bool) (g : GF) (m : ME) (l : ML) : ME := fun loc hp => match m loc hp with
  | none => none
  | some (a, hp1) => match kind a hp1 with
    | false => none
    | true => match l loc hp1 with
      | none => none
      | some (vs, hp2) => g (a :: vs) hp2
section
variable {B : Base} {d : Nat} {Γ : Ctx} {env : Env} {loc : Loc} {hp hp' : List MO} {ρ : List Addr} {s : Shared} {A : Around} {E : Value → Shared → Prop}
theorem Good.setObj (G : Good B ρ hp s) {i : Nat} {a : Addr} {mo : MO} {h' : Heap} {tk : Nat} (e : ρ[i]? = some a) (hk : ∀ b o, b ≠ a → s.heap.get? b = some o → h'.get? b = some o) (hr : OR h' ρ B.l₀ mo a) :
    Good B ρ (hp.set i mo) { s with heap := h', toks := tk } ∧ Ext ρ s.heap ρ h' [] := by
  have ha : a ∈ ρ := List.mem_of_getElem? e
  have x : Ext ρ s.heap ρ h' [] := ⟨⟨[], by simp, fun _ q => nomatch q⟩, fun b o e' h1 _ => hk b o (fun q => h1 (q ▸ ha)) e', fun b o e' _ => by
    by_cases q : b = a
    · subst q; exact hr.alive
    · exact ⟨o, hk b o q e'⟩⟩
  refine ⟨⟨?_, ?_, G.fresh, G.nd, by rw [List.length_set]; exact G.len, ?_⟩, x⟩
  · obtain ⟨h, t, e⟩ := G.same
    exact ⟨h', tk, by rw [e]⟩
  · intro b o e'
    refine hk b o (fun q => ?_) (G.keep b o e')
    rw [q, G.fresh a ha] at e'; cases e'
  · intro j mo' b e1 e2
    by_cases hj : i = j
    · subst hj
      rw [e] at e2; cases e2
      rw [List.getElem?_set_self (by have := (List.getElem?_eq_some_iff.mp e).1; rw [← G.len]; exact this)] at e1
      cases e1; exact hr
    · rw [List.getElem?_set_ne hj] at e1
      refine (G.ok j mo' b e1 e2).ext x G.nt .nil fun o e' => hk b o (fun q => ?_) e'
      subst q
      obtain ⟨h1, e1'⟩ := List.getElem?_eq_some_iff.mp e
      obtain ⟨h2, e2'⟩ := List.getElem?_eq_some_iff.mp e2
      have nd := List.pairwise_iff_getElem.mp G.nd
      rcases Nat.lt_or_gt_of_ne hj with q | q
      · exact nd i j h1 h2 q (e1'.trans e2'.symm)
      · exact nd j i h2 h1 q (e2'.trans e1'.symm)
theorem LIs.map {h : Heap} {a : Addr} {vs ws : List Value} {f : Array Value → Array Value} (x : LIs h a vs) (hf : f ⟨vs⟩ = ⟨ws⟩) : LIs (h.update a (Obj.mapSeq f)) a ws := by
  obtain ⟨n, e⟩ := x
  have := IsL.update e f
  rw [hf] at this
  exact ⟨_, this⟩
theorem Good.setList (G : Good B ρ hp s) {i : Nat} {a : Addr} {xs : List MV} {vs ws : List Value} {f : Array Value → Array Value} (e : ρ[i]? = some a) (hl : LIs s.heap a vs) (hf : f ⟨vs⟩ = ⟨ws⟩) (hv : VRL s.heap ρ B.l₀ xs ws) :
    Good B ρ (hp.set i (.list xs)) { s with heap := s.heap.update a (Obj.mapSeq f) } ∧ Ext ρ s.heap ρ (s.heap.update a (Obj.mapSeq f)) [] := by
  have ha : a ∈ ρ := List.mem_of_getElem? e
  have hk : ∀ b o, b ≠ a → s.heap.get? b = some o → (s.heap.update a (Obj.mapSeq f)).get? b = some o := fun b o hne e' => (Heap.get?_update_ne _ _ _ _ hne).trans e'
  have x : Ext ρ s.heap ρ (s.heap.update a (Obj.mapSeq f)) [] := ⟨⟨[], by simp, fun _ q => nomatch q⟩, fun b o e' h1 _ => hk b o (fun q => h1 (q ▸ ha)) e', fun b o e' _ => by
    by_cases q : b = a
    · subst q; obtain ⟨n, e2⟩ := LIs.map hl hf; exact ⟨_, e2⟩
    · exact ⟨o, hk b o q e'⟩⟩
  exact G.setObj (tk := s.toks) e hk (.list xs ws a (LIs.map hl hf) (G.vrl x .nil hv))
theorem call_append : CallOk B d (.builtin "list.append") gAppend := by
  intro vs hp v hp' ρ s us hm G r A Q E hA k
  unfold gAppend at hm
  split at hm
  · rename_i i x
    split at hm
    · rename_i xs hx
      split at hm
      · rename_i hf
        cases hm
        cases r using VRL.case_cons with
        | cons ra r => cases r using VRL.case_cons with
          | cons rb r =>
            (first | cases r using VRL.case_nil | cases r using VR.case_int | cases r using VR.case_str | cases r using VR.case_bool | cases r using VR.case_none | cases r using VR.case_ref | cases r using VR.case_tup | cases r using VR.case_bytes | cases r using VR.case_fix | cases r using VR.case_script | cases r); cases ra using VR.case_ref with
            | ref a ea =>
              rename_i ub
              obtain ⟨vs, hl, hv⟩ := G.listP hx ea
              obtain ⟨n, e⟩ := id hl
              obtain ⟨G', x'⟩ := G.setList (xs := xs ++ [x]) (ws := vs ++ [ub]) (f := fun z => z.push ub) ea hl (by simp) (hv.append (.cons rb .nil))
              refine call_meets F.slot_list_append ⟨_, e, rfl⟩ F.entry_list_append (F.args_list_append_2 _ _) (PySem.list_append a ⟨vs⟩ n ub ?_) ⟨e, k _ ρ _ x' G' .none⟩
              show vs.length ≤ _
              rw [← hv.length]; exact Nat.le_trans (Nat.le_of_lt hf) few_le
      · cases hm
    · cases hm
  · cases hm
theorem call_extend : CallOk B d (.builtin "list.extend") gExtend := by
  intro vs hp v hp' ρ s us hm G r A Q E hA k
  unfold gExtend at hm
  split at hm
  · rename_i i j
    split at hm
    · rename_i xs hx
      split at hm
      · rename_i ys hy
        split at hm
        · rename_i hf
          cases hm
          cases r using VRL.case_cons with
          | cons ra r => cases r using VRL.case_cons with
            | cons rb r =>
              (first | cases r using VRL.case_nil | cases r using VR.case_int | cases r using VR.case_str | cases r using VR.case_bool | cases r using VR.case_none | cases r using VR.case_ref | cases r using VR.case_tup | cases r using VR.case_bytes | cases r using VR.case_fix | cases r using VR.case_script | cases r); cases ra using VR.case_ref with
              | ref a ea => cases rb using VR.case_ref with
                | ref b eb =>
                  obtain ⟨vs, hl, hv⟩ := G.listP hx ea
                  obtain ⟨ws, hl2, hw⟩ := G.listP hy eb
                  obtain ⟨n, e⟩ := id hl
                  obtain ⟨n2, e2⟩ := id hl2
                  have h3 := few_le
                  have h1 := hv.length
                  have h2 := hw.length
                  obtain ⟨G', x'⟩ := G.setList (xs := xs ++ ys) (ws := vs ++ ws) (f := fun z => z ++ (⟨ws⟩ : Array Value)) ea hl (by simp) (hv.append hw)
                  refine call_meets F.slot_list_extend ⟨_, e, rfl⟩ F.entry_list_extend (F.args_list_extend_2 _ _) (AutoSeq1.list_extend_list_list_0 a ⟨vs⟩ n b ⟨ws⟩ n2 ?_ ?_ ?_) ⟨e, e2, k _ ρ _ x' G' .none⟩
                  · simp [Builtin.List.listTooLong]
                    intro _
                    omega
                  · show vs.length ≤ _; omega
                  · show vs.length + ws.length ≤ _; omega
        · cases hm
      · cases hm
    · cases hm
  · cases hm
theorem okA_mem {x : MV} : ∀ {xs : List MV}, okA x xs = true → ∀ y ∈ xs, ∃ b, eqA y x = some b
  | y :: ys, h, z, hz => by
    unfold okA at h
    rw [Bool.and_eq_true] at h
    rcases List.mem_cons.mp hz with rfl | hz
    · exact Option.isSome_iff_exists.mp h.1
    · exact okA_mem h.2 z hz
theorem findA_spec {x : MV} : ∀ {xs : List MV} {n : Nat}, findA x xs = some n → n < xs.length ∧ (∃ y, xs[n]? = some y ∧ eqA y x = some true) ∧ ∀ m y, m < n → xs[m]? = some y → eqA y x = some false
  | y :: ys, n, h => by
    unfold findA at h
    split at h
    · cases h
    · rename_i e
      cases h
      exact ⟨Nat.succ_pos _, ⟨y, rfl, e⟩, fun m _ hm => absurd hm (Nat.not_lt_zero _)⟩
    · rename_i e
      split at h
      · cases h
      · rename_i n' hn
        cases h
        obtain ⟨h1, ⟨z, hz, e2⟩, h3⟩ := findA_spec hn
        refine ⟨Nat.succ_lt_succ h1, ⟨z, hz, e2⟩, fun m w hm hw => ?_⟩
        cases m with
        | zero => cases hw; exact e
        | succ m => exact h3 m w (Nat.lt_of_succ_lt_succ hm) hw
theorem VRL.back {h : Heap} {l₀ : Addr} : ∀ {xs : List MV} {vs : List Value} {n : Nat} {u : Value}, VRL h ρ l₀ xs vs → vs[n]? = some u → ∃ x, xs[n]? = some x ∧ VR h ρ l₀ x u
  | _, _, _, _, .nil, e => by cases e
  | _, _, 0, _, .cons p _, e => by cases e; exact ⟨_, rfl, p⟩
  | _, _, n + 1, _, .cons _ q, e => q.back (n := n) e
theorem valEq_of {a y : MV} {ua uy : Value} {h : Heap} {l₀ : Addr} {r : Bool} (e : eqA y a = some r) (ra : VR h ρ l₀ a ua) (ry : VR h ρ l₀ y uy) : valEq ua uy = r := by
  unfold eqA at e
  split at e
  · cases e; (first | cases ry using VR.case_int | cases ry using VR.case_str | cases ry using VR.case_bool | cases ry using VR.case_none | cases ry using VR.case_ref | cases ry using VR.case_tup | cases ry using VR.case_bytes | cases ry using VR.case_fix | cases ry using VR.case_script | cases ry); (first | cases ra using VR.case_int | cases ra using VR.case_str | cases ra using VR.case_bool | cases ra using VR.case_none | cases ra using VR.case_ref | cases ra using VR.case_tup | cases ra using VR.case_bytes | cases ra using VR.case_fix | cases ra using VR.case_script | cases ra); rfl
  · cases e; (first | cases ry using VR.case_int | cases ry using VR.case_str | cases ry using VR.case_bool | cases ry using VR.case_none | cases ry using VR.case_ref | cases ry using VR.case_tup | cases ry using VR.case_bytes | cases ry using VR.case_fix | cases ry using VR.case_script | cases ry); (first | cases ra using VR.case_int | cases ra using VR.case_str | cases ra using VR.case_bool | cases ra using VR.case_none | cases ra using VR.case_ref | cases ra using VR.case_tup | cases ra using VR.case_bytes | cases ra using VR.case_fix | cases ra using VR.case_script | cases ra); exact mkS_beq _ _
  · cases e; (first | cases ry using VR.case_int | cases ry using VR.case_str | cases ry using VR.case_bool | cases ry using VR.case_none | cases ry using VR.case_ref | cases ry using VR.case_tup | cases ry using VR.case_bytes | cases ry using VR.case_fix | cases ry using VR.case_script | cases ry); (first | cases ra using VR.case_int | cases ra using VR.case_str | cases ra using VR.case_bool | cases ra using VR.case_none | cases ra using VR.case_ref | cases ra using VR.case_tup | cases ra using VR.case_bytes | cases ra using VR.case_fix | cases ra using VR.case_script | cases ra); rfl
  · cases e
theorem call_index : CallOk B d (.builtin "list.index") gIndex := by
  intro vs hp v hp' ρ s us hm G r A Q E hA k
  unfold gIndex at hm
  split at hm
  · rename_i i x
    split at hm
    · rename_i xs hx
      split at hm
      · rename_i hok
        split at hm
        · rename_i n hn
          split at hm
          · rename_i hf
            cases hm
            cases r using VRL.case_cons with
            | cons ra r => cases r using VRL.case_cons with
              | cons rb r =>
                (first | cases r using VRL.case_nil | cases r using VR.case_int | cases r using VR.case_str | cases r using VR.case_bool | cases r using VR.case_none | cases r using VR.case_ref | cases r using VR.case_tup | cases r using VR.case_bytes | cases r using VR.case_fix | cases r using VR.case_script | cases r); cases ra using VR.case_ref with
                | ref a ea =>
                  rename_i ub
                  obtain ⟨vs, hl, hv⟩ := G.listP hx ea
                  obtain ⟨nn, e⟩ := id hl
                  obtain ⟨h1, ⟨y, hy, e2⟩, h3⟩ := findA_spec hn
                  have hlen := hv.length
                  have hn' : n < (⟨vs⟩ : Array Value).size := by show n < vs.length; omega
                  refine call_meets F.slot_list_index ⟨_, e, rfl⟩ F.entry_list_index (F.args_list_index_2 _ _) (SeqAt.list_indexAt a ⟨vs⟩ nn none #[] ub (valEq ub) n hn' ?_ ?_ ?_) ⟨e, fun u hu => ?_, k _ ρ _ .refl (G.tok _) (.int _ _)⟩
                  · have : few < 2 ^ 63 - 1 := by decide
                    omega
                  · obtain ⟨u, hu, ru⟩ := hv.at hy
                    have : (⟨vs⟩ : Array Value)[n] = u := by
                      obtain ⟨_, q⟩ := List.getElem?_eq_some_iff.mp hu
                      exact q
                    rw [this]
                    exact valEq_of e2 rb ru
                  · intro m hm hmn
                    have hm' : m < xs.length := by omega
                    obtain ⟨u, hu, ru⟩ := hv.at (List.getElem?_eq_getElem hm')
                    have : (⟨vs⟩ : Array Value)[m] = u := by
                      obtain ⟨_, q⟩ := List.getElem?_eq_some_iff.mp hu
                      exact q
                    rw [this]
                    exact valEq_of (h3 m _ hmn (List.getElem?_eq_getElem hm')) rb ru
                  · have hu' : u ∈ vs := by simpa using hu
                    obtain ⟨m, hm, rfl⟩ := List.getElem_of_mem hu'
                    obtain ⟨z, hz, rz⟩ := hv.back (List.getElem?_eq_getElem hm)
                    obtain ⟨b, hb⟩ := okA_mem hok z (List.mem_of_getElem? hz)
                    rw [valEq_of hb rb rz]
                    exact eqA_at hb rz rb
          · cases hm
        · cases hm
      · cases hm
    · cases hm
  · cases hm
theorem strsAre : ∀ {xs : List MV} {l : List (List Nat)} {vs : List Value} {h : Heap} {l₀ : Addr}, strsOf xs = some l → VRL h ρ l₀ xs vs → ∃ ts : List (Str × Tok), vs = strValues ts ∧ ts.map (·.1) = l.map mkS
  | [], _, _, _, _, e, .nil => by cases e; exact ⟨[], rfl, rfl⟩
  | x :: xs, l, _, _, _, e, .cons a b => by
    unfold strsOf at e
    split at e
    · cases ‹_ :: _ = []›
    · rename_i hx
      cases hx
      split at e
      · cases e
      · rename_i l' hl
        cases e
        obtain ⟨ts, e1, e2⟩ := strsAre hl b
        cases a with
        | str _ t =>
          rename_i y _
          refine ⟨(mkS y, t) :: ts, by rw [e1]; rfl, ?_⟩
          rw [List.map_cons, e2]; rfl
    · cases e
theorem glue_go (sep : List Nat) : ∀ (l : List (List Nat)) (acc : List Nat), ((l.map mkS).foldl (fun (acc : Array Nat) (p : Str) => acc ++ (mkS sep).cps ++ p.cps) ⟨acc⟩) = ⟨acc ++ joinTo sep l⟩
  | [], acc => by simp [joinTo]
  | x :: r, acc => by
    rw [List.map_cons, List.foldl_cons]
    have : ((⟨acc⟩ : Array Nat) ++ (mkS sep).cps ++ (mkS x).cps) = ⟨acc ++ sep ++ x⟩ := by simp [mkS]
    rw [this, glue_go sep r]
    simp [joinTo]
theorem glued_eq (sep : List Nat) (l : List (List Nat)) : Builtin.Str.glued (mkS sep) (l.map mkS) = mkS (joinL sep l) := by
  unfold Builtin.Str.glued
  cases l with
  | nil => rfl
  | cons x r =>
    rw [List.map_cons]
    show (⟨((List.map mkS r)).foldl _ (mkS x).cps⟩ : Str) = _
    show (⟨((List.map mkS r)).foldl _ (⟨x⟩ : Array Nat)⟩ : Str) = _
    rw [glue_go]; rfl
theorem fold_len (k : Nat) : ∀ (l : List Str) (n : Nat), l.foldl (fun a s => a + s.length + k) n = n + (l.map (·.length)).sum + l.length * k
  | [], n => by simp
  | x :: r, n => by
    rw [List.foldl_cons, fold_len k r, List.map_cons, List.sum_cons, List.length_cons, Nat.succ_mul]
    omega
theorem lenL_eq : ∀ l : List (List Nat), ((l.map mkS).map (·.length)).sum = lenL l
  | [] => rfl
  | x :: r => by
    rw [List.map_cons, List.map_cons, List.sum_cons, lenL_eq r]; rfl
theorem joinTo_len (sep : List Nat) : ∀ l, (joinTo sep l).length = lenL l + l.length * sep.length
  | [] => by simp [joinTo, lenL]
  | x :: r => by
    simp only [joinTo, lenL, List.length_append, joinTo_len sep r, List.length_cons, Nat.succ_mul]; omega
theorem joinL_len (sep : List Nat) : ∀ l, (joinL sep l).length ≤ lenL l + l.length * sep.length
  | [] => by simp [joinL, lenL]
  | x :: r => by
    simp only [joinL, lenL, List.length_append, joinTo_len, List.length_cons, Nat.succ_mul]; omega
theorem call_join : CallOk B d (.builtin "str.join") gJoin := by
  intro vs hp v hp' ρ s us hm G r A Q E hA k
  unfold gJoin at hm
  split at hm
  · rename_i sep i
    split at hm
    · rename_i xs hx
      split at hm
      · cases hm
      · rename_i l hl
        split at hm
        · rename_i hf
          cases hm
          cases r using VRL.case_cons with
          | cons ra r => cases r using VRL.case_cons with
            | cons rb r =>
              (first | cases r using VRL.case_nil | cases r using VR.case_int | cases r using VR.case_str | cases r using VR.case_bool | cases r using VR.case_none | cases r using VR.case_ref | cases r using VR.case_tup | cases r using VR.case_bytes | cases r using VR.case_fix | cases r using VR.case_script | cases r); cases ra using VR.case_str with
              | str t => cases rb using VR.case_ref with
                | ref a ea =>
                  obtain ⟨vs, hls, hv⟩ := G.listAt hx ea
                  obtain ⟨ts, e1, e2⟩ := strsAre hl hv
                  have hno : Builtin.Str.tooLong ((ts.map (·.1)).toArray.foldl (· + ·.length + (mkS sep).length) 0) = false := by
                    rw [e2]
                    simp only [List.foldl_toArray']
                    rw [fold_len, lenL_eq]
                    simp only [Builtin.Str.tooLong, decide_eq_false_iff_not, List.length_map, strLen_mkS]
                    have := few_le
                    omega
                  refine call_meets F.slot_str_join (typeIs_str _ _ _) F.entry_str_join (F.args_str_join_2 _ _) (meets_str_join_list _ t a ts hno) ⟨by rw [← e1]; exact hls, ?_⟩
                  match ts, e2 with
                  | [], e2 =>
                    have e3 : l = [] := by
                      cases l with
                      | nil => rfl
                      | cons _ _ => cases e2
                    subst e3
                    exact ⟨Nat.zero_le _, k _ ρ _ .refl (G.tok _) (.str [] _)⟩
                  | [p], e2 =>
                    match l, e2, k with
                    | [], e2, _ => cases e2
                    | _ :: _ :: _, e2, _ => simp at e2
                    | [x], e2, k =>
                      have e4 : p.1 = mkS x := (List.cons.inj e2).1
                      obtain ⟨y, ty⟩ := p
                      simp only at e4
                      subst e4
                      have : joinL sep [x] = x := by simp [joinL, joinTo]
                      rw [this] at k
                      exact k _ ρ _ .refl G (.str x ty)
                  | p :: q :: ts, e2 =>
                    show (Made.str (Builtin.Str.glued (mkS sep) ((p :: q :: ts).map (·.1)))).post _ _
                    rw [e2, glued_eq]
                    refine ⟨?_, k _ ρ _ .refl (G.tok _) (.str _ _)⟩
                    rw [strLen_mkS]
                    exact Nat.le_trans (joinL_len sep l) (Nat.le_trans hf few_le)
        · cases hm
    · cases hm
  · cases hm
theorem call_lower : CallOk B d (.builtin "str.lower") gLower := by
  intro vs hp v hp' ρ s us hm G r A Q E hA k
  unfold gLower at hm
  split at hm
  · rename_i x
    split at hm
    · rename_i hf
      cases hm
      cases r using VRL.case_cons with
      | cons ra r =>
        (first | cases r using VRL.case_nil | cases r using VR.case_int | cases r using VR.case_str | cases r using VR.case_bool | cases r using VR.case_none | cases r using VR.case_ref | cases r using VR.case_tup | cases r using VR.case_bytes | cases r using VR.case_fix | cases r using VR.case_script | cases r); cases ra using VR.case_str with
        | str t =>
          have e : (⟨placed (mkS x) fun i _ => Unicode.lowerAt (mkS x).cps i⟩ : Str) = mkS (x.map lo1) := by
            have := lower_ascii (x := mkS x) (fun c hc => by
              have := List.all_eq_true.mp hf.1 c (by simpa [mkS] using hc)
              simpa using this)
            unfold PySem.Txt.lower at this
            rw [this]; simp [mkS]
          have e' := congrArg Str.cps e
          have hsz : (placed (mkS x) fun i _ => Unicode.lowerAt (mkS x).cps i).size = x.length := by
            show (Str.cps ⟨placed (mkS x) fun i _ => Unicode.lowerAt (mkS x).cps i⟩).size = _
            rw [e']; simp [mkS]
          have g := gives_str_lower (mkS x) t (by rw [hsz]; simp [Builtin.Str.tooLong]; have := few_le; omega)
          rw [e] at g
          refine call_gives F.slot_str_lower (typeIs_str _ _ _) F.entry_str_lower (F.args_str_lower_1 _) g ⟨?_, k _ ρ _ .refl (G.tok _) (.str _ _)⟩
          rw [strLen_mkS, List.length_map]
          exact Nat.le_trans hf.2 few_le
    · cases hm
  · cases hm
theorem drop_takeWhile {α : Type} (p : α → Bool) : ∀ l : List α, l.drop (l.takeWhile p).length = l.dropWhile p
  | [] => rfl
  | a :: l => by
    rw [List.takeWhile_cons, List.dropWhile_cons]
    split
    · rw [List.length_cons, List.drop_succ_cons]; exact drop_takeWhile p l
    · rfl
theorem strSub_eq (x : List Nat) (i j : Nat) : Builtin.Str.strSub (mkS x) i j = mkS ((x.drop i).take (j - i)) := by
  unfold Builtin.Str.strSub mkS
  congr 1
  apply Array.ext'
  simp
theorem call_lstrip : CallOk B d (.builtin "str.lstrip") gLstrip := by
  intro vs hp v hp' ρ s us hm G r A Q E hA k
  unfold gLstrip at hm
  split at hm
  · rename_i x y
    split at hm
    · rename_i hf
      cases hm
      cases r using VRL.case_cons with
      | cons ra r => cases r using VRL.case_cons with
        | cons rb r =>
          (first | cases r using VRL.case_nil | cases r using VR.case_int | cases r using VR.case_str | cases r using VR.case_bool | cases r using VR.case_none | cases r using VR.case_ref | cases r using VR.case_tup | cases r using VR.case_bytes | cases r using VR.case_fix | cases r using VR.case_script | cases r); cases ra using VR.case_str with
          | str t => cases rb using VR.case_str with
            | str t' =>
              have hc : (mkS y).cps.contains = fun c => y.contains c := by
                funext c; simp [mkS]
              have g := gives_str_lstrip_chars (mkS x) (mkS y) t t'
              rw [hc] at g
              have hlo : stripLo (fun c => y.contains c) true (mkS x) = (x.takeWhile fun c => y.contains c).length := rfl
              have hst : PySem.stripped (fun c => y.contains c) true false (mkS x) = mkS (x.dropWhile fun c => y.contains c) := by
                unfold PySem.stripped
                rw [hlo, strSub_eq]
                unfold stripHi
                simp only [Bool.false_eq_true, if_false, strLen_mkS]
                rw [List.take_of_length_le (by rw [List.length_drop]; exact Nat.le_refl _), drop_takeWhile]
              rw [hst] at g
              refine call_gives F.slot_str_lstrip (typeIs_str _ _ _) F.entry_str_lstrip (F.args_str_lstrip_2 _ _) g ?_
              split
              · rename_i hs
                unfold stripSame at hs
                rw [Bool.and_eq_true, hlo] at hs
                have h0 : (x.takeWhile fun c => y.contains c).length = 0 := by simpa using hs.1
                have : (x.dropWhile fun c => y.contains c) = x := by
                  rw [← drop_takeWhile, h0]; rfl
                rw [this] at k
                exact k _ ρ _ .refl G (.str x t)
              · refine ⟨?_, k _ ρ _ .refl (G.tok _) (.str _ _)⟩
                rw [strLen_mkS, ← drop_takeWhile, List.length_drop]
                exact Nat.le_trans (Nat.sub_le _ _) (Nat.le_trans hf few_le)
    · cases hm
  · cases hm
theorem occGo_eq (x y : List Nat) (lim : Nat) : ∀ (is : List Nat) (f : List Nat) (free : Nat), (forIn is ((⟨f⟩ : Array Nat), free) (StrLaws.occBody (mkS x) (mkS y) x.length lim)).run.fst.toList = occGo x y lim is f free
  | [], f, free => rfl
  | i :: is, f, free => by
    rw [List.forIn_cons]
    unfold StrLaws.occBody occGo
    have hs : (Builtin.Str.subAt (mkS x) (mkS y) i = true) ↔ (x.drop i).take y.length = y := by
      unfold Builtin.Str.subAt
      rw [beq_iff_eq, strLen_mkS]
      constructor
      · intro h
        have := congrArg Array.toList h
        simpa [mkS] using this
      · intro h
        apply Array.ext'
        simpa [mkS] using h
    by_cases hc : f.length < lim ∧ free ≤ i ∧ i + y.length ≤ x.length ∧ (x.drop i).take y.length = y
    · rw [if_pos hc, if_pos (by
        refine ⟨⟨⟨?_, hc.2.1⟩, hc.2.2.1⟩, hs.mpr hc.2.2.2⟩
        exact hc.1)]
      have e : ((⟨f⟩ : Array Nat).push i) = ⟨f ++ [i]⟩ := by simp
      have := occGo_eq x y lim is (f ++ [i]) (i + y.length)
      rw [← this, ← e]
      rfl
    · rw [if_neg hc, if_neg (by
        rintro ⟨⟨⟨h1, h2⟩, h3⟩, h4⟩
        exact hc ⟨h1, h2, h3, hs.mp h4⟩)]
      exact occGo_eq x y lim is f free
theorem occL_eq (x y : List Nat) : Builtin.Str.occurrences (mkS x) (mkS y) 0 (mkS x).length ((mkS x).length + 1) = occL x y := by
  rw [StrLaws.occ_eq]
  exact occGo_eq x y (x.length + 1) _ [] 0
theorem parts_eq (x y : List Nat) : Builtin.Str.partsBetween (mkS x) (occL x y) (mkS y).length = (splitL x y).map mkS := by
  unfold Builtin.Str.partsBetween splitL
  rw [List.map_map]
  apply List.map_congr_left
  intro p _
  exact strSub_eq x p.1 p.2
theorem vrl_strs {h : Heap} {l₀ : Addr} : ∀ (l : List (List Nat)) (tk : Nat), VRL h ρ l₀ (l.map .str) (strsFrom tk (l.map mkS))
  | [], _ => .nil
  | x :: r, tk => .cons (.str x tk) (vrl_strs r (tk + 1))
theorem kind_one {y : List Nat} (h : y.all (fun c => decide (c < 256)) = true) : Builtin.Str.strKind (mkS y) = 1 := by
  unfold Builtin.Str.strKind
  rw [if_pos (by
    rw [Array.all_eq_true']
    intro c hc
    exact List.all_eq_true.mp h c (by simpa [mkS] using hc))]
theorem kind_pos (x : Str) : 1 ≤ Builtin.Str.strKind x := by
  unfold Builtin.Str.strKind
  split
  · exact Nat.le_refl _
  · split <;> decide
theorem call_split : CallOk B d (.builtin "str.split") gSplit := by
  intro vs hp v hp' ρ s us hm G r A Q E hA k
  unfold gSplit at hm
  split at hm
  · rename_i x y
    split at hm
    · rename_i hf
      cases hm
      obtain ⟨hy, hy2, hf⟩ := hf
      have hfew := few_le
      cases r using VRL.case_cons with
      | cons ra r => cases r using VRL.case_cons with
        | cons rb r =>
          (first | cases r using VRL.case_nil | cases r using VR.case_int | cases r using VR.case_str | cases r using VR.case_bool | cases r using VR.case_none | cases r using VR.case_ref | cases r using VR.case_tup | cases r using VR.case_bytes | cases r using VR.case_fix | cases r using VR.case_script | cases r); cases ra using VR.case_str with
          | str t => cases rb using VR.case_str with
            | str t' =>
              have hk : decide (Builtin.Str.strKind (mkS x) < Builtin.Str.strKind (mkS y)) = false := by
                rw [kind_one hy2]
                have := kind_pos (mkS x)
                simp; omega
              have self : occL x y = [] → ∀ {S : PySem.Spec}, S = listOfItself (mkS x) t → S A (wants Q E) s := by
                intro h0 S hS
                subst hS
                have e : splitL x y = [x] := by
                  unfold splitL
                  rw [h0]; simp
                rw [e] at k
                obtain ⟨G', x', r'⟩ := G.newList (xs := [.str x]) (arr := [Value.str (mkS x) t].toArray) (.cons (.str x t) .nil) rfl
                exact k _ _ _ x' G' r'
              by_cases hlen : x.length < y.length
              · have h0 : occL x y = [] := by
                  have none : ∀ (is f : List Nat) (free : Nat), occGo x y (x.length + 1) is f free = f := by
                    intro is
                    induction is with
                    | nil => intro f free; rfl
                    | cons i is ih =>
                      intro f free
                      unfold occGo
                      rw [if_neg (by omega)]
                      exact ih f free
                  exact none _ _ _
                exact call_meets F.slot_str_split (typeIs_str _ _ _) F.entry_str_split (F.args_str_split_2 _ _) (meets_str_split_cannot_occur (mkS x) (mkS y) t t' (by rw [strLen_mkS, strLen_mkS]; simp [hlen])) (self h0 rfl)
              · have h1 : (decide ((mkS x).length < (mkS y).length) || decide (Builtin.Str.strKind (mkS x) < Builtin.Str.strKind (mkS y))) = false := by
                  rw [hk, strLen_mkS, strLen_mkS]; simpa using hlen
                have hy0 : ((mkS y).length == 0) = false := by
                  rw [strLen_mkS]
                  cases y with
                  | nil => exact absurd rfl hy
                  | cons _ _ => rfl
                cases ho : occL x y with
                | nil => exact call_meets F.slot_str_split (typeIs_str _ _ _) F.entry_str_split (F.args_str_split_2 _ _) (meets_str_split_not_found (mkS x) (mkS y) t t' h1 hy0 (by rw [occL_eq, ho]; rfl)) (self ho rfl)
                | cons i is =>
                  have hz : (Builtin.Str.partsBetween (mkS x) (Builtin.Str.occurrences (mkS x) (mkS y) 0 (mkS x).length ((mkS x).length + 1)) (mkS y).length).length ≤ sizeLine := by
                    have := StrLaws.occ_length_le (mkS x) (mkS y) 0 (mkS x).length ((mkS x).length + 1)
                    unfold Builtin.Str.partsBetween
                    simp only [List.length_map, List.length_zip, List.length_cons, List.length_append, List.length_nil]
                    rw [strLen_mkS] at this ⊢
                    have h5 : few + 2 ≤ sizeLine := by decide
                    omega
                  have g := meets_str_split_sep (mkS x) (mkS y) t t' h1 hy0 (by rw [occL_eq, ho]; rfl) (by rw [strLen_mkS]; omega) hz
                  refine call_meets F.slot_str_split (typeIs_str _ _ _) F.entry_str_split (F.args_str_split_2 _ _) g ?_
                  show Q _ _
                  rw [occL_eq, parts_eq]
                  obtain ⟨G', x', r'⟩ := (G.tok (s.toks + ((splitL x y).map mkS).length)).newList (xs := (splitL x y).map .str) (arr := (strsFrom s.toks ((splitL x y).map mkS)).toArray) (vrl_strs _ _) rfl
                  exact k _ _ _ x' G' r'
    · cases hm
  · cases hm
theorem isListMV_ok {a : MV} {ua : Value} (h : isListMV a hp = true) (G : Good B ρ hp s) (r : VR s.heap ρ B.l₀ a ua) : s.TypeIs ua "list" ∧ ∀ a', ua = .ref a' → ∃ ob, s.heap.get? a' = some ob ∧ ob.dict = none := by
  unfold isListMV at h
  split at h
  · obtain ⟨xs, hx⟩ := Option.isSome_iff_exists.mp h
    cases r using VR.case_ref with
    | ref a ea =>
      obtain ⟨vs, ⟨n, e⟩, _⟩ := G.listP hx ea
      exact ⟨⟨_, e, rfl⟩, fun a' q => by cases q; exact ⟨_, e, rfl⟩⟩
  · cases h
theorem isStrMV_ok {a : MV} {ua : Value} (h : isStrMV a hp = true) (G : Good B ρ hp s) (r : VR s.heap ρ B.l₀ a ua) : s.TypeIs ua "str" ∧ ∀ a', ua = .ref a' → ∃ ob, s.heap.get? a' = some ob ∧ ob.dict = none := by
  unfold isStrMV at h
  split at h
  · (first | cases r using VRL.case_nil | cases r using VR.case_int | cases r using VR.case_str | cases r using VR.case_bool | cases r using VR.case_none | cases r using VR.case_ref | cases r using VR.case_tup | cases r using VR.case_bytes | cases r using VR.case_fix | cases r using VR.case_script | cases r)
    exact ⟨typeIs_str _ _ _, fun _ q => nomatch q⟩
  · cases h
abbrev methFew (pos : Pos) (es : List PySem.Expr) : Prop := ∀ env : Env, ((backTo pos (starEach es env)).all (fun x => !x.1) && (backToKw pos (keywordEach [] env)).all (fun x => x.1.isSome)
      && decide (es.length + ([] : List Keyword).length + (if ([] : List Keyword).isEmpty then 0 else 1) < 30)) = true
theorem snd_meth {o : PySem.Expr} {name : Str} {apos pos : Pos} {es : List PySem.Expr} {T id : String} {kind : MV → List MO → Bool} {g : GF} {m : ME} {l : ML}
    (hkind : ∀ {a : MV} {ua : Value} {hp : List MO} {ρ : List Addr} {s : Shared}, kind a hp = true → Good B ρ hp s → VR s.heap ρ B.l₀ a ua → s.TypeIs ua T ∧ ∀ a', ua = .ref a' → ∃ ob, s.heap.get? a' = some ob ∧ ob.dict = none)
    (pa : PlainAttrs T) (slot : Slot T name id) (hty : typeOf (.builtin id) = pure (.type "method_descriptor")) (K : CallOk B d (.builtin id) g)
    (So : SndE B d Γ o m) (Sl : SndL B d Γ es l) (hline : (apos.endLine == pos.line) = true := by rfl)
    (hbase : ∀ env, attributeBase o name env (eval o env) = eval o env := by intros; rfl) (hfew : methFew pos es := by intro _; rfl) (hpl : plainArgs es := by intro _ _; rfl) :
    SndE B d Γ (.Call (.Attribute o name apos) es [] pos) (mMeth kind g m l) := by
  intro env loc hp v hp' ρ s hm G F A Q E hA k
  unfold mMeth at hm
  split at hm
  · cases hm
  · rename_i a hp1 h1
    split at hm
    · cases hm
    · rename_i hk
      split at hm
      · cases hm
      · rename_i vs hp2 h2
        refine wpAny_Call_method (hbase env) (hfew env) hline pa slot hty (So.run h1 G F hA fun ua ρ1 s1 x1 G1 F1 r1 => ?_)
        obtain ⟨q1, q2⟩ := hkind hk G1 r1
        refine ⟨q1, q2, ?_⟩
        refine callWith_ok (.builtin id) (hpl env pos) (Sl env loc _ vs hp2 ρ1 s1 pos h2 G1 F1 A _ _ hA fun us ρ2 s2 x2 G2 r2 => ⟨G2.keep, ?_⟩)
        exact K (a :: vs) hp2 v hp' ρ2 s2 (ua :: us) hm G2 (.cons (G1.vr x2 .nil r1) r2) A _ _ hA fun u ρ3 s3 x3 G3 r3 => k u ρ3 s3 (x1.trans (x2.trans x3)) G3 r3
end
end Mine
end
section
open PySem PySem.W PyProof.Rows PySem.Spec PySem.Calls
set_option linter.unusedVariables false
namespace Mine
noncomputable def relN (names outer : List (Str × NameKind)) : List (Str × NameKind) :=
  names.map fun p => if (p.2 == .free && outer.lookup p.1 == some .cell) = true then (p.1, .cell) else p
noncomputable def compLoc (k : Nat) (ci : List Nat) (loc : Loc) : Loc := List.replicate k none ++ ci.map fun i => (loc[i]?).getD none
structure CompIs (Γ Γ' : Ctx) (scope : Scope) (k : Nat) (ci : List Nat) : Prop where
  kind : scope.kind = .function
  nocell : (scope.names.all fun p => p.2 != .cell) = true
  keys : (scope.names.map (·.1)).Nodup
  frees : (scope.names.all fun p => p.2 != .free || (Γ.sc.lookup p.1 == some .cell || Γ.sc.lookup p.1 == some .free)) = true
  sc : Γ'.sc = relN scope.names Γ.sc
  own : ((Γ'.tbl.take k).all fun x => scope.names.lookup x == some .local) = true
  capk : ((Γ'.tbl.drop k).all fun x => scope.names.lookup x == some .free) = true
  caps : ci.map (fun i => Γ.tbl[i]?) = (Γ'.tbl.drop k).map some
  klen : k ≤ Γ'.tbl.length
  tnd : Γ'.tbl.Nodup
noncomputable def closGo (cells : List (Str × Addr)) : List (Str × NameKind) → List (Str × Addr) → List (Str × Addr)
  | [], acc => acc
  | (n, k) :: r, acc => if k == .free then closGo cells r ((n, (cells.lookup n).getD 0) :: acc) else closGo cells r acc
theorem clos_loop {env : Env} : ∀ (names : List (Str × NameKind)) (acc : List (Str × Addr)), (∀ n, (n, NameKind.free) ∈ names → ∃ c, env.cells.lookup n = some c) →
    (forIn names acc (fun (p : Str × NameKind) (cs : List (Str × Addr)) => (if p.2 == .free then do let c ← cellOf env p.1; pure (ForInStep.yield ((p.1, c) :: cs)) else pure (ForInStep.yield cs) : Sem (ForInStep (List (Str × Addr)))))) = pure (closGo env.cells names acc)
  | [], acc, _ => rfl
  | (n, k) :: r, acc, h => by
    rw [List.forIn_cons]
    have hr : ∀ n, (n, NameKind.free) ∈ r → ∃ c, env.cells.lookup n = some c := fun n hn => h n (List.mem_cons_of_mem _ hn)
    unfold closGo
    by_cases hk : k = .free
    · subst hk
      obtain ⟨c, hc⟩ := h n (List.mem_cons_self ..)
      have e : cellOf env n = pure c := by unfold cellOf; rw [hc]
      simp only [beq_self_eq_true, if_true, e, pure_bind, hc, Option.getD_some]
      exact clos_loop r _ hr
    · have : (k == NameKind.free) = false := by simpa using hk
      simp only [this, Bool.false_eq_true, if_false, pure_bind]
      exact clos_loop r _ hr
theorem clos_mem {cells : List (Str × Addr)} {n : Str} {c : Addr} : ∀ {names acc}, (n, c) ∈ closGo cells names acc → ((n, NameKind.free) ∈ names ∧ c = (cells.lookup n).getD 0) ∨ (n, c) ∈ acc
  | [], acc, h => .inr h
  | (m, k) :: r, acc, h => by
    unfold closGo at h
    split at h
    · rename_i hk
      have hk' : k = .free := by simpa using hk
      subst hk'
      rcases clos_mem h with ⟨q, e⟩ | q
      · exact .inl ⟨List.mem_cons_of_mem _ q, e⟩
      · rcases List.mem_cons.mp q with q | q
        · cases q; exact .inl ⟨List.mem_cons_self .., rfl⟩
        · exact .inr q
    · rcases clos_mem h with ⟨q, e⟩ | q
      · exact .inl ⟨List.mem_cons_of_mem _ q, e⟩
      · exact .inr q
theorem clos_acc {cells : List (Str × Addr)} {x : Str × Addr} : ∀ {names acc}, x ∈ acc → x ∈ closGo cells names acc
  | [], acc, h => h
  | (m, k) :: r, acc, h => by
    unfold closGo
    split
    · exact clos_acc (List.mem_cons_of_mem _ h)
    · exact clos_acc h
theorem clos_has {cells : List (Str × Addr)} {n : Str} : ∀ {names acc}, (n, NameKind.free) ∈ names → (n, (cells.lookup n).getD 0) ∈ closGo cells names acc
  | (m, k) :: r, acc, h => by
    unfold closGo
    rcases List.mem_cons.mp h with q | q
    · cases q
      rw [if_pos (by rfl)]
      exact clos_acc (List.mem_cons_self ..)
    · split
      · exact clos_has q
      · exact clos_has q
theorem clos_keys {cells : List (Str × Addr)} : ∀ {names acc}, (acc.map (·.1)).Nodup → (names.map (·.1)).Nodup → (∀ x ∈ acc.map (·.1), x ∉ names.map (·.1)) → ((closGo cells names acc).map (·.1)).Nodup
  | [], acc, h, _, _ => h
  | (m, k) :: r, acc, h, hn, ha => by
    have h1 := List.nodup_cons.mp hn
    unfold closGo
    split
    · refine clos_keys ?_ h1.2 ?_
      · exact List.nodup_cons.mpr ⟨fun q => ha m q (List.mem_cons_self ..), h⟩
      · intro x hx q
        rcases List.mem_cons.mp hx with e | hx
        · exact h1.1 (by rw [← e]; exact q)
        · exact ha x hx (List.mem_cons_of_mem _ q)
    · exact clos_keys h h1.2 fun x hx q => ha x hx (List.mem_cons_of_mem _ q)
theorem relN_local {outer : List (Str × NameKind)} {x : Str} : ∀ {names : List (Str × NameKind)}, names.lookup x = some .local → (relN names outer).lookup x = some .local
  | (n, k) :: r, h => by
    rw [List.lookup_cons] at h
    show List.lookup x ((if (k == .free && outer.lookup n == some .cell) = true then (n, NameKind.cell) else (n, k)) :: relN r outer) = _
    cases hx : x == n with
    | true =>
      rw [hx] at h
      cases h
      simp [List.lookup_cons, hx]
    | false =>
      rw [hx] at h
      split <;> · rw [List.lookup_cons]; simp only [hx]; exact relN_local h
theorem relN_free {outer : List (Str × NameKind)} {x : Str} : ∀ {names : List (Str × NameKind)}, names.lookup x = some .free → (relN names outer).lookup x = some .cell ∨ (relN names outer).lookup x = some .free
  | (n, k) :: r, h => by
    rw [List.lookup_cons] at h
    show List.lookup x ((if (k == .free && outer.lookup n == some .cell) = true then (n, NameKind.cell) else (n, k)) :: relN r outer) = _ ∨ List.lookup x ((if (k == .free && outer.lookup n == some .cell) = true then (n, NameKind.cell) else (n, k)) :: relN r outer) = _
    cases hx : x == n with
    | true =>
      rw [hx] at h
      cases h
      split
      · exact .inl (by rw [List.lookup_cons]; simp [hx])
      · exact .inr (by rw [List.lookup_cons]; simp [hx])
    | false =>
      rw [hx] at h
      split <;> · rw [List.lookup_cons]; simp only [hx]; exact relN_free h
theorem relN_back {outer : List (Str × NameKind)} {x : Str} {q : NameKind} : ∀ {names : List (Str × NameKind)}, (relN names outer).lookup x = some q → names.lookup x = some q ∨ (q = .cell ∧ names.lookup x = some .free)
  | (n, k) :: r, h => by
    change List.lookup x ((if (k == .free && outer.lookup n == some .cell) = true then (n, NameKind.cell) else (n, k)) :: relN r outer) = _ at h
    rw [List.lookup_cons]
    cases hx : x == n with
    | true =>
      split at h
      · rename_i hk
        simp only [List.lookup_cons, hx] at h
        cases h
        rw [Bool.and_eq_true] at hk
        have : k = .free := by simpa using hk.1
        subst this
        exact .inr ⟨rfl, rfl⟩
      · simp only [List.lookup_cons, hx] at h
        exact .inl h
    | false =>
      have h' : (relN r outer).lookup x = some q := by
        split at h <;> · simp only [List.lookup_cons, hx] at h; exact h
      exact relN_back h'
section
variable {B : Base} {d : Nat} {Γ Γ' : Ctx} {env : Env} {loc : Loc} {hp hp' : List MO} {ρ : List Addr} {s : Shared} {A : Around} {E : Value → Shared → Prop} {scope : Scope} {k : Nat} {ci : List Nat}
theorem CompIs.clos (CI : CompIs Γ Γ' scope k ci) {h : Heap} (F : FrR B Γ env loc ρ h) : ∀ n, (n, NameKind.free) ∈ scope.names → ∃ c, env.cells.lookup n = some c ∧ ∃ u, h.IsCell c u := by
  intro n hn
  have := List.all_eq_true.mp CI.frees _ hn
  have hk : Γ.sc.lookup n = some .cell ∨ Γ.sc.lookup n = some .free := by simpa using this
  obtain ⟨c, u, e, hc⟩ := F.cell n hk
  exact ⟨c, e, u, hc⟩
theorem CompIs.closureFor (CI : CompIs Γ Γ' scope k ci) {h : Heap} (F : FrR B Γ env loc ρ h) : closureFor scope env = pure (closGo env.cells scope.names []) := by
  have := clos_loop (env := env) scope.names [] fun n hn => let ⟨c, e, _⟩ := CI.clos F n hn; ⟨c, e⟩
  unfold PySem.closureFor
  show (forIn scope.names [] _ >>= fun cs => pure cs) = _
  rw [bind_pure]
  exact this
theorem CompIs.lookup (CI : CompIs Γ Γ' scope k ci) {h : Heap} (F : FrR B Γ env loc ρ h) {n : Str} (hn : (n, NameKind.free) ∈ scope.names) {c : Addr} (e : env.cells.lookup n = some c) : (closGo env.cells scope.names []).lookup n = some c := by
  have h1 := clos_has (cells := env.cells) (acc := []) hn
  rw [e] at h1
  exact lookup_of_mem (clos_keys List.nodup_nil CI.keys fun x hx => nomatch hx) h1
theorem CompIs.mem (CI : CompIs Γ Γ' scope k ci) {h : Heap} (F : FrR B Γ env loc ρ h) {n : Str} {c : Addr} (hc : (n, c) ∈ closGo env.cells scope.names []) : (n, c) ∈ env.cells ∧ ∃ u, h.IsCell c u := by
  rcases clos_mem hc with ⟨q, e⟩ | q
  · obtain ⟨c', e', u, hu⟩ := CI.clos F n q
    rw [e'] at e
    have e2 : c = c' := e
    subst e2
    exact ⟨mem_of_lookup e', u, hu⟩
  · cases q
theorem CompIs.frame (CI : CompIs Γ Γ' scope k ci) (F : FrR B Γ env loc ρ s.heap) (G : Good B ρ hp s) {C : Addr} {h' : Heap} (hC : s.heap.get? C = none) (hns : h'.Ns C fun _ => none) (hk : ∀ b o, s.heap.get? b = some o → h'.get? b = some o) :
    FrR B Γ' (compEnvC scope (closGo env.cells scope.names []) C env) (compLoc k ci loc) ρ h' := by
  have xx : Ext ρ s.heap ρ h' [] := .keeps hk
  have kc : ∀ {c u}, s.heap.IsCell c u → h'.IsCell c u := fun ⟨o, e, hd⟩ => ⟨o, hk _ _ e, hd⟩
  have hCρ : C ∉ ρ := fun q => by
    obtain ⟨o, e⟩ := G.alive q
    rw [hC] at e; cases e
  have capAt : ∀ {i : Nat} {x : Str} {v : MV}, Γ'.tbl[i]? = some x → (compLoc k ci loc)[i]? = some (some v) → scope.names.lookup x = some .free ∧ ∃ i0 : Nat, Γ.tbl[i0]? = some x ∧ loc[i0]? = some (some v) := by
    intro i x v hi hv
    unfold compLoc at hv
    by_cases hik : i < k
    · rw [List.getElem?_append_left (by simpa using hik), List.getElem?_replicate, if_pos hik] at hv
      cases hv
    · rw [List.getElem?_append_right (by simpa using Nat.le_of_not_lt hik), List.length_replicate, List.getElem?_map] at hv
      cases hj : ci[i - k]? with
      | none => rw [hj] at hv; cases hv
      | some i0 =>
        rw [hj] at hv
        have hv' : (loc[i0]?).getD none = some v := Option.some.inj hv
        have hl : loc[i0]? = some (some v) := by
          cases e : loc[i0]? with
          | none => rw [e] at hv'; cases hv'
          | some y => rw [e] at hv'; exact congrArg some hv'
        have hd : (Γ'.tbl.drop k)[i - k]? = some x := by
          rw [List.getElem?_drop, show k + (i - k) = i by omega]; exact hi
        have hc := congrArg (fun l => l[i - k]?) CI.caps
        simp only [List.getElem?_map, hj, hd, Option.map_some, Option.some.injEq] at hc
        have hf := List.all_eq_true.mp CI.capk x (List.mem_of_getElem? hd)
        exact ⟨by simpa using hf, i0, hc, hl⟩
  have freeOf : ∀ x, (Γ'.sc.lookup x = some .cell ∨ Γ'.sc.lookup x = some .free) → scope.names.lookup x = some .free := by
    intro x hx
    rw [CI.sc] at hx
    rcases hx with hx | hx
    · rcases relN_back hx with q | ⟨_, q⟩
      · have := List.all_eq_true.mp CI.nocell _ (mem_of_lookup q)
        simp at this
      · exact q
    · rcases relN_back hx with q | ⟨q, _⟩
      · exact q
      · cases q
  have gammaOf : ∀ {n}, (n, NameKind.free) ∈ scope.names → Γ.sc.lookup n = some .cell ∨ Γ.sc.lookup n = some .free := fun hn => by
    have := List.all_eq_true.mp CI.frees _ hn
    simpa using this
  refine ⟨?_, ?_, F.glob, F.blt, ⟨_, hns, ?_⟩, ?_, ?_, ?_, ?_, ?_, ?_, ?_, ?_, CI.tnd⟩
  · exact CI.kind
  · show (relabel scope env).names = _
    rw [CI.sc]
    unfold relabel relN
    apply List.map_congr_left
    intro p _
    have e1 : env.scope.kind = .function := F.kind
    have e2 : env.kindOf p.1 = Γ.sc.lookup p.1 := by unfold Env.kindOf; rw [F.names]
    obtain ⟨n, q⟩ := p
    simp only [e1, e2, beq_self_eq_true, Bool.and_true]
  · intro i x v hi hv hx
    obtain ⟨hf, _⟩ := capAt hi hv
    rw [CI.sc] at hx
    rcases relN_free (outer := Γ.sc) hf with q | q <;> · rw [hx] at q; cases q
  · intro x hx
    have hf := mem_of_lookup (freeOf x hx)
    obtain ⟨c, e, u, hu⟩ := CI.clos F x hf
    exact ⟨c, u, CI.lookup F hf e, kc hu⟩
  · intro i x v hi hv hx
    obtain ⟨hf, i0, hi0, hl⟩ := capAt hi hv
    have hm := mem_of_lookup hf
    obtain ⟨c, u, e, hc, r⟩ := F.cval i0 x v hi0 hl (gammaOf hm)
    exact ⟨c, u, CI.lookup F hm e, kc hc, G.vr xx .nil r⟩
  · intro i x hi
    by_cases hik : i < k
    · have := List.all_eq_true.mp CI.own x (List.mem_of_getElem? (by rw [List.getElem?_take_of_lt hik]; exact hi))
      rw [CI.sc]
      exact .inl (relN_local (by simpa using this))
    · have hd : (Γ'.tbl.drop k)[i - k]? = some x := by
        rw [List.getElem?_drop, show k + (i - k) = i by omega]; exact hi
      have hf := List.all_eq_true.mp CI.capk x (List.mem_of_getElem? hd)
      rw [CI.sc]
      exact .inr (relN_free (by simpa using hf))
  · intro c hc
    obtain ⟨_, u, hu⟩ := CI.mem F (n := c.1) (c := c.2) hc
    exact ⟨u, kc hu⟩
  · have hnd : ((closGo env.cells scope.names []).map (·.1)).Nodup := clos_keys List.nodup_nil CI.keys fun x hx => nomatch hx
    show (closGo env.cells scope.names []).Pairwise _
    have hp := List.pairwise_map.mp hnd
    refine hp.imp_of_mem fun {a b} ha hb hab hne => hab ?_
    have h1 := (CI.mem F (n := a.1) (c := a.2) ha).1
    have h2 := (CI.mem F (n := b.1) (c := b.2) hb).1
    rw [hne] at h1
    exact name_of_addr F.apart h1 h2
  · intro c hc e
    obtain ⟨_, u, o, hu, _⟩ := CI.mem F (n := c.1) (c := c.2) hc
    have e' : C = c.2 := e
    rw [← e', hC] at hu; cases hu
  · intro a ha
    rcases List.mem_cons.mp ha with e | ha
    · have e' : a = C := e
      rw [e']; exact hCρ
    · obtain ⟨c, hc, rfl⟩ := List.mem_map.mp ha
      obtain ⟨hm, _⟩ := CI.mem F (n := c.1) (c := c.2) hc
      exact F.out _ (List.mem_cons_of_mem _ (List.mem_map.mpr ⟨_, hm, rfl⟩))
  · intro a ha
    rcases List.mem_cons.mp ha with e | ha
    · have e' : a = C := e
      rw [e']
      cases e : B.s₀.heap.get? C with
      | none => rfl
      | some o => have := G.keep _ _ e; rw [hC] at this; cases this
    · obtain ⟨c, hc, rfl⟩ := List.mem_map.mp ha
      obtain ⟨hm, _⟩ := CI.mem F (n := c.1) (c := c.2) hc
      exact F.new _ (List.mem_cons_of_mem _ (List.mem_map.mpr ⟨_, hm, rfl⟩))
end
end Mine
end
section
open PySem PySem.W PyProof.Rows PySem.Spec PySem.Calls
set_option linter.unusedVariables false
namespace Mine
noncomputable def tgtOwn : Tgt → Nat → Bool
  | .one i, k => decide (i < k)
  | .two i j, k => decide (i < k) && decide (j < k)
noncomputable def compGo (t : Tgt) (mc : MT) (me : ME) (D : Nat) : Nat → It → Loc → List MO → Option (List MO)
  | 0, _, _, _ => none
  | n + 1, it, loc, hp => match it.next hp with
    | none => none
    | some none => some hp
    | some (some (x, it')) => match fitsT t it with
      | false => none
      | true => match setT t x loc with
        | none => none
        | some loc1 => match mc loc1 hp with
          | none => none
          | some (false, hp1) => compGo t mc me D n it' loc1 hp1
          | some (true, hp1) => match me loc1 hp1 with
            | none => none
            | some (v, hp2) => match gAppend [.ref D, v] hp2 with
              | none => none
              | some (_, hp3) => compGo t mc me D n it' loc1 hp3
noncomputable def mComp (n : Nat) (t : Tgt) (mi : MI) (mc : MT) (me : ME) (k : Nat) (ci : List Nat) : ME := fun loc hp => match mi loc hp with
  | none => none
  | some (it, hp1) => match compGo t mc me hp1.length n it (compLoc k ci loc) (hp1 ++ [.list []]) with
    | none => none
    | some hp2 => some (.ref hp1.length, hp2)
noncomputable def tTrue : MT := fun _ hp => some (true, hp)
noncomputable def SndC (B : Base) (d : Nat) (Γ : Ctx) (ifs : List PySem.Expr) (m : MT) : Prop :=
  ∀ env loc hp b hp' ρ s, m loc hp = some (b, hp') → Good B ρ hp s → FrR B Γ env loc ρ s.heap →
    ∀ A Q E, AOK d A → (∀ ρ' s', Ext ρ s.heap ρ' s'.heap [] → Good B ρ' hp' s' → Q b s') →
      wpAny (model B.prog B.w) A (forIn ifs true fun c r => if r = true then do let ok ← isTrue c env (eval c env); pure (ForInStep.yield ok) else pure (ForInStep.yield r)) Q E s
section
variable {B : Base} {d : Nat} {Γ Γ' : Ctx} {env : Env} {loc : Loc} {hp hp' : List MO} {ρ : List Addr} {s : Shared} {A : Around} {E : Value → Shared → Prop} {scope : Scope} {k : Nat} {ci : List Nat}
theorem snd_cnil : SndC B d Γ [] tTrue := by
  intro env loc hp b hp' ρ s hm G F A Q E hA kk
  cases hm
  exact wpAny_tests_nil (kk ρ s .refl G)
theorem snd_cone {c : PySem.Expr} {m : MT} (S : SndT B d Γ c m) : SndC B d Γ [c] m := by
  intro env loc hp b hp' ρ s hm G F A Q E hA kk
  exact wpAny_tests_one (S env loc hp b hp' ρ s hm G F A Q E hA kk)
theorem entry_itemiter_iter : entryFor table "dict_itemiterator.__iter__" = some Builtin.«dict_keyiterator.__iter__» :=
  entryFor_alias (id' := "dict_keyiterator.__iter__") (by kernel_rfl) (by first | rfl | decide +kernel | (unfold String.splitOn; simp +decide [String.splitOnAux])) (by decide +kernel) (by kernel_rfl)
theorem selfItems {it d : Addr} {i n ep : Nat} {ok ov : Value} {Q : Value → Shared → Prop} (hit : IsItemIter s.heap it d i n ep ok ov) (h : Q (.ref it) s) : wpAny (model B.prog B.w) A (pyIter (.ref it)) Q E s := by
  have hT : s.TypeIs (.ref it) "dict_itemiterator" := ⟨_, hit, rfl⟩
  refine wpAny_pyIter_slot hT F.slot_dict_itemiterator_iter (wpAny_call_entry F.slot_dict_itemiterator_iter hT entry_itemiter_iter ?_ (F.args_dict_itemiterator_iter_1 _))
  show wpAny _ _ (ret (.ref it)) _ _ s
  exact wpAny_pure ⟨_, rfl, "dict_itemiterator", _, hT, F.slot_dict_itemiterator_next.lookup, h⟩
theorem ItR.self {it : It} {I : Addr} {own : List Addr} (R : ItR s.heap ρ it I own) {Q : Value → Shared → Prop} (h : Q (.ref I) s) : wpAny (model B.prog B.w) A (pyIter (.ref I)) Q E s := by
  cases R with
  | list i k _ a e hi => exact wpAny_pyIter_listiter hi h
  | rng a n _ hi => exact wpAny_pyIter_rangeiter hi h
  | enum i k _ it a old e he hi hne => exact wpAny_pyIter_enum he h
  | byt x k _ t hi => exact KBw.pyIter_self hi h
  | chr x k _ t hi => exact wpAny_pyIter_striter_ascii hi h
  | kw i _ a ok ov e hi => exact selfItems hi h
  | zip i j k t _ TI TO i1 i2 l1 l2 D hz hTI h1 h2 e1 e2 e3 hn => exact wpAny_pyIter_zip hz h
theorem comp_loop {elt target iter : PySem.Expr} {ifs : List PySem.Expr} {sc : Scope} {pos : Pos} {it acc : Value} {cenv : Env} {R : Result → Shared → Prop} (I : Nat → Shared → Prop)
    (turn : ∀ n s, I n s → ∀ E', wpAny (model B.prog B.w) A (pyNext it) (fun r s₁ => match r with
      | none => R (.ok .next) s₁
      | some v => wpAny (model B.prog B.w) A (letOwnedTupleGo target it v) (fun _ s₁' => wpAny (model B.prog B.w) A (assign target cenv v) (fun _ s₂ =>
          wpAny (model B.prog B.w) A (forIn ifs true fun c r => if r = true then do let ok ← isTrue c cenv (eval c cenv); pure (ForInStep.yield ok) else pure (ForInStep.yield r)) (fun ok s₃ =>
            if ok = true then wpAny (model B.prog B.w) A (eval elt cenv) (fun x s₄ =>
              wpAny (model B.prog B.w) A (call (.builtin "list.append") [acc, x]) (fun _ s₅ => ∃ m, m < n ∧ I m s₅) E' s₄) E' s₃
            else ∃ m, m < n ∧ I m s₃) E' s₂) E' s₁') E' s₁) E' s)
    (n : Nat) (h : I n s) :
    codeAny (model B.prog B.w) A (.compLoop (.ListComp elt [⟨target, iter, ifs, 0⟩] sc pos) 0 it acc cenv) R s := by
  refine codeAny_loop rfl I (fun n s hI => ?_) n h
  show wpAny _ A ((compTurn (.ListComp elt [⟨target, iter, ifs, 0⟩] sc pos) 0 it acc cenv).onRaise (fun x => do noteFrame x cenv; theTreesLotGoes x)) _ _ s
  refine wpAny_noted ?_
  rw [compTurn_list]
  refine wpAny_bind (wpAny_standAt (wpAny_bind (wpAny_mono (turn n s hI _) (fun r s₁ h₁ => ?_) fun _ _ h' => h')))
  cases r with
  | none => exact wpAny_pure h₁
  | some v =>
    refine wpAny_bind (wpAny_mono h₁ (fun _ s₁' h₁' => ?_) fun _ _ h' => h')
    refine wpAny_bind (wpAny_mono h₁' (fun _ s₂ h₂ => wpAny_bind (wpAny_mono h₂ (fun ok s₃ h₃ => ?_) fun _ _ h' => h')) fun _ _ h' => h')
    cases ok with
    | false => exact wpAny_pure ⟨rfl, h₃⟩
    | true =>
      exact wpAny_bind (wpAny_bind (wpAny_mono h₃ (fun x s₄ h₄ => wpAny_bind (wpAny_mono h₄ (fun _ s₅ h₅ => wpAny_pure (wpAny_pure ⟨rfl, h₅⟩)) fun _ _ h' => h')) fun _ _ h' => h'))
theorem CompIs.wr (CI : CompIs Γ Γ' scope k ci) {C : Addr} {cl : List (Str × Addr)} {t : Tgt} (ht : tgtOwn t k = true) {a : Addr} (h : a ∈ wrT Γ' (compEnvC scope cl C env) t) : a = C := by
  have one : ∀ {i : Nat}, i < k → a ∈ wrI Γ' (compEnvC scope cl C env) i → a = C := by
    intro i hi hm
    unfold wrI at hm
    split at hm
    · rename_i x hx
      have hl := List.all_eq_true.mp CI.own x (List.mem_of_getElem? (by rw [List.getElem?_take_of_lt hi]; exact hx))
      unfold wrX at hm
      rw [if_pos (by rw [CI.sc]; exact relN_local (by simpa using hl))] at hm
      exact List.mem_singleton.mp hm
    · cases hm
  cases t with
  | one i => exact one (by simpa [tgtOwn] using ht) h
  | two i j =>
    have ht' : i < k ∧ j < k := by simpa [tgtOwn] using ht
    rcases List.mem_append.mp h with q | q
    · exact one ht'.1 q
    · exact one ht'.2 q
inductive CompI (B : Base) (Γ' : Ctx) (cenv : Env) (t : Tgt) (mc : MT) (me : ME) (D : Nat) (DA C I : Addr) (own ρ : List Addr) (h : Heap) (hp' : List MO) (n : Nat) (s4 : Shared) : Prop
  | mk (it4 : It) (loc4 : Loc) (hp4 : List MO) (ρ4 : List Addr) (x : Ext ρ h ρ4 s4.heap []) (G : Good B ρ4 hp4 s4) (F : FrR B Γ' cenv loc4 ρ4 s4.heap) (R : ItR s4.heap ρ4 it4 I own) (o : ∀ a ∈ own, a ∉ ρ4) (eD : ρ4[D]? = some DA) (nC : C ∉ ρ4) (e : compGo t mc me D n it4 loc4 hp4 = some hp') : CompI B Γ' cenv t mc me D DA C I own ρ h hp' n s4
theorem comp_core {n : Nat} {t : Tgt} {elt target iter : PySem.Expr} {ifs : List PySem.Expr} {pos pos' : Pos} {mi : MI} {mc : MT} {me : ME} {v : MV} {use : Option (Value → Sem Unit)} {Q : Value → Shared → Prop}
    (CI : CompIs Γ Γ' scope k ci) (T : TgtIs Γ' t target) (ht : tgtOwn t k = true) (Si : SndI B d Γ iter mi) (Sc : SndC B d Γ' ifs mc) (Se : SndE B d Γ' elt me)
    (hm : mComp n t mi mc me k ci loc hp = some (v, hp')) (G : Good B ρ hp s) (F : FrR B Γ env loc ρ s.heap) (hA : AOK d A) (hfold : ∀ x, foldedSetIterable iter env x = pure x)
    (fin : ∀ (D C : Addr) ρ' s' m, Ext ρ s.heap ρ' s'.heap [] → Good B ρ' hp' s' → VR s'.heap ρ' B.l₀ v (.ref D) → s'.heap.Ns C m → s.heap.get? C = none → B.s₀.heap.get? C = none → C ∉ ρ' →
      compPost (model B.prog B.w) A E use Q (.ref D) C (.ok .next) s') :
    wpAny (model B.prog B.w) A (comprehension (.ListComp elt [⟨target, iter, ifs, 0⟩] scope pos) scope env pos' (newList []) false (eval iter env) use) Q E s := by
  unfold mComp at hm
  split at hm
  · cases hm
  · rename_i it hp1 h1
    split at hm
    · cases hm
    · rename_i hp2 h2
      cases hm
      refine wpAny_comprehension_free (g := ⟨target, iter, ifs, 0⟩) (gs := []) rfl hfold (CI.closureFor F) CI.kind (fun x hx hl => by
        obtain ⟨x1, x2⟩ := x
        simp only at hl
        subst hl
        exact lookup_of_mem CI.keys hx) ?_
      refine Si env loc hp it hp1 ρ s h1 G F A _ _ hA fun I own ρ1 s1 x1 G1 R1 hnew hout => ?_
      refine wpAny_newList ?_
      obtain ⟨G2, x2, r2⟩ := G1.newList (xs := []) (vs := []) (arr := ([] : List Value).toArray) .nil rfl
      refine wpAny_newFunctionEnv (fun x hx => ?_) (fun x hx => nomatch hx) (fun h3 hns hsb => ?_) CI.kind
      · have := List.all_eq_true.mp CI.nocell x hx
        simpa using this
      -- the frame
      generalize hH : (s1.heap.push { cls := .type "list", data := .seq ([] : List Value).toArray }) = H at hns hsb G2 x2 r2 ⊢
      simp only at hns hsb ⊢
      have hk3 : ∀ b o, H.get? b = some o → h3.get? b = some o := fun b o e => hsb.extBut b o (Nat.ne_of_lt (Heap.lt_size e)) (Heap.get?_push_of_some _ e)
      have hC : H.get? H.objs.size = none := get?_size _
      have hCs : s.heap.get? H.objs.size = none := (x1.trans x2).back hC
      have G3 : Good B (ρ1 ++ [s1.heap.objs.size]) (hp1 ++ [.list []]) { s1 with heap := h3, toks := s1.toks + ([] : List (Str × Value)).length } := G2.keeps hk3
      have x3 : Ext (ρ1 ++ [s1.heap.objs.size]) H (ρ1 ++ [s1.heap.objs.size]) h3 [] := .keeps hk3
      have F2 : FrR B Γ env loc (ρ1 ++ [s1.heap.objs.size]) H := (F.ext G x1).ext G1 x2
      have F3 := CI.frame (s := { s1 with heap := H }) F2 G2 hC (by
        have : (fun x : Str => ([] : List (Str × Value)).reverse.lookup x) = fun _ => none := rfl
        rw [this] at hns
        exact hns) hk3
      have hD : (ρ1 ++ [s1.heap.objs.size])[hp1.length]? = some s1.heap.objs.size := G1.last _
      have hCρ3 : H.objs.size ∉ ρ1 ++ [s1.heap.objs.size] := fun q => by
        obtain ⟨o, e⟩ := G2.alive q
        have : H.get? H.objs.size = some o := e
        rw [hC] at this; cases this
      have R3 : ItR h3 (ρ1 ++ [s1.heap.objs.size]) it I own := (R1.ext x2 .nil hout (fun _ _ q => nomatch q)).ext x3 .nil (fun a ha q => by
        rcases List.mem_append.mp q with q | q
        · exact hout a ha q
        · obtain ⟨o, e⟩ := R1.alive a ha
          rw [List.mem_singleton.mp q, get?_size] at e; cases e) (fun _ _ q => nomatch q)
      have hout3 : ∀ a ∈ own, a ∉ ρ1 ++ [s1.heap.objs.size] := fun a ha q => by
        rcases List.mem_append.mp q with q | q
        · exact hout a ha q
        · obtain ⟨o, e⟩ := R1.alive a ha
          rw [List.mem_singleton.mp q, get?_size] at e; cases e
      have hCown : ∀ a ∈ own, a ≠ H.objs.size := fun a ha q => by
        obtain ⟨o, e⟩ := (R1.ext x2 .nil hout (fun _ _ q => nomatch q)).alive a ha
        rw [q, hC] at e; cases e
      have aliveW : ∀ a ∈ envW env, ∃ o, s.heap.get? a = some o := by
        intro a ha
        rcases List.mem_cons.mp ha with rfl | ha
        · obtain ⟨m, ⟨o, _, _, e, _⟩, _⟩ := F.ns; exact ⟨o, e⟩
        · obtain ⟨c, hc, rfl⟩ := List.mem_map.mp ha
          obtain ⟨u, o, e, _⟩ := F.cells c hc; exact ⟨o, e⟩
      have O1 : ∀ a ∈ own, a ∉ envW (compEnvC scope (closGo env.cells scope.names []) H.objs.size env) := by
        intro a ha hw
        rcases List.mem_cons.mp hw with q | q
        · exact hCown a ha q
        · obtain ⟨c, hc, rfl⟩ := List.mem_map.mp q
          have hm := (CI.mem F2 (n := c.1) (c := c.2) hc).1
          obtain ⟨o, e⟩ := aliveW c.2 (List.mem_cons_of_mem _ (List.mem_map.mpr ⟨c, hm, rfl⟩))
          rw [hnew _ ha] at e; cases e
      have O2 : ∀ a ∈ own, B.s₀.heap.get? a = none := by
        intro a ha
        cases e : B.s₀.heap.get? a with
        | none => rfl
        | some o => have := G.keep a o e; rw [hnew a ha] at this; cases this
      have hCB : B.s₀.heap.get? H.objs.size = none := by
        cases e : B.s₀.heap.get? H.objs.size with
        | none => rfl
        | some o => have := G.keep _ o e; rw [hCs] at this; cases this
      have dead : ∀ {b o}, s.heap.get? b = some o → b ∉ own ∧ b ≠ H.objs.size := by
        intro b o e
        refine ⟨fun q => ?_, fun q => ?_⟩
        · rw [hnew b q] at e; cases e
        · rw [q, hCs] at e; cases e
      -- the loop
      have loop : codeAny (model B.prog B.w) A (.compLoop (.ListComp elt [⟨target, iter, ifs, 0⟩] scope pos) 0 (.ref I) (.ref s1.heap.objs.size) (compEnvC scope (closGo env.cells scope.names []) H.objs.size env))
          (compPost (model B.prog B.w) A E use Q (.ref s1.heap.objs.size) H.objs.size) { s1 with heap := h3, toks := s1.toks + ([] : List (Str × Value)).length } := by
        refine comp_loop (CompI B Γ' (compEnvC scope (closGo env.cells scope.names []) H.objs.size env) t mc me hp1.length s1.heap.objs.size H.objs.size I own ρ s.heap hp') ?_ n
          ⟨it, compLoc k ci loc, _, _, x1.trans (x2.trans x3), G3, F3, R3, hout3, hD, hCρ3, h2⟩
        rintro n s4 ⟨it4, loc4, hp4, ρ4, x4, G4, F4, R4, hout4, hD4, hC4, hgo⟩ E'
        have O : OwnOk B ρ4 (compEnvC scope (closGo env.cells scope.names []) H.objs.size env) own := ⟨hout4, O1, O2⟩
        cases n with
        | zero => cases hgo
        | succ n =>
          unfold compGo at hgo
          split at hgo
          · cases hgo
          · rename_i hn
            cases hgo
            refine next_end hn G4 R4 hA fun s5 b5 => ?_
            have G5 := b5.good G4 O R4.noTup
            have F5 := b5.fr G4 F4 O R4.noTup
            have x5 : Ext ρ s.heap ρ4 s5.heap [] := ⟨x4.more, fun b o e h1 h2 => b5.keep b o (x4.keep b o e h1 h2) (dead e).1, fun b o e h2 => by
              obtain ⟨o', e'⟩ := x4.alive b o e h2
              exact ⟨o', b5.keep b o' e' (dead e).1⟩⟩
            obtain ⟨m, hm, _⟩ := F5.ns
            exact fin _ _ ρ4 s5 m x5 G5 (.ref _ _ hD4) hm hCs hCB hC4
          · rename_i y it5 hn
            split at hgo
            · cases hgo
            · rename_i hfit
              split at hgo
              · cases hgo
              · rename_i loc5 hset
                refine draw (d := d) hn hset hfit T G4 F4 R4 O hA fun s5 Dn => ?_
                have x5 : Ext ρ s.heap ρ4 s5.heap [] := ⟨x4.more, fun b o e h1 h2 => Dn.keep b o (x4.keep b o e h1 h2) (x4.notin e h1) (dead e).1 (fun q => (dead e).2 (CI.wr ht q)), fun b o e h2 => by
                  obtain ⟨o', e'⟩ := x4.alive b o e h2
                  by_cases hb : b ∈ ρ4
                  · exact Dn.good.alive hb
                  · exact ⟨o', Dn.keep b o' e' hb (dead e).1 (fun q => (dead e).2 (CI.wr ht q))⟩⟩
                have next : ∀ {hp6 : List MO} {ρ6 : List Addr} {s6 : Shared} {loc6 : Loc}, Ext ρ4 s5.heap ρ6 s6.heap [] → Good B ρ6 hp6 s6 → FrR B Γ' (compEnvC scope (closGo env.cells scope.names []) H.objs.size env) loc6 ρ6 s6.heap →
                    compGo t mc me hp1.length n it5 loc6 hp6 = some hp' → ∃ m, m < n + 1 ∧ CompI B Γ' (compEnvC scope (closGo env.cells scope.names []) H.objs.size env) t mc me hp1.length s1.heap.objs.size H.objs.size I own ρ s.heap hp' m s6 := by
                  intro hp6 ρ6 s6 loc6 x6 G6 F6 hgo
                  refine ⟨n, Nat.lt_succ_self _, it5, loc6, hp6, ρ6, x5.trans x6, G6, F6, Dn.itr.ext x6 .nil hout4 (fun _ _ q => nomatch q), fun a ha => ?_, x6.get hD4, F6.out _ (List.mem_cons_self ..), hgo⟩
                  obtain ⟨o, e⟩ := Dn.itr.alive a ha
                  exact x6.notin e (hout4 a ha)
                split at hgo
                · cases hgo
                · rename_i hp6 hc
                  refine Sc _ loc5 hp4 false hp6 ρ4 s5 hc Dn.good Dn.fr A _ _ hA fun ρ6 s6 x6 G6 => ?_
                  simp only [Bool.false_eq_true, if_false]
                  exact next x6 G6 (Dn.fr.ext Dn.good x6) hgo
                · rename_i hp6 hc
                  refine Sc _ loc5 hp4 true hp6 ρ4 s5 hc Dn.good Dn.fr A _ _ hA fun ρ6 s6 x6 G6 => ?_
                  simp only [if_true]
                  have F6 := Dn.fr.ext Dn.good x6
                  split at hgo
                  · cases hgo
                  · rename_i w hp7 he
                    refine Se.run he G6 F6 hA fun u ρ7 s7 x7 G7 F7 r7 => ?_
                    split at hgo
                    · cases hgo
                    · rename_i w2 hp8 happ
                      refine call_append (d := d) [.ref hp1.length, w] hp7 w2 hp8 ρ7 s7 [.ref s1.heap.objs.size, u] happ G7 (.cons (.ref _ _ (x7.get (x6.get hD4))) (.cons r7 .nil)) A _ _ hA fun u8 ρ8 s8 x8 G8 r8 => ?_
                      exact next (x6.trans (x7.trans x8)) G8 (F7.ext G7 x8) hgo
      exact codeAny_compStart_list loop (R3.self (s := { s1 with heap := h3, toks := s1.toks + ([] : List (Str × Value)).length }) loop)
theorem snd_comp {n : Nat} {t : Tgt} {elt target iter : PySem.Expr} {ifs : List PySem.Expr} {pos : Pos} {mi : MI} {mc : MT} {me : ME}
    (CI : CompIs Γ Γ' scope k ci) (T : TgtIs Γ' t target) (ht : tgtOwn t k = true) (Si : SndI B d Γ iter mi) (Sc : SndC B d Γ' ifs mc) (Se : SndE B d Γ' elt me)
    (hfold : ∀ env x, foldedSetIterable iter env x = pure x := by intro _ _; rfl) : SndE B d Γ (.ListComp elt [⟨target, iter, ifs, 0⟩] scope pos) (mComp n t mi mc me k ci) := by
  intro env loc hp v hp' ρ s hm G F A Q E hA kk
  rw [eval_ListComp]
  refine comp_core CI T ht Si Sc Se hm G F hA (hfold env) fun D C ρ' s' m x' G' r' hn hC hCB hCρ => ?_
  refine ⟨m, hn, fun h' hs => ?_⟩
  have nt : NoTup s'.heap [C] := fun a ha its => by rw [List.mem_singleton.mp ha]; exact Ns.notTup hn
  obtain ⟨G'', x''⟩ := G'.touch (h' := h') (tk := s'.toks) (W := [C]) (fun b o e hb => (hs.2 b (fun q => hb (by rw [q]; exact List.mem_cons_self ..))).trans e)
    (fun a ha => by rw [List.mem_singleton.mp ha]; exact hCρ) (fun a ha => by rw [List.mem_singleton.mp ha]; exact hCB) nt
  refine kk _ ρ' _ ⟨x'.more, fun b o e h1 h2 => x''.keep b o (x'.keep b o e h1 h2) (x'.notin e h1) (fun q => ?_), fun b o e h2 => ?_⟩ G'' (G'.vr x'' nt r')
  · rw [List.mem_singleton.mp q, hC] at e; cases e
  · obtain ⟨o', e'⟩ := x'.alive b o e h2
    exact x''.alive b o' e' fun q => by rw [List.mem_singleton.mp q, hC] at e; cases e
theorem snd_setcomp {n i : Nat} {t : Tgt} {x : Str} {p : Pos} {elt target iter : PySem.Expr} {ifs : List PySem.Expr} {pos spos : Pos} {mi : MI} {mc : MT} {me : ME}
    (CI : CompIs Γ Γ' scope k ci) (T : TgtIs Γ' t target) (ht : tgtOwn t k = true) (Si : SndI B d Γ iter mi) (Sc : SndC B d Γ' ifs mc) (Se : SndE B d Γ' elt me)
    (hi : Γ.tbl[i]? = some x) (hl : Γ.sc.lookup x = some .local)
    (hsw : ∀ env : Env, env.scope.kind = .function → env.scope.names = Γ.sc → swapsWith (.ListComp elt [⟨target, iter, ifs, 0⟩] scope pos) (some (.Name x p)) spos.line env = pure true)
    (hfold : ∀ env x, foldedSetIterable iter env x = pure x := by intro _ _; rfl) : SndX B d Γ (.Assign [.Name x p] (.ListComp elt [⟨target, iter, ifs, 0⟩] scope pos) spos) (sSet i (mComp n t mi mc me k ci)) := by
  intro env loc hp fl loc' hp' ρ s hm G F A Q E hA kk
  unfold sSet at hm
  split at hm
  · cases hm
  · rename_i v hp1 h1
    cases hm
    rw [exec_Assign_Name_used _ _ _ _ (hsw env F.kind F.names)]
    refine wpAny_bind (wpAny_standAt (wpAny_bind ?_))
    show wpAny _ A (do let _ ← comprehension (.ListComp elt [⟨target, iter, ifs, 0⟩] scope pos) scope env _ (newList []) false (eval iter env) (some (assign (.Name x p) env))) _ _ s
    refine wpAny_bind (wpAny_mono (Q := fun _ s' => Q .next s') ?_ (fun _ s' hq => wpAny_pure (wpAny_pure hq)) fun _ _ e => e)
    refine comp_core (use := some (assign (.Name x p) env)) CI T ht Si Sc Se h1 G F hA (hfold env) fun D C ρ' s' m x' G' r' hn hC hCB hCρ => ?_
    have F' := F.ext G x'
    refine PySem.wpAny_assign_Name (store_ok hi (by rw [hl]; decide) G' F' r' fun s2 x2 G2 F2 => ?_)
    have hCL : C ≠ env.locals := fun q => by
      obtain ⟨m, ⟨o, _, _, e, _⟩, _⟩ := F.ns
      rw [← q, hC] at e; cases e
    have hn2 : s2.heap.Ns C m := hn.at fun o e => x2.keep C o e hCρ (fun q => by
      unfold wrX at q
      rw [if_pos hl] at q
      exact hCL (List.mem_singleton.mp q))
    refine ⟨m, hn2, fun h' hs => ?_⟩
    have nt : NoTup s2.heap [C] := fun a ha its => by rw [List.mem_singleton.mp ha]; exact Ns.notTup hn2
    have hCW : C ∉ envW env := fun q => by
      rcases List.mem_cons.mp q with q | q
      · exact hCL q
      · obtain ⟨c, hc, e⟩ := List.mem_map.mp q
        obtain ⟨u, o, e', _⟩ := F.cells c hc
        rw [e, hC] at e'; cases e'
    have b : Beside B ρ' [C] s2 { s2 with heap := h' } := Beside.ofSame (tk := s2.toks) s2 (List.mem_cons_self ..) hs
    have O : OwnOk B ρ' env [C] := ⟨fun a ha => by rw [List.mem_singleton.mp ha]; exact hCρ, fun a ha => by rw [List.mem_singleton.mp ha]; exact hCW, fun a ha => by rw [List.mem_singleton.mp ha]; exact hCB⟩
    have G3 := b.good G2 O nt
    have F3 := b.fr G2 F2 O nt
    refine kk .next ρ' _ ?_ G3 F3 .next
    have x3 : Ext ρ s.heap ρ' s2.heap (envW env) := x'.nil.trans x2.wr F'.out
    refine ⟨x3.more, fun b' o e h1 h2 => b.keep b' o (x3.keep b' o e h1 h2) (fun q => ?_), fun b' o e h2 => ?_⟩
    · rw [List.mem_singleton.mp q, hC] at e; cases e
    · obtain ⟨o', e'⟩ := x3.alive b' o e h2
      exact ⟨o', b.keep b' o' e' (fun q => by rw [List.mem_singleton.mp q, hC] at e; cases e)⟩
end
end Mine
end
section
open PySem PySem.W PyProof.Rows PySem.Spec PySem.Calls
set_option linter.unusedVariables false
namespace Mine
noncomputable def sExpr (m : ME) : MS := fun loc hp => match m loc hp with
  | none => none
  | some (_, hp1) => some (.next, loc, hp1)
noncomputable def sSet2 (i j : Nat) (m : ME) : MS := fun loc hp => match m loc hp with
  | some (.tup [a, b], hp1) => some (.next, (loc.set i (some a)).set j (some b), hp1)
  | _ => none
noncomputable def sSwap3 (i j l : Nat) (m : ME) : MS := fun loc hp => match m loc hp with
  | some (.tup [a, b, c], hp1) => some (.next, ((loc.set l (some c)).set j (some b)).set i (some a), hp1)
  | _ => none
section
variable {B : Base} {d : Nat} {Γ Γ' : Ctx} {env : Env} {loc : Loc} {hp hp' : List MO} {ρ : List Addr} {s : Shared} {A : Around} {E : Value → Shared → Prop}
theorem not_interactive {h : Heap} (F : FrR B Γ env loc ρ h) : interactive env = false := by
  unfold interactive
  rw [F.kind]; rfl
theorem snd_expr {e : PySem.Expr} {pos : Pos} {m : ME} (S : SndE B d Γ e m) (hs : ∀ env, swapsWith e none pos.line env = pure false := by intros; rfl) : SndX B d Γ (.Expr e pos) (sExpr m) := by
  intro env loc hp fl loc' hp' ρ s hm G F A Q E hA k
  unfold sExpr at hm
  split at hm
  · cases hm
  · rename_i v hp1 h1
    cases hm
    exact wpAny_Expr_any (S.run h1 G F hA fun u ρ1 s1 x1 G1 F1 r1 => k .next ρ1 s1 x1.nil G1 F1 .next) (not_interactive F) (hs env)
theorem snd_set2 {i j : Nat} {x y : Str} {p q tpos pos : Pos} {kk : Nat} {e : PySem.Expr} {m : ME} (S : SndE B d Γ e m) (hi : Γ.tbl[i]? = some x) (hj : Γ.tbl[j]? = some y)
    (hfi : Γ.sc.lookup x ≠ some .free := by decide) (hfj : Γ.sc.lookup y ≠ some .free := by decide)
    (hs : ∀ env, swapsWithSole [.Tuple [.Name x p, .Name y q] kk tpos] e pos.line env = pure false := by intros; rfl)
    (hw : ∀ env, swappedStores [.Tuple [.Name x p, .Name y q] kk tpos] e env = pure none := by intros; rfl) : SndX B d Γ (.Assign [.Tuple [.Name x p, .Name y q] kk tpos] e pos) (sSet2 i j m) := by
  intro env loc hp fl loc' hp' ρ s hm G F A Q E hA k
  unfold sSet2 at hm
  split at hm
  · rename_i a b hp1 h1
    cases hm
    refine Assign_Tuple (S.run h1 G F hA fun u ρ1 s1 x1 G1 F1 r1 => ?_) (hs env) (hw env)
    cases r1 using VR.case_tup with
    | tup vs T ht hv =>
      cases hv using VRL.case_cons with
      | cons ra hv => cases hv using VRL.case_cons with
        | cons rb hv =>
          cases hv
          rename_i ua ub
          refine wpAny_assign_Tuple hA.handled ht rfl rfl fun h' hx => ?_
          have hk : ∀ c o, s1.heap.get? c = some o → h'.get? c = some o := fun c o e => hx c o (Nat.ne_of_lt (Heap.lt_size e)) e
          have x0 : Ext ρ1 s1.heap ρ1 h' [] := .keeps hk
          have G0 := G1.keeps (tk := s1.toks) hk
          have F0 := F1.ext G1 x0
          show wpAny _ A (do holding [ub] (assign (.Name x p) env ua); do holding [] (assign (.Name y q) env ub); pure ()) _ _ _
          refine wpAny_bind (wpAny_holding (PySem.wpAny_assign_Name (store_ok hi hfi G0 F0 (G1.vr x0 .nil ra) fun s2 x2 G2 F2 => ?_)))
          refine wpAny_bind (wpAny_holding (PySem.wpAny_assign_Name (store_ok hj hfj G2 F2 (G0.vr x2.wr F0.noTup (G1.vr x0 .nil rb)) fun s3 x3 G3 F3 => wpAny_pure ?_)))
          exact k .next ρ1 s3 ((x1.trans x0).nil.trans (x2.wr.trans x3.wr F2.out) F2.out) G3 F3 .next
  · cases hm
theorem unp {t : Addr} {items : Array Value} {n : Nat} {Q : List Value → Shared → Prop} (hh : A.handled = none) (ht : IsTup s.heap t items) (hn : n = items.size)
    (hQ : ∀ h', Heap.ExtBut s.heap.objs.size s.heap h' → Q items.toList { s with heap := h' }) : wpAny (model B.prog B.w) A (unpackItems (.ref t) n none) Q E s := by
  subst hn
  exact unpackItems_tuple hh ht hQ
theorem bind3 {x y z : Str} {ua ub uc : Value} {K : Shared → Prop}
    (h : wpAny (model B.prog B.w) A (storeName env z uc) (fun _ s1 => wpAny (model B.prog B.w) A (storeName env y ub) (fun _ s2 => wpAny (model B.prog B.w) A (storeName env x ua) (fun _ s3 => K s3) E s2) E s1) E s) :
    wpAny (model B.prog B.w) A (assignInOrder ([z, y, x].map fun n => bindName env n) [uc, ub, ua]) (fun _ s' => K s') E s := by
  show wpAny _ A (do holding [ub, ua] (bindName env z uc); do holding [ua] (bindName env y ub); do holding [] (bindName env x ua); pure ()) _ _ _
  refine wpAny_bind (wpAny_holding (wpAny_bindName (wpAny_mono h (fun _ s1 h1 => ?_) fun _ _ e => e)))
  refine wpAny_bind (wpAny_holding (wpAny_bindName (wpAny_mono h1 (fun _ s2 h2 => ?_) fun _ _ e => e)))
  exact wpAny_bind (wpAny_holding (wpAny_bindName (wpAny_mono h2 (fun _ s3 h3 => wpAny_pure h3) fun _ _ e => e)))
theorem snd_swap3 {i j l : Nat} {x y z : Str} {ts : List PySem.Expr} {tpos pos : Pos} {kk : Nat} {e : PySem.Expr} {m : ME} (S : SndE B d Γ e m) (hi : Γ.tbl[i]? = some x) (hj : Γ.tbl[j]? = some y) (hl : Γ.tbl[l]? = some z)
    (hs : ∀ env : Env, swapsWithSole [.Tuple ts kk tpos] e pos.line env = pure false)
    (hw : ∀ env : Env, env.scope.kind = .function → env.scope.names = Γ.sc → swappedStores [.Tuple ts kk tpos] e env = pure (some [x, y, z]))
    (hfi : Γ.sc.lookup x ≠ some .free := by decide) (hfj : Γ.sc.lookup y ≠ some .free := by decide) (hfl : Γ.sc.lookup z ≠ some .free := by decide) : SndX B d Γ (.Assign [.Tuple ts kk tpos] e pos) (sSwap3 i j l m) := by
  intro env loc hp fl loc' hp' ρ s hm G F A Q E hA k
  unfold sSwap3 at hm
  split at hm
  · rename_i a b c hp1 h1
    cases hm
    refine Assign_Tuple_swapped (S.run h1 G F hA fun u ρ1 s1 x1 G1 F1 r1 => ?_) (hs env) (hw env F.kind F.names)
    cases r1 using VR.case_tup with
    | tup vs T ht hv =>
      cases hv using VRL.case_cons with
      | cons ra hv => cases hv using VRL.case_cons with
        | cons rb hv => cases hv using VRL.case_cons with
          | cons rc hv =>
            cases hv
            rename_i ua ub uc
            have ht' : IsTup s1.heap T ⟨[ua, ub, uc]⟩ := ht
            refine unp (n := [x, y, z].length) hA.handled ht' rfl fun h' hx => ?_
            have hk : ∀ c o, s1.heap.get? c = some o → h'.get? c = some o := fun c o e => hx c o (Nat.ne_of_lt (Heap.lt_size e)) e
            have x0 : Ext ρ1 s1.heap ρ1 h' [] := .keeps hk
            have G0 := G1.keeps (tk := s1.toks) hk
            have F0 := F1.ext G1 x0
            have ra0 := G1.vr x0 .nil ra
            have rb0 := G1.vr x0 .nil rb
            have rc0 := G1.vr x0 .nil rc
            refine bind3 ?_
            refine store_ok hl hfl G0 F0 rc0 fun s2 x2 G2 F2 => ?_
            have ra2 := G0.vr x2.wr F0.noTup ra0
            have rb2 := G0.vr x2.wr F0.noTup rb0
            refine store_ok hj hfj G2 F2 rb2 fun s3 x3 G3 F3 => ?_
            have ra3 := G2.vr x3.wr F2.noTup ra2
            refine store_ok hi hfi G3 F3 ra3 fun s4 x4 G4 F4 => ?_
            have y1 : Ext ρ s.heap ρ1 h' (envW env) := (x1.trans x0).nil
            have y2 : Ext ρ1 h' ρ1 s4.heap (envW env) := x2.wr.trans (x3.wr.trans x4.wr F3.out) F3.out
            exact k .next ρ1 s4 (y1.trans y2 F3.out) G4 F4 .next
  · cases hm
/- what stands in the heap that the module has made -/
theorem Base.Ok.glob {x : Str} {v : Value} (O : B.Ok) (e : nsIn B.K mainGlobals x = some (some v)) : B.mg x = some v := mg_of O.k O.g e
theorem Base.Ok.noglob {x : Str} (O : B.Ok) (e : nsIn B.K mainGlobals x = some none) : B.mg x = none := mg_none_of O.k O.g e
theorem FunIs.ofK {a c : Addr} {o oc : Obj} {fd : FuncData} {body : List PySem.Stmt} {vs : Array Value} {t : Tok} (O : B.Ok) (hl : B.K.lookup a = some o) (hd : o.data = .func fd) (hb : fd.body = .stmts body)
    (hc : fd.code = .ref c) (hlc : B.K.lookup c = some oc) (hdc : oc.data = .fields vs) (hq : vs[1]? = some (.str fd.qualname t))
    (hclo : fd.closure = []) (hco : fd.scope.isCoroutine = false) (hgen : fd.scope.isGenerator = false) (hkind : fd.scope.kind = .function) (hg : fd.globals = mainGlobals) (hblt : fd.builtins = builtinsNs)
    (hsc : fd.scope.names = Γ.sc) (nofree : (Γ.sc.all fun p => p.2 != .free) = true) (keys : (Γ.sc.map (·.1)).Nodup) (tbl : (Γ.tbl.all fun x => Γ.sc.lookup x == some .local || Γ.sc.lookup x == some .cell) = true) (tnd : Γ.tbl.Nodup) : FunIs B a fd Γ body :=
  ⟨⟨o, O.k a o hl, hd⟩, ⟨c, oc, vs, t, hc, O.k c oc hlc, hdc, hq⟩, hb, hclo, hco, hgen, hkind, hg, hblt, hsc, nofree, keys, tbl, tnd⟩
end
end Mine
end
section
open PySem PySem.W PyProof.Rows PySem.Spec PySem.Calls
set_option linter.unusedVariables false
namespace Mine
theorem ns_some_of {K : Frag} {h : Heap} {N : Addr} {mg : Str → Option Value} {n : Str} {v : Value} (X : K.In h) (G : h.Ns N mg) (e : nsIn K N n = some (some v)) : mg n = some v := by
  obtain ⟨o, es, ep, ho, hd, _, hf⟩ := G
  unfold nsIn at e
  split at e
  · rename_i c d es' n' sl q
    have := X _ _ q
    rw [ho] at this
    cases this
    cases hd
    split at e
    · rename_i en he
      cases e
      rw [← hf]
      unfold nsFind findBy
      rw [← Array.find?_toList, he]
      rfl
    · split at e <;> cases e
  · cases e
inductive ClsAt (h : Heap) (C N : Addr) : Prop
  | mk (nm : Str) (q bs sn sub ab col dd k0 k1 k2 k3 k5 newId) (e : h.get? C = some (excClassObj nm q C N bs [.type "object"] true sn sub ab col dd k0 k1 k2 k3 k5 newId)) : ClsAt h C N
structure HCls (B : Base) (C N : Addr) (mN : Str → Option Value) : Prop where
  obj : ClsAt B.s₀.heap C N
  ns : B.s₀.heap.Ns N mN
  ga : mN "__getattribute__" = none
  gx : mN "__getattr__" = none
  sa : mN "__setattr__" = none
  hd : mN "_headers" = none
theorem HCls.ofK {B : Base} {C N : Addr} {nm q bs sn sub ab col dd k0 k1 k2 k3 k5 newId} (O : B.Ok) (hl : B.K.lookup C = some (excClassObj nm q C N bs [.type "object"] true sn sub ab col dd k0 k1 k2 k3 k5 newId))
    (hN : nsOkIn B.K N = true) (h1 : nsIn B.K N "__getattribute__" = some none) (h2 : nsIn B.K N "__getattr__" = some none) (h3 : nsIn B.K N "__setattr__" = some none) (h4 : nsIn B.K N "_headers" = some none) :
    HCls B C N (B.s₀.heap.nsMap N) :=
  ⟨⟨_, _, _, _, _, _, _, _, _, _, _, _, _, _, O.k _ _ hl⟩, .of_isNs (isNs_of_in O.k hN), nsMap_none_of_in O.k hN h1, nsMap_none_of_in O.k hN h2, nsMap_none_of_in O.k hN h3, nsMap_none_of_in O.k hN h4⟩
theorem HCls.meth {B : Base} {C N : Addr} {n : Str} {v : Value} (O : B.Ok) (hN : nsOkIn B.K N = true) (h : nsIn B.K N n = some (some v)) : B.s₀.heap.nsMap N n = some v :=
  ns_some_of O.k (.of_isNs (isNs_of_in O.k hN)) h
theorem lk_headers : typeLookup (.type "object") "_headers" = pure none := by rw [typeLookup_type, builtinLookup_eq_fast]; kernel_rfl
noncomputable def instAt (C : Addr) (hp : List MO) (i : Nat) : Option Nat := match hp[i]? with
  | some (.inst C' d) => if C' = C then some d else none
  | _ => none
noncomputable def ownAt (hp : List MO) (d : Nat) : Option (Option MV) := match hp[d]? with
  | some (.idict v) => some v
  | _ => none
noncomputable def instOf (C : Addr) (a : MV) (hp : List MO) : Option (Nat × Option MV) := match a with
  | .ref i => match instAt C hp i with
    | none => none
    | some d => match ownAt hp d with
      | none => none
      | some v => some (d, v)
  | _ => none
theorem instAt_is {C : Addr} {hp : List MO} {i d : Nat} (h : instAt C hp i = some d) : hp[i]? = some (.inst C d) := by
  unfold instAt at h
  split at h
  · rename_i C' d' e
    split at h
    · rename_i hC
      cases h; rw [e, hC]
    · cases h
  · cases h
theorem ownAt_is {hp : List MO} {d : Nat} {v : Option MV} (h : ownAt hp d = some v) : hp[d]? = some (.idict v) := by
  unfold ownAt at h
  split at h
  · rename_i v' e
    cases h; exact e
  · cases h
theorem instOf_is {C : Addr} {a : MV} {hp : List MO} {d : Nat} {v : Option MV} (h : instOf C a hp = some (d, v)) : ∃ i, a = .ref i ∧ hp[i]? = some (.inst C d) ∧ hp[d]? = some (.idict v) := by
  unfold instOf at h
  split at h
  · rename_i i
    split at h
    · cases h
    · rename_i d' h1
      split at h
      · cases h
      · rename_i v' h2
        cases h
        exact ⟨i, rfl, instAt_is h1, ownAt_is h2⟩
  · cases h
noncomputable def mAttr (C : Addr) (m : ME) : ME := fun loc hp => match m loc hp with
  | none => none
  | some (a, hp1) => match instOf C a hp1 with
    | some (_, some (.ref j)) => some (.ref j, hp1)
    | _ => none
noncomputable def sAttr (C : Addr) (mo : ME) (mv : ME) : MS := fun loc hp => match mv loc hp with
  | none => none
  | some (v, hp1) => match mo loc hp1 with
    | none => none
    | some (a, hp2) => match instOf C a hp2 with
      | some (d, none) => some (.next, loc, hp2.set d (.idict (some v)))
      | _ => none
section
variable {B : Base} {d : Nat} {Γ Γ' : Ctx} {env : Env} {loc : Loc} {hp hp' : List MO} {ρ : List Addr} {s : Shared} {A : Around} {E : Value → Shared → Prop} {C N : Addr} {mN : Str → Option Value}
theorem Good.idx (G : Good B ρ hp s) {i j : Nat} {a : Addr} (e : ρ[i]? = some a) (e' : ρ[j]? = some a) : i = j := by
  obtain ⟨h1, e1⟩ := List.getElem?_eq_some_iff.mp e
  obtain ⟨h2, e2⟩ := List.getElem?_eq_some_iff.mp e'
  have nd := List.pairwise_iff_getElem.mp G.nd
  rcases Nat.lt_trichotomy i j with q | q | q
  · exact absurd (e1.trans e2.symm) (nd i j h1 h2 q)
  · exact q
  · exact absurd (e2.trans e1.symm) (nd j i h2 h1 q)
inductive GInst (B : Base) (C : Addr) (ρ : List Addr) (hp : List MO) (s : Shared) (ua : Value) (dd : Nat) (v : Option MV) : Prop
  | mk (ix : Nat) (x dx : Addr) (mA : Str → Option Value) (e : ua = .ref x) (e1 : ρ[ix]? = some x) (e2 : hp[ix]? = some (MO.inst C dd)) (e3 : ρ[dd]? = some dx) (e4 : hp[dd]? = some (MO.idict v)) (i : InstIs s.heap x C dx) (n : x ≠ dx) (i2 : s.heap.Inst x C mA) (i3 : s.heap.Ns1 dx mA) (h : match v with | none => ∀ y, mA y = none | some w => ∃ u, VR s.heap ρ B.l₀ w u ∧ ∀ y, mA y = if y = Str.ofString "_headers" then some u else none) : GInst B C ρ hp s ua dd v
theorem Good.inst (G : Good B ρ hp s) {a : MV} {ua : Value} {dd : Nat} {v : Option MV} (h : instOf C a hp = some (dd, v)) (r : VR s.heap ρ B.l₀ a ua) :
    GInst B C ρ hp s ua dd v := by
  obtain ⟨i, rfl, hi, hd⟩ := instOf_is h
  cases r using VR.case_ref with
  | ref x ex =>
    have o1 := G.ok i _ x hi ex
    cases o1 with
    | inst _ _ _ dx ed hI =>
      have o2 := G.ok dd _ dx hd ed
      have hne : x ≠ dx := fun q => by
        subst q
        have := G.idx ex ed
        subst this
        rw [hi] at hd; cases hd
      obtain ⟨o, eo, hcls, hdict, hnc⟩ := id hI
      cases o2 with
      | idict0 _ m hns hm => exact ⟨i, x, dx, m, rfl, ex, hi, ed, hd, hI, hne, ⟨o, eo, hcls, hnc, .inr ⟨dx, hdict, Ne.symm hne, hns⟩⟩, hns, hm⟩
      | idict1 _ m w u hns hv hm => exact ⟨i, x, dx, m, rfl, ex, hi, ed, hd, hI, hne, ⟨o, eo, hcls, hnc, .inr ⟨dx, hdict, Ne.symm hne, hns⟩⟩, hns, u, hv, hm⟩
theorem HCls.now (H : HCls B C N mN) (G : Good B ρ hp s) : ClsAt s.heap C N ∧ s.heap.Ns N mN := by
  obtain ⟨nm, q, bs, sn, sub, ab, col, dd, k0, k1, k2, k3, k5, newId, e⟩ := H.obj
  exact ⟨⟨nm, q, bs, sn, sub, ab, col, dd, k0, k1, k2, k3, k5, newId, G.keep _ _ e⟩, H.ns.keeps G.keep⟩
theorem snd_attr {value : PySem.Expr} {attr : Str} {pos : Pos} {m : ME} (H : HCls B C N mN) (S : SndE B d Γ value m) (ha : attr = "_headers") (hbase : ∀ env, attributeBase value attr env (eval value env) = eval value env := by intros; rfl) :
    SndE B d Γ (.Attribute value attr pos) (mAttr C m) := by
  subst ha
  intro env loc hp v hp' ρ s hm G F A Q E hA k
  unfold mAttr at hm
  split at hm
  · cases hm
  · rename_i a hp1 h1
    split at hm
    · rename_i dd j hi
      cases hm
      rw [arm_eval_Attribute, hbase]
      refine wpAny_bind (S.run h1 G F hA fun ua ρ1 s1 x1 G1 F1 r1 => wpAny_bind (wpAny_standAt (wpAny_bind (wpAny_holding ?_))))
      obtain ⟨_, x, dx, mA, rfl, _, _, _, _, _, _, hI, _, u, hu, hmA⟩ := G1.inst hi r1
      obtain ⟨⟨nm, q, bs, sn, sub, ab, col, dd', k0, k1, k2, k3, k5, newId, hC⟩, hn⟩ := H.now G1
      cases hu using VR.case_ref with
      | ref au eu =>
        obtain ⟨h, g, dr, t, os⟩ := s1
        refine load_attr hC hn H.ga H.hd lk_headers hI (v := .ref au) (by rw [hmA, if_pos rfl]) rfl ?_
        refine wpAny_bind (wpAny_letTemporaryGo (wpAny_pure ?_))
        exact k (.ref au) ρ1 _ x1 (G1.tok (t + 1)) (.ref _ _ eu)
    · cases hm
theorem snd_sattr {o value : PySem.Expr} {attr : Str} {p pos : Pos} {mo mv : ME} (H : HCls B C N mN) (So : SndE B d Γ o mo) (Sv : SndE B d Γ value mv) (ha : attr = "_headers")
    (hs : ∀ env, swapsWith value (some (.Attribute o attr p)) pos.line env = pure false := by intros; rfl) : SndX B d Γ (.Assign [.Attribute o attr p] value pos) (sAttr C mo mv) := by
  subst ha
  intro env loc hp fl loc' hp' ρ s hm G F A Q E hA k
  unfold sAttr at hm
  split at hm
  · cases hm
  · rename_i v hp1 h1
    split at hm
    · cases hm
    · rename_i a hp2 h2
      split at hm
      · rename_i dd hi
        cases hm
        refine plainObj_wpAny_Assign_Attribute (Sv.run h1 G F hA fun uv ρ1 s1 x1 G1 F1 r1 => So.run h2 G1 F1 hA fun ua ρ2 s2 x2 G2 F2 r2 => ?_) (hs env)
        obtain ⟨ix, x, dx, mA, rfl, ex, hix, ed, hd, hII, hne, hI, hns, hmA⟩ := G2.inst hi r2
        obtain ⟨⟨nm, q, bs, sn, sub, ab, col, dd', k0, k1, k2, k3, k5, newId, hC⟩, hn⟩ := H.now G2
        have rv := G1.vr x2 .nil r1
        have hxC : x ≠ C := fun q => by
          obtain ⟨o, eo, _, _, hnc⟩ := hII
          subst q
          rw [hC] at eo; cases eo
          exact hnc _ rfl
        obtain ⟨h, g, dr, t, os⟩ := s2
        refine store_attr (ns := []) PySem.F.store_object hC hn H.sa H.hd lk_headers hxC hI (fun h' tk' hI' hk hsame => ?_) (fun y hy => absurd (hmA y) hy) (Nat.zero_le _)
        obtain ⟨o, eo, hcls, hdict, hnc⟩ := id hII
        obtain ⟨o1, eo1, hcls1, hdat1, _, hdict1⟩ := hsame o eo
        -- the own dict behind
        obtain ⟨o2, eo2, _, _, hdd⟩ := hI'
        have hns' : h'.Ns1 dx (fun y => if y = Str.ofString "_headers" then some uv else mA y) := by
          rw [eo1] at eo2; cases eo2
          rcases hdd with ⟨q, _⟩ | ⟨d2, q, _, hn2⟩
          · rw [hdict1 dx hdict] at q; cases q
          · rw [hdict1 dx hdict] at q; cases q; exact hn2
        have keepx : ∀ b ob, b ≠ x → b ≠ dx → h.get? b = some ob → h'.get? b = some ob := fun b ob hb hb2 e => hk b ob hb (fun o₀ dx' e1 e2 => by rw [eo] at e1; cases e1; rw [hdict] at e2; cases e2; exact hb2) e
        have hxρ : x ∈ ρ2 := List.mem_of_getElem? ex
        have hdρ : dx ∈ ρ2 := List.mem_of_getElem? ed
        have xx : Ext ρ2 h ρ2 h' [] := ⟨⟨[], by simp, fun _ q => nomatch q⟩, fun b ob e hb _ => keepx b ob (fun q => hb (q ▸ hxρ)) (fun q => hb (q ▸ hdρ)) e, fun b ob e _ => by
          by_cases q : b = x
          · subst q; exact ⟨o1, eo1⟩
          · by_cases q2 : b = dx
            · subst q2; obtain ⟨oo, _, _, e', _⟩ := hns'; exact ⟨oo, e'⟩
            · exact ⟨ob, keepx b ob q q2 e⟩⟩
        have rv' := G2.vr xx .nil rv
        have hor : OR h' ρ2 B.l₀ (.idict (some v)) dx := .idict1 dx _ v uv hns' rv' fun y => by
          show (if y = Str.ofString "_headers" then some uv else mA y) = _
          rw [hmA y]
        have G3 : Good B ρ2 (hp2.set dd (.idict (some v))) ⟨h', g, dr, tk', os⟩ := by
          refine ⟨?_, ?_, G2.fresh, G2.nd, by rw [List.length_set]; exact G2.len, ?_⟩
          · obtain ⟨h0, t0, e0⟩ := G2.same
            refine ⟨h', tk', ?_⟩
            cases e0; rfl
          · intro b ob e
            exact keepx b ob (fun q => by rw [q, G2.fresh x hxρ] at e; cases e) (fun q => by rw [q, G2.fresh dx hdρ] at e; cases e) (G2.keep b ob e)
          · intro j mo' b e1 e2
            by_cases hj : dd = j
            · subst hj
              rw [ed] at e2; cases e2
              rw [List.getElem?_set_self (by have := (List.getElem?_eq_some_iff.mp ed).1; rw [← G2.len]; exact this)] at e1
              cases e1; exact hor
            · rw [List.getElem?_set_ne hj] at e1
              have hbd : b ≠ dx := fun q => by
                subst q
                obtain ⟨h1, e1'⟩ := List.getElem?_eq_some_iff.mp ed
                obtain ⟨h2, e2'⟩ := List.getElem?_eq_some_iff.mp e2
                have nd := List.pairwise_iff_getElem.mp G2.nd
                rcases Nat.lt_or_gt_of_ne hj with q | q
                · exact nd dd j h1 h2 q (e1'.trans e2'.symm)
                · exact nd j dd h2 h1 q (e2'.trans e1'.symm)
              have ob := G2.ok j mo' b e1 e2
              by_cases hbx : b = x
              · subst hbx
                have := G2.idx ex e2
                subst this
                rw [hix] at e1; cases e1
                exact .inst C dd b dx ed ⟨o1, eo1, hcls1.trans hcls, hdict1 dx hdict, fun c => by rw [hdat1]; exact hnc c⟩
              · exact ob.ext xx G2.nt .nil fun ob' e' => keepx b ob' hbx hbd e'
        exact k .next ρ2 _ (x1.trans (x2.trans xx)).nil G3 (F2.ext G2 xx) .next
      · cases hm
end
end Mine
end
section
open PySem PySem.W PyProof.Rows PySem.Spec PySem.Calls
set_option linter.unusedVariables false
namespace Mine
abbrev plainMk (us : List Value) : Args := ⟨us, []⟩
abbrev kwMk (n : Str) (us : List Value) : Args := ⟨us.dropLast, [(n, us.getLastD .none)]⟩
noncomputable def CodeOk (B : Base) (d : Nat) (f : Value) (mk : List Value → Args) (g : GF) : Prop :=
  ∀ vs hp v hp' ρ s us, g vs hp = some (v, hp') → Good B ρ hp s → VRL s.heap ρ B.l₀ vs us → ∀ (A : Around) (R : Result → Shared → Prop), AOK d A →
    (∀ u ρ' s', Ext ρ s.heap ρ' s'.heap [] → Good B ρ' hp' s' → VR s'.heap ρ' B.l₀ v u → R (.ok (.ret u)) s') → codeAny (model B.prog B.w) A (.call f (mk us)) R s
theorem CodeOk.call {B : Base} {d : Nat} {f : Value} {g : GF} (K : CodeOk B d f plainMk g) : CallOk B d f g := by
  intro vs hp v hp' ρ s us hm G r A Q E hA k
  exact wpAny_call (K vs hp v hp' ρ s us hm G r A _ hA fun u ρ' s' x G' r' => k u ρ' s' x G' r')
abbrev XT := List MV → List MO → Option (List MV × List MO)
noncomputable def xPlain (n : Nat) : XT := fun vs hp => if vs.length = n then some (vs, hp) else none
noncomputable def xDflt (n : Nat) (ds : List MV) : XT := fun vs hp => if vs.length = n then some (vs ++ ds, hp) else none
noncomputable def funX (x : XT) (k : Nat) (m : MS) : GF := fun vs hp => match x vs hp with
  | none => none
  | some (vs1, hp1) => outOf (m (loc0 vs1 k) hp1)
section
variable {B : Base} {d : Nat} {Γ Γ' : Ctx} {env : Env} {loc : Loc} {hp hp' : List MO} {ρ : List Addr} {s : Shared} {A : Around} {E : Value → Shared → Prop} {C N : Addr} {mN : Str → Option Value}
noncomputable def BindOk (B : Base) (d : Nat) (fd : FuncData) (mk : List Value → Args) (names : List Str) (x : XT) : Prop :=
  ∀ vs hp vs1 hp1 ρ s us, x vs hp = some (vs1, hp1) → Good B ρ hp s → VRL s.heap ρ B.l₀ vs us → vs1.length = names.length ∧
    ∀ (A : Around) (Q : List (Str × Value) → Shared → Prop) (E : Value → Shared → Prop), AOK d A → (∀ us1 ρ1 s1, Ext ρ s.heap ρ1 s1.heap [] → Good B ρ1 hp1 s1 → VRL s1.heap ρ1 B.l₀ vs1 us1 → Q (names.zip us1) s1) → wpAny (model B.prog B.w) A (bindArgs fd (mk us)) Q E s
theorem code_fun {a : Addr} {fd : FuncData} {body : List PySem.Stmt} {m : MS} {n k : Nat} {mk : List Value → Args} {x : XT} (O : B.Ok) (Fn : FunIs B a fd Γ body) (S : SndS B d Γ body m) (hn : n ≤ Γ.tbl.length)
    (hb : BindOk B d fd mk (Γ.tbl.take n) x) : CodeOk B (d + 1) (.ref a) mk (funX x k m) := by
  intro vs hp v hp' ρ s us hm G r A R hA k'
  unfold funX at hm
  split at hm
  · cases hm
  · rename_i vs1 hp1 hx
    obtain ⟨hl, hbind⟩ := hb vs hp vs1 hp1 ρ s us hx G r
    refine run_fun (names := Γ.tbl.take n) O Fn S G hA ?_ hl hm hbind k'
    rw [List.length_take, Nat.min_eq_left hn]
theorem len1 {α : Type} {P : List α → Prop} (k : ∀ a, P [a]) : ∀ us : List α, us.length = 1 → P us := by
  intro us h
  rcases us with _ | ⟨a, _ | ⟨b, r⟩⟩
  · cases h
  · exact k a
  · cases h
theorem len2 {α : Type} {P : List α → Prop} (k : ∀ a b, P [a, b]) : ∀ us : List α, us.length = 2 → P us := by
  intro us h
  rcases us with _ | ⟨a, r⟩
  · cases h
  · exact len1 (P := fun r => P (a :: r)) (k a) r (Nat.succ.inj h)
theorem len3 {α : Type} {P : List α → Prop} (k : ∀ a b c, P [a, b, c]) : ∀ us : List α, us.length = 3 → P us := by
  intro us h
  rcases us with _ | ⟨a, r⟩
  · cases h
  · exact len2 (P := fun r => P (a :: r)) (k a) r (Nat.succ.inj h)
theorem bind_plain {fd : FuncData} {mk : List Value → Args} {names : List Str} {n : Nat} (hn : names.length = n) (h : ∀ us : List Value, us.length = n → bindArgs fd (mk us) = pure (names.zip us)) : BindOk B d fd mk names (xPlain n) := by
  intro vs hp vs1 hp1 ρ s us hx G r
  unfold xPlain at hx
  split at hx
  · rename_i hl
    cases hx
    refine ⟨hl.trans hn.symm, fun A Q E hA k => ?_⟩
    rw [h us (r.length.symm.trans hl)]
    exact wpAny_pure (k us ρ s .refl G r)
  · cases hx
theorem bind_dflt1 {fd : FuncData} {mk : List Value → Args} {names : List Str} {n : Nat} {t : Addr} {ot : Obj} {items : Array Value} {kk : Nat} {ds : List MV} {du : List Value} (O : B.Ok) (hn : names.length = n + ds.length)
    (hds : ∀ h ρ, VRL h ρ B.l₀ ds du) (hdef : fd.defaults = .ref t) (hl : B.K.lookup t = some ot) (hd : ot.data = .seq items kk)
    (h : ∀ us : List Value, us.length = n → ∀ (A : Around) (Q : List (Str × Value) → Shared → Prop) (E : Value → Shared → Prop) (s : Shared), s.heap.get? t = some ot → Q (names.zip (us ++ du)) s → wpAny (model B.prog B.w) A (bindArgs fd (mk us)) Q E s) :
    BindOk B d fd mk names (xDflt n ds) := by
  intro vs hp vs1 hp1 ρ s us hx G r
  unfold xDflt at hx
  split at hx
  · rename_i hlen
    cases hx
    have hu := r.length.symm.trans hlen
    refine ⟨by rw [List.length_append, hlen, hn], fun A Q E hA k => ?_⟩
    exact h us hu A Q E s (G.keep _ _ (O.k _ _ hl)) (k (us ++ du) ρ s .refl G (r.append (hds _ _)))
  · cases hx
noncomputable def gMake (C : Addr) (gi : GF) : GF := fun vs hp => match gi (.ref (hp.length + 1) :: vs) (hp ++ [.idict none, .inst C hp.length]) with
  | some (.none, hp') => some (.ref (hp.length + 1), hp')
  | _ => none
theorem call_make {f : Addr} {gi : GF} (O : B.Ok) (hm : makesIn B.K C = true) (hi : findIn B.K (.ref C) "__init__" = some (some (.ref f))) (hf : typeIn B.K (.ref f) = some (.type "function"))
    (Ki : CodeOk B d (.ref f) plainMk gi) : CallOk B (d + 1) (.ref C) (gMake C gi) := by
  intro vs hp v hp' ρ s us hmm G r A Q E hA k
  unfold gMake at hmm
  split at hmm
  · rename_i hp2 h1
    cases hmm
    have X : B.K.In s.heap := Frag.In.keeps O.k G.keep
    refine wpAny_call ?_
    obtain ⟨h, g, dr, t, os⟩ := s
    refine make_core (makes_of X hm) (looks_findIn X hi) (fun self => bind_fn X self hf) (.inl rfl) ?_
    obtain ⟨G1, x1⟩ := G.alloc (o := emptyDict) (mo := .idict none) rfl (.idict0 _ (fun _ => none) (Heap.Ns1.of_empty (Heap.Ns.new h (.type "dict"))) fun _ => rfl)
    have hsz : (h.push emptyDict).objs.size = h.objs.size + 1 := Heap.size_push ..
    have hl1 : (hp ++ [MO.idict none]).length = hp.length + 1 := by simp
    obtain ⟨G2, x2⟩ := G1.alloc (o := instObj C h.objs.size) (mo := .inst C hp.length) rfl (.inst C hp.length _ h.objs.size (by
      rw [List.getElem?_append_left (by rw [List.length_append, G.len]; simp)]
      exact G.last _) ⟨_, Heap.get?_push_size _ rfl, rfl, rfl, fun c q => nomatch q⟩)
    have hlast := G1.last (h.push emptyDict).objs.size
    rw [hl1] at hlast
    have eHp : hp ++ [MO.idict none] ++ [MO.inst C hp.length] = hp ++ [MO.idict none, MO.inst C hp.length] := by simp
    rw [eHp] at G2
    have hx : (.ref (h.objs.size + 1) : Value) = .ref (h.push emptyDict).objs.size := by rw [hsz]
    rw [hx]
    have hrl : VRL ((h.push emptyDict).push (instObj C h.objs.size)) (ρ ++ [h.objs.size] ++ [(h.push emptyDict).objs.size]) B.l₀ (.ref (hp.length + 1) :: vs) (.ref (h.push emptyDict).objs.size :: us) :=
      .cons (.ref _ _ hlast) (G.vrl (x1.trans x2) .nil r)
    refine Ki _ _ .none hp' _ _ _ h1 G2 hrl _ _ ⟨hA.handled, ?_, ?_⟩ fun u ρ' s' x' G' r' => ?_
    · have := hA.depth
      show A.depth + 1 + d ≤ 900
      omega
    · have := hA.units
      show A.units + 1 + 20 * d ≤ 9000
      omega
    · cases r'
      refine ⟨rfl, ?_⟩
      rw [hsz] at x' hlast
      exact k _ ρ' s' (x1.trans (by rw [← hsz] at x'; exact x2.trans x')) G' (.ref _ _ (x'.get hlast))
  · cases hmm
end
end Mine
end
section
open PySem PySem.W PyProof.Rows PySem.Spec PySem.Calls
set_option linter.unusedVariables false
namespace Mine
structure OwnIs (B : Base) (C : Addr) (name : Str) (f : Addr) : Prop where
  find : ∃ N mN, HCls B C N mN ∧ mN name = some (.ref f)
  fn : ∃ o, B.s₀.heap.get? f = some o ∧ o.cls = .type "function"
  keep : keepIn B.K (.ref f) = true
  ne : name ≠ "_headers"
  top : ∃ y, typeLookup (.type "object") name = pure y
theorem OwnIs.ofK {B : Base} {C N : Addr} {name : Str} {f : Addr} {of : Obj} {y : Option Value} (O : B.Ok) (H : HCls B C N (B.s₀.heap.nsMap N)) (hN : nsOkIn B.K N = true) (h : nsIn B.K N name = some (some (.ref f)))
    (hl : B.K.lookup f = some of) (hc : of.cls = .type "function") (hk : keepIn B.K (.ref f) = true) (hne : name ≠ "_headers") (ht : typeLookup (.type "object") name = pure y) : OwnIs B C name f :=
  ⟨⟨N, _, H, HCls.meth (C := C) O hN h⟩, ⟨of, O.k _ _ hl, hc⟩, hk, hne, y, ht⟩
noncomputable def mOwn (C : Addr) (g : GF) (m : ME) (l : ML) : ME := fun loc hp => match m loc hp with
  | none => none
  | some (a, hp1) => match instOf C a hp1 with
    | none => none
    | some _ => match l loc hp1 with
      | none => none
      | some (vs, hp2) => g (a :: vs) hp2
noncomputable def mOwnK (C : Addr) (g : GF) (m : ME) (l : ML) (mk : ME) : ME := fun loc hp => match m loc hp with
  | none => none
  | some (a, hp1) => match instOf C a hp1 with
    | none => none
    | some _ => match l loc hp1 with
      | none => none
      | some (vs, hp2) => match mk loc hp2 with
        | none => none
        | some (w, hp3) => g (a :: (vs ++ [w])) hp3
section
variable {B : Base} {d : Nat} {Γ Γ' : Ctx} {env : Env} {loc : Loc} {hp hp' : List MO} {ρ : List Addr} {s : Shared} {A : Around} {E : Value → Shared → Prop} {C : Addr}
theorem get_own {name : Str} {f : Addr} {pl : Sem Bool} {a : MV} {ua : Value} {r : Nat × Option MV} {Q : Value × List Value → Shared → Prop} (W : OwnIs B C name f) (G : Good B ρ hp s) (hi : instOf C a hp = some r) (ra : VR s.heap ρ B.l₀ a ua)
    (k : Q (.ref f, [ua]) s) : wpAny (model B.prog B.w) A (getMethod ua name pl) Q E s := by
  obtain ⟨dd, v⟩ := r
  obtain ⟨N, mN, H, hf⟩ := W.find
  obtain ⟨o, ho, hc⟩ := W.fn
  obtain ⟨y, hy⟩ := W.top
  obtain ⟨ix, x, dx, mA, rfl, ex, hix, ed, hd, hII, hne, hI, hns, hmA⟩ := G.inst hi ra
  obtain ⟨⟨nm, q, bs, sn, sub, ab, col, dd', k0, k1, k2, k3, k5, newId, hC⟩, hn⟩ := H.now G
  have hsh : mA name = none := by
    cases v with
    | none => exact hmA name
    | some w =>
      obtain ⟨u, _, h⟩ := hmA
      rw [h, if_neg W.ne]
  have ho' := G.keep _ _ ho
  obtain ⟨h, g, dr, t, os⟩ := s
  exact method_of hC hn H.ga H.gx hf ho' hc hy hI hsh k
theorem evalArgs_anykw {M : Model} {f : Value} {L : List (Bool × Sem Value)} {n : Str} {x : Sem Value} {Q : Args → Shared → Prop} (hpl : L.any (·.1) = false)
    (h : wpAny M A (spliced L) (fun vs s₁ => wpAny M A x (fun u s₂ => Q ⟨vs, [(n, u)]⟩ s₂) E s₁) E s) : wpAny M A (evalArgs f true L [(some n, x)]) Q E s := by
  have go : ∀ {s vs}, wpAny M A x (fun u s₂ => Q ⟨vs, [(n, u)]⟩ s₂) E s → wpAny M A (evalAll (([(some n, x)] : List (Option Str × Sem Value)).map (·.2))) (fun ks s₂ => Q ⟨vs, (([(some n, x)] : List (Option Str × Sem Value)).filterMap (·.1)).zip ks⟩ s₂) E s := fun h =>
    wpAny_evalAll_cons (wpAny_mono h (fun u s₂ h₂ => wpAny_evalAll_nil h₂) fun _ _ e => e)
  cases L with
  | nil =>
    unfold evalArgs
    show wpAny M A (spliced [] >>= _) Q E s
    refine wpAny_bind (wpAny_mono h (fun vs s₁ h₁ => ?_) fun _ _ x => x)
    refine wpAny_bind (wpAny_pure ?_)
    refine wpAny_holding ?_
    simp only [List.all_cons, List.all_nil, Option.isSome_some, Bool.and_self, if_true]
    refine wpAny_bind (wpAny_mono (go h₁) (fun ks s₂ h₂ => ?_) fun _ _ x => x)
    exact wpAny_bind (wpAny_pure (wpAny_pure h₂))
  | cons p rest =>
    obtain ⟨b, y⟩ := p
    cases b with
    | true => simp at hpl
    | false => exact evalArgs_kw rfl (wpAny_mono h (fun vs s₁ h₁ => go h₁) fun _ _ e => e)
theorem snd_own {o : PySem.Expr} {name : Str} {apos pos : Pos} {es : List PySem.Expr} {f : Addr} {g : GF} {m : ME} {l : ML} (O : B.Ok) (W : OwnIs B C name f) (K : CodeOk B d (.ref f) plainMk g) (So : SndE B d Γ o m) (Sl : SndL B d Γ es l)
    (hline : (apos.endLine == pos.line) = true := by rfl) (hbase : ∀ env, attributeBase o name env (eval o env) = eval o env := by intros; rfl)
    (hform : ∀ env : Env, methodCallForm (es.length + ([] : List Keyword).length) (backTo pos (starEach es env)) (backToKw pos (keywordEach [] env)) = true := by intro _; rfl) (hpl : plainArgs es := by intro _ _; rfl) :
    SndE B d Γ (.Call (.Attribute o name apos) es [] pos) (mOwn C g m l) := by
  intro env loc hp v hp' ρ s hm G F A Q E hA k
  unfold mOwn at hm
  split at hm
  · cases hm
  · rename_i a hp1 h1
    split at hm
    · cases hm
    · rename_i r hi
      split at hm
      · cases hm
      · rename_i vs hp2 h2
        rw [arm_eval_Call, hbase]
        refine wpAny_bind (So.run h1 G F hA fun ua ρ1 s1 x1 G1 F1 r1 => wpAny_bind (wpAny_standAt ?_))
        unfold methodCall
        rw [hform]
        have hpos : methodCallPos true o env apos pos = pure pos := by unfold methodCallPos; simp [hline]
        refine wpAny_bind (wpAny_holding (get_own W G1 hi r1 ?_))
        refine wpAny_bind (wpAny_of_eq hpos ?_)
        refine callWith_ok (.kept _ O W.keep) (hpl env pos) (Sl env loc _ vs hp2 ρ1 s1 pos h2 G1 F1 A _ _ hA fun us ρ2 s2 x2 G2 r2 => ⟨G2.keep, ?_⟩)
        exact wpAny_call (K (a :: vs) hp2 v hp' ρ2 s2 (ua :: us) hm G2 (.cons (G1.vr x2 .nil r1) r2) A _ hA fun u ρ3 s3 x3 G3 r3 => k u ρ3 s3 (x1.trans (x2.trans x3)) G3 r3)
theorem snd_ownk {o value : PySem.Expr} {name n : Str} {apos pos kp : Pos} {es : List PySem.Expr} {f : Addr} {g : GF} {m mk : ME} {l : ML} (O : B.Ok) (W : OwnIs B C name f) (K : CodeOk B d (.ref f) (kwMk n) g) (So : SndE B d Γ o m) (Sl : SndL B d Γ es l) (Sk : SndE B d Γ value mk)
    (hline : (apos.endLine == pos.line) = true := by rfl) (hbase : ∀ env, attributeBase o name env (eval o env) = eval o env := by intros; rfl)
    (hform : ∀ env : Env, methodCallForm (es.length + [(⟨some n, value, kp⟩ : Keyword)].length) (backTo pos (starEach es env)) (backToKw pos (keywordEach [⟨some n, value, kp⟩] env)) = true := by intro _; rfl) (hpl : plainArgs es := by intro _ _; rfl) :
    SndE B d Γ (.Call (.Attribute o name apos) es [⟨some n, value, kp⟩] pos) (mOwnK C g m l mk) := by
  intro env loc hp v hp' ρ s hm G F A Q E hA k
  unfold mOwnK at hm
  split at hm
  · cases hm
  · rename_i a hp1 h1
    split at hm
    · cases hm
    · rename_i r hi
      split at hm
      · cases hm
      · rename_i vs hp2 h2
        split at hm
        · cases hm
        · rename_i w hp3 h3
          rw [arm_eval_Call, hbase]
          refine wpAny_bind (So.run h1 G F hA fun ua ρ1 s1 x1 G1 F1 r1 => wpAny_bind (wpAny_standAt ?_))
          unfold methodCall
          rw [hform]
          have hpos : methodCallPos true o env apos pos = pure pos := by unfold methodCallPos; simp [hline]
          refine wpAny_bind (wpAny_holding (get_own W G1 hi r1 ?_))
          refine wpAny_bind (wpAny_of_eq hpos ?_)
          refine callWith_of (P := B.K.In) (by rw [hpl env pos]; rfl) (keeps_K W.keep) ?_
          refine evalArgs_anykw (hpl env pos) (Sl env loc _ vs hp2 ρ1 s1 pos h2 G1 F1 A _ _ hA fun us ρ2 s2 x2 G2 r2 => ?_)
          have F2 := F1.ext G1 x2
          refine wpAny_bind (Sk.run h3 G2 F2 hA fun uw ρ3 s3 x3 G3 F3 r3 => wpAny_bind (wpAny_standAt (wpAny_pure ⟨Frag.In.keeps O.k G3.keep, ?_⟩)))
          have rall : VRL s3.heap ρ3 B.l₀ (a :: (vs ++ [w])) (ua :: (us ++ [uw])) := .cons (G2.vr x3 .nil (G1.vr x2 .nil r1)) ((G2.vrl x3 .nil r2).append (.cons r3 .nil))
          have e : kwMk n (ua :: (us ++ [uw])) = ⟨[ua] ++ us, [(n, uw)]⟩ := by
            have e1 : ua :: (us ++ [uw]) = (ua :: us) ++ [uw] := rfl
            unfold kwMk
            rw [e1, List.dropLast_concat, List.getLastD_concat]
            rfl
          have := K (a :: (vs ++ [w])) hp3 v hp' ρ3 s3 (ua :: (us ++ [uw])) hm G3 rall A (fun r s' => match r with | .ok (.ret v) => Q v s' | .ok _ => False | .error e => E e s') hA fun u ρ4 s4 x4 G4 r4 => k u ρ4 s4 (x1.trans (x2.trans (x3.trans x4))) G4 r4
          rw [e] at this
          exact wpAny_call this
end
end Mine
end
section
open PySem PySem.W PyProof.Rows PySem.Spec PySem.Calls
set_option linter.unusedVariables false
set_option maxRecDepth 100000
namespace Mine
/- a pattern's search -/
theorem re_plain : PlainAttrs "re.Pattern" :=
  ⟨⟨"object.__getattribute__", by rw [typeLookup_type, builtinLookup_eq_fast]; kernel_rfl, by decide +kernel⟩, by rw [typeLookup_type, builtinLookup_eq_fast]; kernel_rfl⟩
theorem re_slot : Slot "re.Pattern" "search" "re.Pattern.search" :=
  .of (owner := "re.Pattern") (n := "search") (by rw [typeLookup_type, builtinLookup_eq_fast]; kernel_rfl) (by decide +kernel) (by decide +kernel) (by decide +kernel)
    (by first | exact .inl (by decide +kernel) | exact .inr (by decide +kernel)) (by rw [isSubtype_type]; kernel_rfl)
theorem re_type : typeOf (.builtin "re.Pattern.search") = pure (.type "method_descriptor") := by show builtinType _ = _; rw [builtinType_eq_fast]; kernel_rfl
theorem re_entry : entryFor table "re.Pattern.search" = some Builtin.«re.Pattern.search» := entryFor_of_tree (by kernel_rfl)
theorem re_args (a b : Value) : argsOk "re.Pattern.search" ⟨[a, b], []⟩ := by unfold argsOk; kernel_rfl
noncomputable def okChar (c : Nat) : Bool := (decide (65 ≤ c) && decide (c ≤ 80)) || (decide (97 ≤ c) && decide (c ≤ 112))
noncomputable def isNo (r : Except String (Bool × Sre.Seen)) : Bool := match r with
  | .ok (false, _) => true
  | _ => false
theorem isNo_is {r : Except String (Bool × Sre.Seen)} (h : isNo r = true) : ∃ seen', r = .ok (false, seen') := by
  unfold isNo at h
  split at h
  · exact ⟨_, rfl⟩
  · cases h
structure ReIs (B : Base) (a : Addr) : Prop where
  is : ∃ (o : Obj) (fs : Array Value) (c : Addr) (oc : Obj) (its : Array Value) (n : Nat), B.s₀.heap.get? a = some o ∧ o.cls = .type "re.Pattern" ∧ o.dict = none ∧ o.data = .fields fs ∧
    Builtin.Re.reRawNat (fs.getD 6 .none) = 0 ∧ Builtin.Re.reRawNat (fs.getD 2 .none) = 0 ∧ fs.getD 5 .none = .ref c ∧
    B.s₀.heap.get? c = some oc ∧ oc.data = .seq its n ∧
    (let code := (its.map Builtin.Re.reRawOf).map (·.toNat)
     (∀ m : Sre.M, m.code = code → m.hasFirstSet = true) ∧
     ∀ c, okChar c = true → ∀ seen, isNo (Sre.inSet code c code.size 5 true seen) = true)
theorem admitted_none (m : Sre.M) (h : ∀ c, okChar c = true → ∀ seen, ∃ seen', Sre.inSet m.code c m.code.size 5 true seen = .ok (false, seen')) (ht : ∀ i, i < m.lim → okChar (m.text.getD i 0) = true) :
    ∀ fuel s seen, ∃ seen', m.admitted fuel s seen = .ok (none, seen')
  | 0, s, seen => ⟨seen, rfl⟩
  | fuel + 1, s, seen => by
    unfold Sre.M.admitted
    by_cases hs : s ≥ m.lim
    · rw [if_pos hs]; exact ⟨seen, rfl⟩
    · rw [if_neg hs]
      obtain ⟨seen1, e⟩ := h _ (ht s (Nat.lt_of_not_le hs)) seen
      rw [e]
      exact admitted_none m h ht fuel (s + 1) seen1
theorem no_some {code text : Array Nat} (h : ∀ c, okChar c = true → ∀ seen, ∃ seen', Sre.inSet code c code.size 5 true seen = .ok (false, seen')) (ht : ∀ i, i < text.size → okChar (text.getD i 0) = true)
    {m : Sre.M} {fuel s : Nat} {seen : Sre.Seen} {r} (e : m.admitted fuel s seen = r) (h1 : m.code = code) (h2 : m.text = text) (h3 : m.lim = text.size) : ∃ seen', r = .ok (none, seen') := by
  subst h1 h2
  obtain ⟨seen', e'⟩ := admitted_none m h (fun i hi => ht i (by rw [← h3]; exact hi)) fuel s seen
  exact ⟨seen', by rw [← e, e']⟩
theorem search_fails {code text : Array Nat} (h1 : ∀ m : Sre.M, m.code = code → m.hasFirstSet = true)
    (h : ∀ c, okChar c = true → ∀ seen, ∃ seen', Sre.inSet code c code.size 5 true seen = .ok (false, seen')) (ht : ∀ i, i < text.size → okChar (text.getD i 0) = true) :
    (Sre.forSearch code text 0 0 text.size false).answer = some false ∧ (Sre.forSearch code text 0 0 text.size false).frames = [] ∧ (Sre.forSearch code text 0 0 text.size false).outcome = none := by
  unfold Sre.forSearch
  simp only []
  split
  · exact ⟨rfl, rfl, rfl⟩
  · unfold Sre.M.attemptFrom
    rw [h1 _ rfl]
    simp only [Bool.not_true, Bool.false_eq_true, if_false]
    split
    · rename_i s seen e
      obtain ⟨_, q⟩ := no_some h ht e rfl rfl rfl
      cases q
    · exact ⟨rfl, rfl, rfl⟩
    · rename_i why e
      obtain ⟨_, q⟩ := no_some h ht e rfl rfl rfl
      cases q
theorem step_fails {m : Sre.M} (h1 : m.answer = some false) (h2 : m.frames = []) (h3 : m.outcome = none) : (m.runFor 4).outcome = some .failed := by
  have e1 : m.step = { m with outcome := some .failed } := by
    unfold Sre.M.step
    rw [h3, h1, h2]; rfl
  unfold Sre.M.runFor
  rw [h3]
  simp only [Option.isSome_none, Bool.false_eq_true, if_false, e1]
  unfold Sre.M.runFor
  simp
section
variable {B : Base} {d : Nat} {Γ Γ' : Ctx} {env : Env} {loc : Loc} {hp hp' : List MO} {ρ : List Addr} {s : Shared} {A : Around} {E : Value → Shared → Prop}
theorem drive_fails {m : Sre.M} (h1 : m.answer = some false) (h2 : m.frames = []) (h3 : m.outcome = none) {Q : Option Sre.M → Shared → Prop} (k : Q none s) : wpAny (model B.prog B.w) A (Builtin.Re.reRunToEnd m) Q E s := by
  have hf := step_fails h1 h2 h3
  unfold Builtin.Re.reRunToEnd
  have e : Builtin.Re.reDrive (2 ^ 64) m = pure (m.runFor 4) := by
    show Builtin.Re.reDrive (18446744073709551615 + 1) m = _
    rw [Builtin.Re.reDrive]
    show (if (m.runFor 4).outcome.isSome then pure (m.runFor 4) else _) = _
    rw [hf]; rfl
  refine wpAny_bind (wpAny_of_eq e ?_)
  have loop : ∀ (l : List Nat) (Q : PUnit → Shared → Prop), Q ⟨⟩ s → wpAny (model B.prog B.w) A (forIn l PUnit.unit fun i _ => (do
      if (m.runFor 4).seen.has i then rule (Sre.names.getD i "")
      pure (ForInStep.yield PUnit.unit) : Sem (ForInStep PUnit))) Q E s := by
    intro l
    induction l with
    | nil => intro Q h; exact wpAny_pure h
    | cons i r ih =>
      intro Q h
      rw [List.forIn_cons]
      refine wpAny_bind ?_
      split
      · exact wpAny_bind (wpAny_rule (wpAny_pure (ih Q h)))
      · exact wpAny_pure (ih Q h)
  refine wpAny_bind (loop _ _ ?_)
  rw [hf]
  exact wpAny_pure k
noncomputable def gSearch (a : Addr) : GF := fun vs hp => match vs with
  | [.fix (.ref b), .str x] => if b = a ∧ x.all okChar = true ∧ x.length ≤ few then some (.none, hp) else none
  | _ => none
theorem call_search {a : Addr} (W : ReIs B a) : CallOk B d (.builtin "re.Pattern.search") (gSearch a) := by
  intro vs hp v hp' ρ s us hm G r A Q E hA k
  unfold gSearch at hm
  split at hm
  · rename_i b x
    split at hm
    · rename_i hf
      obtain ⟨hb, hf, hlen⟩ := hf
      subst hb
      cases hm
      obtain ⟨o, fs, c, oc, its, n, ho, hc, hdn, hd, h6, h2, h5, hoc, hdc, hfirst, hset'⟩ := W.is
      have hset := fun c hc seen => isNo_is (hset' c hc seen)
      have ho' := G.keep _ _ ho
      have hoc' := G.keep _ _ hoc
      cases r using VRL.case_cons with
      | cons ra r => cases r using VRL.case_cons with
        | cons rb r =>
          (first | cases r using VRL.case_nil | cases r using VR.case_int | cases r using VR.case_str | cases r using VR.case_bool | cases r using VR.case_none | cases r using VR.case_ref | cases r using VR.case_tup | cases r using VR.case_bytes | cases r using VR.case_fix | cases r using VR.case_script | cases r); (first | cases ra using VR.case_int | cases ra using VR.case_str | cases ra using VR.case_bool | cases ra using VR.case_none | cases ra using VR.case_ref | cases ra using VR.case_tup | cases ra using VR.case_bytes | cases ra using VR.case_fix | cases ra using VR.case_script | cases ra); cases rb using VR.case_str with
          | str t =>
            refine wpAny_call_entry re_slot ⟨o, ho', hc⟩ re_entry ?_ (re_args _ _)
            unfold Builtin.«re.Pattern.search» Builtin.Re.reTarget
            have en : Builtin.Re.reNamed "re.Pattern.search" "search" ["string", "pos", "endpos"] 1 [.str (mkS x) t] [] = pure [some (.str (mkS x) t), none, none] := by kernel_rfl
            refine wpAny_bind ?_
            show wpAny _ _ (Builtin.Re.reNamed "re.Pattern.search" "search" ["string", "pos", "endpos"] 1 [.str (mkS x) t] [] >>= _) _ _ _
            refine wpAny_bind (wpAny_of_eq en ?_)
            refine wpAny_bind (m := pure 0) (wpAny_pure ?_)
            refine wpAny_bind (m := pure (2 ^ 63 - 1)) (wpAny_pure ?_)
            refine wpAny_bind (m := fieldsOf (.ref b)) ?_
            unfold fieldsOf
            refine wpAny_bind (wpAny_load ho' ?_)
            rw [hd]
            refine wpAny_pure ?_
            refine wpAny_bind (m := Builtin.Re.reTextOf (.str (mkS x) t)) (wpAny_of_eq (a := ((mkS x).cps, 0)) rfl ?_)
            simp only [h6]
            refine wpAny_bind (m := Builtin.Re.reNoCollectionInside _ 0) (wpAny_of_eq (a := ()) rfl ?_)
            refine wpAny_bind (m := Builtin.Re.reRawItems _) ?_
            rw [h5]
            unfold Builtin.Re.reRawItems
            refine wpAny_bind (wpAny_seqItems hoc' hdc (wpAny_pure (wpAny_pure ?_)))
            have hsz : (mkS x).cps.size = x.length := rfl
            have e0 : min (0 : Int).toNat (mkS x).cps.size = 0 := by simp
            have e1 : min ((2 : Int) ^ 63 - 1).toNat (mkS x).cps.size = (mkS x).cps.size := by
              rw [hsz]
              have : ((2 : Int) ^ 63 - 1).toNat = 9223372036854775807 := by decide
              rw [this]
              have h3 : few < 9223372036854775807 := by decide
              omega
            simp only [h2, e0, e1, Option.getD_some]
            have ht : ∀ i, i < (mkS x).cps.size → okChar ((mkS x).cps.getD i 0) = true := by
              intro i hi
              have hi' : i < x.length := hi
              have : (mkS x).cps.getD i 0 = x[i] := by
                simp [mkS, hi']
              rw [this]
              exact List.all_eq_true.mp hf _ (List.getElem_mem hi')
            obtain ⟨q1, q2, q3⟩ := search_fails hfirst hset ht
            unfold Builtin.Re.reAnswer
            refine wpAny_bind (drive_fails q1 q2 q3 ?_)
            exact wpAny_pure ⟨_, rfl, k _ ρ _ .refl G .none⟩
    · cases hm
  · cases hm
end
end Mine
end
section
open PySem PySem.W PyProof.Rows PySem.Spec PySem.Calls
set_option linter.unusedVariables false
set_option maxRecDepth 100000
namespace Mine
/- a dict of names that the module has made -/
noncomputable def entOk : List DictEntry → List (Int × List Nat) → Bool
  | [], [] => true
  | e :: r, p :: q => (match e.key, e.val with
    | .int k _, .str y _ => k == p.1 && y == mkS p.2 && e.hash == hashInt k
    | _, _ => false) && entOk r q
  | _, _ => false
structure DictIs (B : Base) (a : Addr) (tbl : List (Int × List Nat)) : Prop where
  is : ∃ (es : Array DictEntry) (n : Nat), B.s₀.heap.get? a = some { cls := .type "dict", dict := none, data := .dict es n, slots := #[] } ∧ entOk es.toList tbl = true
  sys : (a == sysModules) = false
theorem entOk_keys {prog : Program} {w : World} : ∀ {es : List DictEntry} {tbl : List (Int × List Nat)}, entOk es tbl = true → ∀ e ∈ es, ∃ k, (intKind prog w).is k e.key = true ∧ e.hash = (intKind prog w).hash k
  | e :: r, p :: q, h, e', he => by
    unfold entOk at h
    rw [Bool.and_eq_true] at h
    rcases List.mem_cons.mp he with rfl | he
    · have h1 := h.1
      split at h1
      · rename_i k t y u hk hv
        simp only [Bool.and_eq_true, beq_iff_eq] at h1
        exact ⟨k, by rw [hk]; exact intKind_is _ _ _ _, h1.2⟩
      · cases h1
    · exact entOk_keys h.2 e' he
  | [], [], _, e', he => nomatch he
theorem entOk_find : ∀ {es : List DictEntry} {tbl : List (Int × List Nat)}, entOk es tbl = true → ∀ k : Int, match tbl.lookup k with
    | some x => ∃ t, (es.find? fun e => Value.isInt k e.key).map (·.val) = some (.str (mkS x) t)
    | none => (es.find? fun e => Value.isInt k e.key).map (·.val) = none
  | e :: r, p :: q, h, k => by
    unfold entOk at h
    rw [Bool.and_eq_true] at h
    have h1 := h.1
    have ih := entOk_find h.2 k
    obtain ⟨p1, p2⟩ := p
    split at h1
    · rename_i k' t y u hk hv
      simp only [Bool.and_eq_true, beq_iff_eq] at h1
      obtain ⟨⟨rfl, rfl⟩, _⟩ := h1
      by_cases hkk : k = k'
      · subst hkk
        have e1 : ((k, p2) :: q).lookup k = some p2 := by simp
        rw [show (((k, p2) :: q : List (Int × List Nat)).lookup k) = some p2 from e1]
        refine ⟨u, ?_⟩
        rw [List.find?_cons_of_pos (by rw [hk]; simp [Value.isInt])]
        rw [Option.map_some, hv]
      · have e1 : ((k', p2) :: q).lookup k = q.lookup k := by
          rw [List.lookup_cons]
          have : (k == k') = false := by simpa using hkk
          rw [this]
        rw [show (((k', p2) :: q : List (Int × List Nat)).lookup k) = q.lookup k from e1]
        rw [List.find?_cons_of_neg (by rw [hk]; simp [Value.isInt]; exact fun q => hkk q.symm)]
        exact ih
    · cases h1
  | [], [], _, k => by simp
noncomputable def gDget (a : Addr) (tbl : List (Int × List Nat)) : GF := fun vs hp => match vs with
  | [.fix (.ref b), .int k, dflt] => if b = a then (match tbl.lookup k with
    | some x => some (.str x, hp)
    | none => some (dflt, hp)) else none
  | _ => none
noncomputable def isFix (a : Addr) (v : MV) (_ : List MO) : Bool := match v with
  | .fix (.ref b) => decide (b = a)
  | _ => false
section
variable {B : Base} {d : Nat} {Γ Γ' : Ctx} {env : Env} {loc : Loc} {hp hp' : List MO} {ρ : List Addr} {s : Shared} {A : Around} {E : Value → Shared → Prop} {C : Addr}
theorem call_dget {a : Addr} {tbl : List (Int × List Nat)} (W : DictIs B a tbl) : CallOk B d (.builtin "dict.get") (gDget a tbl) := by
  intro vs hp v hp' ρ s us hm G r A Q E hA k
  unfold gDget at hm
  split at hm
  · rename_i b kk dflt
    split at hm
    · rename_i hb
      subst hb
      obtain ⟨⟨es, n, ho, hes⟩, hsys⟩ := W
      have ho' := G.keep _ _ ho
      cases r using VRL.case_cons with
      | cons ra r => cases r using VRL.case_cons with
        | cons rb r => cases r using VRL.case_cons with
          | cons rc r =>
            (first | cases r using VRL.case_nil | cases r using VR.case_int | cases r using VR.case_str | cases r using VR.case_bool | cases r using VR.case_none | cases r using VR.case_ref | cases r using VR.case_tup | cases r using VR.case_bytes | cases r using VR.case_fix | cases r using VR.case_script | cases r); (first | cases ra using VR.case_int | cases ra using VR.case_str | cases ra using VR.case_bool | cases ra using VR.case_none | cases ra using VR.case_ref | cases ra using VR.case_tup | cases ra using VR.case_bytes | cases ra using VR.case_fix | cases ra using VR.case_script | cases ra); cases rb using VR.case_int with
            | int t =>
              rename_i ud
              have hmap : s.heap.MapOf (intKind B.prog B.w) b (fun k => findBy (intKind B.prog B.w).is es k) := ⟨_, es, n, ho', ⟨rfl, rfl, rfl⟩, rfl, fun e he => entOk_keys hes e (by simpa using he), fun _ => rfl⟩
              refine call_meetsIn PySem.F.slot_dict_get hmap.typeIs PySem.F.entry_dict_get (PySem.F.args_dict_get_3 _ _ _) (meets_dict_get_default (intKind B.prog B.w) b (intKind_is _ _ kk t) hsys ud) ⟨_, hmap, ?_⟩
              have hf := entOk_find hes kk
              have hfind : findBy (intKind B.prog B.w).is es kk = (es.toList.find? fun e => Value.isInt kk e.key).map (·.val) := by
                unfold findBy
                rw [← Array.find?_toList]; rfl
              show Q _ _
              rw [hfind]
              split at hm
              · rename_i x hx
                cases hm
                rw [hx] at hf
                obtain ⟨t', e⟩ := hf
                rw [e]
                exact k _ ρ _ .refl (G.tok _) (.str _ _)
              · rename_i hx
                cases hm
                rw [hx] at hf
                rw [hf]
                exact k _ ρ _ .refl (G.tok _) rc
    · cases hm
  · cases hm
theorem isFix_dict {a : Addr} {tbl : List (Int × List Nat)} (W : DictIs B a tbl) {v : MV} {uv : Value} (h : isFix a v hp = true) (G : Good B ρ hp s) (r : VR s.heap ρ B.l₀ v uv) : s.TypeIs uv "dict" ∧ ∀ a', uv = .ref a' → ∃ ob, s.heap.get? a' = some ob ∧ ob.dict = none := by
  unfold isFix at h
  split at h
  · rename_i b
    have hb : b = a := by simpa using h
    subst hb
    (first | cases r using VRL.case_nil | cases r using VR.case_int | cases r using VR.case_str | cases r using VR.case_bool | cases r using VR.case_none | cases r using VR.case_ref | cases r using VR.case_tup | cases r using VR.case_bytes | cases r using VR.case_fix | cases r using VR.case_script | cases r)
    obtain ⟨⟨es, n, ho, _⟩, _⟩ := W
    have ho' := G.keep _ _ ho
    exact ⟨⟨_, ho', rfl⟩, fun a' q => by cases q; exact ⟨_, ho', rfl⟩⟩
  · cases h
theorem isFix_re {a : Addr} (W : ReIs B a) {v : MV} {uv : Value} (h : isFix a v hp = true) (G : Good B ρ hp s) (r : VR s.heap ρ B.l₀ v uv) : s.TypeIs uv "re.Pattern" ∧ ∀ a', uv = .ref a' → ∃ ob, s.heap.get? a' = some ob ∧ ob.dict = none := by
  unfold isFix at h
  split at h
  · rename_i b
    have hb : b = a := by simpa using h
    subst hb
    (first | cases r using VRL.case_nil | cases r using VR.case_int | cases r using VR.case_str | cases r using VR.case_bool | cases r using VR.case_none | cases r using VR.case_ref | cases r using VR.case_tup | cases r using VR.case_bytes | cases r using VR.case_fix | cases r using VR.case_script | cases r)
    obtain ⟨o, fs, c, oc, its, n, ho, hc, hdn, _⟩ := W.is
    have ho' := G.keep _ _ ho
    exact ⟨⟨_, ho', hc⟩, fun a' q => by cases q; exact ⟨_, ho', hdn⟩⟩
  · cases h
end
end Mine
end
section
open PySem PySem.W PyProof.Rows PySem.Spec PySem.Calls
set_option linter.unusedVariables false
set_option maxRecDepth 100000
namespace Mine
structure SpecIs (B : Base) (C : Addr) (name : Str) (f : Addr) : Prop where
  find : findIn B.K (.ref C) name = some (some (.ref f))
  fn : typeIn B.K (.ref f) = some (.type "function")
  noseq : noSeq B.K C = true
noncomputable def sSetOwn (C : Addr) (g : GF) (mo mi mv : ME) : MS := fun loc hp => match mv loc hp with
  | none => none
  | some (v, hp1) => match mo loc hp1 with
    | none => none
    | some (a, hp2) => match mi loc hp2 with
      | none => none
      | some (i, hp3) => match instOf C a hp3 with
        | none => none
        | some _ => match g [a, i, v] hp3 with
          | none => none
          | some (_, hp4) => some (.next, loc, hp4)
noncomputable def sDelOwn (C : Addr) (g : GF) (mo mi : ME) : MS := fun loc hp => match mo loc hp with
  | none => none
  | some (a, hp2) => match mi loc hp2 with
    | none => none
    | some (i, hp3) => match instOf C a hp3 with
      | none => none
      | some _ => match g [a, i] hp3 with
        | none => none
        | some (_, hp4) => some (.next, loc, hp4)
noncomputable def sSetList (mo mi mv : ME) : MS := fun loc hp => match mv loc hp with
  | none => none
  | some (v, hp1) => match mo loc hp1 with
    | some (.ref n, hp2) => match mi loc hp2 with
      | some (.int k, hp3) => match listOf hp3 n with
        | some xs => if 0 ≤ k ∧ k < xs.length ∧ xs.length ≤ few then some (.next, loc, hp3.set n (.list (xs.set k.toNat v))) else none
        | none => none
      | _ => none
    | _ => none
noncomputable def sSetAll (mo mv : ME) : MS := fun loc hp => match mv loc hp with
  | some (.ref j, hp1) => match mo loc hp1 with
    | some (.ref i, hp2) => match listOf hp2 j with
      | some ys => match listOf hp2 i with
        | some xs => if xs.length + ys.length ≤ few then some (.next, loc, hp2.set i (.list ys)) else none
        | none => none
      | none => none
    | _ => none
  | _ => none
section
variable {B : Base} {d : Nat} {Γ Γ' : Ctx} {env : Env} {loc : Loc} {hp hp' : List MO} {ρ : List Addr} {s : Shared} {A : Around} {E : Value → Shared → Prop} {C : Addr}
theorem Good.instAt (G : Good B ρ hp s) {a : MV} {ua : Value} {r : Nat × Option MV} (h : instOf C a hp = some r) (ra : VR s.heap ρ B.l₀ a ua) : ∃ x ox od, ua = .ref x ∧ PySem.W.InstAt s.heap x ox C (some od) := by
  obtain ⟨dd, v⟩ := r
  obtain ⟨ix, x, dx, mA, rfl, _, _, _, _, ⟨o, eo, hcls, hdict, hnc⟩, _, _, ⟨od, es, ep, eod, _⟩, _⟩ := G.inst h ra
  refine ⟨x, o, od, rfl, eo, hcls, ?_, ?_⟩
  · unfold notCls
    split
    · rename_i c hc
      exact absurd hc (hnc c)
    · rfl
  · rw [hdict]; exact eod
theorem set_own_item {name : Str} {f : Addr} {a : MV} {ua i v : Value} {r : Nat × Option MV} {Q : Unit → Shared → Prop} (O : B.Ok) (W : SpecIs B C "__setitem__" f) (G : Good B ρ hp s) (hi : instOf C a hp = some r) (ra : VR s.heap ρ B.l₀ a ua)
    (h : wpAny (model B.prog B.w) A (call (.ref f) [ua, i, v]) (fun _ => Q ()) E s) : wpAny (model B.prog B.w) A (setItem ua i v) Q E s := by
  have X : B.K.In s.heap := Frag.In.keeps O.k G.keep
  obtain ⟨x, ox, od, rfl, I⟩ := G.instAt hi ra
  unfold setItem sequenceKey
  refine wpAny_holding (wpAny_bind (wpAny_bind (I.type.here ?_)))
  refine wpAny_bind ((anyM_none X W.noseq).here ?_)
  rw [if_pos (show (!false) = true from rfl)]
  exact wpAny_pure (wpAny_bind (special_fn X I W.find W.fn (wpAny_mono h (fun _ _ z => wpAny_pure z) fun _ _ z => z)))
theorem del_own_item {name : Str} {f : Addr} {a : MV} {ua i : Value} {r : Nat × Option MV} {Q : Unit → Shared → Prop} (O : B.Ok) (W : SpecIs B C "__delitem__" f) (G : Good B ρ hp s) (hi : instOf C a hp = some r) (ra : VR s.heap ρ B.l₀ a ua)
    (h : wpAny (model B.prog B.w) A (call (.ref f) [ua, i]) (fun _ => Q ()) E s) : wpAny (model B.prog B.w) A (delItem ua i) Q E s := by
  have X : B.K.In s.heap := Frag.In.keeps O.k G.keep
  obtain ⟨x, ox, od, rfl, I⟩ := G.instAt hi ra
  unfold delItem sequenceKey
  refine wpAny_holding (wpAny_bind (wpAny_bind (I.type.here ?_)))
  refine wpAny_bind ((anyM_none X W.noseq).here ?_)
  rw [if_pos (show (!false) = true from rfl)]
  exact wpAny_pure (wpAny_bind (special_fn X I W.find W.fn (wpAny_mono h (fun _ _ z => wpAny_pure z) fun _ _ z => z)))
theorem snd_ssown {o i value : PySem.Expr} {p pos : Pos} {f : Addr} {g : GF} {mo mi mv : ME} (O : B.Ok) (W : SpecIs B C "__setitem__" f) (K : CallOk B d (.ref f) g) (So : SndE B d Γ o mo) (Si : SndE B d Γ i mi) (Sv : SndE B d Γ value mv)
    (hs : ∀ env, swapsWith value (some (.Subscript o i p)) pos.line env = pure false := by intros; rfl) : SndX B d Γ (.Assign [.Subscript o i p] value pos) (sSetOwn C g mo mi mv) := by
  intro env loc hp fl loc' hp' ρ s hm G F A Q E hA k
  unfold sSetOwn at hm
  split at hm
  · cases hm
  · rename_i v hp1 h1
    split at hm
    · cases hm
    · rename_i a hp2 h2
      split at hm
      · cases hm
      · rename_i ii hp3 h3
        split at hm
        · cases hm
        · rename_i r hi
          split at hm
          · cases hm
          · rename_i w hp4 h4
            cases hm
            refine wpAny_Assign_Subscript (Sv.run h1 G F hA fun uv ρ1 s1 x1 G1 F1 r1 => So.run h2 G1 F1 hA fun ua ρ2 s2 x2 G2 F2 r2 => Si.run h3 G2 F2 hA fun ui ρ3 s3 x3 G3 F3 r3 => ?_) (hs env)
            have ra := G2.vr x3 .nil r2
            have rv := G2.vr x3 .nil (G1.vr x2 .nil r1)
            refine set_own_item (name := "__setitem__") O W G3 hi ra ?_
            refine K _ hp3 w hp' ρ3 s3 _ h4 G3 (.cons ra (.cons r3 (.cons rv .nil))) A _ _ hA fun u ρ4 s4 x4 G4 r4 => ?_
            exact k .next ρ4 s4 (x1.trans (x2.trans (x3.trans x4))).nil G4 (F3.ext G3 x4) .next
theorem snd_delown {o i : PySem.Expr} {p pos : Pos} {f : Addr} {g : GF} {mo mi : ME} (O : B.Ok) (W : SpecIs B C "__delitem__" f) (K : CallOk B d (.ref f) g) (So : SndE B d Γ o mo) (Si : SndE B d Γ i mi) : SndX B d Γ (.Delete [.Subscript o i p] pos) (sDelOwn C g mo mi) := by
  intro env loc hp fl loc' hp' ρ s hm G F A Q E hA k
  unfold sDelOwn at hm
  split at hm
  · cases hm
  · rename_i a hp2 h2
    split at hm
    · cases hm
    · rename_i ii hp3 h3
      split at hm
      · cases hm
      · rename_i r hi
        split at hm
        · cases hm
        · rename_i w hp4 h4
          cases hm
          refine wpAny_Delete (wpAny_deleteEach_cons ?_)
          refine wpAny_delete_Subscript (So.run h2 G F hA fun ua ρ2 s2 x2 G2 F2 r2 => Si.run h3 G2 F2 hA fun ui ρ3 s3 x3 G3 F3 r3 => ?_)
          have ra := G2.vr x3 .nil r2
          refine del_own_item (name := "__delitem__") O W G3 hi ra ?_
          refine K _ hp3 w hp' ρ3 s3 _ h4 G3 (.cons ra (.cons r3 .nil)) A _ _ hA fun u ρ4 s4 x4 G4 r4 => ?_
          exact wpAny_deleteEach_nil (k .next ρ4 s4 (x2.trans (x3.trans x4)).nil G4 (F3.ext G3 x4) .next)
theorem VRL.set {h : Heap} {l₀ : Addr} {x : MV} {u : Value} (r : VR h ρ l₀ x u) : ∀ {xs vs}, VRL h ρ l₀ xs vs → ∀ j, VRL h ρ l₀ (xs.set j x) (vs.set j u)
  | _, _, .nil, _ => .nil
  | _, _, .cons a b, 0 => .cons r b
  | _, _, .cons a b, j + 1 => .cons a (b.set r j)
set_option maxHeartbeats 1000000 in
theorem set_list {l : Addr} {items : Array Value} {n : Nat} {k : Int} {t : Tok} {v : Value} {Q : Unit → Shared → Prop} (hl : IsL s.heap l items n) (h0 : 0 ≤ k) (hfit : k < 2 ^ 63) (hn : k < items.size)
    (hQ : Q () { s with heap := s.heap.update l (Obj.mapSeq fun x => x.setIfInBounds k.toNat v) }) : wpAny (model B.prog B.w) A (setItem (.ref l) (.int k t) v) Q E s := by
  have hL := hl.isList
  obtain ⟨o, ho, hc, ne, hd⟩ : ∃ o, s.heap.get? l = some o ∧ o.cls = .type "list" ∧ ∃ ne, o.data = .seq items ne := ⟨_, hl, rfl, n, rfl⟩
  unfold setItem
  try with_reducible refine wpAny_holding ?_
  first | refine wpAny_bind (wpAny_pure ?_) | skip
  refine wpAny_bind (wpAny_sequenceKey hL.typeIs (by decide) ?_)
  refine wpAny_bind (wpAny_callSpecial?_slot (name := Str.ofString "__setitem__") hL.typeIs slot_list_setitem
    (wpAny_call_entry slot_list_setitem hL.typeIs entry_list_setitem ?_ (args_list_setitem _ _ _)))
  show wpAny _ _ (Builtin.List.listSubscript? (.int k t) >>= _) _ _ s
  refine wpAny_bind (wpAny_listSubscript_int (fitsIndex_of h0 hfit) ?_)
  clear hfit
  obtain ⟨j, rfl⟩ := Int.eq_ofNat_of_zero_le h0
  have hj : j < items.size := by omega
  have hQ' : Q () { s with heap := s.heap.update l (Obj.mapSeq fun x => x.setIfInBounds j v) } := hQ
  have hx' : items[j]? = some items[j] := Array.getElem?_eq_getElem hj
  show wpAny _ _ ((seqItemAt l j >>= fun r => pure (r.map (j, ·))) >>= _) _ _ s
  refine wpAny_bind (wpAny_bind (wpAny_seqItemAt ho hd (wpAny_pure ?_)))
  rw [hx']
  show wpAny _ _ (setSeqItemAt l j v >>= _) _ _ s
  refine wpAny_bind (wpAny_setSeqItemAt ho hd ?_)
  first
    | exact wpAny_bind (wpAny_pure (wpAny_pure ⟨.none, rfl, wpAny_pure hQ'⟩))
    | exact wpAny_pure ⟨.none, rfl, wpAny_pure hQ'⟩
theorem snd_sslist {o i value : PySem.Expr} {p pos : Pos} {mo mi mv : ME} (So : SndE B d Γ o mo) (Si : SndE B d Γ i mi) (Sv : SndE B d Γ value mv)
    (hs : ∀ env, swapsWith value (some (.Subscript o i p)) pos.line env = pure false := by intros; rfl) : SndX B d Γ (.Assign [.Subscript o i p] value pos) (sSetList mo mi mv) := by
  intro env loc hp fl loc' hp' ρ s hm G F A Q E hA k
  unfold sSetList at hm
  split at hm
  · cases hm
  · rename_i v hp1 h1
    split at hm
    · rename_i n hp2 h2
      split at hm
      · rename_i kk hp3 h3
        split at hm
        · rename_i xs hx
          split at hm
          · rename_i hc
            cases hm
            refine wpAny_Assign_Subscript (Sv.run h1 G F hA fun uv ρ1 s1 x1 G1 F1 r1 => So.run h2 G1 F1 hA fun ua ρ2 s2 x2 G2 F2 r2 => Si.run h3 G2 F2 hA fun ui ρ3 s3 x3 G3 F3 r3 => ?_) (hs env)
            have ra := G2.vr x3 .nil r2
            have rv := G2.vr x3 .nil (G1.vr x2 .nil r1)
            (first | cases r3 using VRL.case_nil | cases r3 using VR.case_int | cases r3 using VR.case_str | cases r3 using VR.case_bool | cases r3 using VR.case_none | cases r3 using VR.case_ref | cases r3 using VR.case_tup | cases r3 using VR.case_bytes | cases r3 using VR.case_fix | cases r3 using VR.case_script | cases r3)
            cases ra using VR.case_ref with
            | ref a ea =>
              obtain ⟨vs, hl, hv⟩ := G3.listP hx ea
              obtain ⟨j, rfl⟩ := Int.eq_ofNat_of_zero_le hc.1
              obtain ⟨nn, e⟩ := id hl
              obtain ⟨G4, x4⟩ := G3.setList (xs := xs.set j v) (ws := vs.set j uv) (f := fun z => z.setIfInBounds j uv) ea hl (by
                apply Array.ext'
                simp) (hv.set rv j)
              have hfew : few < 2 ^ 63 := by decide
              refine set_list e (Int.natCast_nonneg j) (by omega) (by
                show (j : Int) < (vs.length : Nat)
                rw [← hv.length]; omega) ?_
              exact k .next ρ3 _ (x1.trans (x2.trans (x3.trans x4))).nil G4 (F3.ext G3 x4) .next
          · cases hm
        · cases hm
      · cases hm
    · cases hm
end
end Mine
end
section
open PySem PySem.W PyProof.Rows PySem.Spec PySem.Calls
set_option linter.unusedVariables false
set_option maxRecDepth 100000
namespace Mine
section
variable {B : Base} {d : Nat} {Γ Γ' : Ctx} {env : Env} {loc : Loc} {hp hp' : List MO} {ρ : List Addr} {s : Shared} {A : Around} {E : Value → Shared → Prop} {C : Addr}
theorem set_all {l l2 sl : Addr} {items items2 : Array Value} {n n2 : Nat} {Q : Unit → Shared → Prop} (hl : IsL s.heap l items n) (hl2 : IsL s.heap l2 items2 n2) (hs : s.heap.IsSliceOf sl .none .none .none) (hsz : items.size + items2.size ≤ sizeLine)
    (hQ : Q () { s with heap := s.heap.update l (Obj.mapSeq fun xs => xs.extract 0 0 ++ items2 ++ xs.extract items.size) }) : wpAny (model B.prog B.w) A (setItem (.ref l) (.ref sl) (.ref l2)) Q E s := by
  have hL := hl.isList
  obtain ⟨o, ho, hc, ne, hd⟩ : ∃ o, s.heap.get? l = some o ∧ o.cls = .type "list" ∧ ∃ ne, o.data = .seq items ne := ⟨_, hl, rfl, n, rfl⟩
  obtain ⟨o2, ho2, hc2, ne2, hd2⟩ : ∃ o, s.heap.get? l2 = some o ∧ o.cls = .type "list" ∧ ∃ ne, o.data = .seq items2 ne := ⟨_, hl2, rfl, n2, rfl⟩
  obtain ⟨os, hos, hcs, hds⟩ := id hs
  have hTs : s.TypeIs (.ref sl) "slice" := ⟨os, hos, hcs⟩
  have hT2 : s.TypeIs (.ref l2) "list" := ⟨o2, ho2, hc2⟩
  unfold setItem
  try with_reducible refine wpAny_holding ?_
  first | refine wpAny_bind (wpAny_pure ?_) | skip
  refine wpAny_bind (wpAny_sequenceKey hL.typeIs (by decide) ?_)
  refine wpAny_bind (wpAny_callSpecial?_slot (name := Str.ofString "__setitem__") hL.typeIs slot_list_setitem
    (wpAny_call_entry slot_list_setitem hL.typeIs entry_list_setitem ?_ (args_list_setitem _ _ _)))
  show wpAny _ _ (Builtin.List.listSubscript? (.ref sl) >>= _) _ _ s
  refine wpAny_bind ?_
  unfold Builtin.List.listSubscript?
  refine wpAny_bind (wpAny_specialOf hTs slice_no_index ?_)
  refine wpAny_of_eq (if_pos rfl) ?_
  show wpAny _ _ (typeOf (.ref sl) >>= _) _ _ s
  refine wpAny_bind (wpAny_typeOf hTs ?_)
  rw [if_neg (by decide)]
  rw [listSliceParts_eq]
  have hstep : ¬ ((rawPart none == rawInt 0) = true) := Bool.false_ne_true
  refine wpAny_bind (wpAny_bind (wpAny_field hos hds (x := .none) rfl (wpAny_bind (wpAny_listPart .none ?_))))
  rw [if_neg hstep]
  refine wpAny_bind (wpAny_field hos hds (x := .none) rfl (wpAny_bind (wpAny_listPart .none ?_)))
  refine wpAny_bind (wpAny_field hos hds (x := .none) rfl (wpAny_bind (wpAny_listPart .none (wpAny_pure ?_))))
  -- what is laid in
  have hz : Builtin.List.listTooLong (items.size + items2.size) = false := by
    simp [Builtin.List.listTooLong]; exact hsz
  have eid : ((max 0 (items.size : Int)).toNat) = items.size := by omega
  have fin : ∀ {F : Array Value → Sem PySem.Fin} {R : PySem.Fin → Shared → Prop} {E' : Value → Shared → Prop} {A' : Around}, wpAny (model B.prog B.w) A' (F items2) R E' s → wpAny (model B.prog B.w) A' (if Builtin.List.listSameRef (.ref l) (.ref l2) = true then Builtin.List.listItems (.ref l2) >>= F else Builtin.List.listAllItems (.ref l2) "must assign iterable to extended slice" >>= F) R E' s := by
    intro F R E' A' k
    by_cases hsame : Builtin.List.listSameRef (.ref l) (.ref l2) = true
    · rw [if_pos hsame]
      exact wpAny_bind (listItems_at ho2 hd2 k)
    · rw [if_neg hsame]
      refine wpAny_bind ?_
      unfold Builtin.List.listAllItems
      refine wpAny_bind (wpAny_typeOf hT2 ?_)
      rw [if_pos (by decide)]
      exact listItems_at ho2 hd2 k
  refine fin ?_
  refine wpAny_bind (listItems_at ho hd ?_)
  refine wpAny_bind (wpAny_of_eq (sliceIndices_raw none none none items.size (fun q => nomatch q)) ?_)
  have hb : sliceBounds none none none items.size = (0, (items.size : Int), 1) := rfl
  rw [hb]
  show wpAny _ _ (if ((1 : Int) == 1) = true then (rule "list.__setitem__.slice" >>= _) else _) _ _ s
  rw [if_pos (by rfl)]
  refine wpAny_bind (wpAny_rule ?_)
  show wpAny _ _ (if Builtin.List.listTooLong (items.size + items2.size) = true then _ else _) _ _ _
  rw [hz, if_neg Bool.false_ne_true]
  refine wpAny_bind (listUpdate_at ho hd ?_ (by omega) ?_)
  · refine wpAny_bind (wpAny_letGo ?_)
    refine wpAny_pure ⟨_, rfl, wpAny_pure ?_⟩
    have e0 : (0 : Int).toNat = 0 := rfl
    rw [e0, eid]
    exact hQ
  · simp only [Array.size_append, Array.size_extract]
    omega
theorem snd_ssall {o value : PySem.Expr} {sp p pos : Pos} {mo mv : ME} (So : SndE B d Γ o mo) (Sv : SndE B d Γ value mv)
    (hs : ∀ env, swapsWith value (some (.Subscript o (.Slice none none none sp) p)) pos.line env = pure false := by intros; rfl) : SndX B d Γ (.Assign [.Subscript o (.Slice none none none sp) p] value pos) (sSetAll mo mv) := by
  intro env loc hp fl loc' hp' ρ s hm G F A Q E hA k
  unfold sSetAll at hm
  split at hm
  · rename_i j hp1 h1
    split at hm
    · rename_i i hp2 h2
      split at hm
      · rename_i ys hy
        split at hm
        · rename_i xs hx
          split at hm
          · rename_i hf
            cases hm
            refine wpAny_Assign_Subscript (Sv.run h1 G F hA fun uv ρ1 s1 x1 G1 F1 r1 => So.run h2 G1 F1 hA fun ua ρ2 s2 x2 G2 F2 r2 => wpAny_Slice (wpAny_pure (wpAny_pure (wpAny_pure ?_)))) (hs env)
            have rv := G1.vr x2 .nil r1
            cases rv with
            | ref _ b eb => cases r2 using VR.case_ref with
              | ref a ea =>
                have x3 : Ext ρ2 s2.heap ρ2 (s2.heap.push { cls := .type "slice", data := .fields #[.none, .none, .none] }) [] := .keeps fun _ _ e => Heap.get?_push_of_some _ e
                have G3 := G2.push { cls := .type "slice", data := .fields #[.none, .none, .none] }
                obtain ⟨vs, hl, hv⟩ := G3.listP hx ea
                obtain ⟨ws, hl2, hw⟩ := G3.listP hy eb
                obtain ⟨n, e⟩ := id hl
                obtain ⟨n2, e2⟩ := id hl2
                obtain ⟨G4, x4⟩ := G3.setList (xs := ys) (ws := ws) (f := fun xs => xs.extract 0 0 ++ (⟨ws⟩ : Array Value) ++ xs.extract (⟨vs⟩ : Array Value).size) ea hl (by
                  apply Array.ext'
                  simp) hw
                have hlv := hv.length
                have hlw := hw.length
                have hfew := few_le
                refine set_all (s := { s2 with heap := s2.heap.push { cls := .type "slice", data := .fields #[.none, .none, .none] } }) e e2 (Heap.IsSliceOf.new _ _ _ _) (by
                  show vs.length + ws.length ≤ _
                  omega) ?_
                exact k .next ρ2 _ (x1.trans (x2.trans (x3.trans x4))).nil G4 ((F2.ext G2 x3).ext G3 x4) .next
          · cases hm
        · cases hm
      · cases hm
    · cases hm
  · cases hm
end
end Mine
end
section
open PySem PySem.W PyProof.Rows PySem.Spec PySem.Calls
set_option linter.unusedVariables false
set_option maxRecDepth 100000
namespace Mine
abbrev mInt (i : Int) : ME := fun _ hp => some (.int i, hp)
abbrev mBytes (x : List UInt8) : ME := fun _ hp => some (.bytes x, hp)
abbrev mStr (x : List Nat) : ME := fun _ hp => some (.str x, hp)
abbrev mNone : ME := fun _ hp => some (.none, hp)
abbrev mBool (b : Bool) : ME := fun _ hp => some (.bool b, hp)
abbrev mFix (v : Value) : ME := fun _ hp => some (.fix v, hp)
theorem CodeOk.le {B : Base} {d d' : Nat} {f : Value} {mk : List Value → Args} {g : GF} (K : CodeOk B d f mk g) (h : d ≤ d' := by decide) : CodeOk B d' f mk g :=
  fun vs hp v hp' ρ s us hm G r A R hA k => K vs hp v hp' ρ s us hm G r A R (hA.le h) k
theorem CallOk.le {B : Base} {d d' : Nat} {f : Value} {g : GF} (K : CallOk B d f g) (h : d ≤ d' := by decide) : CallOk B d' f g :=
  fun vs hp v hp' ρ s us hm G r A Q E hA k => K vs hp v hp' ρ s us hm G r A Q E (hA.le h) k
theorem swaps_true {elt : PySem.Expr} {gens : List Comprehension} {scope : Scope} {pos p : Pos} {x : Str} {l : Nat} {env : Env} {names : List (Str × NameKind)} (hk : env.scope.kind = .function) (hn : env.scope.names = names) (hx : names.lookup x = some .local)
    (hl : (p.line == pos.line) = true) (ha : (scope.names.any fun q => q.1 == x && (q.2 == .local || q.2 == .cell)) = false) : swapsWith (.ListComp elt gens scope pos) (some (.Name x p)) l env = pure true := by
  have e1 : env.blockKind = .function := by unfold Env.blockKind; rw [hk]; rfl
  have e2 : env.kindOf x = some .local := by unfold Env.kindOf; rw [hn]; exact hx
  show (pure (env.blockKind == .function && env.kindOf x == some .local && p.line == pos.line && !(scope.names.any fun q => q.1 == x && (q.2 == .local || q.2 == .cell))) : Sem Bool) = _
  rw [e1, e2, hl, ha]; rfl
theorem swaps_cell {elt : PySem.Expr} {gens : List Comprehension} {scope : Scope} {pos p : Pos} {x : Str} {l : Nat} {env : Env} {names : List (Str × NameKind)} (hn : env.scope.names = names) (hx : names.lookup x = some .cell) :
    swapsWith (.ListComp elt gens scope pos) (some (.Name x p)) l env = pure false := by
  have e2 : env.kindOf x = some .cell := by unfold Env.kindOf; rw [hn]; exact hx
  show (pure (env.blockKind == .function && env.kindOf x == some .local && p.line == pos.line && !(scope.names.any fun q => q.1 == x && (q.2 == .local || q.2 == .cell))) : Sem Bool) = _
  rw [e2]
  have : (some NameKind.cell == some NameKind.local) = false := by decide
  rw [this, Bool.and_false, Bool.false_and, Bool.false_and]
end Mine
end
section
open PySem PySem.W PyProof.Rows PySem.Spec PySem.Calls
set_option linter.unusedVariables false
set_option maxRecDepth 100000
namespace Mine
noncomputable def isPat2 (a b : Addr) (v : MV) (_ : List MO) : Bool := match v with
  | .fix (.ref c) => decide (c = a) || decide (c = b)
  | _ => false
noncomputable def gPat2 (a b : Addr) : GF := fun vs hp => match vs with
  | [.fix (.ref c), .str x] => if (c = a ∨ c = b) ∧ x.all okChar = true ∧ x.length ≤ few then some (.none, hp) else none
  | _ => none
section
variable {B : Base} {d : Nat} {hp hp' : List MO} {ρ : List Addr} {s : Shared}
theorem isPat_ok {a b : Addr} (Wa : ReIs B a) (Wb : ReIs B b) {v : MV} {hp : List MO} {ρ : List Addr} {s : Shared} {uv : Value} (h : isPat2 a b v hp = true) (G : Good B ρ hp s) (r : VR s.heap ρ B.l₀ v uv) : s.TypeIs uv "re.Pattern" ∧ ∀ a', uv = .ref a' → ∃ ob, s.heap.get? a' = some ob ∧ ob.dict = none := by
  unfold isPat2 at h
  split at h
  · rename_i c
    rcases Bool.or_eq_true_iff.mp h with q | q
    · exact isFix_re Wa (v := .fix (.ref c)) (hp := hp) q G r
    · exact isFix_re Wb (v := .fix (.ref c)) (hp := hp) q G r
  · cases h
theorem call_pat {a b : Addr} (Wa : ReIs B a) (Wb : ReIs B b) : CallOk B d (.builtin "re.Pattern.search") (gPat2 a b) := by
  intro vs hp v hp' ρ s us hm G r A Q E hA k
  unfold gPat2 at hm
  split at hm
  · rename_i c x
    split at hm
    · rename_i hf
      cases hm
      obtain ⟨hc, h1, h2⟩ := hf
      rcases hc with rfl | rfl
      · exact call_search (d := d) Wa [.fix (.ref c), .str x] hp .none hp ρ s us (by show (if c = c ∧ x.all okChar = true ∧ x.length ≤ few then some (MV.none, hp) else none) = _; rw [if_pos ⟨rfl, h1, h2⟩]) G r A Q E hA k
      · exact call_search (d := d) Wb [.fix (.ref c), .str x] hp .none hp ρ s us (by show (if c = c ∧ x.all okChar = true ∧ x.length ≤ few then some (MV.none, hp) else none) = _; rw [if_pos ⟨rfl, h1, h2⟩]) G r A Q E hA k
    · cases hm
  · cases hm
end
theorem okChar_cases {P : Nat → Prop} (h : ∀ i, i < 16 → P (65 + i) ∧ P (97 + i)) : ∀ c, okChar c = true → P c := by
  intro c hc
  simp only [okChar, Bool.or_eq_true, Bool.and_eq_true, decide_eq_true_eq] at hc
  rcases hc with ⟨h1, h2⟩ | ⟨h1, h2⟩
  · have := (h (c - 65) (by omega)).1
    rwa [show 65 + (c - 65) = c by omega] at this
  · have := (h (c - 97) (by omega)).2
    rwa [show 97 + (c - 97) = c by omega] at this
end Mine
end
section
open PySem PySem.W PyProof.Rows PySem.Spec PySem.Calls
set_option linter.unusedVariables false
set_option maxRecDepth 100000
namespace Mine
theorem fm3 {α β : Type} {f : α → Option β} {a b c : α} {x y z : β} (h1 : f a = some x) (h2 : f b = some y) (h3 : f c = some z) : [a, b, c].filterMap f = [x, y, z] := by
  rw [List.filterMap_cons_some h1, List.filterMap_cons_some h2, List.filterMap_cons_some h3, List.filterMap_nil]
theorem swaps3 {x y z : Str} {p q r tpos p2 : Pos} {kk k2 : Nat} {vs : List PySem.Expr} {env : Env} {names : List (Str × NameKind)} (hk : env.scope.kind = .function) (hn : env.scope.names = names) (hx : names.lookup x = some .local) (hy : names.lookup y = some .local) (hz : names.lookup z = some .local)
    (hv : vs.length = 3) (hs : (vs.any fun | .Starred .. => true | _ => false) = false) (l2 : (q.line == p.line) = true) (l3 : (r.line == p.line) = true) (hd : ([x, y, z] : List Str).eraseDups.length = 3) (h1 : vs.all (foldedForSure 8) = false) (h2 : vs.all (constantsAlone 8) = false) :
    swappedStores [.Tuple [.Name x p, .Name y q, .Name z r] kk tpos] (.Tuple vs k2 p2) env = pure (some [x, y, z]) := by
  have e1 : env.blockKind = .function := by unfold Env.blockKind; rw [hk]; rfl
  have kx : env.kindOf x = some .local := by unfold Env.kindOf; rw [hn]; exact hx
  have ky : env.kindOf y = some .local := by unfold Env.kindOf; rw [hn]; exact hy
  have kz : env.kindOf z = some .local := by unfold Env.kindOf; rw [hn]; exact hz
  have main : ∀ F : List Str, F = [x, y, z] → ((if (F.length != 0 + 1 + 1 + 1 || F.eraseDups.length != F.length) = true then pure none else if vs.all (foldedForSure 8) = true then pure none else if vs.all (constantsAlone 8) = true then unsupported "assign.tuple-of-constant-expressions:order-of-the-stores" else pure (some F)) : Sem (Option (List Str))) = pure (some [x, y, z]) := by
    intro F hF
    subst hF
    rw [if_neg (by rw [hd]; exact Bool.false_ne_true), h1, h2]
    rfl
  show (if (!(([PySem.Expr.Name x p, .Name y q, .Name z r].length == 2) || ([PySem.Expr.Name x p, .Name y q, .Name z r].length == 3)) || vs.length != [PySem.Expr.Name x p, .Name y q, .Name z r].length || env.blockKind != .function) = true then pure none else (if _ then pure none else _)) = _
  rw [hv, e1]
  rw [if_neg (by exact Bool.false_ne_true), if_neg (by intro w; exact absurd (w.symm.trans hs) (by decide))]
  refine main _ (fm3 ?_ ?_ ?_)
  · show (if (env.kindOf x == some NameKind.local && p.line == p.line) = true then some x else none) = _
    rw [kx, if_pos (by exact beq_self_eq_true p.line)]
  · show (if (env.kindOf y == some NameKind.local && q.line == p.line) = true then some y else none) = _
    rw [ky, if_pos (by exact l2)]
  · show (if (env.kindOf z == some NameKind.local && r.line == p.line) = true then some z else none) = _
    rw [kz, if_pos (by exact l3)]
end Mine
end
section
open PySem PySem.W PyProof.Rows PySem.Spec PySem.Calls
set_option linter.unusedVariables false
namespace Mine
mutual
noncomputable def noRef : MV → Bool
  | .ref _ => false
  | .tup _ => false
  | _ => true
noncomputable def noRefs : List MV → Bool
  | [] => true
  | x :: xs => noRef x && noRefs xs
end
mutual
theorem VR.noRef {h : Heap} {ρ ρ' : List Addr} {l₀ : Addr} : ∀ {x : MV} {u : Value}, VR h ρ l₀ x u → Mine.noRef x = true → VR h ρ' l₀ x u
  | _, _, .none, _ => .none
  | _, _, .bool b, _ => .bool b
  | _, _, .int i t, _ => .int i t
  | _, _, .str x t, _ => .str x t
  | _, _, .bytes x t, _ => .bytes x t
  | _, _, .ref n a _, e => by simp [Mine.noRef] at e
  | _, _, .tup xs vs a ht hv _, e => by simp [Mine.noRef] at e
  | _, _, .fix v, _ => .fix v
  | _, _, .script, _ => .script
theorem VRL.noRef {h : Heap} {ρ ρ' : List Addr} {l₀ : Addr} : ∀ {xs : List MV} {us : List Value}, VRL h ρ l₀ xs us → Mine.noRefs xs = true → VRL h ρ' l₀ xs us
  | _, _, .nil, _ => .nil
  | _, _, .cons r rs, e => by
    simp only [Mine.noRefs, Bool.and_eq_true] at e
    exact .cons (VR.noRef r e.1) (VRL.noRef rs e.2)
end
end Mine
end
section
open PySem PySem.W PyProof.Rows PySem.Spec PySem.Calls
set_option linter.unusedVariables false
set_option maxRecDepth 100000
namespace Mine
theorem CodeOk.alone {B : Base} {d : Nat} {f : Value} {mk : List Value → Args} {g g' : GF} (K : CodeOk B d f mk g)
    (h : ∀ vs hp v hp', g' vs hp = some (v, hp') → noRefs vs = true ∧ noRef v = true ∧ hp' = hp ∧ ∃ gar, g vs [] = some (v, gar)) : CodeOk B d f mk g' := by
  intro vs hp v hp' ρ s us e G r A R hA k
  obtain ⟨hn, hv, rfl, gar, e1⟩ := h vs hp v hp' e
  have G0 : Good B [] [] s := ⟨G.same, G.keep, (fun _ q => nomatch q), .nil, rfl, fun i mo a q => by simp at q⟩
  refine K vs [] v gar [] s us e1 G0 (VRL.noRef r hn) A R hA fun u ρ' s' x G' r' => ?_
  have hk : ∀ b o, s.heap.get? b = some o → s'.heap.get? b = some o := fun b o q => x.keep b o q (fun w => nomatch w) (fun w => nomatch w)
  have x0 : Ext ρ s.heap ρ s'.heap [] := .keeps hk
  have G1 : Good B ρ hp' s' := by
    obtain ⟨h', tk, e'⟩ := G'.same
    have := G.keeps (tk := s'.toks) hk
    obtain ⟨h2, tk2, e2⟩ := G.same
    exact ⟨G'.same, G'.keep, this.fresh, this.nd, this.len, this.ok⟩
  exact k u ρ s' x0 G1 (VR.noRef r' hv)
noncomputable def aloneF (g : GF) : GF := fun vs hp => match noRefs vs with
  | false => none
  | true => match g vs [] with
    | none => none
    | some (v, _) => match noRef v with
      | false => none
      | true => some (v, hp)
theorem CodeOk.aloneF {B : Base} {d : Nat} {f : Value} {mk : List Value → Args} {g : GF} (K : CodeOk B d f mk g) : CodeOk B d f mk (Mine.aloneF g) := by
  refine K.alone fun vs hp v hp' e => ?_
  unfold Mine.aloneF at e
  split at e
  · cases e
  · rename_i h1
    split at e
    · cases e
    · rename_i v0 gar h2
      split at e
      · cases e
      · rename_i h3
        cases e
        exact ⟨h1, h3, rfl, _, h2⟩
end Mine
end
section
open PySem PySem.W PyProof.Rows PySem.Spec PySem.Calls
set_option linter.unusedVariables false
set_option maxRecDepth 100000
namespace Mine
theorem sSeq_next {m1 m2 : MS} {loc l1 : Loc} {hp h1 : List MO} (h : m1 loc hp = some (.next, l1, h1)) : sSeq m1 m2 loc hp = m2 l1 h1 := by unfold sSeq; rw [h]
theorem sSeq_ret {m1 m2 : MS} {loc l1 : Loc} {hp h1 : List MO} {v : MV} (h : m1 loc hp = some (.ret v, l1, h1)) : sSeq m1 m2 loc hp = some (.ret v, l1, h1) := by unfold sSeq; rw [h]
theorem sSet_eq {i : Nat} {m : ME} {v : MV} {loc : Loc} {hp h1 : List MO} (h : m loc hp = some (v, h1)) : sSet i m loc hp = some (.next, loc.set i (some v), h1) := by unfold sSet; rw [h]
theorem sFor_ret {n : Nat} {t : Tgt} {mi : MI} {b o : MS} {it : It} {v : MV} {loc l1 : Loc} {hp h0 h1 : List MO} (h : mi loc hp = some (it, h0)) (h2 : forGo t b n it loc h0 = some (.ret v, l1, h1)) : sFor n t mi b o loc hp = some (.ret v, l1, h1) := by
  unfold sFor; rw [h]; simp only [h2]
theorem sFor_next {n : Nat} {t : Tgt} {mi : MI} {b o : MS} {it : It} {loc l1 : Loc} {hp h0 h1 : List MO} (h : mi loc hp = some (it, h0)) (h2 : forGo t b n it loc h0 = some (.next, l1, h1)) : sFor n t mi b o loc hp = o l1 h1 := by
  unfold sFor; rw [h]; simp only [h2]
theorem sIf_true {t : MT} {m1 m2 : MS} {loc : Loc} {hp h1 : List MO} (h : t loc hp = some (true, h1)) : sIf t m1 m2 loc hp = m1 loc h1 := by unfold sIf; rw [h]
theorem sIf_false {t : MT} {m1 m2 : MS} {loc : Loc} {hp h1 : List MO} (h : t loc hp = some (false, h1)) : sIf t m1 m2 loc hp = m2 loc h1 := by unfold sIf; rw [h]
noncomputable def eqNs : List Nat → List Nat → Bool
  | [], [] => true
  | a :: x, b :: y => Nat.beq a b && eqNs x y
  | _, _ => false
theorem eqNs_eq : ∀ {x y : List Nat}, eqNs x y = true → x = y
  | [], [], _ => rfl
  | a :: x, b :: y, h => by
    simp only [eqNs, Bool.and_eq_true] at h
    rw [Nat.eq_of_beq_eq_true h.1, eqNs_eq h.2]
  | [], _ :: _, h => by cases h
  | _ :: _, [], h => by cases h
noncomputable def up (a : Nat) : Bool := Nat.ble 65 a && Nat.ble a 80
theorem up_iff {a : Nat} : up a = true ↔ 65 ≤ a ∧ a ≤ 80 := by
  unfold up; rw [Bool.and_eq_true, Nat.ble_eq, Nat.ble_eq]
theorem up_lo {a : Nat} (h : up a = true) : lo1 a = a + 32 := by
  have := up_iff.mp h
  unfold lo1
  split
  · omega
  · omega
noncomputable def atN : List Nat → Nat → Nat
  | [], _ => 0
  | a :: _, 0 => a
  | _ :: l, n + 1 => atN l n
theorem sExpr_eq {m : ME} {v : MV} {loc : Loc} {hp h1 : List MO} (h : m loc hp = some (v, h1)) : sExpr m loc hp = some (.next, loc, h1) := by unfold sExpr; rw [h]
theorem lNil_eq {loc : Loc} {hp : List MO} : lNil loc hp = some ([], hp) := rfl
theorem lCons_eq {m : ME} {l : ML} {v : MV} {vs : List MV} {loc : Loc} {hp h1 h2 : List MO} (e : m loc hp = some (v, h1)) (e2 : l loc h1 = some (vs, h2)) : lCons m l loc hp = some (v :: vs, h2) := by unfold lCons; simp only [e, e2]
theorem mTup_eq {l : ML} {vs : List MV} {loc : Loc} {hp h1 : List MO} (e : l loc hp = some (vs, h1)) (hf : vs.length ≤ few) : mTup l loc hp = some (.tup vs, h1) := by unfold mTup; simp only [e]; rw [if_pos hf]
theorem mList_eq {l : ML} {vs : List MV} {loc : Loc} {hp h1 : List MO} (e : l loc hp = some (vs, h1)) (hf : vs.length ≤ few) : mList l loc hp = some (.ref h1.length, h1 ++ [.list vs]) := by unfold mList; simp only [e]; rw [if_pos hf]
theorem sRet_eq {m : ME} {v : MV} {loc : Loc} {hp h1 : List MO} (h : m loc hp = some (v, h1)) : sRet m loc hp = some (.ret v, loc, h1) := by unfold sRet; rw [h]
theorem mCall_eq {g : GF} {l : ML} {vs : List MV} {r : Option (MV × List MO)} {loc : Loc} {hp h1 : List MO} (e : l loc hp = some (vs, h1)) (e2 : g vs h1 = r) : mCall g l loc hp = r := by unfold mCall; simp only [e]; exact e2
theorem mBin_eq {op : Operator} {m1 m2 : ME} {a b : MV} {r : Option (MV × List MO)} {loc : Loc} {hp h1 h2 : List MO} (e1 : m1 loc hp = some (a, h1)) (e2 : m2 loc h1 = some (b, h2)) (e3 : binMV op a b h2 = r) : mBin op m1 m2 loc hp = r := by unfold mBin; simp only [e1, e2]; exact e3
theorem mCmp_eq {op : CmpOp} {m1 m2 : ME} {a b : MV} {r : Bool} {loc : Loc} {hp h1 h2 : List MO} (e1 : m1 loc hp = some (a, h1)) (e2 : m2 loc h1 = some (b, h2)) (e3 : cmpMV op a b h2 = some r) : mCmp op m1 m2 loc hp = some (.bool r, h2) := by unfold mCmp; simp only [e1, e2, e3]
theorem tCmp_eq {op : CmpOp} {m1 m2 : ME} {a b : MV} {r : Bool} {loc : Loc} {hp h1 h2 : List MO} (e1 : m1 loc hp = some (a, h1)) (e2 : m2 loc h1 = some (b, h2)) (e3 : cmpMV op a b h2 = some r) : tCmp op m1 m2 loc hp = some (r, h2) := by unfold tCmp; simp only [e1, e2, e3]
theorem mSub_eq {m1 m2 : ME} {a b v : MV} {loc : Loc} {hp h1 h2 : List MO} (e1 : m1 loc hp = some (a, h1)) (e2 : m2 loc h1 = some (b, h2)) (e3 : subMV a b h2 = some v) : mSub m1 m2 loc hp = some (v, h2) := by unfold mSub; simp only [e1, e2, e3]
theorem mMeth_eq {kind : MV → List MO → Bool} {g : GF} {m : ME} {l : ML} {a : MV} {vs : List MV} {r : Option (MV × List MO)} {loc : Loc} {hp h1 h2 : List MO} (e1 : m loc hp = some (a, h1)) (ek : kind a h1 = true) (e2 : l loc h1 = some (vs, h2)) (e3 : g (a :: vs) h2 = r) : mMeth kind g m l loc hp = r := by unfold mMeth; simp only [e1, ek, e2]; exact e3
theorem mOwn_eq {C : Addr} {g : GF} {m : ME} {l : ML} {a : MV} {q : Nat × Option MV} {vs : List MV} {r : Option (MV × List MO)} {loc : Loc} {hp h1 h2 : List MO} (e1 : m loc hp = some (a, h1)) (ek : instOf C a h1 = some q) (e2 : l loc h1 = some (vs, h2)) (e3 : g (a :: vs) h2 = r) : mOwn C g m l loc hp = r := by unfold mOwn; simp only [e1, ek, e2]; exact e3
theorem mOwnK_eq {C : Addr} {g : GF} {m mk : ME} {l : ML} {a w : MV} {q : Nat × Option MV} {vs : List MV} {r : Option (MV × List MO)} {loc : Loc} {hp h1 h2 h3 : List MO} (e1 : m loc hp = some (a, h1)) (ek : instOf C a h1 = some q) (e2 : l loc h1 = some (vs, h2)) (ew : mk loc h2 = some (w, h3)) (e3 : g (a :: (vs ++ [w])) h3 = r) : mOwnK C g m l mk loc hp = r := by unfold mOwnK; simp only [e1, ek, e2, ew]; exact e3
theorem listOf_end (hp : List MO) (xs : List MV) : listOf (hp ++ [.list xs]) hp.length = some xs := by
  unfold listOf; rw [List.getElem?_append_right (Nat.le_refl _)]; simp
theorem listOf_app {hp : List MO} {j : Nat} {xs : List MV} (h : listOf hp j = some xs) (q : List MO) : listOf (hp ++ q) j = some xs := by
  have : j < hp.length := by
    rcases Nat.lt_or_ge j hp.length with h1 | h1
    · exact h1
    · unfold listOf at h; rw [List.getElem?_eq_none h1] at h; cases h
  unfold listOf at h ⊢
  rw [List.getElem?_append_left this]; exact h
theorem gAppend_end (hp : List MO) (xs : List MV) (v : MV) (h : xs.length < few) : gAppend [.ref hp.length, v] (hp ++ [.list xs]) = some (.none, hp ++ [.list (xs ++ [v])]) := by
  show (match listOf (hp ++ [.list xs]) hp.length with | some xs => _ | none => none) = _
  rw [listOf_end]
  show (if xs.length < few then _ else none) = _
  rw [if_pos h]
  simp
theorem next_list {hp : List MO} {j m : Nat} {xs : List MV} (h : listOf hp j = some xs) (hm : m < xs.length) : It.next (.list j m) hp = some (some (xs[m], .list j (m + 1))) := by
  show (match listOf hp j with | none => none | some xs => match xs[m]? with | none => some none | some x => some (some (x, It.list j (m + 1)))) = _
  rw [h]; show (match xs[m]? with | none => _ | some x => _) = _
  rw [List.getElem?_eq_getElem hm]
theorem next_list_end {hp : List MO} {j m : Nat} {xs : List MV} (h : listOf hp j = some xs) (hm : xs.length ≤ m) : It.next (.list j m) hp = some none := by
  show (match listOf hp j with | none => none | some xs => match xs[m]? with | none => some none | some x => some (some (x, It.list j (m + 1)))) = _
  rw [h]; show (match xs[m]? with | none => _ | some x => _) = _
  rw [List.getElem?_eq_none hm]
structure Feeds (ok : List MO → Prop) (it : Nat → It) (xs : List MV) : Prop where
  item : ∀ hp, ok hp → ∀ m (h : m < xs.length), It.next (it m) hp = some (some (xs[m], it (m + 1)))
  stop : ∀ hp, ok hp → ∀ m, xs.length ≤ m → It.next (it m) hp = some none
theorem feeds_list {j : Nat} {xs : List MV} : Feeds (fun hp => listOf hp j = some xs) (fun m => .list j m) xs := ⟨fun hp h m hm => next_list h hm, fun hp h m hm => next_list_end h hm⟩
theorem feeds_rng {a : Int} {n : Nat} : Feeds (fun _ => True) (fun m => .rng (a + (m : Int)) (n - m)) ((List.range n).map fun (i : Nat) => MV.int (a + (i : Int))) := by
  refine ⟨fun hp _ m hm => ?_, fun hp _ m hm => ?_⟩
  · simp only [List.length_map, List.length_range] at hm
    obtain ⟨q, hq⟩ : ∃ q, n - m = q + 1 := ⟨n - m - 1, by omega⟩
    have : n - (m + 1) = q := by omega
    simp only [hq, this, List.getElem_map, List.getElem_range]
    show some (some (MV.int (a + (m : Int)), It.rng (a + (m : Int) + 1) q)) = _
    have : a + (m : Int) + 1 = a + ((m + 1 : Nat) : Int) := by push_cast; omega
    rw [this]
  · simp only [List.length_map, List.length_range] at hm
    have : n - m = 0 := by omega
    simp only [this]
    rfl
theorem feeds_enum {j : Nat} {xs : List MV} : Feeds (fun hp => listOf hp j = some xs) (fun m => .enum j m) (xs.mapIdx fun m x => MV.tup [.int (m : Int), x]) := by
  refine ⟨fun hp h m hm => ?_, fun hp h m hm => ?_⟩
  · simp only [List.length_mapIdx] at hm
    show (match listOf hp j with | none => none | some xs => match xs[m]? with | none => some none | some x => some (some (MV.tup [.int (m : Int), x], It.enum j (m + 1)))) = _
    rw [h]; show (match xs[m]? with | none => _ | some x => _) = _
    rw [List.getElem?_eq_getElem hm]; simp
  · simp only [List.length_mapIdx] at hm
    show (match listOf hp j with | none => none | some xs => match xs[m]? with | none => some none | some x => some (some (MV.tup [.int (m : Int), x], It.enum j (m + 1)))) = _
    rw [h]; show (match xs[m]? with | none => _ | some x => _) = _
    rw [List.getElem?_eq_none hm]
theorem sliceRange_up {a b : Nat} : sliceRange (a : Int) (b : Int) 1 = (List.range (b - a)).map (a + ·) := by
  unfold sliceRange
  simp only [show (1 : Int) > 0 by decide, if_true]
  have : (if (a : Int) < b then ((b : Int) - a + 1 - 1) / 1 else 0).toNat = b - a := by
    split
    · rw [Int.ediv_one]; omega
    · simp; omega
  rw [this]
  apply List.map_congr_left
  intro k _
  omega
theorem filterMap_drop {α : Type} (xs : List α) : ∀ (a c : Nat), ((List.range c).map (a + ·)).filterMap (xs[·]?) = (xs.drop a).take c := by
  intro a c
  rw [List.filterMap_map]
  induction c generalizing a with
  | zero => simp
  | succ c ih =>
    rw [List.range_succ_eq_map, List.filterMap_cons]
    simp only [Function.comp, Nat.add_zero, List.filterMap_map]
    have e : (List.range c).filterMap (fun x => xs[a + (x + 1)]?) = (List.range c).filterMap (fun x => xs[(a + 1) + x]?) := by
      congr 1; funext x; congr 1; omega
    have ih' : (List.range c).filterMap (fun x => xs[(a + 1) + x]?) = (xs.drop (a + 1)).take c := ih (a + 1)
    rcases Nat.lt_or_ge a xs.length with h | h
    · rw [List.getElem?_eq_getElem h, List.drop_eq_getElem_cons h, List.take_succ_cons]
      simp only
      exact congrArg _ (e.trans ih')
    · rw [List.getElem?_eq_none h, List.drop_eq_nil_of_le h]
      simp only
      refine (e.trans ih').trans ?_
      rw [List.drop_eq_nil_of_le (by omega)]
      simp
theorem pickL_up {α : Type} (xs : List α) (lo hi : Option Int) (a b : Nat) (ha : (sliceBounds lo hi none xs.length).1 = (a : Int)) (hb : (sliceBounds lo hi none xs.length).2.1 = (b : Int)) : pickL xs lo hi none = (xs.drop a).take (b - a) := by
  unfold pickL
  rw [ha, hb, show (sliceBounds lo hi none xs.length).2.2 = 1 from rfl, sliceRange_up, filterMap_drop]
theorem pickL_all {α : Type} (xs : List α) : pickL xs none none none = xs := by
  rw [pickL_up xs none none 0 xs.length rfl rfl]; simp
theorem pickL_take {α : Type} (xs : List α) (n : Nat) : pickL xs none (some (n : Int)) none = xs.take n := by
  rw [pickL_up xs none (some (n : Int)) 0 (min n xs.length) rfl (by
    show (if (1 : Int) > 0 then max (0 : Int) (min (if (n : Int) < 0 then (n : Int) + xs.length else n) xs.length) else max (-1) (min (if (n : Int) < 0 then (n : Int) + xs.length else n) ((xs.length : Int) - 1))) = _
    rw [if_pos (by decide), if_neg (by omega)]; omega)]
  simp
theorem pickL_drop {α : Type} (xs : List α) (n : Nat) : pickL xs (some (n : Int)) none none = xs.drop n := by
  rw [pickL_up xs (some (n : Int)) none (min n xs.length) xs.length (by
    show (if (1 : Int) > 0 then max (0 : Int) (min (if (n : Int) < 0 then (n : Int) + xs.length else n) xs.length) else max (-1) (min (if (n : Int) < 0 then (n : Int) + xs.length else n) ((xs.length : Int) - 1))) = _
    rw [if_pos (by decide), if_neg (by omega)]; omega) rfl]
  rw [List.take_of_length_le (by rw [List.length_drop]; omega)]
  rcases Nat.le_total n xs.length with h | h
  · rw [Nat.min_eq_left h]
  · rw [Nat.min_eq_right h, List.drop_eq_nil_of_le (Nat.le_refl _), List.drop_eq_nil_of_le h]
theorem atI_nat {α : Type} (xs : List α) (k : Nat) (h : k < xs.length) : atI xs (k : Int) = some xs[k] := by
  unfold atI seqIndex?
  simp only
  split
  · rename_i q
    split at q
    · split at q
      · omega
      · rename_i h2; simp at h2; omega
    · split at q
      · cases q
      · rename_i h1 h2; simp at h2; omega
  · rename_i j q
    have : j = k := by
      split at q
      · omega
      · split at q
        · cases q; omega
        · cases q
    subst this
    exact List.getElem?_eq_getElem h
theorem sub_nat {hp : List MO} {n k : Nat} {xs : List MV} (h : listOf hp n = some xs) (hk : k < xs.length) (hf : xs.length ≤ few) : subMV (.ref n) (.int (k : Int)) hp = some xs[k] := by
  show (match listOf hp n with | none => none | some xs => if (k : Int).natAbs < few then atI xs (k : Int) else none) = _
  rw [h]
  show (if (k : Int).natAbs < few then atI xs (k : Int) else none) = _
  rw [if_pos (by simp; omega), atI_nat xs k hk]
theorem setT_one {i : Nat} {x y : MV} {L l1 : Loc} (h : setT (.one i) x L = some l1) : setT (.one i) y l1 = setT (.one i) y L := by
  cases h
  show some ((L.set i (some x)).set i (some y)) = some (L.set i (some y))
  rw [List.set_set]
theorem setT_two {i j : Nat} (hij : i ≠ j) {x y : MV} {L l1 : Loc} (h : setT (.two i j) x L = some l1) : setT (.two i j) y l1 = setT (.two i j) y L := by
  unfold setT at h
  split at h
  · rename_i q; cases q
  · rename_i i' j' a b q
    cases q; cases h
    unfold setT
    split
    · rename_i q; cases q
    · rename_i q
      cases q
      rw [List.set_comm _ _ (Ne.symm hij), List.set_set, List.set_set]
    · rfl
  · cases h
theorem compGo_pure {t : Tgt} {mc : MT} {me : ME} {hp1 : List MO} {ok : List MO → Prop} {it : Nat → It} {xs : List MV} {p : MV → Bool} {e : MV → MV} {L : Loc} {lo : MV → Loc}
    (F : Feeds ok it xs) (hok : ∀ acc, ok (hp1 ++ [.list acc])) (hfit : ∀ m, fitsT t (it m) = true)
    (hset : ∀ x ∈ xs, setT t x L = some (lo x)) (hss : ∀ x y l1, setT t x L = some l1 → setT t y l1 = setT t y L)
    (hc : ∀ x ∈ xs, ∀ acc, mc (lo x) (hp1 ++ [.list acc]) = some (p x, hp1 ++ [.list acc]))
    (he : ∀ x ∈ xs, p x = true → ∀ acc, me (lo x) (hp1 ++ [.list acc]) = some (e x, hp1 ++ [.list acc])) :
    ∀ (n m : Nat) (acc : List MV) (l : Loc), (∀ y, setT t y l = setT t y L) → m ≤ xs.length → xs.length < n + m → acc.length + (xs.length - m) < few →
      compGo t mc me hp1.length n (it m) l (hp1 ++ [.list acc]) = some (hp1 ++ [.list (acc ++ ((xs.drop m).filter p).map e)]) := by
  intro n
  induction n with
  | zero => intro m acc l _ h1 h2; omega
  | succ n ih =>
    intro m acc l hl hm hn ha
    rcases Nat.lt_or_ge m xs.length with hlt | hge
    · have hx : xs[m] ∈ xs := List.getElem_mem hlt
      have e0 : compGo t mc me hp1.length (n + 1) (it m) l (hp1 ++ [.list acc]) = (match mc (lo xs[m]) (hp1 ++ [.list acc]) with
        | none => none
        | some (false, hp1') => compGo t mc me hp1.length n (it (m + 1)) (lo xs[m]) hp1'
        | some (true, hp1') => match me (lo xs[m]) hp1' with
          | none => none
          | some (v, hp2) => match gAppend [.ref hp1.length, v] hp2 with
            | none => none
            | some (_, hp3) => compGo t mc me hp1.length n (it (m + 1)) (lo xs[m]) hp3) := by
        show (match It.next (it m) (hp1 ++ [.list acc]) with | none => none | some none => _ | some (some (x, it')) => _) = _
        rw [F.item _ (hok acc) m hlt]
        simp only [hfit, hl, hset _ hx] <;> rfl
      rw [e0, hc _ hx]
      have hl2 : ∀ y, setT t y (lo xs[m]) = setT t y L := fun y => hss _ y _ (hset _ hx)
      cases hp : p xs[m] with
      | false =>
        simp only
        rw [ih (m + 1) acc _ hl2 hlt (by omega) (by omega), List.drop_eq_getElem_cons hlt, List.filter_cons, if_neg (by rw [hp]; nofun)]
      | true =>
        simp only
        rw [he _ hx hp]
        simp only
        rw [gAppend_end _ _ _ (by omega)]
        simp only
        rw [ih (m + 1) _ _ hl2 hlt (by omega) (by rw [List.length_append, List.length_singleton]; omega), List.drop_eq_getElem_cons hlt, List.filter_cons, if_pos hp, List.map_cons, List.append_assoc]
        rfl
    · have : xs.drop m = [] := List.drop_eq_nil_of_le hge
      rw [this]
      show (match It.next (it m) (hp1 ++ [.list acc]) with | none => none | some none => _ | some (some (x, it')) => _) = _
      rw [F.stop _ (hok acc) m hge]
      simp
theorem comp_gen {n : Nat} {t : Tgt} {mi : MI} {mc : MT} {me : ME} {k : Nat} {ci : List Nat} {loc : Loc} {hp hp1 : List MO} {ok : List MO → Prop} {it : Nat → It} {xs : List MV} {p : MV → Bool} {e : MV → MV} {lo : MV → Loc}
    (F : Feeds ok it xs) (h1 : mi loc hp = some (it 0, hp1)) (hok : ∀ acc, ok (hp1 ++ [.list acc])) (hfit : ∀ m, fitsT t (it m) = true) (hn : xs.length < n) (hf : xs.length < few)
    (hset : ∀ x ∈ xs, setT t x (compLoc k ci loc) = some (lo x)) (hss : ∀ x y l1, setT t x (compLoc k ci loc) = some l1 → setT t y l1 = setT t y (compLoc k ci loc))
    (hc : ∀ x ∈ xs, ∀ acc, mc (lo x) (hp1 ++ [.list acc]) = some (p x, hp1 ++ [.list acc]))
    (he : ∀ x ∈ xs, p x = true → ∀ acc, me (lo x) (hp1 ++ [.list acc]) = some (e x, hp1 ++ [.list acc])) :
    mComp n t mi mc me k ci loc hp = some (.ref hp1.length, hp1 ++ [.list ((xs.filter p).map e)]) := by
  unfold mComp
  rw [h1]
  simp only
  rw [compGo_pure F hok hfit hset hss hc he n 0 [] _ (fun _ => rfl) (Nat.zero_le _) (by omega) (by simpa using hf)]
  simp
theorem forGo_inv {t : Tgt} {body : MS} {ok : List MO → Prop} {it : Nat → It} {xs : List MV} (F : Feeds ok it xs) (hfit : ∀ m, fitsT t (it m) = true) (I : Nat → Loc → List MO → Prop) (hok : ∀ m loc hp, I m loc hp → ok hp)
    (step : ∀ (m : Nat) (h : m < xs.length) loc hp, I m loc hp → ∃ l1 l2 hp2, setT t xs[m] loc = some l1 ∧ body l1 hp = some (.next, l2, hp2) ∧ I (m + 1) l2 hp2) :
    ∀ (n m : Nat) (loc : Loc) hp, m ≤ xs.length → xs.length < n + m → I m loc hp → ∃ l' hp', forGo t body n (it m) loc hp = some (.next, l', hp') ∧ I xs.length l' hp' := by
  intro n
  induction n with
  | zero => intro m l hp h1 h2; omega
  | succ n ih =>
    intro m l hp hm hn hI
    rcases Nat.lt_or_ge m xs.length with hlt | hge
    · obtain ⟨l1, l2, hp2, e1, e2, hI2⟩ := step m hlt l hp hI
      obtain ⟨l', hp', e3, hI'⟩ := ih (m + 1) l2 hp2 hlt (by omega) hI2
      refine ⟨l', hp', ?_, hI'⟩
      show (match It.next (it m) hp with | none => none | some none => _ | some (some (x, it')) => _) = _
      rw [F.item _ (hok m l hp hI) m hlt]
      simp only [hfit, e1, e2]
      exact e3
    · have : m = xs.length := by omega
      subst this
      refine ⟨l, hp, ?_, hI⟩
      show (match It.next (it xs.length) hp with | none => none | some none => _ | some (some (x, it')) => _) = _
      rw [F.stop _ (hok _ l hp hI) _ hge]
noncomputable def natL (l : List Nat) : List MV := l.map fun (n : Nat) => MV.int (n : Int)
theorem ints_len (l : List Nat) : (natL l).length = l.length := List.length_map ..
theorem atN_get : ∀ (l : List Nat) (k : Nat) (h : k < l.length), l[k] = atN l k
  | a :: l, 0, _ => rfl
  | a :: l, k + 1, h => atN_get l k (by simpa using h)
theorem sub_ints {hp : List MO} {n k : Nat} {l : List Nat} (h : listOf hp n = some (natL l)) (hk : k < l.length) (hf : l.length ≤ few) : subMV (.ref n) (.int (k : Int)) hp = some (.int (atN l k : Int)) := by
  rw [sub_nat h (by rw [ints_len]; exact hk) (by rw [ints_len]; exact hf)]
  simp only [natL, List.getElem_map, atN_get]
theorem anyIn_ints (x : Nat) : ∀ l : List Nat, anyIn (.int (x : Int)) (natL l) = some (l.contains x)
  | [] => rfl
  | a :: l => by
    show (match anyIn (.int (x : Int)) (natL l) with | none => none | some b => some ((a : Int) == (x : Int) || b)) = _
    rw [anyIn_ints x l, List.contains_cons]
    simp only [Option.some.injEq]
    congr 1
    rw [Bool.eq_iff_iff]
    simp only [beq_iff_eq]
    omega
theorem len_list {sns : List Int} {hp : List MO} {n : Nat} {xs : List MV} (h : listOf hp n = some xs) (hf : xs.length < few) : gLen sns [.ref n] hp = some (.int (xs.length : Int), hp) := by
  show (match listOf hp n with | some xs => if xs.length < few then some (MV.int xs.length, hp) else none | none => none) = _
  rw [h]; simp only; rw [if_pos hf]
theorem intsOf_ints : ∀ l : List Nat, intsOf (natL l) = some (l.map Int.ofNat)
  | [] => rfl
  | a :: l => by
    show (match intsOf (natL l) with | none => none | some q => some ((a : Int) :: q)) = _
    rw [intsOf_ints l]; rfl
theorem okChar_iff {c : Nat} : okChar c = true ↔ (65 ≤ c ∧ c ≤ 80) ∨ (97 ≤ c ∧ c ≤ 112) := by
  unfold okChar
  simp only [Bool.or_eq_true, Bool.and_eq_true, decide_eq_true_eq]
theorem okChar_lo {c : Nat} (h : okChar c = true) : okChar (lo1 c) = true := by
  rw [okChar_iff] at h ⊢
  unfold lo1
  split
  · omega
  · omega
theorem okChars_lo {x : List Nat} (h : x.all okChar = true) : (x.map lo1).all okChar = true := by
  rw [List.all_map]
  rw [List.all_eq_true] at h ⊢
  intro c hc
  exact okChar_lo (h c hc)
theorem okChars_128 {x : List Nat} (h : x.all okChar = true) : x.all (fun c => decide (c < 128)) = true := by
  rw [List.all_eq_true] at h ⊢
  intro c hc
  have := okChar_iff.mp (h c hc)
  simp only [decide_eq_true_eq]
  omega
theorem gLower_ok {x : List Nat} (h : x.all okChar = true) (hl : x.length ≤ few) (hp : List MO) : gLower [.str x] hp = some (.str (x.map lo1), hp) := by
  show (if _ then _ else _) = _
  rw [if_pos ⟨okChars_128 h, hl⟩]
noncomputable def hdrOk (x : MV) : Prop := ∃ k v, x = .tup [.str k, .str v] ∧ k.all okChar = true ∧ k.length ≤ few ∧ v.all okChar = true ∧ v.length ≤ few
theorem inst_of {hp : List MO} {C : Addr} {i d : Nat} {v : Option MV} (hi : hp[i]? = some (.inst C d)) (hd : hp[d]? = some (.idict v)) : instOf C (.ref i) hp = some (d, v) := by
  show (match instAt C hp i with | none => none | some d => match ownAt hp d with | none => none | some v => some (d, v)) = _
  unfold instAt ownAt
  rw [hi]; simp only [if_pos]; rw [hd]
theorem lt_of_some {hp : List MO} {i : Nat} {o : MO} (h : hp[i]? = some o) : i < hp.length := (List.getElem?_eq_some_iff.mp h).1
theorem listOf_get {hp : List MO} {j : Nat} {T : List MV} (h : listOf hp j = some T) : hp[j]? = some (.list T) := by
  unfold listOf at h
  split at h
  · rename_i xs q; cases h; exact q
  · cases h
theorem of_get {hp : List MO} {j : Nat} {T : List MV} (h : hp[j]? = some (.list T)) : listOf hp j = some T := by unfold listOf; rw [h]
theorem sAttr_eq {C : Addr} {mo mv : ME} {v a : MV} {d : Nat} {loc : Loc} {hp h1 h2 : List MO} (e1 : mv loc hp = some (v, h1)) (e2 : mo loc h1 = some (a, h2)) (e3 : instOf C a h2 = some (d, none)) : sAttr C mo mv loc hp = some (.next, loc, h2.set d (.idict (some v))) := by
  unfold sAttr; simp only [e1, e2, e3]
theorem mAttr_eq {C : Addr} {m : ME} {a : MV} {d j : Nat} {loc : Loc} {hp h1 : List MO} (e : m loc hp = some (a, h1)) (e2 : instOf C a h1 = some (d, some (.ref j))) : mAttr C m loc hp = some (.ref j, h1) := by
  unfold mAttr; simp only [e, e2]
theorem iVal_list {m : ME} {j : Nat} {T : List MV} {loc : Loc} {hp h1 : List MO} (e : m loc hp = some (.ref j, h1)) (h : listOf h1 j = some T) : iVal m loc hp = some (.list j 0, h1) := by
  unfold iVal; simp only [e]
  have : itOf (.ref j) h1 = some (.list j 0) := by
    show (match listOf h1 j with | some _ => some (It.list j 0) | none => none) = _
    rw [h]
  simp only [this]
theorem iAttr_list {C : Addr} {m : ME} {a : MV} {d j : Nat} {T : List MV} {loc : Loc} {hp h1 : List MO} (e : m loc hp = some (a, h1)) (e2 : instOf C a h1 = some (d, some (.ref j))) (h : listOf h1 j = some T) : iVal (mAttr C m) loc hp = some (.list j 0, h1) := iVal_list (mAttr_eq e e2) h
theorem instOf_app {C : Addr} {a : MV} {q : Nat × Option MV} {hp : List MO} (h : instOf C a hp = some q) (g : List MO) : instOf C a (hp ++ g) = some q := by
  unfold instOf at h ⊢
  split at h
  · rename_i i
    unfold instAt ownAt at *
    split at h
    · cases h
    · rename_i d hd
      split at hd
      · rename_i C' d' e
        rw [List.getElem?_append_left (lt_of_some e), e]
        simp only [hd]
        split at h
        · cases h
        · rename_i v hv
          split at hv
          · rename_i v' e'
            rw [List.getElem?_append_left (lt_of_some e'), e']
            simp only
            cases hv; exact h
          · cases hv
      · cases hd
  · cases h
theorem sSetOwn_eq {C : Addr} {g : GF} {mo mi mv : ME} {a i v w : MV} {q : Nat × Option MV} {loc : Loc} {hp h1 h2 h3 h4 : List MO} (e1 : mv loc hp = some (v, h1)) (e2 : mo loc h1 = some (a, h2)) (e3 : mi loc h2 = some (i, h3)) (e4 : instOf C a h3 = some q) (e5 : g [a, i, v] h3 = some (w, h4)) :
    sSetOwn C g mo mi mv loc hp = some (.next, loc, h4) := by unfold sSetOwn; simp only [e1, e2, e3, e4, e5]
noncomputable def fmodN (v : Int) (n : Nat) : Nat := (v.fmod n).toNat
theorem fmodN_ok (v : Int) {n : Nat} (h : 0 < n) : v.fmod n = (fmodN v n : Int) ∧ fmodN v n < n := by
  have h1 := Int.fmod_nonneg_of_pos v (b := (n : Int)) (by omega)
  have h2 := Int.fmod_lt_of_pos v (b := (n : Int)) (by omega)
  unfold fmodN
  omega
theorem seqIndex_nat {k n : Nat} (h : k < n) : seqIndex? (k : Int) n = some k := by
  unfold seqIndex?
  have e : (if (k : Int) < 0 then (k : Int) + (n : Int) else (k : Int)) = k := if_neg (by omega)
  simp only [e]
  rw [if_pos (by simp; omega)]
  simp
theorem natL_app (a b : List Nat) : natL a ++ natL b = natL (a ++ b) := by unfold natL; rw [List.map_append]
theorem comp_map {n i : Nat} {mi : MI} {me : ME} {k : Nat} {ci : List Nat} {loc : Loc} {hp hp1 : List MO} {ok : List MO → Prop} {it : Nat → It} {xs : List MV} {e : MV → MV}
    (F : Feeds ok it xs) (h1 : mi loc hp = some (it 0, hp1)) (hok : ∀ acc, ok (hp1 ++ [.list acc])) (hfit : ∀ m, fitsT (.one i) (it m) = true) (hn : xs.length < n) (hf : xs.length < few)
    (he : ∀ x ∈ xs, ∀ acc, me ((compLoc k ci loc).set i (some x)) (hp1 ++ [.list acc]) = some (e x, hp1 ++ [.list acc])) :
    mComp n (.one i) mi tTrue me k ci loc hp = some (.ref hp1.length, hp1 ++ [.list (xs.map e)]) := by
  rw [comp_gen (p := fun _ => true) (lo := fun x => (compLoc k ci loc).set i (some x)) F h1 hok hfit hn hf (fun x _ => rfl) (fun x y l1 h => setT_one h) (fun _ _ _ => rfl) (fun x hx _ acc => he x hx acc)]
  rw [List.filter_eq_self.mpr (fun _ _ => rfl)]
noncomputable def eInt (e : Nat → MV) (x : MV) : MV := match x with
  | .int i => e i.toNat
  | _ => .none
theorem natL_map (e : Nat → MV) (s : List Nat) : (natL s).map (eInt e) = s.map e := by
  unfold natL; rw [List.map_map]; apply List.map_congr_left; intro k _; rfl
theorem comp_nats {n i : Nat} {mi : MI} {me : ME} {k : Nat} {ci : List Nat} {loc : Loc} {hp hp1 : List MO} {j : Nat} {s : List Nat} {e : Nat → MV}
    (h1 : mi loc hp = some (.list j 0, hp1)) (hj : listOf hp1 j = some (natL s)) (hn : s.length < n) (hf : s.length < few)
    (he : ∀ x ∈ s, ∀ acc, me ((compLoc k ci loc).set i (some (.int (x : Int)))) (hp1 ++ [.list acc]) = some (e x, hp1 ++ [.list acc])) :
    mComp n (.one i) mi tTrue me k ci loc hp = some (.ref hp1.length, hp1 ++ [.list (s.map e)]) := by
  rw [← natL_map]
  refine comp_map (feeds_list (j := j) (xs := natL s)) h1 (fun acc => listOf_app hj _) (fun _ => rfl) (by rw [ints_len]; exact hn) (by rw [ints_len]; exact hf) fun x hx acc => ?_
  obtain ⟨y, hy, rfl⟩ := List.mem_map.mp hx
  exact he y hy acc
theorem comp_rng0 {n i : Nat} {mi : MI} {me : ME} {k : Nat} {ci : List Nat} {loc : Loc} {hp hp1 : List MO} {c : Nat} {e : Nat → MV}
    (h1 : mi loc hp = some (.rng 0 c, hp1)) (hn : c < n) (hf : c < few)
    (he : ∀ x, x < c → ∀ acc, me ((compLoc k ci loc).set i (some (.int (x : Int)))) (hp1 ++ [.list acc]) = some (e x, hp1 ++ [.list acc])) :
    mComp n (.one i) mi tTrue me k ci loc hp = some (.ref hp1.length, hp1 ++ [.list ((List.range c).map e)]) := by
  have := comp_map (n := n) (i := i) (mi := mi) (me := me) (k := k) (ci := ci) (loc := loc) (hp := hp) (hp1 := hp1) (e := eInt e) (feeds_rng (a := 0) (n := c)) (by rw [h1]; rfl) (fun _ => trivial) (fun _ => rfl) (by simpa using hn) (by simpa using hf) (by
    intro x hx acc
    obtain ⟨y, hy, rfl⟩ := List.mem_map.mp hx
    have q := he y (List.mem_range.mp hy) acc
    rw [show (0 : Int) + (y : Int) = (y : Int) by omega]
    exact q)
  rw [this, List.map_map]
  congr 5
  apply List.map_congr_left
  intro y _
  show eInt e (.int (0 + (y : Int))) = e y
  rw [show (0 : Int) + (y : Int) = (y : Int) by omega]
  rfl
theorem cut_to {sns : List Int} {m : ME} {c : Nat} {loc : Loc} {hp : List MO} {i : Nat} {l : List Nat} (e : m loc hp = some (.ref i, hp)) (h : listOf hp i = some (natL l)) (hl : l.length ≤ few) :
    mCut sns m pNone (pInt (mInt (c : Int))) pNone loc hp = some (.ref hp.length, hp ++ [.list (natL (l.take c))]) := by
  unfold mCut
  simp only [e]
  show (match listOf hp i with | none => none | some xs => if xs.length ≤ few then some (MV.ref hp.length, hp ++ [MO.list (pickL xs none (some (c : Int)) none)]) else none) = _
  rw [h]
  simp only
  rw [if_pos (by rw [ints_len]; exact hl), pickL_take]
  unfold natL
  rw [List.map_take]
theorem get_app {hp : List MO} {i : Nat} {o : MO} (h : hp[i]? = some o) (g : List MO) : (hp ++ g)[i]? = some o := by
  rw [List.getElem?_append_left (lt_of_some h)]; exact h
theorem listOf_set {hp : List MO} {i j : Nat} {o : MO} (h : i ≠ j) : listOf (hp.set i o) j = listOf hp j := by
  unfold listOf; rw [List.getElem?_set_ne h]
theorem max_nat {hp : List MO} {i : Nat} {l : List Nat} (h : listOf hp i = some (natL l)) (hl : l ≠ []) : gMax [.ref i] hp = some (.int (maxI (l.map Int.ofNat)), hp) := by
  show (match listOf hp i with | some xs => (match intsOf xs with | none => none | some l => (match (match l with | [] => none | l => some (MV.int (maxI l))) with | none => none | some v => some (v, hp))) | none => none) = _
  rw [h]
  simp only [intsOf_ints]
  cases l with
  | nil => exact absurd rfl hl
  | cons a l => rfl
theorem cat_nat {hp : List MO} {i j : Nat} {a b : List Nat} (ha : listOf hp i = some (natL a)) (hb : listOf hp j = some (natL b)) (hl : a.length + b.length ≤ few) : binMV .Add (.ref i) (.ref j) hp = some (.ref hp.length, hp ++ [.list (natL (a ++ b))]) := by
  show (match listOf hp i, listOf hp j with | some xs, some ys => if xs.length + ys.length ≤ few then some (MV.ref hp.length, hp ++ [MO.list (xs ++ ys)]) else none | _, _ => none) = _
  rw [ha, hb]
  simp only
  rw [if_pos (by rw [ints_len, ints_len]; exact hl), natL_app]
noncomputable def eBool (f : Nat → Bool) (x : MV) : Bool := match x with
  | .int i => f i.toNat
  | _ => false
theorem comp_rngif {n i : Nat} {mi : MI} {mc : MT} {me : ME} {k : Nat} {ci : List Nat} {loc : Loc} {hp hp1 : List MO} {c : Nat} {f : Nat → Bool} {e : Nat → MV}
    (h1 : mi loc hp = some (.rng 0 c, hp1)) (hn : c < n) (hf : c < few)
    (hc : ∀ x, x < c → ∀ acc, mc ((compLoc k ci loc).set i (some (.int (x : Int)))) (hp1 ++ [.list acc]) = some (f x, hp1 ++ [.list acc]))
    (he : ∀ x, x < c → ∀ acc, me ((compLoc k ci loc).set i (some (.int (x : Int)))) (hp1 ++ [.list acc]) = some (e x, hp1 ++ [.list acc])) :
    mComp n (.one i) mi mc me k ci loc hp = some (.ref hp1.length, hp1 ++ [.list (((List.range c).filter f).map e)]) := by
  have z : ∀ y : Nat, (0 : Int) + (y : Int) = (y : Int) := fun y => by omega
  have := comp_gen (n := n) (t := .one i) (mi := mi) (mc := mc) (me := me) (k := k) (ci := ci) (loc := loc) (hp := hp) (hp1 := hp1) (p := eBool f) (e := eInt e) (lo := fun x => (compLoc k ci loc).set i (some x)) (feeds_rng (a := 0) (n := c)) (by rw [h1]; rfl) (fun _ => trivial) (fun _ => rfl) (by simpa using hn) (by simpa using hf) (fun x _ => rfl) (fun x y l1 h => setT_one h) (by
    intro x hx acc
    obtain ⟨y, hy, rfl⟩ := List.mem_map.mp hx
    have q := hc y (List.mem_range.mp hy) acc
    rw [z y]
    exact q) (by
    intro x hx _ acc
    obtain ⟨y, hy, rfl⟩ := List.mem_map.mp hx
    have q := he y (List.mem_range.mp hy) acc
    rw [z y]
    exact q)
  rw [this, List.filter_map, List.map_map]
  congr 5
  rw [show ((eBool f) ∘ fun (i : Nat) => MV.int (0 + (i : Int))) = f by funext y; show eBool f (.int (0 + (y : Int))) = f y; rw [z y]; rfl]
  apply List.map_congr_left
  intro y _
  show eInt e (.int (0 + (y : Int))) = e y
  rw [z y]
  rfl
theorem intL_take (l : List Int) (n : Nat) : (intL l).take n = intL (l.take n) := by unfold intL; rw [List.map_take]
theorem intL_drop (l : List Int) (n : Nat) : (intL l).drop n = intL (l.drop n) := by unfold intL; rw [List.map_drop]
theorem intL_app (a b : List Int) : intL a ++ intL b = intL (a ++ b) := by unfold intL; rw [List.map_append]
theorem intL_len (l : List Int) : (intL l).length = l.length := List.length_map ..
theorem eq_lists {hp : List MO} {i j : Nat} {xs ys : List MV} (hi : listOf hp i = some xs) (hj : listOf hp j = some ys) : eqV (.ref i) (.ref j) hp = if xs.length = ys.length then eqAll eqT xs ys else some false := by
  show (match listOf hp i, listOf hp j with | some xs, some ys => if xs.length = ys.length then eqAll eqT xs ys else some false | _, _ => none) = _
  rw [hi, hj]
end Mine
end
section
open PySem PySem.W PyProof.Rows PySem.Spec PySem.Calls
set_option linter.unusedVariables false
set_option maxRecDepth 100000
namespace Mine
section
variable {B : Base} {p : Params}
theorem bn_abs (O : B.Ok) (hK : B.K = Mine.hd.heap_39 p) : B.mg "abs" = none := O.noglob (by rw [hK]; kernel_rfl)
theorem bb_abs : bootBuiltins "abs" = some (.builtin "abs") := by decide +kernel
theorem bn_chr (O : B.Ok) (hK : B.K = Mine.hd.heap_39 p) : B.mg "chr" = none := O.noglob (by rw [hK]; kernel_rfl)
theorem bb_chr : bootBuiltins "chr" = some (.builtin "chr") := by decide +kernel
theorem bn_divmod (O : B.Ok) (hK : B.K = Mine.hd.heap_39 p) : B.mg "divmod" = none := O.noglob (by rw [hK]; kernel_rfl)
theorem bb_divmod : bootBuiltins "divmod" = some (.builtin "divmod") := by decide +kernel
theorem bn_enumerate (O : B.Ok) (hK : B.K = Mine.hd.heap_39 p) : B.mg "enumerate" = none := O.noglob (by rw [hK]; kernel_rfl)
theorem bb_enumerate : bootBuiltins "enumerate" = some (.type "enumerate") := by decide +kernel
theorem bn_hex (O : B.Ok) (hK : B.K = Mine.hd.heap_39 p) : B.mg "hex" = none := O.noglob (by rw [hK]; kernel_rfl)
theorem bb_hex : bootBuiltins "hex" = some (.builtin "hex") := by decide +kernel
theorem bn_int (O : B.Ok) (hK : B.K = Mine.hd.heap_39 p) : B.mg "int" = none := O.noglob (by rw [hK]; kernel_rfl)
theorem bb_int : bootBuiltins "int" = some (.type "int") := by decide +kernel
theorem bn_len (O : B.Ok) (hK : B.K = Mine.hd.heap_39 p) : B.mg "len" = none := O.noglob (by rw [hK]; kernel_rfl)
theorem bb_len : bootBuiltins "len" = some (.builtin "len") := by decide +kernel
theorem bn_list (O : B.Ok) (hK : B.K = Mine.hd.heap_39 p) : B.mg "list" = none := O.noglob (by rw [hK]; kernel_rfl)
theorem bb_list : bootBuiltins "list" = some (.type "list") := by decide +kernel
theorem bn_max (O : B.Ok) (hK : B.K = Mine.hd.heap_39 p) : B.mg "max" = none := O.noglob (by rw [hK]; kernel_rfl)
theorem bb_max : bootBuiltins "max" = some (.builtin "max") := by decide +kernel
theorem bn_min (O : B.Ok) (hK : B.K = Mine.hd.heap_39 p) : B.mg "min" = none := O.noglob (by rw [hK]; kernel_rfl)
theorem bb_min : bootBuiltins "min" = some (.builtin "min") := by decide +kernel
theorem bn_ord (O : B.Ok) (hK : B.K = Mine.hd.heap_39 p) : B.mg "ord" = none := O.noglob (by rw [hK]; kernel_rfl)
theorem bb_ord : bootBuiltins "ord" = some (.builtin "ord") := by decide +kernel
theorem bn_range (O : B.Ok) (hK : B.K = Mine.hd.heap_39 p) : B.mg "range" = none := O.noglob (by rw [hK]; kernel_rfl)
theorem bb_range : bootBuiltins "range" = some (.type "range") := by decide +kernel
theorem bn_str (O : B.Ok) (hK : B.K = Mine.hd.heap_39 p) : B.mg "str" = none := O.noglob (by rw [hK]; kernel_rfl)
theorem bb_str : bootBuiltins "str" = some (.type "str") := by decide +kernel
theorem bn_sum (O : B.Ok) (hK : B.K = Mine.hd.heap_39 p) : B.mg "sum" = none := O.noglob (by rw [hK]; kernel_rfl)
theorem bb_sum : bootBuiltins "sum" = some (.builtin "sum") := by decide +kernel
theorem bn_type (O : B.Ok) (hK : B.K = Mine.hd.heap_39 p) : B.mg "type" = none := O.noglob (by rw [hK]; kernel_rfl)
theorem bb_type : bootBuiltins "type" = some (.type "type") := by decide +kernel
theorem bn_zip (O : B.Ok) (hK : B.K = Mine.hd.heap_39 p) : B.mg "zip" = none := O.noglob (by rw [hK]; kernel_rfl)
theorem bb_zip : bootBuiltins "zip" = some (.type "zip") := by decide +kernel
theorem gl_COMPILER_FLAG_NAMES (O : B.Ok) (hK : B.K = Mine.hd.heap_39 p) : B.mg "COMPILER_FLAG_NAMES" = some (.ref 39) := O.glob (by rw [hK]; kernel_rfl)
theorem gl_Headers (O : B.Ok) (hK : B.K = Mine.hd.heap_39 p) : B.mg "Headers" = some (.ref 186) := O.glob (by rw [hK]; kernel_rfl)
theorem gl_Int2AP (O : B.Ok) (hK : B.K = Mine.hd.heap_39 p) : B.mg "Int2AP" = some (.ref 53) := O.glob (by rw [hK]; kernel_rfl)
theorem gl__law_halved (O : B.Ok) (hK : B.K = Mine.hd.heap_39 p) : B.mg "_law_halved" = some (.ref 231) := O.glob (by rw [hK]; kernel_rfl)
theorem gl__law_lowest (O : B.Ok) (hK : B.K = Mine.hd.heap_39 p) : B.mg "_law_lowest" = some (.ref 214) := O.glob (by rw [hK]; kernel_rfl)
theorem gl__law_number (O : B.Ok) (hK : B.K = Mine.hd.heap_39 p) : B.mg "_law_number" = some (.ref 202) := O.glob (by rw [hK]; kernel_rfl)
theorem gl__law_put_out (O : B.Ok) (hK : B.K = Mine.hd.heap_39 p) : B.mg "_law_put_out" = some (.ref 224) := O.glob (by rw [hK]; kernel_rfl)
theorem gl__law_round (O : B.Ok) (hK : B.K = Mine.hd.heap_39 p) : B.mg "_law_round" = some (.ref 219) := O.glob (by rw [hK]; kernel_rfl)
theorem gl__law_table (O : B.Ok) (hK : B.K = Mine.hd.heap_39 p) : B.mg "_law_table" = some (.ref 207) := O.glob (by rw [hK]; kernel_rfl)
theorem gl__law_word (O : B.Ok) (hK : B.K = Mine.hd.heap_39 p) : B.mg "_law_word" = some (.ref 195) := O.glob (by rw [hK]; kernel_rfl)
theorem gl__name_disallowed_re (O : B.Ok) (hK : B.K = Mine.hd.heap_39 p) : B.mg "_name_disallowed_re" = some (.ref 58) := O.glob (by rw [hK]; kernel_rfl)
theorem gl__value_disallowed_re (O : B.Ok) (hK : B.K = Mine.hd.heap_39 p) : B.mg "_value_disallowed_re" = some (.ref 63) := O.glob (by rw [hK]; kernel_rfl)
theorem gl_pretty_flags (O : B.Ok) (hK : B.K = Mine.hd.heap_39 p) : B.mg "pretty_flags" = some (.ref 46) := O.glob (by rw [hK]; kernel_rfl)
theorem kp_46 (O : B.Ok) (hK : B.K = Mine.hd.heap_39 p) : keepIn B.K (.ref 46) = true := by rw [hK]; kernel_rfl
theorem kp_53 (O : B.Ok) (hK : B.K = Mine.hd.heap_39 p) : keepIn B.K (.ref 53) = true := by rw [hK]; kernel_rfl
theorem kp_186 (O : B.Ok) (hK : B.K = Mine.hd.heap_39 p) : keepIn B.K (.ref 186) = true := by rw [hK]; kernel_rfl
theorem kp_195 (O : B.Ok) (hK : B.K = Mine.hd.heap_39 p) : keepIn B.K (.ref 195) = true := by rw [hK]; kernel_rfl
theorem kp_202 (O : B.Ok) (hK : B.K = Mine.hd.heap_39 p) : keepIn B.K (.ref 202) = true := by rw [hK]; kernel_rfl
theorem kp_207 (O : B.Ok) (hK : B.K = Mine.hd.heap_39 p) : keepIn B.K (.ref 207) = true := by rw [hK]; kernel_rfl
theorem kp_214 (O : B.Ok) (hK : B.K = Mine.hd.heap_39 p) : keepIn B.K (.ref 214) = true := by rw [hK]; kernel_rfl
theorem kp_219 (O : B.Ok) (hK : B.K = Mine.hd.heap_39 p) : keepIn B.K (.ref 219) = true := by rw [hK]; kernel_rfl
theorem kp_224 (O : B.Ok) (hK : B.K = Mine.hd.heap_39 p) : keepIn B.K (.ref 224) = true := by rw [hK]; kernel_rfl
theorem kp_231 (O : B.Ok) (hK : B.K = Mine.hd.heap_39 p) : keepIn B.K (.ref 231) = true := by rw [hK]; kernel_rfl
noncomputable def flagTbl : List (Int × List Nat) := [(1, [79, 80, 84, 73, 77, 73, 90, 69, 68]), (2, [78, 69, 87, 76, 79, 67, 65, 76, 83]), (4, [86, 65, 82, 65, 82, 71, 83]), (8, [86, 65, 82, 75, 69, 89, 87, 79, 82, 68, 83]), (16, [78, 69, 83, 84, 69, 68]), (32, [71, 69, 78, 69, 82, 65, 84, 79, 82]), (64, [78, 79, 70, 82, 69, 69]), (128, [67, 79, 82, 79, 85, 84, 73, 78, 69]), (256, [73, 84, 69, 82, 65, 66, 76, 69, 95, 67, 79, 82, 79, 85, 84, 73, 78, 69]), (512, [65, 83, 89, 78, 67, 95, 71, 69, 78, 69, 82, 65, 84, 79, 82])]
theorem di_flags (O : B.Ok) (hK : B.K = Mine.hd.heap_39 p) : DictIs B 39 flagTbl := ⟨⟨_, _, O.k _ _ (by rw [hK]; with_unfolding_all rfl), by decide +kernel⟩, by decide⟩
theorem re_name (O : B.Ok) (hK : B.K = Mine.hd.heap_39 p) : ReIs B 58 := by
  refine ⟨_, _, _, _, _, _, O.k _ _ (by rw [hK]; with_unfolding_all rfl), rfl, rfl, rfl, rfl, rfl, rfl, O.k _ _ (by rw [hK]; with_unfolding_all rfl), rfl, fun m hm => ?_, ?_⟩
  · unfold Sre.M.hasFirstSet
    rw [hm]; kernel_rfl
  · refine okChar_cases fun i hi => ?_
    match i, hi with
    | 0, _ => exact ⟨fun seen => by kernel_rfl, fun seen => by kernel_rfl⟩
    | 1, _ => exact ⟨fun seen => by kernel_rfl, fun seen => by kernel_rfl⟩
    | 2, _ => exact ⟨fun seen => by kernel_rfl, fun seen => by kernel_rfl⟩
    | 3, _ => exact ⟨fun seen => by kernel_rfl, fun seen => by kernel_rfl⟩
    | 4, _ => exact ⟨fun seen => by kernel_rfl, fun seen => by kernel_rfl⟩
    | 5, _ => exact ⟨fun seen => by kernel_rfl, fun seen => by kernel_rfl⟩
    | 6, _ => exact ⟨fun seen => by kernel_rfl, fun seen => by kernel_rfl⟩
    | 7, _ => exact ⟨fun seen => by kernel_rfl, fun seen => by kernel_rfl⟩
    | 8, _ => exact ⟨fun seen => by kernel_rfl, fun seen => by kernel_rfl⟩
    | 9, _ => exact ⟨fun seen => by kernel_rfl, fun seen => by kernel_rfl⟩
    | 10, _ => exact ⟨fun seen => by kernel_rfl, fun seen => by kernel_rfl⟩
    | 11, _ => exact ⟨fun seen => by kernel_rfl, fun seen => by kernel_rfl⟩
    | 12, _ => exact ⟨fun seen => by kernel_rfl, fun seen => by kernel_rfl⟩
    | 13, _ => exact ⟨fun seen => by kernel_rfl, fun seen => by kernel_rfl⟩
    | 14, _ => exact ⟨fun seen => by kernel_rfl, fun seen => by kernel_rfl⟩
    | 15, _ => exact ⟨fun seen => by kernel_rfl, fun seen => by kernel_rfl⟩
    | n + 16, h => exact absurd h (by omega)
theorem re_value (O : B.Ok) (hK : B.K = Mine.hd.heap_39 p) : ReIs B 63 := by
  refine ⟨_, _, _, _, _, _, O.k _ _ (by rw [hK]; with_unfolding_all rfl), rfl, rfl, rfl, rfl, rfl, rfl, O.k _ _ (by rw [hK]; with_unfolding_all rfl), rfl, fun m hm => ?_, ?_⟩
  · unfold Sre.M.hasFirstSet
    rw [hm]; kernel_rfl
  · refine okChar_cases fun i hi => ?_
    match i, hi with
    | 0, _ => exact ⟨fun seen => by kernel_rfl, fun seen => by kernel_rfl⟩
    | 1, _ => exact ⟨fun seen => by kernel_rfl, fun seen => by kernel_rfl⟩
    | 2, _ => exact ⟨fun seen => by kernel_rfl, fun seen => by kernel_rfl⟩
    | 3, _ => exact ⟨fun seen => by kernel_rfl, fun seen => by kernel_rfl⟩
    | 4, _ => exact ⟨fun seen => by kernel_rfl, fun seen => by kernel_rfl⟩
    | 5, _ => exact ⟨fun seen => by kernel_rfl, fun seen => by kernel_rfl⟩
    | 6, _ => exact ⟨fun seen => by kernel_rfl, fun seen => by kernel_rfl⟩
    | 7, _ => exact ⟨fun seen => by kernel_rfl, fun seen => by kernel_rfl⟩
    | 8, _ => exact ⟨fun seen => by kernel_rfl, fun seen => by kernel_rfl⟩
    | 9, _ => exact ⟨fun seen => by kernel_rfl, fun seen => by kernel_rfl⟩
    | 10, _ => exact ⟨fun seen => by kernel_rfl, fun seen => by kernel_rfl⟩
    | 11, _ => exact ⟨fun seen => by kernel_rfl, fun seen => by kernel_rfl⟩
    | 12, _ => exact ⟨fun seen => by kernel_rfl, fun seen => by kernel_rfl⟩
    | 13, _ => exact ⟨fun seen => by kernel_rfl, fun seen => by kernel_rfl⟩
    | 14, _ => exact ⟨fun seen => by kernel_rfl, fun seen => by kernel_rfl⟩
    | 15, _ => exact ⟨fun seen => by kernel_rfl, fun seen => by kernel_rfl⟩
    | n + 16, h => exact absurd h (by omega)
theorem hn_ok (O : B.Ok) (hK : B.K = Mine.hd.heap_39 p) : nsOkIn B.K 185 = true := by rw [hK]; kernel_rfl
theorem hcls (O : B.Ok) (hK : B.K = Mine.hd.heap_39 p) : HCls B 186 185 (B.s₀.heap.nsMap 185) :=
  HCls.ofK O (by rw [hK]; with_unfolding_all rfl) (hn_ok O hK) (by rw [hK]; kernel_rfl) (by rw [hK]; kernel_rfl) (by rw [hK]; kernel_rfl) (by rw [hK]; kernel_rfl)
theorem mk_cls (O : B.Ok) (hK : B.K = Mine.hd.heap_39 p) : makesIn B.K 186 = true := by rw [hK]; kernel_rfl
theorem ow__convert_string_type (O : B.Ok) (hK : B.K = Mine.hd.heap_39 p) : OwnIs B 186 "_convert_string_type" 85 := OwnIs.ofK (y := none) O (hcls O hK) (hn_ok O hK) (by rw [hK]; kernel_rfl) (by rw [hK]; with_unfolding_all rfl) rfl (by rw [hK]; kernel_rfl) (by decide) (by rw [typeLookup_type, builtinLookup_eq_fast]; kernel_rfl)
theorem ow_get (O : B.Ok) (hK : B.K = Mine.hd.heap_39 p) : OwnIs B 186 "get" 133 := OwnIs.ofK (y := none) O (hcls O hK) (hn_ok O hK) (by rw [hK]; kernel_rfl) (by rw [hK]; with_unfolding_all rfl) rfl (by rw [hK]; kernel_rfl) (by decide) (by rw [typeLookup_type, builtinLookup_eq_fast]; kernel_rfl)
theorem ow_items (O : B.Ok) (hK : B.K = Mine.hd.heap_39 p) : OwnIs B 186 "items" 150 := OwnIs.ofK (y := none) O (hcls O hK) (hn_ok O hK) (by rw [hK]; kernel_rfl) (by rw [hK]; with_unfolding_all rfl) rfl (by rw [hK]; kernel_rfl) (by decide) (by rw [typeLookup_type, builtinLookup_eq_fast]; kernel_rfl)
theorem sp_ddelitemd (O : B.Ok) (hK : B.K = Mine.hd.heap_39 p) : SpecIs B 186 "__delitem__" 104 := ⟨by rw [hK]; kernel_rfl, by rw [hK]; kernel_rfl, by rw [hK]; kernel_rfl⟩
theorem sp_dsetitemd (O : B.Ok) (hK : B.K = Mine.hd.heap_39 p) : SpecIs B 186 "__setitem__" 99 := ⟨by rw [hK]; kernel_rfl, by rw [hK]; kernel_rfl, by rw [hK]; kernel_rfl⟩
theorem fi_dinitd (O : B.Ok) (hK : B.K = Mine.hd.heap_39 p) : findIn B.K (.ref 186) "__init__" = some (some (.ref 78)) := by rw [hK]; kernel_rfl
theorem ty_dinitd (O : B.Ok) (hK : B.K = Mine.hd.heap_39 p) : typeIn B.K (.ref 78) = some (.type "function") := by rw [hK]; kernel_rfl
noncomputable def f_H__convert_string_type (sns : List Int) : GF := funX (xPlain 3) 1
  (sSeq (sIf (tCmp .Is (mCall gType (lCons (mVar 1) lNil)) (mFix (.type "str"))) (sSeq (sSet 3 (mIf (tVal (mVar 2)) (mFix (.ref 58)) (mFix (.ref 63))))
   (sSeq (sIf (tVal (mMeth (isPat2 58 63) (gPat2 58 63) (mVar 3) (lCons (mVar 1) lNil))) (sSeq sNone
   sNil) sNil)
   (sSeq (sRet (mVar 1))
   sNil))) sNil)
   (sSeq sNone
   sNil))
set_option maxHeartbeats 4000000 in
theorem ok_H__convert_string_type (O : B.Ok) (hK : B.K = Mine.hd.heap_39 p) : CodeOk B 4 (.ref 85) (kwMk "name") (f_H__convert_string_type B.sns) := by
  refine code_fun (n := 3) (Γ := ⟨_, ["self", "value", "name", "regex"]⟩) O (FunIs.ofK O (by rw [hK]; with_unfolding_all rfl) rfl rfl rfl (by rw [hK]; with_unfolding_all rfl) rfl rfl rfl rfl rfl rfl rfl rfl rfl (by decide +kernel) (by decide +kernel) (by decide +kernel) (by decide +kernel)) ?_ (by decide) ?_
  · exact (snd_seq (snd_sif (snd_t_cmp (snd_call (snd_blt O rfl (bn_type O hK) bb_type) (.type _) (snd_cons (snd_name 1 rfl) snd_nil) call_type) (snd_blt O rfl (bn_str O hK) bb_str)) (snd_seq (snd_set 3 (snd_if (snd_t_val (snd_name 2 rfl)) (snd_glob O rfl (gl__name_disallowed_re O hK)) (snd_glob O rfl (gl__value_disallowed_re O hK))) rfl)
   (snd_seq (snd_sif (snd_t_val (snd_meth (isPat_ok (re_name O hK) (re_value O hK)) re_plain re_slot re_type (call_pat (re_name O hK) (re_value O hK)) (snd_name 3 rfl) (snd_cons (snd_name 1 rfl) snd_nil))) (snd_seq snd_snone
   snd_snil) snd_snil)
   (snd_seq (snd_ret (snd_name 1 rfl))
   snd_snil))) snd_snil)
   (snd_seq snd_snone
   snd_snil))
  · exact (bind_plain rfl (len3 fun a0 a1 a2 => rfl))
noncomputable def f_H_get (sns : List Int) : GF := funX (xDflt 2 [.none]) 2
  (sSeq (sSet 1 (mOwnK 186 (f_H__convert_string_type sns) (mVar 0) (lCons (mMeth isStrMV gLower (mVar 1) lNil) lNil) (mBool true)))
   (sSeq (sFor 4000 (.two 3 4) (iVal (mAttr 186 (mVar 0))) (sSeq (sIf (tCmp .Eq (mMeth isStrMV gLower (mVar 3) lNil) (mVar 1)) (sSeq (sRet (mVar 4))
   sNil) sNil)
   sNil) sNil)
   (sSeq (sRet (mVar 2))
   sNil)))
set_option maxHeartbeats 4000000 in
theorem ok_H_get (O : B.Ok) (hK : B.K = Mine.hd.heap_39 p) : CodeOk B 6 (.ref 133) plainMk (f_H_get B.sns) := by
  refine code_fun (n := 3) (Γ := ⟨_, ["self", "name", "default", "k", "v"]⟩) O (FunIs.ofK O (by rw [hK]; with_unfolding_all rfl) rfl rfl rfl (by rw [hK]; with_unfolding_all rfl) rfl rfl rfl rfl rfl rfl rfl rfl rfl (by decide +kernel) (by decide +kernel) (by decide +kernel) (by decide +kernel)) ?_ (by decide) ?_
  · exact (snd_seq (snd_set 1 (snd_ownk O (ow__convert_string_type O hK) ((ok_H__convert_string_type O hK).le) (snd_name 0 rfl) (snd_cons (snd_meth isStrMV_ok PySem.F.plainAttrs_str PySem.F.slot_str_lower PySem.F.type_str_lower call_lower (snd_name 1 rfl) snd_nil) snd_nil) snd_bool) rfl)
   (snd_seq (snd_for (.two 3 4 _ _ _ _ _ _ rfl (by decide) rfl (by decide)) (snd_ival (snd_attr (hcls O hK) (snd_name 0 rfl) rfl)) (snd_seq (snd_sif (snd_t_cmp (snd_meth isStrMV_ok PySem.F.plainAttrs_str PySem.F.slot_str_lower PySem.F.type_str_lower call_lower (snd_name 3 rfl) snd_nil) (snd_name 1 rfl)) (snd_seq (snd_ret (snd_name 4 rfl))
   snd_snil) snd_snil)
   snd_snil) snd_snil)
   (snd_seq (snd_ret (snd_name 2 rfl))
   snd_snil)))
  · exact (bind_dflt1 (du := [.none]) O rfl (fun _ _ => .cons .none .nil) rfl (by rw [hK]; with_unfolding_all rfl) rfl (len2 fun a0 a1 => fun A Q E s hg hq => by show wpAny _ _ (seqItems? (.ref _) >>= _) _ _ _; exact wpAny_bind (wpAny_seqItems hg rfl (wpAny_pure hq))))
noncomputable def f_H_items (sns : List Int) : GF := funX (xPlain 1) 0
  (sSeq (sRet (mCut sns (mAttr 186 (mVar 0)) pNone pNone pNone))
   sNil)
set_option maxHeartbeats 4000000 in
theorem ok_H_items (O : B.Ok) (hK : B.K = Mine.hd.heap_39 p) : CodeOk B 4 (.ref 150) plainMk (f_H_items B.sns) := by
  refine code_fun (n := 1) (Γ := ⟨_, ["self"]⟩) O (FunIs.ofK O (by rw [hK]; with_unfolding_all rfl) rfl rfl rfl (by rw [hK]; with_unfolding_all rfl) rfl rfl rfl rfl rfl rfl rfl rfl rfl (by decide +kernel) (by decide +kernel) (by decide +kernel) (by decide +kernel)) ?_ (by decide) ?_
  · exact (snd_seq (snd_ret (snd_cut O (snd_attr (hcls O hK) (snd_name 0 rfl) rfl) snd_pnone snd_pnone snd_pnone))
   snd_snil)
  · exact (bind_plain rfl (len1 fun a0 => rfl))
noncomputable def f__law_halved (sns : List Int) : GF := funX (xPlain 2) 1
  (sSeq (sSet 2 (mInt 0))
   (sSeq (whileGo (tCmp .Eq (mBin .Mod (mVar 0) (mInt 2)) (mBin .Mod (mVar 1) (mInt 2))) (sSeq (sSwap3 0 1 2 (mTup (lCons (mBin .FloorDiv (mVar 0) (mInt 2)) (lCons (mBin .FloorDiv (mVar 1) (mInt 2)) (lCons (mBin .Add (mVar 2) (mInt 1)) lNil)))))
   sNil) sNil 4000)
   (sSeq (sRet (mBin .Add (mBin .Mult (mInt 2) (mVar 2)) (mBin .Mod (mVar 0) (mInt 2))))
   sNil)))
set_option maxHeartbeats 4000000 in
theorem ok__law_halved (O : B.Ok) (hK : B.K = Mine.hd.heap_39 p) : CodeOk B 4 (.ref 231) plainMk (f__law_halved B.sns) := by
  refine code_fun (n := 2) (Γ := ⟨_, ["own", "beside", "place"]⟩) O (FunIs.ofK O (by rw [hK]; with_unfolding_all rfl) rfl rfl rfl (by rw [hK]; with_unfolding_all rfl) rfl rfl rfl rfl rfl rfl rfl rfl rfl (by decide +kernel) (by decide +kernel) (by decide +kernel) (by decide +kernel)) ?_ (by decide) ?_
  · exact (snd_seq (snd_set 2 snd_int rfl)
   (snd_seq (snd_while (snd_t_cmp (snd_bin (snd_name 0 rfl) snd_int) (snd_bin (snd_name 1 rfl) snd_int)) (snd_seq (snd_swap3 (snd_tup (snd_cons (snd_bin (snd_name 0 rfl) snd_int) (snd_cons (snd_bin (snd_name 1 rfl) snd_int) (snd_cons (snd_bin (snd_name 2 rfl) snd_int) snd_nil)))) rfl rfl rfl (by intros; rfl) (fun env hk hn => swaps3 hk hn rfl rfl rfl rfl rfl (by decide +kernel) (by decide +kernel) (by decide +kernel) (by decide +kernel) (by decide +kernel)))
   snd_snil) snd_snil)
   (snd_seq (snd_ret (snd_bin (snd_bin snd_int (snd_name 2 rfl)) (snd_bin (snd_name 0 rfl) snd_int)))
   snd_snil)))
  · exact (bind_plain rfl (len2 fun a0 a1 => rfl))
noncomputable def f__law_number (sns : List Int) : GF := funX (xPlain 1) 2
  (sSeq (sSet 1 (mInt 0))
   (sSeq (sFor 4000 (.one 2) (iVal (mVar 0)) (sSeq (sSet 1 (mBin .Sub (mBin .Add (mBin .Mult (mInt 16) (mVar 1)) (mCall gOrd (lCons (mVar 2) lNil))) (mInt 65)))
   sNil) sNil)
   (sSeq (sRet (mVar 1))
   sNil)))
set_option maxHeartbeats 4000000 in
theorem ok__law_number (O : B.Ok) (hK : B.K = Mine.hd.heap_39 p) : CodeOk B 4 (.ref 202) plainMk (f__law_number B.sns) := by
  refine code_fun (n := 1) (Γ := ⟨_, ["word", "number", "letter"]⟩) O (FunIs.ofK O (by rw [hK]; with_unfolding_all rfl) rfl rfl rfl (by rw [hK]; with_unfolding_all rfl) rfl rfl rfl rfl rfl rfl rfl rfl rfl (by decide +kernel) (by decide +kernel) (by decide +kernel) (by decide +kernel)) ?_ (by decide) ?_
  · exact (snd_seq (snd_set 1 snd_int rfl)
   (snd_seq (snd_for (.one 2 _ _ rfl (by decide)) (snd_ival (snd_name 0 rfl)) (snd_seq (snd_set 1 (snd_bin (snd_bin (snd_bin snd_int (snd_name 1 rfl)) (snd_call (snd_blt O rfl (bn_ord O hK) bb_ord) (.builtin _) (snd_cons (snd_name 2 rfl) snd_nil) call_ord)) snd_int) rfl)
   snd_snil) snd_snil)
   (snd_seq (snd_ret (snd_name 1 rfl))
   snd_snil)))
  · exact (bind_plain rfl (len1 fun a0 => rfl))
noncomputable def f_H_ddelitemd (sns : List Int) : GF := funX (xPlain 2) 0
  (sSeq (sSet 1 (mOwnK 186 (f_H__convert_string_type sns) (mVar 0) (lCons (mMeth isStrMV gLower (mVar 1) lNil) lNil) (mBool true)))
   (sSeq (sSetAll (mAttr 186 (mVar 0)) (mComp 4000 (.one 1) (iVal (mAttr 186 (mVar 0))) (tCmp .NotEq (mMeth isStrMV gLower (mSub (mVar 1) (mInt 0)) lNil) (mVar 2)) (mVar 1) 2 [1]))
   sNil))
set_option maxHeartbeats 4000000 in
theorem ok_H_ddelitemd (O : B.Ok) (hK : B.K = Mine.hd.heap_39 p) : CodeOk B 6 (.ref 104) plainMk (f_H_ddelitemd B.sns) := by
  refine code_fun (n := 2) (Γ := ⟨_, ["self", "name"]⟩) O (FunIs.ofK O (by rw [hK]; with_unfolding_all rfl) rfl rfl rfl (by rw [hK]; with_unfolding_all rfl) rfl rfl rfl rfl rfl rfl rfl rfl rfl (by decide +kernel) (by decide +kernel) (by decide +kernel) (by decide +kernel)) ?_ (by decide) ?_
  · exact (snd_seq (snd_set 1 (snd_ownk O (ow__convert_string_type O hK) ((ok_H__convert_string_type O hK).le) (snd_name 0 rfl) (snd_cons (snd_meth isStrMV_ok PySem.F.plainAttrs_str PySem.F.slot_str_lower PySem.F.type_str_lower call_lower (snd_name 1 rfl) snd_nil) snd_nil) snd_bool) rfl)
   (snd_seq (snd_ssall (snd_attr (hcls O hK) (snd_name 0 rfl) rfl) (snd_comp (Γ' := ⟨_, [".0", "kv", "name"]⟩) (k := 2) (ci := [1]) ⟨rfl, by decide +kernel, by decide +kernel, by decide +kernel, rfl, by decide +kernel, by decide +kernel, by rfl, by decide, by decide +kernel⟩ (.one 1 _ _ rfl (by decide)) rfl (snd_ival (snd_attr (hcls O hK) (snd_name 0 rfl) rfl)) (snd_cone (snd_t_cmp (snd_meth isStrMV_ok PySem.F.plainAttrs_str PySem.F.slot_str_lower PySem.F.type_str_lower call_lower (snd_sub (snd_name 1 rfl) snd_int) snd_nil) (snd_name 2 rfl))) (snd_name 1 rfl)))
   snd_snil))
  · exact (bind_plain rfl (len2 fun a0 a1 => rfl))
noncomputable def f_H_dsetitemd (sns : List Int) : GF := funX (xPlain 3) 0
  (sSeq (sDelOwn 186 (f_H_ddelitemd sns) (mVar 0) (mVar 1))
   (sSeq (sExpr (mMeth isListMV gAppend (mAttr 186 (mVar 0)) (lCons (mTup (lCons (mOwnK 186 (f_H__convert_string_type sns) (mVar 0) (lCons (mVar 1) lNil) (mBool true)) (lCons (mOwnK 186 (f_H__convert_string_type sns) (mVar 0) (lCons (mVar 2) lNil) (mBool false)) lNil))) lNil)))
   sNil))
set_option maxHeartbeats 4000000 in
theorem ok_H_dsetitemd (O : B.Ok) (hK : B.K = Mine.hd.heap_39 p) : CodeOk B 8 (.ref 99) plainMk (f_H_dsetitemd B.sns) := by
  refine code_fun (n := 3) (Γ := ⟨_, ["self", "name", "val"]⟩) O (FunIs.ofK O (by rw [hK]; with_unfolding_all rfl) rfl rfl rfl (by rw [hK]; with_unfolding_all rfl) rfl rfl rfl rfl rfl rfl rfl rfl rfl (by decide +kernel) (by decide +kernel) (by decide +kernel) (by decide +kernel)) ?_ (by decide) ?_
  · exact (snd_seq (snd_delown O (sp_ddelitemd O hK) ((ok_H_ddelitemd O hK).call.le) (snd_name 0 rfl) (snd_name 1 rfl))
   (snd_seq (snd_expr (snd_meth isListMV_ok PySem.F.plainAttrs_list PySem.F.slot_list_append PySem.type_list_append call_append (snd_attr (hcls O hK) (snd_name 0 rfl) rfl) (snd_cons (snd_tup (snd_cons (snd_ownk O (ow__convert_string_type O hK) ((ok_H__convert_string_type O hK).le) (snd_name 0 rfl) (snd_cons (snd_name 1 rfl) snd_nil) snd_bool) (snd_cons (snd_ownk O (ow__convert_string_type O hK) ((ok_H__convert_string_type O hK).le) (snd_name 0 rfl) (snd_cons (snd_name 2 rfl) snd_nil) snd_bool) snd_nil))) snd_nil)))
   snd_snil))
  · exact (bind_plain rfl (len3 fun a0 a1 a2 => rfl))
noncomputable def f_Int2AP (sns : List Int) : GF := funX (xPlain 1) 3
  (sSeq (sSet 1 (mBytes []))
   (sSeq (sSet 2 (mBytes [65, 66, 67, 68, 69, 70, 71, 72, 73, 74, 75, 76, 77, 78, 79, 80]))
   (sSeq (sSet 0 (mCall gInt (lCons (mCall gAbs (lCons (mVar 0) lNil)) lNil)))
   (sSeq (whileGo (tVal (mVar 0)) (sSeq (sSet2 0 3 (mCall gDivmod (lCons (mVar 0) (lCons (mInt 16) lNil))))
   (sSeq (sSet 1 (mBin .Add (mCut sns (mVar 2) (pInt (mVar 3)) (pInt (mBin .Add (mVar 3) (mInt 1))) pNone) (mVar 1)))
   sNil)) sNil 4000)
   (sSeq (sRet (mVar 1))
   sNil)))))
set_option maxHeartbeats 4000000 in
theorem ok_Int2AP (O : B.Ok) (hK : B.K = Mine.hd.heap_39 p) : CodeOk B 4 (.ref 53) plainMk (f_Int2AP B.sns) := by
  refine code_fun (n := 1) (Γ := ⟨_, ["num", "val", "AP", "mod"]⟩) O (FunIs.ofK O (by rw [hK]; with_unfolding_all rfl) rfl rfl rfl (by rw [hK]; with_unfolding_all rfl) rfl rfl rfl rfl rfl rfl rfl rfl rfl (by decide +kernel) (by decide +kernel) (by decide +kernel) (by decide +kernel)) ?_ (by decide) ?_
  · exact (snd_seq (snd_set 1 snd_bytes rfl)
   (snd_seq (snd_set 2 snd_bytes rfl)
   (snd_seq (snd_set 0 (snd_call (snd_blt O rfl (bn_int O hK) bb_int) (.type _) (snd_cons (snd_call (snd_blt O rfl (bn_abs O hK) bb_abs) (.builtin _) (snd_cons (snd_name 0 rfl) snd_nil) call_abs) snd_nil) call_int) rfl)
   (snd_seq (snd_while (snd_t_val (snd_name 0 rfl)) (snd_seq (snd_set2 (snd_call (snd_blt O rfl (bn_divmod O hK) bb_divmod) (.builtin _) (snd_cons (snd_name 0 rfl) (snd_cons snd_int snd_nil)) call_divmod) rfl rfl)
   (snd_seq (snd_set 1 (snd_bin (snd_cut O (snd_name 2 rfl) (snd_pint (snd_name 3 rfl)) (snd_pint (snd_bin (snd_name 3 rfl) snd_int)) snd_pnone) (snd_name 1 rfl)) rfl)
   snd_snil)) snd_snil)
   (snd_seq (snd_ret (snd_name 1 rfl))
   snd_snil)))))
  · exact (bind_plain rfl (len1 fun a0 => rfl))
noncomputable def f__law_word (sns : List Int) : GF := funX (xPlain 1) 0
  (sSeq (sRet (mMeth isStrMV gJoin (mStr []) (lCons (mComp 4000 (.one 1) (iVal (mCall (f_Int2AP sns) (lCons (mVar 0) lNil))) tTrue (mCall gChr (lCons (mVar 1) lNil)) 2 []) lNil)))
   sNil)
set_option maxHeartbeats 4000000 in
theorem ok__law_word (O : B.Ok) (hK : B.K = Mine.hd.heap_39 p) : CodeOk B 6 (.ref 195) plainMk (f__law_word B.sns) := by
  refine code_fun (n := 1) (Γ := ⟨_, ["number"]⟩) O (FunIs.ofK O (by rw [hK]; with_unfolding_all rfl) rfl rfl rfl (by rw [hK]; with_unfolding_all rfl) rfl rfl rfl rfl rfl rfl rfl rfl rfl (by decide +kernel) (by decide +kernel) (by decide +kernel) (by decide +kernel)) ?_ (by decide) ?_
  · exact (snd_seq (snd_ret (snd_meth isStrMV_ok PySem.F.plainAttrs_str PySem.F.slot_str_join PySem.F.type_str_join call_join snd_str (snd_cons (snd_comp (Γ' := ⟨_, [".0", "octet"]⟩) (k := 2) (ci := []) ⟨rfl, by decide +kernel, by decide +kernel, by decide +kernel, rfl, by decide +kernel, by decide +kernel, by rfl, by decide, by decide +kernel⟩ (.one 1 _ _ rfl (by decide)) rfl (snd_ival (snd_call (snd_glob O rfl (gl_Int2AP O hK)) (.kept _ O (kp_53 O hK)) (snd_cons (snd_name 0 rfl) snd_nil) ((ok_Int2AP O hK).call.le))) snd_cnil (snd_call (snd_blt O rfl (bn_chr O hK) bb_chr) (.builtin _) (snd_cons (snd_name 1 rfl) snd_nil) call_chr)) snd_nil)))
   snd_snil)
  · exact (bind_plain rfl (len1 fun a0 => rfl))
noncomputable def f_pretty_flags (sns : List Int) : GF := funX (xPlain 1) 3
  (sSeq (sSet 1 (mList lNil))
   (sSeq (sFor 4000 (.one 2) (iRange (lCons (mInt 32) lNil)) (sSeq (sSet 3 (mBin .LShift (mInt 1) (mVar 2)))
   (sSeq (sIf (tVal (mBin .BitAnd (mVar 0) (mVar 3))) (sSeq (sExpr (mMeth isListMV gAppend (mVar 1) (lCons (mMeth (isFix 39) (gDget 39 flagTbl) (mFix (.ref 39)) (lCons (mVar 3) (lCons (mCall gHex (lCons (mVar 3) lNil)) lNil))) lNil)))
   (sSeq (sAug .BitXor 0 (mVar 3))
   (sSeq (sIf (tNot (tVal (mVar 0))) (sSeq sBrk
   sNil) sNil)
   sNil))) sNil)
   sNil)) (sSeq (sExpr (mMeth isListMV gAppend (mVar 1) (lCons (mCall gHex (lCons (mVar 0) lNil)) lNil)))
   sNil))
   (sSeq (sRet (mMeth isStrMV gJoin (mStr [44, 32]) (lCons (mVar 1) lNil)))
   sNil)))
set_option maxHeartbeats 4000000 in
theorem ok_pretty_flags (O : B.Ok) (hK : B.K = Mine.hd.heap_39 p) : CodeOk B 4 (.ref 46) plainMk (f_pretty_flags B.sns) := by
  refine code_fun (n := 1) (Γ := ⟨_, ["flags", "names", "i", "flag"]⟩) O (FunIs.ofK O (by rw [hK]; with_unfolding_all rfl) rfl rfl rfl (by rw [hK]; with_unfolding_all rfl) rfl rfl rfl rfl rfl rfl rfl rfl rfl (by decide +kernel) (by decide +kernel) (by decide +kernel) (by decide +kernel)) ?_ (by decide) ?_
  · exact (snd_seq (snd_set 1 (snd_list snd_nil) rfl)
   (snd_seq (snd_for (.one 2 _ _ rfl (by decide)) (snd_irange (snd_blt O rfl (bn_range O hK) bb_range) (snd_cons snd_int snd_nil)) (snd_seq (snd_set 3 (snd_bin snd_int (snd_name 2 rfl)) rfl)
   (snd_seq (snd_sif (snd_t_val (snd_bin (snd_name 0 rfl) (snd_name 3 rfl))) (snd_seq (snd_expr (snd_meth isListMV_ok PySem.F.plainAttrs_list PySem.F.slot_list_append PySem.type_list_append call_append (snd_name 1 rfl) (snd_cons (snd_meth (isFix_dict (di_flags O hK)) PySem.F.plainAttrs_dict PySem.F.slot_dict_get PySem.F.type_dict_get (call_dget (di_flags O hK)) (snd_glob O rfl (gl_COMPILER_FLAG_NAMES O hK)) (snd_cons (snd_name 3 rfl) (snd_cons (snd_call (snd_blt O rfl (bn_hex O hK) bb_hex) (.builtin _) (snd_cons (snd_name 3 rfl) snd_nil) call_hex) snd_nil))) snd_nil)))
   (snd_seq (snd_aug 0 (snd_name 3 rfl) rfl)
   (snd_seq (snd_sif (snd_t_not (snd_t_val (snd_name 0 rfl))) (snd_seq snd_brk
   snd_snil) snd_snil)
   snd_snil))) snd_snil)
   snd_snil)) (snd_seq (snd_expr (snd_meth isListMV_ok PySem.F.plainAttrs_list PySem.F.slot_list_append PySem.type_list_append call_append (snd_name 1 rfl) (snd_cons (snd_call (snd_blt O rfl (bn_hex O hK) bb_hex) (.builtin _) (snd_cons (snd_name 0 rfl) snd_nil) call_hex) snd_nil)))
   snd_snil))
   (snd_seq (snd_ret (snd_meth isStrMV_ok PySem.F.plainAttrs_str PySem.F.slot_str_join PySem.F.type_str_join call_join snd_str (snd_cons (snd_name 1 rfl) snd_nil)))
   snd_snil)))
  · exact (bind_plain rfl (len1 fun a0 => rfl))
noncomputable def f_H_dinitd (sns : List Int) : GF := funX (xDflt 2 []) 2
  (sSeq (sSet 1 (mIf (tCmp .IsNot (mVar 1) mNone) (mVar 1) (mList lNil)))
   (sSeq (sIf (tCmp .IsNot (mCall gType (lCons (mVar 1) lNil)) (mFix (.type "list"))) (sSeq sNone
   sNil) sNil)
   (sSeq (sAttr 186 (mVar 0) (mVar 1))
   (sSeq (sIf (tVal (mBool true)) (sSeq (sFor 4000 (.two 2 3) (iVal (mVar 1)) (sSeq (sExpr (mOwnK 186 (f_H__convert_string_type sns) (mVar 0) (lCons (mVar 2) lNil) (mBool true)))
   (sSeq (sExpr (mOwnK 186 (f_H__convert_string_type sns) (mVar 0) (lCons (mVar 3) lNil) (mBool false)))
   sNil)) sNil)
   sNil) sNil)
   sNil))))
set_option maxHeartbeats 4000000 in
theorem ok_H_dinitd (O : B.Ok) (hK : B.K = Mine.hd.heap_39 p) : CodeOk B 6 (.ref 78) plainMk (f_H_dinitd B.sns) := by
  refine code_fun (n := 2) (Γ := ⟨_, ["self", "headers", "k", "v"]⟩) O (FunIs.ofK O (by rw [hK]; with_unfolding_all rfl) rfl rfl rfl (by rw [hK]; with_unfolding_all rfl) rfl rfl rfl rfl rfl rfl rfl rfl rfl (by decide +kernel) (by decide +kernel) (by decide +kernel) (by decide +kernel)) ?_ (by decide) ?_
  · exact (snd_seq (snd_set 1 (snd_if (snd_t_cmp (snd_name 1 rfl) snd_none) (snd_name 1 rfl) (snd_list snd_nil)) rfl)
   (snd_seq (snd_sif (snd_t_cmp (snd_call (snd_blt O rfl (bn_type O hK) bb_type) (.type _) (snd_cons (snd_name 1 rfl) snd_nil) call_type) (snd_blt O rfl (bn_list O hK) bb_list)) (snd_seq snd_snone
   snd_snil) snd_snil)
   (snd_seq (snd_sattr (hcls O hK) (snd_name 0 rfl) (snd_name 1 rfl) rfl)
   (snd_seq (snd_sif (snd_t_val snd_bool) (snd_seq (snd_for (.two 2 3 _ _ _ _ _ _ rfl (by decide) rfl (by decide)) (snd_ival (snd_name 1 rfl)) (snd_seq (snd_expr (snd_ownk O (ow__convert_string_type O hK) ((ok_H__convert_string_type O hK).le) (snd_name 0 rfl) (snd_cons (snd_name 2 rfl) snd_nil) snd_bool))
   (snd_seq (snd_expr (snd_ownk O (ow__convert_string_type O hK) ((ok_H__convert_string_type O hK).le) (snd_name 0 rfl) (snd_cons (snd_name 3 rfl) snd_nil) snd_bool))
   snd_snil)) snd_snil)
   snd_snil) snd_snil)
   snd_snil))))
  · exact (bind_dflt1 (du := []) O rfl (fun _ _ => .nil) rfl (by rw [hK]; with_unfolding_all rfl) rfl (len2 fun a0 a1 => fun A Q E s hg hq => by show wpAny _ _ (seqItems? (.ref _) >>= _) _ _ _; exact wpAny_bind (wpAny_seqItems hg rfl (wpAny_pure hq))))
end
end Mine
end
section
open PySem PySem.W PyProof.Rows PySem.Spec PySem.Calls
set_option linter.unusedVariables false
set_option maxRecDepth 100000
namespace Mine
section
variable {B : Base} {p : Params}
noncomputable def prettyF (sns : List Int) : GF := aloneF (f_pretty_flags sns)
theorem ok_prettyF (O : B.Ok) (hK : B.K = Mine.hd.heap_39 p) : CodeOk B 4 (.ref 46) plainMk (prettyF B.sns) := (ok_pretty_flags O hK).aloneF
noncomputable def f_low2 (sns : List Int) : GF := funX (xPlain 1) 1
  (sSeq (sSet 1 (mList (lCons (mStr [79, 80, 84, 73, 77, 73, 90, 69, 68]) (lCons (mStr [78, 69, 87, 76, 79, 67, 65, 76, 83]) (lCons (mStr [86, 65, 82, 65, 82, 71, 83]) (lCons (mStr [86, 65, 82, 75, 69, 89, 87, 79, 82, 68, 83]) (lCons (mStr [78, 69, 83, 84, 69, 68]) (lCons (mStr [71, 69, 78, 69, 82, 65, 84, 79, 82]) (lCons (mStr [78, 79, 70, 82, 69, 69]) (lCons (mStr [67, 79, 82, 79, 85, 84, 73, 78, 69]) lNil))))))))))
   (sSeq (sExpr (mMeth isListMV gExtend (mVar 1) (lCons (mList (lCons (mStr [73, 84, 69, 82, 65, 66, 76, 69, 95, 67, 79, 82, 79, 85, 84, 73, 78, 69]) (lCons (mStr [65, 83, 89, 78, 67, 95, 71, 69, 78, 69, 82, 65, 84, 79, 82]) lNil))) lNil)))
   (sSeq (sRet (mMeth isListMV gIndex (mVar 1) (lCons (mSub (mMeth isStrMV gSplit (mCall (prettyF sns) (lCons (mVar 0) lNil)) (lCons (mStr [44, 32]) lNil)) (mInt 0)) lNil)))
   sNil)))
set_option maxHeartbeats 4000000 in
theorem ok_low2 (O : B.Ok) (hK : B.K = Mine.hd.heap_39 p) : CodeOk B 6 (.ref 214) plainMk (f_low2 B.sns) := by
  refine code_fun (n := 1) (Γ := ⟨_, ["number", "names"]⟩) O (FunIs.ofK O (by rw [hK]; with_unfolding_all rfl) rfl rfl rfl (by rw [hK]; with_unfolding_all rfl) rfl rfl rfl rfl rfl rfl rfl rfl rfl (by decide +kernel) (by decide +kernel) (by decide +kernel) (by decide +kernel)) ?_ (by decide) ?_
  · exact (snd_seq (snd_set 1 (snd_list (snd_cons snd_str (snd_cons snd_str (snd_cons snd_str (snd_cons snd_str (snd_cons snd_str (snd_cons snd_str (snd_cons snd_str (snd_cons snd_str snd_nil))))))))) rfl)
   (snd_seq (snd_expr (snd_meth isListMV_ok PySem.F.plainAttrs_list PySem.F.slot_list_extend PySem.F.type_list_extend call_extend (snd_name 1 rfl) (snd_cons (snd_list (snd_cons snd_str (snd_cons snd_str snd_nil))) snd_nil)))
   (snd_seq (snd_ret (snd_meth isListMV_ok PySem.F.plainAttrs_list PySem.F.slot_list_index PySem.F.type_list_index call_index (snd_name 1 rfl) (snd_cons (snd_sub (snd_meth isStrMV_ok PySem.F.plainAttrs_str PySem.F.slot_str_split PySem.F.type_str_split call_split (snd_call (snd_glob O rfl (gl_pretty_flags O hK)) (.kept _ O (kp_46 O hK)) (snd_cons (snd_name 0 rfl) snd_nil) ((ok_prettyF O hK).call.le)) (snd_cons snd_str snd_nil)) snd_int) snd_nil)))
   snd_snil)))
  · exact (bind_plain rfl (len1 fun a0 => rfl))
noncomputable def wordF (sns : List Int) : GF := aloneF (f__law_word sns)
theorem ok_wordF (O : B.Ok) (hK : B.K = Mine.hd.heap_39 p) : CodeOk B 6 (.ref 195) plainMk (wordF B.sns) := (ok__law_word O hK).aloneF
noncomputable def numF (sns : List Int) : GF := aloneF (f__law_number sns)
theorem ok_numF (O : B.Ok) (hK : B.K = Mine.hd.heap_39 p) : CodeOk B 4 (.ref 202) plainMk (numF B.sns) := (ok__law_number O hK).aloneF
noncomputable def lowF (sns : List Int) : GF := aloneF (f_low2 sns)
theorem ok_lowF (O : B.Ok) (hK : B.K = Mine.hd.heap_39 p) : CodeOk B 6 (.ref 214) plainMk (lowF B.sns) := (ok_low2 O hK).aloneF
noncomputable def f_table3 (sns : List Int) : GF := funX (xPlain 2) 0
  (sSeq (sRet (mCall (gMake 186 (f_H_dinitd sns)) (lCons (mComp 4000 (.two 1 2) (iZip (lCons (mVar 0) (lCons (mVar 1) lNil))) tTrue (mTup (lCons (mVar 1) (lCons (mCall (wordF sns) (lCons (mVar 2) lNil)) lNil))) 3 []) lNil)))
   sNil)
set_option maxHeartbeats 4000000 in
theorem ok_table3 (O : B.Ok) (hK : B.K = Mine.hd.heap_39 p) : CodeOk B 9 (.ref 207) plainMk (f_table3 B.sns) := by
  refine code_fun (n := 2) (Γ := ⟨_, ["names", "numbers"]⟩) O (FunIs.ofK O (by rw [hK]; with_unfolding_all rfl) rfl rfl rfl (by rw [hK]; with_unfolding_all rfl) rfl rfl rfl rfl rfl rfl rfl rfl rfl (by decide +kernel) (by decide +kernel) (by decide +kernel) (by decide +kernel)) ?_ (by decide) ?_
  · exact (snd_seq (snd_ret (snd_call (snd_glob O rfl (gl_Headers O hK)) (.kept _ O (kp_186 O hK)) (snd_cons (snd_comp (Γ' := ⟨_, [".0", "name", "number"]⟩) (k := 3) (ci := []) ⟨rfl, by decide +kernel, by decide +kernel, by decide +kernel, rfl, by decide +kernel, by decide +kernel, by rfl, by decide, by decide +kernel⟩ (.two 1 2 _ _ _ _ _ _ rfl (by decide) rfl (by decide)) rfl (snd_izip (snd_blt O rfl (bn_zip O hK) bb_zip) (snd_cons (snd_name 0 rfl) (snd_cons (snd_name 1 rfl) snd_nil))) snd_cnil (snd_tup (snd_cons (snd_name 1 rfl) (snd_cons (snd_call (snd_glob O rfl (gl__law_word O hK)) (.kept _ O (kp_195 O hK)) (snd_cons (snd_name 2 rfl) snd_nil) ((ok_wordF O hK).call.le)) snd_nil)))) snd_nil) ((call_make O (mk_cls O hK) (fi_dinitd O hK) (ty_dinitd O hK) (ok_H_dinitd O hK)).le)))
   snd_snil)
  · exact (bind_plain rfl (len2 fun a0 a1 => rfl))
noncomputable def f_round3 (sns : List Int) : GF := funX (xPlain 2) 5
  (sSeq (sSet 2 (mComp 4000 (.one 1) (iVal (mVar 1)) tTrue (mCall (numF sns) (lCons (mOwn 186 (f_H_get sns) (mVar 2) (lCons (mVar 1) lNil)) lNil)) 2 [0]))
   (sSeq (sSet 3 (mList lNil))
   (sSeq (sFor 4000 (.two 4 5) (iZip (lCons (mVar 2) (lCons (mBin .Add (mCut sns (mVar 2) (pInt (mInt 1)) pNone pNone) (mCut sns (mVar 2) pNone (pInt (mInt 1)) pNone)) lNil))) (sSeq (sSet 6 (mCall (lowF sns) (lCons (mBin .BitXor (mVar 4) (mVar 5)) lNil)))
   (sSeq (sExpr (mMeth isListMV gAppend (mVar 3) (lCons (mBin .Add (mBin .Mult (mInt 2) (mVar 6)) (mBin .BitAnd (mBin .RShift (mVar 4) (mVar 6)) (mInt 1))) lNil)))
   sNil)) sNil)
   (sSeq (sRet (mCall (f_table3 sns) (lCons (mVar 1) (lCons (mVar 3) lNil))))
   sNil))))
set_option maxHeartbeats 4000000 in
theorem ok_round3 (O : B.Ok) (hK : B.K = Mine.hd.heap_39 p) : CodeOk B 11 (.ref 219) plainMk (f_round3 B.sns) := by
  refine code_fun (n := 2) (Γ := ⟨_, ["table", "names", "numbers", "new", "own", "beside", "place"]⟩) O (FunIs.ofK O (by rw [hK]; with_unfolding_all rfl) rfl rfl rfl (by rw [hK]; with_unfolding_all rfl) rfl rfl rfl rfl rfl rfl rfl rfl rfl (by decide +kernel) (by decide +kernel) (by decide +kernel) (by decide +kernel)) ?_ (by decide) ?_
  · exact (snd_seq (snd_setcomp (i := 2) (Γ' := ⟨_, [".0", "name", "table"]⟩) (k := 2) (ci := [0]) ⟨rfl, by decide +kernel, by decide +kernel, by decide +kernel, rfl, by decide +kernel, by decide +kernel, by rfl, by decide, by decide +kernel⟩ (.one 1 _ _ rfl (by decide)) rfl (snd_ival (snd_name 1 rfl)) snd_cnil (snd_call (snd_glob O rfl (gl__law_number O hK)) (.kept _ O (kp_202 O hK)) (snd_cons (snd_own O (ow_get O hK) ((ok_H_get O hK).le) (snd_name 2 rfl) (snd_cons (snd_name 1 rfl) snd_nil)) snd_nil) ((ok_numF O hK).call.le)) rfl rfl (fun env hk hn => swaps_true hk hn rfl rfl rfl))
   (snd_seq (snd_set 3 (snd_list snd_nil) rfl)
   (snd_seq (snd_for (.two 4 5 _ _ _ _ _ _ rfl (by decide) rfl (by decide)) (snd_izip (snd_blt O rfl (bn_zip O hK) bb_zip) (snd_cons (snd_name 2 rfl) (snd_cons (snd_bin (snd_cut O (snd_name 2 rfl) (snd_pint snd_int) snd_pnone snd_pnone) (snd_cut O (snd_name 2 rfl) snd_pnone (snd_pint snd_int) snd_pnone)) snd_nil))) (snd_seq (snd_set 6 (snd_call (snd_glob O rfl (gl__law_lowest O hK)) (.kept _ O (kp_214 O hK)) (snd_cons (snd_bin (snd_name 4 rfl) (snd_name 5 rfl)) snd_nil) ((ok_lowF O hK).call.le)) rfl)
   (snd_seq (snd_expr (snd_meth isListMV_ok PySem.F.plainAttrs_list PySem.F.slot_list_append PySem.type_list_append call_append (snd_name 3 rfl) (snd_cons (snd_bin (snd_bin snd_int (snd_name 6 rfl)) (snd_bin (snd_bin (snd_name 4 rfl) (snd_name 6 rfl)) snd_int)) snd_nil)))
   snd_snil)) snd_snil)
   (snd_seq (snd_ret (snd_call (snd_glob O rfl (gl__law_table O hK)) (.kept _ O (kp_207 O hK)) (snd_cons (snd_name 1 rfl) (snd_cons (snd_name 3 rfl) snd_nil)) ((ok_table3 O hK).call.le)))
   snd_snil))))
  · exact (bind_plain rfl (len2 fun a0 a1 => rfl))
noncomputable def f_put3 (sns : List Int) : GF := funX (xPlain 3) 3
  (sSeq (sFor 4000 (.two 3 4) (iEnum (lCons (mVar 1) lNil)) (sSeq (sIf (tCmp .Eq (mOwn 186 (f_H_get sns) (mVar 0) (lCons (mVar 4) lNil)) (mCall (wordF sns) (lCons (mVar 2) lNil))) (sSeq (sSet 5 (mList (lCons (mOwn 186 (f_H_get sns) (mVar 0) (lCons (mSub (mVar 1) (mBin .Sub (mVar 3) (mInt 1))) lNil)) (lCons (mOwn 186 (f_H_get sns) (mVar 0) (lCons (mSub (mVar 1) (mBin .Mod (mBin .Add (mVar 3) (mInt 1)) (mCall (gLen sns) (lCons (mVar 1) lNil)))) lNil)) lNil))))
   (sSeq (sSetOwn 186 (f_H_dsetitemd sns) (mVar 0) (mVar 4) (mSub (mComp 4000 (.one 1) (iRange (lCons (mInt 3) lNil)) (tCmp .NotIn (mCall (wordF sns) (lCons (mVar 1) lNil)) (mVar 2)) (mCall (wordF sns) (lCons (mVar 1) lNil)) 2 [5]) (mInt 0)))
   sNil)) sNil)
   sNil) sNil)
   (sSeq (sRet (mVar 0))
   sNil))
set_option maxHeartbeats 4000000 in
theorem ok_put3 (O : B.Ok) (hK : B.K = Mine.hd.heap_39 p) : CodeOk B 10 (.ref 224) plainMk (f_put3 B.sns) := by
  refine code_fun (n := 3) (Γ := ⟨_, ["table", "names", "number", "k", "name", "taken"]⟩) O (FunIs.ofK O (by rw [hK]; with_unfolding_all rfl) rfl rfl rfl (by rw [hK]; with_unfolding_all rfl) rfl rfl rfl rfl rfl rfl rfl rfl rfl (by decide +kernel) (by decide +kernel) (by decide +kernel) (by decide +kernel)) ?_ (by decide) ?_
  · exact (snd_seq (snd_for (.two 3 4 _ _ _ _ _ _ rfl (by decide) rfl (by decide)) (snd_ienum (snd_blt O rfl (bn_enumerate O hK) bb_enumerate) (snd_cons (snd_name 1 rfl) snd_nil)) (snd_seq (snd_sif (snd_t_cmp (snd_own O (ow_get O hK) ((ok_H_get O hK).le) (snd_name 0 rfl) (snd_cons (snd_name 4 rfl) snd_nil)) (snd_call (snd_glob O rfl (gl__law_word O hK)) (.kept _ O (kp_195 O hK)) (snd_cons (snd_name 2 rfl) snd_nil) ((ok_wordF O hK).call.le))) (snd_seq (snd_set 5 (snd_list (snd_cons (snd_own O (ow_get O hK) ((ok_H_get O hK).le) (snd_name 0 rfl) (snd_cons (snd_sub (snd_name 1 rfl) (snd_bin (snd_name 3 rfl) snd_int)) snd_nil)) (snd_cons (snd_own O (ow_get O hK) ((ok_H_get O hK).le) (snd_name 0 rfl) (snd_cons (snd_sub (snd_name 1 rfl) (snd_bin (snd_bin (snd_name 3 rfl) snd_int) (snd_call (snd_blt O rfl (bn_len O hK) bb_len) (.builtin _) (snd_cons (snd_name 1 rfl) snd_nil) (call_len O)))) snd_nil)) snd_nil))) rfl)
   (snd_seq (snd_ssown O (sp_dsetitemd O hK) ((ok_H_dsetitemd O hK).call.le) (snd_name 0 rfl) (snd_name 4 rfl) (snd_sub (snd_comp (Γ' := ⟨_, [".0", "least", "taken"]⟩) (k := 2) (ci := [5]) ⟨rfl, by decide +kernel, by decide +kernel, by decide +kernel, rfl, by decide +kernel, by decide +kernel, by rfl, by decide, by decide +kernel⟩ (.one 1 _ _ rfl (by decide)) rfl (snd_irange (snd_blt O rfl (bn_range O hK) bb_range) (snd_cons snd_int snd_nil)) (snd_cone (snd_t_cmp (snd_call (snd_glob O rfl (gl__law_word O hK)) (.kept _ O (kp_195 O hK)) (snd_cons (snd_name 1 rfl) snd_nil) ((ok_wordF O hK).call.le)) (snd_name 2 rfl))) (snd_call (snd_glob O rfl (gl__law_word O hK)) (.kept _ O (kp_195 O hK)) (snd_cons (snd_name 1 rfl) snd_nil) ((ok_wordF O hK).call.le))) snd_int))
   snd_snil)) snd_snil)
   snd_snil) snd_snil)
   (snd_seq (snd_ret (snd_name 0 rfl))
   snd_snil))
  · exact (bind_plain rfl (len3 fun a0 a1 a2 => rfl))
noncomputable def f_law3 (sns : List Int) : GF := funX (xPlain 1) 11
  (sSeq (sSet 1 (mBin .Add (mCut sns (mVar 0) pNone (pInt (mInt 6)) pNone) (mCut sns (mList (lCons (mInt 52) (lCons (mInt 23) (lCons (mInt 30) (lCons (mInt 0) (lCons (mInt 1) (lCons (mInt 2) lNil))))))) (pInt (mCall (gLen sns) (lCons (mVar 0) lNil))) pNone pNone)))
   (sSeq (sSet 2 (mBin .Add (mInt 3) (mBin .Mod (mCall gSum (lCons (mVar 1) lNil)) (mInt 4))))
   (sSeq (sSet 3 (mComp 4000 (.two 1 2) (iEnum (lCons (mCut sns (mVar 1) pNone (pInt (mVar 2)) pNone) lNil)) tTrue (mBin .Add (mBin .Mult (mInt 170) (mVar 1)) (mBin .Mod (mVar 2) (mInt 170))) 3 []))
   (sSeq (sSet 4 (mComp 4000 (.one 1) (iRange (lCons (mVar 2) lNil)) tTrue (mCall (wordF sns) (lCons (mBin .Mult (mInt 17) (mBin .Add (mVar 1) (mInt 1))) lNil)) 2 []))
   (sSeq (sSet 5 (mStr [65, 66, 67, 68, 69, 70, 71, 72, 73, 74, 75, 76, 77, 78, 79, 80]))
   (sSeq (sSet 6 (mCall (f_table3 sns) (lCons (mVar 4) (lCons (mVar 3) lNil))))
   (sSeq (sFor 4000 (.one 7) (iVal (mList (lCons (mInt 20) (lCons (mInt 10) (lCons (mInt 8) (lCons (mInt 6) lNil)))))) (sSeq (sSet 6 (mCall (f_round3 sns) (lCons (mVar 6) (lCons (mVar 4) lNil))))
   (sSeq (sSet 8 (mComp 4000 (.one 1) (iVal (mVar 4)) tTrue (mCall (numF sns) (lCons (mOwn 186 (f_H_get sns) (mVar 2) (lCons (mVar 1) lNil)) lNil)) 2 [6]))
   (sSeq (sIf (tOr (tCmp .GtE (mCall gMax (lCons (mVar 8) lNil)) (mVar 7)) (tCmp .NotEq (mComp 4000 (.one 1) (iRange (lCons (mVar 2) lNil)) (tCmp .Eq (mSub (mVar 2) (mVar 1)) (mSub (mVar 2) (mBin .Sub (mVar 1) (mInt 1)))) (mVar 1) 2 [8]) (mList lNil))) (sSeq (sRet (mBool false))
   sNil) sNil)
   (sSeq (sSet 3 (mComp 4000 (.two 1 2) (iZip (lCons (mVar 3) (lCons (mBin .Add (mCut sns (mVar 3) (pInt (mInt 1)) pNone pNone) (mCut sns (mVar 3) pNone (pInt (mInt 1)) pNone)) lNil))) tTrue (mCall (f__law_halved sns) (lCons (mVar 1) (lCons (mVar 2) lNil))) 3 []))
   (sSeq (sSet 9 (mComp 4000 (.one 1) (iVal (mVar 3)) tTrue (mMeth isStrMV gLstrip (mBin .Add (mSub (mVar 2) (mBin .FloorDiv (mVar 1) (mInt 16))) (mSub (mVar 2) (mBin .Mod (mVar 1) (mInt 16)))) (lCons (mStr [65]) lNil)) 2 [5]))
   (sSeq (sIf (tCmp .NotEq (mOwn 186 (f_H_items sns) (mVar 6) lNil) (mComp 4000 (.one 1) (iRange (lCons (mVar 2) lNil)) tTrue (mTup (lCons (mBin .Mult (mSub (mVar 3) (mBin .Add (mVar 1) (mInt 1))) (mInt 2)) (lCons (mSub (mVar 2) (mVar 1)) lNil))) 2 [9, 5])) (sSeq (sRet (mBool false))
   sNil) sNil)
   sNil)))))) sNil)
   (sSeq (sFor 4000 (.one 10) (iVal (mList (lCons (mInt 5) (lCons (mInt 4) (lCons (mInt 3) lNil))))) (sSeq (sSet 6 (mCall (f_put3 sns) (lCons (mVar 6) (lCons (mVar 4) (lCons (mVar 10) lNil)))))
   (sSeq (sFor 4000 (.one 11) (iRange (lCons (mVar 2) lNil)) (sSeq (sIf (tCmp .Eq (mSub (mVar 3) (mVar 11)) (mVar 10)) (sSeq (sSetList (mVar 3) (mVar 11) (mCall gMin (lCons (mComp 4000 (.one 1) (iRange (lCons (mInt 3) lNil)) (tCmp .NotIn (mVar 1) (mList (lCons (mSub (mVar 2) (mBin .Sub (mVar 3) (mInt 1))) (lCons (mSub (mVar 2) (mBin .Mod (mBin .Add (mVar 3) (mInt 1)) (mVar 4))) lNil)))) (mVar 1) 2 [3, 11, 2]) lNil)))
   sNil) sNil)
   sNil) sNil)
   sNil)) sNil)
   (sSeq (sSet 8 (mComp 4000 (.one 1) (iVal (mVar 4)) tTrue (mCall (numF sns) (lCons (mOwn 186 (f_H_get sns) (mVar 2) (lCons (mVar 1) lNil)) lNil)) 2 [6]))
   (sSeq (sIf (tOr (tCmp .Gt (mCall gMax (lCons (mVar 8) lNil)) (mInt 2)) (tCmp .NotEq (mComp 4000 (.one 1) (iRange (lCons (mVar 2) lNil)) (tCmp .Eq (mSub (mVar 2) (mVar 1)) (mSub (mVar 2) (mBin .Sub (mVar 1) (mInt 1)))) (mVar 1) 2 [8]) (mList lNil))) (sSeq (sRet (mBool false))
   sNil) sNil)
   (sSeq (sRet (mCmp .Eq (mVar 8) (mVar 3)))
   sNil)))))))))))
set_option maxHeartbeats 4000000 in
theorem ok_law3 (O : B.Ok) (hK : B.K = Mine.hd.heap_39 p) : CodeOk B 13 (.ref 236) plainMk (f_law3 B.sns) := by
  refine code_fun (n := 1) (Γ := ⟨_, ["script", "drawn", "many", "numbers", "names", "letters", "table", "bound", "told", "words", "number", "k"]⟩) O (FunIs.ofK O (by rw [hK]; with_unfolding_all rfl) rfl rfl rfl (by rw [hK]; with_unfolding_all rfl) rfl rfl rfl rfl rfl rfl rfl rfl rfl (by decide +kernel) (by decide +kernel) (by decide +kernel) (by decide +kernel)) ?_ (by decide) ?_
  · exact (snd_seq (snd_set 1 (snd_bin (snd_cut O (snd_name 0 rfl) snd_pnone (snd_pint snd_int) snd_pnone) (snd_cut O (snd_list (snd_cons snd_int (snd_cons snd_int (snd_cons snd_int (snd_cons snd_int (snd_cons snd_int (snd_cons snd_int snd_nil))))))) (snd_pint (snd_call (snd_blt O rfl (bn_len O hK) bb_len) (.builtin _) (snd_cons (snd_name 0 rfl) snd_nil) (call_len O))) snd_pnone snd_pnone)) rfl)
   (snd_seq (snd_set 2 (snd_bin snd_int (snd_bin (snd_call (snd_blt O rfl (bn_sum O hK) bb_sum) (.builtin _) (snd_cons (snd_name 1 rfl) snd_nil) call_sum) snd_int)) rfl)
   (snd_seq (snd_set 3 (snd_comp (Γ' := ⟨_, [".0", "k", "v"]⟩) (k := 3) (ci := []) ⟨rfl, by decide +kernel, by decide +kernel, by decide +kernel, rfl, by decide +kernel, by decide +kernel, by rfl, by decide, by decide +kernel⟩ (.two 1 2 _ _ _ _ _ _ rfl (by decide) rfl (by decide)) rfl (snd_ienum (snd_blt O rfl (bn_enumerate O hK) bb_enumerate) (snd_cons (snd_cut O (snd_name 1 rfl) snd_pnone (snd_pint (snd_name 2 rfl)) snd_pnone) snd_nil)) snd_cnil (snd_bin (snd_bin snd_int (snd_name 1 rfl)) (snd_bin (snd_name 2 rfl) snd_int))) rfl (hs := fun env _ hn => swaps_cell hn rfl))
   (snd_seq (snd_setcomp (i := 4) (Γ' := ⟨_, [".0", "k"]⟩) (k := 2) (ci := []) ⟨rfl, by decide +kernel, by decide +kernel, by decide +kernel, rfl, by decide +kernel, by decide +kernel, by rfl, by decide, by decide +kernel⟩ (.one 1 _ _ rfl (by decide)) rfl (snd_irange (snd_blt O rfl (bn_range O hK) bb_range) (snd_cons (snd_name 2 rfl) snd_nil)) snd_cnil (snd_call (snd_glob O rfl (gl__law_word O hK)) (.kept _ O (kp_195 O hK)) (snd_cons (snd_bin snd_int (snd_bin (snd_name 1 rfl) snd_int)) snd_nil) ((ok_wordF O hK).call.le)) rfl rfl (fun env hk hn => swaps_true hk hn rfl rfl rfl))
   (snd_seq (snd_set 5 snd_str rfl)
   (snd_seq (snd_set 6 (snd_call (snd_glob O rfl (gl__law_table O hK)) (.kept _ O (kp_207 O hK)) (snd_cons (snd_name 4 rfl) (snd_cons (snd_name 3 rfl) snd_nil)) ((ok_table3 O hK).call.le)) rfl)
   (snd_seq (snd_for (.one 7 _ _ rfl (by decide)) (snd_ival (snd_list (snd_cons snd_int (snd_cons snd_int (snd_cons snd_int (snd_cons snd_int snd_nil)))))) (snd_seq (snd_set 6 (snd_call (snd_glob O rfl (gl__law_round O hK)) (.kept _ O (kp_219 O hK)) (snd_cons (snd_name 6 rfl) (snd_cons (snd_name 4 rfl) snd_nil)) ((ok_round3 O hK).call.le)) rfl)
   (snd_seq (snd_set 8 (snd_comp (Γ' := ⟨_, [".0", "name", "table"]⟩) (k := 2) (ci := [6]) ⟨rfl, by decide +kernel, by decide +kernel, by decide +kernel, rfl, by decide +kernel, by decide +kernel, by rfl, by decide, by decide +kernel⟩ (.one 1 _ _ rfl (by decide)) rfl (snd_ival (snd_name 4 rfl)) snd_cnil (snd_call (snd_glob O rfl (gl__law_number O hK)) (.kept _ O (kp_202 O hK)) (snd_cons (snd_own O (ow_get O hK) ((ok_H_get O hK).le) (snd_name 2 rfl) (snd_cons (snd_name 1 rfl) snd_nil)) snd_nil) ((ok_numF O hK).call.le))) rfl (hs := fun env _ hn => swaps_cell hn rfl))
   (snd_seq (snd_sif (snd_t_or (snd_t_cmp (snd_call (snd_blt O rfl (bn_max O hK) bb_max) (.builtin _) (snd_cons (snd_name 8 rfl) snd_nil) call_max) (snd_name 7 rfl)) (snd_t_cmp (snd_comp (Γ' := ⟨_, [".0", "k", "told"]⟩) (k := 2) (ci := [8]) ⟨rfl, by decide +kernel, by decide +kernel, by decide +kernel, rfl, by decide +kernel, by decide +kernel, by rfl, by decide, by decide +kernel⟩ (.one 1 _ _ rfl (by decide)) rfl (snd_irange (snd_blt O rfl (bn_range O hK) bb_range) (snd_cons (snd_name 2 rfl) snd_nil)) (snd_cone (snd_t_cmp (snd_sub (snd_name 2 rfl) (snd_name 1 rfl)) (snd_sub (snd_name 2 rfl) (snd_bin (snd_name 1 rfl) snd_int)))) (snd_name 1 rfl)) (snd_list snd_nil))) (snd_seq (snd_ret snd_bool)
   snd_snil) snd_snil)
   (snd_seq (snd_set 3 (snd_comp (Γ' := ⟨_, [".0", "own", "beside"]⟩) (k := 3) (ci := []) ⟨rfl, by decide +kernel, by decide +kernel, by decide +kernel, rfl, by decide +kernel, by decide +kernel, by rfl, by decide, by decide +kernel⟩ (.two 1 2 _ _ _ _ _ _ rfl (by decide) rfl (by decide)) rfl (snd_izip (snd_blt O rfl (bn_zip O hK) bb_zip) (snd_cons (snd_name 3 rfl) (snd_cons (snd_bin (snd_cut O (snd_name 3 rfl) (snd_pint snd_int) snd_pnone snd_pnone) (snd_cut O (snd_name 3 rfl) snd_pnone (snd_pint snd_int) snd_pnone)) snd_nil))) snd_cnil (snd_call (snd_glob O rfl (gl__law_halved O hK)) (.kept _ O (kp_231 O hK)) (snd_cons (snd_name 1 rfl) (snd_cons (snd_name 2 rfl) snd_nil)) ((ok__law_halved O hK).call.le))) rfl (hs := fun env _ hn => swaps_cell hn rfl))
   (snd_seq (snd_set 9 (snd_comp (Γ' := ⟨_, [".0", "number", "letters"]⟩) (k := 2) (ci := [5]) ⟨rfl, by decide +kernel, by decide +kernel, by decide +kernel, rfl, by decide +kernel, by decide +kernel, by rfl, by decide, by decide +kernel⟩ (.one 1 _ _ rfl (by decide)) rfl (snd_ival (snd_name 3 rfl)) snd_cnil (snd_meth isStrMV_ok PySem.F.plainAttrs_str PySem.F.slot_str_lstrip PySem.F.type_str_lstrip call_lstrip (snd_bin (snd_sub (snd_name 2 rfl) (snd_bin (snd_name 1 rfl) snd_int)) (snd_sub (snd_name 2 rfl) (snd_bin (snd_name 1 rfl) snd_int))) (snd_cons snd_str snd_nil))) rfl (hs := fun env _ hn => swaps_cell hn rfl))
   (snd_seq (snd_sif (snd_t_cmp (snd_own O (ow_items O hK) ((ok_H_items O hK).le) (snd_name 6 rfl) snd_nil) (snd_comp (Γ' := ⟨_, [".0", "k", "words", "letters"]⟩) (k := 2) (ci := [9, 5]) ⟨rfl, by decide +kernel, by decide +kernel, by decide +kernel, rfl, by decide +kernel, by decide +kernel, by rfl, by decide, by decide +kernel⟩ (.one 1 _ _ rfl (by decide)) rfl (snd_irange (snd_blt O rfl (bn_range O hK) bb_range) (snd_cons (snd_name 2 rfl) snd_nil)) snd_cnil (snd_tup (snd_cons (snd_bin (snd_sub (snd_name 3 rfl) (snd_bin (snd_name 1 rfl) snd_int)) snd_int) (snd_cons (snd_sub (snd_name 2 rfl) (snd_name 1 rfl)) snd_nil))))) (snd_seq (snd_ret snd_bool)
   snd_snil) snd_snil)
   snd_snil)))))) snd_snil)
   (snd_seq (snd_for (.one 10 _ _ rfl (by decide)) (snd_ival (snd_list (snd_cons snd_int (snd_cons snd_int (snd_cons snd_int snd_nil))))) (snd_seq (snd_set 6 (snd_call (snd_glob O rfl (gl__law_put_out O hK)) (.kept _ O (kp_224 O hK)) (snd_cons (snd_name 6 rfl) (snd_cons (snd_name 4 rfl) (snd_cons (snd_name 10 rfl) snd_nil))) ((ok_put3 O hK).call.le)) rfl)
   (snd_seq (snd_for (.one 11 _ _ rfl (by decide)) (snd_irange (snd_blt O rfl (bn_range O hK) bb_range) (snd_cons (snd_name 2 rfl) snd_nil)) (snd_seq (snd_sif (snd_t_cmp (snd_sub (snd_name 3 rfl) (snd_name 11 rfl)) (snd_name 10 rfl)) (snd_seq (snd_sslist (snd_name 3 rfl) (snd_name 11 rfl) (snd_call (snd_blt O rfl (bn_min O hK) bb_min) (.builtin _) (snd_cons (snd_comp (Γ' := ⟨_, [".0", "least", "numbers", "k", "many"]⟩) (k := 2) (ci := [3, 11, 2]) ⟨rfl, by decide +kernel, by decide +kernel, by decide +kernel, rfl, by decide +kernel, by decide +kernel, by rfl, by decide, by decide +kernel⟩ (.one 1 _ _ rfl (by decide)) rfl (snd_irange (snd_blt O rfl (bn_range O hK) bb_range) (snd_cons snd_int snd_nil)) (snd_cone (snd_t_cmp (snd_name 1 rfl) (snd_list (snd_cons (snd_sub (snd_name 2 rfl) (snd_bin (snd_name 3 rfl) snd_int)) (snd_cons (snd_sub (snd_name 2 rfl) (snd_bin (snd_bin (snd_name 3 rfl) snd_int) (snd_name 4 rfl))) snd_nil))))) (snd_name 1 rfl)) snd_nil) call_min))
   snd_snil) snd_snil)
   snd_snil) snd_snil)
   snd_snil)) snd_snil)
   (snd_seq (snd_set 8 (snd_comp (Γ' := ⟨_, [".0", "name", "table"]⟩) (k := 2) (ci := [6]) ⟨rfl, by decide +kernel, by decide +kernel, by decide +kernel, rfl, by decide +kernel, by decide +kernel, by rfl, by decide, by decide +kernel⟩ (.one 1 _ _ rfl (by decide)) rfl (snd_ival (snd_name 4 rfl)) snd_cnil (snd_call (snd_glob O rfl (gl__law_number O hK)) (.kept _ O (kp_202 O hK)) (snd_cons (snd_own O (ow_get O hK) ((ok_H_get O hK).le) (snd_name 2 rfl) (snd_cons (snd_name 1 rfl) snd_nil)) snd_nil) ((ok_numF O hK).call.le))) rfl (hs := fun env _ hn => swaps_cell hn rfl))
   (snd_seq (snd_sif (snd_t_or (snd_t_cmp (snd_call (snd_blt O rfl (bn_max O hK) bb_max) (.builtin _) (snd_cons (snd_name 8 rfl) snd_nil) call_max) snd_int) (snd_t_cmp (snd_comp (Γ' := ⟨_, [".0", "k", "told"]⟩) (k := 2) (ci := [8]) ⟨rfl, by decide +kernel, by decide +kernel, by decide +kernel, rfl, by decide +kernel, by decide +kernel, by rfl, by decide, by decide +kernel⟩ (.one 1 _ _ rfl (by decide)) rfl (snd_irange (snd_blt O rfl (bn_range O hK) bb_range) (snd_cons (snd_name 2 rfl) snd_nil)) (snd_cone (snd_t_cmp (snd_sub (snd_name 2 rfl) (snd_name 1 rfl)) (snd_sub (snd_name 2 rfl) (snd_bin (snd_name 1 rfl) snd_int)))) (snd_name 1 rfl)) (snd_list snd_nil))) (snd_seq (snd_ret snd_bool)
   snd_snil) snd_snil)
   (snd_seq (snd_ret (snd_cmp (snd_name 8 rfl) (snd_name 3 rfl)))
   snd_snil)))))))))))
  · exact (bind_plain rfl (len1 fun a0 => rfl))
end
end Mine
end
section
open PySem PySem.W PyProof.Rows PySem.Spec PySem.Calls
set_option linter.unusedVariables false
set_option maxRecDepth 100000
namespace Mine
noncomputable def okW (x : List Nat) : Bool := x.all (fun c => decide (c < 128)) && (x.map lo1).all okChar && decide (x.length ≤ few)
noncomputable def findP (x : List Nat) : List MV → Option MV
  | [] => some .none
  | .tup [.str k, v] :: r => match k.all (fun c => decide (c < 128)) && decide (k.length ≤ few) with
    | false => none
    | true => match k.map lo1 == x with
      | true => some v
      | false => findP x r
  | _ => none
noncomputable def tblOf (a : MV) (hp : List MO) : Option (List MV) := match instOf 186 a hp with
  | some (_, some (.ref j)) => listOf hp j
  | _ => none
noncomputable def getF : GF := fun vs hp => match vs with
  | [a, .str x] => match okW x with
    | false => none
    | true => match tblOf a hp with
      | none => none
      | some T => match decide (T.length < 3999) with
        | false => none
        | true => match findP (x.map lo1) T with
          | none => none
          | some v => some (v, hp)
  | _ => none
theorem convF (sns : List Int) (a : MV) (x : List Nat) (b : Bool) (hp : List MO) (h2 : x.all okChar = true) (h3 : x.length ≤ few) : f_H__convert_string_type sns [a, .str x, .bool b] hp = some (.str x, hp) := by
  have key : ∀ p : Nat, p = 58 ∨ p = 63 → gPat2 58 63 [.fix (.ref p), .str x] hp = some (.none, hp) := fun p hpp => by
    show (if _ then _ else _) = _
    rw [if_pos ⟨hpp, h2, h3⟩]
  have fin : ∀ p : Nat, p = 58 ∨ p = 63 → isPat2 58 63 (.fix (.ref p)) hp = true → (sSeq (sIf (tVal (mMeth (isPat2 58 63) (gPat2 58 63) (mVar 3) (lCons (mVar 1) lNil))) (sSeq sNone sNil) sNil) (sSeq (sRet (mVar 1)) sNil)) [some a, some (.str x), some (.bool b), some (.fix (.ref p))] hp = some (.ret (.str x), [some a, some (.str x), some (.bool b), some (.fix (.ref p))], hp) := fun p hpp hi => by
    have e1 : mMeth (isPat2 58 63) (gPat2 58 63) (mVar 3) (lCons (mVar 1) lNil) [some a, some (.str x), some (.bool b), some (.fix (.ref p))] hp = some (.none, hp) := by
      show (match isPat2 58 63 (.fix (.ref p)) hp with | false => none | true => gPat2 58 63 [.fix (.ref p), .str x] hp) = _
      rw [hi, key p hpp]
    rw [sSeq_next (l1 := [some a, some (.str x), some (.bool b), some (.fix (.ref p))]) (h1 := hp)]
    · rfl
    · rw [sIf_false (h1 := hp) (by unfold tVal; rw [e1]; rfl)]; rfl
  have e : sIf (tCmp .Is (mCall gType (lCons (mVar 1) lNil)) (mFix (.type "str"))) (sSeq (sSet 3 (mIf (tVal (mVar 2)) (mFix (.ref 58)) (mFix (.ref 63)))) (sSeq (sIf (tVal (mMeth (isPat2 58 63) (gPat2 58 63) (mVar 3) (lCons (mVar 1) lNil))) (sSeq sNone sNil) sNil) (sSeq (sRet (mVar 1)) sNil))) sNil [some a, some (.str x), some (.bool b), none] hp = some (.ret (.str x), [some a, some (.str x), some (.bool b), some (.fix (.ref (cond b 58 63)))], hp) := by
    rw [sIf_true (h1 := hp) (by rfl)]
    cases b
    · rw [sSeq_next (sSet_eq (v := .fix (.ref 63)) (h1 := hp) (by rfl))]; exact fin 63 (.inr rfl) rfl
    · rw [sSeq_next (sSet_eq (v := .fix (.ref 58)) (h1 := hp) (by rfl))]; exact fin 58 (.inl rfl) rfl
  show outOf (sSeq (sIf _ _ _) _ [some a, some (.str x), some (.bool b), none] hp) = _
  rw [sSeq_ret e]; rfl
noncomputable def getBody : MS := sSeq (sIf (tCmp .Eq (mMeth isStrMV gLower (mVar 3) lNil) (mVar 1)) (sSeq (sRet (mVar 4)) sNil) sNil) sNil
theorem getBody_eq {a c : Option MV} {x k : List Nat} {v : MV} {hp : List MO} (h : (k.all (fun c => decide (c < 128)) && decide (k.length ≤ few)) = true) :
    getBody [a, some (.str x), c, some (.str k), some v] hp = if (k.map lo1 == x) = true then some (.ret v, [a, some (.str x), c, some (.str k), some v], hp) else some (.next, [a, some (.str x), c, some (.str k), some v], hp) := by
  have h2 : k.all (fun c => decide (c < 128)) = true ∧ k.length ≤ few := by simpa [Bool.and_eq_true] using h
  have e1 : gLower [.str k] hp = some (.str (k.map lo1), hp) := by
    show (if _ then _ else _) = _
    rw [if_pos h2]
  have e2 : tCmp .Eq (mMeth isStrMV gLower (mVar 3) lNil) (mVar 1) [a, some (.str x), c, some (.str k), some v] hp = some (k.map lo1 == x, hp) := by
    show (match gLower [.str k] hp with | none => none | some (a, hp1) => _) = _
    rw [e1]; rfl
  show (match sIf _ _ _ _ _ with | none => none | some (.next, loc1, hp1) => _ | some (.brk, loc1, hp1) => _ | some (.cont, loc1, hp1) => _ | some (.ret v, loc1, hp1) => _) = _
  unfold sIf
  rw [e2]
  cases k.map lo1 == x <;> rfl
theorem getLoop {a c : Option MV} {x : List Nat} {j : Nat} {hp : List MO} {T : List MV} (hT : listOf hp j = some T) : ∀ (n k : Nat) (l3 l4 : Option MV) (v : MV), k ≤ T.length → T.length < n + k → findP x (T.drop k) = some v →
    (∃ loc, forGo (.two 3 4) getBody n (.list j k) [a, some (.str x), c, l3, l4] hp = some (.ret v, loc, hp)) ∨
    (v = .none ∧ ∃ m3 m4, forGo (.two 3 4) getBody n (.list j k) [a, some (.str x), c, l3, l4] hp = some (.next, [a, some (.str x), c, m3, m4], hp))
  | 0, k, l3, l4, v, hk, hn, hf => by omega
  | n + 1, k, l3, l4, v, hk, hn, hf => by
    rcases Nat.lt_or_ge k T.length with hlt | hge
    · have e0 : T[k]? = some T[k] := List.getElem?_eq_getElem hlt
      have e1 : It.next (.list j k) hp = some (some (T[k], .list j (k + 1))) := by
        show (match listOf hp j with | none => none | some xs => match xs[k]? with | none => some none | some x => some (some (x, It.list j (k + 1)))) = _
        rw [hT]; show (match T[k]? with | none => _ | some x => _) = _
        rw [e0]
      rw [List.drop_eq_getElem_cons hlt] at hf
      generalize T[k] = y at e1 hf
      unfold findP at hf
      split at hf
      · rename_i hq; cases hq
      · rename_i k0 v0 r hq
        cases hq
        split at hf
        · cases hf
        · rename_i hg
          have e3 : forGo (.two 3 4) getBody (n + 1) (.list j k) [a, some (.str x), c, l3, l4] hp = (match getBody [a, some (.str x), c, some (.str k0), some v0] hp with
            | none => none
            | some (.next, loc2, hp2) => forGo (.two 3 4) getBody n (.list j (k + 1)) loc2 hp2
            | some (.cont, loc2, hp2) => forGo (.two 3 4) getBody n (.list j (k + 1)) loc2 hp2
            | some (.brk, loc2, hp2) => some (.brk, loc2, hp2)
            | some (.ret v, loc2, hp2) => some (.ret v, loc2, hp2)) := by
            show (match It.next (.list j k) hp with | none => none | some none => _ | some (some (x, it')) => _) = _
            rw [e1]; rfl
          rw [e3, getBody_eq hg]
          split at hf
          · rename_i hb
            cases hf
            rw [if_pos hb]
            exact .inl ⟨_, rfl⟩
          · rename_i hb
            rw [if_neg (by rw [hb]; nofun)]
            exact getLoop hT n (k + 1) _ _ v hlt (by omega) hf
      · cases hf
    · have hkk : T.drop k = [] := List.drop_eq_nil_of_le hge
      have e1 : It.next (.list j k) hp = some none := by
        show (match listOf hp j with | none => none | some xs => match xs[k]? with | none => some none | some x => some (some (x, It.list j (k + 1)))) = _
        rw [hT]; show (match T[k]? with | none => _ | some x => _) = _
        rw [List.getElem?_eq_none hge]
      rw [hkk] at hf
      cases hf
      exact .inr ⟨rfl, l3, l4, by show (match It.next (.list j k) hp with | none => none | some none => _ | some (some (x, it')) => _) = _; rw [e1]⟩
theorem getF_ok (sns : List Int) : ∀ vs hp r, getF vs hp = some r → f_H_get sns vs hp = some r := by
  intro vs hp r h
  unfold getF at h
  split at h
  · rename_i a x
    split at h
    · cases h
    · rename_i hx
      split at h
      · cases h
      · rename_i T hT
        split at h
        · cases h
        · rename_i hl
          split at h
          · cases h
          · rename_i v hf
            cases h
            have hx' : okW x = true := by revert hx; cases okW x <;> simp
            unfold okW at hx'
            simp only [Bool.and_eq_true, decide_eq_true_eq] at hx'
            obtain ⟨⟨h1, h2⟩, h3⟩ := hx'
            unfold tblOf at hT
            split at hT
            · rename_i d j hi
              have e1 : gLower [.str x] hp = some (.str (x.map lo1), hp) := by
                show (if _ then _ else _) = _
                rw [if_pos ⟨h1, h3⟩]
              have e1' : mMeth isStrMV gLower (mVar 1) lNil [some a, some (.str x), some .none, none, none] hp = some (.str (x.map lo1), hp) := e1
              have e2 : f_H__convert_string_type sns [a, .str (x.map lo1), .bool true] hp = some (.str (x.map lo1), hp) := by
                exact convF sns a _ true hp h2 (by simpa using h3)
              have e3 : mOwnK 186 (f_H__convert_string_type sns) (mVar 0) (lCons (mMeth isStrMV gLower (mVar 1) lNil) lNil) (mBool true) [some a, some (.str x), some .none, none, none] hp = some (.str (x.map lo1), hp) := by
                show (match instOf 186 a hp with | none => none | some _ => _) = _
                rw [hi]
                unfold lCons
                simp only [e1', lNil]
                exact e2
              have e4 : mAttr 186 (mVar 0) [some a, some (.str (x.map lo1)), some .none, none, none] hp = some (.ref j, hp) := by
                show (match instOf 186 a hp with | some (_, some (.ref j)) => _ | _ => _) = _
                rw [hi]
              have e5 : iVal (mAttr 186 (mVar 0)) [some a, some (.str (x.map lo1)), some .none, none, none] hp = some (.list j 0, hp) := by
                unfold iVal
                rw [e4]
                have e6 : itOf (.ref j) hp = some (.list j 0) := by
                  show (match listOf hp j with | some _ => some (It.list j 0) | none => none) = _
                  rw [hT]
                simp only [e6]
              have hl' : T.length < 3999 := by revert hl; simp
              show outOf (sSeq (sSet 1 _) (sSeq (sFor 4000 (.two 3 4) (iVal (mAttr 186 (mVar 0))) getBody sNil) _) [some a, some (.str x), some .none, none, none] hp) = _
              rw [sSeq_next (sSet_eq e3)]
              show outOf (sSeq (sFor 4000 (.two 3 4) (iVal (mAttr 186 (mVar 0))) getBody sNil) _ [some a, some (.str (x.map lo1)), some .none, none, none] hp) = _
              rcases getLoop (a := some a) (c := some .none) hT 4000 0 none none v (Nat.zero_le _) (by omega) hf with ⟨loc, q⟩ | ⟨rfl, m3, m4, q⟩
              · rw [sSeq_ret (sFor_ret e5 q)]; rfl
              · rw [sSeq_next (by rw [sFor_next e5 q]; rfl)]; rfl
            · cases hT
  · cases h
noncomputable def dinitBody (sns : List Int) : MS := sSeq (sExpr (mOwnK 186 (f_H__convert_string_type sns) (mVar 0) (lCons (mVar 2) lNil) (mBool true)))
   (sSeq (sExpr (mOwnK 186 (f_H__convert_string_type sns) (mVar 0) (lCons (mVar 3) lNil) (mBool false))) sNil)
theorem dinit_loop {sns : List Int} {hp : List MO} {i j d : Nat} {q : Option MV} {T : List MV} {b : Option MV} (hi : instOf 186 (.ref i) hp = some (d, q)) (hT : listOf hp j = some T) (ht : ∀ x ∈ T, hdrOk x) :
    ∀ (n m : Nat) (l2 l3 : Option MV), m ≤ T.length → T.length < n + m → ∃ m2 m3, forGo (.two 2 3) (dinitBody sns) n (.list j m) [some (.ref i), b, l2, l3] hp = some (.next, [some (.ref i), b, m2, m3], hp)
  | 0, m, _, _, h1, h2 => by omega
  | n + 1, m, l2, l3, h1, h2 => by
    rcases Nat.lt_or_ge m T.length with hlt | hge
    · obtain ⟨k, v, e, hk, hkl, hv, hvl⟩ := ht T[m] (List.getElem_mem hlt)
      obtain ⟨m2, m3, ih⟩ := dinit_loop hi hT ht n (m + 1) (some (.str k)) (some (.str v)) (b := b) hlt (by omega)
      refine ⟨m2, m3, ?_⟩
      have e1 := next_list hT hlt
      have eb : dinitBody sns [some (.ref i), b, some (.str k), some (.str v)] hp = some (.next, [some (.ref i), b, some (.str k), some (.str v)], hp) := by
        unfold dinitBody
        rw [sSeq_next (sExpr_eq (mOwnK_eq (hp := hp) (h1 := hp) (h2 := hp) (h3 := hp) (a := .ref i) (vs := [.str k]) (w := .bool true) rfl hi rfl rfl (convF sns _ k true hp hk hkl)))]
        rw [sSeq_next (sExpr_eq (mOwnK_eq (hp := hp) (h1 := hp) (h2 := hp) (h3 := hp) (a := .ref i) (vs := [.str v]) (w := .bool false) rfl hi rfl rfl (convF sns _ v false hp hv hvl)))]
        rfl
      rw [← ih]
      show (match It.next (.list j m) hp with | none => none | some none => _ | some (some (x, it')) => _) = _
      rw [e1]
      simp only [e, fitsT, setT]
      show (match dinitBody sns [some (.ref i), b, some (.str k), some (.str v)] hp with | none => none | some (.next, loc2, hp2) => _ | some (.cont, loc2, hp2) => _ | some (.brk, loc2, hp2) => _ | some (.ret v, loc2, hp2) => _) = _
      rw [eb]
    · refine ⟨l2, l3, ?_⟩
      show (match It.next (.list j m) hp with | none => none | some none => _ | some (some (x, it')) => _) = _
      rw [next_list_end hT hge]
theorem dinit_eq {sns : List Int} {hp : List MO} {i j d : Nat} {T : List MV} (hi : hp[i]? = some (.inst 186 d)) (hd : hp[d]? = some (.idict none)) (hT : listOf hp j = some T) (ht : ∀ x ∈ T, hdrOk x) (hl : T.length < 3999) :
    f_H_dinitd sns [.ref i, .ref j] hp = some (.none, hp.set d (.idict (some (.ref j)))) := by
  have hid : i ≠ d := by rintro rfl; rw [hi] at hd; cases hd
  have hjd : j ≠ d := by rintro rfl; rw [listOf_get hT] at hd; cases hd
  have hi' : instOf 186 (.ref i) (hp.set d (.idict (some (.ref j)))) = some (d, some (.ref j)) := inst_of (by rw [List.getElem?_set_ne (Ne.symm hid)]; exact hi) (by rw [List.getElem?_set_self (lt_of_some hd)])
  have hT' : listOf (hp.set d (.idict (some (.ref j)))) j = some T := of_get (by rw [List.getElem?_set_ne (Ne.symm hjd)]; exact listOf_get hT)
  obtain ⟨m2, m3, L⟩ := dinit_loop (sns := sns) (b := some (.ref j)) hi' hT' ht 4000 0 none none (Nat.zero_le _) (by omega)
  show outOf (sSeq (sSet 1 _) (sSeq (sIf _ _ _) (sSeq (sAttr 186 (mVar 0) (mVar 1)) (sSeq (sIf (tVal (mBool true)) (sSeq (sFor 4000 (.two 2 3) (iVal (mVar 1)) (dinitBody sns) sNil) sNil) sNil) sNil))) [some (.ref i), some (.ref j), none, none] hp) = _
  rw [sSeq_next (sSet_eq (v := .ref j) (h1 := hp) rfl)]
  show outOf (sSeq (sIf _ _ _) _ [some (.ref i), some (.ref j), none, none] hp) = _
  have et : tCmp .IsNot (mCall gType (lCons (mVar 1) lNil)) (mFix (.type "list")) [some (.ref i), some (.ref j), none, none] hp = some (false, hp) := by
    refine tCmp_eq (a := .fix (.type "list")) (h1 := hp) (b := .fix (.type "list")) (h2 := hp) (mCall_eq (vs := [.ref j]) (h1 := hp) rfl ?_) rfl rfl
    show (match listOf hp j with | some _ => some (MV.fix (.type "list"), hp) | none => none) = _
    rw [hT]
  rw [sSeq_next (l1 := [some (.ref i), some (.ref j), none, none]) (h1 := hp) (by rw [sIf_false et]; rfl)]
  rw [sSeq_next (sAttr_eq (v := .ref j) (h1 := hp) (a := .ref i) (h2 := hp) rfl rfl (inst_of hi hd))]
  have ef : sSeq (sFor 4000 (.two 2 3) (iVal (mVar 1)) (dinitBody sns) sNil) sNil [some (.ref i), some (.ref j), none, none] (hp.set d (.idict (some (.ref j)))) = some (.next, [some (.ref i), some (.ref j), m2, m3], hp.set d (.idict (some (.ref j)))) := by
    rw [sSeq_next (by rw [sFor_next (iVal_list (h1 := hp.set d (.idict (some (.ref j)))) rfl hT') L]; rfl)]; rfl
  rw [sSeq_next (l1 := [some (.ref i), some (.ref j), m2, m3]) (h1 := hp.set d (.idict (some (.ref j)))) (by rw [sIf_true (h1 := hp.set d (.idict (some (.ref j)))) rfl]; exact ef)]
  rfl
theorem make_eq {sns : List Int} {hp : List MO} {j : Nat} {T : List MV} (hT : listOf hp j = some T) (ht : ∀ x ∈ T, hdrOk x) (hl : T.length < 3999) :
    gMake 186 (f_H_dinitd sns) [.ref j] hp = some (.ref (hp.length + 1), hp ++ [.idict (some (.ref j)), .inst 186 hp.length]) := by
  unfold gMake
  rw [dinit_eq (d := hp.length) (T := T) (by rw [List.getElem?_append_right (by omega)]; simp) (by rw [List.getElem?_append_right (Nat.le_refl _)]; simp) (listOf_app hT _) ht hl]
  simp
theorem items_eq {sns : List Int} {hp : List MO} {i j d : Nat} {T : List MV} (hi : hp[i]? = some (.inst 186 d)) (hd : hp[d]? = some (.idict (some (.ref j)))) (hT : listOf hp j = some T) (hl : T.length < 3999) :
    f_H_items sns [.ref i] hp = some (.ref hp.length, hp ++ [MO.list T]) := by
  show outOf (sSeq (sRet (mCut sns (mAttr 186 (mVar 0)) pNone pNone pNone)) sNil [some (.ref i)] hp) = _
  have e : mCut sns (mAttr 186 (mVar 0)) pNone pNone pNone [some (.ref i)] hp = some (.ref hp.length, hp ++ [MO.list T]) := by
    unfold mCut
    rw [mAttr_eq (a := .ref i) (h1 := hp) rfl (inst_of hi hd)]
    show (match listOf hp j with | none => none | some xs => if xs.length ≤ few then some (MV.ref hp.length, hp ++ [MO.list (pickL xs none none none)]) else none) = _
    rw [hT]
    simp only
    rw [if_pos (by unfold few; omega), pickL_all]
  rw [sSeq_ret (sRet_eq e)]
  rfl
noncomputable def keyNe (y : List Nat) (x : MV) : Bool := match x with
  | .tup (.str k :: _) => !(k.map lo1 == y)
  | _ => true
noncomputable def delT (y : List Nat) (T : List MV) : List MV := T.filter (keyNe y)
theorem del_eq {sns : List Int} {hp : List MO} {i j d : Nat} {x : List Nat} {T : List MV} (hi : hp[i]? = some (.inst 186 d)) (hd : hp[d]? = some (.idict (some (.ref j)))) (hT : listOf hp j = some T) (ht : ∀ x ∈ T, hdrOk x) (hl : T.length < 3999)
    (hx : x.all okChar = true) (hxl : x.length ≤ few) : f_H_ddelitemd sns [.ref i, .str x] hp = some (.none, (hp ++ [MO.list (delT (x.map lo1) T)]).set j (MO.list (delT (x.map lo1) T))) := by
  have io := inst_of hi hd
  have e1 : mOwnK 186 (f_H__convert_string_type sns) (mVar 0) (lCons (mMeth isStrMV gLower (mVar 1) lNil) lNil) (mBool true) [some (.ref i), some (.str x)] hp = some (.str (x.map lo1), hp) :=
    mOwnK_eq (h1 := hp) (h2 := hp) (h3 := hp) (a := .ref i) (vs := [.str (x.map lo1)]) (w := .bool true) rfl io (lCons_eq (mMeth_eq (a := .str x) (vs := []) (h1 := hp) (h2 := hp) rfl rfl rfl (gLower_ok hx hxl hp)) rfl) rfl (convF sns _ _ true hp (okChars_lo hx) (by simpa using hxl))
  have hT' : ∀ acc, listOf (hp ++ [MO.list acc]) j = some T := fun acc => listOf_app hT _
  have e2 := comp_gen (n := 4000) (t := .one 1) (mi := iVal (mAttr 186 (mVar 0))) (mc := tCmp .NotEq (mMeth isStrMV gLower (mSub (mVar 1) (mInt 0)) lNil) (mVar 2)) (me := mVar 1) (k := 2) (ci := [1]) (loc := [some (.ref i), some (.str (x.map lo1))]) (hp := hp) (hp1 := hp) (p := keyNe (x.map lo1)) (e := id) (lo := fun y => [none, some y, some (.str (x.map lo1))])
    (feeds_list (j := j) (xs := T)) (iAttr_list (h1 := hp) rfl io hT) hT' (fun m => rfl) (by omega) (by unfold few; omega) (fun _ _ => rfl) (fun x y l1 h => setT_one h) (by
      intro y hy acc
      obtain ⟨k, v, rfl, hk, hkl, _⟩ := ht y hy
      refine tCmp_eq (op := .NotEq) (r := keyNe (x.map lo1) (.tup [.str k, .str v])) (a := .str (k.map lo1)) (b := .str (x.map lo1)) (h1 := hp ++ [MO.list acc]) (h2 := hp ++ [MO.list acc]) (mMeth_eq (a := .str k) (vs := []) (h1 := hp ++ [MO.list acc]) (h2 := hp ++ [MO.list acc]) rfl rfl rfl (gLower_ok hk hkl _)) rfl rfl) (fun y hy _ acc => rfl)
  rw [List.map_id] at e2
  show outOf (sSeq (sSet 1 _) (sSeq (sSetAll (mAttr 186 (mVar 0)) (mComp 4000 (.one 1) (iVal (mAttr 186 (mVar 0))) (tCmp .NotEq (mMeth isStrMV gLower (mSub (mVar 1) (mInt 0)) lNil) (mVar 2)) (mVar 1) 2 [1])) sNil) [some (.ref i), some (.str x)] hp) = _
  rw [sSeq_next (sSet_eq e1)]
  show outOf (sSeq (sSetAll (mAttr 186 (mVar 0)) _) sNil [some (.ref i), some (.str (x.map lo1))] hp) = _
  have e3 : sSetAll (mAttr 186 (mVar 0)) (mComp 4000 (.one 1) (iVal (mAttr 186 (mVar 0))) (tCmp .NotEq (mMeth isStrMV gLower (mSub (mVar 1) (mInt 0)) lNil) (mVar 2)) (mVar 1) 2 [1]) [some (.ref i), some (.str (x.map lo1))] hp = some (.next, [some (.ref i), some (.str (x.map lo1))], (hp ++ [MO.list (delT (x.map lo1) T)]).set j (MO.list (delT (x.map lo1) T))) := by
    unfold sSetAll
    rw [e2]
    simp only
    rw [mAttr_eq (h1 := hp ++ [MO.list (delT (x.map lo1) T)]) (a := .ref i) (d := d) (j := j) rfl (instOf_app io _)]
    simp only
    rw [listOf_end hp (delT (x.map lo1) T)]
    simp only
    rw [hT' (delT (x.map lo1) T)]
    simp only
    have : (delT (x.map lo1) T).length ≤ T.length := List.length_filter_le _ _
    rw [if_pos (by unfold few; omega)]
  rw [sSeq_next e3]
  rfl
theorem set_eq {sns : List Int} {hp : List MO} {i j d : Nat} {x v : List Nat} {T : List MV} (hi : hp[i]? = some (.inst 186 d)) (hd : hp[d]? = some (.idict (some (.ref j)))) (hT : listOf hp j = some T) (ht : ∀ x ∈ T, hdrOk x) (hl : T.length < 3999)
    (hx : x.all okChar = true) (hxl : x.length ≤ few) (hv : v.all okChar = true) (hvl : v.length ≤ few) : f_H_dsetitemd sns [.ref i, .str x, .str v] hp = some (.none, (hp ++ [MO.list (delT (x.map lo1) T)]).set j (MO.list (delT (x.map lo1) T ++ [MV.tup [.str x, .str v]]))) := by
  have e1 := del_eq (sns := sns) hi hd hT ht hl hx hxl
  have hid : i ≠ j := by rintro rfl; rw [listOf_get hT] at hi; cases hi
  have hjd : d ≠ j := by rintro rfl; rw [listOf_get hT] at hd; cases hd
  generalize hF : delT (x.map lo1) T = F at e1 ⊢
  have hFl : F.length ≤ T.length := by rw [← hF]; exact List.length_filter_le _ _
  have io := inst_of hi hd
  have hjl := lt_of_some (listOf_get hT)
  have io2 : instOf 186 (.ref i) ((hp ++ [MO.list F]).set j (MO.list F)) = some (d, some (.ref j)) := inst_of (by rw [List.getElem?_set_ne (Ne.symm hid), List.getElem?_append_left (lt_of_some hi)]; exact hi) (by rw [List.getElem?_set_ne (Ne.symm hjd), List.getElem?_append_left (lt_of_some hd)]; exact hd)
  have hT2 : listOf ((hp ++ [MO.list F]).set j (MO.list F)) j = some F := of_get (by rw [List.getElem?_set_self (by rw [List.length_append]; omega)])
  show outOf (sSeq (sDelOwn 186 (f_H_ddelitemd sns) (mVar 0) (mVar 1)) (sSeq (sExpr (mMeth isListMV gAppend (mAttr 186 (mVar 0)) (lCons (mTup (lCons (mOwnK 186 (f_H__convert_string_type sns) (mVar 0) (lCons (mVar 1) lNil) (mBool true)) (lCons (mOwnK 186 (f_H__convert_string_type sns) (mVar 0) (lCons (mVar 2) lNil) (mBool false)) lNil))) lNil))) sNil) [some (.ref i), some (.str x), some (.str v)] hp) = _
  have d1 : sDelOwn 186 (f_H_ddelitemd sns) (mVar 0) (mVar 1) [some (.ref i), some (.str x), some (.str v)] hp = some (.next, [some (.ref i), some (.str x), some (.str v)], (hp ++ [MO.list F]).set j (MO.list F)) := by
    show (match instOf 186 (.ref i) hp with | none => none | some _ => match f_H_ddelitemd sns [.ref i, .str x] hp with | none => none | some (_, hp4) => some (MFlow.next, ([some (.ref i), some (.str x), some (.str v)] : Loc), hp4)) = _
    rw [io]
    simp only [e1]
  rw [sSeq_next d1]
  generalize hh : (hp ++ [MO.list F]).set j (MO.list F) = h2 at *
  have a1 : mMeth isListMV gAppend (mAttr 186 (mVar 0)) (lCons (mTup (lCons (mOwnK 186 (f_H__convert_string_type sns) (mVar 0) (lCons (mVar 1) lNil) (mBool true)) (lCons (mOwnK 186 (f_H__convert_string_type sns) (mVar 0) (lCons (mVar 2) lNil) (mBool false)) lNil))) lNil) [some (.ref i), some (.str x), some (.str v)] h2 = some (.none, h2.set j (MO.list (F ++ [MV.tup [.str x, .str v]]))) := by
    refine mMeth_eq (a := .ref j) (vs := [MV.tup [.str x, .str v]]) (h1 := h2) (h2 := h2) (mAttr_eq (a := .ref i) rfl io2) (by show (listOf h2 j).isSome = true; rw [hT2]; rfl) ?_ ?_
    · refine lCons_eq (mTup_eq (h1 := h2) (lCons_eq (h1 := h2) (mOwnK_eq (h1 := h2) (h2 := h2) (h3 := h2) (a := .ref i) (vs := [.str x]) (w := .bool true) rfl io2 rfl rfl (convF sns _ x true h2 hx hxl)) (lCons_eq (h1 := h2) (mOwnK_eq (h1 := h2) (h2 := h2) (h3 := h2) (a := .ref i) (vs := [.str v]) (w := .bool false) rfl io2 rfl rfl (convF sns _ v false h2 hv hvl)) lNil_eq)) (by simp [few])) lNil_eq
    · show (match listOf h2 j with | some xs => if xs.length < few then some (MV.none, h2.set j (MO.list (xs ++ [MV.tup [.str x, .str v]]))) else none | none => none) = _
      rw [hT2]
      simp only
      rw [if_pos (by unfold few; omega)]
  rw [sSeq_next (sExpr_eq a1)]
  subst hh
  rw [List.set_set]
  rfl
end Mine
end
section
open PySem PySem.W PyProof.Rows PySem.Spec PySem.Calls
set_option linter.unusedVariables false
set_option maxRecDepth 100000
namespace Mine
noncomputable def lsGo : Nat → Nat → Nat
  | 0, _ => 0
  | f + 1, n => match Nat.beq (n % 2) 1 with
    | true => 0
    | false => lsGo f (n / 2) + 1
noncomputable def lsN (n : Nat) : Nat := lsGo 10 n
noncomputable def halfGo : Nat → Nat → Nat → Nat → Option Nat
  | 0, _, _, _ => none
  | f + 1, a, b, p => match Nat.beq (a % 2) (b % 2) with
    | true => halfGo f (a / 2) (b / 2) (p + 1)
    | false => some (2 * p + a % 2)
noncomputable def xN (a b : Nat) : Nat := (a ||| b) - (a &&& b)
theorem and_le_or (a b : Nat) : a &&& b ≤ a ||| b := Nat.le_trans Nat.and_le_left Nat.left_le_or
theorem xN_bits (a b : Nat) : xN a b / 2 = xN (a / 2) (b / 2) ∧ xN a b % 2 = (a % 2 + b % 2) % 2 := by
  have o1 : (a ||| b) / 2 = a / 2 ||| b / 2 := by have := Nat.or_div_two_pow (a := a) (b := b) (n := 1); simpa using this
  have n1 : (a &&& b) / 2 = a / 2 &&& b / 2 := by have := Nat.and_div_two_pow (a := a) (b := b) (n := 1); simpa using this
  have o2 : (a ||| b) % 2 = a % 2 ||| b % 2 := by have := Nat.or_mod_two_pow (a := a) (b := b) (n := 1); simpa using this
  have n2 : (a &&& b) % 2 = a % 2 &&& b % 2 := by have := Nat.and_mod_two_pow (a := a) (b := b) (n := 1); simpa using this
  have h1 := and_le_or a b
  unfold xN
  rw [← o1, ← n1]
  clear o1 n1
  generalize a ||| b = O at *
  generalize a &&& b = N at *
  rcases Nat.mod_two_eq_zero_or_one a with qa | qa <;> rcases Nat.mod_two_eq_zero_or_one b with qb | qb <;> rw [qa, qb] at o2 n2 <;> rw [qa, qb] <;> simp at o2 n2 <;> constructor <;> omega
theorem xN_pos : ∀ (f a b : Nat), a < 2 ^ f → b < 2 ^ f → a ≠ b → 0 < xN a b
  | 0, a, b, ha, hb, h => by simp at ha hb; omega
  | f + 1, a, b, ha, hb, h => by
    obtain ⟨h1, h2⟩ := xN_bits a b
    rw [Nat.pow_succ] at ha hb
    by_cases hm : a % 2 = b % 2
    · have := xN_pos f (a / 2) (b / 2) (by omega) (by omega) (by omega)
      omega
    · rcases Nat.mod_two_eq_zero_or_one a with qa | qa <;> rcases Nat.mod_two_eq_zero_or_one b with qb | qb <;> rw [qa, qb] at h2 hm <;> simp at h2 hm <;> omega
theorem xN_lt : ∀ (f a b : Nat), a < 2 ^ f → b < 2 ^ f → xN a b < 2 ^ f := by
  intro f a b ha hb
  have := Nat.or_lt_two_pow ha hb
  unfold xN
  omega
noncomputable def newN (a b : Nat) : Nat := 2 * lsN (xN a b) + a / 2 ^ lsN (xN a b) % 2
theorem low_go : ∀ (f F a b : Nat), a < 2 ^ f → b < 2 ^ f → a ≠ b → f ≤ F → lsGo F (xN a b) < f ∧ a / 2 ^ lsGo F (xN a b) % 2 ≠ b / 2 ^ lsGo F (xN a b) % 2
  | 0, F, a, b, ha, hb, h, hF => by simp at ha hb; omega
  | f + 1, F, a, b, ha, hb, h, hF => by
    obtain ⟨F, rfl⟩ : ∃ q, F = q + 1 := ⟨F - 1, by omega⟩
    obtain ⟨h1, h2⟩ := xN_bits a b
    rw [Nat.pow_succ] at ha hb
    unfold lsGo
    cases hb2 : Nat.beq (xN a b % 2) 1 with
    | true =>
      have := Nat.eq_of_beq_eq_true hb2
      refine ⟨by show 0 < f + 1; omega, ?_⟩
      show a / 2 ^ 0 % 2 ≠ b / 2 ^ 0 % 2
      simp only [Nat.pow_zero, Nat.div_one]
      omega
    | false =>
      have hne := Nat.ne_of_beq_eq_false hb2
      have hm : a % 2 = b % 2 := by
        rcases Nat.mod_two_eq_zero_or_one a with qa | qa <;> rcases Nat.mod_two_eq_zero_or_one b with qb | qb <;> rw [qa, qb] at h2 <;> simp at h2 <;> omega
      obtain ⟨i1, i2⟩ := low_go f F (a / 2) (b / 2) (by omega) (by omega) (by omega) (by omega)
      rw [h1]
      refine ⟨by show lsGo F _ + 1 < f + 1; omega, ?_⟩
      show a / 2 ^ (lsGo F (xN (a / 2) (b / 2)) + 1) % 2 ≠ b / 2 ^ (lsGo F (xN (a / 2) (b / 2)) + 1) % 2
      rw [Nat.pow_succ, Nat.mul_comm, ← Nat.div_div_eq_div_mul, ← Nat.div_div_eq_div_mul]
      exact i2
theorem new_lt {f a b : Nat} (hf : f ≤ 10) (ha : a < 2 ^ f) (hb : b < 2 ^ f) (h : a ≠ b) : newN a b < 2 * f := by
  have := (low_go f 10 a b ha hb h hf).1
  unfold newN lsN
  omega
theorem new_ne {a b c : Nat} (ha : a < 1024) (hb : b < 1024) (hc : c < 1024) (h1 : a ≠ b) (h2 : b ≠ c) : newN a b ≠ newN b c := by
  have q1 := (low_go 10 10 a b ha hb h1 (by omega)).2
  unfold newN lsN
  intro e
  have e1 : lsGo 10 (xN a b) = lsGo 10 (xN b c) := by omega
  rw [← e1] at e
  omega
theorem half_new : ∀ (f F a b p : Nat), a < 2 ^ f → b < 2 ^ f → a ≠ b → f ≤ F → halfGo F a b p = some (2 * (p + lsGo F (xN a b)) + a / 2 ^ lsGo F (xN a b) % 2)
  | 0, F, a, b, p, ha, hb, h, hF => by simp at ha hb; omega
  | f + 1, F, a, b, p, ha, hb, h, hF => by
    obtain ⟨F, rfl⟩ : ∃ q, F = q + 1 := ⟨F - 1, by omega⟩
    obtain ⟨h1, h2⟩ := xN_bits a b
    rw [Nat.pow_succ] at ha hb
    by_cases hm : a % 2 = b % 2
    · have e1 : Nat.beq (a % 2) (b % 2) = true := by rw [hm]; exact Nat.beq_refl _
      have e2 : Nat.beq (xN a b % 2) 1 = false := by
        have : xN a b % 2 = 0 := by omega
        rw [this]; rfl
      have ih := half_new f F (a / 2) (b / 2) (p + 1) (by omega) (by omega) (by omega) (by omega)
      unfold halfGo lsGo
      rw [e1, e2]
      simp only
      rw [ih, h1]
      show some _ = some (2 * (p + (lsGo F (xN (a / 2) (b / 2)) + 1)) + a / 2 ^ (lsGo F (xN (a / 2) (b / 2)) + 1) % 2)
      rw [Nat.pow_succ, Nat.mul_comm (2 ^ _) 2, ← Nat.div_div_eq_div_mul]
      congr 2
      omega
    · have e1 : Nat.beq (a % 2) (b % 2) = false := by
        cases q : Nat.beq (a % 2) (b % 2) with
        | false => rfl
        | true => exact absurd (Nat.eq_of_beq_eq_true q) hm
      have e2 : Nat.beq (xN a b % 2) 1 = true := by
        have : xN a b % 2 = 1 := by
          rcases Nat.mod_two_eq_zero_or_one a with qa | qa <;> rcases Nat.mod_two_eq_zero_or_one b with qb | qb <;> rw [qa, qb] at h2 hm <;> simp at h2 hm <;> omega
        rw [this]; rfl
      unfold halfGo lsGo
      rw [e1, e2]
      show some (2 * p + a % 2) = some (2 * (p + 0) + a / 2 ^ 0 % 2)
      simp
theorem half_eq {a b : Nat} (ha : a < 1024) (hb : b < 1024) (h : a ≠ b) : halfGo 10 a b 0 = some (newN a b) := by
  rw [half_new 10 10 a b 0 ha hb h (by omega), Nat.zero_add]
  rfl
theorem and_nat (a b : Nat) : Builtin.bitAnd (a : Int) (b : Int) = ((a &&& b : Nat) : Int) := by
  rw [bitAnd_pp (by omega) (by omega)]; rfl
theorem or_nat (a b : Nat) : Builtin.bitOr (a : Int) (b : Int) = ((a ||| b : Nat) : Int) := by
  unfold Builtin.bitOr
  rw [bitAnd_nn (by unfold Builtin.bitNot; omega) (by unfold Builtin.bitNot; omega)]
  have e : ∀ x : Int, Builtin.bitNot (Builtin.bitNot x) = x := fun x => by unfold Builtin.bitNot; omega
  rw [e, e, e]
  rfl
theorem xor_nat (a b : Nat) : Builtin.bitXor (a : Int) (b : Int) = ((xN a b : Nat) : Int) := by
  unfold Builtin.bitXor
  rw [or_nat, and_nat]
  have := and_le_or a b
  unfold xN
  omega
theorem and_one (a : Nat) : Builtin.bitAnd (a : Int) 1 = ((a % 2 : Nat) : Int) := by
  rw [show (1 : Int) = ((1 : Nat) : Int) from rfl, and_nat, Nat.and_one_is_mod]
theorem shr_nat (a p : Nat) : (a : Int).fdiv (2 ^ p) = ((a / 2 ^ p : Nat) : Int) := by
  have : (2 : Int) ^ p = ((2 ^ p : Nat) : Int) := by push_cast; rfl
  rw [this, Int.fdiv_eq_ediv_of_nonneg _ (Int.natCast_nonneg _)]
  rfl
end Mine
end
section
open PySem PySem.W PyProof.Rows PySem.Spec PySem.Calls
set_option linter.unusedVariables false
set_option maxRecDepth 100000
namespace Mine
noncomputable def wN (n : Nat) : List Nat := match Nat.blt n 256 with
  | true => (match Nat.blt n 16 with
    | true => (match Nat.beq n 0 with
      | true => []
      | false => [65 + n])
    | false => [65 + n / 16, 65 + n % 16])
  | false => [65 + n / 256, 65 + n / 16 % 16, 65 + n % 16]
noncomputable def isStr (r : Option (MV × List MO)) (x : List Nat) : Bool := match r with
  | some (.str y, _) => eqNs y x
  | _ => false
noncomputable def isNat (r : Option (MV × List MO)) (n : Nat) : Bool := match r with
  | some (.int i, _) => (match i with
    | .ofNat a => Nat.beq a n
    | _ => false)
  | _ => false
noncomputable def allTo (f : Nat → Bool) : Nat → Nat → Bool
  | _, 0 => true
  | a, n + 1 => f a && allTo f (a + 1) n
theorem allTo_ok {f : Nat → Bool} : ∀ {n a : Nat}, allTo f a n = true → ∀ k, a ≤ k → k < a + n → f k = true
  | 0, a, _, k, h1, h2 => by omega
  | n + 1, a, h, k, h1, h2 => by
    have h' : (f a && allTo f (a + 1) n) = true := h
    rw [Bool.and_eq_true] at h'
    rcases Nat.lt_or_ge a k with q | q
    · exact allTo_ok h'.2 k (by omega) (by omega)
    · have : k = a := by omega
      subst this; exact h'.1
noncomputable def okWord (sns : List Int) (n : Nat) : Bool := isStr (f__law_word sns [.int n] []) (wN n)
noncomputable def okNum (sns : List Int) (n : Nat) : Bool := isNat (f__law_number sns [.str (wN n)] []) n
noncomputable def lowNames : List (List Nat) := [[79, 80, 84, 73, 77, 73, 90, 69, 68], [78, 69, 87, 76, 79, 67, 65, 76, 83], [86, 65, 82, 65, 82, 71, 83], [86, 65, 82, 75, 69, 89, 87, 79, 82, 68, 83], [78, 69, 83, 84, 69, 68], [71, 69, 78, 69, 82, 65, 84, 79, 82], [78, 79, 70, 82, 69, 69], [67, 79, 82, 79, 85, 84, 73, 78, 69], [73, 84, 69, 82, 65, 66, 76, 69, 95, 67, 79, 82, 79, 85, 84, 73, 78, 69], [65, 83, 89, 78, 67, 95, 71, 69, 78, 69, 82, 65, 84, 79, 82]]
noncomputable def nmK (k : Nat) : List Nat := (lowNames[k]?).getD []
noncomputable def isCut : List Nat → Bool
  | [] => true
  | a :: r => match r with
    | [] => false
    | b :: _ => Nat.beq a 44 && Nat.beq b 32
noncomputable def isPre : List Nat → List Nat → Bool
  | [], x => isCut x
  | c :: w, x => match x with
    | [] => false
    | a :: r => Nat.beq a c && isPre w r
noncomputable def isFst (r : Option (MV × List MO)) (w : List Nat) : Bool := match r with
  | some (.str x, _) => isPre w x && Nat.ble x.length 1000
  | _ => false
noncomputable def okLow (sns : List Int) (n : Nat) : Bool := Nat.beq n 0 || (Nat.blt (lsN n) 10 && isFst (f_pretty_flags sns [.int n] []) (nmK (lsN n)))
theorem isPre_eq : ∀ {w x : List Nat}, isPre w x = true → x = w ∨ ∃ t, x = w ++ 44 :: 32 :: t
  | [], x, h => by
    cases x with
    | nil => exact .inl rfl
    | cons a r => cases r with
      | nil => cases h
      | cons b t =>
        have h' : (Nat.beq a 44 && Nat.beq b 32) = true := h
        rw [Bool.and_eq_true] at h'
        rw [Nat.eq_of_beq_eq_true h'.1, Nat.eq_of_beq_eq_true h'.2]
        exact .inr ⟨t, rfl⟩
  | c :: w, x, h => by
    cases x with
    | nil => cases h
    | cons a r =>
      have h' : (Nat.beq a c && isPre w r) = true := h
      rw [Bool.and_eq_true] at h'
      rw [Nat.eq_of_beq_eq_true h'.1]
      rcases isPre_eq h'.2 with q | ⟨t, q⟩
      · exact .inl (by rw [q])
      · exact .inr ⟨t, by rw [q]; rfl⟩
theorem occGo_keep (x y : List Nat) (lim : Nat) : ∀ (is f : List Nat) (a free : Nat), ∃ r, occGo x y lim is (a :: f) free = a :: r
  | [], f, a, _ => ⟨f, rfl⟩
  | i :: is, f, a, free => by
    unfold occGo
    split
    · exact occGo_keep x y lim is (f ++ [i]) a _
    · exact occGo_keep x y lim is f a _
theorem occGo_none (x y : List Nat) (lim : Nat) : ∀ (is js : List Nat) (free : Nat), (∀ i ∈ is, (x.drop i).take y.length ≠ y) → occGo x y lim (is ++ js) [] free = occGo x y lim js [] free
  | [], js, free, _ => rfl
  | i :: is, js, free, h => by
    show occGo x y lim (i :: (is ++ js)) [] free = _
    unfold occGo
    rw [if_neg (fun q => h i (List.mem_cons_self ..) q.2.2.2)]
    cases js with
    | nil => exact occGo_none x y lim is [] free fun a b => h a (List.mem_cons_of_mem _ b)
    | cons j js => 
      rw [occGo_none x y lim is (j :: js) free fun a b => h a (List.mem_cons_of_mem _ b)]
      rw [occGo]
theorem drop_ne {w x : List Nat} (hw : ∀ c ∈ w, c ≠ 44) (t : List Nat) (hx : x = w ++ t) {i : Nat} (hi : i < w.length) : (x.drop i).take 2 ≠ [44, 32] := by
  intro e
  have q : x[i]? = some 44 := by
    have : ((x.drop i).take 2)[0]? = some 44 := by rw [e]; rfl
    rw [List.getElem?_take_of_lt (by decide), List.getElem?_drop] at this
    exact this
  rw [hx, List.getElem?_append_left hi] at q
  exact hw 44 (List.mem_of_getElem? q) rfl
theorem split_fst {w x : List Nat} (hw : ∀ c ∈ w, c ≠ 44) (h : isPre w x = true) : ∃ r, splitL x [44, 32] = w :: r := by
  rcases isPre_eq h with rfl | ⟨t, hx⟩
  · have e : occL x [44, 32] = [] := by
      unfold occL
      rw [show List.range' 0 (x.length + 1) = List.range' 0 (x.length + 1) ++ [] by rw [List.append_nil], occGo_none]
      · rfl
      · intro i hi
        have hi := (List.mem_range'_1.mp hi).2
        rcases Nat.lt_or_ge i x.length with q | q
        · exact drop_ne hw [] (by rw [List.append_nil]) q
        · rw [List.drop_eq_nil_of_le q]; intro e; cases e
    unfold splitL
    rw [e]
    exact ⟨[], by simp⟩
  · have e : ∃ r, occL x [44, 32] = w.length :: r := by
      have hl : x.length = w.length + (t.length + 2) := by rw [hx]; simp
      unfold occL
      rw [hl, show w.length + (t.length + 2) + 1 = w.length + (t.length + 3) by omega, ← List.range'_append_1, occGo_none, List.range'_succ]
      · unfold occGo
        rw [if_pos]
        · simp only [Nat.zero_add]; exact occGo_keep _ _ _ _ [] w.length _
        · refine ⟨Nat.succ_pos _, Nat.zero_le _, ?_, ?_⟩
          · rw [hl]; show 0 + w.length + 2 ≤ _; omega
          · rw [hx, Nat.zero_add, List.drop_left]; rfl
      · intro i hi
        have hi := (List.mem_range'_1.mp hi).2
        exact drop_ne hw _ hx (by omega)
    obtain ⟨r, e⟩ := e
    unfold splitL
    rw [e]
    refine ⟨((((w.length :: r).map (· + [44, 32].length)).zip (r ++ [x.length]))).map fun p => (x.drop p.1).take (p.2 - p.1), ?_⟩
    show (x.drop 0).take (w.length - 0) :: _ = _
    rw [List.drop_zero, Nat.sub_zero, hx, List.take_left]
    rfl
theorem nmK_plain : ∀ {k : Nat}, k < 10 → ∀ c ∈ nmK k, c ≠ 44 := by
  intro k h
  have q : ∀ j : Fin 10, ((nmK j.val).all fun c => !Nat.beq c 44) = true := by decide +kernel
  intro c hc e
  have := List.all_eq_true.mp (q ⟨k, h⟩) c hc
  rw [e] at this
  cases this
theorem idx_low (hp : List MO) {k : Nat} (h : k < 10) (hL : listOf hp 0 = some (lowNames.map .str)) : gIndex [.ref 0, .str (nmK k)] hp = some (.int (k : Int), hp) := by
  have q : ∀ j : Fin 10, okA (.str (nmK j.val)) (lowNames.map .str) = true ∧ findA (.str (nmK j.val)) (lowNames.map .str) = some j.val := by decide +kernel
  obtain ⟨q1, q2⟩ := q ⟨k, h⟩
  unfold gIndex
  simp only [hL]
  rw [if_pos q1, q2]
  show (if k < few then _ else none) = _
  rw [if_pos (by unfold few; omega)]
theorem kw0 (sns : List Int) : allTo (okWord sns) 0 64 = true := by kernel_rfl
theorem kw64 (sns : List Int) : allTo (okWord sns) 64 64 = true := by kernel_rfl
theorem kw128 (sns : List Int) : allTo (okWord sns) 128 64 = true := by kernel_rfl
theorem kw192 (sns : List Int) : allTo (okWord sns) 192 64 = true := by kernel_rfl
theorem kw256 (sns : List Int) : allTo (okWord sns) 256 64 = true := by kernel_rfl
theorem kw320 (sns : List Int) : allTo (okWord sns) 320 64 = true := by kernel_rfl
theorem kw384 (sns : List Int) : allTo (okWord sns) 384 64 = true := by kernel_rfl
theorem kw448 (sns : List Int) : allTo (okWord sns) 448 64 = true := by kernel_rfl
theorem kw512 (sns : List Int) : allTo (okWord sns) 512 64 = true := by kernel_rfl
theorem kw576 (sns : List Int) : allTo (okWord sns) 576 64 = true := by kernel_rfl
theorem kw640 (sns : List Int) : allTo (okWord sns) 640 64 = true := by kernel_rfl
theorem kw704 (sns : List Int) : allTo (okWord sns) 704 64 = true := by kernel_rfl
theorem kw768 (sns : List Int) : allTo (okWord sns) 768 64 = true := by kernel_rfl
theorem kw832 (sns : List Int) : allTo (okWord sns) 832 64 = true := by kernel_rfl
theorem kw896 (sns : List Int) : allTo (okWord sns) 896 64 = true := by kernel_rfl
theorem kw960 (sns : List Int) : allTo (okWord sns) 960 64 = true := by kernel_rfl
theorem kn0 (sns : List Int) : allTo (okNum sns) 0 128 = true := by kernel_rfl
theorem kn128 (sns : List Int) : allTo (okNum sns) 128 128 = true := by kernel_rfl
theorem kn256 (sns : List Int) : allTo (okNum sns) 256 128 = true := by kernel_rfl
theorem kn384 (sns : List Int) : allTo (okNum sns) 384 128 = true := by kernel_rfl
theorem kn512 (sns : List Int) : allTo (okNum sns) 512 128 = true := by kernel_rfl
theorem kn640 (sns : List Int) : allTo (okNum sns) 640 128 = true := by kernel_rfl
theorem kn768 (sns : List Int) : allTo (okNum sns) 768 128 = true := by kernel_rfl
theorem kn896 (sns : List Int) : allTo (okNum sns) 896 128 = true := by kernel_rfl
theorem kl0 (sns : List Int) : allTo (okLow sns) 0 64 = true := by kernel_rfl
theorem kl64 (sns : List Int) : allTo (okLow sns) 64 64 = true := by kernel_rfl
theorem kl128 (sns : List Int) : allTo (okLow sns) 128 64 = true := by kernel_rfl
theorem kl192 (sns : List Int) : allTo (okLow sns) 192 64 = true := by kernel_rfl
theorem kl256 (sns : List Int) : allTo (okLow sns) 256 64 = true := by kernel_rfl
theorem kl320 (sns : List Int) : allTo (okLow sns) 320 64 = true := by kernel_rfl
theorem kl384 (sns : List Int) : allTo (okLow sns) 384 64 = true := by kernel_rfl
theorem kl448 (sns : List Int) : allTo (okLow sns) 448 64 = true := by kernel_rfl
theorem kl512 (sns : List Int) : allTo (okLow sns) 512 64 = true := by kernel_rfl
theorem kl576 (sns : List Int) : allTo (okLow sns) 576 64 = true := by kernel_rfl
theorem kl640 (sns : List Int) : allTo (okLow sns) 640 64 = true := by kernel_rfl
theorem kl704 (sns : List Int) : allTo (okLow sns) 704 64 = true := by kernel_rfl
theorem kl768 (sns : List Int) : allTo (okLow sns) 768 64 = true := by kernel_rfl
theorem kl832 (sns : List Int) : allTo (okLow sns) 832 64 = true := by kernel_rfl
theorem kl896 (sns : List Int) : allTo (okLow sns) 896 64 = true := by kernel_rfl
theorem kl960 (sns : List Int) : allTo (okLow sns) 960 64 = true := by kernel_rfl
theorem kw_all (sns : List Int) (n : Nat) (h : n < 1024) : okWord sns n = true := by
  rcases Nat.lt_or_ge n 512 with q | q
  · rcases Nat.lt_or_ge n 256 with q | q
    · rcases Nat.lt_or_ge n 128 with q | q
      · rcases Nat.lt_or_ge n 64 with q | q
        · exact allTo_ok (kw0 sns) n (by omega) (by omega)
        · exact allTo_ok (kw64 sns) n (by omega) (by omega)
      · rcases Nat.lt_or_ge n 192 with q | q
        · exact allTo_ok (kw128 sns) n (by omega) (by omega)
        · exact allTo_ok (kw192 sns) n (by omega) (by omega)
    · rcases Nat.lt_or_ge n 384 with q | q
      · rcases Nat.lt_or_ge n 320 with q | q
        · exact allTo_ok (kw256 sns) n (by omega) (by omega)
        · exact allTo_ok (kw320 sns) n (by omega) (by omega)
      · rcases Nat.lt_or_ge n 448 with q | q
        · exact allTo_ok (kw384 sns) n (by omega) (by omega)
        · exact allTo_ok (kw448 sns) n (by omega) (by omega)
  · rcases Nat.lt_or_ge n 768 with q | q
    · rcases Nat.lt_or_ge n 640 with q | q
      · rcases Nat.lt_or_ge n 576 with q | q
        · exact allTo_ok (kw512 sns) n (by omega) (by omega)
        · exact allTo_ok (kw576 sns) n (by omega) (by omega)
      · rcases Nat.lt_or_ge n 704 with q | q
        · exact allTo_ok (kw640 sns) n (by omega) (by omega)
        · exact allTo_ok (kw704 sns) n (by omega) (by omega)
    · rcases Nat.lt_or_ge n 896 with q | q
      · rcases Nat.lt_or_ge n 832 with q | q
        · exact allTo_ok (kw768 sns) n (by omega) (by omega)
        · exact allTo_ok (kw832 sns) n (by omega) (by omega)
      · rcases Nat.lt_or_ge n 960 with q | q
        · exact allTo_ok (kw896 sns) n (by omega) (by omega)
        · exact allTo_ok (kw960 sns) n (by omega) (by omega)
theorem kn_all (sns : List Int) (n : Nat) (h : n < 1024) : okNum sns n = true := by
  rcases Nat.lt_or_ge n 512 with q | q
  · rcases Nat.lt_or_ge n 256 with q | q
    · rcases Nat.lt_or_ge n 128 with q | q
      · exact allTo_ok (kn0 sns) n (by omega) (by omega)
      · exact allTo_ok (kn128 sns) n (by omega) (by omega)
    · rcases Nat.lt_or_ge n 384 with q | q
      · exact allTo_ok (kn256 sns) n (by omega) (by omega)
      · exact allTo_ok (kn384 sns) n (by omega) (by omega)
  · rcases Nat.lt_or_ge n 768 with q | q
    · rcases Nat.lt_or_ge n 640 with q | q
      · exact allTo_ok (kn512 sns) n (by omega) (by omega)
      · exact allTo_ok (kn640 sns) n (by omega) (by omega)
    · rcases Nat.lt_or_ge n 896 with q | q
      · exact allTo_ok (kn768 sns) n (by omega) (by omega)
      · exact allTo_ok (kn896 sns) n (by omega) (by omega)
theorem kl_all (sns : List Int) (n : Nat) (h : n < 1024) : okLow sns n = true := by
  rcases Nat.lt_or_ge n 512 with q | q
  · rcases Nat.lt_or_ge n 256 with q | q
    · rcases Nat.lt_or_ge n 128 with q | q
      · rcases Nat.lt_or_ge n 64 with q | q
        · exact allTo_ok (kl0 sns) n (by omega) (by omega)
        · exact allTo_ok (kl64 sns) n (by omega) (by omega)
      · rcases Nat.lt_or_ge n 192 with q | q
        · exact allTo_ok (kl128 sns) n (by omega) (by omega)
        · exact allTo_ok (kl192 sns) n (by omega) (by omega)
    · rcases Nat.lt_or_ge n 384 with q | q
      · rcases Nat.lt_or_ge n 320 with q | q
        · exact allTo_ok (kl256 sns) n (by omega) (by omega)
        · exact allTo_ok (kl320 sns) n (by omega) (by omega)
      · rcases Nat.lt_or_ge n 448 with q | q
        · exact allTo_ok (kl384 sns) n (by omega) (by omega)
        · exact allTo_ok (kl448 sns) n (by omega) (by omega)
  · rcases Nat.lt_or_ge n 768 with q | q
    · rcases Nat.lt_or_ge n 640 with q | q
      · rcases Nat.lt_or_ge n 576 with q | q
        · exact allTo_ok (kl512 sns) n (by omega) (by omega)
        · exact allTo_ok (kl576 sns) n (by omega) (by omega)
      · rcases Nat.lt_or_ge n 704 with q | q
        · exact allTo_ok (kl640 sns) n (by omega) (by omega)
        · exact allTo_ok (kl704 sns) n (by omega) (by omega)
    · rcases Nat.lt_or_ge n 896 with q | q
      · rcases Nat.lt_or_ge n 832 with q | q
        · exact allTo_ok (kl768 sns) n (by omega) (by omega)
        · exact allTo_ok (kl832 sns) n (by omega) (by omega)
      · rcases Nat.lt_or_ge n 960 with q | q
        · exact allTo_ok (kl896 sns) n (by omega) (by omega)
        · exact allTo_ok (kl960 sns) n (by omega) (by omega)
theorem word_eq (sns : List Int) {n : Nat} (h : n < 1024) (hp : List MO) : wordF sns [.int (n : Int)] hp = some (.str (wN n), hp) := by
  have q := kw_all sns n h
  show (match f__law_word sns [.int n] [] with | none => none | some (v, _) => _) = _
  unfold okWord at q
  revert q
  generalize f__law_word sns [.int (n : Int)] [] = r
  intro q
  unfold isStr at q
  split at q
  · rw [eqNs_eq q]; rfl
  · cases q
theorem isNat_eq {r : Option (MV × List MO)} {n : Nat} (h : isNat r n = true) : ∃ g, r = some (.int (n : Int), g) := by
  unfold isNat at h
  split at h
  · split at h
    · rw [Nat.eq_of_beq_eq_true h]; exact ⟨_, rfl⟩
    · cases h
  · cases h
theorem num_eq (sns : List Int) {n : Nat} (h : n < 1024) (hp : List MO) : numF sns [.str (wN n)] hp = some (.int (n : Int), hp) := by
  obtain ⟨g, e⟩ := isNat_eq (kn_all sns n h)
  show (match f__law_number sns [.str (wN n)] [] with | none => none | some (v, _) => _) = _
  rw [e]; rfl
theorem atI_zero {α : Type} (a : α) (l : List α) : atI (a :: l) 0 = some a := by
  unfold atI
  rw [show (0 : Int) = ((0 : Nat) : Int) from rfl, seqIndex_nat (by simp)]
  rfl
theorem low2_eq (sns : List Int) {n k : Nat} (hk : k < 10) (q : isFst (f_pretty_flags sns [.int n] []) (nmK k) = true) : ∃ g, f_low2 sns [.int n] [] = some (.int (k : Int), g) := by
  unfold isFst at q
  split at q
  · rename_i x g0 e0
    rw [Bool.and_eq_true] at q
    have hx : x.length ≤ 1000 := Nat.le_of_ble_eq_true q.2
    obtain ⟨r, hr⟩ := split_fst (nmK_plain hk) q.1
    have ep : ∀ H, prettyF sns [.int n] H = some (.str x, H) := by
      intro H
      show (match f_pretty_flags sns [.int n] [] with | none => none | some (v, _) => _) = _
      rw [e0]; rfl
    have es : ∀ H, gSplit [.str x, .str [44, 32]] H = some (.ref H.length, H ++ [.list (.str (nmK k) :: r.map .str)]) := by
      intro H
      unfold gSplit
      simp only
      rw [if_pos ⟨by decide, by decide, Nat.le_trans hx (by decide)⟩, hr]
      rfl
    generalize hH : ([.list (lowNames.map .str), .list [.str [73, 84, 69, 82, 65, 66, 76, 69, 95, 67, 79, 82, 79, 85, 84, 73, 78, 69], .str [65, 83, 89, 78, 67, 95, 71, 69, 78, 69, 82, 65, 84, 79, 82]]] : List MO) = H0
    have hL : listOf H0 0 = some (lowNames.map .str) := by rw [← hH]; rfl
    refine ⟨H0 ++ [.list (.str (nmK k) :: r.map .str)], ?_⟩
    show outOf (sSeq _ _ _ _) = _
    rw [sSeq_next (l1 := [some (.int (n : Int)), some (.ref 0)]) (h1 := [.list ((lowNames.take 8).map .str)]) rfl, sSeq_next (l1 := [some (.int (n : Int)), some (.ref 0)]) (h1 := H0) (by rw [← hH]; rfl),
      sSeq_ret (sRet_eq (mMeth_eq (a := .ref 0) (h1 := H0) rfl (by unfold isListMV; simp only [hL]; rfl) (lCons_eq (mSub_eq (mMeth_eq (mCall_eq (lCons_eq (v := .int (n : Int)) (h1 := H0) rfl lNil_eq) (ep H0)) rfl (lCons_eq (v := .str [44, 32]) (h1 := H0) rfl lNil_eq) (es H0)) (h2 := H0 ++ [.list (.str (nmK k) :: r.map .str)]) (b := .int 0) rfl (by unfold subMV; simp only [listOf_end]; rw [if_pos (by decide)]; exact atI_zero _ _)) lNil_eq) (idx_low _ hk (listOf_app hL _))))]
    rfl
  · cases q
theorem low_eq (sns : List Int) {n : Nat} (h : n < 1024) (h0 : 0 < n) (hp : List MO) : lowF sns [.int (n : Int)] hp = some (.int (lsN n : Int), hp) := by
  have q := kl_all sns n h
  unfold okLow at q
  rw [Bool.or_eq_true] at q
  rcases q with q | q
  · have := Nat.eq_of_beq_eq_true q; omega
  · rw [Bool.and_eq_true] at q
    have hk : lsN n < 10 := Nat.le_of_ble_eq_true q.1
    obtain ⟨g, e⟩ := low2_eq sns hk q.2
    show (match f_low2 sns [.int n] [] with | none => none | some (v, _) => _) = _
    rw [e]; rfl
end Mine
end
section
open PySem PySem.W PyProof.Rows PySem.Spec PySem.Calls
set_option linter.unusedVariables false
set_option maxRecDepth 100000
namespace Mine
theorem feeds_zip {a b t : Nat} {xs ys : List MV} (hl : xs.length = ys.length) : Feeds (fun hp => listOf hp a = some xs ∧ listOf hp b = some ys ∧ hp[t]? = some .junk) (fun m => .zip a b m t) (List.zipWith (fun x y => MV.tup [x, y]) xs ys) := by
  have key : ∀ (hp : List MO) (m : Nat), listOf hp a = some xs → listOf hp b = some ys → hp[t]? = some .junk → It.next (.zip a b m t) hp = (match xs[m]? with | none => some none | some x => match ys[m]? with | none => none | some y => some (some (.tup [x, y], .zip a b (m + 1) t))) := by
    intro hp m h1 h2 h3
    show (match hp[t]? with | some .junk => (match listOf hp a with | none => none | some xs => match listOf hp b with | none => none | some ys => match xs[m]? with | none => some none | some x => match ys[m]? with | none => none | some y => some (some (MV.tup [x, y], It.zip a b (m + 1) t))) | _ => none) = _
    rw [h3]
    simp only
    rw [h1]
    simp only
    rw [h2]
  refine ⟨fun hp h m hm => ?_, fun hp h m hm => ?_⟩
  · rw [List.length_zipWith] at hm
    rw [key hp m h.1 h.2.1 h.2.2, List.getElem?_eq_getElem (by omega), List.getElem?_eq_getElem (by omega)]
    simp
  · rw [List.length_zipWith] at hm
    rw [key hp m h.1 h.2.1 h.2.2, List.getElem?_eq_none (by omega)]
noncomputable def nmW (k : Nat) : List Nat := [66 + k, 66 + k]
noncomputable def nmsF : Nat → Nat → List MV
  | _, 0 => []
  | s, n + 1 => .str (nmW s) :: nmsF (s + 1) n
theorem nmsF_len : ∀ s n, (nmsF s n).length = n
  | _, 0 => rfl
  | s, n + 1 => by unfold nmsF; rw [List.length_cons, nmsF_len]
theorem nmsF_at : ∀ (s n k : Nat) (h : k < (nmsF s n).length), (nmsF s n)[k] = .str (nmW (s + k))
  | s, 0, k, h => by simp [nmsF] at h
  | s, n + 1, 0, h => rfl
  | s, n + 1, k + 1, h => by
    show (nmsF (s + 1) n)[k]'(by simpa [nmsF] using h) = _
    rw [nmsF_at (s + 1) n k, show s + 1 + k = s + (k + 1) by omega]
noncomputable def tabF : Nat → List Nat → List MV
  | _, [] => []
  | s, n :: r => .tup [.str (nmW s), .str (wN n)] :: tabF (s + 1) r
theorem tabF_len : ∀ s l, (tabF s l).length = l.length
  | _, [] => rfl
  | s, n :: r => by unfold tabF; rw [List.length_cons, List.length_cons, tabF_len]
noncomputable def eT (x : MV) : MV := match x with
  | .tup [n, .int v] => .tup [n, .str (wN v.toNat)]
  | _ => .none
theorem zip_tab : ∀ (s : Nat) (l : List Nat), (List.zipWith (fun x y => MV.tup [x, y]) (nmsF s l.length) (natL l)).map eT = tabF s l
  | _, [] => rfl
  | s, n :: r => by
    show eT (.tup [.str (nmW s), .int (n : Int)]) :: (List.zipWith (fun x y => MV.tup [x, y]) (nmsF (s + 1) r.length) (natL r)).map eT = _
    rw [zip_tab (s + 1) r]
    rfl
theorem zip_mem : ∀ {s : Nat} {l : List Nat} {x : MV}, x ∈ List.zipWith (fun x y => MV.tup [x, y]) (nmsF s l.length) (natL l) → ∃ (k n : Nat), n ∈ l ∧ x = .tup [.str (nmW k), .int (n : Int)]
  | _, [], x, h => nomatch h
  | s, n :: r, x, h => by
    rcases List.mem_cons.mp h with rfl | h
    · exact ⟨s, n, List.mem_cons_self .., rfl⟩
    · obtain ⟨k, m, h1, h2⟩ := zip_mem (s := s + 1) (l := r) h
      exact ⟨k, m, List.mem_cons_of_mem _ h1, h2⟩
theorem wN_ok {n : Nat} (h : n < 1024) : (wN n).all okChar = true ∧ (wN n).length ≤ 3 := by
  unfold wN
  cases h1 : Nat.blt n 256 with
  | true =>
    rw [Nat.blt_eq] at h1
    cases h2 : Nat.blt n 16 with
    | true =>
      rw [Nat.blt_eq] at h2
      cases Nat.beq n 0 with
      | true => exact ⟨rfl, by simp⟩
      | false => refine ⟨?_, by simp⟩; simp only [List.all_cons, List.all_nil, Bool.and_true]; rw [okChar_iff]; omega
    | false =>
      refine ⟨?_, by simp⟩
      simp only [List.all_cons, List.all_nil, Bool.and_true, Bool.and_eq_true]
      rw [okChar_iff, okChar_iff]; omega
  | false =>
    refine ⟨?_, by simp⟩
    simp only [List.all_cons, List.all_nil, Bool.and_true, Bool.and_eq_true]
    rw [okChar_iff, okChar_iff, okChar_iff]; omega
theorem nmW_ok {k : Nat} (h : k < 14) : (nmW k).all okChar = true ∧ (nmW k).length = 2 := by
  refine ⟨?_, rfl⟩
  unfold nmW
  simp only [List.all_cons, List.all_nil, Bool.and_true, Bool.and_eq_true]
  rw [okChar_iff]; omega
theorem tab_hdr : ∀ (s : Nat) (l : List Nat), (∀ n ∈ l, n < 1024) → s + l.length ≤ 14 → ∀ x ∈ tabF s l, hdrOk x
  | _, [], _, _, x, hx => nomatch hx
  | s, n :: r, h, hl, x, hx => by
    simp only [List.length_cons] at hl
    rcases List.mem_cons.mp hx with rfl | hx
    · obtain ⟨w1, w2⟩ := wN_ok (h n (List.mem_cons_self ..))
      obtain ⟨n1, n2⟩ := nmW_ok (k := s) (by omega)
      exact ⟨nmW s, wN n, rfl, n1, by rw [n2]; simp [few], w1, by unfold few; omega⟩
    · exact tab_hdr (s + 1) r (fun m hm => h m (List.mem_cons_of_mem _ hm)) (by omega) x hx
structure TH3 (H : List MO) (i d j : Nat) (T : List MV) : Prop where
  ins : H[i]? = some (.inst 186 d)
  dic : H[d]? = some (.idict (some (.ref j)))
  tab : listOf H j = some T
theorem TH3.app {H i d j T} (h : TH3 H i d j T) (g : List MO) : TH3 (H ++ g) i d j T := ⟨get_app h.ins g, get_app h.dic g, listOf_app h.tab g⟩
theorem table_eq {sns : List Int} {hp : List MO} {a b : Nat} {ns : List Nat} (ha : listOf hp a = some (nmsF 0 ns.length)) (hb : listOf hp b = some (natL ns)) (hn : ∀ n ∈ ns, n < 1024) (hl : ns.length ≤ 14) :
    ∃ g, f_table3 sns [.ref a, .ref b] hp = some (.ref (hp.length + 3), hp ++ g) ∧ TH3 (hp ++ g) (hp.length + 3) (hp.length + 2) (hp.length + 1) (tabF 0 ns) := by
  have e0 : iZip (lCons (mVar 0) (lCons (mVar 1) lNil)) [some (.ref a), some (.ref b)] hp = some (.zip a b 0 hp.length, hp ++ [.junk]) := by
    show zipOf hp [.ref a, .ref b] = _
    show (match listOf hp a with | none => none | some _ => match listOf hp b with | none => none | some _ => some (It.zip a b 0 hp.length, hp ++ [MO.junk])) = _
    rw [ha]
    simp only
    rw [hb]
  have hJ : (hp ++ [MO.junk])[hp.length]? = some .junk := by rw [List.getElem?_append_right (Nat.le_refl _)]; simp
  have ha1 := listOf_app ha [.junk]
  have hb1 := listOf_app hb [.junk]
  have hlen : (hp ++ [MO.junk]).length = hp.length + 1 := by simp
  have e1 := comp_gen (n := 4000) (t := .two 1 2) (mc := tTrue) (me := mTup (lCons (mVar 1) (lCons (mCall (wordF sns) (lCons (mVar 2) lNil)) lNil))) (k := 3) (ci := []) (p := fun _ => true) (e := eT) (lo := fun x => match x with | .tup [a, b] => [none, some a, some b] | _ => [])
    (feeds_zip (a := a) (b := b) (t := hp.length) (xs := nmsF 0 ns.length) (ys := natL ns) (by rw [nmsF_len, ints_len])) e0 (fun acc => ⟨listOf_app ha1 _, listOf_app hb1 _, get_app hJ _⟩) (fun _ => rfl) (by rw [List.length_zipWith, nmsF_len, ints_len]; omega) (by rw [List.length_zipWith, nmsF_len, ints_len]; unfold few; omega)
    (fun x hx => by obtain ⟨k, n, _, rfl⟩ := zip_mem hx; rfl) (fun x y l1 h => setT_two (by decide) h) (fun _ _ _ => rfl) (fun x hx _ acc => by
      obtain ⟨k, n, hn', rfl⟩ := zip_mem hx
      generalize hp ++ [MO.junk] ++ [.list acc] = H1
      show mTup (lCons (mVar 1) (lCons (mCall (wordF sns) (lCons (mVar 2) lNil)) lNil)) [none, some (.str (nmW k)), some (.int (n : Int))] H1 = some (.tup [.str (nmW k), .str (wN n)], H1)
      exact mTup_eq (lCons_eq (h1 := H1) rfl (lCons_eq (mCall_eq (vs := [.int (n : Int)]) (h1 := H1) rfl (word_eq sns (hn n hn') H1)) lNil_eq)) (by simp [few]))
  rw [List.filter_eq_self.mpr (fun _ _ => rfl), zip_tab] at e1
  have hT := listOf_end (hp ++ [MO.junk]) (tabF 0 ns)
  have e2 := make_eq (sns := sns) hT (tab_hdr 0 ns hn (by omega)) (by rw [tabF_len]; omega)
  have hlen2 : (hp ++ [MO.junk] ++ [MO.list (tabF 0 ns)]).length = hp.length + 2 := by simp
  refine ⟨[.junk] ++ [.list (tabF 0 ns)] ++ [.idict (some (.ref (hp.length + 1))), .inst 186 (hp.length + 2)], ?_, ?_⟩
  · show outOf (sSeq (sRet (mCall (gMake 186 (f_H_dinitd sns)) (lCons (mComp 4000 (.two 1 2) (iZip (lCons (mVar 0) (lCons (mVar 1) lNil))) tTrue (mTup (lCons (mVar 1) (lCons (mCall (wordF sns) (lCons (mVar 2) lNil)) lNil))) 3 []) lNil))) sNil [some (.ref a), some (.ref b)] hp) = _
    rw [sSeq_ret (sRet_eq (mCall_eq (lCons_eq e1 lNil_eq) e2)), hlen2, hlen]
    simp [outOf]
  · refine ⟨?_, ?_, ?_⟩
    · rw [show hp ++ ([MO.junk] ++ [MO.list (tabF 0 ns)] ++ [MO.idict (some (.ref (hp.length + 1))), MO.inst 186 (hp.length + 2)]) = (hp ++ [MO.junk] ++ [MO.list (tabF 0 ns)]) ++ [MO.idict (some (.ref (hp.length + 1))), MO.inst 186 (hp.length + 2)] by simp, List.getElem?_append_right (by omega), hlen2]
      simp
    · rw [show hp ++ ([MO.junk] ++ [MO.list (tabF 0 ns)] ++ [MO.idict (some (.ref (hp.length + 1))), MO.inst 186 (hp.length + 2)]) = (hp ++ [MO.junk] ++ [MO.list (tabF 0 ns)]) ++ [MO.idict (some (.ref (hp.length + 1))), MO.inst 186 (hp.length + 2)] by simp, List.getElem?_append_right (by omega), hlen2]
      simp
    · have := listOf_app hT [MO.idict (some (.ref (hp.length + 1))), MO.inst 186 (hp.length + 2)]
      rw [hlen] at this
      rw [show hp ++ ([MO.junk] ++ [MO.list (tabF 0 ns)] ++ [MO.idict (some (.ref (hp.length + 1))), MO.inst 186 (hp.length + 2)]) = (hp ++ [MO.junk] ++ [MO.list (tabF 0 ns)]) ++ [MO.idict (some (.ref (hp.length + 1))), MO.inst 186 (hp.length + 2)] by simp]
      exact this
structure Enc3 (T : List MV) (ns : List Nat) : Prop where
  len : T.length < 1000
  hdr : ∀ x ∈ T, hdrOk x
  fnd : ∀ k, k < ns.length → findP ((nmW k).map lo1) T = some (.str (wN (atN ns k)))
theorem nm_lo {k : Nat} (h : k < 14) : (nmW k).map lo1 = [98 + k, 98 + k] := by
  unfold nmW
  simp only [List.map_cons, List.map_nil]
  rw [up_lo (up_iff.mpr (by omega))]
  congr 1
  · omega
  · congr 1; omega
theorem nm_eq {k s : Nat} (h : k < 14) (h' : s < 14) : ((nmW s).map lo1 == (nmW k).map lo1) = Nat.beq s k := by
  rw [nm_lo h, nm_lo h']
  cases hb : Nat.beq s k with
  | true => rw [Nat.eq_of_beq_eq_true hb]; simp
  | false =>
    have := Nat.ne_of_beq_eq_false hb
    simp
    omega
theorem find_tab {k : Nat} (hk : k < 14) : ∀ (s : Nat) (l : List Nat), s + l.length ≤ 14 → s ≤ k → k < s + l.length → findP ((nmW k).map lo1) (tabF s l) = some (.str (wN (atN l (k - s))))
  | s, [], _, h1, h2 => by simp at h2; omega
  | s, n :: r, hl, h1, h2 => by
    simp only [List.length_cons] at hl h2
    obtain ⟨n1, n2⟩ := nmW_ok (k := s) (by omega)
    show findP ((nmW k).map lo1) (.tup [.str (nmW s), .str (wN n)] :: tabF (s + 1) r) = _
    unfold findP
    rw [okChars_128 n1, n2, nm_eq hk (by omega)]
    rw [show decide (2 ≤ few) = true by simp [few]]
    simp only [Bool.and_self]
    cases hb : Nat.beq s k with
    | true =>
      have := Nat.eq_of_beq_eq_true hb
      subst this
      rw [Nat.sub_self]
      rfl
    | false =>
      have := Nat.ne_of_beq_eq_false hb
      simp only
      rw [find_tab hk (s + 1) r (by omega) (by omega) (by omega), show k - s = (k - (s + 1)) + 1 by omega]
      rfl
theorem enc_tab {ns : List Nat} (hn : ∀ n ∈ ns, n < 1024) (hl : ns.length ≤ 14) : Enc3 (tabF 0 ns) ns :=
  ⟨by rw [tabF_len]; omega, tab_hdr 0 ns hn (by omega), fun k hk => by rw [find_tab (by omega) 0 ns (by omega) (Nat.zero_le _) (by omega), Nat.sub_zero]⟩
theorem get_eq {sns : List Int} {H : List MO} {i d j k : Nat} {T : List MV} {ns : List Nat} (h : TH3 H i d j T) (E : Enc3 T ns) (hk : k < ns.length) (hl : ns.length ≤ 14) : f_H_get sns [.ref i, .str (nmW k)] H = some (.str (wN (atN ns k)), H) := by
  refine getF_ok sns _ _ _ ?_
  obtain ⟨n1, n2⟩ := nmW_ok (k := k) (by omega)
  have hw : okW (nmW k) = true := by
    unfold okW
    rw [okChars_128 n1, okChars_lo n1, n2]
    simp [few]
  have ht : tblOf (.ref i) H = some T := by
    unfold tblOf
    rw [inst_of h.ins h.dic]
    exact h.tab
  unfold getF
  simp only [hw, ht, E.fnd k hk]
  rw [show decide (T.length < 3999) = true by have := E.len; simp; omega]
end Mine
end
section
open PySem PySem.W PyProof.Rows PySem.Spec PySem.Calls
set_option linter.unusedVariables false
set_option maxRecDepth 100000
namespace Mine
noncomputable def eN (ns : List Nat) (x : MV) : MV := match x with
  | .str (c :: _) => .int (atN ns (c - 66) : Int)
  | _ => .none
theorem eN_map (ns : List Nat) : (nmsF 0 ns.length).map (eN ns) = natL ns := by
  apply List.ext_getElem
  · rw [List.length_map, nmsF_len, ints_len]
  · intro k h1 h2
    rw [List.getElem_map, nmsF_at, Nat.zero_add]
    simp only [natL, List.getElem_map]
    show MV.int (atN ns (66 + k - 66) : Int) = _
    rw [show 66 + k - 66 = k by omega, atN_get]
theorem nms_mem {ns : List Nat} {x : MV} (h : x ∈ nmsF 0 ns.length) : ∃ k, k < ns.length ∧ x = .str (nmW k) := by
  obtain ⟨k, hk, rfl⟩ := List.getElem_of_mem h
  rw [nmsF_len] at hk
  exact ⟨k, hk, by rw [nmsF_at, Nat.zero_add]⟩
theorem nums_comp {sns : List Int} {H : List MO} {i d j nl ti ni : Nat} {T : List MV} {ns : List Nat} {loc : Loc} (h : TH3 H i d j T) (E : Enc3 T ns) (hl : ns.length ≤ 14) (hn : ∀ n ∈ ns, n < 1024) (hN : listOf H nl = some (nmsF 0 ns.length))
    (h1 : mVar ni loc H = some (.ref nl, H)) (h2 : loc[ti]? = some (some (.ref i))) :
    mComp 4000 (.one 1) (iVal (mVar ni)) tTrue (mCall (numF sns) (lCons (mOwn 186 (f_H_get sns) (mVar 2) (lCons (mVar 1) lNil)) lNil)) 2 [ti] loc H = some (.ref H.length, H ++ [.list (natL ns)]) := by
  have hcl : compLoc 2 [ti] loc = [none, none, some (.ref i)] := by
    show [none, none, (loc[ti]?).getD none] = _
    rw [h2]; rfl
  rw [← eN_map]
  refine comp_map (feeds_list (j := nl) (xs := nmsF 0 ns.length)) (iVal_list h1 hN) (fun acc => listOf_app hN _) (fun _ => rfl) (by rw [nmsF_len]; omega) (by rw [nmsF_len]; unfold few; omega) fun x hx acc => ?_
  obtain ⟨k, hk, rfl⟩ := nms_mem hx
  have h' := h.app [.list acc]
  rw [hcl]
  generalize H ++ [.list acc] = H1 at *
  show mCall (numF sns) (lCons (mOwn 186 (f_H_get sns) (mVar 2) (lCons (mVar 1) lNil)) lNil) [none, some (.str (nmW k)), some (.ref i)] H1 = some (.int (atN ns (66 + k - 66) : Int), H1)
  rw [show 66 + k - 66 = k by omega]
  have e1 : mOwn 186 (f_H_get sns) (mVar 2) (lCons (mVar 1) lNil) [none, some (.str (nmW k)), some (.ref i)] H1 = some (.str (wN (atN ns k)), H1) := mOwn_eq (a := .ref i) (vs := [.str (nmW k)]) (h1 := H1) rfl (inst_of h'.ins h'.dic) rfl (get_eq h' E hk hl)
  have hm : atN ns k < 1024 := by rw [← atN_get ns k hk]; exact hn _ (List.getElem_mem hk)
  exact mCall_eq (lCons_eq e1 lNil_eq) (num_eq sns hm H1)
theorem cut_from {sns : List Int} {m : ME} {c : Nat} {loc : Loc} {hp : List MO} {i : Nat} {l : List Nat} (e : m loc hp = some (.ref i, hp)) (h : listOf hp i = some (natL l)) (hl : l.length ≤ few) :
    mCut sns m (pInt (mInt (c : Int))) pNone pNone loc hp = some (.ref hp.length, hp ++ [.list (natL (l.drop c))]) := by
  unfold mCut
  simp only [e]
  show (match listOf hp i with | none => none | some xs => if xs.length ≤ few then some (MV.ref hp.length, hp ++ [MO.list (pickL xs (some (c : Int)) none none)]) else none) = _
  rw [h]
  simp only
  rw [if_pos (by rw [ints_len]; exact hl), pickL_drop]
  unfold natL
  rw [List.map_drop]
noncomputable def rotN (l : List Nat) : List Nat := l.drop 1 ++ l.take 1
theorem rotN_len {l : List Nat} (h : 0 < l.length) : (rotN l).length = l.length := by
  unfold rotN; rw [List.length_append, List.length_drop, List.length_take]; omega
theorem zip_rot {sns : List Int} {H : List MO} {n : Nat} {ni : Nat} {ns : List Nat} {loc : Loc} (hN : listOf H n = some (natL ns)) (hl : ns.length ≤ 14) (h0 : 0 < ns.length) (h1 : ∀ g, mVar ni loc (H ++ g) = some (.ref n, H ++ g)) :
    ∃ g t r, iZip (lCons (mVar ni) (lCons (mBin .Add (mCut sns (mVar ni) (pInt (mInt 1)) pNone pNone) (mCut sns (mVar ni) pNone (pInt (mInt 1)) pNone)) lNil)) loc H = some (.zip n r 0 t, H ++ g) ∧ (H ++ g)[t]? = some .junk ∧ listOf (H ++ g) r = some (natL (rotN ns)) ∧ H.length ≤ r ∧ H.length ≤ t := by
  have v0 : mVar ni loc H = some (.ref n, H) := by simpa using h1 []
  have c1 := cut_from (sns := sns) (c := 1) v0 hN (by unfold few; omega)
  have v1 := h1 [MO.list (natL (ns.drop 1))]
  have c2 := cut_to (sns := sns) (c := 1) v1 (listOf_app hN [MO.list (natL (ns.drop 1))]) (by unfold few; omega)
  have hd := listOf_app (listOf_end H (natL (ns.drop 1))) [MO.list (natL (ns.take 1))]
  have ht := listOf_end (H ++ [MO.list (natL (ns.drop 1))]) (natL (ns.take 1))
  have c3 := cat_nat hd ht (by rw [List.length_drop, List.length_take]; unfold few; omega)
  have c4 : mBin .Add (mCut sns (mVar ni) (pInt (mInt 1)) pNone pNone) (mCut sns (mVar ni) pNone (pInt (mInt 1)) pNone) loc H = some (.ref (H ++ [MO.list (natL (ns.drop 1))] ++ [MO.list (natL (ns.take 1))]).length, H ++ [MO.list (natL (ns.drop 1))] ++ [MO.list (natL (ns.take 1))] ++ [MO.list (natL (rotN ns))]) := mBin_eq c1 c2 c3
  have hr := listOf_end (H ++ [MO.list (natL (ns.drop 1))] ++ [MO.list (natL (ns.take 1))]) (natL (rotN ns))
  have hN3 := listOf_app (listOf_app (listOf_app hN [MO.list (natL (ns.drop 1))]) [MO.list (natL (ns.take 1))]) [MO.list (natL (rotN ns))]
  have hlen : H.length ≤ (H ++ [MO.list (natL (ns.drop 1))] ++ [MO.list (natL (ns.take 1))]).length := by simp
  have hlen2 : H.length ≤ (H ++ [MO.list (natL (ns.drop 1))] ++ [MO.list (natL (ns.take 1))] ++ [MO.list (natL (rotN ns))]).length := by simp
  have eg : H ++ [MO.list (natL (ns.drop 1))] ++ [MO.list (natL (ns.take 1))] ++ [MO.list (natL (rotN ns))] ++ [MO.junk] = H ++ [MO.list (natL (ns.drop 1)), MO.list (natL (ns.take 1)), MO.list (natL (rotN ns)), MO.junk] := by simp
  generalize (H ++ [MO.list (natL (ns.drop 1))] ++ [MO.list (natL (ns.take 1))]).length = R at *
  generalize hH3 : H ++ [MO.list (natL (ns.drop 1))] ++ [MO.list (natL (ns.take 1))] ++ [MO.list (natL (rotN ns))] = H3 at *
  refine ⟨[MO.list (natL (ns.drop 1)), MO.list (natL (ns.take 1)), MO.list (natL (rotN ns)), MO.junk], H3.length, R, ?_, ?_, ?_, hlen, hlen2⟩
  · rw [← eg]
    unfold iZip
    rw [lCons_eq v0 (lCons_eq c4 lNil_eq)]
    show (match listOf H3 n with | none => none | some _ => match listOf H3 R with | none => none | some _ => some (It.zip n R 0 H3.length, H3 ++ [MO.junk])) = _
    rw [hN3]
    simp only
    rw [hr]
  · rw [← eg, List.getElem?_append_right (Nat.le_refl _)]; simp
  · rw [← eg]; exact listOf_app hr _
noncomputable def roundN (l : List Nat) : List Nat := List.zipWith newN l (rotN l)
noncomputable def roundBody (sns : List Int) : MS := sSeq (sSet 6 (mCall (lowF sns) (lCons (mBin .BitXor (mVar 4) (mVar 5)) lNil)))
   (sSeq (sExpr (mMeth isListMV gAppend (mVar 3) (lCons (mBin .Add (mBin .Mult (mInt 2) (mVar 6)) (mBin .BitAnd (mBin .RShift (mVar 4) (mVar 6)) (mInt 1))) lNil)))
   sNil)
theorem lsN_lt {n : Nat} : lsN n ≤ 10 := by
  have : ∀ f n, lsGo f n ≤ f := by
    intro f
    induction f with
    | zero => intro n; exact Nat.le_refl _
    | succ f ih =>
      intro n
      unfold lsGo
      cases Nat.beq (n % 2) 1 with
      | true => exact Nat.zero_le _
      | false => have := ih (n / 2); show lsGo f (n / 2) + 1 ≤ f + 1; omega
  exact this 10 n
theorem round_body {sns : List Int} {H : List MO} {W a b : Nat} {L : List Nat} {l0 l1 l2 l6 : Option MV} (hW : listOf H W = some (natL L)) (hL : L.length < 100) (ha : a < 1024) (hb : b < 1024) (hab : a ≠ b) :
    roundBody sns [l0, l1, l2, some (.ref W), some (.int (a : Int)), some (.int (b : Int)), l6] H = some (.next, [l0, l1, l2, some (.ref W), some (.int (a : Int)), some (.int (b : Int)), some (.int (lsN (xN a b) : Int))], H.set W (.list (natL (L ++ [newN a b])))) := by
  have e1 : mBin .BitXor (mVar 4) (mVar 5) [l0, l1, l2, some (.ref W), some (.int (a : Int)), some (.int (b : Int)), l6] H = some (.int (xN a b : Int), H) := by
    refine mBin_eq (a := .int (a : Int)) (b := .int (b : Int)) (h1 := H) (h2 := H) rfl rfl ?_
    show some (MV.int (Builtin.bitXor (a : Int) (b : Int)), H) = _
    rw [xor_nat]
  have e2 := mCall_eq (g := lowF sns) (lCons_eq e1 lNil_eq) (low_eq sns (xN_lt 10 a b ha hb) (xN_pos 10 a b ha hb hab) H)
  generalize hp : lsN (xN a b) = q at *
  have hq : q ≤ 10 := by rw [← hp]; exact lsN_lt
  have e3 : mBin .Mult (mInt 2) (mVar 6) [l0, l1, l2, some (.ref W), some (.int (a : Int)), some (.int (b : Int)), some (.int (q : Int))] H = some (.int ((2 * q : Nat) : Int), H) := by
    refine mBin_eq (a := .int 2) (b := .int (q : Int)) (h1 := H) (h2 := H) rfl rfl ?_
    show (if (2 : Int).natAbs < 2 ^ 62 then some (MV.int (2 * (q : Int)), H) else none) = _
    rw [if_pos (by decide), show (2 : Int) * (q : Int) = ((2 * q : Nat) : Int) by push_cast; rfl]
  have e4 : mBin .RShift (mVar 4) (mVar 6) [l0, l1, l2, some (.ref W), some (.int (a : Int)), some (.int (b : Int)), some (.int (q : Int))] H = some (.int ((a / 2 ^ q : Nat) : Int), H) := by
    refine mBin_eq (a := .int (a : Int)) (b := .int (q : Int)) (h1 := H) (h2 := H) rfl rfl ?_
    show (match (if 0 ≤ (q : Int) then some ((a : Int).fdiv (2 ^ (q : Int).toNat)) else none) with | some c => some (MV.int c, H) | none => none) = _
    rw [if_pos (by omega), show (q : Int).toNat = q from rfl, shr_nat]
  have e5 : mBin .BitAnd (mBin .RShift (mVar 4) (mVar 6)) (mInt 1) [l0, l1, l2, some (.ref W), some (.int (a : Int)), some (.int (b : Int)), some (.int (q : Int))] H = some (.int ((a / 2 ^ q % 2 : Nat) : Int), H) := by
    refine mBin_eq (b := .int 1) (h2 := H) e4 rfl ?_
    show some (MV.int (Builtin.bitAnd ((a / 2 ^ q : Nat) : Int) 1), H) = _
    rw [and_one]
  have e6 : mBin .Add (mBin .Mult (mInt 2) (mVar 6)) (mBin .BitAnd (mBin .RShift (mVar 4) (mVar 6)) (mInt 1)) [l0, l1, l2, some (.ref W), some (.int (a : Int)), some (.int (b : Int)), some (.int (q : Int))] H = some (.int (newN a b : Int), H) := by
    refine mBin_eq e3 e5 ?_
    unfold newN
    rw [hp]
    show some (MV.int (((2 * q : Nat) : Int) + ((a / 2 ^ q % 2 : Nat) : Int)), H) = _
    rw [← Int.natCast_add]
  have e7 : mMeth isListMV gAppend (mVar 3) (lCons (mBin .Add (mBin .Mult (mInt 2) (mVar 6)) (mBin .BitAnd (mBin .RShift (mVar 4) (mVar 6)) (mInt 1))) lNil) [l0, l1, l2, some (.ref W), some (.int (a : Int)), some (.int (b : Int)), some (.int (q : Int))] H = some (.none, H.set W (.list (natL (L ++ [newN a b])))) := by
    refine mMeth_eq (a := .ref W) (h1 := H) rfl (by show (listOf H W).isSome = true; rw [hW]; rfl) (lCons_eq e6 lNil_eq) ?_
    show (match listOf H W with | some xs => if xs.length < few then some (MV.none, H.set W (.list (xs ++ [MV.int (newN a b : Int)]))) else none | none => none) = _
    rw [hW]
    simp only
    rw [if_pos (by rw [ints_len]; unfold few; omega), ← natL_app]
    rfl
  unfold roundBody
  rw [sSeq_next (sSet_eq e2)]
  show sSeq (sExpr _) _ [l0, l1, l2, some (.ref W), some (.int (a : Int)), some (.int (b : Int)), some (.int (q : Int))] H = _
  rw [sSeq_next (sExpr_eq e7)]
  rfl
end Mine
end
section
open PySem PySem.W PyProof.Rows PySem.Spec PySem.Calls
set_option linter.unusedVariables false
set_option maxRecDepth 100000
namespace Mine
theorem roundN_len {l : List Nat} (h : 0 < l.length) : (roundN l).length = l.length := by
  unfold roundN; rw [List.length_zipWith, rotN_len h]; omega
structure Ring (l : List Nat) : Prop where
  pos : 0 < l.length
  few : l.length ≤ 6
  lt : ∀ n ∈ l, n < 1024
  ne : ∀ k (h : k < l.length) (h' : k < (rotN l).length), l[k] ≠ (rotN l)[k]
theorem rot_mem {l : List Nat} {x : Nat} (h : x ∈ rotN l) : x ∈ l := by
  unfold rotN at h
  rcases List.mem_append.mp h with q | q
  · exact List.mem_of_mem_drop q
  · exact List.mem_of_mem_take q
theorem zip_at {l r : List Nat} {m : Nat} (h : m < (List.zipWith (fun x y => MV.tup [x, y]) (natL l) (natL r)).length) (h1 : m < l.length) (h2 : m < r.length) : (List.zipWith (fun x y => MV.tup [x, y]) (natL l) (natL r))[m] = .tup [.int (l[m] : Int), .int (r[m] : Int)] := by
  simp [natL]
theorem round_eq {sns : List Int} {hp : List MO} {i d j nl : Nat} {T : List MV} {ns : List Nat} (h : TH3 hp i d j T) (E : Enc3 T ns) (R : Ring ns) (hN : listOf hp nl = some (nmsF 0 ns.length)) :
    ∃ H' i' d' j', f_round3 sns [.ref i, .ref nl] hp = some (.ref i', H') ∧ TH3 H' i' d' j' (tabF 0 (roundN ns)) ∧ ∀ k xs, listOf hp k = some xs → listOf H' k = some xs := by
  have hl : ns.length ≤ 14 := by have := R.few; omega
  have h6 := R.few
  have e1 := nums_comp (sns := sns) (ti := 0) (ni := 1) (loc := [some (.ref i), some (.ref nl), none, none, none, none, none]) h E hl R.lt hN rfl rfl
  have hM := listOf_end hp (natL ns)
  have hN1 := listOf_app hN [.list (natL ns)]
  have hlen1 : (hp ++ [MO.list (natL ns)]).length = hp.length + 1 := by simp
  have k1 : ∀ k xs, listOf hp k = some xs → listOf (hp ++ [.list (natL ns)]) k = some xs := fun k xs q => listOf_app q _
  generalize hH1 : hp ++ [MO.list (natL ns)] = H1 at *
  have e2 : mList lNil [some (.ref i), some (.ref nl), some (.ref hp.length), none, none, none, none] H1 = some (.ref H1.length, H1 ++ [.list []]) := mList_eq rfl (by simp)
  have hW := listOf_end H1 []
  have hM2 := listOf_app hM [.list []]
  have hN2 := listOf_app hN1 [.list []]
  have hlen2 : (H1 ++ [MO.list []]).length = H1.length + 1 := by simp
  have k2 : ∀ k xs, listOf hp k = some xs → listOf (H1 ++ [.list []]) k = some xs := fun k xs q => listOf_app (k1 k xs q) _
  generalize hH2 : H1 ++ [MO.list []] = H2 at *
  obtain ⟨g, t, r, e3, hJ, hr, r1, r2⟩ := zip_rot (sns := sns) (ni := 2) (loc := [some (.ref i), some (.ref nl), some (.ref hp.length), some (.ref H1.length), none, none, none]) hM2 hl R.pos (fun g => rfl)
  have hW3 := listOf_app hW g
  have hM3 := listOf_app hM2 g
  have hN3 := listOf_app hN2 g
  have k3 : ∀ k xs, listOf hp k = some xs → listOf (H2 ++ g) k = some xs := fun k xs q => listOf_app (k2 k xs q) _
  generalize H2 ++ g = H3 at *
  have hrl := rotN_len R.pos
  have hnb := lt_of_some (listOf_get hN)
  obtain ⟨l', H4, e4, I⟩ := forGo_inv (t := .two 4 5) (body := roundBody sns) (feeds_zip (a := hp.length) (b := r) (t := t) (xs := natL ns) (ys := natL (rotN ns)) (by rw [ints_len, ints_len, hrl])) (fun _ => rfl)
    (fun m loc H => ∃ l4 l5 l6, loc = [some (.ref i), some (.ref nl), some (.ref hp.length), some (.ref H1.length), l4, l5, l6] ∧ listOf H H1.length = some (natL ((roundN ns).take m)) ∧ (∀ k o, k ≠ H1.length → H3[k]? = some o → H[k]? = some o))
    (fun m loc H ⟨_, _, _, _, _, q⟩ => ⟨of_get (q _ _ (by omega) (listOf_get hM3)), of_get (q _ _ (by omega) (listOf_get hr)), q _ _ (by omega) hJ⟩) (by
      rintro m hm loc H ⟨l4, l5, l6, rfl, qW, qk⟩
      have hm' : m < ns.length := by rw [List.length_zipWith, ints_len, ints_len] at hm; omega
      have hmr : m < (rotN ns).length := by omega
      have hmz : m < (roundN ns).length := by rw [roundN_len R.pos]; exact hm'
      have ex : (roundN ns)[m] = newN ns[m] (rotN ns)[m] := by simp [roundN]
      have hb := round_body (sns := sns) (l0 := some (.ref i)) (l1 := some (.ref nl)) (l2 := some (.ref hp.length)) (l6 := l6) qW (by rw [List.length_take]; omega) (R.lt _ (List.getElem_mem hm')) (R.lt _ (rot_mem (List.getElem_mem hmr))) (R.ne m hm' hmr)
      rw [← ex, ← List.take_succ_eq_append_getElem hmz] at hb
      refine ⟨[some (.ref i), some (.ref nl), some (.ref hp.length), some (.ref H1.length), some (.int (ns[m] : Int)), some (.int ((rotN ns)[m] : Int)), l6], _, _, by rw [zip_at hm hm' hmr]; rfl, hb, _, _, _, rfl, ?_, fun k o hk q => by rw [List.getElem?_set_ne (Ne.symm hk)]; exact qk k o hk q⟩
      exact of_get (by rw [List.getElem?_set_self (lt_of_some (listOf_get qW))])) 4000 0 [some (.ref i), some (.ref nl), some (.ref hp.length), some (.ref H1.length), none, none, none] H3 (Nat.zero_le _) (by rw [List.length_zipWith, ints_len, ints_len]; omega) ⟨none, none, none, rfl, hW3, fun _ _ _ q => q⟩
  obtain ⟨l4, l5, l6, rfl, qW, qk⟩ := I
  have hzl : (List.zipWith (fun x y => MV.tup [x, y]) (natL ns) (natL (rotN ns))).length = (roundN ns).length := by rw [List.length_zipWith, ints_len, ints_len, roundN_len R.pos]; omega
  rw [hzl, List.take_length] at qW
  have hN4 : listOf H4 nl = some (nmsF 0 (roundN ns).length) := by
    rw [roundN_len R.pos]
    exact of_get (qk _ _ (by omega) (listOf_get hN3))
  have hnew : ∀ n ∈ roundN ns, n < 1024 := by
    intro n hn
    obtain ⟨m, hm, rfl⟩ := List.getElem_of_mem hn
    have hm' : m < ns.length := by rw [roundN_len R.pos] at hm; exact hm
    have hmr : m < (rotN ns).length := by omega
    have ex : (roundN ns)[m] = newN ns[m] (rotN ns)[m] := by simp [roundN]
    rw [ex]
    have := new_lt (f := 10) (Nat.le_refl _) (R.lt _ (List.getElem_mem hm')) (R.lt _ (rot_mem (List.getElem_mem hmr))) (R.ne m hm' hmr)
    omega
  obtain ⟨g5, e5, h5⟩ := table_eq (sns := sns) hN4 qW hnew (by rw [roundN_len R.pos]; exact hl)
  refine ⟨H4 ++ g5, _, _, _, ?_, h5, fun k xs q => listOf_app (of_get (qk k _ (by have := lt_of_some (listOf_get q); omega) (listOf_get (k3 k xs q)))) _⟩
  show outOf (sSeq (sSet 2 _) (sSeq (sSet 3 (mList lNil)) (sSeq (sFor 4000 (.two 4 5) (iZip _) (roundBody sns) sNil) (sSeq (sRet (mCall (f_table3 sns) (lCons (mVar 1) (lCons (mVar 3) lNil)))) sNil))) [some (.ref i), some (.ref nl), none, none, none, none, none] hp) = _
  rw [sSeq_next (sSet_eq e1)]
  show outOf (sSeq (sSet 3 (mList lNil)) _ [some (.ref i), some (.ref nl), some (.ref hp.length), none, none, none, none] H1) = _
  rw [sSeq_next (sSet_eq e2)]
  show outOf (sSeq (sFor 4000 (.two 4 5) (iZip _) (roundBody sns) sNil) _ [some (.ref i), some (.ref nl), some (.ref hp.length), some (.ref H1.length), none, none, none] H2) = _
  rw [sSeq_next (by rw [sFor_next e3 e4]; rfl)]
  rw [sSeq_ret (sRet_eq (mCall_eq (vs := [.ref nl, .ref H1.length]) (h1 := H4) rfl e5))]
  rfl
end Mine
end
section
open PySem PySem.W PyProof.Rows PySem.Spec PySem.Calls
set_option linter.unusedVariables false
set_option maxRecDepth 100000
namespace Mine
noncomputable def halfT : MT := tCmp .Eq (mBin .Mod (mVar 0) (mInt 2)) (mBin .Mod (mVar 1) (mInt 2))
noncomputable def halfB : MS := sSeq (sSwap3 0 1 2 (mTup (lCons (mBin .FloorDiv (mVar 0) (mInt 2)) (lCons (mBin .FloorDiv (mVar 1) (mInt 2)) (lCons (mBin .Add (mVar 2) (mInt 1)) lNil))))) sNil
theorem mod_two {m : ME} {a : Nat} {loc : Loc} {H : List MO} (e : m loc H = some (.int (a : Int), H)) : mBin .Mod m (mInt 2) loc H = some (.int ((a % 2 : Nat) : Int), H) := by
  refine mBin_eq (b := .int 2) (h2 := H) e rfl ?_
  show some (MV.int ((a : Int).fmod 2), H) = _
  rw [Int.fmod_eq_emod_of_nonneg _ (by omega)]
  rfl
theorem div_two {m : ME} {a : Nat} {loc : Loc} {H : List MO} (e : m loc H = some (.int (a : Int), H)) : mBin .FloorDiv m (mInt 2) loc H = some (.int ((a / 2 : Nat) : Int), H) := by
  refine mBin_eq (b := .int 2) (h2 := H) e rfl ?_
  show some (MV.int ((a : Int).fdiv 2), H) = _
  rw [Int.fdiv_eq_ediv_of_nonneg _ (by omega)]
  rfl
theorem half_go {H : List MO} : ∀ (f n a b p v : Nat), halfGo f a b p = some v → f ≤ n → ∃ a' b' p' : Nat, whileGo halfT halfB sNil n [some (.int (a : Int)), some (.int (b : Int)), some (.int (p : Int))] H = some (.next, [some (.int (a' : Int)), some (.int (b' : Int)), some (.int (p' : Int))], H) ∧ 2 * p' + a' % 2 = v
  | 0, n, a, b, p, v, h, hn => by cases h
  | f + 1, n, a, b, p, v, h, hn => by
    obtain ⟨n, rfl⟩ : ∃ q, n = q + 1 := ⟨n - 1, by omega⟩
    have e1 : halfT [some (.int (a : Int)), some (.int (b : Int)), some (.int (p : Int))] H = some (((a % 2 : Nat) : Int) == ((b % 2 : Nat) : Int), H) := tCmp_eq (op := .Eq) (mod_two (m := mVar 0) rfl) (mod_two (m := mVar 1) rfl) rfl
    have eb : (((a % 2 : Nat) : Int) == ((b % 2 : Nat) : Int)) = Nat.beq (a % 2) (b % 2) := by
      cases hb : Nat.beq (a % 2) (b % 2) with
      | true => rw [Nat.eq_of_beq_eq_true hb]; simp
      | false =>
        have := Nat.ne_of_beq_eq_false hb
        rw [beq_eq_false_iff_ne]; omega
    rw [eb] at e1
    unfold halfGo at h
    cases hb : Nat.beq (a % 2) (b % 2) with
    | false =>
      rw [hb] at h e1
      cases h
      refine ⟨a, b, p, ?_, rfl⟩
      show (match halfT _ _ with | none => none | some (false, hp1) => _ | some (true, hp1) => _) = _
      rw [e1]
      rfl
    | true =>
      rw [hb] at h e1
      simp only at h
      obtain ⟨a', b', p', e2, e3⟩ := half_go (H := H) f n (a / 2) (b / 2) (p + 1) v h (by omega)
      refine ⟨a', b', p', ?_, e3⟩
      have q1 : mTup (lCons (mBin .FloorDiv (mVar 0) (mInt 2)) (lCons (mBin .FloorDiv (mVar 1) (mInt 2)) (lCons (mBin .Add (mVar 2) (mInt 1)) lNil))) [some (.int (a : Int)), some (.int (b : Int)), some (.int (p : Int))] H = some (.tup [.int ((a / 2 : Nat) : Int), .int ((b / 2 : Nat) : Int), .int ((p + 1 : Nat) : Int)], H) :=
        mTup_eq (lCons_eq (div_two (m := mVar 0) rfl) (lCons_eq (div_two (m := mVar 1) rfl) (lCons_eq (h1 := H) rfl lNil_eq))) (by simp [few])
      have q2 : halfB [some (.int (a : Int)), some (.int (b : Int)), some (.int (p : Int))] H = some (.next, [some (.int ((a / 2 : Nat) : Int)), some (.int ((b / 2 : Nat) : Int)), some (.int ((p + 1 : Nat) : Int))], H) := by
        unfold halfB
        refine sSeq_next ?_
        unfold sSwap3
        rw [q1]
        rfl
      show (match halfT [some (.int (a : Int)), some (.int (b : Int)), some (.int (p : Int))] H with | none => none | some (false, hp1) => sNil [some (.int (a : Int)), some (.int (b : Int)), some (.int (p : Int))] hp1 | some (true, hp1) => match halfB [some (.int (a : Int)), some (.int (b : Int)), some (.int (p : Int))] hp1 with | none => none | some (.next, loc2, hp2) => whileGo halfT halfB sNil n loc2 hp2 | some (.cont, loc2, hp2) => whileGo halfT halfB sNil n loc2 hp2 | some (.brk, loc2, hp2) => some (.next, loc2, hp2) | some (.ret v, loc2, hp2) => some (.ret v, loc2, hp2)) = _
      rw [e1]
      simp only
      rw [q2]
      exact e2
theorem halved_eq {sns : List Int} {H : List MO} {a b : Nat} (ha : a < 1024) (hb : b < 1024) (h : a ≠ b) : f__law_halved sns [.int (a : Int), .int (b : Int)] H = some (.int (newN a b : Int), H) := by
  obtain ⟨a', b', p', e1, e2⟩ := half_go (H := H) 10 4000 a b 0 _ (half_eq ha hb h) (by omega)
  have e3 : mBin .Add (mBin .Mult (mInt 2) (mVar 2)) (mBin .Mod (mVar 0) (mInt 2)) [some (.int (a' : Int)), some (.int (b' : Int)), some (.int (p' : Int))] H = some (.int (newN a b : Int), H) := by
    have q : mBin .Mult (mInt 2) (mVar 2) [some (.int (a' : Int)), some (.int (b' : Int)), some (.int (p' : Int))] H = some (.int ((2 * p' : Nat) : Int), H) := by
      refine mBin_eq (a := .int 2) (b := .int (p' : Int)) (h1 := H) (h2 := H) rfl rfl ?_
      show (if (2 : Int).natAbs < 2 ^ 62 then some (MV.int (2 * (p' : Int)), H) else none) = _
      rw [if_pos (by decide), show (2 : Int) * (p' : Int) = ((2 * p' : Nat) : Int) by push_cast; rfl]
    refine mBin_eq q (mod_two (m := mVar 0) rfl) ?_
    show some (MV.int (((2 * p' : Nat) : Int) + ((a' % 2 : Nat) : Int)), H) = _
    rw [← Int.natCast_add, e2]
  show outOf (sSeq (sSet 2 (mInt 0)) (sSeq (whileGo halfT halfB sNil 4000) (sSeq (sRet (mBin .Add (mBin .Mult (mInt 2) (mVar 2)) (mBin .Mod (mVar 0) (mInt 2)))) sNil)) [some (.int (a : Int)), some (.int (b : Int)), none] H) = _
  rw [sSeq_next (sSet_eq (v := .int 0) (h1 := H) rfl)]
  show outOf (sSeq (whileGo halfT halfB sNil 4000) _ [some (.int (a : Int)), some (.int (b : Int)), some (.int ((0 : Nat) : Int))] H) = _
  rw [sSeq_next e1, sSeq_ret (sRet_eq e3)]
  rfl
theorem rot_at {l : List Nat} {k : Nat} (h : k < (rotN l).length) (hl : 0 < l.length) : (rotN l)[k] = atN l ((k + 1) % l.length) := by
  have hr := rotN_len hl
  unfold rotN at h ⊢
  rcases Nat.lt_or_ge (k + 1) l.length with q | q
  · rw [List.getElem_append_left (by rw [List.length_drop]; omega), List.getElem_drop, Nat.mod_eq_of_lt q, ← atN_get l (k + 1) q]
    congr 1
    omega
  · have hk : k + 1 = l.length := by unfold rotN at hr; omega
    rw [List.getElem_append_right (by rw [List.length_drop]; omega), hk, Nat.mod_self, ← atN_get l 0 hl]
    rw [List.getElem_take]
    congr 1
    rw [List.length_drop]; omega
theorem Ring.at {l : List Nat} (R : Ring l) {k : Nat} (h : k < l.length) : atN l k ≠ atN l ((k + 1) % l.length) := by
  have hr := rotN_len R.pos
  have := R.ne k h (by omega)
  rw [rot_at (by omega) R.pos, atN_get] at this
  exact this
theorem Ring.mk' {l : List Nat} (h0 : 0 < l.length) (h6 : l.length ≤ 6) (hlt : ∀ n ∈ l, n < 1024) (h : ∀ k, k < l.length → atN l k ≠ atN l ((k + 1) % l.length)) : Ring l :=
  ⟨h0, h6, hlt, fun k hk hk' => by rw [rot_at hk' h0, atN_get]; exact h k hk⟩
theorem atN_mem {l : List Nat} {k : Nat} (h : k < l.length) : atN l k ∈ l := by rw [← atN_get l k h]; exact List.getElem_mem h
theorem round_at {l : List Nat} (R : Ring l) {k : Nat} (h : k < l.length) : atN (roundN l) k = newN (atN l k) (atN l ((k + 1) % l.length)) := by
  have hr := rotN_len R.pos
  rw [← atN_get _ k (by rw [roundN_len R.pos]; exact h)]
  simp only [roundN, List.getElem_zipWith]
  rw [rot_at (by omega) R.pos, atN_get]
theorem round_lt {l : List Nat} (R : Ring l) {f : Nat} (hf : f ≤ 10) (hl : ∀ n ∈ l, n < 2 ^ f) : ∀ n ∈ roundN l, n < 2 * f := by
  intro n hn
  obtain ⟨k, hk, rfl⟩ := List.getElem_of_mem hn
  have hk' : k < l.length := by rw [roundN_len R.pos] at hk; exact hk
  have hm : (k + 1) % l.length < l.length := Nat.mod_lt _ R.pos
  rw [atN_get, round_at R hk']
  exact new_lt hf (hl _ (atN_mem hk')) (hl _ (atN_mem hm)) (R.at hk')
theorem round_ring {l : List Nat} (R : Ring l) : Ring (roundN l) := by
  have hl := roundN_len R.pos
  refine Ring.mk' (by rw [hl]; exact R.pos) (by rw [hl]; exact R.few) (fun n hn => by have := round_lt R (Nat.le_refl 10) R.lt n hn; omega) fun k hk => ?_
  rw [hl] at hk ⊢
  have hm : (k + 1) % l.length < l.length := Nat.mod_lt _ R.pos
  have hm2 : ((k + 1) % l.length + 1) % l.length < l.length := Nat.mod_lt _ R.pos
  rw [round_at R hk, round_at R hm]
  exact new_ne (R.lt _ (atN_mem hk)) (R.lt _ (atN_mem hm)) (R.lt _ (atN_mem hm2)) (R.at hk) (R.at hm)
end Mine
end
section
open PySem PySem.W PyProof.Rows PySem.Spec PySem.Calls
set_option linter.unusedVariables false
set_option maxRecDepth 100000
namespace Mine
theorem find_set3 {z : List Nat} {x v : List Nat} (hx : x.all okChar = true) (hxl : x.length ≤ few) : ∀ {T : List MV}, (∀ y ∈ T, hdrOk y) → findP z (delT (x.map lo1) T ++ [.tup [.str x, .str v]]) = if (x.map lo1 == z) = true then some (.str v) else findP z T
  | [], _ => by
    show findP z [.tup [.str x, .str v]] = _
    unfold findP
    rw [okChars_128 hx, show decide (x.length ≤ few) = true by simpa using hxl]
    simp only [Bool.and_self]
    cases x.map lo1 == z <;> rfl
  | t :: T, h => by
    obtain ⟨k, w, rfl, hk, hkl, _⟩ := h t (List.mem_cons_self ..)
    have ih := find_set3 (z := z) (v := v) hx hxl (T := T) fun y hy => h y (List.mem_cons_of_mem _ hy)
    have okk : (k.all (fun c => decide (c < 128)) && decide (k.length ≤ few)) = true := by
      rw [okChars_128 hk, show decide (k.length ≤ few) = true by simpa using hkl]; rfl
    unfold delT at ih ⊢
    rw [List.filter_cons]
    cases hq : (k.map lo1 == x.map lo1) with
    | true =>
      rw [if_neg (by simp only [keyNe, hq]; nofun), ih]
      have hab := eq_of_beq hq
      by_cases hz : (x.map lo1 == z) = true
      · rw [if_pos hz, if_pos hz]
      · rw [if_neg hz, if_neg hz]
        conv => rhs; unfold findP
        rw [okk]
        simp only
        rw [hab, show (x.map lo1 == z) = false by simpa using hz]
    | false =>
      rw [if_pos (by simp only [keyNe, hq]; rfl), List.cons_append]
      unfold findP
      rw [okk]
      simp only
      cases hw : (k.map lo1 == z) with
      | true =>
        simp only
        have : ¬ (x.map lo1 == z) = true := by
          intro q
          rw [eq_of_beq q, hw] at hq
          cases hq
        rw [if_neg this]
      | false => simp only; exact ih
theorem atN_set : ∀ (l : List Nat) (k v j : Nat), k < l.length → atN (l.set k v) j = if j = k then v else atN l j
  | a :: l, 0, v, 0, _ => rfl
  | a :: l, 0, v, j + 1, _ => rfl
  | a :: l, k + 1, v, 0, _ => rfl
  | a :: l, k + 1, v, j + 1, h => by
    show atN (l.set k v) j = if j + 1 = k + 1 then v else atN l j
    rw [atN_set l k v j (by simpa using h)]
    by_cases q : j = k
    · rw [if_pos q, if_pos (by omega)]
    · rw [if_neg q, if_neg (by omega)]
theorem Enc3.set {T : List MV} {ns : List Nat} (E : Enc3 T ns) {k v : Nat} (hk : k < ns.length) (hl : ns.length ≤ 14) (hv : v < 1024) (hT : T.length < 900) : Enc3 (delT ((nmW k).map lo1) T ++ [.tup [.str (nmW k), .str (wN v)]]) (ns.set k v) := by
  have hd : (delT ((nmW k).map lo1) T).length ≤ T.length := List.length_filter_le _ _
  obtain ⟨n1, n2⟩ := nmW_ok (k := k) (by omega)
  obtain ⟨w1, w2⟩ := wN_ok hv
  refine ⟨by rw [List.length_append, List.length_singleton]; omega, ?_, fun q hq => ?_⟩
  · intro x hx
    rcases List.mem_append.mp hx with q | q
    · exact E.hdr x (List.mem_filter.mp q).1
    · rw [List.mem_singleton.mp q]
      exact ⟨nmW k, wN v, rfl, n1, by rw [n2]; simp [few], w1, by unfold few; omega⟩
  · rw [List.length_set] at hq
    rw [find_set3 n1 (by rw [n2]; simp [few]) E.hdr, atN_set ns k v q hk, nm_eq (by omega) (by omega)]
    cases hb : Nat.beq k q with
    | true =>
      have := Nat.eq_of_beq_eq_true hb
      rw [if_pos rfl, if_pos this.symm]
    | false =>
      have := Nat.ne_of_beq_eq_false hb
      rw [if_neg (by decide), if_neg (by omega)]
      exact E.fnd q hq
noncomputable def prvN (k m : Nat) : Nat := match Nat.beq k 0 with
  | true => m - 1
  | false => k - 1
theorem prvN_lt {k m : Nat} (h : k < m) : prvN k m < m := by
  unfold prvN
  cases hb : Nat.beq k 0 with
  | true => show m - 1 < m; omega
  | false => show k - 1 < m; omega
theorem sub_prev {hp : List MO} {n k : Nat} {xs : List MV} (h : listOf hp n = some xs) (hk : k < xs.length) (hf : xs.length ≤ 1000) : subMV (.ref n) (.int ((k : Int) - 1)) hp = some (xs[prvN k xs.length]'(prvN_lt hk)) := by
  show (match listOf hp n with | none => none | some xs => if ((k : Int) - 1).natAbs < few then atI xs ((k : Int) - 1) else none) = _
  rw [h]
  simp only
  rw [if_pos (by unfold few; omega)]
  cases hb : Nat.beq k 0 with
  | false =>
    have := Nat.ne_of_beq_eq_false hb
    rw [show (k : Int) - 1 = ((k - 1 : Nat) : Int) by omega, atI_nat xs (k - 1) (by omega)]
    congr 1
    unfold prvN
    simp only [hb]
  | true =>
    have hk0 := Nat.eq_of_beq_eq_true hb
    subst hk0
    have e : atI xs (((0 : Nat) : Int) - 1) = some (xs[xs.length - 1]'(by omega)) := by
      unfold atI seqIndex?
      have : (if (((0 : Nat) : Int) - 1) < 0 then (((0 : Nat) : Int) - 1) + (xs.length : Int) else (((0 : Nat) : Int) - 1)) = ((xs.length - 1 : Nat) : Int) := by
        rw [if_pos (by omega)]; omega
      simp only [this]
      rw [if_pos (by simp; omega)]
      simp only [Int.toNat_natCast]
      exact List.getElem?_eq_getElem (by omega)
    rw [e]
    rfl
noncomputable def lstF (l r x : Nat) : Bool := !(Nat.beq l x || Nat.beq r x)
noncomputable def leastN (l r : Nat) : Nat := atN ((List.range 3).filter (lstF l r)) 0
theorem least_ok : ∀ l, l < 6 → ∀ r, r < 6 → 0 < ((List.range 3).filter (lstF l r)).length ∧ leastN l r < 3 ∧ leastN l r ≠ l ∧ leastN l r ≠ r := by decide +kernel
theorem wN_six : ∀ a, a < 6 → ∀ b, b < 6 → (wN a == wN b) = Nat.beq a b := by decide +kernel
noncomputable def putS (number : Nat) (ns : List Nat) (k : Nat) : List Nat := match Nat.beq (atN ns k) number with
  | true => ns.set k (leastN (atN ns (prvN k ns.length)) (atN ns ((k + 1) % ns.length)))
  | false => ns
theorem putS_len (number : Nat) (ns : List Nat) (k : Nat) : (putS number ns k).length = ns.length := by
  unfold putS; split
  · exact List.length_set ..
  · rfl
noncomputable def Small (b : Nat) (ns : List Nat) : Prop := ∀ k, k < ns.length → atN ns k < b
theorem nms_at {hp : List MO} {n k m : Nat} (h : listOf hp n = some (nmsF 0 m)) (hk : k < m) (hm : m ≤ 1000) : subMV (.ref n) (.int (k : Int)) hp = some (.str (nmW k)) := by
  rw [sub_nat h (by rw [nmsF_len]; exact hk) (by rw [nmsF_len]; unfold few; omega), nmsF_at, Nat.zero_add]
theorem nms_prev {hp : List MO} {n k m : Nat} (h : listOf hp n = some (nmsF 0 m)) (hk : k < m) (hm : m ≤ 1000) : subMV (.ref n) (.int ((k : Int) - 1)) hp = some (.str (nmW (prvN k m))) := by
  rw [sub_prev h (by rw [nmsF_len]; exact hk) (by rw [nmsF_len]; exact hm)]
  congr 1
  rw [nmsF_at, Nat.zero_add, nmsF_len]
noncomputable def putBody (sns : List Int) : MS := sSeq (sIf (tCmp .Eq (mOwn 186 (f_H_get sns) (mVar 0) (lCons (mVar 4) lNil)) (mCall (wordF sns) (lCons (mVar 2) lNil))) (sSeq (sSet 5 (mList (lCons (mOwn 186 (f_H_get sns) (mVar 0) (lCons (mSub (mVar 1) (mBin .Sub (mVar 3) (mInt 1))) lNil)) (lCons (mOwn 186 (f_H_get sns) (mVar 0) (lCons (mSub (mVar 1) (mBin .Mod (mBin .Add (mVar 3) (mInt 1)) (mCall (gLen sns) (lCons (mVar 1) lNil)))) lNil)) lNil))))
   (sSeq (sSetOwn 186 (f_H_dsetitemd sns) (mVar 0) (mVar 4) (mSub (mComp 4000 (.one 1) (iRange (lCons (mInt 3) lNil)) (tCmp .NotIn (mCall (wordF sns) (lCons (mVar 1) lNil)) (mVar 2)) (mCall (wordF sns) (lCons (mVar 1) lNil)) 2 [5]) (mInt 0)))
   sNil)) sNil)
   sNil
theorem put_body {sns : List Int} {H : List MO} {i d j nl k number : Nat} {T : List MV} {ns : List Nat} {l5 : Option MV} (h : TH3 H i d j T) (E : Enc3 T ns) (hl : ns.length ≤ 6) (hk : k < ns.length) (hS : Small 6 ns) (hnum : number < 6) (hN : listOf H nl = some (nmsF 0 ns.length)) (hnj : nl ≠ j) (hT : T.length < 800) :
    ∃ l5' H' T', putBody sns [some (.ref i), some (.ref nl), some (.int (number : Int)), some (.int (k : Int)), some (.str (nmW k)), l5] H = some (.next, [some (.ref i), some (.ref nl), some (.int (number : Int)), some (.int (k : Int)), some (.str (nmW k)), l5'], H') ∧
      TH3 H' i d j T' ∧ Enc3 T' (putS number ns k) ∧ T'.length ≤ T.length + 1 ∧ (∀ q xs, q ≠ j → listOf H q = some xs → listOf H' q = some xs) := by
  have hm : (k + 1) % ns.length < ns.length := Nat.mod_lt _ (by omega)
  have hp := prvN_lt hk
  have s1 := hS k hk
  have s2 := hS _ hm
  have s3 := hS _ hp
  have hij : i ≠ j := by rintro rfl; have := listOf_get h.tab; rw [h.ins] at this; cases this
  have hdj : d ≠ j := by rintro rfl; have := listOf_get h.tab; rw [h.dic] at this; cases this
  have io := inst_of h.ins h.dic
  have e1 : mOwn 186 (f_H_get sns) (mVar 0) (lCons (mVar 4) lNil) [some (.ref i), some (.ref nl), some (.int (number : Int)), some (.int (k : Int)), some (.str (nmW k)), l5] H = some (.str (wN (atN ns k)), H) := mOwn_eq (a := .ref i) (vs := [.str (nmW k)]) (h1 := H) rfl io rfl (get_eq h E hk (by omega))
  have e2 : mCall (wordF sns) (lCons (mVar 2) lNil) [some (.ref i), some (.ref nl), some (.int (number : Int)), some (.int (k : Int)), some (.str (nmW k)), l5] H = some (.str (wN number), H) := mCall_eq (vs := [.int (number : Int)]) (h1 := H) rfl (word_eq sns (by omega) H)
  have e3 : tCmp .Eq (mOwn 186 (f_H_get sns) (mVar 0) (lCons (mVar 4) lNil)) (mCall (wordF sns) (lCons (mVar 2) lNil)) [some (.ref i), some (.ref nl), some (.int (number : Int)), some (.int (k : Int)), some (.str (nmW k)), l5] H = some (Nat.beq (atN ns k) number, H) := by
    rw [tCmp_eq (op := .Eq) (r := (wN (atN ns k) == wN number)) e1 e2 rfl, wN_six _ s1 _ hnum]
  unfold putBody putS
  cases hb : Nat.beq (atN ns k) number with
  | false =>
    rw [hb] at e3
    exact ⟨l5, H, T, sSeq_next (by rw [sIf_false e3]; rfl), h, E, by omega, fun _ _ _ q => q⟩
  | true =>
    rw [hb] at e3
    have a1 : mOwn 186 (f_H_get sns) (mVar 0) (lCons (mSub (mVar 1) (mBin .Sub (mVar 3) (mInt 1))) lNil) [some (.ref i), some (.ref nl), some (.int (number : Int)), some (.int (k : Int)), some (.str (nmW k)), l5] H = some (.str (wN (atN ns (prvN k ns.length))), H) :=
      mOwn_eq (a := .ref i) (h1 := H) rfl io (lCons_eq (mSub_eq (a := .ref nl) (b := .int ((k : Int) - 1)) (h1 := H) rfl rfl (nms_prev hN hk (by omega))) lNil_eq) (get_eq h E hp (by omega))
    have a2 : mBin .Mod (mBin .Add (mVar 3) (mInt 1)) (mCall (gLen sns) (lCons (mVar 1) lNil)) [some (.ref i), some (.ref nl), some (.int (number : Int)), some (.int (k : Int)), some (.str (nmW k)), l5] H = some (.int (((k + 1) % ns.length : Nat) : Int), H) := by
      refine mBin_eq (a := .int ((k + 1 : Nat) : Int)) (b := .int (ns.length : Int)) (h1 := H) (h2 := H) rfl (mCall_eq (vs := [.ref nl]) (h1 := H) rfl (by rw [len_list hN (by rw [nmsF_len]; unfold few; omega), nmsF_len])) ?_
      show (match (if (ns.length : Int) ≠ 0 then some (((k + 1 : Nat) : Int).fmod ns.length) else none) with | some c => some (MV.int c, H) | none => none) = _
      rw [if_pos (by omega), Int.fmod_eq_emod_of_nonneg _ (by omega)]
      rfl
    have a3 : mOwn 186 (f_H_get sns) (mVar 0) (lCons (mSub (mVar 1) (mBin .Mod (mBin .Add (mVar 3) (mInt 1)) (mCall (gLen sns) (lCons (mVar 1) lNil)))) lNil) [some (.ref i), some (.ref nl), some (.int (number : Int)), some (.int (k : Int)), some (.str (nmW k)), l5] H = some (.str (wN (atN ns ((k + 1) % ns.length))), H) :=
      mOwn_eq (a := .ref i) (h1 := H) rfl io (lCons_eq (mSub_eq (a := .ref nl) (h1 := H) rfl a2 (nms_at hN hm (by omega))) lNil_eq) (get_eq h E hm (by omega))
    have a4 := mList_eq (lCons_eq a1 (lCons_eq a3 lNil_eq)) (by simp [few])
    have hTk := listOf_end H [MV.str (wN (atN ns (prvN k ns.length))), MV.str (wN (atN ns ((k + 1) % ns.length)))]
    have h1 := h.app [.list [MV.str (wN (atN ns (prvN k ns.length))), MV.str (wN (atN ns ((k + 1) % ns.length)))]]
    have k1 : ∀ q xs, listOf H q = some xs → listOf (H ++ [.list [MV.str (wN (atN ns (prvN k ns.length))), MV.str (wN (atN ns ((k + 1) % ns.length)))]]) q = some xs := fun q xs w => listOf_app w _
    generalize hl' : atN ns (prvN k ns.length) = l at *
    generalize hr' : atN ns ((k + 1) % ns.length) = r at *
    generalize hH1 : H ++ [MO.list [MV.str (wN l), MV.str (wN r)]] = H1 at *
    obtain ⟨p1, p2, p3, p4⟩ := least_ok l s3 r s2
    have c1 := comp_rngif (n := 4000) (i := 1) (mi := iRange (lCons (mInt 3) lNil)) (mc := tCmp .NotIn (mCall (wordF sns) (lCons (mVar 1) lNil)) (mVar 2)) (me := mCall (wordF sns) (lCons (mVar 1) lNil)) (k := 2) (ci := [5]) (loc := [some (.ref i), some (.ref nl), some (.int (number : Int)), some (.int (k : Int)), some (.str (nmW k)), some (.ref H.length)]) (hp := H1) (hp1 := H1) (c := 3) (f := lstF l r) (e := fun x => MV.str (wN x)) rfl (by decide) (by decide) (fun x hx acc => by
        have hq := listOf_app hTk [.list acc]
        generalize H1 ++ [.list acc] = H2 at *
        have q1 : mCall (wordF sns) (lCons (mVar 1) lNil) [none, some (.int (x : Int)), some (.ref H.length)] H2 = some (.str (wN x), H2) := mCall_eq (vs := [.int (x : Int)]) (h1 := H2) rfl (word_eq sns (by omega) H2)
        have q2 : cmpMV .NotIn (.str (wN x)) (.ref H.length) H2 = some (lstF l r x) := by
          show (match listOf H2 H.length with | some xs => anyIn (.str (wN x)) xs | none => none).map not = _
          rw [hq]
          show (some ((wN l == wN x) || ((wN r == wN x) || false))).map not = _
          rw [wN_six l s3 x (by omega), wN_six r s2 x (by omega), Bool.or_false]
          rfl
        exact tCmp_eq (op := .NotIn) (m2 := mVar 2) q1 rfl q2) (fun x hx acc => by
        generalize H1 ++ [.list acc] = H2 at *
        exact mCall_eq (vs := [.int (x : Int)]) (h1 := H2) rfl (word_eq sns (by omega) H2))
    have hC := listOf_end H1 (((List.range 3).filter (lstF l r)).map fun x => MV.str (wN x))
    have h2 := h1.app [.list (((List.range 3).filter (lstF l r)).map fun x => MV.str (wN x))]
    have k2 : ∀ q xs, listOf H q = some xs → listOf (H1 ++ [.list (((List.range 3).filter (lstF l r)).map fun x => MV.str (wN x))]) q = some xs := fun q xs w => listOf_app (k1 q xs w) _
    generalize hH2 : H1 ++ [MO.list (((List.range 3).filter (lstF l r)).map fun x => MV.str (wN x))] = H2 at *
    have c2 : mSub (mComp 4000 (.one 1) (iRange (lCons (mInt 3) lNil)) (tCmp .NotIn (mCall (wordF sns) (lCons (mVar 1) lNil)) (mVar 2)) (mCall (wordF sns) (lCons (mVar 1) lNil)) 2 [5]) (mInt 0) [some (.ref i), some (.ref nl), some (.int (number : Int)), some (.int (k : Int)), some (.str (nmW k)), some (.ref H.length)] H1 = some (.str (wN (leastN l r)), H2) := by
      refine mSub_eq (b := .int ((0 : Nat) : Int)) c1 rfl ?_
      rw [sub_nat hC (by rw [List.length_map]; exact p1) (by rw [List.length_map]; have := List.length_filter_le (lstF l r) (List.range 3); simp only [List.length_range] at this; unfold few; omega)]
      rw [List.getElem_map, atN_get]
      rfl
    obtain ⟨n1, n2⟩ := nmW_ok (k := k) (by omega)
    obtain ⟨w1, w2⟩ := wN_ok (n := leastN l r) (by omega)
    have c3 := set_eq (sns := sns) h2.ins h2.dic h2.tab E.hdr (by omega) n1 (by rw [n2]; simp [few]) w1 (by unfold few; omega)
    have hjb : j < H2.length := lt_of_some (listOf_get h2.tab)
    have c4 := sSetOwn_eq (C := 186) (g := f_H_dsetitemd sns) (mo := mVar 0) (mi := mVar 4) (a := .ref i) (i := .str (nmW k)) (h2 := H2) (h3 := H2) c2 rfl rfl (inst_of h2.ins h2.dic) c3
    have E' := E.set hk (by omega) (v := leastN l r) (by omega) (by omega)
    have hdl : (delT ((nmW k).map lo1) T).length ≤ T.length := List.length_filter_le _ _
    generalize delT ((nmW k).map lo1) T = F at *
    refine ⟨some (.ref H.length), (H2 ++ [MO.list F]).set j (MO.list (F ++ [MV.tup [.str (nmW k), .str (wN (leastN l r))]])), F ++ [.tup [.str (nmW k), .str (wN (leastN l r))]], ?_, ⟨?_, ?_, ?_⟩, E', by rw [List.length_append, List.length_singleton]; omega, fun q xs hq w => ?_⟩
    · refine sSeq_next (h1 := (H2 ++ [MO.list F]).set j (MO.list (F ++ [MV.tup [.str (nmW k), .str (wN (leastN l r))]]))) (l1 := [some (.ref i), some (.ref nl), some (.int (number : Int)), some (.int (k : Int)), some (.str (nmW k)), some (.ref H.length)]) ?_
      rw [sIf_true e3, sSeq_next (sSet_eq a4)]
      exact sSeq_next c4
    · rw [List.getElem?_set_ne (Ne.symm hij)]; exact get_app h2.ins _
    · rw [List.getElem?_set_ne (Ne.symm hdj)]; exact get_app h2.dic _
    · exact of_get (by rw [List.getElem?_set_self (by rw [List.length_append]; omega)])
    · rw [listOf_set (Ne.symm hq)]
      exact listOf_app (k2 q xs w) _
end Mine
end
section
open PySem PySem.W PyProof.Rows PySem.Spec PySem.Calls
set_option linter.unusedVariables false
set_option maxRecDepth 100000
namespace Mine
noncomputable def putA (number : Nat) (ns : List Nat) : Nat → List Nat
  | 0 => ns
  | q + 1 => putS number (putA number ns q) q
theorem putA_len (number : Nat) (ns : List Nat) : ∀ q, (putA number ns q).length = ns.length
  | 0 => rfl
  | q + 1 => by unfold putA; rw [putS_len, putA_len number ns q]
noncomputable def Alt (ns : List Nat) : Prop := ∀ k, k < ns.length → atN ns k ≠ atN ns ((k + 1) % ns.length)
theorem nxt_prv {k m : Nat} (h : k < m) : (prvN k m + 1) % m = k := by
  unfold prvN
  cases hb : Nat.beq k 0 with
  | true =>
    have := Nat.eq_of_beq_eq_true hb
    subst this
    show (m - 1 + 1) % m = 0
    rw [show m - 1 + 1 = m by omega, Nat.mod_self]
  | false =>
    have := Nat.ne_of_beq_eq_false hb
    show (k - 1 + 1) % m = k
    rw [show k - 1 + 1 = k by omega, Nat.mod_eq_of_lt h]
theorem put_step {number k : Nat} {ns : List Nat} {b : Nat} (hS : Small b ns) (hb : 3 ≤ b) (hb6 : b ≤ 6) (hA : Alt ns) (hk : k < ns.length) (h2 : 2 ≤ ns.length) : Small b (putS number ns k) ∧ Alt (putS number ns k) ∧ (∀ q, q ≠ k → atN (putS number ns k) q = atN ns q) ∧ (atN (putS number ns k) k < 3 ∨ (atN (putS number ns k) k = atN ns k ∧ atN ns k ≠ number)) := by
  have hp := prvN_lt hk
  have hn : (k + 1) % ns.length < ns.length := Nat.mod_lt _ (by omega)
  have s1 := hS _ hp
  have s2 := hS _ hn
  unfold putS
  cases hb2 : Nat.beq (atN ns k) number with
  | false =>
    exact ⟨hS, hA, fun _ _ => rfl, .inr ⟨rfl, Nat.ne_of_beq_eq_false hb2⟩⟩
  | true =>
    obtain ⟨_, p2, p3, p4⟩ := least_ok (atN ns (prvN k ns.length)) (by omega) (atN ns ((k + 1) % ns.length)) (by omega)
    generalize leastN (atN ns (prvN k ns.length)) (atN ns ((k + 1) % ns.length)) = v at *
    simp only
    have hkn : (k + 1) % ns.length ≠ k := by
      rcases Nat.lt_or_ge (k + 1) ns.length with q | q
      · rw [Nat.mod_eq_of_lt q]; omega
      · have : k + 1 = ns.length := by omega
        rw [this, Nat.mod_self]; omega
    refine ⟨fun q hq => ?_, fun q hq => ?_, fun q hq => by rw [atN_set ns k v q hk, if_neg hq], .inl (by rw [atN_set ns k v k hk, if_pos rfl]; exact p2)⟩
    · rw [atN_set ns k v q hk]
      split
      · omega
      · exact hS q (by rw [List.length_set] at hq; exact hq)
    · rw [List.length_set] at hq ⊢
      rw [atN_set ns k v q hk, atN_set ns k v _ hk]
      by_cases h1 : q = k
      · subst h1
        rw [if_pos rfl, if_neg hkn]
        exact p4
      · rw [if_neg h1]
        by_cases h3 : (q + 1) % ns.length = k
        · rw [if_pos h3]
          have : q = prvN k ns.length := by
            unfold prvN
            rcases Nat.lt_or_ge (q + 1) ns.length with w | w
            · rw [Nat.mod_eq_of_lt w] at h3
              subst h3
              cases hb : Nat.beq (q + 1) 0 with
              | true => have := Nat.eq_of_beq_eq_true hb; omega
              | false => show q = q + 1 - 1; omega
            · have w2 : q + 1 = ns.length := by omega
              rw [w2, Nat.mod_self] at h3
              subst h3
              show q = ns.length - 1
              omega
          rw [this]
          exact fun e => p3 e.symm
        · rw [if_neg h3]
          exact hA q hq
theorem putA_ok {number : Nat} {ns : List Nat} (hnum : 3 ≤ number) (hS : Small (number + 1) ns) (h5 : number ≤ 5) (hA : Alt ns) (h2 : 2 ≤ ns.length) : ∀ q, q ≤ ns.length → Small (number + 1) (putA number ns q) ∧ Alt (putA number ns q) ∧ ∀ k, k < q → atN (putA number ns q) k < number
  | 0, _ => ⟨hS, hA, fun k h => absurd h (by omega)⟩
  | q + 1, hq => by
    obtain ⟨i1, i2, i3⟩ := putA_ok hnum hS h5 hA h2 q (by omega)
    have hl := putA_len number ns q
    obtain ⟨s1, s2, s3, s4⟩ := put_step (number := number) (k := q) i1 (by omega) (by omega) i2 (by omega) (by omega)
    refine ⟨s1, s2, fun k hk => ?_⟩
    by_cases h1 : k = q
    · subst h1
      have := i1 k (by omega)
      show atN (putS number (putA number ns k) k) k < number
      rcases s4 with w | ⟨w1, w2⟩
      · omega
      · rw [w1]; omega
    · show atN (putS number (putA number ns q) q) k < number
      rw [s3 k h1]
      exact i3 k (by omega)
theorem put_small {number : Nat} {ns : List Nat} (hnum : 3 ≤ number) (hS : Small (number + 1) ns) (h5 : number ≤ 5) (hA : Alt ns) (h2 : 2 ≤ ns.length) : Small number (putA number ns ns.length) ∧ Alt (putA number ns ns.length) := by
  obtain ⟨_, a2, a3⟩ := putA_ok hnum hS h5 hA h2 ns.length (Nat.le_refl _)
  exact ⟨fun k hk => a3 k (by rw [putA_len] at hk; exact hk), a2⟩
theorem iEnum_list {j : Nat} {xs : List MV} {m : ME} {loc : Loc} {H : List MO} (e : m loc H = some (.ref j, H)) (h : listOf H j = some xs) : iEnum (lCons m lNil) loc H = some (.enum j 0, H) := by
  unfold iEnum
  rw [lCons_eq e lNil_eq]
  show (match (match listOf H j with | some _ => some (It.enum j 0) | none => none) with | none => none | some it => some (it, H)) = _
  rw [h]
theorem nme_at {n k : Nat} (h : k < ((nmsF 0 n).mapIdx fun m x => MV.tup [.int (m : Int), x]).length) : ((nmsF 0 n).mapIdx fun m x => MV.tup [.int (m : Int), x])[k] = .tup [.int (k : Int), .str (nmW k)] := by
  rw [List.getElem_mapIdx, nmsF_at, Nat.zero_add]
theorem put_eq {sns : List Int} {hp : List MO} {i d j nl number : Nat} {T : List MV} {ns : List Nat} (h : TH3 hp i d j T) (E : Enc3 T ns) (h2 : 2 ≤ ns.length) (hl : ns.length ≤ 6) (hnum : 3 ≤ number) (h5 : number ≤ 5) (hS : Small (number + 1) ns) (hA : Alt ns) (hN : listOf hp nl = some (nmsF 0 ns.length)) (hnj : nl ≠ j) (hT : T.length < 100) :
    ∃ H' T', f_put3 sns [.ref i, .ref nl, .int (number : Int)] hp = some (.ref i, H') ∧ TH3 H' i d j T' ∧ Enc3 T' (putA number ns ns.length) ∧ T'.length ≤ T.length + 6 ∧ (∀ q xs, q ≠ j → listOf hp q = some xs → listOf H' q = some xs) := by
  obtain ⟨l', H', e2, I⟩ := forGo_inv (t := .two 3 4) (body := putBody sns) (feeds_enum (j := nl) (xs := nmsF 0 ns.length)) (fun _ => rfl)
    (fun q loc H => ∃ l3 l4 l5 T', loc = [some (.ref i), some (.ref nl), some (.int (number : Int)), l3, l4, l5] ∧ TH3 H i d j T' ∧ Enc3 T' (putA number ns q) ∧ T'.length ≤ T.length + q ∧ (∀ q xs, q ≠ j → listOf hp q = some xs → listOf H q = some xs)) (fun q loc H ⟨_, _, _, _, _, _, _, _, w⟩ => w _ _ hnj hN) (by
      rintro q hq loc H ⟨l3, l4, l5, T', rfl, t, E', hTl, w⟩
      have hq' : q < ns.length := by rw [List.length_mapIdx, nmsF_len] at hq; exact hq
      obtain ⟨a1, a2, _⟩ := putA_ok hnum hS h5 hA h2 q (by omega)
      have hpl := putA_len number ns q
      obtain ⟨l5', H2, T2, e, t2, E2, hT2, w2⟩ := put_body (sns := sns) (number := number) (k := q) (l5 := l5) t E' (by omega) (by omega) (fun k hk => by have := a1 k hk; omega) (by omega) (by rw [hpl]; exact w _ _ hnj hN) hnj (by omega)
      refine ⟨[some (.ref i), some (.ref nl), some (.int (number : Int)), some (.int (q : Int)), some (.str (nmW q)), l5], _, H2, by rw [nme_at hq]; rfl, e, some (.int (q : Int)), some (.str (nmW q)), l5', T2, rfl, t2, E2, by omega, fun r xs hr v => w2 r xs hr (w r xs hr v)⟩) 4000 0 [some (.ref i), some (.ref nl), some (.int (number : Int)), none, none, none] hp (Nat.zero_le _) (by rw [List.length_mapIdx, nmsF_len]; omega) ⟨none, none, none, T, rfl, h, E, by omega, fun _ _ _ v => v⟩
  obtain ⟨l3, l4, l5, T', rfl, t, E', hTl, w⟩ := I
  rw [List.length_mapIdx, nmsF_len] at E' hTl
  refine ⟨H', T', ?_, t, E', by omega, w⟩
  show outOf (sSeq (sFor 4000 (.two 3 4) (iEnum (lCons (mVar 1) lNil)) (putBody sns) sNil) (sSeq (sRet (mVar 0)) sNil) [some (.ref i), some (.ref nl), some (.int (number : Int)), none, none, none] hp) = _
  rw [sSeq_next (by rw [sFor_next (iEnum_list (xs := nmsF 0 ns.length) rfl hN) e2]; rfl)]
  rfl
end Mine
end
section
open PySem PySem.W PyProof.Rows PySem.Spec PySem.Calls
set_option linter.unusedVariables false
set_option maxRecDepth 100000
namespace Mine
noncomputable def LT : List Nat := [65, 66, 67, 68, 69, 70, 71, 72, 73, 74, 75, 76, 77, 78, 79, 80]
noncomputable def lo3 (a1 m a3 a4 a6 : Nat) (l7 l8 l9 l10 l11 : Option MV) : Loc := [some .script, some (.ref a1), some (.int (m : Int)), some (.ref a3), some (.ref a4), some (.str LT), some (.ref a6), l7, l8, l9, l10, l11]
theorem maxI_lt {b : Nat} : ∀ (l : List Nat), l ≠ [] → (∀ n ∈ l, n < b) → maxI (l.map Int.ofNat) < (b : Int)
  | [], h, _ => absurd rfl h
  | [a], _, h => by
    have := h a (List.mem_cons_self ..)
    show Int.ofNat a < (b : Int)
    show (a : Int) < b
    omega
  | a :: c :: l, _, h => by
    have h1 := h a (List.mem_cons_self ..)
    have h2 := maxI_lt (c :: l) (by simp) fun n hn => h n (List.mem_cons_of_mem _ hn)
    show max (Int.ofNat a) (maxI ((c :: l).map Int.ofNat)) < (b : Int)
    have : (Int.ofNat a : Int) = (a : Int) := rfl
    omega
theorem tOr_eq {m1 m2 : MT} {b : Bool} {loc : Loc} {hp h1 h2 : List MO} (e1 : m1 loc hp = some (false, h1)) (e2 : m2 loc h1 = some (b, h2)) : tOr m1 m2 loc hp = some (b, h2) := by
  unfold tOr; rw [e1]; exact e2
noncomputable def dupE : ME := mComp 4000 (.one 1) (iRange (lCons (mVar 2) lNil)) (tCmp .Eq (mSub (mVar 2) (mVar 1)) (mSub (mVar 2) (mBin .Sub (mVar 1) (mInt 1)))) (mVar 1) 2 [8]
theorem iRange_nat {i m : Nat} {loc : Loc} {H : List MO} (e : mVar i loc H = some (.int (m : Int), H)) (hm : m < 1000) : iRange (lCons (mVar i) lNil) loc H = some (.rng 0 m, H) := by
  unfold iRange
  rw [lCons_eq e lNil_eq]
  show (match (if (m : Int).natAbs < 1000000 then some (It.rng 0 (m : Int).toNat) else none) with | none => none | some it => some (it, H)) = _
  rw [if_pos (by omega)]
  rfl
theorem dup_test {H : List MO} {a1 a3 a4 a6 t : Nat} {ns : List Nat} {l7 l9 l10 l11 : Option MV} (ht : listOf H t = some (natL ns)) (h2 : 2 ≤ ns.length) (hl : ns.length ≤ 6) (hA : Alt ns) :
    ∃ g, tCmp .NotEq dupE (mList lNil) (lo3 a1 ns.length a3 a4 a6 l7 (some (.ref t)) l9 l10 l11) H = some (false, H ++ g) := by
  have c1 := comp_rngif (n := 4000) (i := 1) (mi := iRange (lCons (mVar 2) lNil)) (mc := tCmp .Eq (mSub (mVar 2) (mVar 1)) (mSub (mVar 2) (mBin .Sub (mVar 1) (mInt 1)))) (me := mVar 1) (k := 2) (ci := [8]) (loc := lo3 a1 ns.length a3 a4 a6 l7 (some (.ref t)) l9 l10 l11) (hp := H) (hp1 := H) (c := ns.length) (f := fun _ => false) (e := fun k => MV.int (k : Int)) (iRange_nat rfl (by omega)) (by omega) (by unfold few; omega) (fun k hk acc => by
      have ht' := listOf_app ht [.list acc]
      generalize H ++ [.list acc] = H1 at *
      have q1 : mSub (mVar 2) (mVar 1) [none, some (.int (k : Int)), some (.ref t)] H1 = some (.int (atN ns k : Int), H1) := mSub_eq (a := .ref t) (b := .int (k : Int)) (h1 := H1) rfl rfl (sub_ints ht' hk (by unfold few; omega))
      have q2 : mSub (mVar 2) (mBin .Sub (mVar 1) (mInt 1)) [none, some (.int (k : Int)), some (.ref t)] H1 = some (.int (atN ns (prvN k ns.length) : Int), H1) := by
        refine mSub_eq (a := .ref t) (b := .int ((k : Int) - 1)) (h1 := H1) rfl rfl ?_
        rw [sub_prev ht' (by rw [ints_len]; exact hk) (by rw [ints_len]; omega)]
        simp only [ints_len, natL, List.getElem_map, List.length_map, atN_get]
      have q3 := tCmp_eq (op := .Eq) (r := ((atN ns k : Int) == (atN ns (prvN k ns.length) : Int))) q1 q2 rfl
      have hne := hA _ (prvN_lt hk)
      rw [nxt_prv hk] at hne
      have : ((atN ns k : Int) == (atN ns (prvN k ns.length) : Int)) = false := by
        rw [beq_eq_false_iff_ne]; omega
      rw [this] at q3
      exact q3) (fun k hk acc => rfl)
  rw [List.filter_eq_nil_iff.mpr (fun a _ => by simp), List.map_nil] at c1
  have c2 : mList lNil (lo3 a1 ns.length a3 a4 a6 l7 (some (.ref t)) l9 l10 l11) (H ++ [.list []]) = some (.ref (H ++ [MO.list []]).length, H ++ [.list []] ++ [.list []]) := mList_eq rfl (by simp)
  refine ⟨[.list [], .list []], ?_⟩
  have e : H ++ [MO.list [], MO.list []] = H ++ [.list []] ++ [.list []] := by simp
  rw [e]
  refine tCmp_eq (op := .NotEq) c1 c2 ?_
  show (eqV (.ref H.length) (.ref (H ++ [MO.list []]).length) (H ++ [.list []] ++ [.list []])).map not = _
  rw [eq_lists (listOf_app (listOf_end H []) _) (listOf_end _ []), if_pos rfl]
  rfl
theorem max_test {sns : List Int} {H : List MO} {t b : Nat} {ns : List Nat} {loc : Loc} (ht : listOf H t = some (natL ns)) (h0 : ns ≠ []) (hb : ∀ n ∈ ns, n < b) (e8 : mVar 8 loc H = some (.ref t, H)) (e7 : mVar 7 loc H = some (.int (b : Int), H)) : tCmp .GtE (mCall gMax (lCons (mVar 8) lNil)) (mVar 7) loc H = some (false, H) := by
  have q := mCall_eq (lCons_eq e8 lNil_eq) (max_nat ht h0)
  have := maxI_lt ns h0 hb
  have r : cmpMV .GtE (.int (maxI (ns.map Int.ofNat))) (.int (b : Int)) H = some false := by
    show some (decide ((b : Int) ≤ maxI (ns.map Int.ofNat))) = _
    rw [decide_eq_false (by omega)]
  exact tCmp_eq (op := .GtE) q e7 r
noncomputable def halfE (sns : List Int) : ME := mComp 4000 (.two 1 2) (iZip (lCons (mVar 3) (lCons (mBin .Add (mCut sns (mVar 3) (pInt (mInt 1)) pNone pNone) (mCut sns (mVar 3) pNone (pInt (mInt 1)) pNone)) lNil))) tTrue (mCall (f__law_halved sns) (lCons (mVar 1) (lCons (mVar 2) lNil))) 3 []
noncomputable def eH (x : MV) : MV := match x with
  | .tup [.int a, .int b] => .int (newN a.toNat b.toNat : Int)
  | _ => .none
theorem eH_map (l : List Nat) : (List.zipWith (fun x y => MV.tup [x, y]) (natL l) (natL (rotN l))).map eH = natL (roundN l) := by
  apply List.ext_getElem
  · simp [natL, roundN]
  · intro k h1 h2
    simp only [natL, roundN, List.getElem_map, List.getElem_zipWith]
    rfl
theorem halves_eq {sns : List Int} {H : List MO} {a1 a3 a4 a6 : Nat} {ns : List Nat} {l7 l8 l9 l10 l11 : Option MV} (h3 : listOf H a3 = some (natL ns)) (R : Ring ns) :
    ∃ g, halfE sns (lo3 a1 ns.length a3 a4 a6 l7 l8 l9 l10 l11) H = some (.ref (H ++ g).length, H ++ g ++ [.list (natL (roundN ns))]) := by
  have h6 := R.few
  have hrl := rotN_len R.pos
  obtain ⟨g, t, r, e1, hJ, hr, _, _⟩ := zip_rot (sns := sns) (ni := 3) (loc := lo3 a1 ns.length a3 a4 a6 l7 l8 l9 l10 l11) h3 (by omega) R.pos (fun g => rfl)
  have h3' := listOf_app h3 g
  refine ⟨g, ?_⟩
  have e2 := comp_gen (n := 4000) (t := .two 1 2) (mc := tTrue) (me := mCall (f__law_halved sns) (lCons (mVar 1) (lCons (mVar 2) lNil))) (k := 3) (ci := []) (p := fun _ => true) (e := eH) (lo := fun x => match x with | .tup [a, b] => [none, some a, some b] | _ => [])
    (feeds_zip (a := a3) (b := r) (t := t) (xs := natL ns) (ys := natL (rotN ns)) (by rw [ints_len, ints_len, hrl])) e1 (fun acc => ⟨listOf_app h3' _, listOf_app hr _, get_app hJ _⟩) (fun _ => rfl) (by rw [List.length_zipWith, ints_len, ints_len]; omega) (by rw [List.length_zipWith, ints_len, ints_len]; unfold few; omega)
    (fun x hx => by
      obtain ⟨m, hm, rfl⟩ := List.getElem_of_mem hx
      have hm' : m < ns.length := by rw [List.length_zipWith, ints_len, ints_len] at hm; omega
      rw [zip_at hm hm' (by omega)]; rfl) (fun x y l1 h => setT_two (by decide) h) (fun _ _ _ => rfl) (fun x hx _ acc => by
      obtain ⟨m, hm, rfl⟩ := List.getElem_of_mem hx
      have hm' : m < ns.length := by rw [List.length_zipWith, ints_len, ints_len] at hm; omega
      have hmr : m < (rotN ns).length := by omega
      rw [zip_at hm hm' hmr]
      generalize H ++ g ++ [.list acc] = H1
      show mCall (f__law_halved sns) (lCons (mVar 1) (lCons (mVar 2) lNil)) [none, some (.int (ns[m] : Int)), some (.int ((rotN ns)[m] : Int))] H1 = some (.int (newN ns[m] (rotN ns)[m] : Int), H1)
      exact mCall_eq (vs := [.int (ns[m] : Int), .int ((rotN ns)[m] : Int)]) (h1 := H1) rfl (halved_eq (R.lt _ (List.getElem_mem hm')) (R.lt _ (rot_mem (List.getElem_mem hmr))) (R.ne m hm' hmr)))
  rw [List.filter_eq_self.mpr (fun _ _ => rfl), eH_map] at e2
  exact e2
noncomputable def spellE : ME := mComp 4000 (.one 1) (iVal (mVar 3)) tTrue (mMeth isStrMV gLstrip (mBin .Add (mSub (mVar 2) (mBin .FloorDiv (mVar 1) (mInt 16))) (mSub (mVar 2) (mBin .Mod (mVar 1) (mInt 16)))) (lCons (mStr [65]) lNil)) 2 [5]
noncomputable def spellOne : ME := mMeth isStrMV gLstrip (mBin .Add (mSub (mVar 2) (mBin .FloorDiv (mVar 1) (mInt 16))) (mSub (mVar 2) (mBin .Mod (mVar 1) (mInt 16)))) (lCons (mStr [65]) lNil)
theorem spell_at (H : List MO) : ∀ n : Nat, n < 20 → spellOne [none, some (.int (n : Int)), some (.str LT)] H = some (.str (wN n), H) := by
  intro n hn
  match n, hn with
  | 0, _ | 1, _ | 2, _ | 3, _ | 4, _ | 5, _ | 6, _ | 7, _ | 8, _ | 9, _ | 10, _ | 11, _ | 12, _ | 13, _ | 14, _ | 15, _ | 16, _ | 17, _ | 18, _ | 19, _ => kernel_rfl
  | n + 20, h => omega
theorem spell_eq {H : List MO} {a1 m a3 a4 a6 : Nat} {ns : List Nat} {l7 l8 l9 l10 l11 : Option MV} (h3 : listOf H a3 = some (natL ns)) (hl : ns.length ≤ 6) (hn : ∀ n ∈ ns, n < 20) :
    spellE (lo3 a1 m a3 a4 a6 l7 l8 l9 l10 l11) H = some (.ref H.length, H ++ [.list (ns.map fun n => .str (wN n))]) :=
  comp_nats (iVal_list rfl h3) h3 (by omega) (by unfold few; omega) fun n hx acc => spell_at _ n (hn n hx)
end Mine
end
section
open PySem PySem.W PyProof.Rows PySem.Spec PySem.Calls
set_option linter.unusedVariables false
set_option maxRecDepth 100000
namespace Mine
theorem tabF_at : ∀ (s : Nat) (l : List Nat) (k : Nat) (h : k < (tabF s l).length), (tabF s l)[k] = .tup [.str (nmW (s + k)), .str (wN (atN l k))]
  | s, [], k, h => by simp [tabF] at h
  | s, n :: r, 0, h => rfl
  | s, n :: r, k + 1, h => by
    show (tabF (s + 1) r)[k]'(by simpa [tabF] using h) = _
    rw [tabF_at (s + 1) r k, show s + 1 + k = s + (k + 1) by omega]
    rfl
theorem tab_map (ns : List Nat) : ((List.range ns.length).map fun k => MV.tup [.str (nmW k), .str (wN (atN ns k))]) = tabF 0 ns := by
  apply List.ext_getElem
  · rw [List.length_map, List.length_range, tabF_len]
  · intro k h1 h2
    rw [tabF_at, Nat.zero_add, List.getElem_map, List.getElem_range]
theorem letter_at (hp : List MO) : ∀ c : Nat, c < 16 → subMV (.str LT) (.int (c : Int)) hp = some (.str [65 + c]) := by
  intro n hn
  match n, hn with
  | 0, _ | 1, _ | 2, _ | 3, _ | 4, _ | 5, _ | 6, _ | 7, _ | 8, _ | 9, _ | 10, _ | 11, _ | 12, _ | 13, _ | 14, _ | 15, _ => kernel_rfl
  | n + 16, h => omega
noncomputable def pairE : ME := mComp 4000 (.one 1) (iRange (lCons (mVar 2) lNil)) tTrue (mTup (lCons (mBin .Mult (mSub (mVar 3) (mBin .Add (mVar 1) (mInt 1))) (mInt 2)) (lCons (mSub (mVar 2) (mVar 1)) lNil))) 2 [9, 5]
theorem pair_eq {H : List MO} {a1 a3 a4 a6 w : Nat} {ns : List Nat} {l7 l8 l10 l11 : Option MV} (hw : listOf H w = some (ns.map fun n => .str (wN n))) (hl : ns.length ≤ 6) :
    pairE (lo3 a1 ns.length a3 a4 a6 l7 l8 (some (.ref w)) l10 l11) H = some (.ref H.length, H ++ [.list (tabF 0 ns)]) := by
  rw [← tab_map]
  refine comp_rng0 (iRange_nat rfl (by omega)) (by omega) (by unfold few; omega) fun k hk acc => ?_
  have hw' := listOf_app hw [.list acc]
  generalize H ++ [.list acc] = H1 at *
  show mTup (lCons (mBin .Mult (mSub (mVar 3) (mBin .Add (mVar 1) (mInt 1))) (mInt 2)) (lCons (mSub (mVar 2) (mVar 1)) lNil)) [none, some (.int (k : Int)), some (.ref w), some (.str LT)] H1 = _
  have q1 : mSub (mVar 3) (mBin .Add (mVar 1) (mInt 1)) [none, some (.int (k : Int)), some (.ref w), some (.str LT)] H1 = some (.str [66 + k], H1) := by
    refine mSub_eq (a := .str LT) (b := .int ((k + 1 : Nat) : Int)) (h1 := H1) rfl rfl ?_
    rw [letter_at H1 (k + 1) (by omega), show 65 + (k + 1) = 66 + k by omega]
  have q2 : mBin .Mult (mSub (mVar 3) (mBin .Add (mVar 1) (mInt 1))) (mInt 2) [none, some (.int (k : Int)), some (.ref w), some (.str LT)] H1 = some (.str (nmW k), H1) := mBin_eq (b := .int 2) (h2 := H1) q1 rfl rfl
  have q3 : mSub (mVar 2) (mVar 1) [none, some (.int (k : Int)), some (.ref w), some (.str LT)] H1 = some (.str (wN (atN ns k)), H1) := by
    refine mSub_eq (a := .ref w) (b := .int (k : Int)) (h1 := H1) rfl rfl ?_
    rw [sub_nat hw' (by rw [List.length_map]; exact hk) (by rw [List.length_map]; unfold few; omega), List.getElem_map, atN_get]
  exact mTup_eq (lCons_eq q2 (lCons_eq q3 lNil_eq)) (by simp [few])
theorem eqA_strs (x : List Nat) : eqA (.str x) (.str x) = some true := by
  show some (x == x) = some true
  simp
theorem eqAll_self {P : MV → Prop} (hP : ∀ x, P x → eqT x x = some true) : ∀ l : List MV, (∀ x ∈ l, P x) → eqAll eqT l l = some true
  | [], _ => rfl
  | x :: l, h => by
    show (match eqT x x with | none => none | some a => match eqAll eqT l l with | none => none | some b => some (a && b)) = _
    rw [eqAll_self hP l fun y hy => h y (List.mem_cons_of_mem _ hy), hP x (h x (List.mem_cons_self ..))]
    rfl
theorem eqT_hdr {x : MV} (h : hdrOk x) : eqT x x = some true := by
  obtain ⟨k, v, rfl, _⟩ := h
  show (match eqA (.str k) (.str k) with | none => none | some a => match (match eqA (.str v) (.str v) with | none => none | some a => some (a && true)) with | none => none | some b => some (a && b)) = _
  rw [eqA_strs, eqA_strs]; rfl
theorem eqT_int {x : MV} (h : ∃ n : Nat, x = .int (n : Int)) : eqT x x = some true := by
  obtain ⟨n, rfl⟩ := h
  show some ((n : Int) == (n : Int)) = some true
  simp
theorem items_test {sns : List Int} {H : List MO} {a1 a3 a4 a6 d j w : Nat} {ns : List Nat} {l7 l8 l10 l11 : Option MV} (h : TH3 H a6 d j (tabF 0 ns)) (hw : listOf H w = some (ns.map fun n => .str (wN n))) (hl : ns.length ≤ 6) (hn : ∀ n ∈ ns, n < 1024) :
    ∃ g, tCmp .NotEq (mOwn 186 (f_H_items sns) (mVar 6) lNil) pairE (lo3 a1 ns.length a3 a4 a6 l7 l8 (some (.ref w)) l10 l11) H = some (false, H ++ g) := by
  have e1 := items_eq (sns := sns) h.ins h.dic h.tab (by rw [tabF_len]; omega)
  have e2 : mOwn 186 (f_H_items sns) (mVar 6) lNil (lo3 a1 ns.length a3 a4 a6 l7 l8 (some (.ref w)) l10 l11) H = some (.ref H.length, H ++ [.list (tabF 0 ns)]) := mOwn_eq (a := .ref a6) (vs := []) (h1 := H) rfl (inst_of h.ins h.dic) rfl e1
  have e3 := pair_eq (a1 := a1) (a3 := a3) (a4 := a4) (a6 := a6) (l7 := l7) (l8 := l8) (l10 := l10) (l11 := l11) (listOf_app hw [.list (tabF 0 ns)]) hl
  refine ⟨[.list (tabF 0 ns), .list (tabF 0 ns)], ?_⟩
  have e : H ++ [MO.list (tabF 0 ns), MO.list (tabF 0 ns)] = H ++ [.list (tabF 0 ns)] ++ [.list (tabF 0 ns)] := by simp
  rw [e]
  refine tCmp_eq (op := .NotEq) e2 e3 ?_
  show (eqV (.ref H.length) (.ref (H ++ [MO.list (tabF 0 ns)]).length) (H ++ [.list (tabF 0 ns)] ++ [.list (tabF 0 ns)])).map not = _
  rw [eq_lists (listOf_app (listOf_end H _) _) (listOf_end _ _), if_pos rfl, eqAll_self (fun x hx => eqT_hdr hx) _ (tab_hdr 0 ns hn (by omega))]
  rfl
theorem Ring.alt {l : List Nat} (R : Ring l) : Alt l := fun k hk => R.at hk
noncomputable def numsE (sns : List Int) : ME := mComp 4000 (.one 1) (iVal (mVar 4)) tTrue (mCall (numF sns) (lCons (mOwn 186 (f_H_get sns) (mVar 2) (lCons (mVar 1) lNil)) lNil)) 2 [6]
noncomputable def roundLoop (sns : List Int) : MS := sSeq (sSet 6 (mCall (f_round3 sns) (lCons (mVar 6) (lCons (mVar 4) lNil))))
   (sSeq (sSet 8 (numsE sns))
   (sSeq (sIf (tOr (tCmp .GtE (mCall gMax (lCons (mVar 8) lNil)) (mVar 7)) (tCmp .NotEq dupE (mList lNil))) (sSeq (sRet (mBool false))
   sNil) sNil)
   (sSeq (sSet 3 (halfE sns))
   (sSeq (sSet 9 spellE)
   (sSeq (sIf (tCmp .NotEq (mOwn 186 (f_H_items sns) (mVar 6) lNil) pairE) (sSeq (sRet (mBool false))
   sNil) sNil)
   sNil)))))
theorem round_loop {sns : List Int} {H : List MO} {a1 a3 a4 a6 d j f : Nat} {T : List MV} {ns : List Nat} {l8 l9 l10 l11 : Option MV} (h : TH3 H a6 d j T) (E : Enc3 T ns) (R : Ring ns) (h2 : 2 ≤ ns.length) (h3 : listOf H a3 = some (natL ns)) (h4 : listOf H a4 = some (nmsF 0 ns.length)) (hf : f ≤ 10) (hb : ∀ n ∈ ns, n < 2 ^ f) :
    ∃ a3' a6' d' j' l8' l9' H', roundLoop sns (lo3 a1 ns.length a3 a4 a6 (some (.int ((2 * f : Nat) : Int))) l8 l9 l10 l11) H = some (.next, lo3 a1 ns.length a3' a4 a6' (some (.int ((2 * f : Nat) : Int))) l8' l9' l10 l11, H') ∧
      TH3 H' a6' d' j' (tabF 0 (roundN ns)) ∧ listOf H' a3' = some (natL (roundN ns)) ∧ ∀ k xs, listOf H k = some xs → listOf H' k = some xs := by
  have hl6 := R.few
  have R' := round_ring R
  have hlen := roundN_len R.pos
  have hlt := round_lt R hf hb
  have hne : roundN ns ≠ [] := by intro q; rw [q] at hlen; simp at hlen; omega
  obtain ⟨H1, T1, d1, j1, e1, t1, k1⟩ := round_eq (sns := sns) h E R h4
  have E1 := enc_tab R'.lt (by omega)
  have h41 : listOf H1 a4 = some (nmsF 0 (roundN ns).length) := by rw [hlen]; exact k1 _ _ h4
  have e2 : numsE sns (lo3 a1 ns.length a3 a4 T1 (some (.int ((2 * f : Nat) : Int))) l8 l9 l10 l11) H1 = some (.ref H1.length, H1 ++ [.list (natL (roundN ns))]) := nums_comp (sns := sns) (ti := 6) (ni := 4) (loc := lo3 a1 ns.length a3 a4 T1 (some (.int ((2 * f : Nat) : Int))) l8 l9 l10 l11) t1 E1 (by omega) R'.lt h41 rfl rfl
  have ht := listOf_end H1 (natL (roundN ns))
  have t2 := t1.app [.list (natL (roundN ns))]
  have k2 : ∀ k xs, listOf H k = some xs → listOf (H1 ++ [.list (natL (roundN ns))]) k = some xs := fun k xs q => listOf_app (k1 k xs q) _
  generalize hH2 : H1 ++ [MO.list (natL (roundN ns))] = H2 at *
  have m1 := max_test (sns := sns) (b := 2 * f) (loc := lo3 a1 ns.length a3 a4 T1 (some (.int ((2 * f : Nat) : Int))) (some (.ref H1.length)) l9 l10 l11) ht hne hlt rfl rfl
  obtain ⟨g3, m2⟩ := dup_test (a1 := a1) (a3 := a3) (a4 := a4) (a6 := T1) (l7 := some (.int ((2 * f : Nat) : Int))) (l9 := l9) (l10 := l10) (l11 := l11) ht (by omega) (by omega) R'.alt
  rw [hlen] at m2
  have e3 := tOr_eq m1 m2
  have t3 := t2.app g3
  have k3 : ∀ k xs, listOf H k = some xs → listOf (H2 ++ g3) k = some xs := fun k xs q => listOf_app (k2 k xs q) _
  generalize H2 ++ g3 = H3 at *
  obtain ⟨g4, e4⟩ := halves_eq (sns := sns) (a1 := a1) (a4 := a4) (a6 := T1) (l7 := some (.int ((2 * f : Nat) : Int))) (l8 := some (.ref H1.length)) (l9 := l9) (l10 := l10) (l11 := l11) (k3 _ _ h3) R
  have h34 := listOf_end (H3 ++ g4) (natL (roundN ns))
  have t4 := (t3.app g4).app [.list (natL (roundN ns))]
  have k4 : ∀ k xs, listOf H k = some xs → listOf (H3 ++ g4 ++ [.list (natL (roundN ns))]) k = some xs := fun k xs q => listOf_app (listOf_app (k3 k xs q) _) _
  generalize (H3 ++ g4).length = a3' at *
  generalize H3 ++ g4 ++ [.list (natL (roundN ns))] = H4 at *
  have e5 := spell_eq (a1 := a1) (m := ns.length) (a4 := a4) (a6 := T1) (l7 := some (.int ((2 * f : Nat) : Int))) (l8 := some (.ref H1.length)) (l9 := l9) (l10 := l10) (l11 := l11) h34 (by omega) (fun n hn => by have := hlt n hn; omega)
  have hw := listOf_end H4 ((roundN ns).map fun n => MV.str (wN n))
  have t5 := t4.app [.list ((roundN ns).map fun n => MV.str (wN n))]
  have h35 := listOf_app h34 [.list ((roundN ns).map fun n => MV.str (wN n))]
  have k5 : ∀ k xs, listOf H k = some xs → listOf (H4 ++ [.list ((roundN ns).map fun n => MV.str (wN n))]) k = some xs := fun k xs q => listOf_app (k4 k xs q) _
  generalize hH5 : H4 ++ [MO.list ((roundN ns).map fun n => MV.str (wN n))] = H5 at *
  obtain ⟨g6, e6⟩ := items_test (sns := sns) (a1 := a1) (a3 := a3') (a4 := a4) (l7 := some (.int ((2 * f : Nat) : Int))) (l8 := some (.ref H1.length)) (l10 := l10) (l11 := l11) t5 hw (by omega) R'.lt
  rw [hlen] at e6
  refine ⟨a3', T1, d1, j1, some (.ref H1.length), some (.ref H4.length), H5 ++ g6, ?_, t5.app _, listOf_app h35 _, fun k xs q => listOf_app (k5 k xs q) _⟩
  unfold roundLoop
  rw [sSeq_next (sSet_eq (mCall_eq (vs := [.ref a6, .ref a4]) (h1 := H) rfl e1))]
  show sSeq (sSet 8 (numsE sns)) _ (lo3 a1 ns.length a3 a4 T1 (some (.int ((2 * f : Nat) : Int))) l8 l9 l10 l11) H1 = _
  rw [sSeq_next (sSet_eq e2)]
  show sSeq (sIf _ _ _) _ (lo3 a1 ns.length a3 a4 T1 (some (.int ((2 * f : Nat) : Int))) (some (.ref H1.length)) l9 l10 l11) H2 = _
  rw [sSeq_next (by rw [sIf_false e3]; rfl)]
  rw [sSeq_next (sSet_eq e4)]
  show sSeq (sSet 9 spellE) _ (lo3 a1 ns.length a3' a4 T1 (some (.int ((2 * f : Nat) : Int))) (some (.ref H1.length)) l9 l10 l11) H4 = _
  rw [sSeq_next (sSet_eq e5)]
  show sSeq (sIf _ _ _) _ (lo3 a1 ns.length a3' a4 T1 (some (.int ((2 * f : Nat) : Int))) (some (.ref H1.length)) (some (.ref H4.length)) l10 l11) H5 = _
  exact sSeq_next (by rw [sIf_false e6]; rfl)
end Mine
end
section
open PySem PySem.W PyProof.Rows PySem.Spec PySem.Calls
set_option linter.unusedVariables false
set_option maxRecDepth 100000
namespace Mine
theorem min_nat {hp : List MO} {i : Nat} {l : List Nat} (h : listOf hp i = some (natL l)) (hl : l ≠ []) : gMin [.ref i] hp = some (.int (minI (l.map Int.ofNat)), hp) := by
  show (match listOf hp i with | some xs => (match intsOf xs with | none => none | some l => (match (match l with | [] => none | l => some (MV.int (minI l))) with | none => none | some v => some (v, hp))) | none => none) = _
  rw [h]
  simp only [intsOf_ints]
  cases l with
  | nil => exact absurd rfl hl
  | cons a l => rfl
theorem least_min : ∀ l, l < 6 → ∀ r, r < 6 → minI (((List.range 3).filter (lstF l r)).map Int.ofNat) = (leastN l r : Int) ∧ (List.range 3).filter (lstF l r) ≠ [] := by decide +kernel
theorem natL_set : ∀ (l : List Nat) (k v : Nat), (natL l).set k (.int (v : Int)) = natL (l.set k v)
  | [], _, _ => rfl
  | a :: l, 0, v => rfl
  | a :: l, k + 1, v => congrArg (MV.int (a : Int) :: ·) (natL_set l k v)
noncomputable def leastE : ME := mCall gMin (lCons (mComp 4000 (.one 1) (iRange (lCons (mInt 3) lNil)) (tCmp .NotIn (mVar 1) (mList (lCons (mSub (mVar 2) (mBin .Sub (mVar 3) (mInt 1))) (lCons (mSub (mVar 2) (mBin .Mod (mBin .Add (mVar 3) (mInt 1)) (mVar 4))) lNil)))) (mVar 1) 2 [3, 11, 2]) lNil)
noncomputable def ownBody : MS := sSeq (sIf (tCmp .Eq (mSub (mVar 3) (mVar 11)) (mVar 10)) (sSeq (sSetList (mVar 3) (mVar 11) leastE)
   sNil) sNil)
   sNil
theorem compGo_invC {t : Tgt} {mc : MT} {me : ME} {D : Nat} {ok : List MO → Prop} {it : Nat → It} {xs : List MV} {L : Loc} {lo : MV → Loc}
    (F : Feeds ok it xs) (hfit : ∀ m, fitsT t (it m) = true) (hset : ∀ x ∈ xs, setT t x L = some (lo x)) (hss : ∀ x y l1, setT t x L = some l1 → setT t y l1 = setT t y L)
    (I : Nat → List MO → Prop) (hok : ∀ m hp, I m hp → ok hp)
    (step : ∀ (m : Nat) (h : m < xs.length) hp, I m hp → ∃ b h1, mc (lo xs[m]) hp = some (b, h1) ∧ ((b = false ∧ I (m + 1) h1) ∨ (b = true ∧ ∃ v hp2 w hp3, me (lo xs[m]) h1 = some (v, hp2) ∧ gAppend [.ref D, v] hp2 = some (w, hp3) ∧ I (m + 1) hp3))) :
    ∀ (n m : Nat) (l : Loc) hp, (∀ y, setT t y l = setT t y L) → m ≤ xs.length → xs.length < n + m → I m hp → ∃ hp', compGo t mc me D n (it m) l hp = some hp' ∧ I xs.length hp' := by
  intro n
  induction n with
  | zero => intro m l hp _ h1 h2; omega
  | succ n ih =>
    intro m l hp hl hm hn hI
    rcases Nat.lt_or_ge m xs.length with hlt | hge
    · have hx : xs[m] ∈ xs := List.getElem_mem hlt
      obtain ⟨b, h1, e1, q⟩ := step m hlt hp hI
      have hl2 : ∀ y, setT t y (lo xs[m]) = setT t y L := fun y => hss _ y _ (hset _ hx)
      rcases q with ⟨rfl, hI2⟩ | ⟨rfl, v, hp2, w, hp3, e2, e3, hI3⟩
      · obtain ⟨hp', e4, hI'⟩ := ih (m + 1) (lo xs[m]) h1 hl2 hlt (by omega) hI2
        refine ⟨hp', ?_, hI'⟩
        show (match It.next (it m) hp with | none => none | some none => _ | some (some (x, it')) => _) = _
        rw [F.item _ (hok m hp hI) m hlt]
        simp only [hfit, hl, hset _ hx, e1]
        exact e4
      · obtain ⟨hp', e4, hI'⟩ := ih (m + 1) (lo xs[m]) hp3 hl2 hlt (by omega) hI3
        refine ⟨hp', ?_, hI'⟩
        show (match It.next (it m) hp with | none => none | some none => _ | some (some (x, it')) => _) = _
        rw [F.item _ (hok m hp hI) m hlt]
        simp only [hfit, hl, hset _ hx, e1, e2, e3]
        exact e4
    · have : m = xs.length := by omega
      subst this
      refine ⟨hp, ?_, hI⟩
      show (match It.next (it xs.length) hp with | none => none | some none => _ | some (some (x, it')) => _) = _
      rw [F.stop _ (hok _ hp hI) _ hge]
theorem least_eq {H : List MO} {a1 a3 a4 a6 k : Nat} {ns : List Nat} {l7 l8 l9 l10 : Option MV} (h3 : listOf H a3 = some (natL ns)) (hk : k < ns.length) (hl : ns.length ≤ 6) (hS : Small 6 ns) :
    ∃ H' : List MO, leastE (lo3 a1 ns.length a3 a4 a6 l7 l8 l9 l10 (some (.int (k : Int)))) H = some (.int (leastN (atN ns (prvN k ns.length)) (atN ns ((k + 1) % ns.length)) : Int), H') ∧ ∀ (q : Nat) (o : MO), H[q]? = some o → H'[q]? = some o := by
  have hm : (k + 1) % ns.length < ns.length := Nat.mod_lt _ (by omega)
  have hp := prvN_lt hk
  have s2 := hS _ hm
  have s3 := hS _ hp
  have hb3 := lt_of_some (listOf_get h3)
  obtain ⟨p1, p2⟩ := least_min _ s3 _ s2
  obtain ⟨H', e1, I⟩ := compGo_invC (t := .one 1) (mc := tCmp .NotIn (mVar 1) (mList (lCons (mSub (mVar 2) (mBin .Sub (mVar 3) (mInt 1))) (lCons (mSub (mVar 2) (mBin .Mod (mBin .Add (mVar 3) (mInt 1)) (mVar 4))) lNil)))) (me := mVar 1) (D := H.length) (L := [none, none, some (.ref a3), some (.int (k : Int)), some (.int (ns.length : Int))]) (lo := fun x => [none, some x, some (.ref a3), some (.int (k : Int)), some (.int (ns.length : Int))])
    (feeds_rng (a := 0) (n := 3)) (fun _ => rfl) (fun _ _ => rfl) (fun x y l1 h => setT_one h)
    (fun m H1 => listOf H1 H.length = some (natL ((List.range m).filter (lstF (atN ns (prvN k ns.length)) (atN ns ((k + 1) % ns.length))))) ∧ ∀ (q : Nat) (o : MO), H[q]? = some o → H1[q]? = some o) (fun _ _ _ => trivial) (by
      rintro x hx H1 ⟨qD, qk⟩
      have hx3 : x < 3 := by simpa using hx
      have ex : ((List.range 3).map fun (i : Nat) => MV.int (0 + (i : Int)))[x]'hx = .int (x : Int) := by
        simp only [List.getElem_map, List.getElem_range]
        rw [show (0 : Int) + (x : Int) = (x : Int) by omega]
      have h31 : listOf H1 a3 = some (natL ns) := of_get (qk _ _ (listOf_get h3))
      have q1 : mSub (mVar 2) (mBin .Sub (mVar 3) (mInt 1)) [none, some (.int (x : Int)), some (.ref a3), some (.int (k : Int)), some (.int (ns.length : Int))] H1 = some (.int (atN ns (prvN k ns.length) : Int), H1) := by
        refine mSub_eq (a := .ref a3) (b := .int ((k : Int) - 1)) (h1 := H1) rfl rfl ?_
        rw [sub_prev h31 (by rw [ints_len]; exact hk) (by rw [ints_len]; omega)]
        simp only [natL, List.getElem_map, List.length_map, atN_get]
      have q2 : mBin .Mod (mBin .Add (mVar 3) (mInt 1)) (mVar 4) [none, some (.int (x : Int)), some (.ref a3), some (.int (k : Int)), some (.int (ns.length : Int))] H1 = some (.int (((k + 1) % ns.length : Nat) : Int), H1) := by
        refine mBin_eq (a := .int ((k + 1 : Nat) : Int)) (b := .int (ns.length : Int)) (h1 := H1) (h2 := H1) rfl rfl ?_
        show (match (if (ns.length : Int) ≠ 0 then some (((k + 1 : Nat) : Int).fmod ns.length) else none) with | some c => some (MV.int c, H1) | none => none) = _
        rw [if_pos (by omega), Int.fmod_eq_emod_of_nonneg _ (by omega)]
        rfl
      have q3 : mSub (mVar 2) (mBin .Mod (mBin .Add (mVar 3) (mInt 1)) (mVar 4)) [none, some (.int (x : Int)), some (.ref a3), some (.int (k : Int)), some (.int (ns.length : Int))] H1 = some (.int (atN ns ((k + 1) % ns.length) : Int), H1) := mSub_eq (a := .ref a3) (h1 := H1) rfl q2 (sub_ints h31 hm (by unfold few; omega))
      have q4 := mList_eq (lCons_eq q1 (lCons_eq q3 lNil_eq)) (by simp [few])
      have hq := listOf_end H1 [MV.int (atN ns (prvN k ns.length) : Int), MV.int (atN ns ((k + 1) % ns.length) : Int)]
      have qD1 := listOf_app qD [MO.list [MV.int (atN ns (prvN k ns.length) : Int), MV.int (atN ns ((k + 1) % ns.length) : Int)]]
      have qk1 : ∀ (q : Nat) (o : MO), H[q]? = some o → (H1 ++ [MO.list [MV.int (atN ns (prvN k ns.length) : Int), MV.int (atN ns ((k + 1) % ns.length) : Int)]])[q]? = some o := fun q o w => get_app (qk q o w) _
      generalize atN ns (prvN k ns.length) = l at *
      generalize atN ns ((k + 1) % ns.length) = r at *
      have q5 : cmpMV .NotIn (.int (x : Int)) (.ref H1.length) (H1 ++ [MO.list [MV.int (l : Int), MV.int (r : Int)]]) = some (lstF l r x) := by
        show (match listOf (H1 ++ [MO.list [MV.int (l : Int), MV.int (r : Int)]]) H1.length with | some xs => anyIn (.int (x : Int)) xs | none => none).map not = _
        rw [hq]
        show (anyIn (.int (x : Int)) (natL [l, r])).map not = _
        rw [anyIn_ints]
        unfold lstF
        show some (!(List.contains [l, r] x)) = _
        congr 2
        rw [List.contains_cons, List.contains_cons, List.contains_nil, Bool.or_false]
        have w : ∀ y : Nat, (x == y) = Nat.beq y x := fun y => by
          cases hb : Nat.beq y x with
          | true => rw [Nat.eq_of_beq_eq_true hb]; simp
          | false =>
            have := Nat.ne_of_beq_eq_false hb
            rw [beq_eq_false_iff_ne]; omega
        rw [w, w]
      have q6 := tCmp_eq (op := .NotIn) (m1 := mVar 1) (a := .int (x : Int)) (h1 := H1) rfl q4 q5
      generalize H1 ++ [MO.list [MV.int (l : Int), MV.int (r : Int)]] = H2 at *
      refine ⟨lstF l r x, H2, by simp only [ex]; exact q6, ?_⟩
      cases hb : lstF l r x with
      | false =>
        refine .inl ⟨rfl, ?_, qk1⟩
        rw [qD1, List.range_succ, List.filter_append, List.filter_cons, hb]
        simp
      | true =>
        have hDl := lt_of_some (listOf_get qD1)
        have hfl := List.length_filter_le (lstF l r) (List.range x)
        rw [List.length_range] at hfl
        refine .inr ⟨rfl, .int (x : Int), H2, .none, H2.set H.length (.list (natL ((List.range x).filter (lstF l r)) ++ [.int (x : Int)])), by simp only [ex]; rfl, ?_, ?_, fun q o w => ?_⟩
        · show (match listOf H2 H.length with | some xs => if xs.length < few then some (MV.none, H2.set H.length (.list (xs ++ [MV.int (x : Int)]))) else none | none => none) = _
          rw [qD1]
          simp only
          rw [if_pos (by rw [ints_len]; unfold few; omega)]
        · rw [of_get (by rw [List.getElem?_set_self hDl]), List.range_succ, List.filter_append, List.filter_cons, hb, ← natL_app]
          rfl
        · have := lt_of_some w
          rw [List.getElem?_set_ne (by omega)]
          exact qk1 q o w) 4000 0 [none, none, some (.ref a3), some (.int (k : Int)), some (.int (ns.length : Int))] (H ++ [.list []]) (fun _ => rfl) (Nat.zero_le _) (by simp) ⟨listOf_end H [], fun q o w => get_app w _⟩
  obtain ⟨qD, qk⟩ := I
  simp only [List.length_map, List.length_range] at qD
  refine ⟨H', ?_, qk⟩
  unfold leastE
  have e2 : mComp 4000 (.one 1) (iRange (lCons (mInt 3) lNil)) (tCmp .NotIn (mVar 1) (mList (lCons (mSub (mVar 2) (mBin .Sub (mVar 3) (mInt 1))) (lCons (mSub (mVar 2) (mBin .Mod (mBin .Add (mVar 3) (mInt 1)) (mVar 4))) lNil)))) (mVar 1) 2 [3, 11, 2] (lo3 a1 ns.length a3 a4 a6 l7 l8 l9 l10 (some (.int (k : Int)))) H = some (.ref H.length, H') := by
    unfold mComp
    rw [show iRange (lCons (mInt 3) lNil) (lo3 a1 ns.length a3 a4 a6 l7 l8 l9 l10 (some (.int (k : Int)))) H = some (.rng (0 + ((0 : Nat) : Int)) (3 - 0), H) from rfl]
    simp only
    rw [show compLoc 2 [3, 11, 2] (lo3 a1 ns.length a3 a4 a6 l7 l8 l9 l10 (some (.int (k : Int)))) = [none, none, some (.ref a3), some (.int (k : Int)), some (.int (ns.length : Int))] from rfl, e1]
  have e3 := mCall_eq (lCons_eq e2 lNil_eq) (min_nat qD p2)
  rw [p1] at e3
  exact e3
end Mine
end
section
open PySem PySem.W PyProof.Rows PySem.Spec PySem.Calls
set_option linter.unusedVariables false
set_option maxRecDepth 100000
namespace Mine
theorem own_step {H : List MO} {a1 a3 a4 a6 k number : Nat} {ns : List Nat} {l7 l8 l9 : Option MV} (h3 : listOf H a3 = some (natL ns)) (hk : k < ns.length) (hl : ns.length ≤ 6) (hS : Small 6 ns) :
    ∃ H' : List MO, ownBody (lo3 a1 ns.length a3 a4 a6 l7 l8 l9 (some (.int (number : Int))) (some (.int (k : Int)))) H = some (.next, lo3 a1 ns.length a3 a4 a6 l7 l8 l9 (some (.int (number : Int))) (some (.int (k : Int))), H') ∧ listOf H' a3 = some (natL (putS number ns k)) ∧ ∀ (q : Nat) (o : MO), q ≠ a3 → H[q]? = some o → H'[q]? = some o := by
  have e1 : mSub (mVar 3) (mVar 11) (lo3 a1 ns.length a3 a4 a6 l7 l8 l9 (some (.int (number : Int))) (some (.int (k : Int)))) H = some (.int (atN ns k : Int), H) := mSub_eq (a := .ref a3) (b := .int (k : Int)) (h1 := H) rfl rfl (sub_ints h3 hk (by unfold few; omega))
  have e2 := tCmp_eq (op := .Eq) (m2 := mVar 10) (b := .int (number : Int)) (h2 := H) (r := ((atN ns k : Int) == (number : Int))) e1 rfl rfl
  have eb : ((atN ns k : Int) == (number : Int)) = Nat.beq (atN ns k) number := by
    cases hb : Nat.beq (atN ns k) number with
    | true => rw [Nat.eq_of_beq_eq_true hb]; simp
    | false =>
      have := Nat.ne_of_beq_eq_false hb
      rw [beq_eq_false_iff_ne]; omega
  rw [eb] at e2
  unfold ownBody putS
  cases hb : Nat.beq (atN ns k) number with
  | false =>
    rw [hb] at e2
    exact ⟨H, sSeq_next (by rw [sIf_false e2]; rfl), h3, fun _ _ _ q => q⟩
  | true =>
    rw [hb] at e2
    obtain ⟨H1, e3, k1⟩ := least_eq (a1 := a1) (a4 := a4) (a6 := a6) (l7 := l7) (l8 := l8) (l9 := l9) (l10 := some (.int (number : Int))) h3 hk hl hS
    have h31 : listOf H1 a3 = some (natL ns) := of_get (k1 _ _ (listOf_get h3))
    generalize leastN (atN ns (prvN k ns.length)) (atN ns ((k + 1) % ns.length)) = v at *
    have e4 : sSetList (mVar 3) (mVar 11) leastE (lo3 a1 ns.length a3 a4 a6 l7 l8 l9 (some (.int (number : Int))) (some (.int (k : Int)))) H = some (.next, lo3 a1 ns.length a3 a4 a6 l7 l8 l9 (some (.int (number : Int))) (some (.int (k : Int))), H1.set a3 (.list (natL (ns.set k v)))) := by
      unfold sSetList
      rw [e3]
      show (match listOf H1 a3 with | some xs => if 0 ≤ (k : Int) ∧ (k : Int) < xs.length ∧ xs.length ≤ few then some (MFlow.next, lo3 a1 ns.length a3 a4 a6 l7 l8 l9 (some (.int (number : Int))) (some (.int (k : Int))), H1.set a3 (.list (xs.set (k : Int).toNat (.int (v : Int))))) else none | none => none) = _
      rw [h31]
      simp only
      rw [if_pos (by rw [ints_len]; unfold few; omega), show (k : Int).toNat = k from rfl, natL_set]
    refine ⟨_, sSeq_next (by rw [sIf_true e2]; exact sSeq_next e4), of_get (by rw [List.getElem?_set_self (lt_of_some (listOf_get h31))]), fun q o hq w => by rw [List.getElem?_set_ne (Ne.symm hq)]; exact k1 q o w⟩
theorem own_loop {H : List MO} {a1 a3 a4 a6 number : Nat} {ns : List Nat} {l7 l8 l9 l11 : Option MV} (h3 : listOf H a3 = some (natL ns)) (h2 : 2 ≤ ns.length) (hl : ns.length ≤ 6) (hnum : 3 ≤ number) (h5 : number ≤ 5) (hS : Small (number + 1) ns) (hA : Alt ns) :
    ∃ (l11' : Option MV) (H' : List MO), sFor 4000 (.one 11) (iRange (lCons (mVar 2) lNil)) ownBody sNil (lo3 a1 ns.length a3 a4 a6 l7 l8 l9 (some (.int (number : Int))) l11) H = some (.next, lo3 a1 ns.length a3 a4 a6 l7 l8 l9 (some (.int (number : Int))) l11', H') ∧ listOf H' a3 = some (natL (putA number ns ns.length)) ∧ ∀ (q : Nat) (o : MO), q ≠ a3 → H[q]? = some o → H'[q]? = some o := by
  obtain ⟨l', H', e2, I⟩ := forGo_inv (t := .one 11) (body := ownBody) (feeds_rng (a := 0) (n := ns.length)) (fun _ => rfl)
    (fun q loc H1 => ∃ l11, loc = lo3 a1 ns.length a3 a4 a6 l7 l8 l9 (some (.int (number : Int))) l11 ∧ listOf H1 a3 = some (natL (putA number ns q)) ∧ ∀ (r : Nat) (o : MO), r ≠ a3 → H[r]? = some o → H1[r]? = some o) (fun _ _ _ _ => trivial) (by
      rintro q hq loc H1 ⟨l11, rfl, qL, qk⟩
      have hq' : q < ns.length := by simpa using hq
      obtain ⟨a1', _, _⟩ := putA_ok hnum hS h5 hA h2 q (by omega)
      have hpl := putA_len number ns q
      obtain ⟨H2, e, w, kp⟩ := own_step (a1 := a1) (a4 := a4) (a6 := a6) (k := q) (number := number) (l7 := l7) (l8 := l8) (l9 := l9) qL (by omega) (by omega) (fun k hk => by have := a1' k hk; omega)
      rw [hpl] at e
      refine ⟨lo3 a1 ns.length a3 a4 a6 l7 l8 l9 (some (.int (number : Int))) (some (.int (q : Int))), _, H2, ?_, e, some (.int (q : Int)), rfl, w, fun r o hr v => kp r o hr (qk r o hr v)⟩
      simp only [List.getElem_map, List.getElem_range]
      rw [show (0 : Int) + (q : Int) = (q : Int) by omega]
      rfl) 4000 0 (lo3 a1 ns.length a3 a4 a6 l7 l8 l9 (some (.int (number : Int))) l11) H (Nat.zero_le _) (by simp; omega) ⟨l11, rfl, h3, fun _ _ _ v => v⟩
  obtain ⟨l11', rfl, qL, qk⟩ := I
  simp only [List.length_map, List.length_range] at qL
  refine ⟨l11', H', ?_, qL, qk⟩
  have e1 : iRange (lCons (mVar 2) lNil) (lo3 a1 ns.length a3 a4 a6 l7 l8 l9 (some (.int (number : Int))) l11) H = some (.rng (0 + ((0 : Nat) : Int)) (ns.length - 0), H) := iRange_nat rfl (by omega)
  rw [sFor_next e1 e2]
  rfl
theorem tab_ne {H : List MO} {i d j q : Nat} {T xs : List MV} (h : TH3 H i d j T) (hT : ∀ x ∈ T, hdrOk x) (hq : listOf H q = some xs) {x : MV} (hx : x ∈ xs) (hn : ¬ hdrOk x) : q ≠ j := by
  rintro rfl
  have := h.tab
  rw [hq] at this
  cases this
  exact hn (hT x hx)
theorem int_not {n : Int} : ¬ hdrOk (.int n) := by rintro ⟨_, _, e, _⟩; cases e
theorem str_not {s : List Nat} : ¬ hdrOk (.str s) := by rintro ⟨_, _, e, _⟩; cases e
noncomputable def putLoop (sns : List Int) : MS := sSeq (sSet 6 (mCall (f_put3 sns) (lCons (mVar 6) (lCons (mVar 4) (lCons (mVar 10) lNil)))))
   (sSeq (sFor 4000 (.one 11) (iRange (lCons (mVar 2) lNil)) ownBody sNil) sNil)
theorem put_loop {sns : List Int} {H : List MO} {a1 a3 a4 a6 d j number : Nat} {T : List MV} {ns : List Nat} {l7 l8 l9 l11 : Option MV} (h : TH3 H a6 d j T) (E : Enc3 T ns) (h2 : 2 ≤ ns.length) (hl : ns.length ≤ 6) (hnum : 3 ≤ number) (h5 : number ≤ 5) (hS : Small (number + 1) ns) (hA : Alt ns)
    (h3 : listOf H a3 = some (natL ns)) (h4 : listOf H a4 = some (nmsF 0 ns.length)) (hT : T.length < 100) (h34 : a4 ≠ a3) :
    ∃ (l11' : Option MV) (H' : List MO) (T' : List MV), putLoop sns (lo3 a1 ns.length a3 a4 a6 l7 l8 l9 (some (.int (number : Int))) l11) H = some (.next, lo3 a1 ns.length a3 a4 a6 l7 l8 l9 (some (.int (number : Int))) l11', H') ∧
      TH3 H' a6 d j T' ∧ Enc3 T' (putA number ns ns.length) ∧ T'.length ≤ T.length + 6 ∧ listOf H' a3 = some (natL (putA number ns ns.length)) ∧ (∀ q xs, q ≠ j → q ≠ a3 → listOf H q = some xs → listOf H' q = some xs) := by
  have n4 : a4 ≠ j := tab_ne h E.hdr h4 (x := .str (nmW 0)) (by
    obtain ⟨m, hm⟩ : ∃ m, ns.length = m + 1 := ⟨ns.length - 1, by omega⟩
    rw [hm]; exact List.mem_cons_self ..) str_not
  have n3 : a3 ≠ j := by
    cases hns : ns with
    | nil => rw [hns] at h2; simp at h2
    | cons a r => rw [hns] at h3; exact tab_ne h E.hdr h3 (x := .int (a : Int)) (List.mem_cons_self ..) int_not
  obtain ⟨H1, T1, e1, t1, E1, hT1, k1⟩ := put_eq (sns := sns) h E h2 hl hnum h5 hS hA h4 n4 hT
  have h31 := k1 _ _ n3 h3
  obtain ⟨l11', H2, e2, w2, k2⟩ := own_loop (a1 := a1) (a4 := a4) (a6 := a6) (l7 := l7) (l8 := l8) (l9 := l9) (l11 := l11) h31 h2 hl hnum h5 hS hA
  have i3 : a6 ≠ a3 := by rintro rfl; have := listOf_get h31; rw [t1.ins] at this; cases this
  have d3 : d ≠ a3 := by rintro rfl; have := listOf_get h31; rw [t1.dic] at this; cases this
  refine ⟨l11', H2, T1, ?_, ⟨k2 _ _ i3 t1.ins, k2 _ _ d3 t1.dic, of_get (k2 _ _ (Ne.symm n3) (listOf_get t1.tab))⟩, E1, hT1, w2, fun q xs hq hq3 v => of_get (k2 _ _ hq3 (listOf_get (k1 q xs hq v)))⟩
  unfold putLoop
  rw [sSeq_next (sSet_eq (mCall_eq (vs := [.ref a6, .ref a4, .int (number : Int)]) (h1 := H) rfl e1))]
  show sSeq (sFor _ _ _ _ _) sNil (lo3 a1 ns.length a3 a4 a6 l7 l8 l9 (some (.int (number : Int))) l11) H1 = _
  rw [sSeq_next e2]
  rfl
end Mine
end
section
open PySem PySem.W PyProof.Rows PySem.Spec PySem.Calls
set_option linter.unusedVariables false
set_option maxRecDepth 100000
namespace Mine
noncomputable def rounds (ns : List Nat) : Nat → List Nat
  | 0 => ns
  | m + 1 => roundN (rounds ns m)
theorem rounds_ring {ns : List Nat} (R : Ring ns) : ∀ m, Ring (rounds ns m)
  | 0 => R
  | m + 1 => round_ring (rounds_ring R m)
theorem rounds_len {ns : List Nat} (R : Ring ns) : ∀ m, (rounds ns m).length = ns.length
  | 0 => rfl
  | m + 1 => by show (roundN (rounds ns m)).length = _; rw [roundN_len (rounds_ring R m).pos, rounds_len R m]
noncomputable def fN : Nat → Nat
  | 0 => 10
  | 1 => 5
  | 2 => 4
  | _ => 3
noncomputable def bnd : Nat → Nat
  | 0 => 1024
  | 1 => 20
  | 2 => 10
  | 3 => 8
  | _ => 6
theorem fN_ok : ∀ m, m < 4 → fN m ≤ 10 ∧ bnd m ≤ 2 ^ fN m ∧ 2 * fN m = bnd (m + 1) := by decide
theorem L4_at : ∀ m (h : m < (natL [20, 10, 8, 6]).length), (natL [20, 10, 8, 6])[m] = .int ((2 * fN m : Nat) : Int)
  | 0, _ => rfl
  | 1, _ => rfl
  | 2, _ => rfl
  | 3, _ => rfl
  | m + 4, h => absurd h (by simp [natL])
inductive RInv (a1 a4 P : Nat) (ns : List Nat) (m : Nat) (loc : Loc) (H : List MO) : Prop
  | mk (a3 a6 d j : Nat) (l7 l8 l9 : Option MV) (e : loc = lo3 a1 ns.length a3 a4 a6 l7 l8 l9 none none) (t : TH3 H a6 d j (tabF 0 (rounds ns m))) (q3 : listOf H a3 = some (natL (rounds ns m))) (q4 : listOf H a4 = some (nmsF 0 ns.length)) (qP : listOf H P = some (natL [20, 10, 8, 6])) (qb : ∀ n ∈ rounds ns m, n < bnd m) : RInv a1 a4 P ns m loc H
inductive ROut (a1 a4 : Nat) (ns : List Nat) (r : Option (MFlow × Loc × List MO)) : Prop
  | mk (a3' a6' d' j' : Nat) (l7 l8 l9 : Option MV) (H' : List MO) (e : r = some (.next, lo3 a1 ns.length a3' a4 a6' l7 l8 l9 none none, H')) (t : TH3 H' a6' d' j' (tabF 0 (rounds ns 4))) (q3 : listOf H' a3' = some (natL (rounds ns 4))) (q4 : listOf H' a4 = some (nmsF 0 ns.length)) (qb : ∀ n ∈ rounds ns 4, n < 6) : ROut a1 a4 ns r
theorem rounds_st {sns : List Int} {H : List MO} {a1 a3 a4 a6 d j : Nat} {ns : List Nat} (h : TH3 H a6 d j (tabF 0 ns)) (R : Ring ns) (h2 : 2 ≤ ns.length) (h3 : listOf H a3 = some (natL ns)) (h4 : listOf H a4 = some (nmsF 0 ns.length)) :
    ROut a1 a4 ns (sFor 4000 (.one 7) (iVal (mList (lCons (mInt 20) (lCons (mInt 10) (lCons (mInt 8) (lCons (mInt 6) lNil)))))) (roundLoop sns) sNil (lo3 a1 ns.length a3 a4 a6 none none none none none) H) := by
  have e1 : iVal (mList (lCons (mInt 20) (lCons (mInt 10) (lCons (mInt 8) (lCons (mInt 6) lNil))))) (lo3 a1 ns.length a3 a4 a6 none none none none none) H = some (.list H.length 0, H ++ [.list (natL [20, 10, 8, 6])]) :=
    iVal_list (mList_eq (vs := natL [20, 10, 8, 6]) rfl (by simp [natL, few])) (listOf_end _ _)
  have hP := listOf_end H (natL [20, 10, 8, 6])
  have t0 := h.app [.list (natL [20, 10, 8, 6])]
  have h30 := listOf_app h3 [.list (natL [20, 10, 8, 6])]
  have h40 := listOf_app h4 [.list (natL [20, 10, 8, 6])]
  generalize H.length = P at *
  generalize H ++ [MO.list (natL [20, 10, 8, 6])] = H0 at *
  obtain ⟨l', H', e2, I⟩ := forGo_inv (t := .one 7) (body := roundLoop sns) (feeds_list (j := P) (xs := natL [20, 10, 8, 6])) (fun _ => rfl)
    (RInv a1 a4 P ns) (fun m loc H q => by obtain ⟨_, _, _, _, _, _, _, _, _, _, _, q, _⟩ := q; exact q) (by
      rintro m hm loc H ⟨a3, a6, d, j, l7, l8, l9, rfl, t, q3, q4, qP, qb⟩
      have hm4 : m < 4 := by simpa [natL] using hm
      obtain ⟨f1, f2, f3⟩ := fN_ok m hm4
      have Rm := rounds_ring R m
      have hlm := rounds_len R m
      have hR6 := Rm.few
      obtain ⟨a3', a6', d', j', l8', l9', H2, e, t', w3, kp⟩ := round_loop (sns := sns) (a1 := a1) (a4 := a4) (l8 := l8) (l9 := l9) (l10 := none) (l11 := none) t (enc_tab Rm.lt (by omega)) Rm (by omega) q3 (by rw [hlm]; exact q4) f1 (fun n hn => by have := qb n hn; omega)
      rw [hlm] at e
      refine ⟨lo3 a1 ns.length a3 a4 a6 (some (.int ((2 * fN m : Nat) : Int))) l8 l9 none none, _, H2, by rw [L4_at m hm]; rfl, e, a3', a6', d', j', _, l8', l9', rfl, t', w3, kp _ _ q4, kp _ _ qP, ?_⟩
      have := round_lt Rm f1 (fun n hn => by have := qb n hn; omega)
      rw [f3] at this
      exact this) 4000 0 (lo3 a1 ns.length a3 a4 a6 none none none none none) H0 (Nat.zero_le _) (by decide) ⟨a3, a6, d, j, none, none, none, rfl, t0, h30, h40, hP, R.lt⟩
  obtain ⟨a3', a6', d', j', l7, l8, l9, rfl, t, q3, q4, _, qb⟩ := I
  refine ⟨a3', a6', d', j', l7, l8, l9, H', ?_, t, q3, q4, qb⟩
  rw [sFor_next e1 e2]
  rfl
noncomputable def puts (ns : List Nat) : Nat → List Nat
  | 0 => ns
  | r + 1 => putA (5 - r) (puts ns r) ns.length
theorem puts_len (ns : List Nat) : ∀ r, (puts ns r).length = ns.length
  | 0 => rfl
  | r + 1 => by unfold puts; rw [putA_len, puts_len ns r]
theorem L3_at : ∀ m (h : m < (natL [5, 4, 3]).length), (natL [5, 4, 3])[m] = .int ((5 - m : Nat) : Int)
  | 0, _ => rfl
  | 1, _ => rfl
  | 2, _ => rfl
  | m + 3, h => absurd h (by simp [natL])
inductive PInv (a1 a3 a4 a6 d j P : Nat) (l7 l8 l9 : Option MV) (ns : List Nat) (r : Nat) (loc : Loc) (H : List MO) : Prop
  | mk (l10 l11 : Option MV) (T : List MV) (e : loc = lo3 a1 ns.length a3 a4 a6 l7 l8 l9 l10 l11) (t : TH3 H a6 d j T) (E : Enc3 T (puts ns r)) (hT : T.length ≤ 6 + 6 * r) (q3 : listOf H a3 = some (natL (puts ns r))) (q4 : listOf H a4 = some (nmsF 0 ns.length)) (qS : Small (6 - r) (puts ns r)) (qA : Alt (puts ns r)) (qP : listOf H P = some (natL [5, 4, 3])) : PInv a1 a3 a4 a6 d j P l7 l8 l9 ns r loc H
inductive POut (a1 a3 a4 a6 d j : Nat) (l7 l8 l9 : Option MV) (ns : List Nat) (r : Option (MFlow × Loc × List MO)) : Prop
  | mk (l10 l11 : Option MV) (H' : List MO) (T' : List MV) (e : r = some (.next, lo3 a1 ns.length a3 a4 a6 l7 l8 l9 l10 l11, H')) (t : TH3 H' a6 d j T') (E : Enc3 T' (puts ns 3)) (q3 : listOf H' a3 = some (natL (puts ns 3))) (q4 : listOf H' a4 = some (nmsF 0 ns.length)) (qS : Small 3 (puts ns 3)) (qA : Alt (puts ns 3)) : POut a1 a3 a4 a6 d j l7 l8 l9 ns r
theorem puts_st {sns : List Int} {H : List MO} {a1 a3 a4 a6 d j : Nat} {ns : List Nat} {l7 l8 l9 : Option MV} (h : TH3 H a6 d j (tabF 0 ns)) (h2 : 2 ≤ ns.length) (hl : ns.length ≤ 6) (hS : Small 6 ns) (hA : Alt ns) (h3 : listOf H a3 = some (natL ns)) (h4 : listOf H a4 = some (nmsF 0 ns.length)) (hn : ∀ n ∈ ns, n < 1024) :
    POut a1 a3 a4 a6 d j l7 l8 l9 ns (sFor 4000 (.one 10) (iVal (mList (lCons (mInt 5) (lCons (mInt 4) (lCons (mInt 3) lNil))))) (putLoop sns) sNil (lo3 a1 ns.length a3 a4 a6 l7 l8 l9 none none) H) := by
  have e1 : iVal (mList (lCons (mInt 5) (lCons (mInt 4) (lCons (mInt 3) lNil)))) (lo3 a1 ns.length a3 a4 a6 l7 l8 l9 none none) H = some (.list H.length 0, H ++ [.list (natL [5, 4, 3])]) :=
    iVal_list (mList_eq (vs := natL [5, 4, 3]) rfl (by simp [natL, few])) (listOf_end _ _)
  have hP := listOf_end H (natL [5, 4, 3])
  have t0 := h.app [.list (natL [5, 4, 3])]
  have h30 := listOf_app h3 [.list (natL [5, 4, 3])]
  have h40 := listOf_app h4 [.list (natL [5, 4, 3])]
  have hP3 : H.length ≠ a3 := by have := lt_of_some (listOf_get h3); omega
  have h43 : a4 ≠ a3 := by
    rintro rfl
    rw [h3] at h4
    cases hns : ns with
    | nil => rw [hns] at h2; simp at h2
    | cons a r => rw [hns] at h4; simp [natL, nmsF] at h4
  generalize H.length = P at *
  generalize H ++ [MO.list (natL [5, 4, 3])] = H0 at *
  obtain ⟨l', H', e2, I⟩ := forGo_inv (t := .one 10) (body := putLoop sns) (feeds_list (j := P) (xs := natL [5, 4, 3])) (fun _ => rfl)
    (PInv a1 a3 a4 a6 d j P l7 l8 l9 ns) (fun r loc H q => by obtain ⟨_, _, _, _, _, _, _, _, _, _, _, q⟩ := q; exact q) (by
      rintro r hr loc H ⟨l10, l11, T, rfl, t, E, hT, q3, q4, qS, qA, qP⟩
      have hr3 : r < 3 := by simpa [natL] using hr
      have hpl := puts_len ns r
      have nP : P ≠ j := tab_ne t E.hdr qP (x := .int 5) (List.mem_cons_self ..) int_not
      have n4 : a4 ≠ j := tab_ne t E.hdr q4 (x := .str (nmW 0)) (by
        obtain ⟨m, hm⟩ : ∃ m, ns.length = m + 1 := ⟨ns.length - 1, by omega⟩
        rw [hm]; exact List.mem_cons_self ..) str_not
      obtain ⟨l11', H2, T2, e, t2, E2, hT2, w3, kp⟩ := put_loop (sns := sns) (a1 := a1) (number := 5 - r) (l7 := l7) (l8 := l8) (l9 := l9) (l11 := l11) t E (by omega) (by omega) (by omega) (by omega) (by rw [show 5 - r + 1 = 6 - r by omega]; exact qS) qA q3 (by rw [hpl]; exact q4) (by omega) h43
      obtain ⟨s1, s2⟩ := put_small (number := 5 - r) (ns := puts ns r) (by omega) (by rw [show 5 - r + 1 = 6 - r by omega]; exact qS) (by omega) qA (by omega)
      rw [hpl] at e E2 w3 s1 s2
      refine ⟨lo3 a1 ns.length a3 a4 a6 l7 l8 l9 (some (.int ((5 - r : Nat) : Int))) l11, _, H2, by rw [L3_at r hr]; rfl, e, some (.int ((5 - r : Nat) : Int)), l11', T2, rfl, t2, E2, by omega, w3, kp _ _ n4 h43 q4, ?_, s2, kp _ _ nP hP3 qP⟩
      rw [show 6 - (r + 1) = 5 - r by omega]
      exact s1) 4000 0 (lo3 a1 ns.length a3 a4 a6 l7 l8 l9 none none) H0 (Nat.zero_le _) (by decide) ⟨none, none, _, rfl, t0, enc_tab hn (by omega), by rw [tabF_len]; omega, h30, h40, hS, hA, hP⟩
  obtain ⟨l10, l11, T', rfl, t, E, _, q3, q4, qS, qA, _⟩ := I
  refine ⟨l10, l11, H', T', ?_, t, E, q3, q4, qS, qA⟩
  rw [sFor_next e1 e2]
  rfl
end Mine
end
section
open PySem PySem.W PyProof.Rows PySem.Spec PySem.Calls
set_option linter.unusedVariables false
set_option maxRecDepth 100000
namespace Mine
noncomputable def drawn6 (sns : List Int) : List Int := sns.take 6 ++ [52, 23, 30, 0, 1, 2].drop sns.length
theorem drawn6_len (sns : List Int) : (drawn6 sns).length = 6 := by
  unfold drawn6
  rw [List.length_append, List.length_take, List.length_drop]
  simp only [List.length_cons, List.length_nil]
  omega
noncomputable def loT : Loc := [some .script, none, none, none, none, none, none, none, none, none, none, none]
noncomputable def drawT (sns : List Int) : ME := mBin .Add (mCut sns (mVar 0) pNone (pInt (mInt 6)) pNone) (mCut sns (mList (lCons (mInt 52) (lCons (mInt 23) (lCons (mInt 30) (lCons (mInt 0) (lCons (mInt 1) (lCons (mInt 2) lNil))))))) (pInt (mCall (gLen sns) (lCons (mVar 0) lNil))) pNone pNone)
theorem drawn_st (sns : List Int) : ∃ a b c, drawT sns loT [] = some (.ref 3, [a, b, c, .list (intL (drawn6 sns))]) := by
  have c1 : mCut sns (mVar 0) pNone (pInt (mInt 6)) pNone loT [] = some (.ref 0, [.list (intL (sns.take 6))]) := by
    show some (MV.ref 0, [MO.list (pickL (intL sns) none (some ((6 : Nat) : Int)) none)]) = _
    rw [pickL_take, intL_take]
  have c2 : mCut sns (mList (lCons (mInt 52) (lCons (mInt 23) (lCons (mInt 30) (lCons (mInt 0) (lCons (mInt 1) (lCons (mInt 2) lNil))))))) (pInt (mCall (gLen sns) (lCons (mVar 0) lNil))) pNone pNone loT [.list (intL (sns.take 6))] = some (.ref 2, [.list (intL (sns.take 6)), .list (intL [52, 23, 30, 0, 1, 2]), .list (intL ([52, 23, 30, 0, 1, 2].drop sns.length))]) := by
    show some (MV.ref 2, [MO.list (intL (sns.take 6)), MO.list (intL [52, 23, 30, 0, 1, 2]), MO.list (pickL (intL [52, 23, 30, 0, 1, 2]) (some (sns.length : Int)) none none)]) = _
    rw [pickL_drop, intL_drop]
  refine ⟨.list (intL (sns.take 6)), .list (intL [52, 23, 30, 0, 1, 2]), .list (intL ([52, 23, 30, 0, 1, 2].drop sns.length)), ?_⟩
  refine mBin_eq c1 c2 ?_
  show (if (intL (sns.take 6)).length + (intL ([52, 23, 30, 0, 1, 2].drop sns.length)).length ≤ few then some (MV.ref 3, [MO.list (intL (sns.take 6)), MO.list (intL [52, 23, 30, 0, 1, 2]), MO.list (intL ([52, 23, 30, 0, 1, 2].drop sns.length)), MO.list (intL (sns.take 6) ++ intL ([52, 23, 30, 0, 1, 2].drop sns.length))]) else none) = _
  rw [if_pos (by rw [intL_len, intL_len, ← List.length_append]; show (drawn6 sns).length ≤ few; rw [drawn6_len]; simp [few]), intL_app]
  rfl
theorem intsOf_intL : ∀ l : List Int, intsOf (intL l) = some l
  | [] => rfl
  | a :: l => by
    show (match intsOf (intL l) with | none => none | some r => some (a :: r)) = _
    rw [intsOf_intL l]
theorem sum_int {hp : List MO} {i : Nat} {l : List Int} (h : listOf hp i = some (intL l)) : gSum [.ref i] hp = some (.int l.sum, hp) := by
  show (match listOf hp i with | some xs => (match intsOf xs with | none => none | some l => (match (some (MV.int l.sum)) with | none => none | some v => some (v, hp))) | none => none) = _
  rw [h]
  simp only [intsOf_intL]
noncomputable def manyN (vs : List Int) : Nat := 3 + fmodN vs.sum 4
theorem manyN_ok (vs : List Int) : 3 ≤ manyN vs ∧ manyN vs ≤ 6 := by
  have := (fmodN_ok vs.sum (n := 4) (by decide)).2
  unfold manyN
  omega
noncomputable def manyE : ME := mBin .Add (mInt 3) (mBin .Mod (mCall gSum (lCons (mVar 1) lNil)) (mInt 4))
theorem many_st {H : List MO} {vs : List Int} {i : Nat} {loc : Loc} (e1 : mVar 1 loc H = some (.ref i, H)) (h : listOf H i = some (intL vs)) : manyE loc H = some (.int (manyN vs : Int), H) := by
  have e2 := mCall_eq (lCons_eq e1 lNil_eq) (sum_int h)
  have e3 : mBin .Mod (mCall gSum (lCons (mVar 1) lNil)) (mInt 4) loc H = some (.int (vs.sum.fmod 4), H) := mBin_eq (b := .int 4) (h2 := H) e2 rfl rfl
  have e4 : manyE loc H = some (.int (3 + vs.sum.fmod 4), H) := mBin_eq (a := .int 3) (h1 := H) rfl e3 rfl
  rw [e4]
  have := (fmodN_ok vs.sum (n := 4) (by decide)).1
  rw [show vs.sum.fmod 4 = vs.sum.fmod ((4 : Nat) : Int) from rfl, this]
  unfold manyN
  rw [show (3 : Int) + (fmodN vs.sum 4 : Int) = ((3 + fmodN vs.sum 4 : Nat) : Int) by omega]
noncomputable def numT (vs : List Int) : List Nat := vs.mapIdx fun k v => 170 * k + fmodN v 170
theorem numT_len (vs : List Int) : (numT vs).length = vs.length := by unfold numT; rw [List.length_mapIdx]
theorem numT_at (vs : List Int) {k : Nat} (h : k < vs.length) : 170 * k ≤ atN (numT vs) k ∧ atN (numT vs) k < 170 * (k + 1) := by
  have h' : k < (numT vs).length := by rw [numT_len]; exact h
  have e : (numT vs)[k]'h' = 170 * k + fmodN vs[k] 170 := by simp only [numT, List.getElem_mapIdx]
  rw [← atN_get _ k h', e]
  have := (fmodN_ok vs[k] (n := 170) (by decide)).2
  omega
theorem numT_ring {vs : List Int} (h3 : 3 ≤ vs.length) (h6 : vs.length ≤ 6) : Ring (numT vs) := by
  have hl := numT_len vs
  refine Ring.mk' (by omega) (by omega) (fun n hn => ?_) (fun k hk => ?_)
  · obtain ⟨k, hk, rfl⟩ := List.getElem_of_mem hn
    have := numT_at vs (k := k) (by omega)
    rw [atN_get]
    omega
  · have a1 := numT_at vs (k := k) (by omega)
    rcases Nat.lt_or_ge (k + 1) (numT vs).length with h | h
    · rw [Nat.mod_eq_of_lt h]
      have a2 := numT_at vs (k := k + 1) (by omega)
      omega
    · have : k + 1 = (numT vs).length := by omega
      rw [this, Nat.mod_self]
      have a2 := numT_at vs (k := 0) (by omega)
      omega
noncomputable def eQ (x : MV) : MV := match x with
  | .tup [.int k, .int v] => .int (170 * k + v.fmod 170)
  | _ => .none
theorem eQ_map (vs : List Int) : ((intL vs).mapIdx fun m x => MV.tup [.int (m : Int), x]).map eQ = natL (numT vs) := by
  apply List.ext_getElem
  · simp [natL, numT, intL]
  · intro k h1 h2
    have hk : k < vs.length := by simpa [intL] using h1
    simp only [natL, numT, intL, List.getElem_map, List.getElem_mapIdx]
    have := (fmodN_ok vs[k] (n := 170) (by decide)).1
    show MV.int (170 * (k : Int) + vs[k].fmod ((170 : Nat) : Int)) = _
    rw [this]
    congr 1
noncomputable def numTE (sns : List Int) : ME := mComp 4000 (.two 1 2) (iEnum (lCons (mCut sns (mVar 1) pNone (pInt (mVar 2)) pNone) lNil)) tTrue (mBin .Add (mBin .Mult (mInt 170) (mVar 1)) (mBin .Mod (mVar 2) (mInt 170))) 3 []
theorem numT_st {sns : List Int} {H : List MO} {vs : List Int} {i m : Nat} {loc : Loc} (e1 : mVar 1 loc H = some (.ref i, H)) (e2 : mVar 2 loc H = some (.int (m : Int), H)) (h : listOf H i = some (intL vs)) (hl : vs.length ≤ 6) : numTE sns loc H = some (.ref (H.length + 1), H ++ [.list (intL (vs.take m)), .list (natL (numT (vs.take m)))]) := by
  have c1 : mCut sns (mVar 1) pNone (pInt (mVar 2)) pNone loc H = some (.ref H.length, H ++ [.list (intL (vs.take m))]) := by
    have p : pInt (mVar 2) loc H = some (some (m : Int), H) := by unfold pInt; rw [e2]
    unfold mCut
    rw [e1]
    simp only
    rw [show pNone loc H = some (none, H) from rfl]
    simp only
    rw [p]
    simp only
    show (match listOf H i with | none => none | some xs => if xs.length ≤ few then some (MV.ref H.length, H ++ [MO.list (pickL xs none (some (m : Int)) none)]) else none) = _
    rw [h]
    simp only
    rw [if_pos (by rw [intL_len]; unfold few; omega), pickL_take, intL_take]
  have hL := listOf_end H (intL (vs.take m))
  have c2 : iEnum (lCons (mCut sns (mVar 1) pNone (pInt (mVar 2)) pNone) lNil) loc H = some (.enum H.length 0, H ++ [.list (intL (vs.take m))]) := by
    unfold iEnum
    rw [lCons_eq c1 lNil_eq]
    simp only
    have : enumOf (H ++ [MO.list (intL (vs.take m))]) [.ref H.length] = some (.enum H.length 0) := by
      show (match listOf (H ++ [MO.list (intL (vs.take m))]) H.length with | some _ => some (It.enum H.length 0) | none => none) = _
      rw [hL]
    rw [this]
  have ht : (vs.take m).length ≤ 6 := by rw [List.length_take]; omega
  have hlen : (H ++ [MO.list (intL (vs.take m))]).length = H.length + 1 := by simp
  have e := comp_gen (n := 4000) (t := .two 1 2) (mc := tTrue) (me := mBin .Add (mBin .Mult (mInt 170) (mVar 1)) (mBin .Mod (mVar 2) (mInt 170))) (k := 3) (ci := []) (p := fun _ => true) (e := eQ) (lo := fun x => match x with | .tup [a, b] => [none, some a, some b] | _ => [])
    (feeds_enum (j := H.length) (xs := intL (vs.take m))) c2 (fun acc => listOf_app hL _) (fun _ => rfl) (by rw [List.length_mapIdx, intL_len]; omega) (by rw [List.length_mapIdx, intL_len]; unfold few; omega)
    (fun x hx => by
      obtain ⟨q, hq, rfl⟩ := List.getElem_of_mem hx
      rw [List.getElem_mapIdx]; rfl) (fun x y l1 h => setT_two (by decide) h) (fun _ _ _ => rfl) (fun x hx _ acc => by
      obtain ⟨q, hq, rfl⟩ := List.getElem_of_mem hx
      have hq' : q < (vs.take m).length := by rw [List.length_mapIdx, intL_len] at hq; exact hq
      have ex : ((intL (vs.take m)).mapIdx fun m x => MV.tup [.int (m : Int), x])[q]'hq = .tup [.int (q : Int), .int (vs.take m)[q]] := by
        simp only [List.getElem_mapIdx, intL, List.getElem_map]
      rw [ex]
      generalize H ++ [MO.list (intL (vs.take m))] ++ [.list acc] = H1
      generalize (vs.take m)[q] = v
      show mBin .Add (mBin .Mult (mInt 170) (mVar 1)) (mBin .Mod (mVar 2) (mInt 170)) [none, some (.int (q : Int)), some (.int v)] H1 = some (.int (170 * (q : Int) + v.fmod 170), H1)
      have q1 : mBin .Mult (mInt 170) (mVar 1) [none, some (.int (q : Int)), some (.int v)] H1 = some (.int (170 * (q : Int)), H1) := by
        refine mBin_eq (a := .int 170) (b := .int (q : Int)) (h1 := H1) (h2 := H1) rfl rfl ?_
        show (if (170 : Int).natAbs < 2 ^ 62 then some (MV.int (170 * (q : Int)), H1) else none) = _
        rw [if_pos (by decide)]
      have q2 : mBin .Mod (mVar 2) (mInt 170) [none, some (.int (q : Int)), some (.int v)] H1 = some (.int (v.fmod 170), H1) := mBin_eq (a := .int v) (b := .int 170) (h1 := H1) (h2 := H1) rfl rfl rfl
      exact mBin_eq q1 q2 rfl)
  rw [List.filter_eq_self.mpr (fun _ _ => rfl), eQ_map, hlen] at e
  unfold numTE
  rw [e]
  simp
noncomputable def namesE (sns : List Int) : ME := mComp 4000 (.one 1) (iRange (lCons (mVar 2) lNil)) tTrue (mCall (wordF sns) (lCons (mBin .Mult (mInt 17) (mBin .Add (mVar 1) (mInt 1))) lNil)) 2 []
theorem wN_name : ∀ k, k < 14 → wN (17 * (k + 1)) = nmW k := by decide +kernel
theorem nms_map (m : Nat) : ((List.range m).map fun k => MV.str (nmW k)) = nmsF 0 m := by
  apply List.ext_getElem
  · rw [List.length_map, List.length_range, nmsF_len]
  · intro k h1 h2
    rw [nmsF_at, Nat.zero_add, List.getElem_map, List.getElem_range]
theorem names_st {sns : List Int} {H : List MO} {m : Nat} {loc : Loc} (e2 : mVar 2 loc H = some (.int (m : Int), H)) (hm : m ≤ 6) : namesE sns loc H = some (.ref H.length, H ++ [.list (nmsF 0 m)]) := by
  rw [← nms_map]
  refine comp_rng0 (iRange_nat e2 (by omega)) (by omega) (by unfold few; omega) fun k hk acc => ?_
  generalize H ++ [.list acc] = H1 at *
  have q1 : mBin .Mult (mInt 17) (mBin .Add (mVar 1) (mInt 1)) ((compLoc 2 [] loc).set 1 (some (.int (k : Int)))) H1 = some (.int ((17 * (k + 1) : Nat) : Int), H1) := by
    refine mBin_eq (a := .int 17) (b := .int ((k : Int) + 1)) (h1 := H1) (h2 := H1) rfl rfl ?_
    show (if (17 : Int).natAbs < 2 ^ 62 then some (MV.int (17 * ((k : Int) + 1)), H1) else none) = _
    rw [if_pos (by decide), show (17 : Int) * ((k : Int) + 1) = ((17 * (k + 1) : Nat) : Int) by push_cast; rfl]
  refine mCall_eq (lCons_eq q1 lNil_eq) ?_
  rw [word_eq sns (by omega), wN_name k (by omega)]
theorem max_last {H : List MO} {t : Nat} {ns : List Nat} {loc : Loc} (ht : listOf H t = some (natL ns)) (h0 : ns ≠ []) (hb : ∀ n ∈ ns, n < 3) (e8 : mVar 8 loc H = some (.ref t, H)) : tCmp .Gt (mCall gMax (lCons (mVar 8) lNil)) (mInt 2) loc H = some (false, H) := by
  have q := mCall_eq (lCons_eq e8 lNil_eq) (max_nat ht h0)
  have := maxI_lt ns h0 hb
  have r : cmpMV .Gt (.int (maxI (ns.map Int.ofNat))) (.int 2) H = some false := by
    show some (decide ((2 : Int) < maxI (ns.map Int.ofNat))) = _
    rw [decide_eq_false (by omega)]
  exact tCmp_eq (op := .Gt) (b := .int 2) (h2 := H) q rfl r
end Mine
end
section
open PySem PySem.W PyProof.Rows PySem.Spec PySem.Calls
set_option linter.unusedVariables false
set_option maxRecDepth 100000
namespace Mine
theorem natL_ints {l : List Nat} : ∀ x ∈ natL l, ∃ n : Nat, x = MV.int (n : Int) := by
  intro x hx
  obtain ⟨n, _, rfl⟩ := List.mem_map.mp hx
  exact ⟨n, rfl⟩
set_option maxHeartbeats 4000000 in
theorem law_all (sns : List Int) : ∃ hp', f_law3 sns [.script] [] = some (.bool true, hp') := by
  obtain ⟨o0, o1, o2, e1⟩ := drawn_st sns
  have hd6 := drawn6_len sns
  generalize drawn6 sns = vs at *
  have hV : listOf [o0, o1, o2, .list (intL vs)] 3 = some (intL vs) := rfl
  generalize hH1 : [o0, o1, o2, MO.list (intL vs)] = H1 at *
  obtain ⟨m3, m6⟩ := manyN_ok vs
  have e2 := many_st (loc := [some .script, some (.ref 3), none, none, none, none, none, none, none, none, none, none]) (H := H1) (i := 3) rfl hV
  generalize manyN vs = m at *
  have e3 := numT_st (sns := sns) (m := m) (loc := [some .script, some (.ref 3), some (.int (m : Int)), none, none, none, none, none, none, none, none, none]) (H := H1) (i := 3) rfl rfl hV (by omega)
  have htl : (vs.take m).length = m := by rw [List.length_take]; omega
  have R : Ring (numT (vs.take m)) := numT_ring (by omega) (by omega)
  have hnl : (numT (vs.take m)).length = m := by rw [numT_len, htl]
  generalize numT (vs.take m) = ns at *
  subst hnl
  have h3 : listOf (H1 ++ [.list (intL (vs.take ns.length)), .list (natL ns)]) (H1.length + 1) = some (natL ns) := by
    have := listOf_end (H1 ++ [.list (intL (vs.take ns.length))]) (natL ns)
    rw [List.length_append, List.append_assoc] at this
    exact this
  generalize H1.length + 1 = a3 at *
  generalize H1 ++ [MO.list (intL (vs.take ns.length)), .list (natL ns)] = H2 at *
  have e4 := names_st (sns := sns) (m := ns.length) (loc := [some .script, some (.ref 3), some (.int (ns.length : Int)), some (.ref a3), none, none, none, none, none, none, none, none]) (H := H2) rfl m6
  have h4 := listOf_end H2 (nmsF 0 ns.length)
  have h31 := listOf_app h3 [.list (nmsF 0 ns.length)]
  generalize H2.length = a4 at *
  generalize H2 ++ [MO.list (nmsF 0 ns.length)] = H3 at *
  obtain ⟨g, e6, t⟩ := table_eq (sns := sns) h4 h31 R.lt (by omega)
  have h32 := listOf_app h31 g
  have h41 := listOf_app h4 g
  generalize H3.length + 3 = a6 at *
  generalize H3 ++ g = H4 at *
  obtain ⟨b3, b6, d, j, l7, l8, l9, H5, e7, t7, r3, r4, rb⟩ := rounds_st (sns := sns) (a1 := 3) t R (by omega) h32 h41
  have R4 := rounds_ring R 4
  have hl4 := rounds_len R 4
  generalize rounds ns 4 = ms at *
  rw [← hl4] at e2 e3 e4 e7 r4 m3 m6
  obtain ⟨l10, l11, H6, T, e8, t8, E8, p3, p4, pS, pA⟩ := puts_st (sns := sns) (a1 := 3) (l7 := l7) (l8 := l8) (l9 := l9) t7 (by omega) (by omega) (fun k hk => rb _ (atN_mem hk)) R4.alt r3 r4 R4.lt
  have hlp := puts_len ms 3
  generalize puts ms 3 = qs at *
  have hq3 : ∀ n ∈ qs, n < 3 := by
    intro n hn
    obtain ⟨k, hk, rfl⟩ := List.getElem_of_mem hn
    have := pS k hk
    rw [atN_get]; exact this
  have p41 : listOf H6 a4 = some (nmsF 0 qs.length) := by rw [hlp]; exact p4
  have e9 : numsE sns (lo3 3 ms.length b3 a4 b6 l7 l8 l9 l10 l11) H6 = some (.ref H6.length, H6 ++ [.list (natL qs)]) := nums_comp (sns := sns) (ti := 6) (ni := 4) (loc := lo3 3 ms.length b3 a4 b6 l7 l8 l9 l10 l11) t8 E8 (by omega) (fun n hn => by have := hq3 n hn; omega) p41 rfl rfl
  have w8 := listOf_end H6 (natL qs)
  have w3 := listOf_app p3 [.list (natL qs)]
  generalize H6.length = a8 at *
  generalize H6 ++ [MO.list (natL qs)] = H7 at *
  have hne : qs ≠ [] := by intro q; rw [q] at hlp; simp at hlp; omega
  have m1 := max_last (loc := lo3 3 ms.length b3 a4 b6 l7 (some (.ref a8)) l9 l10 l11) w8 hne hq3 rfl
  obtain ⟨g3, m2⟩ := dup_test (a1 := 3) (a3 := b3) (a4 := a4) (a6 := b6) (l7 := l7) (l9 := l9) (l10 := l10) (l11 := l11) w8 (by omega) (by omega) pA
  rw [hlp] at m2
  have e10 := tOr_eq m1 m2
  have w81 := listOf_app w8 g3
  have w31 := listOf_app w3 g3
  generalize H7 ++ g3 = H8 at *
  have e11 : mCmp .Eq (mVar 8) (mVar 3) (lo3 3 ms.length b3 a4 b6 l7 (some (.ref a8)) l9 l10 l11) H8 = some (.bool true, H8) := by
    refine mCmp_eq (op := .Eq) (a := .ref a8) (b := .ref b3) (h1 := H8) (h2 := H8) rfl rfl ?_
    show eqV (.ref a8) (.ref b3) H8 = _
    rw [eq_lists w81 w31, if_pos rfl, eqAll_self (P := fun x => ∃ n : Nat, x = .int (n : Int)) (fun x hx => eqT_int hx) _ natL_ints]
  refine ⟨H8, ?_⟩
  unfold drawT at e1
  unfold manyE at e2
  unfold numTE at e3
  unfold namesE at e4
  unfold roundLoop numsE dupE halfE spellE pairE at e7
  unfold putLoop ownBody leastE at e8
  unfold numsE at e9
  unfold dupE at e10
  show outOf (sSeq (sSet 1 _) _ loT []) = _
  rw [sSeq_next (sSet_eq e1)]
  rw [show loT.set 1 (some (.ref 3)) = [some .script, some (.ref 3), none, none, none, none, none, none, none, none, none, none] from rfl]
  rw [sSeq_next (sSet_eq e2)]
  rw [show ([some .script, some (.ref 3), none, none, none, none, none, none, none, none, none, none] : Loc).set 2 (some (.int (ms.length : Int))) = [some .script, some (.ref 3), some (.int (ms.length : Int)), none, none, none, none, none, none, none, none, none] from rfl]
  rw [sSeq_next (sSet_eq e3)]
  rw [show ([some .script, some (.ref 3), some (.int (ms.length : Int)), none, none, none, none, none, none, none, none, none] : Loc).set 3 (some (.ref a3)) = [some .script, some (.ref 3), some (.int (ms.length : Int)), some (.ref a3), none, none, none, none, none, none, none, none] from rfl]
  rw [sSeq_next (sSet_eq e4)]
  rw [show ([some .script, some (.ref 3), some (.int (ms.length : Int)), some (.ref a3), none, none, none, none, none, none, none, none] : Loc).set 4 (some (.ref a4)) = [some .script, some (.ref 3), some (.int (ms.length : Int)), some (.ref a3), some (.ref a4), none, none, none, none, none, none, none] from rfl]
  rw [sSeq_next (sSet_eq (v := .str LT) (h1 := H3) rfl)]
  rw [show ([some .script, some (.ref 3), some (.int (ms.length : Int)), some (.ref a3), some (.ref a4), none, none, none, none, none, none, none] : Loc).set 5 (some (.str LT)) = [some .script, some (.ref 3), some (.int (ms.length : Int)), some (.ref a3), some (.ref a4), some (.str LT), none, none, none, none, none, none] from rfl]
  rw [sSeq_next (sSet_eq (mCall_eq (vs := [.ref a4, .ref a3]) (h1 := H3) rfl e6))]
  rw [show ([some .script, some (.ref 3), some (.int (ms.length : Int)), some (.ref a3), some (.ref a4), some (.str LT), none, none, none, none, none, none] : Loc).set 6 (some (.ref a6)) = lo3 3 ms.length a3 a4 a6 none none none none none from rfl]
  rw [sSeq_next e7]
  rw [sSeq_next e8]
  rw [sSeq_next (sSet_eq e9)]
  rw [show (lo3 3 ms.length b3 a4 b6 l7 l8 l9 l10 l11).set 8 (some (.ref a8)) = lo3 3 ms.length b3 a4 b6 l7 (some (.ref a8)) l9 l10 l11 from rfl]
  rw [sSeq_next (by rw [sIf_false e10]; rfl)]
  rw [sSeq_ret (sRet_eq e11)]
  rfl
end Mine
end
section
open PySem PySem.W PyProof.Rows PySem.Spec PySem.Calls
set_option maxRecDepth 100000
namespace Mine
theorem ok_start {p p' : Program} {w : World} {K : Frag} {loose : List Str} {mean : ExcName → Option Value} {mg mb : Str → Option Value} {s₁ : Shared} {l : Addr} {vs : List Value} {ws : List Int}
    (T : Top p' loose mean mg mb s₁.heap) (KX : K.In s₁.heap) (hL : s₁.heap.IsList l vs.toArray) (hI : IntsAre vs ws) (hc : ¬ ((63 : Int) < (ws.length : Int))) :
    Base.Ok { prog := p, w := w, K := K, s₀ := s₁, l₀ := l, svs := vs, sns := ws, mg := mg, mb := mb } :=
  { islist := hL, areInts := hI, few := (by show ws.length ≤ 63; omega), nolimit := T.nolimit, g := T.g, b := T.b, builtins := T.builtins, k := KX }
theorem good_start {B : Base} : Good B [] [] B.s₀ :=
  { same := ⟨_, _, rfl⟩, keep := fun _ _ e => e, fresh := (fun _ h => nomatch h), nd := .nil, len := rfl, ok := fun i mo a h => by simp at h }
set_option maxHeartbeats 8000000 in
theorem join03 : PySem.Challenge.rw_wb0063_03.Holds := Mine.hd (by
  k_fill
  intro w s₀ s₁ mg mb G Y fa o pm cd doc dV kV ho hd hcd hD hmg hg args vals as hpre hlay hrd hwl hlo
  have KX := kIn_of Y
  have X := (Ground.X G).1
  have V := (Ground.X G).2
  refine Ground.open G ?_
  intro T B D TE TW
  try (refine guard_noD D (by decide +kernel) ?_; clear D)
  have hmg0 := hmg
  clear hmg
  wrow_args hpre hlay hrd hwl hlo
  all_goals clear hd hcd ho hD
  rename_i ws hs _ _ _ _ _ _ l vs _ hL _ _ _ hI _ hc _
  have O := ok_start (p := PySem.Challenge.rw_wb0063_03.row.prog) (w := w) T KX hL hI hc
  have e := O.glob (x := Str.ofString "law") (v := .ref 236) (by kernel_rfl)
  have e2 : fa = 236 := by
    have := hmg0.symm.trans e
    cases this; rfl
  subst e2
  obtain ⟨hp', hP⟩ := law_all ws
  show wpAny (model PySem.Challenge.rw_wb0063_03.row.prog w) callerA (call (.ref 236) [.ref l]) _ _ _
  refine (ok_law3 O rfl).call [.script] [] (.bool true) hp' [] s₁ [.ref l] hP good_start (.cons .script .nil) callerA _ _ ⟨rfl, by decide, by decide⟩ fun u ρ' s' x G' r' => ?_
  cases r'
  exact GoodW.toG ⟨.inl ⟨_, .bool true, [], rfl, (by intro c; rfl), .bool true, (postW_of rfl rfl (by decide +kernel)), unshared_nil⟩, G'.keep, (by obtain ⟨h, tk, e⟩ := G'.same; rw [e]), (by obtain ⟨h, tk, e⟩ := G'.same; rw [e]; exact hg)⟩)
end Mine
end
open PySem PySem.W PyProof.Rows
theorem PySem.Challenge.cw_wb0063_03_holds : PySem.Challenge.rw_wb0063_03.Holds :=
  Mine.join03
