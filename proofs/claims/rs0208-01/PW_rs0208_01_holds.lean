import PyProof.Rows.All
import Wide.All
import OpenK.AllK
import Wide.FinOn
import PySem.Challenge.RW_rs0208_01
set_option Elab.async false
set_option maxRecDepth 100000
namespace Mine
open PySem PySem.Calls PyProof.Rows PySem.W

/-- a value, its identity token left out -/
inductive AV where
  | none | bool (b : Bool) | int (i : Int) | str (x : Str) | ref (a : Addr) | blt (id : String) | typ (n : String)
noncomputable abbrev AV.v (a : AV) (t : Tok) : Value := match a with
  | .none => .none | .bool b => .bool b | .int i => .int i t | .str x => .str x t | .ref a => .ref a | .blt id => .builtin id | .typ n => .type n

noncomputable abbrev OP := Obj → Prop
noncomputable abbrev Ledger := List (Addr × OP)
noncomputable abbrev Lo := List (Str × Option AV)

/-- what holds between the steps: the base heap is kept, the ledger's objects stand -/
structure H (hB : Heap) (oB : OsState) (G : Array GenState) (ob : Ledger) (s : Shared) : Prop where
  keep : ∀ b o, hB.get? b = some o → s.heap.get? b = some o
  os : s.os = oB
  gens : s.gens = G
  at' : ∀ p ∈ ob, ∃ o, s.heap.get? p.1 = some o ∧ p.2 o
  nodup : (ob.map (·.1)).Nodup
  new : ∀ p ∈ ob, hB.get? p.1 = none

inductive Pick (a : Addr) (P : OP) : Ledger → Ledger → Prop
  | here {r} : Pick a P ((a, P) :: r) r
  | there {x r r'} : Pick a P r r' → Pick a P (x :: r) (x :: r')

theorem Pick.perm {a P} : ∀ {ob rest : Ledger}, Pick a P ob rest → ob.Perm ((a, P) :: rest)
  | _, _, .here => List.Perm.refl _
  | _, _, .there h => (List.Perm.cons _ h.perm).trans (List.Perm.swap _ _ _)

section
variable {hB : Heap} {oB : OsState} {G : Array GenState} {ob ob' rest : Ledger} {s : Shared} {h' : Heap} {tk : Nat} {a : Addr} {P P' : OP} {o : Obj}

theorem H.perm (h : H hB oB G ob s) (p : ob.Perm ob') : H hB oB G ob' s :=
  ⟨h.keep, h.os, h.gens, fun q hq => h.at' q (p.mem_iff.mpr hq), (p.map _).nodup_iff.mp h.nodup, fun q hq => h.new q (p.mem_iff.mpr hq)⟩
theorem H.pick (h : H hB oB G ob s) (p : Pick a P ob rest) : H hB oB G ((a, P) :: rest) s := h.perm p.perm
theorem H.get (h : H hB oB G ob s) (p : Pick a P ob rest) : ∃ o, s.heap.get? a = some o ∧ P o := (h.pick p).at' _ (.head _)
theorem H.drop {x} (h : H hB oB G (x :: ob) s) : H hB oB G ob s :=
  ⟨h.keep, h.os, h.gens, fun q hq => h.at' q (.tail _ hq), (List.nodup_cons.mp h.nodup).2, fun q hq => h.new q (.tail _ hq)⟩
theorem H.weak (h : H hB oB G ((a, P) :: ob) s) (w : ∀ o, P o → P' o) : H hB oB G ((a, P') :: ob) s :=
  ⟨h.keep, h.os, h.gens, fun q hq => by
    rcases List.mem_cons.mp hq with rfl | hq
    · obtain ⟨o, ho, hp⟩ := h.at' (a, P) (.head _); exact ⟨o, ho, w _ hp⟩
    · exact h.at' q (.tail _ hq), h.nodup, fun q hq => by
    rcases List.mem_cons.mp hq with rfl | hq
    · exact h.new (a, P) (.head _)
    · exact h.new q (.tail _ hq)⟩
theorem H.swap {x y} (h : H hB oB G (x :: y :: ob) s) : H hB oB G (y :: x :: ob) s := h.perm (List.Perm.swap _ _ _)
theorem H.cons_of (x) (h : H hB oB G (x :: ob) s) (f : H hB oB G ob s → H hB oB G ob' s)
    (hs : ∀ p ∈ ob', ∃ q ∈ ob, q.1 = p.1) : H hB oB G (x :: ob') s := by
  have h2 := f h.drop
  refine ⟨h.keep, h.os, h.gens, fun q hq => ?_, ?_, fun q hq => ?_⟩
  · rcases List.mem_cons.mp hq with rfl | hq
    · exact h.at' _ (.head _)
    · exact h2.at' q hq
  · refine List.nodup_cons.mpr ⟨fun hm => ?_, h2.nodup⟩
    obtain ⟨p, hp, e⟩ := List.mem_map.mp hm
    obtain ⟨q, hq, e2⟩ := hs p hp
    exact (List.nodup_cons.mp h.nodup).1 (List.mem_map.mpr ⟨q, hq, e2.trans e⟩)
  · rcases List.mem_cons.mp hq with rfl | hq
    · exact h.new _ (.head _)
    · exact h2.new q hq

/-- a ledger that says no more -/
inductive SubL : Ledger → Ledger → Prop
  | refl {l : Ledger} : SubL l l
  | nil {l : Ledger} : SubL [] l
  | skip {x : Addr × OP} {r l : Ledger} : SubL r l → SubL r (x :: l)
  | cons {b : Addr} {X X' : OP} {r l l' : Ledger} : Pick b X l l' → (∀ o, X o → X' o) → SubL r l' → SubL ((b, X') :: r) l
theorem SubL.mem : ∀ {ob' ob : Ledger}, SubL ob' ob → ∀ p ∈ ob', ∃ q ∈ ob, q.1 = p.1
  | _, _, .refl, p, hp => ⟨p, hp, rfl⟩
  | _, _, .nil, _, hp => by cases hp
  | _, _, .skip sb, p, hp => by obtain ⟨q, hq, e⟩ := sb.mem p hp; exact ⟨q, .tail _ hq, e⟩
  | _, _, .cons pk _ sb, p, hp => by
    rcases List.mem_cons.mp hp with rfl | hp
    · exact ⟨_, pk.perm.mem_iff.mpr (.head _), rfl⟩
    · obtain ⟨q, hq, e⟩ := sb.mem p hp
      exact ⟨q, pk.perm.mem_iff.mpr (.tail _ hq), e⟩
theorem H.sub : ∀ {ob' ob : Ledger}, SubL ob' ob → ∀ {s}, H hB oB G ob s → H hB oB G ob' s
  | _, _, .refl, _, h => h
  | _, _, .nil, _, h => ⟨h.keep, h.os, h.gens, (fun _ q => nomatch q), List.nodup_nil, (fun _ q => nomatch q)⟩
  | _, _, .skip sb, _, h => h.drop.sub sb
  | _, _, .cons pk w sb, _, h => ((h.pick pk).weak w).cons_of _ (fun h2 => H.sub sb h2) sb.mem

theorem H.fresh (h : H hB oB G ob s) (ha : s.heap.get? a = none) : hB.get? a = none ∧ ∀ p ∈ ob, p.1 ≠ a := by
  refine ⟨?_, fun p hp e => ?_⟩
  · cases q : hB.get? a with
    | none => rfl
    | some o => rw [h.keep _ _ q] at ha; cases ha
  · obtain ⟨o, ho, _⟩ := h.at' p hp
    rw [e, ha] at ho; cases ho
theorem fresh_at (h : Heap) : h.get? h.objs.size = none := by
  cases q : h.get? h.objs.size with
  | none => rfl
  | some o => exact absurd (Heap.lt_size q) (Nat.lt_irrefl _)
theorem fresh_ge (h : Heap) {a} (ha : h.objs.size ≤ a) : h.get? a = none := by
  cases q : h.get? a with
  | none => rfl
  | some o => exact absurd (Heap.lt_size q) (Nat.not_lt.mpr ha)

theorem H.of {s'} (h : H hB oB G ob s) (k : ∀ b o, s.heap.get? b = some o → s'.heap.get? b = some o) (hg : s'.gens = s.gens := by rfl) (ho : s'.os = s.os := by rfl) : H hB oB G ob s' :=
  ⟨fun b o e => k b o (h.keep b o e), ho.trans h.os, hg.trans h.gens, fun p hp => by obtain ⟨o, e, q⟩ := h.at' p hp; exact ⟨o, k _ _ e, q⟩, h.nodup, h.new⟩
theorem H.tok (h : H hB oB G ob s) (t : Nat) : H hB oB G ob { s with toks := t } := h.of fun _ _ e => e
theorem H.add {s'} (h : H hB oB G ob s) (k : ∀ b o, s.heap.get? b = some o → s'.heap.get? b = some o) (ha : s.heap.get? a = none) (ho : s'.heap.get? a = some o) (hp : P o)
    (hg : s'.gens = s.gens := by rfl) (hos : s'.os = s.os := by rfl) : H hB oB G ((a, P) :: ob) s' := by
  have h2 := h.of k hg hos
  obtain ⟨f1, f2⟩ := h.fresh ha
  refine ⟨h2.keep, h2.os, h2.gens, fun p q => ?_, List.nodup_cons.mpr ⟨fun hm => ?_, h2.nodup⟩, fun p q => ?_⟩
  · rcases List.mem_cons.mp q with rfl | q
    · exact ⟨o, ho, hp⟩
    · exact h2.at' p q
  · obtain ⟨p, hp, e⟩ := List.mem_map.mp hm
    exact f2 p hp e
  · rcases List.mem_cons.mp q with rfl | q
    · exact f1
    · exact h.new p q
theorem H.push (h : H hB oB G ob s) (hf : o.isFreed = false) (hp : P o) {s'} (hh : s'.heap = s.heap.push o) (hg : s'.gens = s.gens := by rfl) (hos : s'.os = s.os := by rfl) :
    H hB oB G ((s.heap.objs.size, P) :: ob) s' :=
  h.add (a := s.heap.objs.size) (o := o) (fun b o' e => by rw [hh]; exact Heap.get?_push_of_some _ e) (fresh_at _) (by rw [hh]; exact Heap.get?_push_size _ hf) hp hg hos
theorem H.pushed (h : H hB oB G ob s) (o : Obj) {s'} (hh : s'.heap = s.heap.push o) (hg : s'.gens = s.gens := by rfl) (hos : s'.os = s.os := by rfl) : H hB oB G ob s' :=
  h.of (fun b o' e => by rw [hh]; exact Heap.get?_push_of_some _ e) hg hos
theorem H.upd {s'} (h : H hB oB G ob s) (p : Pick a P ob rest) (k : ∀ b o, b ≠ a → s.heap.get? b = some o → s'.heap.get? b = some o) (ho : s'.heap.get? a = some o) (hp : P' o)
    (hg : s'.gens = s.gens := by rfl) (hos : s'.os = s.os := by rfl) : H hB oB G ((a, P') :: rest) s' := by
  have h1 := h.pick p
  have hne : ∀ q ∈ rest, q.1 ≠ a := fun q hq e => (List.nodup_cons.mp h1.nodup).1 (List.mem_map.mpr ⟨q, hq, e⟩)
  have hB0 : hB.get? a = none := h1.new (a, P) (.head _)
  refine ⟨fun b o e => ?_, hos.trans h.os, hg.trans h.gens, fun q hq => ?_, h1.nodup, fun q hq => ?_⟩
  · refine k b o (fun e2 => ?_) (h.keep b o e)
    rw [e2, hB0] at e; cases e
  · rcases List.mem_cons.mp hq with rfl | hq
    · exact ⟨o, ho, hp⟩
    · obtain ⟨o2, e, x⟩ := h1.at' q (.tail _ hq)
      exact ⟨o2, k _ _ (hne q hq) e, x⟩
  · rcases List.mem_cons.mp hq with rfl | hq
    · exact hB0
    · exact h1.new q (.tail _ hq)
theorem H.updS {s'} (h : H hB oB G ob s) (p : Pick a P ob rest) (k : Heap.SameBut a s.heap s'.heap) (ho : s'.heap.get? a = some o) (hp : P' o)
    (hg : s'.gens = s.gens := by rfl) (hos : s'.os = s.os := by rfl) : H hB oB G ((a, P') :: rest) s' := h.upd p (fun b o hb e => (k.2 b hb).trans e) ho hp hg hos
/-- an entry's object may have become anything -/
theorem H.lose {s'} (h : H hB oB G ob s) (p : Pick a P ob rest) (k : ∀ b o, b ≠ a → s.heap.get? b = some o → s'.heap.get? b = some o)
    (hg : s'.gens = s.gens := by rfl) (hos : s'.os = s.os := by rfl) : H hB oB G rest s' := by
  have h1 := h.pick p
  have hne : ∀ q ∈ rest, q.1 ≠ a := fun q hq e => (List.nodup_cons.mp h1.nodup).1 (List.mem_map.mpr ⟨q, hq, e⟩)
  have hB0 : hB.get? a = none := h1.new (a, P) (.head _)
  refine ⟨fun b o e => ?_, hos.trans h.os, hg.trans h.gens, fun q hq => ?_, (List.nodup_cons.mp h1.nodup).2, fun q hq => h1.new q (.tail _ hq)⟩
  · refine k b o (fun e2 => ?_) (h.keep b o e)
    rw [e2, hB0] at e; cases e
  · obtain ⟨o2, e, x⟩ := h1.at' q (.tail _ hq)
    exact ⟨o2, k _ _ (hne q hq) e, x⟩
end

/-- a frame's names -/
noncomputable def nsp (locs : List Str) (lo : Lo) : OP := fun o => lo.map (·.1) = locs ∧ locs.Nodup ∧ ∃ es ep, o.data = .dict es ep ∧ StrKeys es ∧ ∀ x v, (x, some v) ∈ lo → ∃ t, nsFind es x = some (v.v t)
inductive Put (x : Str) (v : AV) : Lo → Lo → Prop
  | here {o r} : Put x v ((x, o) :: r) ((x, some v) :: r)
  | there {p r r'} : Put x v r r' → Put x v (p :: r) (p :: r')
theorem Put.keys {x v} : ∀ {lo lo' : Lo}, Put x v lo lo' → lo'.map (·.1) = lo.map (·.1)
  | _, _, .here => rfl
  | _, _, .there h => by rw [List.map_cons, List.map_cons, h.keys]
theorem Put.key {x v} : ∀ {lo lo' : Lo}, Put x v lo lo' → x ∈ lo.map (·.1)
  | _, _, .here => .head _
  | _, _, .there h => .tail _ h.key
theorem Put.mem {x : Str} {v : AV} {lo lo' : Lo} (p : Put x v lo lo') (hn : (lo.map (·.1)).Nodup) : ∀ y u, (y, some u) ∈ lo' → (y = x ∧ u = v) ∨ (y ≠ x ∧ (y, some u) ∈ lo) := by
  induction p with
  | here =>
    intro y u hm
    rcases List.mem_cons.mp hm with e | hm'
    · cases e; exact .inl ⟨rfl, rfl⟩
    · refine .inr ⟨fun e => ?_, List.mem_cons_of_mem _ hm'⟩
      subst e
      exact (List.nodup_cons.mp hn).1 (List.mem_map.mpr ⟨_, hm', rfl⟩)
  | there h ih =>
    rename_i q r r'
    intro y u hm
    rcases List.mem_cons.mp hm with e | hm
    · refine .inr ⟨fun e2 => ?_, e ▸ .head _⟩
      subst e2
      have := h.key
      exact (List.nodup_cons.mp hn).1 (by rw [← e]; exact this)
    · rcases ih (List.nodup_cons.mp hn).2 y u hm with q | ⟨q, r⟩
      · exact .inl q
      · exact .inr ⟨q, .tail _ r⟩
/-- some names forgotten -/
inductive Forg : Lo → Lo → Prop
  | nil : Forg [] []
  | same {p r r'} : Forg r r' → Forg (p :: r) (p :: r')
  | forget {x o r r'} : Forg r r' → Forg ((x, o) :: r) ((x, none) :: r')
theorem Forg.keys : ∀ {lo lo' : Lo}, Forg lo lo' → lo'.map (·.1) = lo.map (·.1)
  | _, _, .nil => rfl
  | _, _, .same h => by rw [List.map_cons, List.map_cons, h.keys]
  | _, _, .forget h => by rw [List.map_cons, List.map_cons, h.keys]
theorem Forg.mem : ∀ {lo lo' : Lo}, Forg lo lo' → ∀ y u, (y, some u) ∈ lo' → (y, some u) ∈ lo
  | _, _, .nil, _, _, h => h
  | _, _, .same h, y, u, hm => by
    rcases List.mem_cons.mp hm with rfl | hm
    · exact .head _
    · exact .tail _ (h.mem y u hm)
  | _, _, .forget h, y, u, hm => by
    rcases List.mem_cons.mp hm with e | hm
    · cases e
    · exact .tail _ (h.mem y u hm)
theorem Forg.val {x : Str} {v v' : AV} {r r' : Lo} (e : v = v') (h : Forg r r') : Forg ((x, some v) :: r) ((x, some v') :: r') := e ▸ .same h
theorem nsp_forg {locs lo lo'} (f : Forg lo lo') (o : Obj) (h : nsp locs lo o) : nsp locs lo' o := by
  obtain ⟨a, b, es, ep, c, d, e⟩ := h
  exact ⟨f.keys.trans a, b, es, ep, c, d, fun x v hm => e x v (f.mem x v hm)⟩

/-- an environment: where its names lie -/
structure Ev (env : Env) (L : Addr) (locs : List Str) (cl : List (Str × Addr)) (gs : List Str) : Prop where
  kind : env.scope.kind = .function
  loc : env.locals = L
  gl : env.globals = mainGlobals
  bi : env.builtins = builtinsNs
  isLoc : ∀ x ∈ locs, env.kindOf x = some .local ∧ (x == ("__debug__" : Str)) = false
  isCell : ∀ p ∈ cl, (env.kindOf p.1 = some .cell ∨ env.kindOf p.1 = some .free) ∧ env.cells.lookup p.1 = some p.2 ∧ (p.1 == ("__debug__" : Str)) = false ∧ (p.1 == ("__classdict__" : Str)) = false
  isGl : ∀ x ∈ gs, env.kindOf x = some .globalImplicit ∧ (x == ("__debug__" : Str)) = false
  int : interactive env = false

/-- room for calls -/
structure Rm (n : Nat) (A : Around) : Prop where
  h : A.handled = none
  d : A.depth + n ≤ 900
  u : A.units + 20 * n ≤ 5000
theorem Rm.lt {n A} (r : Rm n A) : A.depth < recursionLimit := by have := r.d; show A.depth < 1000; omega
theorem Rm.units {n A} (r : Rm n A) : A.units < cLine := by have := r.u; show A.units < 9900; omega
theorem Rm.deeper {n A env} (r : Rm (n + 1) A) : Rm n (A.deeper env) := ⟨r.h, by have := r.d; show A.depth + 1 + n ≤ 900; omega, by have := r.u; show A.units + 3 + 20 * n ≤ 5000; omega⟩
theorem Rm.in1 {n A} (r : Rm (n + 1) A) : Rm n A.in1 := ⟨r.h, by have := r.d; show A.depth + n ≤ 900; omega, by have := r.u; show A.units + 1 + 20 * n ≤ 5000; omega⟩
theorem Rm.le {n m A} (r : Rm n A) (h : m ≤ n) : Rm m A := ⟨r.h, by have := r.d; omega, by have := r.u; omega⟩
theorem Rm.mark {n A} (r : Rm n A) : A.mark none = A := by cases A; rfl


end Mine
namespace Mine
open PySem PySem.Calls PyProof.Rows PySem.W

section
variable {prog : Program} {w : World} {A : Around} {E : Value → Shared → Prop} {s : Shared} {hB : Heap} {oB : OsState} {G : Array GenState} {ob rest : Ledger} {env : Env} {L : Addr} {locs gs : List Str} {cl : List (Str × Addr)} {lo lo' : Lo} {x : Str} {v : AV}

theorem nsp_ns {o} (h : nsp locs lo o) {hp : Heap} (ho : hp.get? L = some o) : ∃ m, hp.Ns L m ∧ ∀ x v, (x, some v) ∈ lo → ∃ t, m x = some (v.v t) := by
  obtain ⟨_, _, es, ep, hd, hk, hf⟩ := h
  exact ⟨nsFind es, ⟨o, es, ep, ho, hd, hk, fun _ => rfl⟩, hf⟩
theorem lo_key (hl : lo.map (·.1) = locs) {o} (hx : (x, o) ∈ lo) : x ∈ locs := hl ▸ List.mem_map.mpr ⟨_, hx, rfl⟩

theorem r_loadLocal {Q : Value → Shared → Prop} (he : Ev env L locs cl gs) (h : H hB oB G ob s) (pk : Pick L (nsp locs lo) ob rest) (hx : (x, some v) ∈ lo) (k : ∀ t, Q (v.v t) s) :
    wpAny (model prog w) A (loadName env x) Q E s := by
  obtain ⟨o, ho, hn⟩ := h.get pk
  obtain ⟨m, hm, hv⟩ := nsp_ns hn ho
  obtain ⟨t, ht⟩ := hv x v hx
  exact wpAny_loadName_local he.kind (he.isLoc x (lo_key hn.1 hx)).1 (he.loc ▸ hm) ht (k t)
theorem r_local {pos} {Q : Value → Shared → Prop} (he : Ev env L locs cl gs) (h : H hB oB G ob s) (pk : Pick L (nsp locs lo) ob rest) (hx : (x, some v) ∈ lo) (k : ∀ t, Q (v.v t) s) :
    wpAny (model prog w) A (eval (.Name x pos) env) Q E s := by
  obtain ⟨o, ho, hn⟩ := h.get pk
  exact wpAny_Name (r_loadLocal he h pk hx k) (he.isLoc x (lo_key hn.1 hx)).2

/-- a cell -/
noncomputable def celp (v : Option AV) : OP := fun o => ∃ vv, o.data = .cell vv ∧ ∀ a, v = some a → ∃ t, vv = some (a.v t)
theorem r_loadCell {c : Addr} {Q : Value → Shared → Prop} (he : Ev env L locs cl gs) (h : H hB oB G ob s) (hc : (x, c) ∈ cl) (pk : Pick c (celp (some v)) ob rest) (k : ∀ t, Q (v.v t) s) :
    wpAny (model prog w) A (loadName env x) Q E s := by
  obtain ⟨o, ho, vv, hd, hv⟩ := h.get pk
  obtain ⟨t, rfl⟩ := hv v rfl
  obtain ⟨hk, hl, _, hcd⟩ := he.isCell _ hc
  rcases hk with hk | hk
  · exact wpAny_loadName_cell he.kind hk hl ⟨o, ho, hd⟩ (k t)
  · exact wpAny_loadName_free he.kind hk hl ⟨o, ho, hd⟩ (k t) hcd
theorem r_cell {pos} {c : Addr} {Q : Value → Shared → Prop} (he : Ev env L locs cl gs) (h : H hB oB G ob s) (hc : (x, c) ∈ cl) (pk : Pick c (celp (some v)) ob rest) (k : ∀ t, Q (v.v t) s) :
    wpAny (model prog w) A (eval (.Name x pos) env) Q E s := wpAny_Name (r_loadCell he h hc pk k) (he.isCell _ hc).2.2.1

structure Glob (hB : Heap) (x : Str) (v : Value) : Prop where
  ex : ∃ mg, hB.Ns mainGlobals mg ∧ (mg x = some v ∨ (mg x = none ∧ ∃ mb, hB.Ns builtinsNs mb ∧ mb x = some v))
theorem r_glob {pos} {g : Value} {Q : Value → Shared → Prop} (he : Ev env L locs cl gs) (h : H hB oB G ob s) (hx : x ∈ gs) (hg : Glob hB x g) (k : Q g s) :
    wpAny (model prog w) A (eval (.Name x pos) env) Q E s := by
  obtain ⟨hk, hd⟩ := he.isGl x hx
  obtain ⟨mg, hm, q | ⟨q, mb, hb, q2⟩⟩ := hg.ex
  · exact Name_function_global he.kind hk (loadGlobal_global (he.gl ▸ hm.keeps h.keep) q k) hd
  · exact Name_function_global he.kind hk (loadGlobal_builtin (he.gl ▸ hm.keeps h.keep) q (he.bi ▸ hb.keeps h.keep) q2 k) hd

theorem r_store {t} {Q : Unit → Shared → Prop} (he : Ev env L locs cl gs) (h : H hB oB G ob s) (pk : Pick L (nsp locs lo) ob rest) (hp : Put x v lo lo')
    (k : ∀ s', H hB oB G ((L, nsp locs lo') :: rest) s' → Q () s') : wpAny (model prog w) A (storeName env x (v.v t)) Q E s := by
  obtain ⟨o, ho, hn⟩ := h.get pk
  obtain ⟨m, hm, hv⟩ := nsp_ns hn ho
  have hx : x ∈ locs := hn.1 ▸ hp.key
  refine wpAny_storeName_local (he.isLoc x hx).1 (he.loc ▸ hm) (fun h' hn' hs' => k _ ?_) (by rw [he.kind]; rfl)
  rw [he.loc] at hn' hs'
  obtain ⟨o', es', ep', ho', hd', hk', hf'⟩ := hn'
  refine h.updS pk hs' ho' ⟨hp.keys.trans hn.1, hn.2.1, es', ep', hd', hk', fun y u hy => ?_⟩
  rw [hf']
  show ∃ t_1, (if y = x then some (v.v t) else m y) = some (u.v t_1)
  rcases hp.mem (hn.1.symm ▸ hn.2.1) y u hy with ⟨rfl, rfl⟩ | ⟨hne, hy⟩
  · exact ⟨t, if_pos rfl⟩
  · rw [if_neg hne]; exact hv y u hy
theorem r_storeC {t} {c : Addr} {v₀ : Option AV} {Q : Unit → Shared → Prop} (he : Ev env L locs cl gs) (h : H hB oB G ob s) (hc : (x, c) ∈ cl) (hk : env.kindOf x = some .cell) (pk : Pick c (celp v₀) ob rest)
    (k : ∀ s', H hB oB G ((c, celp (some v)) :: rest) s' → Q () s') : wpAny (model prog w) A (storeName env x (v.v t)) Q E s := by
  obtain ⟨o, ho, vv, hd, hv⟩ := h.get pk
  obtain ⟨_, hl, _, hcd⟩ := he.isCell _ hc
  refine wpAny_storeName_cell he.kind hk hl ⟨o, ho, hd⟩ fun h' hc' hs' => k _ ?_
  obtain ⟨o', ho', hd'⟩ := hc'
  exact h.updS pk hs' ho' ⟨_, hd', fun a e => by cases e; exact ⟨t, rfl⟩⟩

theorem isStore {v : Value} {Q : Unit → Shared → Prop} (h : wpAny (model prog w) A (storeName env x v) Q E s) : wpAny (model prog w) A (storeName env x v) Q E s := h
/-- x = e -/
theorem r_assign {e pos' pos} {Q : Flow → Shared → Prop} (h : wpAny (model prog w) A (eval e env) (fun v s₁ => wpAny (model prog w) A (storeName env x v) (fun _ => Q .next) E s₁) E s)
    (hs : swapsWith e (some (.Name x pos')) pos.line env = pure false := by rfl) : wpAny (model prog w) A (exec (.Assign [.Name x pos'] e pos) env) Q E s := wpAny_Assign_Name h hs
end

/-- the def at a -/
structure FnF (hB : Heap) (a : Addr) (name qual : Str) (params : Arguments) (body : List Stmt) (sc : Scope) (dV kV : Value) : Prop where
  ex : ∃ oc od osl doc pm an cdv ct, hB.get? a = some ⟨oc, od, .func (fnX name qual params body sc [] dV kV doc pm an cdv ct), osl⟩ ∧ hB.CodeRec cdv qual


noncomputable def nthS : Nat → List Stmt → Stmt
  | _, [] => .Pass ⟨0, 0, 0, 0⟩
  | 0, s :: _ => s
  | n + 1, _ :: r => nthS n r
noncomputable def fnBody : Stmt → List Stmt
  | .FunctionDef _ _ body _ _ _ _ _ _ _ => body
  | .ClassDef _ _ _ body _ _ _ _ _ _ _ => body
  | _ => []
noncomputable def fnScope : Stmt → Scope
  | .FunctionDef _ _ _ _ _ _ sc _ _ _ => sc
  | _ => default
noncomputable def fnParams : Stmt → Arguments
  | .FunctionDef _ args _ _ _ _ _ _ _ _ => args
  | _ => default

/-- what a def's scope says of its names -/
noncomputable def scOk (sc : Scope) (locs gs : List Str) : Bool :=
  sc.kind == .function && !sc.isCoroutine && !sc.isGenerator && sc.names.all (fun p => p.2 != .cell) && locs.all (fun x => sc.names.lookup x == some .local && !(x == ("__debug__" : Str))) &&
  gs.all (fun x => sc.names.lookup x == some .globalImplicit && !(x == ("__debug__" : Str))) && decide locs.Nodup
theorem kind_of_beq {sc : Scope} (h : (sc.kind == .function) = true) : sc.kind = .function := by
  cases e : sc.kind <;> rw [e] at h <;> first | rfl | cases h
theorem int_of_kind {env : Env} (h : env.scope.kind = .function) : interactive env = false := by
  unfold interactive; rw [h]; rfl
theorem scOk_ev {sc : Scope} {locs gs : List Str} (h : scOk sc locs gs = true) (L : Addr) (q : Str) (fn : Option Addr) (code : Value) :
    Ev (newEnv sc L mainGlobals [] q fn code none builtinsNs) L locs [] gs := by
  simp only [scOk, Bool.and_eq_true, List.all_eq_true, Bool.not_eq_true', beq_iff_eq, decide_eq_true_eq] at h
  obtain ⟨⟨⟨⟨⟨⟨h1, h2⟩, h3⟩, h4⟩, h5⟩, h6⟩, h7⟩ := h
  exact ⟨h1, rfl, rfl, rfl, fun x hx => ⟨(h5 x hx).1, (h5 x hx).2⟩, (fun p hp => nomatch hp), fun x hx => ⟨(h6 x hx).1, (h6 x hx).2⟩, int_of_kind h1⟩

noncomputable abbrev Ps := List (Str × AV × Tok)
noncomputable abbrev Ps.vals (ps : Ps) : List Value := ps.map fun p => p.2.1.v p.2.2
noncomputable abbrev Ps.binds (ps : Ps) : List (Str × Value) := ps.map fun p => (p.1, p.2.1.v p.2.2)
noncomputable abbrev Ps.lo (ps : Ps) (more : List Str) : Lo := (ps.map fun p => (p.1, some p.2.1)) ++ more.map fun x => (x, none)
noncomputable abbrev Ps.locs (ps : Ps) (more : List Str) : List Str := (ps.map (·.1)) ++ more
theorem lookup_of_mem {α : Type} : ∀ {l : List (Str × α)} {x : Str} {v : α}, (l.map (·.1)).Nodup → (x, v) ∈ l → l.lookup x = some v
  | (y, u) :: r, x, v, hn, hm => by
    rcases List.mem_cons.mp hm with e | hm
    · cases e; simp
    · have : x ≠ y := fun e => (List.nodup_cons.mp hn).1 (List.mem_map.mpr ⟨_, hm, e⟩)
      rw [List.lookup_cons, show (x == y) = false from by simpa using this]
      exact lookup_of_mem (List.nodup_cons.mp hn).2 hm
theorem Ps.look (ps : Ps) {more : List Str} (hn : (ps.locs more).Nodup) {x : Str} {v : AV} (hm : (x, some v) ∈ ps.lo more) : ∃ t, ps.binds.reverse.lookup x = some (v.v t) := by
  rcases List.mem_append.mp hm with hm | hm
  · obtain ⟨⟨y, u, t⟩, hp, e⟩ := List.mem_map.mp hm
    cases e
    refine ⟨t, lookup_of_mem ?_ (List.mem_reverse.mpr (List.mem_map.mpr ⟨_, hp, rfl⟩))⟩
    rw [List.map_reverse, List.map_map]
    exact (List.reverse_perm _).nodup_iff.mpr (List.nodup_append.mp hn).1
  · obtain ⟨y, _, e⟩ := List.mem_map.mp hm
    cases e
theorem Ps.keys (ps : Ps) (more : List Str) : (ps.lo more).map (·.1) = ps.locs more := by
  simp [Ps.lo, Ps.locs, List.map_append, List.map_map, Function.comp_def]

section
variable {prog : Program} {w : World} {A : Around} {E : Value → Shared → Prop} {s : Shared} {hB : Heap} {oB : OsState} {G : Array GenState} {ob rest : Ledger} {env : Env} {L : Addr} {locs gs : List Str} {cl : List (Str × Addr)} {lo lo' : Lo} {x : Str} {v : AV}

theorem r_fn {n : Nat} {a : Addr} {name qual : Str} {params : Arguments} {body : List Stmt} {sc : Scope} {dV kV : Value} {vals : List Value} {kws : List (Str × Value)} {Q : Value → Shared → Prop}
    (f : FnF hB a name qual params body sc dV kV) (lim : hB.NoLimit) (ps : Ps) (more : List Str) (locs gs : List Str) (lo : Lo) (hsc : scOk sc locs gs = true)
    (hbind : ∀ doc pm an cdv ct, BindsTo s (fnX name qual params body sc [] dV kV doc pm an cdv ct) ⟨vals, kws⟩ ps.binds)
    (rm : Rm (n + 1) A) (h : H hB oB G ob s)
    (k : ∀ L env A' E' s', Rm n A' → Ev env L locs [] gs → H hB oB G ((L, nsp locs lo) :: ob) s' →
      wpAny (model prog w) A' (execs body env) (fun f s'' => Q (match f with | .ret v => v | _ => .none) s'') E' s')
    (e1 : ps.locs more = locs := by rfl) (e2 : ps.lo more = lo := by rfl) :
    wpAny (model prog w) A (call (.ref a) vals kws) Q E s := by
  subst e1 e2
  obtain ⟨oc, od, osl, doc, pm, an, cdv, ct, ho, hcd⟩ := f.ex
  have hsc' := hsc
  simp only [scOk, Bool.and_eq_true, List.all_eq_true, Bool.not_eq_true', beq_iff_eq, decide_eq_true_eq, bne_iff_ne] at hsc'
  obtain ⟨⟨⟨⟨⟨⟨h1, h2⟩, h3⟩, h4⟩, h5⟩, h6⟩, h7⟩ := hsc'
  refine wpAny_call (codeAny_call_def rm.lt (h.keep _ _ ho) rfl (lim.keeps h.keep) (hcd.keeps h.keep) rfl (hbind _ _ _ _ _) (fun x hx => h4 x hx) (fun x hx => ?_) (fun h₀ hns hk => ?_) h2 h3 h1)
  · obtain ⟨p, hp, rfl⟩ := List.mem_map.mp hx
    exact (h5 p.1 (List.mem_append_left _ (List.mem_map.mpr ⟨p, hp, rfl⟩))).1
  · refine k s.heap.objs.size _ _ _ _ rm.deeper (scOk_ev hsc _ _ _ _) ?_
    obtain ⟨o, es, ep, e1, e2, e3, e4⟩ := hns
    exact h.add (a := s.heap.objs.size) (o := o) hk (fresh_at _) e1 ⟨ps.keys more, h7, es, ep, e2, e3, fun x v hm => by rw [e4]; exact ps.look h7 hm⟩

theorem evalArgs_spl {f : Value} {args : List (Bool × Sem Value)} {Q : Args → Shared → Prop} (hp : args.any (·.1) = false)
    (h : wpAny (model prog w) A (spliced args) (fun vs s' => Q ⟨vs, []⟩ s') E s) : wpAny (model prog w) A (evalArgs f true args []) Q E s := by
  cases args with
  | nil =>
    unfold evalArgs
    show wpAny (model prog w) A (spliced [] >>= _) Q E s
    refine wpAny_bind (wpAny_mono h (fun vs s' h' => ?_) fun _ _ x => x)
    refine wpAny_holding ?_
    exact wpAny_bind (wpAny_pure (wpAny_bind (wpAny_pure (wpAny_pure h'))))
  | cons a r =>
    obtain ⟨b, x⟩ := a
    cases b with
    | true => simp at hp
    | false => exact evalArgs_plain h
theorem r_arg {pos : Pos} {e : Expr} {es : List Expr} {Q : List Value → Shared → Prop} (h : wpAny (model prog w) A (eval e env) (fun v s₁ => wpAny (model prog w) A (spliced (backTo pos (starEach es env))) (fun vs s₂ => Q (v :: vs) s₂) E s₁) E s)
    (hs : starEach (e :: es) env = (false, eval e env) :: starEach es env := by rfl) : wpAny (model prog w) A (spliced (backTo pos (starEach (e :: es) env))) Q E s := by
  rw [hs]
  exact spliced_cons h
theorem r_arg0 {pos : Pos} {Q : List Value → Shared → Prop} (h : Q [] s) : wpAny (model prog w) A (spliced (backTo pos (starEach [] env))) Q E s := spliced_nil h

noncomputable def IsFn (hB : Heap) (a : Addr) : Prop := ∃ o fd, hB.get? a = some o ∧ o.data = .func fd
theorem FnF.isFn {a : Addr} {name qual : Str} {params : Arguments} {body : List Stmt} {sc : Scope} {dV kV : Value} (f : FnF hB a name qual params body sc dV kV) : IsFn hB a := by
  obtain ⟨oc, od, osl, doc, pm, an, cdv, ct, ho, _⟩ := f.ex
  exact ⟨_, _, ho, rfl⟩
noncomputable abbrev Live (hB : Heap) (oB : OsState) (s : Shared) : Prop := ∃ G ob, H hB oB G ob s
theorem r_withF {pos : Pos} {a : Addr} {first : List Value} {args : List (Bool × Sem Value)} {Q : Value → Shared → Prop} (hf : IsFn hB a) (hp : args.any (·.1) = false)
    (h : wpAny (model prog w) A (spliced args) (fun vs s₁ => Live hB oB s₁ ∧ wpAny (model prog w) A (call (.ref a) (first ++ vs)) Q E s₁) E s) : wpAny (model prog w) A (callWith pos (.ref a) first args []) Q E s := by
  obtain ⟨o, fd, ho, hd⟩ := hf
  exact callWith_function (evalArgs_spl hp (wpAny_mono h (fun vs s₁ ⟨⟨_, _, l⟩, x⟩ => ⟨⟨l.keep _ _ ho, hd⟩, x⟩) fun _ _ e => e))
noncomputable def Machine (g : Value) : Prop := ∀ a, g ≠ .ref a
theorem r_withM {pos : Pos} {g : Value} {first : List Value} {args : List (Bool × Sem Value)} {Q : Value → Shared → Prop} (hg : Machine g) (hp : args.any (·.1) = false)
    (h : wpAny (model prog w) A (spliced args) (fun vs s₁ => wpAny (model prog w) A (call g (first ++ vs)) Q E s₁) E s) : wpAny (model prog w) A (callWith pos g first args []) Q E s := by
  refine callWith_of (P := fun _ => True) (by rw [hp]; rfl) (fun h _ => ⟨.machine, .inr (.inl rfl), ?_⟩) (evalArgs_spl hp (wpAny_mono h (fun vs s₁ x => ⟨trivial, x⟩) fun _ _ e => e))
  have : keeperOf g = pure .machine := by
    unfold keeperOf
    cases g <;> first | rfl | exact absurd rfl (hg _)
  rw [this]
  exact .now
theorem r_callF {f : Str} {p pos : Pos} {a : Addr} {args : List Expr} {Q : Value → Shared → Prop} (he : Ev env L locs cl gs) (h : H hB oB G ob s) (hx : f ∈ gs) (hg : Glob hB f (.ref a)) (hf : IsFn hB a)
    (k : wpAny (model prog w) A (spliced (backTo pos (starEach args env))) (fun vs s₁ => Live hB oB s₁ ∧ wpAny (model prog w) A (call (.ref a) vs) Q E s₁) E s)
    (hp : (backTo pos (starEach args env)).any (·.1) = false := by rfl) : wpAny (model prog w) A (eval (.Call (.Name f p) args [] pos) env) Q E s :=
  wpAny_Call_Name_kw (r_glob he h hx hg (r_withF hf hp k))
theorem r_callB {f : Str} {p pos : Pos} {g : Value} {args : List Expr} {Q : Value → Shared → Prop} (he : Ev env L locs cl gs) (h : H hB oB G ob s) (hx : f ∈ gs) (hg : Glob hB f g) (hf : Machine g)
    (k : wpAny (model prog w) A (spliced (backTo pos (starEach args env))) (fun vs s₁ => wpAny (model prog w) A (call g vs) Q E s₁) E s)
    (hp : (backTo pos (starEach args env)).any (·.1) = false := by rfl) : wpAny (model prog w) A (eval (.Call (.Name f p) args [] pos) env) Q E s :=
  wpAny_Call_Name_kw (r_glob he h hx hg (r_withM hf hp k))
end

section
variable {prog : Program} {w : World} {A : Around} {E : Value → Shared → Prop} {s : Shared} {hB : Heap} {oB : OsState} {G : Array GenState} {ob rest : Ledger} {env : Env} {L : Addr} {locs gs : List Str} {cl : List (Str × Addr)} {lo lo' : Lo} {x : Str}
theorem r_storeI {t : Tok} {i : Int} {Q : Unit → Shared → Prop} (he : Ev env L locs cl gs) (h : H hB oB G ob s) (pk : Pick L (nsp locs lo) ob rest) (hp : Put x (.int i) lo lo')
    (k : ∀ s', H hB oB G ((L, nsp locs lo') :: rest) s' → Q () s') : wpAny (model prog w) A (storeName env x (.int i t)) Q E s := r_store (v := .int i) he h pk hp k
theorem r_storeS {t : Tok} {i : Str} {Q : Unit → Shared → Prop} (he : Ev env L locs cl gs) (h : H hB oB G ob s) (pk : Pick L (nsp locs lo) ob rest) (hp : Put x (.str i) lo lo')
    (k : ∀ s', H hB oB G ((L, nsp locs lo') :: rest) s' → Q () s') : wpAny (model prog w) A (storeName env x (.str i t)) Q E s := r_store (v := .str i) he h pk hp k
theorem r_storeB {i : Bool} {Q : Unit → Shared → Prop} (he : Ev env L locs cl gs) (h : H hB oB G ob s) (pk : Pick L (nsp locs lo) ob rest) (hp : Put x (.bool i) lo lo')
    (k : ∀ s', H hB oB G ((L, nsp locs lo') :: rest) s' → Q () s') : wpAny (model prog w) A (storeName env x (.bool i)) Q E s := r_store (t := 0) (v := .bool i) he h pk hp k
theorem r_storeR {i : Addr} {Q : Unit → Shared → Prop} (he : Ev env L locs cl gs) (h : H hB oB G ob s) (pk : Pick L (nsp locs lo) ob rest) (hp : Put x (.ref i) lo lo')
    (k : ∀ s', H hB oB G ((L, nsp locs lo') :: rest) s' → Q () s') : wpAny (model prog w) A (storeName env x (.ref i)) Q E s := r_store (t := 0) (v := .ref i) he h pk hp k
theorem r_storeN {Q : Unit → Shared → Prop} (he : Ev env L locs cl gs) (h : H hB oB G ob s) (pk : Pick L (nsp locs lo) ob rest) (hp : Put x .none lo lo')
    (k : ∀ s', H hB oB G ((L, nsp locs lo') :: rest) s' → Q () s') : wpAny (model prog w) A (storeName env x .none) Q E s := r_store (t := 0) (v := .none) he h pk hp k
end

end Mine
namespace Mine
open PySem PySem.Calls PyProof.Rows PySem.W

inductive Ares : List AV → List Value → Prop
  | nil : Ares [] []
  | cons {x : AV} {xs : List AV} {vs : List Value} (t : Tok) : Ares xs vs → Ares (x :: xs) (x.v t :: vs)
theorem Ares.length {xs vs} (h : Ares xs vs) : vs.length = xs.length := by
  induction h with
  | nil => rfl
  | cons t _ ih => simp [ih]
theorem Ares.get {xs vs} (h : Ares xs vs) : ∀ {i : Nat} {x : AV}, xs[i]? = some x → ∃ t, vs[i]? = some (x.v t) := by
  induction h with
  | nil => intro i x e; simp at e
  | cons t _ ih =>
    intro i x e
    cases i with
    | zero => simp at e; subst e; exact ⟨t, by simp⟩
    | succ i => simpa using ih (by simpa using e)
theorem Ares.append {xs vs ys us} (h : Ares xs vs) (h2 : Ares ys us) : Ares (xs ++ ys) (vs ++ us) := by
  induction h with
  | nil => exact h2
  | cons t _ ih => exact .cons t ih
theorem Ares.one (x : AV) (t : Tok) : Ares [x] [x.v t] := .cons t .nil
theorem Ares.take {xs vs} (h : Ares xs vs) : ∀ n, Ares (xs.take n) (vs.take n) := by
  induction h with
  | nil => intro n; simp; exact .nil
  | cons t _ ih =>
    intro n
    cases n with
    | zero => exact .nil
    | succ n => exact .cons t (ih n)
theorem Ares.drop {xs vs} (h : Ares xs vs) : ∀ n, Ares (xs.drop n) (vs.drop n) := by
  induction h with
  | nil => intro n; simp; exact .nil
  | cons t h ih =>
    intro n
    cases n with
    | zero => exact .cons t h
    | succ n => exact ih n
theorem Ares.reverse {xs vs} (h : Ares xs vs) : Ares xs.reverse vs.reverse := by
  induction h with
  | nil => exact .nil
  | cons t _ ih => simpa using ih.append (.one _ t)
theorem Ares.none_of {xs vs} (h : Ares xs vs) {i : Nat} (e : xs[i]? = none) : vs[i]? = none := by
  rw [List.getElem?_eq_none_iff] at e ⊢
  rw [h.length]; exact e
theorem Ares.set {xs vs} (h : Ares xs vs) : ∀ (i : Nat) (x : AV) (t : Tok), Ares (xs.set i x) (vs.set i (x.v t)) := by
  induction h with
  | nil => intro i x t; simp; exact .nil
  | cons u h ih =>
    intro i x t
    cases i with
    | zero => exact .cons t h
    | succ i => exact .cons u (ih i x t)

noncomputable def lst (xs : List AV) : OP := fun o => ∃ vs n, o = ({ cls := .type "list", data := .seq vs.toArray n } : Obj) ∧ Ares xs vs
noncomputable def tup (xs : List AV) : OP := fun o => ∃ vs n, o = ({ cls := .type "tuple", data := .seq vs.toArray n } : Obj) ∧ Ares xs vs
noncomputable def liter (l : Addr) (i : Nat) : OP := fun o => o.cls = .type "list_iterator" ∧ o.data = .fields #[.ref l, .int i 0]
noncomputable def titer (l : Addr) (i : Nat) : OP := fun o => o.cls = .type "tuple_iterator" ∧ o.data = .fields #[.ref l, .int i 0]
noncomputable def siter (x : Str) (i : Nat) : OP := fun o => ∃ t, (o.cls = .type "str_ascii_iterator" ∨ o.cls = .type "str_iterator") ∧ o.data = .fields #[.str x t, .int i 0]
noncomputable def riter (a left : Int) : OP := fun o => o = { cls := .type "range_iterator", data := .fields #[rawInt a, rawInt left, rawInt 1] }
noncomputable def rng (a b : Int) : OP := fun o => ∃ t u v, o = { cls := .type "range", data := .fields #[.int a t, .int b u, .int 1 v] }

section
variable {prog : Program} {w : World} {A : Around} {E : Value → Shared → Prop} {s : Shared} {hB : Heap} {oB : OsState} {G : Array GenState} {ob rest : Ledger} {env : Env} {L : Addr} {locs gs : List Str} {cl : List (Str × Addr)} {lo lo' : Lo} {x : Str} {v : AV} {xs : List AV}

theorem lst_isList {l : Addr} {o : Obj} {hp : Heap} (ho : hp.get? l = some o) (h : lst xs o) : ∃ vs, hp.IsList l vs.toArray ∧ Ares xs vs := by
  obtain ⟨vs, n, rfl, ha⟩ := h
  exact ⟨vs, ⟨_, ho, rfl, n, rfl⟩, ha⟩
theorem tup_isTup {l : Addr} {o : Obj} {hp : Heap} (ho : hp.get? l = some o) (h : tup xs o) : ∃ vs, hp.IsTuple l vs.toArray ∧ Ares xs vs := by
  obtain ⟨vs, n, rfl, ha⟩ := h
  exact ⟨vs, ⟨_, ho, rfl, n, rfl⟩, ha⟩

/-- an iterator, its items -/
structure Itr (prog : Program) (w : World) (hB : Heap) (oB : OsState) (I : Addr) (Le : Nat → Ledger) (fin : Ledger) (n : Nat) (val : Nat → AV) : Prop where
  item : ∀ i, i < n → ∀ (A : Around) G R s (Q : Option Value → Shared → Prop) E, A.handled = none → H hB oB G (Le i ++ R) s → (∀ t s', H hB oB G (Le (i + 1) ++ R) s' → Q (some ((val i).v t)) s') → wpAny (model prog w) A (pyNext (.ref I)) Q E s
  done : ∀ (A : Around) G R s (Q : Option Value → Shared → Prop) E, A.handled = none → H hB oB G (Le n ++ R) s → (∀ s', H hB oB G (fin ++ R) s' → Q none s') → wpAny (model prog w) A (pyNext (.ref I)) Q E s
  selfI : ∀ i (A : Around) G R s (Q : Value → Shared → Prop) E, H hB oB G (Le i ++ R) s → Q (.ref I) s → wpAny (model prog w) A (pyIter (.ref I)) Q E s

theorem Itr.list (I l : Addr) (xs : List AV) : Itr prog w hB oB I (fun i => [(I, liter l i), (l, lst xs)]) [(l, lst xs)] xs.length (fun i => xs.getD i .none) where
  item := fun i hi A G R s Q E hh h k => by
    obtain ⟨o, ho, hc, hd⟩ := h.get .here
    obtain ⟨ol, hol, hl⟩ := h.get (.there .here)
    obtain ⟨vs, hL, ha⟩ := lst_isList hol hl
    have hx : xs[i]? = some (xs.getD i .none) := by simp [List.getD_eq_getElem?_getD, hi]
    obtain ⟨t, ht⟩ := ha.get hx
    refine wpAny_pyNext_list_item ⟨o, ho, hc, hd⟩ hL (by simpa using ht) fun h' hit hs => k t _ ?_
    obtain ⟨o', ho', hc', hd'⟩ := hit
    exact h.updS .here hs ho' ⟨hc', hd'⟩
  done := fun A G R s Q E hh h k => by
    obtain ⟨o, ho, hc, hd⟩ := h.get .here
    obtain ⟨ol, hol, hl⟩ := h.get (.there .here)
    obtain ⟨vs, hL, ha⟩ := lst_isList hol hl
    refine wpAny_pyNext_list_end hh ⟨o, ho, hc, hd⟩ hL (by simp [ha.length]) fun h' hs => k _ ?_
    exact h.lose .here hs
  selfI := fun i A G R s Q E h k => by
    obtain ⟨o, ho, hc, hd⟩ := h.get .here
    exact wpAny_pyIter_listiter (l := l) (i := i) ⟨o, ho, hc, hd⟩ k
theorem Itr.tuple (I l : Addr) (xs : List AV) :
    Itr prog w hB oB I (fun i => [(I, titer l i), (l, tup xs)]) [(l, tup xs)] xs.length (fun i => xs.getD i .none) where
  item := fun i hi A G R s Q E hh h k => by
    obtain ⟨o, ho, hc, hd⟩ := h.get .here
    obtain ⟨ol, hol, hl⟩ := h.get (.there .here)
    obtain ⟨vs, hL, ha⟩ := tup_isTup hol hl
    have hx : xs[i]? = some (xs.getD i .none) := by simp [List.getD_eq_getElem?_getD, hi]
    obtain ⟨t, ht⟩ := ha.get hx
    refine wpAny_pyNext_tuple_item ⟨o, ho, hc, hd⟩ hL (by simpa using ht) fun h' hit hs => k t _ ?_
    obtain ⟨o', ho', hc', hd'⟩ := hit
    exact h.updS .here hs ho' ⟨hc', hd'⟩
  done := fun A G R s Q E hh h k => by
    obtain ⟨o, ho, hc, hd⟩ := h.get .here
    obtain ⟨ol, hol, hl⟩ := h.get (.there .here)
    obtain ⟨vs, hL, ha⟩ := tup_isTup hol hl
    refine wpAny_pyNext_tuple_end hh ⟨o, ho, hc, hd⟩ hL (by simp [ha.length]) fun h' hs => k _ ?_
    exact h.lose .here hs
  selfI := fun i A G R s Q E h k => by
    obtain ⟨o, ho, hc, hd⟩ := h.get .here
    exact wpAny_pyIter_tupleiter (t := l) (i := i) ⟨o, ho, hc, hd⟩ k
noncomputable abbrev sgn (x : Str) (i : Nat) : AV := .str ⟨#[x.cps.getD i 0]⟩
theorem Itr.str (I : Addr) (x : Str) : Itr prog w hB oB I (fun i => [(I, siter x i)]) [] x.cps.size (fun i => sgn x i) where
  item := fun i hi A G R s Q E hh h k => by
    obtain ⟨o, ho, t, hc, hd⟩ := h.get .here
    have hx : x.cps[i]? = some (x.cps.getD i 0) := by simp [Array.getD, hi]
    rcases hc with hc | hc
    · refine wpAny_pyNext_ascii_item ⟨o, ho, hc, hd⟩ hx fun h' hit hs => k s.toks _ ?_
      obtain ⟨o', ho', hc', hd'⟩ := hit
      exact h.updS .here hs ho' ⟨t, .inl hc', hd'⟩
    · refine wpAny_pyNext_wide_item ⟨o, ho, hc, hd⟩ hx fun h' hit hs => k s.toks _ ?_
      obtain ⟨o', ho', hc', hd'⟩ := hit
      exact h.updS .here hs ho' ⟨t, .inr hc', hd'⟩
  done := fun A G R s Q E hh h k => by
    obtain ⟨o, ho, t, hc, hd⟩ := h.get .here
    have hx : x.cps[x.cps.size]? = none := by simp
    rcases hc with hc | hc
    · exact wpAny_pyNext_ascii_end hh ⟨o, ho, hc, hd⟩ hx fun h' hs => k _ (h.lose .here hs)
    · exact wpAny_pyNext_wide_end hh ⟨o, ho, hc, hd⟩ hx fun h' hs => k _ (h.lose .here hs)
  selfI := fun i A G R s Q E h k => by
    obtain ⟨o, ho, t, hc, hd⟩ := h.get .here
    rcases hc with hc | hc
    · exact wpAny_pyIter_striter_ascii (x := x) (t := t) (i := i) ⟨o, ho, hc, hd⟩ k
    · exact wpAny_pyIter_striter_wide (x := x) (t := t) (i := i) ⟨o, ho, hc, hd⟩ k
theorem Itr.range (I : Addr) (a b : Int) :
    Itr prog w hB oB I (fun i => [(I, riter (a + i) ((b - a).toNat - i))]) [] (b - a).toNat (fun i => .int (a + i)) where
  item := fun i hi A G R s Q E hh h k => by
    obtain ⟨o, ho, rfl⟩ := h.get .here
    refine wpAny_pyNext_range_item ho (by omega) fun h' hit hs => k s.toks _ ?_
    refine h.updS .here hs hit ?_
    show _ = _
    have e1 : a + (i : Int) + 1 = a + ((i + 1 : Nat) : Int) := by omega
    have e2 : ((b - a).toNat : Int) - i - 1 = ((b - a).toNat : Int) - ((i + 1 : Nat) : Int) := by omega
    rw [e1, e2]
  done := fun A G R s Q E hh h k => by
    obtain ⟨o, ho, rfl⟩ := h.get .here
    exact wpAny_pyNext_range_end hh ho (by omega) fun h' hs => k _ (h.lose .here hs)
  selfI := fun i A G R s Q E h k => by
    obtain ⟨o, ho, rfl⟩ := h.get .here
    exact wpAny_pyIter_rangeiter ho k
theorem Itr.rangeN (I : Addr) (a : Int) (n : Nat) : Itr prog w hB oB I (fun i => [(I, riter (a + i) (n - i))]) [] n (fun i => .int (a + i)) := by
  have := Itr.range (prog := prog) (w := w) (hB := hB) (oB := oB) I a (a + n)
  rwa [show (a + (n : Int) - a).toNat = n from by omega] at this

theorem r_iterStr {x : Str} {t : Tok} {Q : Value → Shared → Prop} (h : H hB oB G ob s) (k : ∀ I s', H hB oB G ((I, siter x 0) :: ob) s' → Q (.ref I) s') : wpAny (model prog w) A (pyIter (.str x t)) Q E s := by
  cases e : x.cps.all (fun x => decide (x < 128)) with
  | true => exact wpAny_pyIter_ascii e (k _ _ (h.push (o := _) rfl ⟨t, .inl rfl, rfl⟩ rfl))
  | false => exact wpAny_pyIter_wide e (k _ _ (h.push (o := _) rfl ⟨t, .inr rfl, rfl⟩ rfl))
theorem r_iterList {l : Addr} {Q : Value → Shared → Prop} (h : H hB oB G ob s) (pk : Pick l (lst xs) ob rest) (k : ∀ I s', H hB oB G ((I, liter l 0) :: (l, lst xs) :: rest) s' → Q (.ref I) s') : wpAny (model prog w) A (pyIter (.ref l)) Q E s := by
  obtain ⟨o, ho, hl⟩ := h.get pk
  obtain ⟨vs, hL, ha⟩ := lst_isList ho hl
  exact wpAny_pyIter_list hL (k _ _ ((h.pick pk).push (o := _) rfl ⟨rfl, rfl⟩ rfl))
theorem r_iterTup {l : Addr} {Q : Value → Shared → Prop} (h : H hB oB G ob s) (pk : Pick l (tup xs) ob rest) (k : ∀ I s', H hB oB G ((I, titer l 0) :: (l, tup xs) :: rest) s' → Q (.ref I) s') : wpAny (model prog w) A (pyIter (.ref l)) Q E s := by
  obtain ⟨o, ho, hl⟩ := h.get pk
  obtain ⟨vs, hL, ha⟩ := tup_isTup ho hl
  exact wpAny_pyIter_tuple hL (k _ _ ((h.pick pk).push (o := _) rfl ⟨rfl, rfl⟩ rfl))
theorem r_iterRange {r : Addr} {a b : Int} {Q : Value → Shared → Prop} (h : H hB oB G ob s) (pk : Pick r (rng a b) ob rest) (ha : -(2 ^ 60) ≤ a) (ha' : a < 2 ^ 60) (hb : -(2 ^ 60) ≤ b) (hb' : b < 2 ^ 60)
    (k : ∀ I s', H hB oB G ((I, riter a (b - a).toNat) :: rest) s' → Q (.ref I) s') : wpAny (model prog w) A (pyIter (.ref r)) Q E s := by
  obtain ⟨o, ho, t, u, v, rfl⟩ := h.get pk
  refine wpAny_pyIter_range ho (small_one (by omega) (by omega) (by omega) (by omega)) (k _ _ ?_)
  have e : Builtin.Range.rangeSize a b 1 = ((b - a).toNat : Int) := by rw [rangeSize_one]; split <;> omega
  rw [e]
  exact (h.pick pk).drop.push (P := riter a ((b - a).toNat : Int)) (o := { cls := .type "range_iterator", data := .fields #[rawInt a, rawInt ((b - a).toNat : Int), rawInt 1] }) rfl (show _ = _ from rfl) rfl
theorem r_range1 {n : Int} {t : Tok} {Q : Value → Shared → Prop} (h : H hB oB G ob s) (k : ∀ r s', H hB oB G ((r, rng 0 n) :: ob) s' → Q (.ref r) s') : wpAny (model prog w) A (call (.type "range") [.int n t]) Q E s :=
  call_range_1 (k _ _ (h.push (o := _) rfl ⟨_, _, _, rfl⟩ rfl))
theorem r_range2 {a b : Int} {t u : Tok} {Q : Value → Shared → Prop} (h : H hB oB G ob s) (k : ∀ r s', H hB oB G ((r, rng a b) :: ob) s' → Q (.ref r) s') : wpAny (model prog w) A (call (.type "range") [.int a t, .int b u]) Q E s :=
  call_range_2 (k _ _ (h.push (o := _) rfl ⟨_, _, _, rfl⟩ rfl))

/-- what the end of a loop's turn must show -/
noncomputable abbrev TurnEnd (Q : Flow → Shared → Prop) (next : Shared → Prop) (f : Flow) (s : Shared) : Prop := match f with
  | .next | .cont => next s
  | .brk => Q .next s
  | .ret v => Q (.ret v) s
/-- for x in an iterator -/
theorem r_forLoop {px : Pos} {body : List Stmt} {I : Addr} {Le : Nat → Ledger} {fin : Ledger} {n : Nat} {val : Nat → AV} {Q : Flow → Shared → Prop} {Ex : Value → Shared → Prop}
    (he : Ev env L locs cl gs) (it : Itr prog w hB oB I Le fin n val) (hh : A.handled = none) (lo lo' : Nat → Lo) (J : Nat → Ledger)
    (h : H hB oB G (Le 0 ++ (L, nsp locs (lo 0)) :: J 0) s) (hput : ∀ i, i < n → Put x (val i) (lo i) (lo' i))
    (hbody : ∀ i, i < n → ∀ E' s', H hB oB G ((L, nsp locs (lo' i)) :: (Le (i + 1) ++ J i)) s' →
      wpAny (model prog w) A (execs body env) (TurnEnd Q fun s'' => H hB oB G (Le (i + 1) ++ (L, nsp locs (lo (i + 1))) :: J (i + 1)) s'') E' s')
    (hend : ∀ s', H hB oB G (fin ++ (L, nsp locs (lo n)) :: J n) s' → Q .next s') :
    codeAny (model prog w) A (.forLoop (.Name x px) (.ref I) body [] env) (fun r s' => match r with | .ok f => Q f s' | .error e => Ex e s') s := by
  refine codeAny_forLoop (fun k s' => ∃ i, i ≤ n ∧ k = n - i ∧ H hB oB G (Le i ++ (L, nsp locs (lo i)) :: J i) s') ?_ n ⟨0, Nat.zero_le _, rfl, h⟩
  rintro k s' ⟨i, hi, rfl, h'⟩
  by_cases hlt : i < n
  · refine it.item i hlt _ _ _ _ _ _ hh h' fun t s₁ h₁ => ?_
    have pk : Pick L (nsp locs (lo i)) (Le (i + 1) ++ (L, nsp locs (lo i)) :: J i) (Le (i + 1) ++ J i) := by
      generalize Le (i + 1) = l
      induction l with
      | nil => exact .here
      | cons a r ih => exact .there ih
    refine wpAny_assign_Name (r_store he h₁ pk (hput i hlt) fun s₂ h₂ => wpAny_mono (hbody i hlt _ s₂ h₂) (fun f s₃ h₃ => ?_) fun _ _ e => e)
    cases f with
    | next => exact ⟨n - (i + 1), by omega, i + 1, hlt, rfl, h₃⟩
    | cont => exact ⟨n - (i + 1), by omega, i + 1, hlt, rfl, h₃⟩
    | brk => exact h₃
    | ret v => exact h₃
  · have : i = n := by omega
    subst this
    exact it.done _ _ _ _ _ _ hh h' fun s₁ h₁ => wpAny_execs_nil (hend s₁ h₁)
end

end Mine
namespace Mine
open PySem PySem.Calls PyProof.Rows PySem.W
section
variable {prog : Program} {w : World} {A : Around} {E : Value → Shared → Prop} {s : Shared} {hB : Heap} {oB : OsState} {G : Array GenState} {ob rest : Ledger} {env : Env} {L : Addr} {locs gs : List Str} {cl : List (Str × Addr)} {lo lo' : Lo} {x : Str} {v : AV} {xs : List AV}
variable {Q : Value → Shared → Prop}

theorem r_int {i : Int} {k : Nat} {pos : Pos} (h : H hB oB G ob s) (q : ∀ t s', H hB oB G ob s' → Q (.int i t) s') : wpAny (model prog w) A (eval (.Constant (.int i) k pos) env) Q E s :=
  wpAny_Constant_int (q _ _ (h.tok _))
theorem r_str {x : Str} {k : Nat} {pos : Pos} (h : H hB oB G ob s) (q : ∀ t s', H hB oB G ob s' → Q (.str x t) s') : wpAny (model prog w) A (eval (.Constant (.str x) k pos) env) Q E s :=
  Constant_str (q _ _ (h.tok _))
theorem r_none {k : Nat} {pos : Pos} (q : Q .none s) : wpAny (model prog w) A (eval (.Constant .none k pos) env) Q E s := fun _ _ _ => q
theorem r_bool {b : Bool} {k : Nat} {pos : Pos} (q : Q (.bool b) s) : wpAny (model prog w) A (eval (.Constant (.bool b) k pos) env) Q E s := fun _ _ _ => q

theorem r_add {a b : Int} {t u : Tok} (h : H hB oB G ob s) (q : ∀ t s', H hB oB G ob s' → Q (.int (a + b) t) s') : wpAny (model prog w) A (binaryOp .Add (.int a t) (.int b u)) Q E s := add_int (q _ _ (h.tok _))
theorem r_iadd {a b : Int} {t u : Tok} (h : H hB oB G ob s) (q : ∀ t s', H hB oB G ob s' → Q (.int (a + b) t) s') : wpAny (model prog w) A (inplaceOp .Add (.int a t) (.int b u)) Q E s := iadd_int (q _ _ (h.tok _))
theorem r_sub {a b : Int} {t u : Tok} (h : H hB oB G ob s) (q : ∀ t s', H hB oB G ob s' → Q (.int (a - b) t) s') : wpAny (model prog w) A (binaryOp .Sub (.int a t) (.int b u)) Q E s := sub_int (q _ _ (h.tok _))
theorem r_isub {a b : Int} {t u : Tok} (h : H hB oB G ob s) (q : ∀ t s', H hB oB G ob s' → Q (.int (a - b) t) s') : wpAny (model prog w) A (inplaceOp .Sub (.int a t) (.int b u)) Q E s := isub_int (q _ _ (h.tok _))
theorem mulOk {a b : Int} (ha : -(2 ^ 60) ≤ a) (ha' : a ≤ 2 ^ 60) (hb : -(2 ^ 60) ≤ b) (hb' : b ≤ 2 ^ 60) : IntMulOk a b :=
  IntMulOk.of_le (m := 64) (n := 64) (intBits_le_64 (by omega) (by omega)) (intBits_le_64 (by omega) (by omega)) (by decide)
theorem r_mul {a b : Int} {t u : Tok} (h : H hB oB G ob s) (ha : -(2 ^ 60) ≤ a ∧ a ≤ 2 ^ 60) (hb : -(2 ^ 60) ≤ b ∧ b ≤ 2 ^ 60) (q : ∀ t s', H hB oB G ob s' → Q (.int (a * b) t) s') : wpAny (model prog w) A (binaryOp .Mult (.int a t) (.int b u)) Q E s :=
  mul_int (q _ _ (h.tok _)) (mulOk ha.1 ha.2 hb.1 hb.2)
theorem r_fdiv {a b : Int} {t u : Tok} (h : H hB oB G ob s) (hb : b ≠ 0) (hb2 : b.natAbs < 1073741824) (q : ∀ t s', H hB oB G ob s' → Q (.int (a.fdiv b) t) s') : wpAny (model prog w) A (binaryOp .FloorDiv (.int a t) (.int b u)) Q E s :=
  floordiv_int hb (q _ _ (h.tok _)) (.inl (PyProof.noPylong_small hb2))
theorem r_fmod {a b : Int} {t u : Tok} (h : H hB oB G ob s) (hb : b ≠ 0) (q : ∀ t s', H hB oB G ob s' → Q (.int (a.fmod b) t) s') : wpAny (model prog w) A (binaryOp .Mod (.int a t) (.int b u)) Q E s := mod_int' hb (q _ _ (h.tok _))
theorem r_shr {a b : Int} {t u : Tok} (h : H hB oB G ob s) (hb : 0 ≤ b) (q : ∀ t s', H hB oB G ob s' → Q (.int (a.fdiv (2 ^ b.toNat)) t) s') : wpAny (model prog w) A (binaryOp .RShift (.int a t) (.int b u)) Q E s := rshift_int hb (q _ _ (h.tok _))
theorem r_and {a b : Int} {t u : Tok} (h : H hB oB G ob s) (q : ∀ t s', H hB oB G ob s' → Q (.int (Builtin.bitAnd a b) t) s') : wpAny (model prog w) A (binaryOp .BitAnd (.int a t) (.int b u)) Q E s := and_int (q _ _ (h.tok _))
theorem r_neg {a : Int} {t : Tok} (h : H hB oB G ob s) (q : ∀ t s', H hB oB G ob s' → Q (.int (-a) t) s') : wpAny (model prog w) A (unaryOp .USub (.int a t)) Q E s := neg_int (q _ _ (h.tok _))
theorem r_cat {x y : Str} {t u : Tok} (h : H hB oB G ob s) (hl : x.length + y.length ≤ sizeLine) (q : ∀ t s', H hB oB G ob s' → Q (.str (x ++ y) t) s') : wpAny (model prog w) A (binaryOp .Add (.str x t) (.str y u)) Q E s :=
  add_str (fun _ tk => q _ _ (h.tok tk)) hl
theorem r_smul {x : Str} {n : Int} {t u : Tok} (h : H hB oB G ob s) (hl : MulOk x n) (q : ∀ t s', H hB oB G ob s' → Q (.str (Txt.mul x n) t) s') : wpAny (model prog w) A (binaryOp .Mult (.str x t) (.int n u)) Q E s :=
  SB.mul hl (fun _ tk => q _ _ (h.tok tk))
theorem r_isPlain {a b : Value} (hp : plainIs a b = true) (q : Q (.bool (a == b)) s) : wpAny (model prog w) A (compareOp .Is a b) Q E s := wpAny_is_plain hp q
theorem r_isNotPlain {a b : Value} (hp : plainIs a b = true) (q : Q (.bool (!(a == b))) s) : wpAny (model prog w) A (compareOp .IsNot a b) Q E s := wpAny_isNot_plain hp q
/-- the truth of a written comparison, name .. -/
theorem r_truth {e : Expr} {whole : Sem Value} {Q : Bool → Shared → Prop} (h : wpAny (model prog w) A whole (fun v s₁ => wpAny (model prog w) A (truthy v) Q E s₁) E s)
    (hs : isTrue e env whole = (do let v ← whole; standAt e.pos; holding [v] (truthy v)) := by rfl) : wpAny (model prog w) A (isTrue e env whole) Q E s := isTrue_plain h hs
end
theorem ite_b {b : Bool} {P P' : Prop} (h1 : b = true → P) (h0 : b = false → P') : if b = true then P else P' := by
  cases b with
  | true => exact h1 rfl
  | false => exact h0 rfl
theorem sgn_eq (c d : Nat) : ((⟨#[c]⟩ : Str) == ⟨#[d]⟩) = decide (c = d) := by
  by_cases q : c = d
  · subst q; simp
  · rw [decide_eq_false q]
    refine beq_eq_false_iff_ne.mpr fun e => q ?_
    have := congrArg (fun x : Str => x.cps.toList) e
    simpa using this
theorem take_snoc (x : Str) {i : Nat} (hi : i < x.cps.size) : x.cps.toList.take (i + 1) = x.cps.toList.take i ++ [x.cps.getD i 0] := by
  have hi' : i < x.cps.toList.length := by simpa using hi
  rw [List.take_succ_eq_append_getElem hi']; simp [Array.getD, hi]
theorem take_all (x : Str) : x.cps.toList.take x.cps.size = x.cps.toList := List.take_of_length_le (by simp)

end Mine
namespace Mine
open PySem PySem.Calls PyProof.Rows PySem.W

theorem Ares.pick {xs vs} (h : Ares xs vs) : ∀ (is : List Nat), Ares (is.filterMap (xs[·]?)) (is.filterMap (vs[·]?))
  | [] => .nil
  | i :: r => by
    simp only [List.filterMap_cons]
    cases e : xs[i]? with
    | none => rw [h.none_of e]; exact h.pick r
    | some x =>
      obtain ⟨t, ht⟩ := h.get e
      rw [ht]
      exact .cons t (h.pick r)
/-- a list's slice -/
noncomputable def pickL {α : Type} (xs : List α) (lo hi st : Option Int) : List α :=
  (sliceRange (sliceBounds lo hi st xs.length).1 (sliceBounds lo hi st xs.length).2.1 (sliceBounds lo hi st xs.length).2.2).filterMap (xs[·]?)
theorem Ares.slice {xs vs} (h : Ares xs vs) (lo hi st : Option Int) : ∃ us, slicePick vs.toArray lo hi st = us.toArray ∧ Ares (pickL xs lo hi st) us := by
  refine ⟨_, rfl, ?_⟩
  have e : (fun x => vs.toArray[x]?) = fun x : Nat => vs[x]? := by funext x; simp
  rw [e, List.size_toArray, h.length]
  exact h.pick _

section
variable {prog : Program} {w : World} {A : Around} {E : Value → Shared → Prop} {s : Shared} {hB : Heap} {oB : OsState} {G : Array GenState} {ob rest : Ledger} {env : Env} {L : Addr} {locs gs : List Str} {cl : List (Str × Addr)} {lo lo' : Lo} {x : Str} {v : AV} {xs : List AV}
variable {Q : Value → Shared → Prop}

theorem lst_len {l : Addr} {o : Obj} (ho : s.heap.get? l = some o) (h : lst xs o) : ∃ vs, s.heap.IsList l vs.toArray ∧ Ares xs vs ∧ vs.toArray.size = xs.length := by
  obtain ⟨vs, hL, ha⟩ := lst_isList ho h
  exact ⟨vs, hL, ha, by simp [ha.length]⟩
theorem r_tailList {value slice : Expr} {l : Addr} {k : Int} {u : Tok} (h : H hB oB G ob s) (pk : Pick l (lst xs) ob rest) (h0 : 0 ≤ k) (h1 : k < 2 ^ 62) (hx : xs[k.toNat]? = some v) (q : ∀ t, Q (v.v t) s)
    (hs : subscripted slice false (.ref l) (.int k u) = operate [.ref l, .int k u] (getItem (.ref l) (.int k u)) := by with_unfolding_all rfl) :
    wpAny (model prog w) A (subscriptTail value slice (.ref l) (.int k u)) Q E s := by
  obtain ⟨o, ho, hl⟩ := h.get pk
  obtain ⟨vs, hL, ha⟩ := lst_isList ho hl
  obtain ⟨t, ht⟩ := ha.get hx
  exact tail_any hL.typeIs slot_list_getitem.lookup (wpAny_getItem_list hL h0 (by omega) (by simpa using ht) (q t)) hs
theorem r_tailTup {value slice : Expr} {l : Addr} {k : Int} {u : Tok} (h : H hB oB G ob s) (pk : Pick l (tup xs) ob rest) (h0 : 0 ≤ k) (h1 : k < 2 ^ 62) (hx : xs[k.toNat]? = some v) (q : ∀ t, Q (v.v t) s)
    (hs : subscripted slice false (.ref l) (.int k u) = operate [.ref l, .int k u] (getItem (.ref l) (.int k u)) := by with_unfolding_all rfl) :
    wpAny (model prog w) A (subscriptTail value slice (.ref l) (.int k u)) Q E s := by
  obtain ⟨o, ho, vs, n, rfl, ha⟩ := h.get pk
  obtain ⟨t, ht⟩ := ha.get hx
  have hlt : k.toNat < vs.length := by
    rcases Nat.lt_or_ge k.toNat vs.length with q | q
    · exact q
    · rw [List.getElem?_eq_none q] at ht; cases ht
  exact item_tupleT ⟨_, ho, rfl, n, rfl⟩ (by omega) (by omega) (seqIndex_of h0 (by omega)) ht (q t) hs
theorem r_tailStr {value slice : Expr} {x : Str} {t : Tok} {k : Int} {u : Tok} (h : H hB oB G ob s) (h0 : 0 ≤ k) (h1 : k < x.cps.size) (h2 : k < 2 ^ 62) (q : ∀ t s', H hB oB G ob s' → Q (.str ⟨#[x.cps.getD k.toNat 0]⟩ t) s')
    (hs : subscripted slice false (.str x t) (.int k u) = operate [.str x t, .int k u] (getItem (.str x t) (.int k u)) := by with_unfolding_all rfl) :
    wpAny (model prog w) A (subscriptTail value slice (.str x t) (.int k u)) Q E s := by
  refine tail_any (typeIs_str _ _ _) F.slot_str_getitem.lookup (getItem_str (c := x.cps.getD k.toNat 0) (by rw [Bool.or_eq_false_iff]; exact ⟨decide_eq_false (by omega), decide_eq_false (by omega)⟩) ?_ (q _ _ (h.tok _))) hs
  rw [show seqIndex? k x.length = some k.toNat from seqIndex_of h0 h1]
  have hlt : k.toNat < x.cps.size := by omega
  simp [Array.getD, hlt]

theorem slice_post {x : Str} {t : Tok} {l u : Option (Int × Tok)} (hz : x.length ≤ sizeLine) (k : ∀ t' tk, Q (.str (Txt.slice x (l.map (·.1)) (u.map (·.1))) t') { s with toks := tk }) : (sliceMade x t l u none).post Q s := by
  have hz2 := Nat.le_trans (Txt.slice_le x (l.map (·.1)) (u.map (·.1))) hz
  unfold Txt.slice at k hz2
  unfold sliceMade slicePicked
  exact post_val_or_str ⟨hz2, k⟩
theorem r_strSlice {value : Expr} {lower upper : Option Expr} {p pos : Pos}
    (k : wpAny (model prog w) A (eval value env) (fun o s₁ => wpAny (model prog w) A (evalPart lower env) (fun vl s₂ => wpAny (model prog w) A (evalPart upper env) (fun vu s₃ =>
      ∃ G ob x t l u, o = .str x t ∧ vl = partValue l ∧ vu = partValue u ∧ x.length ≤ sizeLine ∧ H hB oB G ob s₃ ∧ (∀ t' s', H hB oB G ob s' → Q (.str (Txt.slice x (l.map (·.1)) (u.map (·.1))) t') s')) E s₂) E s₁) E s)
    (hs : ∀ o r, letTemporaryGo value o r = pure () := by intro _ _; rfl) : wpAny (model prog w) A (eval (.Subscript value (.Slice lower upper none p) pos) env) Q E s := by
  refine wpAny_Subscript_str_slice (wpAny_mono k (fun o s₁ k => wpAny_mono k (fun vl s₂ k => wpAny_mono k (fun vu s₃ k => ?_) fun _ _ e => e) fun _ _ e => e) fun _ _ e => e) hs
  obtain ⟨G, ob, x, t, l, u, rfl, rfl, rfl, hz, h, k⟩ := k
  refine ⟨x, t, l, u, rfl, rfl, rfl, ?_⟩
  refine slice_post hz fun t' tk => k t' _ ?_
  exact h.pushed { cls := .type "slice", data := .fields #[partValue l, partValue u, .none] } rfl
theorem r_part0 (q : Q .none s) : wpAny (model prog w) A (evalPart none env) Q E s := by rw [evalPart_none]; exact wpAny_pure q
theorem r_part1 {e : Expr} (q : wpAny (model prog w) A (eval e env) Q E s) : wpAny (model prog w) A (evalPart (some e) env) Q E s := by rw [evalPart_some]; exact q

theorem subd (l sl : Addr) (a b : Option Expr) (c : Option Expr) (p : Pos) : ∃ ops, subscripted (.Slice a b c p) false (.ref l) (.ref sl) = operate ops (getItem (.ref l) (.ref sl)) := by
  cases c with
  | none => exact ⟨_, rfl⟩
  | some e => exact ⟨_, rfl⟩
theorem r_listSlice {value : Expr} {lower upper step : Option Expr} {p pos : Pos}
    (k : wpAny (model prog w) A (eval value env) (fun o s₁ => wpAny (model prog w) A (evalPart lower env) (fun vl s₂ => wpAny (model prog w) A (evalPart upper env) (fun vu s₃ => wpAny (model prog w) A (evalPart step env) (fun vt s₄ =>
      ∃ G ob rest l xs lo hi st, o = .ref l ∧ IsPart vl lo ∧ IsPart vu hi ∧ IsPart vt st ∧ st ≠ some 0 ∧ xs.length ≤ sizeLine ∧ H hB oB G ob s₄ ∧ Pick l (lst xs) ob rest ∧
        (∀ a s', H hB oB G ((a, lst (pickL xs lo hi st)) :: ob) s' → Q (.ref a) s')) E s₃) E s₂) E s₁) E s) :
    wpAny (model prog w) A (eval (.Subscript value (.Slice lower upper step p) pos) env) Q E s := by
  refine Subscript_ (wpAny_mono k (fun o s₁ k => wpAny_Slice (wpAny_mono k (fun vl s₂ k => wpAny_mono k (fun vu s₃ k => wpAny_mono k (fun vt s₄ k => ?_) fun _ _ e => e) fun _ _ e => e) fun _ _ e => e)) fun _ _ e => e)
  obtain ⟨G, ob, rest, l, xs, lo, hi, st, rfl, p1, p2, p3, h0, hz, h, pk, k⟩ := k
  have h2 := h.pushed (s' := { s₄ with heap := s₄.heap.push { cls := .type "slice", data := .fields #[vl, vu, vt] } }) _ rfl
  obtain ⟨o, ho, hl⟩ := h2.get pk
  obtain ⟨vs, hL, ha⟩ := lst_isList ho hl
  obtain ⟨us, e, hu⟩ := ha.slice lo hi st
  obtain ⟨ops, hops⟩ := subd l s₄.heap.objs.size lower upper step p
  refine tail_any (ops := ops) hL.typeIs slot_list_getitem.lookup (wpAny_getItem_list_slice hL ⟨_, Heap.get?_push_size _ rfl, rfl, rfl⟩ p1 p2 p3 h0 (k _ _ ?_) (by simp [ha.length]; exact hz)) hops
  exact h2.push (o := { cls := .type "list", data := .seq (slicePick vs.toArray lo hi st) }) rfl ⟨us, 0, by rw [e], hu⟩ rfl

theorem r_lenList {l : Addr} (h : H hB oB G ob s) (pk : Pick l (lst xs) ob rest) (hz : xs.length ≤ sizeLine) (q : ∀ t s', H hB oB G ob s' → Q (.int xs.length t) s') : wpAny (model prog w) A (call (.builtin "len") [.ref l]) Q E s := by
  obtain ⟨o, ho, hl⟩ := h.get pk
  obtain ⟨vs, hL, ha, e⟩ := lst_len ho hl
  have hz' : sizeLine = 16777216 := by decide
  refine call_len_list hL (by rw [e]; omega) ?_
  rw [e]
  exact q _ _ (h.tok _)
theorem r_lenStr {x : Str} {t : Tok} (h : H hB oB G ob s) (hz : x.length ≤ sizeLine) (q : ∀ t s', H hB oB G ob s' → Q (.int x.length t) s') : wpAny (model prog w) A (call (.builtin "len") [.str x t]) Q E s := by
  have hz' : sizeLine = 16777216 := by decide
  exact len_str (by omega) (q _ _ (h.tok _))

theorem r_tuple {G₀ : Array GenState} {ob₀ : Ledger} (_h₀ : H hB oB G₀ ob₀ s) {elts : List Expr} {x1 : Nat} {pos : Pos} (k : wpAny (model prog w) A (spliced (backTo pos (starEach elts env))) (fun vs s₁ => ∃ xs G ob, Ares xs vs ∧ vs.length ≤ sizeLine ∧ H hB oB G ob s₁ ∧
    ∀ a s', H hB oB G ((a, tup xs) :: ob) s' → Q (.ref a) s') E s) : wpAny (model prog w) A (eval (.Tuple elts x1 pos) env) Q E s := by
  refine wpAny_Tuple_spliced (wpAny_mono k (fun vs s₁ k => ?_) fun _ _ e => e)
  obtain ⟨xs, G, ob, ha, hz, h, k⟩ := k
  exact ⟨hz, k _ _ (h.push (o := { cls := .type "tuple", data := .seq vs.toArray }) rfl ⟨vs, 0, rfl, ha⟩ rfl)⟩
theorem r_list {G₀ : Array GenState} {ob₀ : Ledger} (_h₀ : H hB oB G₀ ob₀ s) {elts : List Expr} {pos : Pos} (k : wpAny (model prog w) A (spliced (backTo pos (starEach elts env))) (fun vs s₁ => ∃ xs G ob, Ares xs vs ∧ vs.length ≤ sizeLine ∧ H hB oB G ob s₁ ∧
    ∀ a s', H hB oB G ((a, lst xs) :: ob) s' → Q (.ref a) s') E s) : wpAny (model prog w) A (eval (.List elts pos) env) Q E s := by
  refine wpAny_List_spliced (wpAny_mono k (fun vs s₁ k => ?_) fun _ _ e => e)
  obtain ⟨xs, G, ob, ha, hz, h, k⟩ := k
  exact ⟨hz, k _ _ (h.push (o := { cls := .type "list", data := .seq vs.toArray }) rfl ⟨vs, 0, rfl, ha⟩ rfl)⟩

theorem extFresh {s' : Shared} (h : H hB oB G ob s) (k : Heap.ExtBut s.heap.objs.size s.heap s'.heap) (hg : s'.gens = s.gens := by rfl) (ho : s'.os = s.os := by rfl) : H hB oB G ob s' :=
  h.of (fun b o e => k b o (Nat.ne_of_lt (Heap.lt_size e)) e) hg ho
/-- x, y = a tuple -/
theorem r_unpack2 {x y : Str} {px py pos : Pos} {c : Nat} {t : Addr} {v1 v2 : AV} {Q : Unit → Shared → Prop} (hh : A.handled = none) (h : H hB oB G ob s) (pk : Pick t (tup [v1, v2]) ob rest)
    (k : ∀ t1 t2 s', H hB oB G ob s' → wpAny (model prog w) A (storeName env x (v1.v t1)) (fun _ s'' => wpAny (model prog w) A (storeName env y (v2.v t2)) Q E s'') E s') :
    wpAny (model prog w) A (assign (.Tuple [.Name x px, .Name y py] c pos) env (.ref t)) Q E s := by
  obtain ⟨o, ho, hl⟩ := h.get pk
  obtain ⟨vs, hL, ha⟩ := tup_isTup ho hl
  cases ha with
  | cons t1 ha => cases ha with
    | cons t2 ha => cases ha with
      | nil =>
        refine wpAny_assign_Tuple hh hL rfl rfl fun h' he => ?_
        show wpAny (model prog w) A (assignInOrder [assign (.Name x px) env, assign (.Name y py) env] [v1.v t1, v2.v t2]) Q E _
        simp only [assignInOrder]
        refine wpAny_bind (wpAny_holding (wpAny_assign_Name (wpAny_mono (k t1 t2 _ (extFresh h he)) (fun _ s'' h'' => ?_) fun _ _ e => e)))
        exact wpAny_bind (wpAny_holding (wpAny_assign_Name (wpAny_mono h'' (fun _ _ q => wpAny_pure q) fun _ _ e => e)))
theorem r_assignTup {x y : Str} {px py tpos pos : Pos} {c : Nat} {value : Expr} {Q : Flow → Shared → Prop}
    (k : wpAny (model prog w) A (eval value env) (fun v s₁ => wpAny (model prog w) A (assign (.Tuple [.Name x px, .Name y py] c tpos) env v) (fun _ => Q .next) E s₁) E s)
    (h1 : swapsWithSole [.Tuple [.Name x px, .Name y py] c tpos] value pos.line env = pure false := by rfl) (h2 : swappedStores [.Tuple [.Name x px, .Name y py] c tpos] value env = pure none := by rfl) :
    wpAny (model prog w) A (exec (.Assign [.Tuple [.Name x px, .Name y py] c tpos] value pos) env) Q E s := Assign_Tuple k h1 h2
theorem assignStores_swap (env : Env) (v : Value) (x y : Str) (stores : List (Value → Sem Unit)) : assignStores env v (some [x, y]) stores =
    (do rule "assign.swapped-stores"; let items ← unpackItems v 2 none; assignInOrder [bindName env y, bindName env x] items.reverse; pure .next) := rfl
theorem r_assignSwap {x y : Str} {px py tpos pos : Pos} {c : Nat} {value : Expr} {Q : Flow → Shared → Prop} (hh : A.handled = none)
    (k : wpAny (model prog w) A (eval value env) (fun v s₁ => ∃ t v1 v2 G ob rest, v = .ref t ∧ H hB oB G ob s₁ ∧ Pick t (tup [v1, v2]) ob rest ∧
      ∀ t1 t2 s', H hB oB G ob s' → wpAny (model prog w) A (storeName env y (v2.v t2)) (fun _ s'' => wpAny (model prog w) A (storeName env x (v1.v t1)) (fun _ => Q .next) E s'') E s') E s)
    (h1 : swapsWithSole [.Tuple [.Name x px, .Name y py] c tpos] value pos.line env = pure false) (h2 : swappedStores [.Tuple [.Name x px, .Name y py] c tpos] value env = pure (some [x, y])) :
    wpAny (model prog w) A (exec (.Assign [.Tuple [.Name x px, .Name y py] c tpos] value pos) env) Q E s := by
  rw [exec_Assign_arm, h1, h2]
  refine wpAny_bind (wpAny_standAt (wpAny_bind (wpAny_pure ?_)))
  rw [if_neg Bool.false_ne_true]
  refine wpAny_bind (wpAny_mono k (fun v s₁ k => ?_) fun _ _ e => e)
  obtain ⟨t, v1, v2, G, ob, rest, rfl, h, pk, k⟩ := k
  refine wpAny_bind (wpAny_pure ?_)
  obtain ⟨o, ho, hl⟩ := h.get pk
  obtain ⟨vs, hL, ha⟩ := tup_isTup ho hl
  cases ha with
  | cons t1 ha => cases ha with
    | cons t2 ha => cases ha with
      | nil =>
        rw [assignStores_swap]
        refine wpAny_bind (wpAny_rule (wpAny_bind ?_))
        refine wpAny_unpackItems_tuple (items := #[v1.v t1, v2.v t2]) hh hL fun h' he => ?_
        simp only [List.reverse_cons, List.reverse_nil, List.nil_append, List.cons_append, assignInOrder]
        refine wpAny_bind (wpAny_bind (wpAny_holding (wpAny_bindName (wpAny_mono (k t1 t2 _ (extFresh h he)) (fun _ s'' h'' => ?_) fun _ _ e => e))))
        exact wpAny_bind (wpAny_holding (wpAny_bindName (wpAny_mono h'' (fun _ _ q => wpAny_pure (wpAny_pure q)) fun _ _ e => e)))
end

end Mine
namespace Mine
open PySem PySem.Calls PyProof.Rows PySem.W
section
variable {prog : Program} {w : World} {A : Around} {E : Value → Shared → Prop} {s : Shared} {hB : Heap} {oB : OsState} {G : Array GenState} {ob rest : Ledger} {env : Env} {L : Addr} {locs gs : List Str} {cl : List (Str × Addr)} {lo lo' : Lo} {x : Str} {v : AV} {xs : List AV}
variable {Q : Value → Shared → Prop}

theorem subN {value : Expr} {x : Str} {px : Pos} {pos : Pos}
    (h : wpAny (model prog w) A (eval value env) (fun o s₁ => wpAny (model prog w) A (eval (.Name x px) env) (fun i s₂ => wpAny (model prog w) A (subscriptTail value (.Name x px) o i) Q E s₂) E s₁) E s) :
    wpAny (model prog w) A (eval (.Subscript value (.Name x px) pos) env) Q E s := Subscript_ h
theorem subC {value : Expr} {c : Const} {kk : Nat} {px : Pos} {pos : Pos}
    (h : wpAny (model prog w) A (eval value env) (fun o s₁ => wpAny (model prog w) A (eval (.Constant c kk px) env) (fun i s₂ => wpAny (model prog w) A (subscriptTail value (.Constant c kk px) o i) Q E s₂) E s₁) E s) :
    wpAny (model prog w) A (eval (.Subscript value (.Constant c kk px) pos) env) Q E s := Subscript_ h
theorem subB {value : Expr} {l r : Expr} {op : Operator} {px : Pos} {pos : Pos}
    (h : wpAny (model prog w) A (eval value env) (fun o s₁ => wpAny (model prog w) A (eval (.BinOp l op r px) env) (fun i s₂ => wpAny (model prog w) A (subscriptTail value (.BinOp l op r px) o i) Q E s₂) E s₁) E s) :
    wpAny (model prog w) A (eval (.Subscript value (.BinOp l op r px) pos) env) Q E s := Subscript_ h
theorem subU {value : Expr} {op : UnaryOp} {l : Expr} {px : Pos} {pos : Pos}
    (h : wpAny (model prog w) A (eval value env) (fun o s₁ => wpAny (model prog w) A (eval (.UnaryOp op l px) env) (fun i s₂ => wpAny (model prog w) A (subscriptTail value (.UnaryOp op l px) o i) Q E s₂) E s₁) E s) :
    wpAny (model prog w) A (eval (.Subscript value (.UnaryOp op l px) pos) env) Q E s := Subscript_ h
theorem subS {value : Expr} {l r : Expr} {px : Pos} {pos : Pos}
    (h : wpAny (model prog w) A (eval value env) (fun o s₁ => wpAny (model prog w) A (eval (.Subscript l r px) env) (fun i s₂ => wpAny (model prog w) A (subscriptTail value (.Subscript l r px) o i) Q E s₂) E s₁) E s) :
    wpAny (model prog w) A (eval (.Subscript value (.Subscript l r px) pos) env) Q E s := Subscript_ h
theorem isTail {value slice : Expr} {o i : Value} (h : wpAny (model prog w) A (subscriptTail value slice o i) Q E s) : wpAny (model prog w) A (subscriptTail value slice o i) Q E s := h
theorem isEval {e : Expr} (h : wpAny (model prog w) A (eval e env) Q E s) : wpAny (model prog w) A (eval e env) Q E s := h
theorem isExec {e : Stmt} {Q : Flow → Shared → Prop} (h : wpAny (model prog w) A (exec e env) Q E s) : wpAny (model prog w) A (exec e env) Q E s := h
theorem isBin {o : Operator} {a b : Value} (h : wpAny (model prog w) A (binaryOp o a b) Q E s) : wpAny (model prog w) A (binaryOp o a b) Q E s := h
theorem isCmp {o : CmpOp} {a b : Value} (h : wpAny (model prog w) A (compareOp o a b) Q E s) : wpAny (model prog w) A (compareOp o a b) Q E s := h
theorem isTruthy {a : Value} {Q : Bool → Shared → Prop} (h : wpAny (model prog w) A (truthy a) Q E s) : wpAny (model prog w) A (truthy a) Q E s := h
theorem isIsTrue {e : Expr} {m : Sem Value} {Q : Bool → Shared → Prop} (h : wpAny (model prog w) A (isTrue e env m) Q E s) : wpAny (model prog w) A (isTrue e env m) Q E s := h
theorem isSpl {l : List (Bool × Sem Value)} {Q : List Value → Shared → Prop} (h : wpAny (model prog w) A (spliced l) Q E s) : wpAny (model prog w) A (spliced l) Q E s := h
theorem isCall {f : Value} {vs : List Value} {kw : List (Str × Value)} (h : wpAny (model prog w) A (call f vs kw) Q E s) : wpAny (model prog w) A (call f vs kw) Q E s := h
theorem machB (id : String) : Machine (.builtin id) := fun _ e => nomatch e
theorem machT (n : String) : Machine (.type n) := fun _ e => nomatch e
/-- o.name(args): a built-in method -/
theorem r_method {o : Expr} {name : Str} {apos pos : Pos} {args : List Expr} {pl : Sem Bool}
    (k : wpAny (model prog w) A (eval o env) (fun ov s₁ => ∃ f first, Machine f ∧ (∀ Q' : Value × List Value → Shared → Prop, Q' (f, first) s₁ → wpAny (model prog w) A (getMethod ov name pl) Q' E s₁) ∧
      wpAny (model prog w) A (spliced (backTo pos (starEach args env))) (fun vs s₂ => wpAny (model prog w) A (call f (first ++ vs)) Q E s₂) E s₁) E s)
    (he : eval (.Call (.Attribute o name apos) args [] pos) env = (do
      let ov ← eval o env
      standAt apos.atName
      let (f, first) ← holding [ov] (getMethod ov name pl)
      callWith pos f first (backTo pos (starEach args env)) (backToKw pos (keywordEach [] env))) := by rfl)
    (hp : (backTo pos (starEach args env)).any (·.1) = false := by rfl) : wpAny (model prog w) A (eval (.Call (.Attribute o name apos) args [] pos) env) Q E s := by
  refine methodCall_KW (pl := pl) (wpAny_mono k (fun ov s₁ k => ?_) fun _ _ e => e) he
  obtain ⟨f, first, hm, hg, hc⟩ := k
  exact hg _ (r_withM hm hp hc)

theorem gm_list {l : Addr} {name : Str} {id : String} {pl : Sem Bool} {Q' : Value × List Value → Shared → Prop} (h : H hB oB G ob s) (pk : Pick l (lst xs) ob rest) (slot : Slot "list" name id)
    (hty : typeOf (.builtin id) = pure (.type "method_descriptor")) (q : Q' (.builtin id, [.ref l]) s) : wpAny (model prog w) A (getMethod (.ref l) name pl) Q' E s := by
  obtain ⟨o, ho, vs, n, rfl, ha⟩ := h.get pk
  exact getMethod_builtin ⟨_, ho, rfl⟩ F.plainAttrs_list slot hty (fun a e => by cases e; exact ⟨_, ho, rfl⟩) q

theorem szB {vs : List Value} (ha : Ares xs vs) (hz : xs.length ≤ sizeLine) : vs.toArray.size ≤ sizeLine := by rw [List.size_toArray, ha.length]; exact hz
theorem mapSeq_get {hp : Heap} {l : Addr} {vs : List Value} {n : Nat} (ho : hp.get? l = some { cls := .type "list", data := .seq vs.toArray n }) (f : Array Value → Array Value) {us : List Value} (hf : f vs.toArray = us.toArray) :
    ∃ n', (hp.update l (Obj.mapSeq f)).get? l = some { cls := .type "list", data := .seq us.toArray n' } := by
  have := IsL.update ho f
  rw [hf] at this
  exact ⟨_, this⟩
theorem r_append {l : Addr} {t : Tok} (h : H hB oB G ob s) (pk : Pick l (lst xs) ob rest) (hz : xs.length ≤ sizeLine) (q : ∀ s', H hB oB G ((l, lst (xs ++ [v])) :: rest) s' → Q .none s') :
    wpAny (model prog w) A (call (.builtin "list.append") [.ref l, v.v t]) Q E s := by
  obtain ⟨o, ho, vs, n, rfl, ha⟩ := h.get pk
  refine call_meets F.slot_list_append ⟨_, ho, rfl⟩ F.entry_list_append (F.args_list_append_2 _ _) (list_append l vs.toArray n _ (szB ha hz)) ⟨ho, q _ ?_⟩
  obtain ⟨n', e⟩ := mapSeq_get ho (fun x_1 => x_1.push (v.v t)) (us := vs ++ [v.v t]) (by simp)
  exact h.updS pk (Heap.SameBut.update ..) e ⟨_, _, rfl, ha.append (.one v t)⟩
theorem r_insert {l : Addr} {i : Int} {u t : Tok} (h : H hB oB G ob s) (pk : Pick l (lst xs) ob rest) (hz : xs.length ≤ sizeLine) (h0 : 0 ≤ i) (h1 : i < 2 ^ 62) (q : ∀ s', H hB oB G ((l, lst (xs.take i.toNat ++ v :: xs.drop i.toNat)) :: rest) s' → Q .none s') :
    wpAny (model prog w) A (call (.builtin "list.insert") [.ref l, .int i u, v.v t]) Q E s := by
  obtain ⟨o, ho, vs, n, rfl, ha⟩ := h.get pk
  refine call_meets F.slot_list_insert ⟨_, ho, rfl⟩ F.entry_list_insert (F.args_list_insert_3 _ _ _) (AutoListH.list_insert_list_int_val_1 l vs.toArray n i u _ (by rw [fitsIndex_of h0 (by omega)]; decide) (szB ha hz)) ⟨ho, q _ ?_⟩
  obtain ⟨n', e⟩ := mapSeq_get ho (fun xs => have k := if i < 0 then (i + ↑xs.size).toNat else min i.toNat xs.size; (xs.extract 0 k).push (v.v t) ++ xs.extract k) (us := vs.take i.toNat ++ v.v t :: vs.drop i.toNat) (by
    simp only [if_neg (show ¬ i < 0 by omega)]
    apply Array.ext'
    rcases Nat.le_total i.toNat vs.length with q | q
    · simp [Nat.min_eq_left q]
      exact List.take_of_length_le (by simp)
    · simp [Nat.min_eq_right q, List.take_of_length_le q, List.drop_eq_nil_of_le q])
  exact h.updS pk (Heap.SameBut.update ..) e ⟨_, _, rfl, (ha.take _).append (.cons t (ha.drop _))⟩
theorem Ares.eraseIdx {xs vs} (h : Ares xs vs) : ∀ i, Ares (xs.eraseIdx i) (vs.eraseIdx i) := by
  induction h with
  | nil => intro i; simp; exact .nil
  | cons t h ih =>
    intro i
    cases i with
    | zero => exact h
    | succ i => exact .cons t (ih i)
theorem r_pop {l : Addr} {i : Int} {u : Tok} (h : H hB oB G ob s) (pk : Pick l (lst xs) ob rest) (hz : xs.length ≤ sizeLine) (h0 : 0 ≤ i) (h1 : i < 2 ^ 62) (hx : xs[i.toNat]? = some v)
    (q : ∀ t s', H hB oB G ((l, lst (xs.eraseIdx i.toNat)) :: rest) s' → Q (v.v t) s') : wpAny (model prog w) A (call (.builtin "list.pop") [.ref l, .int i u]) Q E s := by
  obtain ⟨o, ho, vs, n, rfl, ha⟩ := h.get pk
  obtain ⟨t, ht⟩ := ha.get hx
  have hlt : i.toNat < vs.length := by
    rcases Nat.lt_or_ge i.toNat vs.length with q | q
    · exact q
    · rw [List.getElem?_eq_none q] at ht; cases ht
  refine call_meets F.slot_list_pop ⟨_, ho, rfl⟩ F.entry_list_pop (F.args_list_pop_2 _ _) (MeetsSeq.list_pop_at l vs.toArray n i u i.toNat (v.v t) (fitsIndex_of h0 (by omega)) (seqIndex_of h0 (by simp; omega)) (by simpa using ht) (szB ha hz)) ⟨ho, q t _ ?_⟩
  obtain ⟨n', e⟩ := mapSeq_get ho (fun xs => xs.eraseIdxIfInBounds i.toNat) (us := vs.eraseIdx i.toNat) (by
    apply Array.ext'; simp [Array.eraseIdxIfInBounds, hlt])
  exact h.updS pk (Heap.SameBut.update ..) e ⟨_, _, rfl, ha.eraseIdx _⟩
theorem r_strCount {x y : Str} {t u : Tok} (h : H hB oB G ob s) (q : ∀ t s', H hB oB G ob s' → Q (.int (Txt.count x y) t) s') : wpAny (model prog w) A (call (.builtin "str.count") [.str x t, .str y u]) Q E s := SC.count (q _ _ (h.tok _))
theorem strs_of {xs : List AV} {vs : List Value} (ha : Ares xs vs) : ∀ {ts : List Str}, xs = ts.map AV.str → ∃ l : List (Str × Tok), vs = strValues l ∧ l.map (·.1) = ts := by
  induction ha with
  | nil => intro ts e; cases ts with
    | nil => exact ⟨[], rfl, rfl⟩
    | cons a r => cases e
  | cons t _ ih => intro ts e; cases ts with
    | nil => cases e
    | cons a r =>
      simp only [List.map_cons, List.cons.injEq] at e
      obtain ⟨rfl, e⟩ := e
      obtain ⟨l, rfl, rfl⟩ := ih e
      exact ⟨(a, t) :: l, rfl, rfl⟩
theorem r_join {x : Str} {t : Tok} {l : Addr} {ts : List Str} (h : H hB oB G ob s) (pk : Pick l (lst (ts.map AV.str)) ob rest) (hok : JoinOk x ts = true) (q : ∀ t s', H hB oB G ob s' → Q (.str (Txt.join x ts) t) s') :
    wpAny (model prog w) A (call (.builtin "str.join") [.str x t, .ref l]) Q E s := by
  obtain ⟨o, ho, hl⟩ := h.get pk
  obtain ⟨vs, hL, ha⟩ := lst_isList ho hl
  obtain ⟨ll, rfl, e⟩ := strs_of ha rfl
  exact SC.join hL e hok (fun t' k => q _ _ (h.tok k))
theorem r_addList {l b : Addr} {ys : List AV} (h : H hB oB G ob s) {rest2 : Ledger} (pk : Pick l (lst xs) ob rest) (pk2 : Pick b (lst ys) ob rest2) (hz : xs.length + ys.length ≤ sizeLine) (q : ∀ a s', H hB oB G ((a, lst (xs ++ ys)) :: ob) s' → Q (.ref a) s') :
    wpAny (model prog w) A (binaryOp .Add (.ref l) (.ref b)) Q E s := by
  obtain ⟨o, ho, vs, n, rfl, ha⟩ := h.get pk
  obtain ⟨o2, ho2, us, n2, rfl, hu⟩ := h.get pk2
  refine P.add_list ho ho2 (q _ _ ?_) (by simp [ha.length, hu.length]; exact hz)
  exact h.push (o := { cls := .type "list", data := .seq (vs.toArray ++ us.toArray) }) rfl ⟨vs ++ us, 0, by simp, ha.append hu⟩ rfl

theorem le_size {n : Nat} (h : n ≤ 16777216) : n ≤ sizeLine := by rw [show sizeLine = 16777216 from by decide]; exact h
/-- a while loop, its state indexed by a ghost -/
theorem r_while {α : Type} {test : Expr} {body : List Stmt} {pos : Pos} {Q : Flow → Shared → Prop} (m : α → Nat) (Ld : α → Ledger) (a₀ : α) (Ok : α → Prop) (h₀ : Ok a₀) (h : H hB oB G (Ld a₀) s)
    (turn : ∀ a E' s', Ok a → H hB oB G (Ld a) s' → wpAny (model prog w) A (isTrue test env (eval test env)) (fun b s₂ => if b = true then wpAny (model prog w) A (execs body env) (TurnEnd Q fun s₃ => ∃ a', m a' < m a ∧ Ok a' ∧ H hB oB G (Ld a') s₃) E' s₂ else Q .next s₂) E' s') :
    wpAny (model prog w) A (exec (.While test body [] pos) env) Q E s := by
  refine wpAny_While ?_
  refine codeAny_whileLoop (fun n s' => ∃ a, n = m a ∧ Ok a ∧ H hB oB G (Ld a) s') ?_ (m a₀) ⟨a₀, rfl, h₀, h⟩
  rintro n s' ⟨a, rfl, ho, h'⟩
  refine wpAny_mono (turn a _ s' ho h') (fun b s₂ hb => ?_) fun _ _ e => e
  cases b with
  | false => rw [if_neg Bool.false_ne_true] at hb ⊢; exact wpAny_execs_nil hb
  | true =>
    rw [if_pos rfl] at hb ⊢
    refine wpAny_mono hb (fun f s₃ hf => ?_) fun _ _ e => e
    cases f with
    | next => obtain ⟨a', h1, h2, h3⟩ := hf; exact ⟨m a', h1, a', rfl, h2, h3⟩
    | cont => obtain ⟨a', h1, h2, h3⟩ := hf; exact ⟨m a', h1, a', rfl, h2, h3⟩
    | brk => exact hf
    | ret v => exact hf
end
/-- a def with defaults (0, None) and key=None -/
structure FnD (hB : Heap) (a T D : Addr) (name : Str) (params : Arguments) (body : List Stmt) (sc : Scope) : Prop where
  fn : FnF hB a name name params body sc (.ref T) (.ref D)
  ex : ∃ (t u : Tok) (hs : Int), hB.get? T = some { cls := .type "tuple", data := .seq #[.int 0 t, .none] } ∧ hB.get? D = some { cls := .type "dict", data := .dict #[⟨hs, .str "key" u, .none⟩] 1 }

end Mine
namespace Mine
open PySem PySem.Calls PyProof.Rows PySem.W
section
variable {prog : Program} {w : World} {A : Around} {E : Value → Shared → Prop} {s : Shared} {hB : Heap} {oB : OsState} {G : Array GenState} {ob rest : Ledger} {env : Env} {L : Addr} {locs gs : List Str} {cl : List (Str × Addr)} {lo lo' : Lo} {x : Str} {v : AV} {xs : List AV}
variable {Q : Value → Shared → Prop}

/-- an object that is a def or a lambda -/
noncomputable def fnp : OP := fun o => ∃ fd, o.data = .func fd
noncomputable def FnHere (a : Addr) (h : Heap) : Prop := ∃ o fd, h.get? a = some o ∧ o.data = .func fd
theorem keeper_fn {M : Model} {a : Addr} (h : Heap) (x : FnHere a h) : ∃ k, (k = Keeper.frame ∨ k = Keeper.machine ∨ k = Keeper.boundFrame) ∧ Looks M h (keeperOf (.ref a)) k := by
  obtain ⟨o, fd, ho, hd⟩ := x
  refine ⟨.frame, .inl rfl, ?_⟩
  unfold keeperOf
  refine (Looks.ld (part := none) ho).andThen ?_
  rw [hd]
  exact .now
theorem r_withV {pos : Pos} {a : Addr} {first : List Value} {args : List (Bool × Sem Value)} (hp : args.any (·.1) = false)
    (h : wpAny (model prog w) A (spliced args) (fun vs s₁ => FnHere a s₁.heap ∧ wpAny (model prog w) A (call (.ref a) (first ++ vs)) Q E s₁) E s) : wpAny (model prog w) A (callWith pos (.ref a) first args []) Q E s :=
  callWith_of (P := FnHere a) (by rw [hp]; rfl) keeper_fn (evalArgs_spl hp h)
/-- f(args), f a name whose value is a function -/
theorem r_callV {f : Str} {p pos : Pos} {args : List Expr} (k : wpAny (model prog w) A (eval (.Name f p) env) (fun fv s₁ => ∃ a, fv = .ref a ∧
      wpAny (model prog w) A (spliced (backTo pos (starEach args env))) (fun vs s₂ => FnHere a s₂.heap ∧ wpAny (model prog w) A (call (.ref a) vs) Q E s₂) E s₁) E s)
    (hp : (backTo pos (starEach args env)).any (·.1) = false := by rfl) : wpAny (model prog w) A (eval (.Call (.Name f p) args [] pos) env) Q E s :=
  wpAny_Call_Name_kw (wpAny_mono k (fun fv s₁ ⟨a, e, k⟩ => e ▸ r_withV hp k) fun _ _ e => e)

theorem r_callKw {f kn : Str} {p pos kpos : Pos} {a : Addr} {e0 ke : Expr} {args : List Expr} (he : Ev env L locs cl gs) (h : H hB oB G ob s) (hx : f ∈ gs) (hg : Glob hB f (.ref a)) (hf : IsFn hB a)
    (k : wpAny (model prog w) A (spliced (backTo pos (starEach (e0 :: args) env))) (fun vs s₁ => wpAny (model prog w) A (eval ke env) (fun kv s₂ => Live hB oB s₂ ∧ wpAny (model prog w) A (call (.ref a) vs [(kn, kv)]) Q E s₂) E s₁) E s)
    (hs : starEach (e0 :: args) env = (false, eval e0 env) :: starEach args env := by rfl) :
    wpAny (model prog w) A (eval (.Call (.Name f p) (e0 :: args) [{ arg := some kn, value := ke, pos := kpos }] pos) env) Q E s := by
  obtain ⟨o, fd, ho, hd⟩ := hf
  refine wpAny_Call_Name_kw (r_glob he h hx hg (callWith_function_kw (o := o) (fd := fd) ?_))
  rw [hs] at k ⊢
  refine evalArgs_kw rfl (wpAny_mono k (fun vs s₁ k => ?_) fun _ _ e => e)
  refine wpAny_evalAll_cons ?_
  refine wpAny_bind (wpAny_mono k (fun kv s₂ k => ?_) fun _ _ e => e)
  obtain ⟨⟨_, _, l⟩, k⟩ := k
  refine wpAny_bind (wpAny_standAt (wpAny_pure (wpAny_evalAll_nil ⟨⟨l.keep _ _ ho, hd⟩, k⟩)))
theorem r_exprStmt {e : Expr} {pos : Pos} {Q : Flow → Shared → Prop} (he : Ev env L locs cl gs) (k : wpAny (model prog w) A (eval e env) (fun v s' => match v with | .ref _ => False | _ => Q .next s') E s)
    (hs : swapsWith e none pos.line env = pure false := by rfl) : wpAny (model prog w) A (exec (.Expr e pos) env) Q E s := wpAny_Expr k he.int hs
/-- a function of one int that gives an int, as long as K0 stands -/
structure KeyFn (prog : Program) (w : World) (hB : Heap) (oB : OsState) (f : Addr) (n : Nat) (K0 : Ledger) (g : Int → Int) (dom : Int → Prop) : Prop where
  fn : ∃ P, (f, P) ∈ K0 ∧ ∀ o, P o → fnp o
  call : ∀ (A : Around) (E : Value → Shared → Prop) (s : Shared) (G : Array GenState) (R : Ledger) (Q : Value → Shared → Prop) (v : Int) (t : Tok), Rm n A → dom v → H hB oB G (K0 ++ R) s →
    (∀ t s', H hB oB G (K0 ++ R) s' → Q (.int (g v) t) s') → wpAny (model prog w) A (call (.ref f) [.int v t]) Q E s
section
variable {f : Addr} {n : Nat} {K0 R : Ledger} {g : Int → Int} {dom : Int → Prop}
theorem KeyFn.here (kf : KeyFn prog w hB oB f n K0 g dom) (hp : ob.Perm (K0 ++ R)) (h : H hB oB G ob s) : FnHere f s.heap := by
  obtain ⟨P, hm, hP⟩ := kf.fn
  obtain ⟨o, ho, q⟩ := h.at' (f, P) (hp.mem_iff.mpr (List.mem_append_left _ hm))
  obtain ⟨fd, hd⟩ := hP o q
  exact ⟨o, fd, ho, hd⟩
theorem KeyFn.use (kf : KeyFn prog w hB oB f n K0 g dom) (hp : ob.Perm (K0 ++ R)) (h : H hB oB G ob s) (rm : Rm n A) {v : Int} {t : Tok} (hd : dom v) (k : ∀ t s', H hB oB G ob s' → Q (.int (g v) t) s') :
    wpAny (model prog w) A (PySem.call (.ref f) [.int v t]) Q E s :=
  kf.call _ _ _ G R _ _ _ rm hd (h.perm hp) fun t s' h' => k t s' (h'.perm hp.symm)
theorem perm_front (X : Ledger) (hp : ob.Perm (K0 ++ R)) : (X ++ ob).Perm (K0 ++ (X ++ R)) := by
  refine (List.Perm.append_left X hp).trans ?_
  rw [← List.append_assoc, ← List.append_assoc]
  exact List.Perm.append_right R List.perm_append_comm
theorem perm_cons (x : Addr × OP) (hp : ob.Perm (K0 ++ R)) : (x :: ob).Perm (K0 ++ (x :: R)) := perm_front [x] hp
end
end

end Mine
namespace Mine
open PySem PySem.Calls PyProof.Rows PySem.W
/-- one more token taken -/
noncomputable def tick (s : Shared) : Shared := { s with toks := s.toks + 1 }
noncomputable def tk (s : Shared) (n : Nat) : Shared := { s with toks := n }
/-- the token that a name bears -/
noncomputable def tkL (s : Shared) (L : Addr) (x : Str) (v : AV) : Tok := Classical.epsilon fun t => ∃ m, s.heap.Ns L m ∧ m x = some (v.v t)
noncomputable def tkC (s : Shared) (c : Addr) (v : AV) : Tok := Classical.epsilon fun t => ∃ o, s.heap.get? c = some o ∧ o.data = .cell (some (v.v t))
noncomputable def tkI (s : Shared) (l : Addr) (i : Nat) (v : AV) : Tok := Classical.epsilon fun t => ∃ vs : List Value, s.heap.IsList l vs.toArray ∧ vs[i]? = some (v.v t)
section
variable {prog : Program} {w : World} {A : Around} {E : Value → Shared → Prop} {s : Shared} {hB : Heap} {oB : OsState} {G : Array GenState} {ob rest : Ledger} {env : Env} {L : Addr} {locs gs : List Str} {cl : List (Str × Addr)} {lo lo' : Lo} {x : Str} {v : AV} {xs : List AV}
theorem H.tick (h : H hB oB G ob s) : H hB oB G ob (tick s) := h.tok _
theorem H.tk {n : Nat} (h : H hB oB G ob s) : H hB oB G ob (tk s n) := h.tok _
theorem t_loadLocal {Q : Value → Shared → Prop} (he : Ev env L locs cl gs) (h : H hB oB G ob s) (pk : Pick L (nsp locs lo) ob rest) (hx : (x, some v) ∈ lo) (k : Q (v.v (tkL s L x v)) s) :
    wpAny (model prog w) A (loadName env x) Q E s := by
  obtain ⟨o, ho, hn⟩ := h.get pk
  obtain ⟨m, hm, hv⟩ := nsp_ns hn ho
  obtain ⟨t, ht⟩ := hv x v hx
  obtain ⟨m', hm', ht'⟩ := Classical.epsilon_spec (p := fun t => ∃ m, s.heap.Ns L m ∧ m x = some (v.v t)) ⟨t, m, hm, ht⟩
  exact wpAny_loadName_local he.kind (he.isLoc x (lo_key hn.1 hx)).1 (he.loc ▸ hm') ht' k
theorem t_local {pos : Pos} {Q : Value → Shared → Prop} (he : Ev env L locs cl gs) (h : H hB oB G ob s) (pk : Pick L (nsp locs lo) ob rest) (hx : (x, some v) ∈ lo) (k : Q (v.v (tkL s L x v)) s) :
    wpAny (model prog w) A (eval (.Name x pos) env) Q E s := by
  obtain ⟨o, ho, hn⟩ := h.get pk
  exact wpAny_Name (t_loadLocal he h pk hx k) (he.isLoc x (lo_key hn.1 hx)).2
theorem t_cell {pos : Pos} {c : Addr} {Q : Value → Shared → Prop} (he : Ev env L locs cl gs) (h : H hB oB G ob s) (hc : (x, c) ∈ cl) (pk : Pick c (celp (some v)) ob rest) (k : Q (v.v (tkC s c v)) s) :
    wpAny (model prog w) A (eval (.Name x pos) env) Q E s := by
  obtain ⟨o, ho, vv, hd, hv⟩ := h.get pk
  obtain ⟨t, rfl⟩ := hv v rfl
  obtain ⟨o', ho', hd'⟩ := Classical.epsilon_spec (p := fun t => ∃ o, s.heap.get? c = some o ∧ o.data = .cell (some (v.v t))) ⟨t, o, ho, hd⟩
  obtain ⟨hk, hl, hdb, hcd⟩ := he.isCell _ hc
  refine wpAny_Name ?_ hdb
  rcases hk with hk | hk
  · exact wpAny_loadName_cell he.kind hk hl ⟨o', ho', hd'⟩ k
  · exact wpAny_loadName_free he.kind hk hl ⟨o', ho', hd'⟩ k hcd
theorem t_tailList {value slice : Expr} {l : Addr} {k : Int} {u : Tok} {Q : Value → Shared → Prop} (h : H hB oB G ob s) (pk : Pick l (lst xs) ob rest) (h0 : 0 ≤ k) (h1 : k < 2 ^ 62) (hx : xs[k.toNat]? = some v)
    (hs : subscripted slice false (.ref l) (.int k u) = operate [.ref l, .int k u] (getItem (.ref l) (.int k u))) (q : Q (v.v (tkI s l k.toNat v)) s) :
    wpAny (model prog w) A (subscriptTail value slice (.ref l) (.int k u)) Q E s := by
  obtain ⟨o, ho, hl⟩ := h.get pk
  obtain ⟨vs, hL, ha⟩ := lst_isList ho hl
  obtain ⟨t, ht⟩ := ha.get hx
  obtain ⟨vs', hL', ht'⟩ := Classical.epsilon_spec (p := fun t => ∃ vs : List Value, s.heap.IsList l vs.toArray ∧ vs[k.toNat]? = some (v.v t)) ⟨t, vs, hL, ht⟩
  exact tail_any hL'.typeIs slot_list_getitem.lookup (wpAny_getItem_list hL' h0 (Int.lt_trans h1 (by decide)) (by rw [List.getElem?_toArray]; exact ht') q) hs
section
variable {Q : Value → Shared → Prop} {a b : Int} {t u : Tok}
theorem t_int {i : Int} {k : Nat} {pos : Pos} (q : Q (.int i s.toks) (tick s)) : wpAny (model prog w) A (eval (.Constant (.int i) k pos) env) Q E s := wpAny_Constant_int q
theorem t_str {x : Str} {k : Nat} {pos : Pos} (q : Q (.str x s.toks) (tick s)) : wpAny (model prog w) A (eval (.Constant (.str x) k pos) env) Q E s := Constant_str q
theorem t_add (q : Q (.int (a + b) s.toks) (tick s)) : wpAny (model prog w) A (binaryOp .Add (.int a t) (.int b u)) Q E s := add_int q
theorem t_iadd (q : Q (.int (a + b) s.toks) (tick s)) : wpAny (model prog w) A (inplaceOp .Add (.int a t) (.int b u)) Q E s := iadd_int q
theorem t_sub (q : Q (.int (a - b) s.toks) (tick s)) : wpAny (model prog w) A (binaryOp .Sub (.int a t) (.int b u)) Q E s := sub_int q
theorem t_isub (q : Q (.int (a - b) s.toks) (tick s)) : wpAny (model prog w) A (inplaceOp .Sub (.int a t) (.int b u)) Q E s := isub_int q
theorem t_mul (ha : -(2 ^ 60) ≤ a ∧ a ≤ 2 ^ 60) (hb : -(2 ^ 60) ≤ b ∧ b ≤ 2 ^ 60) (q : Q (.int (a * b) s.toks) (tick s)) : wpAny (model prog w) A (binaryOp .Mult (.int a t) (.int b u)) Q E s := mul_int q (mulOk ha.1 ha.2 hb.1 hb.2)
theorem t_fdiv (hb : b ≠ 0) (hb2 : b.natAbs < 1073741824) (q : Q (.int (a.fdiv b) s.toks) (tick s)) : wpAny (model prog w) A (binaryOp .FloorDiv (.int a t) (.int b u)) Q E s := floordiv_int hb q (.inl (PyProof.noPylong_small hb2))
theorem t_fmod (hb : b ≠ 0) (q : Q (.int (a.fmod b) s.toks) (tick s)) : wpAny (model prog w) A (binaryOp .Mod (.int a t) (.int b u)) Q E s := mod_int' hb q
theorem t_shr (hb : 0 ≤ b) (q : Q (.int (a.fdiv (2 ^ b.toNat)) s.toks) (tick s)) : wpAny (model prog w) A (binaryOp .RShift (.int a t) (.int b u)) Q E s := rshift_int hb q
theorem t_and (q : Q (.int (Builtin.bitAnd a b) s.toks) (tick s)) : wpAny (model prog w) A (binaryOp .BitAnd (.int a t) (.int b u)) Q E s := and_int q
theorem t_neg (q : Q (.int (-a) s.toks) (tick s)) : wpAny (model prog w) A (unaryOp .USub (.int a t)) Q E s := neg_int q
theorem t_cat {x y : Str} (hl : x.length + y.length ≤ sizeLine) (q : ∀ t n, Q (.str (x ++ y) t) (tk s n)) : wpAny (model prog w) A (binaryOp .Add (.str x t) (.str y u)) Q E s := add_str q hl
theorem t_smul {x : Str} {n : Int} (hl : MulOk x n) (q : ∀ t m, Q (.str (Txt.mul x n) t) (tk s m)) : wpAny (model prog w) A (binaryOp .Mult (.str x t) (.int n u)) Q E s := SB.mul hl q
theorem t_lenList {l : Addr} (h : H hB oB G ob s) (pk : Pick l (lst xs) ob rest) (hz : xs.length ≤ sizeLine) (q : Q (.int xs.length (s.toks + 1)) (tick (tick s))) : wpAny (model prog w) A (call (.builtin "len") [.ref l]) Q E s := by
  obtain ⟨o, ho, hl⟩ := h.get pk
  obtain ⟨vs, hL, ha, e⟩ := lst_len ho hl
  have hz' : sizeLine = 16777216 := by decide
  refine call_len_list hL (by rw [e]; omega) ?_
  rw [e]
  exact q
theorem t_lenStr {x : Str} (hz : x.length ≤ sizeLine) (q : Q (.int x.length (s.toks + 1)) (tick (tick s))) : wpAny (model prog w) A (call (.builtin "len") [.str x t]) Q E s := by
  have hz' : sizeLine = 16777216 := by decide
  exact len_str (by omega) q
theorem t_attr {x attr : Str} {xp pos : Pos} (he : eval (.Attribute (.Name x xp) attr pos) env = (do
      let o ← eval (.Name x xp) env
      standAt pos.atName
      let r ← holding [o] (getAttr o attr true)
      letTemporaryGo (.Name x xp) o r
      pure r)) (k : wpAny (model prog w) A (eval (.Name x xp) env) (fun o s₁ => wpAny (model prog w) A (getAttr o attr true) Q E s₁) E s) : wpAny (model prog w) A (eval (.Attribute (.Name x xp) attr pos) env) Q E s := Attribute_Name_ k he
theorem t_cmp {l r : Expr} {op : CmpOp} {pos : Pos} (hs : behindInMarks op r = false) (k : wpAny (model prog w) A (eval l env) (fun a s₁ => wpAny (model prog w) A (eval r env) (fun b s₂ => wpAny (model prog w) A (compareOp op a b) Q E s₂) E s₁) E s) :
    wpAny (model prog w) A (eval (.Compare l [op] [r] pos) env) Q E s := wpAny_Compare1 k hs
theorem t_isCmp {l r : Expr} {op : CmpOp} {pos : Pos} {whole : Sem Value} {Q : Bool → Shared → Prop} (hs : behindInMarks op r = false)
    (k : wpAny (model prog w) A (eval l env) (fun a s₁ => wpAny (model prog w) A (eval r env) (fun b s₂ => wpAny (model prog w) A (compareOp op a b) (fun c s₃ => wpAny (model prog w) A (truthy c) Q E s₃) E s₂) E s₁) E s) :
    wpAny (model prog w) A (isTrue (.Compare l [op] [r] pos) env whole) Q E s := wpAny_isTrue_Compare1 k hs
theorem t_truth {e : Expr} {whole : Sem Value} {Q : Bool → Shared → Prop} (hs : isTrue e env whole = (do let v ← whole; standAt e.pos; holding [v] (truthy v)))
    (h : wpAny (model prog w) A whole (fun v s₁ => wpAny (model prog w) A (truthy v) Q E s₁) E s) : wpAny (model prog w) A (isTrue e env whole) Q E s := r_truth h hs
theorem t_arg {pos : Pos} {e : Expr} {es : List Expr} {Q : List Value → Shared → Prop} (hs : starEach (e :: es) env = (false, eval e env) :: starEach es env)
    (h : wpAny (model prog w) A (eval e env) (fun v s₁ => wpAny (model prog w) A (spliced (backTo pos (starEach es env))) (fun vs s₂ => Q (v :: vs) s₂) E s₁) E s) : wpAny (model prog w) A (spliced (backTo pos (starEach (e :: es) env))) Q E s := r_arg h hs
theorem t_callF {f : Str} {p pos : Pos} {a : Addr} {args : List Expr} (he : Ev env L locs cl gs) (h : H hB oB G ob s) (hx : f ∈ gs) (hg : Glob hB f (.ref a)) (hf : IsFn hB a) (hp : (backTo pos (starEach args env)).any (·.1) = false)
    (k : wpAny (model prog w) A (spliced (backTo pos (starEach args env))) (fun vs s₁ => Live hB oB s₁ ∧ wpAny (model prog w) A (call (.ref a) vs) Q E s₁) E s) : wpAny (model prog w) A (eval (.Call (.Name f p) args [] pos) env) Q E s := r_callF he h hx hg hf k hp
theorem t_callB {f : Str} {p pos : Pos} {g : Value} {args : List Expr} (he : Ev env L locs cl gs) (h : H hB oB G ob s) (hx : f ∈ gs) (hg : Glob hB f g) (hf : Machine g) (hp : (backTo pos (starEach args env)).any (·.1) = false)
    (k : wpAny (model prog w) A (spliced (backTo pos (starEach args env))) (fun vs s₁ => wpAny (model prog w) A (call g vs) Q E s₁) E s) : wpAny (model prog w) A (eval (.Call (.Name f p) args [] pos) env) Q E s := r_callB he h hx hg hf k hp
end
section
variable {Q : Flow → Shared → Prop} {e : Expr} {pos' pos : Pos} {st : List Stmt}
theorem t_assign (hs : swapsWith e (some (.Name x pos')) pos.line env = pure false) (h : wpAny (model prog w) A (eval e env) (fun v s₁ => wpAny (model prog w) A (storeName env x v) (fun _ => Q .next) E s₁) E s) :
    wpAny (model prog w) A (exec (.Assign [.Name x pos'] e pos) env) Q E s := r_assign h hs
theorem t_assignTup {y : Str} {px py tpos pos : Pos} {c : Nat} {value : Expr} (h1 : swapsWithSole [.Tuple [.Name x px, .Name y py] c tpos] value pos.line env = pure false) (h2 : swappedStores [.Tuple [.Name x px, .Name y py] c tpos] value env = pure none)
    (k : wpAny (model prog w) A (eval value env) (fun v s₁ => wpAny (model prog w) A (assign (.Tuple [.Name x px, .Name y py] c tpos) env v) (fun _ => Q .next) E s₁) E s) :
    wpAny (model prog w) A (exec (.Assign [.Tuple [.Name x px, .Name y py] c tpos] value pos) env) Q E s := r_assignTup k h1 h2
theorem x_assign (hs : swapsWith e (some (.Name x pos')) pos.line env = pure false) (h : wpAny (model prog w) A (eval e env) (fun v s₁ => wpAny (model prog w) A (storeName env x v) (fun _ s₂ => wpAny (model prog w) A (execs st env) Q E s₂) E s₁) E s) :
    wpAny (model prog w) A (execs (.Assign [.Name x pos'] e pos :: st) env) Q E s := wpAny_execs_cons (r_assign h hs)
theorem x_assignTup {y : Str} {px py tpos pos : Pos} {c : Nat} {value : Expr} (h1 : swapsWithSole [.Tuple [.Name x px, .Name y py] c tpos] value pos.line env = pure false) (h2 : swappedStores [.Tuple [.Name x px, .Name y py] c tpos] value env = pure none)
    (k : wpAny (model prog w) A (eval value env) (fun v s₁ => wpAny (model prog w) A (assign (.Tuple [.Name x px, .Name y py] c tpos) env v) (fun _ s₂ => wpAny (model prog w) A (execs st env) Q E s₂) E s₁) E s) :
    wpAny (model prog w) A (execs (.Assign [.Tuple [.Name x px, .Name y py] c tpos] value pos :: st) env) Q E s := wpAny_execs_cons (r_assignTup k h1 h2)
theorem x_aug {op : Operator} (h : wpAny (model prog w) A (loadName env x) (fun old s₁ => wpAny (model prog w) A (eval e env) (fun v s₂ => wpAny (model prog w) A (inplaceOp op old v)
      (fun r s₃ => wpAny (model prog w) A (storeName env x r) (fun _ s₄ => wpAny (model prog w) A (execs st env) Q E s₄) E s₃) E s₂) E s₁) E s) :
    wpAny (model prog w) A (execs (.AugAssign (.Name x pos') op e pos :: st) env) Q E s := wpAny_execs_cons (wpAny_AugAssign_Name h)
theorem x_ret (h : wpAny (model prog w) A (eval e env) (fun v => Q (.ret v)) E s) : wpAny (model prog w) A (execs (.Return (some e) pos :: st) env) Q E s := wpAny_execs_cons (wpAny_Return_some h)
end
end

end Mine
namespace Mine
open PySem PySem.Calls PyProof.Rows PySem.W
/-- a text by its signs -/
noncomputable def S (l : List Nat) : Str := ⟨l.toArray⟩
theorem S_of (x : Str) : x = S x.cps.toList := by cases x; simp [S]
theorem S_cps (l : List Nat) : (S l).cps.toList = l := by simp [S]
theorem S_size (l : List Nat) : (S l).cps.size = l.length := by simp [S]
theorem S_len (l : List Nat) : (S l).length = l.length := by simp [S, Str.length]
theorem Str_ext {x y : Str} (h : x.cps.toList = y.cps.toList) : x = y := by rw [S_of x, S_of y, h]
theorem S_app (a b : List Nat) : S a ++ S b = S (a ++ b) := by
  apply Str_ext
  rw [Str.cps_append, S_cps]; simp [S]
theorem S_nil : S [] = Str.ofString "" := by decide +kernel
theorem foldl_app (n : Nat) (a : Array Nat) : ∀ (b : Array Nat), (List.foldl (fun x1 x2 => x1 ++ x2) b (List.replicate n a)).toList = b.toList ++ (List.replicate n a.toList).flatten := by
  induction n with
  | zero => intro b; simp
  | succ n ih => intro b; rw [List.replicate_succ, List.foldl_cons, ih]; simp [List.replicate_succ]
noncomputable def mulL (l : List Nat) (n : Int) : List Nat := (List.replicate n.toNat l).flatten
theorem S_mul (l : List Nat) (n : Int) : Txt.mul (S l) n = S (mulL l n) := by
  unfold Txt.mul mulL
  split
  · rename_i h
    rw [show n.toNat = 0 by omega]; rfl
  · split
    · rename_i h1 h
      rw [Bool.or_eq_true] at h
      rcases h with h | h
      · rw [beq_iff_eq] at h; subst h; simp
      · rw [beq_iff_eq, S_len] at h
        rw [List.length_eq_zero_iff.mp h]
        apply Str_ext; rw [S_cps, S_cps]; simp
    · apply Str_ext
      rw [S_cps]
      show (List.foldl _ #[] (List.replicate n.toNat (S l).cps)).toList = _
      rw [foldl_app, S_cps]; simp
theorem mulL_one (c : Nat) (n : Int) : mulL [c] n = List.replicate n.toNat c := by
  unfold mulL
  induction n.toNat with
  | zero => rfl
  | succ k ih => rw [List.replicate_succ, List.flatten_cons, ih, List.replicate_succ]; rfl
theorem bdw {z a b c d : Int} (h : a ≤ z ∧ z ≤ b) (h1 : c ≤ a) (h2 : b ≤ d) : c ≤ z ∧ z ≤ d := ⟨Int.le_trans h1 h.1, Int.le_trans h.2 h2⟩
theorem mul_bd {a b : Int} (ha : -10 ≤ a ∧ a ≤ 10) (hb : -10 ≤ b ∧ b ≤ 10) : -100 ≤ a * b ∧ a * b ≤ 100 := by
  have h : (a * b).natAbs ≤ 10 * 10 := by rw [Int.natAbs_mul]; exact Nat.mul_le_mul (by omega) (by omega)
  generalize a * b = c at h
  omega
theorem mulL_len (l : List Nat) (n : Int) : (mulL l n).length = n.toNat * l.length := by
  unfold mulL
  rw [List.length_flatten, List.map_replicate, List.sum_replicate_nat]
theorem mulL_le {l : List Nat} {n : Int} {k : Nat} (h : n ≤ k) : (mulL l n).length ≤ k * l.length := by
  rw [mulL_len]
  exact Nat.mul_le_mul_right _ (Int.toNat_le.mpr h)
theorem mulOkS (l : List Nat) (n : Int) (hl : l.length ≤ 100) (hn : -10000 ≤ n ∧ n ≤ 10000) : MulOk (S l) n := by
  refine ⟨by rw [Bool.or_eq_false_iff]; exact ⟨decide_eq_false (by omega), decide_eq_false (by omega)⟩, fun h _ => ?_, fun h _ => ?_⟩
  · rw [S_len]
    have h2 : (100 : Int) ≤ (2 ^ 63 - 1) / n := by
      rw [Int.le_ediv_iff_mul_le (by omega)]; omega
    omega
  · unfold Builtin.Str.tooLong
    rw [S_len]
    refine decide_eq_false ?_
    have h1 : l.length * n.toNat ≤ 100 * 10000 := Nat.mul_le_mul hl (by omega)
    have := le_size (n := l.length * n.toNat) (by omega)
    omega
theorem S_beq (a b : List Nat) : (S a == S b) = decide (a = b) := by
  by_cases q : a = b
  · subst q; simp
  · rw [decide_eq_false q]
    refine beq_eq_false_iff_ne.mpr fun e => q ?_
    have := congrArg (fun x : Str => x.cps.toList) e
    simpa [S] using this
theorem S_sgn (l : List Nat) (i : Nat) : sgn (S l) i = .str (S [l.getD i 0]) := by
  simp [sgn, S, Array.getD, List.getD_eq_getElem?_getD]
  split
  · rename_i h; rw [List.getElem?_eq_getElem h]; rfl
  · rename_i h; rw [List.getElem?_eq_none (by omega)]; rfl

end Mine
namespace Mine
open PySem PySem.Calls PyProof.Rows PySem.W
theorem ite_same {α : Type} {c : Prop} [Decidable c] {x y : α} (h : y = x) : (if c then x else y) = x := by rw [h, ite_self]
theorem swapNone {ts vs : List Expr} {c c2 : Nat} {p p2 : Pos} {env : Env} (h : vs.all (foldedForSure 8) = true) :
    swappedStores [.Tuple ts c p] (.Tuple vs c2 p2) env = pure none :=
  ite_same (ite_same (ite_same (if_pos h)))
theorem swapSome {env : Env} {L : Addr} {locs gs : List Str} {cl : List (Str × Addr)} (he : Ev env L locs cl gs) {x y : Str} {px py : Pos} {v1 v2 : Expr} {c c2 : Nat} {p p2 : Pos} (hx : x ∈ locs) (hy : y ∈ locs) (hn : (x == y) = false)
    (hl : px.line = py.line) (h1 : ([v1, v2].any fun e => swappedStores.match_5 (fun _ => Bool) e (fun _ _ => true) (fun _ => false)) = false) (h2 : [v1, v2].all (foldedForSure 8) = false) (h3 : [v1, v2].all (constantsAlone 8) = false) :
    swappedStores [.Tuple [.Name x px, .Name y py] c p] (.Tuple [v1, v2] c2 p2) env = pure (some [x, y]) := by
  have k1 : env.blockKind = .function := by unfold Env.blockKind; rw [he.kind]; rfl
  have kx := (he.isLoc x hx).1
  have ky := (he.isLoc y hy).1
  have hn2 : (y == x) = false := by
    have : x ≠ y := by simpa using hn
    simpa using this.symm
  have hb : ∀ l, (l == l) = true := fun l => beq_self_eq_true (α := Nat) l
  have a1 : (if env.kindOf x == some .local && px.line == px.line then some x else none) = some x := if_pos (by rw [kx, hb]; rfl)
  have a2 : (if env.kindOf y == some .local && py.line == px.line then some y else none) = some y := if_pos (by rw [ky, hl, hb]; rfl)
  have e : ∀ f : Expr → Option Str, f (.Name x px) = some x → f (.Name y py) = some y → [Expr.Name x px, Expr.Name y py].filterMap f = [x, y] := fun f a b => by rw [List.filterMap_cons_some a, List.filterMap_cons_some b]; rfl
  have d : [x, y].eraseDups = [x, y] := by rw [List.eraseDups_cons, List.filter_cons_of_pos (by rw [hn2]; rfl)]; rfl
  have key : ∀ l : List Str, l = [x, y] → (if (l.length != 2 || l.eraseDups.length != l.length) = true then (pure none : Sem (Option (List Str))) else if [v1, v2].all (foldedForSure 8) = true then pure none else if [v1, v2].all (constantsAlone 8) = true then (do let _ ← (unsupported "assign.tuple-of-constant-expressions:order-of-the-stores" : Sem PUnit); pure (some l)) else pure (some l)) = pure (some [x, y]) := by
    rintro l rfl
    rw [d, h2, h3]
    rfl
  exact (if_neg (by rw [k1]; exact Bool.false_ne_true)).trans ((if_neg (fun q => by exact absurd (h1.symm.trans q) (by decide))).trans (key _ (e _ (by exact a1) (by exact a2))))
section
variable {prog : Program} {w : World} {A : Around} {E : Value → Shared → Prop} {s : Shared} {hB : Heap} {oB : OsState} {G : Array GenState} {ob rest : Ledger} {Q : Value → Shared → Prop}
theorem r_catS {a b : List Nat} {t u : Tok} (h : H hB oB G ob s) (hl : a.length + b.length ≤ 100000) (q : ∀ t s', H hB oB G ob s' → Q (.str (S (a ++ b)) t) s') : wpAny (model prog w) A (binaryOp .Add (.str (S a) t) (.str (S b) u)) Q E s := by
  refine r_cat h (le_size (by rw [S_len, S_len]; omega)) fun t s' h => ?_
  rw [S_app]
  exact q t s' h
theorem r_smulS {a : List Nat} {n : Int} {t u : Tok} (h : H hB oB G ob s) (hl : a.length ≤ 100) (hn : -10000 ≤ n ∧ n ≤ 10000) (q : ∀ t s', H hB oB G ob s' → Q (.str (S (mulL a n)) t) s') : wpAny (model prog w) A (binaryOp .Mult (.str (S a) t) (.int n u)) Q E s := by
  refine r_smul h (mulOkS a n hl hn) fun t s' h => ?_
  rw [S_mul]
  exact q t s' h
theorem t_catS {a b : List Nat} {t u : Tok} (hl : a.length + b.length ≤ 100000) (q : ∀ t n, Q (.str (S (a ++ b)) t) (tk s n)) : wpAny (model prog w) A (binaryOp .Add (.str (S a) t) (.str (S b) u)) Q E s := by
  refine t_cat (le_size (by rw [S_len, S_len]; exact Nat.le_trans hl (by decide))) fun t n => ?_
  rw [S_app]
  exact q t n
theorem t_smulS {a : List Nat} {n : Int} {t u : Tok} (hl : a.length ≤ 100) (hn : -10000 ≤ n ∧ n ≤ 10000) (q : ∀ t m, Q (.str (S (mulL a n)) t) (tk s m)) : wpAny (model prog w) A (binaryOp .Mult (.str (S a) t) (.int n u)) Q E s := by
  refine t_smul (mulOkS a n hl hn) fun t m => ?_
  rw [S_mul]
  exact q t m
end

end Mine
namespace Mine
open PySem PySem.Calls PyProof.Rows PySem.W

/-- an iterator that a loop with this target draws from -/
structure ItrT (prog : Program) (w : World) (hB : Heap) (oB : OsState) (tgt : Expr) (I : Addr) (Le : Nat → Ledger) (fin : Ledger) (n : Nat) (Pt : Nat → Lo → Lo → Prop) : Prop where
  item : ∀ i, i < n → ∀ (A : Around) (G : Array GenState) (R : Ledger) (s : Shared) (env : Env) (L : Addr) (locs gs : List Str) (cl : List (Str × Addr)) (lo lo' : Lo) (Q : Unit → Shared → Prop) (E : Value → Shared → Prop), A.handled = none → Ev env L locs cl gs → Pt i lo lo' →
    H hB oB G (Le i ++ (L, nsp locs lo) :: R) s → (∀ s', H hB oB G ((L, nsp locs lo') :: (Le (i + 1) ++ R)) s' → Q () s') →
    wpAny (model prog w) A (pyNext (.ref I)) (fun r s₁ => ∃ v, r = some v ∧ wpAny (model prog w) A (letOwnedTupleGo tgt (.ref I) v) (fun _ s₂ => wpAny (model prog w) A (assign tgt env v) Q E s₂) E s₁) E s
  done : ∀ (A : Around) G R s (Q : Option Value → Shared → Prop) E, A.handled = none → H hB oB G (Le n ++ R) s → (∀ s', H hB oB G (fin ++ R) s' → Q none s') → wpAny (model prog w) A (pyNext (.ref I)) Q E s
  selfI : ∀ i (A : Around) G R s (Q : Value → Shared → Prop) E, H hB oB G (Le i ++ R) s → Q (.ref I) s → wpAny (model prog w) A (pyIter (.ref I)) Q E s

theorem pick_mid {a : Addr} {P : OP} {r : Ledger} : ∀ (l : Ledger), Pick a P (l ++ (a, P) :: r) (l ++ r)
  | [] => .here
  | _ :: l => .there (pick_mid l)

section
variable {prog : Program} {w : World} {hB : Heap} {oB : OsState} {I : Addr} {Le : Nat → Ledger} {fin : Ledger} {n : Nat}
theorem ItrT.name {val : Nat → AV} {x : Str} {px : Pos} (it : Itr prog w hB oB I Le fin n val) : ItrT prog w hB oB (.Name x px) I Le fin n (fun i => Put x (val i)) where
  item := fun i hi A G R s env L locs gs cl lo lo' Q E hh he hp h k => by
    refine it.item i hi _ _ _ _ _ _ hh h fun t s₁ h₁ => ⟨_, rfl, ?_⟩
    refine wpAny_of_eq (show letOwnedTupleGo (.Name x px) (.ref I) ((val i).v t) = pure () from rfl) ?_
    exact wpAny_assign_Name (r_store he h₁ (pick_mid _) hp fun s₂ h₂ => k _ h₂)
  done := it.done
  selfI := it.selfI
end

/-- cells that a block's table asks for -/
noncomputable def fcl (cl : List (Str × Addr)) (names : List (Str × NameKind)) : List (Str × Addr) := names.foldl (fun cs p => if p.2 == .free then (p.1, (cl.lookup p.1).getD 0) :: cs else cs) []
noncomputable def fclOk (cl : List (Str × Addr)) (names : List (Str × NameKind)) : Bool := names.all fun p => !(p.2 == .free) || (cl.lookup p.1).isSome

section
variable {prog : Program} {w : World} {A : Around} {E : Value → Shared → Prop} {s : Shared} {hB : Heap} {oB : OsState} {G : Array GenState} {ob rest : Ledger} {env : Env} {L C : Addr} {locs gs : List Str} {cl : List (Str × Addr)} {lo lo' : Lo} {x : Str}

theorem mem_of_lookup {α : Type} : ∀ {l : List (Str × α)} {x : Str} {v : α}, l.lookup x = some v → (x, v) ∈ l
  | (y, u) :: r, x, v, h => by
    rw [List.lookup_cons] at h
    cases e : x == y with
    | true => rw [e] at h; cases h; rw [eq_of_beq e]; exact .head _
    | false => rw [e] at h; exact .tail _ (mem_of_lookup h)
theorem closure_fold (he : Ev env L locs cl gs) : ∀ (names : List (Str × NameKind)) (cs : List (Str × Addr)), fclOk cl names = true →
    (forIn names cs fun (p : Str × NameKind) (r : List (Str × Addr)) => if p.2 == .free then do let a ← cellOf env p.1; pure (ForInStep.yield ((p.1, a) :: r)) else pure (ForInStep.yield r)) =
      (pure (names.foldl (fun cs p => if p.2 == .free then (p.1, (cl.lookup p.1).getD 0) :: cs else cs) cs) : Sem _)
  | [], _, _ => rfl
  | p :: r, cs, h => by
    have h2 := Bool.and_eq_true_iff.mp (show ((!(p.2 == .free) || (cl.lookup p.1).isSome) && fclOk cl r) = true from h)
    rw [List.forIn_cons, List.foldl_cons]
    cases e : p.2 == .free with
    | false => simp only [Bool.false_eq_true, if_false]; exact closure_fold he r cs h2.2
    | true =>
      simp only [if_true]
      have h3 := h2.1
      rw [e] at h3
      cases el : cl.lookup p.1 with
      | none => rw [el] at h3; cases h3
      | some a =>
        have := (he.isCell _ (mem_of_lookup el)).2.1
        have e4 : cellOf env p.1 = pure a := by unfold cellOf; rw [this]
        rw [e4]
        exact closure_fold he r _ h2.2
theorem closureFor_fcl (he : Ev env L locs cl gs) {sc : Scope} (h : fclOk cl sc.names = true) : closureFor sc env = pure (fcl cl sc.names) := by
  unfold closureFor
  have := closure_fold he sc.names [] h
  show (forIn sc.names [] _ >>= fun cs => pure cs) = _
  refine Eq.trans (congrArg (· >>= fun cs => pure cs) (Eq.trans ?_ this)) rfl
  refine congrArg _ (funext fun p => funext fun r => ?_)
  obtain ⟨n, k⟩ := p
  rfl

/-- what a comprehension's table says of its names -/
noncomputable def compOk (sc : Scope) (xs gs : List Str) : Bool :=
  sc.kind == .function && sc.names.all (fun p => p.2 != .cell) && sc.names.all (fun p => !(p.2 == .local) || sc.names.lookup p.1 == some .local) &&
  sc.names.all (fun p => !(p.2 == .free) || sc.names.lookup p.1 == some .free) &&
  xs.all (fun x => sc.names.lookup x == some .local && !(x == ("__debug__" : Str))) && gs.all (fun x => sc.names.lookup x == some .globalImplicit && !(x == ("__debug__" : Str))) && decide xs.Nodup

theorem fcl_mem {cl : List (Str × Addr)} : ∀ (names : List (Str × NameKind)) (cs : List (Str × Addr)), fclOk cl names = true → (∀ q ∈ cs, q ∈ cl) →
    ∀ q ∈ names.foldl (fun cs p => if p.2 == NameKind.free then (p.1, (cl.lookup p.1).getD 0) :: cs else cs) cs, q ∈ cl
  | [], _, _, hc, q, hq => hc q hq
  | p :: r, cs, h, hc, q, hq => by
    have h2 := Bool.and_eq_true_iff.mp (show ((!(p.2 == .free) || (cl.lookup p.1).isSome) && fclOk cl r) = true from h)
    rw [List.foldl_cons] at hq
    refine fcl_mem r _ h2.2 (fun q hq => ?_) q hq
    cases e : p.2 == .free with
    | false => rw [e] at hq; exact hc q hq
    | true =>
      have h3 := h2.1
      rw [e] at h3 hq
      cases el : cl.lookup p.1 with
      | none => rw [el] at h3; cases h3
      | some a =>
        rw [el] at hq
        rcases List.mem_cons.mp hq with rfl | hq
        · exact mem_of_lookup el
        · exact hc q hq
theorem fcl_names {cl : List (Str × Addr)} : ∀ (names : List (Str × NameKind)) (cs : List (Str × Addr)) (P : Str → Prop), (∀ p ∈ names, p.2 = .free → P p.1) → (∀ q ∈ cs, P q.1) →
    ∀ q ∈ names.foldl (fun cs p => if p.2 == NameKind.free then (p.1, (cl.lookup p.1).getD 0) :: cs else cs) cs, P q.1
  | [], _, _, _, hc, q, hq => hc q hq
  | p :: r, cs, P, h, hc, q, hq => by
    rw [List.foldl_cons] at hq
    refine fcl_names r _ P (fun p hp => h p (.tail _ hp)) (fun q hq => ?_) q hq
    cases e : p.2 == .free with
    | false => rw [e] at hq; exact hc q hq
    | true =>
      rw [e] at hq
      rcases List.mem_cons.mp hq with rfl | hq
      · exact h p (.head _) (by simpa using e)
      · exact hc q hq
theorem fcl_lookup {cl : List (Str × Addr)} (hcl : ∀ a b x, (x, a) ∈ cl → (x, b) ∈ cl → a = b) : ∀ (l : List (Str × Addr)), (∀ q ∈ l, q ∈ cl) → ∀ q ∈ l, l.lookup q.1 = some q.2
  | (y, b) :: r, hl, q, hq => by
    rw [List.lookup_cons]
    cases e : q.1 == y with
    | true =>
      have e2 := eq_of_beq e
      rcases List.mem_cons.mp hq with rfl | hq
      · rfl
      · exact congrArg some (hcl _ _ _ (hl (y, b) (.head _)) (e2 ▸ hl q (.tail _ hq)))
    | false =>
      rcases List.mem_cons.mp hq with rfl | hq
      · simp at e
      · exact fcl_lookup hcl r (fun q hq => hl q (.tail _ hq)) q hq
theorem lookup_relabel {env : Env} : ∀ {names : List (Str × NameKind)} {x : Str} {k : NameKind}, names.lookup x = some k →
    (names.map fun (n, k) => if (k == NameKind.free && env.scope.kind == .function && env.kindOf n == some .cell) then (n, NameKind.cell) else (n, k)).lookup x = some (if (k == NameKind.free && env.scope.kind == .function && env.kindOf x == some .cell) then .cell else k)
  | [], _, _, h => by simp at h
  | (n, k') :: r, x, k, h => by
    have ih := @lookup_relabel env r x k
    show List.lookup x ((if (k' == NameKind.free && env.scope.kind == .function && env.kindOf n == some .cell) = true then (n, NameKind.cell) else (n, k')) :: _) = _
    cases hx : x == n with
    | true =>
      simp only [List.lookup_cons, hx] at h
      cases h
      have := eq_of_beq hx
      subst this
      by_cases hc : (k' == NameKind.free && env.scope.kind == .function && env.kindOf x == some .cell) = true
      · rw [if_pos hc, if_pos hc]; simp [List.lookup_cons]
      · rw [if_neg hc, if_neg hc]; simp [List.lookup_cons]
    | false =>
      simp only [List.lookup_cons, hx] at h
      by_cases hc : (k' == NameKind.free && env.scope.kind == .function && env.kindOf n == some .cell) = true
      · rw [if_pos hc]; simp only [List.lookup_cons, hx]; exact ih h
      · rw [if_neg hc]; simp only [List.lookup_cons, hx]; exact ih h
theorem comp_ev (he : Ev env L locs cl gs) {sc : Scope} {xs gs' : List Str} (hsc : compOk sc xs gs' = true) (hf : fclOk cl sc.names = true) (C : Addr) :
    Ev (compEnvC sc (fcl cl sc.names) C env) C xs (fcl cl sc.names) gs' := by
  simp only [compOk, Bool.and_eq_true, List.all_eq_true, Bool.not_eq_true', Bool.or_eq_true, beq_iff_eq, decide_eq_true_eq, bne_iff_ne] at hsc
  obtain ⟨⟨⟨⟨⟨⟨h1, h2⟩, h3⟩, h4⟩, h5⟩, h6⟩, h7⟩ := hsc
  have hm : ∀ q ∈ fcl cl sc.names, q ∈ cl := fcl_mem _ [] hf (fun _ h => nomatch h)
  have hfree : ∀ q ∈ fcl cl sc.names, sc.names.lookup q.1 = some .free := fcl_names sc.names [] (fun x => sc.names.lookup x = some .free) (fun p hp e => by
    rcases h4 p hp with q | q
    · rw [e] at q; exact absurd q (by decide)
    · exact q) (fun _ h => nomatch h)
  refine ⟨h1, rfl, he.gl, he.bi, fun x hx => ⟨?_, (h5 x hx).2⟩, fun p hp => ⟨?_, ?_, ?_⟩, fun x hx => ⟨?_, (h6 x hx).2⟩, ?_⟩
  · refine (lookup_relabel (env := env) (h5 x hx).1).trans ?_
    rfl
  · have := lookup_relabel (env := env) (hfree p hp)
    rw [show (compEnvC sc (fcl cl sc.names) C env).kindOf p.1 = _ from this]
    split
    · exact .inl rfl
    · exact .inr rfl
  · refine fcl_lookup (cl := cl) (fun a b x h1 h2 => ?_) _ hm p hp
    have e1 := (he.isCell _ h1).2.1
    have e2 := (he.isCell _ h2).2.1
    exact Option.some.inj (e1.symm.trans e2)
  · exact (he.isCell _ (hm p hp)).2.2
  · refine (lookup_relabel (env := env) (h6 x hx).1).trans ?_
    rfl
  · exact int_of_kind h1
end

end Mine
namespace Mine
open PySem PySem.Calls PyProof.Rows PySem.W

section
variable {prog : Program} {w : World} {A : Around} {E : Value → Shared → Prop} {R : Result → Shared → Prop} {s : Shared}
theorem codeAny_compLoop_any {elt target iter : Expr} {ifs : List Expr} {scope : Scope} {pos : Pos} {it acc : Value} {env : Env} (I : Nat → Shared → Prop)
    (turn : ∀ n s, I n s → wpAny (model prog w) A (pyNext it) (fun r s₁ => match r with
      | none => R (.ok .next) s₁
      | some v => wpAny (model prog w) A (letOwnedTupleGo target it v) (fun _ s₁' => wpAny (model prog w) A (assign target env v) (fun _ s₂ =>
          wpAny (model prog w) A (forIn ifs true fun c r => if r = true then do let ok ← isTrue c env (eval c env); pure (ForInStep.yield ok) else pure (ForInStep.yield r)) (fun ok s₃ =>
            if ok = true then wpAny (model prog w) A (eval elt env) (fun x s₄ =>
              wpAny (model prog w) A (call (.builtin "list.append") [acc, x]) (fun _ s₅ => ∃ m, m < n ∧ I m s₅) (notedBy (model prog w) A env fun e s' => R (.error e) s') s₄) (notedBy (model prog w) A env fun e s' => R (.error e) s') s₃
            else ∃ m, m < n ∧ I m s₃) (notedBy (model prog w) A env fun e s' => R (.error e) s') s₂) (notedBy (model prog w) A env fun e s' => R (.error e) s') s₁') (notedBy (model prog w) A env fun e s' => R (.error e) s') s₁) (notedBy (model prog w) A env fun e s' => R (.error e) s') s)
    (n : Nat) (h : I n s) :
    codeAny (model prog w) A (.compLoop (.ListComp elt [⟨target, iter, ifs, 0⟩] scope pos) 0 it acc env) R s := by
  refine codeAny_loop rfl I (fun n s hI => ?_) n h
  show wpAny _ A ((compTurn (.ListComp elt [⟨target, iter, ifs, 0⟩] scope pos) 0 it acc env).onRaise (fun x => do noteFrame x env; theTreesLotGoes x)) _ _ s
  refine wpAny_noted ?_
  rw [compTurn_list]
  refine wpAny_bind (wpAny_standAt (wpAny_bind (wpAny_mono (turn n s hI) (fun r s₁ h₁ => ?_) fun _ _ h' => h')))
  cases r with
  | none => exact wpAny_pure h₁
  | some v =>
    refine wpAny_bind (wpAny_mono h₁ (fun _ s₁' h₁' => ?_) fun _ _ h' => h')
    refine wpAny_bind (wpAny_mono h₁' (fun _ s₂ h₂ => wpAny_bind (wpAny_mono h₂ (fun ok s₃ h₃ => ?_) fun _ _ h' => h')) fun _ _ h' => h')
    cases ok with
    | false => exact wpAny_pure ⟨rfl, h₃⟩
    | true =>
      exact wpAny_bind (wpAny_bind (wpAny_mono h₃ (fun x s₄ h₄ => wpAny_bind (wpAny_mono h₄ (fun _ s₅ h₅ => wpAny_pure (wpAny_pure ⟨rfl, h₅⟩)) fun _ _ h' => h')) fun _ _ h' => h'))
end

section
variable {prog : Program} {w : World} {A : Around} {E : Value → Shared → Prop} {s : Shared} {hB : Heap} {oB : OsState} {G : Array GenState} {ob rest : Ledger} {env : Env} {L C : Addr} {locs gs : List Str} {cl : List (Str × Addr)} {lo lo' : Lo} {x : Str}
variable {elt iter tgt : Expr} {ifs : List Expr} {sc : Scope} {pos : Pos} {I : Addr} {Le : Nat → Ledger} {fin : Ledger} {n : Nat} {Pt : Nat → Lo → Lo → Prop}

/-- one turn of a list comprehension -/
noncomputable abbrev CompTurn (prog : Program) (w : World) (A : Around) (hB : Heap) (oB : OsState) (G : Array GenState) (elt : Expr) (ifs : List Expr) (env : Env) (out : List AV → Ledger) (ys : List AV) (ys' : List AV) (E : Value → Shared → Prop) (s : Shared) : Prop :=
  wpAny (model prog w) A (forIn ifs true fun c r => if r = true then do let ok ← isTrue c env (eval c env); pure (ForInStep.yield ok) else pure (ForInStep.yield r)) (fun ok s₁ =>
    if ok = true then wpAny (model prog w) A (eval elt env) (fun v s₂ => ∃ av t, v = av.v t ∧ ys' = ys ++ [av] ∧ H hB oB G (out ys) s₂) E s₁ else ys' = ys ∧ H hB oB G (out ys) s₁) E s

theorem pick2 {a b : Addr} {P Q : OP} {r : Ledger} : ∀ (l : Ledger), Pick a P (l ++ (b, Q) :: (a, P) :: r) (l ++ (b, Q) :: r)
  | [] => .there .here
  | _ :: l => .there (pick2 l)
theorem move2 {a b : Addr} {P Q : OP} {r : Ledger} (l : Ledger) : List.Perm ((a, P) :: (l ++ (b, Q) :: r)) (l ++ (b, Q) :: (a, P) :: r) := by
  have := (List.perm_middle (l₁ := l ++ [(b, Q)]) (l₂ := r) (a := (a, P))).symm
  simpa using this

theorem r_compLoop {D : Addr} {R : Result → Shared → Prop} (he : Ev env C locs cl gs) (it : ItrT prog w hB oB tgt I Le fin n Pt) (hh : A.handled = none) (lo lo' : Nat → Lo) (ys : Nat → List AV) (J : Ledger) (hz : ∀ i, i ≤ n → (ys i).length ≤ 100000)
    (h : H hB oB G (Le 0 ++ (C, nsp locs (lo 0)) :: (D, lst (ys 0)) :: J) s) (hput : ∀ i, i < n → Pt i (lo i) (lo' i))
    (hbody : ∀ i, i < n → ∀ E' s', H hB oB G ((C, nsp locs (lo' i)) :: (Le (i + 1) ++ (D, lst (ys i)) :: J)) s' →
      CompTurn prog w A hB oB G elt ifs env (fun y => Le (i + 1) ++ (C, nsp locs (lo (i + 1))) :: (D, lst y) :: J) (ys i) (ys (i + 1)) E' s')
    (hend : ∀ s', H hB oB G (fin ++ (C, nsp locs (lo n)) :: (D, lst (ys n)) :: J) s' → R (.ok .next) s') :
    codeAny (model prog w) A (.compLoop (.ListComp elt [⟨tgt, iter, ifs, 0⟩] sc pos) 0 (.ref I) (.ref D) env) R s := by
  refine codeAny_compLoop_any (fun k s' => ∃ i, i ≤ n ∧ k = n - i ∧ H hB oB G (Le i ++ (C, nsp locs (lo i)) :: (D, lst (ys i)) :: J) s') ?_ n ⟨0, Nat.zero_le _, rfl, h⟩
  rintro k s' ⟨i, hi, rfl, h'⟩
  by_cases hlt : i < n
  · refine wpAny_mono (it.item i hlt _ _ _ _ env C locs gs cl (lo i) (lo' i) (fun _ s₁ => CompTurn prog w A hB oB G elt ifs env (fun y => Le (i + 1) ++ (C, nsp locs (lo (i + 1))) :: (D, lst y) :: J) (ys i) (ys (i + 1)) (notedBy (model prog w) A env fun e s' => R (.error e) s') s₁) _ hh he (hput i hlt) h' (fun s₁ h₁ => hbody i hlt _ s₁ h₁)) (fun r s₁ k => ?_) fun _ _ e => e
    obtain ⟨v, rfl, k⟩ := k
    refine wpAny_mono k (fun _ s₂ k => ?_) fun _ _ e => e
    refine wpAny_mono k (fun _ s₃ k => ?_) fun _ _ e => e
    refine wpAny_mono k (fun ok s₄ k => ?_) fun _ _ e => e
    cases ok with
    | false =>
      simp only [Bool.false_eq_true, if_false] at k ⊢
      exact ⟨n - (i + 1), by omega, i + 1, hlt, rfl, by rw [k.1]; exact k.2⟩
    | true =>
      simp only [if_true] at k ⊢
      refine wpAny_mono k (fun v s₅ k => ?_) fun _ _ e => e
      obtain ⟨av, t, rfl, ey, h5⟩ := k
      have hz' := hz i (by omega)
      refine r_append h5 (pick2 _) (le_size (by omega)) fun s₆ h6 => ⟨n - (i + 1), by omega, i + 1, hlt, rfl, ?_⟩
      rw [ey]
      exact h6.perm (move2 _)
  · have : i = n := by omega
    subst this
    exact it.done _ _ _ _ _ _ hh h' fun s₁ h₁ => hend s₁ h₁

/-- the block of a list comprehension with one clause -/
theorem r_compBlock {RR : Value → Addr → Result → Shared → Prop} (he : Ev env L locs cl gs) (xs gs' : List Str) (hsc : compOk sc xs gs' = true) (hf : fclOk cl sc.names = true) (it : ItrT prog w hB oB tgt I Le fin n Pt) (hh : A.handled = none)
    (lo lo' : Nat → Lo) (ys : Nat → List AV) (J : Ledger) (hlo : (lo 0).map (·.1) = xs ∧ ∀ p ∈ lo 0, p.2 = none) (hz : ∀ i, i ≤ n → (ys i).length ≤ 100000) (h0 : ys 0 = [])
    (h : H hB oB G (Le 0 ++ J) s) (hput : ∀ i, i < n → Pt i (lo i) (lo' i))
    (hbody : ∀ i, i < n → ∀ C D env' E' s', Ev env' C xs (fcl cl sc.names) gs' → H hB oB G ((C, nsp xs (lo' i)) :: (Le (i + 1) ++ (D, lst (ys i)) :: J)) s' →
      CompTurn prog w A hB oB G elt ifs env' (fun y => Le (i + 1) ++ (C, nsp xs (lo (i + 1))) :: (D, lst y) :: J) (ys i) (ys (i + 1)) E' s')
    (hend : ∀ C D s', H hB oB G ((C, nsp xs (lo n)) :: (D, lst (ys n)) :: (fin ++ J)) s' → RR (.ref D) C (.ok .next) s') :
    wpAny (model prog w) A (newList []) (fun acc s₃ => wpAny (model prog w) A (newFunctionEnv sc env.globals (fcl cl sc.names) [] env.qual none .none (some env)) (fun cenv s₄ =>
      codeAny (model prog w) A (.compStart (.ListComp elt [⟨tgt, iter, ifs, 0⟩] sc pos) 0 (.ref I) acc { cenv with scope := relabel sc env }) (RR acc cenv.locals) s₄) E s₃) E s := by
  have hsc' := hsc
  simp only [compOk, Bool.and_eq_true, List.all_eq_true, Bool.not_eq_true', Bool.or_eq_true, beq_iff_eq, decide_eq_true_eq, bne_iff_ne] at hsc'
  obtain ⟨⟨⟨⟨⟨⟨h1, h2⟩, h3⟩, h4⟩, h5⟩, h6⟩, h7⟩ := hsc'
  refine wpAny_newObj_type (wpAny_newFunctionEnv (fun x hx => h2 x hx) (by intro y hy; simp at hy) (fun h₁ hns₁ hsb₁ => ?_) h1)
  dsimp only at hns₁ hsb₁ ⊢
  have hd := h.push (P := lst []) (o := { cls := .type "list", dict := none, data := .seq ([] : List Value).toArray }) rfl ⟨[], 0, rfl, .nil⟩ (s' := { s with heap := s.heap.push { cls := .type "list", dict := none, data := .seq ([] : List Value).toArray } }) rfl
  generalize hH2 : s.heap.push { cls := .type "list", dict := none, data := .seq ([] : List Value).toArray } = H2 at hns₁ hsb₁ hd ⊢
  have hc : H hB oB G ((H2.objs.size, nsp xs (lo 0)) :: (s.heap.objs.size, lst []) :: (Le 0 ++ J)) { s with heap := h₁, toks := s.toks + ([] : List (Str × Value)).length } := by
    obtain ⟨o, es, ep, e1, e2, e3, e4⟩ := hns₁
    refine hd.add (a := H2.objs.size) (o := o) (fun b o' e => hsb₁.extBut b o' (Nat.ne_of_lt (Heap.lt_size e)) (Heap.get?_push_of_some _ e)) (fresh_at _) e1 ⟨hlo.1, h7, es, ep, e2, e3, fun x v hm => ?_⟩
    exact absurd (hlo.2 _ hm) (by simp)
  have hc2 : H hB oB G (Le 0 ++ (H2.objs.size, nsp xs (lo 0)) :: (s.heap.objs.size, lst (ys 0)) :: J) { s with heap := h₁, toks := s.toks + ([] : List (Str × Value)).length } := by
    rw [h0]
    refine hc.perm ?_
    have e1 := (List.perm_middle (l₁ := Le 0) (l₂ := J) (a := (s.heap.objs.size, lst [])))
    have e2 := (List.perm_middle (l₁ := Le 0) (l₂ := (s.heap.objs.size, lst []) :: J) (a := (H2.objs.size, nsp xs (lo 0))))
    exact (List.Perm.cons _ e1.symm).trans e2.symm
  have hev := comp_ev he hsc hf H2.objs.size
  refine codeAny_compStart_list ?_ ?_
  · exact r_compLoop (R := RR (.ref s.heap.objs.size) H2.objs.size) (env := compEnvC sc (fcl cl sc.names) H2.objs.size env) hev it hh lo lo' ys J hz hc2 hput (fun i hi E' s' h => hbody i hi _ _ _ E' s' hev h) (fun s' h => hend _ _ s' (h.perm (by
      have e1 := (List.perm_middle (l₁ := fin) (l₂ := J) (a := (s.heap.objs.size, lst (ys n))))
      have e2 := (List.perm_middle (l₁ := fin) (l₂ := (s.heap.objs.size, lst (ys n)) :: J) (a := (H2.objs.size, nsp xs (lo n))))
      exact e2.trans (List.Perm.cons _ e1))))
  · refine it.selfI 0 _ _ _ _ _ _ hc2 ?_
    exact r_compLoop (R := RR (.ref s.heap.objs.size) H2.objs.size) (env := compEnvC sc (fcl cl sc.names) H2.objs.size env) hev it hh lo lo' ys J hz hc2 hput (fun i hi E' s' h => hbody i hi _ _ _ E' s' hev h) (fun s' h => hend _ _ s' (h.perm (by
      have e1 := (List.perm_middle (l₁ := fin) (l₂ := J) (a := (s.heap.objs.size, lst (ys n))))
      have e2 := (List.perm_middle (l₁ := fin) (l₂ := (s.heap.objs.size, lst (ys n)) :: J) (a := (H2.objs.size, nsp xs (lo n))))
      exact e2.trans (List.Perm.cons _ e1))))
end

end Mine
namespace Mine
open PySem PySem.Calls PyProof.Rows PySem.W
section
variable {prog : Program} {w : World} {A : Around} {E : Value → Shared → Prop} {s : Shared} {hB : Heap} {oB : OsState} {G : Array GenState} {ob rest : Ledger} {env : Env} {L C : Addr} {locs gs : List Str} {cl : List (Str × Addr)} {lo lo' : Lo} {x : Str}
variable {elt iter tgt : Expr} {ifs : List Expr} {sc : Scope} {pos : Pos} {I : Addr} {Le : Nat → Ledger} {fin : Ledger} {n : Nat} {Pt : Nat → Lo → Lo → Prop}

/-- what must be shown when a comprehension's iterator stands -/
inductive CompFrom (prog : Program) (w : World) (A : Around) (hB : Heap) (oB : OsState) (tgt elt : Expr) (ifs : List Expr) (xs gs' : List Str) (fc : List (Str × Addr)) (Qe : (Addr × OP) → Ledger → Array GenState → Addr → Prop) : Value → Shared → Prop
  | mk {I : Addr} {Le : Nat → Ledger} {fin : Ledger} {n : Nat} {Pt : Nat → Lo → Lo → Prop} {G : Array GenState} {s : Shared} (it : ItrT prog w hB oB tgt I Le fin n Pt) (lo lo' : Nat → Lo) (ys : Nat → List AV) (J : Ledger)
      (hlo : (lo 0).map (·.1) = xs ∧ ∀ p ∈ lo 0, p.2 = none) (hz : ∀ i, i ≤ n → (ys i).length ≤ 100000) (h0 : ys 0 = []) (h : H hB oB G (Le 0 ++ J) s) (hput : ∀ i, i < n → Pt i (lo i) (lo' i))
      (hbody : ∀ i, i < n → ∀ C D env' E' s', Ev env' C xs fc gs' → H hB oB G ((C, nsp xs (lo' i)) :: (Le (i + 1) ++ (D, lst (ys i)) :: J)) s' →
        CompTurn prog w A hB oB G elt ifs env' (fun y => Le (i + 1) ++ (C, nsp xs (lo (i + 1))) :: (D, lst y) :: J) (ys i) (ys (i + 1)) E' s')
      (hend : ∀ D, Qe (D, lst (ys n)) (fin ++ J) G D) : CompFrom prog w A hB oB tgt elt ifs xs gs' fc Qe (.ref I) s

theorem letC {lo : Lo} {xs : List Str} (h : H hB oB G ((C, nsp xs lo) :: ob) s) : ∃ m, s.heap.Ns C m ∧ ∀ h', Heap.SameBut C s.heap h' → H hB oB G ob { s with heap := h' } := by
  obtain ⟨o, ho, hn⟩ := h.get .here
  obtain ⟨m, hm, _⟩ := nsp_ns hn ho
  exact ⟨m, hm, fun h' hs => h.lose .here (fun b o hb e => hs.extBut b o hb e)⟩
theorem compOk_kind {xs gs' : List Str} (h : compOk sc xs gs' = true) : sc.kind = .function := by
  simp only [compOk, Bool.and_eq_true] at h
  exact kind_of_beq h.1.1.1.1.1.1
theorem compOk_names {xs gs' : List Str} (h : compOk sc xs gs' = true) : ∀ x ∈ sc.names, x.2 = .local → sc.names.lookup x.1 = some .local := by
  simp only [compOk, Bool.and_eq_true, List.all_eq_true, Bool.or_eq_true, Bool.not_eq_true', beq_iff_eq] at h
  intro x hx e
  rcases h.1.1.1.1.2 x hx with q | q
  · rw [e] at q; exact absurd q (by decide)
  · exact q

theorem r_listComp {Q : Value → Shared → Prop} (he : Ev env L locs cl gs) (hh : A.handled = none) (xs gs' : List Str) (fc : List (Str × Addr)) (hsc : compOk sc xs gs' = true) (hf : fclOk cl sc.names = true) (hfc : fcl cl sc.names = fc)
    (k : wpAny (model prog w) A (eval iter env) (fun xv s₁ => wpAny (model prog w) A (pyIter xv) (CompFrom prog w A hB oB tgt elt ifs xs gs' fc (fun d l G D => ∀ s', H hB oB G (d :: l) s' → Q (.ref D) s')) E s₁) E s)
    (hs : ∀ x, foldedSetIterable iter env x = pure x := by intro _; rfl) :
    wpAny (model prog w) A (eval (.ListComp elt [⟨tgt, iter, ifs, 0⟩] sc pos) env) Q E s := by
  subst hfc
  rw [eval_ListComp]
  refine wpAny_comprehension_free (use := none) rfl hs (closureFor_fcl he hf) (compOk_kind hsc) (compOk_names hsc) (wpAny_mono k (fun xv s₁ h₁ => wpAny_mono h₁ (fun it s₂ h₂ => ?_) fun _ _ e => e) fun _ _ e => e)
  cases h₂ with
  | mk it lo lo' ys J hlo hz h0 h hput hbody hend =>
    refine r_compBlock (RR := fun acc C => compPost (model prog w) A E none Q acc C) he xs gs' hsc hf it hh lo lo' ys J hlo hz h0 h hput hbody fun C D s' h => ?_
    obtain ⟨m, hm, hr⟩ := letC h
    exact ⟨m, hm, fun h' hs => hend D _ (hr h' hs)⟩

theorem swapsTrue (he : Ev env L locs cl gs) {y : Str} {py : Pos} {e : Expr} {line : Nat} (hy : y ∈ locs) (hm : e = .ListComp elt [⟨tgt, iter, ifs, 0⟩] sc pos) (hl : (py.line == pos.line) = true) (hn : (sc.names.any fun p => p.1 == y && (p.2 == .local || p.2 == .cell)) = false) :
    swapsWith e (some (.Name y py)) line env = pure true := by
  subst hm
  have k1 : env.blockKind = .function := by unfold Env.blockKind; rw [he.kind]; rfl
  unfold swapsWith
  simp only [k1, (he.isLoc y hy).1]
  show pure _ = _
  have e1 : (Expr.pos (.ListComp elt [⟨tgt, iter, ifs, 0⟩] sc pos)) = pos := rfl
  rw [e1, hl]
  have e2 : (sc.names.any fun x => match x with | (n, k) => n == y && (k == .local || k == .cell)) = false := hn
  rw [e2]
  rfl
theorem swapsCell (hk : env.kindOf x = some .cell) (e : Expr) {py : Pos} {line : Nat} : swapsWith e (some (.Name x py)) line env = pure false := by
  unfold swapsWith
  split
  · dsimp only
    rw [hk]
    rw [show (some NameKind.cell == some NameKind.local) = false from by decide, Bool.and_false, Bool.false_and, Bool.false_and]
  · rfl

theorem r_assignComp {y : Str} {py spos : Pos} {Q : Flow → Shared → Prop} (he : Ev env L locs cl gs) (hh : A.handled = none) (xs gs' : List Str) (fc : List (Str × Addr)) (hsc : compOk sc xs gs' = true) (hf : fclOk cl sc.names = true) (hfc : fcl cl sc.names = fc)
    (hy : y ∈ locs) (hl : (py.line == pos.line) = true) (hn : (sc.names.any fun p => p.1 == y && (p.2 == .local || p.2 == .cell)) = false)
    (k : wpAny (model prog w) A (eval iter env) (fun xv s₁ => wpAny (model prog w) A (pyIter xv) (CompFrom prog w A hB oB tgt elt ifs xs gs' fc (fun d l G D => ∃ lo lo' rest, Pick L (nsp locs lo) (d :: l) rest ∧ Put y (.ref D) lo lo' ∧
      ∀ s', H hB oB G ((L, nsp locs lo') :: rest) s' → Q .next s')) E s₁) E s)
    (hs : ∀ x, foldedSetIterable iter env x = pure x := by intro _; rfl) :
    wpAny (model prog w) A (exec (.Assign [.Name y py] (.ListComp elt [⟨tgt, iter, ifs, 0⟩] sc pos) spos) env) Q E s := by
  subst hfc
  rw [exec_Assign_Name_used _ _ _ _ (swapsTrue he hy rfl hl hn)]
  refine wpAny_bind (wpAny_standAt (wpAny_bind ?_))
  show wpAny _ A (do let _ ← comprehension (.ListComp elt [⟨tgt, iter, ifs, 0⟩] sc pos) sc env _ (newList []) false (eval iter env) (some (assign (.Name y py) env))) _ _ s
  refine wpAny_bind (wpAny_mono (wpAny_comprehension_free (use := some (assign (.Name y py) env)) (Q := fun _ s' => Q .next s') rfl hs (closureFor_fcl he hf) (compOk_kind hsc) (compOk_names hsc)
    (wpAny_mono k (fun xv s₁ h₁ => wpAny_mono h₁ (fun it s₂ h₂ => ?_) fun _ _ e => e) fun _ _ e => e)) (fun _ s' hq => wpAny_pure (wpAny_pure hq)) fun _ _ e => e)
  cases h₂ with
  | mk it lo lo' ys J hlo hz h0 h hput hbody hend =>
    refine r_compBlock (RR := fun acc C => compPost (model prog w) A E (some (assign (.Name y py) env)) (fun _ s' => Q .next s') acc C) he xs gs' hsc hf it hh lo lo' ys J hlo hz h0 h hput hbody fun C D s' h => ?_
    obtain ⟨lo₁, lo₂, rest, pk, pt, hq⟩ := hend D
    show wpAny _ A (assign (.Name y py) env (.ref D)) _ _ _
    refine wpAny_assign_Name (r_store (t := 0) (v := .ref D) he h (.there pk) pt fun s₂ h₂ => ?_)
    obtain ⟨m, hm, hr⟩ := letC h₂.swap
    exact ⟨m, hm, fun h' hs => hq _ (hr h' hs)⟩
end

end Mine
namespace Mine
open PySem PySem.Calls PyProof.Rows PySem.W
theorem cellsFrom_keys : ∀ (names : List (Str × NameKind)) (n m : Nat) (a b : List (Str × Addr)), a.map (·.1) = b.map (·.1) → (cellsFrom n names a).map (·.1) = (cellsFrom m names b).map (·.1)
  | [], _, _, _, _, h => h
  | (x, k) :: r, n, m, a, b, h => by
    unfold cellsFrom
    split
    · exact cellsFrom_keys r _ _ _ _ (by simp [h])
    · exact cellsFrom_keys r _ _ _ _ h
theorem lookup_isSome {α : Type} : ∀ {l : List (Str × α)} {x : Str}, x ∈ l.map (·.1) → (l.lookup x).isSome = true
  | (y, u) :: r, x, h => by
    rw [List.lookup_cons]
    cases e : x == y with
    | true => rfl
    | false =>
      rcases List.mem_cons.mp h with e2 | h
      · rw [e2] at e; simp at e
      · exact lookup_isSome h
theorem bindL_notin (kf : Str → Option NameKind) : ∀ (binds : List (Str × Value)) (m : Str → Option Value) (x : Str), x ∉ binds.map (·.1) → bindL kf binds m x = m x
  | [], _, _, _ => rfl
  | (n, v) :: r, m, x, h => by
    have h1 : x ≠ n := fun e => h (e ▸ .head _)
    unfold bindL
    rw [bindL_notin kf r _ x fun hm => h (.tail _ hm)]
    split
    · exact if_neg h1
    · rfl
theorem bindC_notin (kf : Str → Option NameKind) : ∀ (binds : List (Str × Value)) (m : Str → Option Value) (x : Str), x ∉ binds.map (·.1) → bindC kf binds m x = m x
  | [], _, _, _ => rfl
  | (n, v) :: r, m, x, h => by
    have h1 : x ≠ n := fun e => h (e ▸ .head _)
    unfold bindC
    rw [bindC_notin kf r _ x fun hm => h (.tail _ hm)]
    split
    · rfl
    · exact if_neg h1
theorem bindL_mem (kf : Str → Option NameKind) : ∀ (binds : List (Str × Value)) (m : Str → Option Value) (x : Str) (v : Value), (binds.map (·.1)).Nodup → (x, v) ∈ binds → kf x = some .local → bindL kf binds m x = some v
  | (n, u) :: r, m, x, v, hn, hm, hk => by
    unfold bindL
    rcases List.mem_cons.mp hm with e | hm
    · cases e
      rw [bindL_notin kf r _ _ (List.nodup_cons.mp hn).1, if_pos hk]
      exact if_pos rfl
    · exact bindL_mem kf r _ x v (List.nodup_cons.mp hn).2 hm hk
theorem bindC_mem (kf : Str → Option NameKind) : ∀ (binds : List (Str × Value)) (m : Str → Option Value) (x : Str) (v : Value), (binds.map (·.1)).Nodup → (x, v) ∈ binds → kf x ≠ some .local → bindC kf binds m x = some v
  | (n, u) :: r, m, x, v, hn, hm, hk => by
    unfold bindC
    rcases List.mem_cons.mp hm with e | hm
    · cases e
      rw [bindC_notin kf r _ _ (List.nodup_cons.mp hn).1, if_neg hk]
      exact if_pos rfl
    · exact bindC_mem kf r _ x v (List.nodup_cons.mp hn).2 hm hk

/-- what the table of a def with cells says -/
noncomputable def scOkC (sc : Scope) (locs cns gs : List Str) (pn : List Str) : Bool :=
  sc.kind == .function && !sc.isCoroutine && !sc.isGenerator && locs.all (fun x => sc.names.lookup x == some .local && !(x == ("__debug__" : Str))) &&
  gs.all (fun x => sc.names.lookup x == some .globalImplicit && !(x == ("__debug__" : Str))) && decide locs.Nodup &&
  cns.all (fun x => sc.names.lookup x == some .cell && ((cellsFrom 0 sc.names []).map (·.1)).contains x && !(x == ("__debug__" : Str)) && !(x == ("__classdict__" : Str))) && decide cns.Nodup &&
  pn.all (fun x => locs.contains x || cns.contains x) && decide pn.Nodup

section
variable {prog : Program} {w : World} {A : Around} {E : Value → Shared → Prop} {s : Shared} {hB : Heap} {oB : OsState} {G : Array GenState} {ob rest : Ledger}
theorem r_fnC {n : Nat} {a : Addr} {name qual : Str} {params : Arguments} {body : List Stmt} {sc : Scope} {dV kV : Value} {vals : List Value} {Q : Value → Shared → Prop}
    (f : FnF hB a name qual params body sc dV kV) (lim : hB.NoLimit) (ps : Ps) (pn locs cns gs : List Str) (lo : Lo) (cells : (Str → Addr) → List (Str × Addr)) (led : (Str → Addr) → Ledger) (hsc : scOkC sc locs cns gs pn = true)
    (hbind : ∀ doc pm an cdv ct, bindArgs (fnX name qual params body sc [] dV kV doc pm an cdv ct) ⟨vals, []⟩ = pure ps.binds)
    (rm : Rm (n + 1) A) (h : H hB oB G ob s)
    (k : ∀ L (f : Str → Addr) env A' E' s', Rm n A' → Ev env L locs (cells f) gs → (∀ x ∈ cns, env.kindOf x = some .cell) → H hB oB G ((L, nsp locs lo) :: (led f ++ ob)) s' →
      wpAny (model prog w) A' (execs body env) (fun f s'' => Q (match f with | .ret v => v | _ => .none) s'') E' s')
    (e1 : lo.map (·.1) = locs) (e2 : ∀ p ∈ lo, p.2 = none ∨ ∃ q ∈ ps, q.1 = p.1 ∧ p.2 = some q.2.1)
    (e3 : ∀ f, cns.map (fun x => (x, f x)) = cells f := by intro _; rfl) (e4 : ∀ f, cns.map (fun x => (f x, celp ((ps.lookup x).map (·.1)))) = led f := by intro _; rfl) (e5 : ps.map (·.1) = pn := by rfl) :
    wpAny (model prog w) A (call (.ref a) vals) Q E s := by
  subst e5
  obtain ⟨oc, od, osl, doc, pm, an, cdv, ct, ho, hcd⟩ := f.ex
  have hsc' := hsc
  simp only [scOkC, Bool.and_eq_true, List.all_eq_true, Bool.not_eq_true', beq_iff_eq, decide_eq_true_eq, bne_iff_ne, Bool.or_eq_true, List.contains_iff_mem] at hsc'
  obtain ⟨⟨⟨⟨⟨⟨⟨⟨⟨h1, h2⟩, h3⟩, h4⟩, h5⟩, h6⟩, h7⟩, h8⟩, h9⟩, h10⟩ := hsc'
  have hpn : ps.binds.map (·.1) = ps.map (·.1) := by simp [Ps.binds, List.map_map, Function.comp_def]
  have hcell : ∀ N x, x ∈ cns → ((cellsFrom N sc.names []).lookup x).isSome = true := fun N x hx => lookup_isSome (by
    rw [cellsFrom_keys sc.names N 0 [] [] rfl]; exact (h7 x hx).1.1.2)
  refine wpAny_call (codeAny_call_cells rm.lt (h.keep _ _ ho) rfl (lim.keeps h.keep) (hcd.keeps h.keep) rfl (hbind _ _ _ _ _) rfl (fun x hx => ?_) (fun s₁ x => ?_) h2 h3 h1)
  · have hm : x.1 ∈ ps.map (·.1) := hpn ▸ List.mem_map.mpr ⟨x, hx, rfl⟩
    rcases h9 x.1 hm with q | q
    · exact .inl (h4 _ q).1
    · exact .inr ⟨(h7 _ q).1.1.1, hcell _ _ q⟩
  · generalize hfd : fnX name qual params body sc [] dV kV doc pm an cdv ct = fd at x
    have hkd : ∀ y, (callEnvC fd s.heap.objs.size a).kindOf y = sc.names.lookup y := fun y => by rw [← hfd]; rfl
    have hL : (callEnvC fd s.heap.objs.size a).locals = s.heap.objs.size := rfl
    have hcs : (callEnvC fd s.heap.objs.size a).cells = cellsFrom (s.heap.objs.size + 1) sc.names [] := by rw [← hfd]; rfl
    let f : Str → Addr := fun y => ((callEnvC fd s.heap.objs.size a).cells.lookup y).getD 0
    have hf : ∀ y ∈ cns, (callEnvC fd s.heap.objs.size a).cells.lookup y = some (f y) := fun y hy => by
      have := hcell (s.heap.objs.size + 1) y hy
      rw [← hcs] at this
      obtain ⟨c, hc⟩ := Option.isSome_iff_exists.mp this
      show _ = some (((callEnvC fd s.heap.objs.size a).cells.lookup y).getD 0)
      rw [hc]; rfl
    refine k s.heap.objs.size f _ _ _ _ rm.deeper ⟨?_, rfl, ?_, ?_, fun y hy => ⟨by rw [hkd]; exact (h4 y hy).1, (h4 y hy).2⟩, fun p hp => ?_, fun y hy => ⟨by rw [hkd]; exact (h5 y hy).1, (h5 y hy).2⟩, ?_⟩ (fun y hy => by rw [hkd]; exact (h7 y hy).1.1.1) ?_
    · rw [← hfd]; exact h1
    · rw [← hfd]; rfl
    · rw [← hfd]; rfl
    · rw [← e3 f] at hp
      obtain ⟨y, hy, rfl⟩ := List.mem_map.mp hp
      exact ⟨.inl (by rw [hkd]; exact (h7 y hy).1.1.1), hf y hy, (h7 y hy).1.2, (h7 y hy).2⟩
    · rw [← hfd]; exact int_of_kind h1
    · have hfresh := fresh_at s.heap
      rw [← e4 f]
      have hk0 : H hB oB G ob s₁ := by
        obtain ⟨h', tk, rfl, hk⟩ := x.toInCall.done
        exact h.of hk
      have hcf : ∀ y ∈ cns, s.heap.get? (f y) = none := fun y hy => fresh_ge _ (Nat.le_of_lt (by have := x.above y (f y) (PySem.mem_of_lookup (hf y hy)); rw [hL] at this; exact this))
      have hnb : ∀ b, s.heap.get? b = none → hB.get? b = none ∧ ∀ p ∈ ob, p.1 ≠ b := fun b hb => h.fresh hb
      refine ⟨hk0.keep, hk0.os, hk0.gens, fun p hp => ?_, ?_, fun p hp => ?_⟩
      · rcases List.mem_cons.mp hp with rfl | hp
        · obtain ⟨o, es, ep, q1, q2, q3, q4⟩ := x.toInCall.ns
          refine ⟨o, q1, e1, h6, es, ep, q2, q3, fun y v hm => ?_⟩
          rcases e2 _ hm with q | ⟨⟨z, av, t⟩, hz, rfl, q⟩
          · cases q
          · cases q
            refine ⟨t, ?_⟩
            rw [q4]
            exact bindL_mem _ _ _ _ _ (hpn ▸ h10) (List.mem_map.mpr ⟨_, hz, rfl⟩) (by rw [hkd]; exact (h4 z (e1 ▸ List.mem_map.mpr ⟨_, hm, rfl⟩)).1)
        · rcases List.mem_append.mp hp with hp | hp
          · obtain ⟨y, hy, rfl⟩ := List.mem_map.mp hp
            obtain ⟨o, ho2, hd⟩ := x.cell y (f y) (hf y hy)
            refine ⟨o, ho2, _, hd, fun av hav => ?_⟩
            cases el : ps.lookup y with
            | none => rw [el] at hav; cases hav
            | some q =>
              rw [el] at hav
              cases hav
              refine ⟨q.2, bindC_mem _ _ _ _ _ (hpn ▸ h10) (List.mem_map.mpr ⟨(y, q), PySem.mem_of_lookup el, rfl⟩) (by rw [hkd, (h7 y hy).1.1.1]; decide)⟩
          · exact hk0.at' p hp
      · rw [List.map_cons, List.map_append]
        refine List.nodup_cons.mpr ⟨fun hm => ?_, List.nodup_append.mpr ⟨?_, hk0.nodup, fun b hb c hc e => ?_⟩⟩
        · rcases List.mem_append.mp hm with hm | hm
          · obtain ⟨p, hp, e⟩ := List.mem_map.mp hm
            obtain ⟨y, hy, rfl⟩ := List.mem_map.mp hp
            have := x.above y (f y) (PySem.mem_of_lookup (hf y hy))
            rw [hL] at this
            exact absurd e (Nat.ne_of_gt this)
          · obtain ⟨p, hp, e⟩ := List.mem_map.mp hm
            exact (hnb _ hfresh).2 p hp e
        · rw [List.map_map]
          refine (List.pairwise_map).mpr (h8.imp_of_mem fun {y z} hy hz hne e => hne ?_)
          exact name_of_addr x.apart (PySem.mem_of_lookup (hf y hy)) (by have e : f y = f z := e; rw [e]; exact PySem.mem_of_lookup (hf z hz))
        · obtain ⟨p, hp, rfl⟩ := List.mem_map.mp hb
          obtain ⟨y, hy, rfl⟩ := List.mem_map.mp hp
          obtain ⟨q, hq, rfl⟩ := List.mem_map.mp hc
          exact (hnb _ (hcf y hy)).2 q hq e.symm
      · rcases List.mem_cons.mp hp with rfl | hp
        · exact (hnb _ hfresh).1
        · rcases List.mem_append.mp hp with hp | hp
          · obtain ⟨y, hy, rfl⟩ := List.mem_map.mp hp
            exact (hnb _ (hcf y hy)).1
          · exact hk0.new p hp
end

end Mine
namespace Mine
open PySem PySem.Calls PyProof.Rows PySem.W PySem.SeqAt PySem.MeetsSeq
/-- a dict whose keys are ints -/
noncomputable def dic (kv : List (Int × AV)) : OP := fun o => ∃ es ep, o.cls = .type "dict" ∧ o.data = .dict es ep ∧ IntKeys es ∧ es.size ≤ kv.length ∧ ∀ k av, (k, av) ∈ kv → ∃ t, findBy Value.isInt es k = some (av.v t)
section
variable {prog : Program} {w : World} {A : Around} {E : Value → Shared → Prop} {s : Shared} {hB : Heap} {oB : OsState} {G : Array GenState} {ob rest : Ledger} {kv : List (Int × AV)} {v : AV} {Q : Value → Shared → Prop}
theorem dic_map {d : Addr} {o : Obj} (ho : s.heap.get? d = some o) (h : dic kv o) : ∃ f, s.heap.IntMap d f ∧ s.heap.DictLe d kv.length ∧ ∀ k av, (k, av) ∈ kv → ∃ t, f k = some (av.v t) := by
  obtain ⟨es, ep, hc, hd, hk, hs, hf⟩ := h
  refine ⟨findBy Value.isInt es, ⟨o, es, ep, ho, hc, hd, hk, fun _ => rfl⟩, fun o' es' ep' ho' hd' => ?_, hf⟩
  rw [ho] at ho'; cases ho'
  rw [hd] at hd'; cases hd'
  exact hs
theorem r_tailDict {value slice : Expr} {d : Addr} {k : Int} {u : Tok} (h : H hB oB G ob s) (pk : Pick d (dic kv) ob rest) (hx : (k, v) ∈ kv) (q : ∀ t s', H hB oB G ob s' → Q (v.v t) s')
    (hs : subscripted slice false (.ref d) (.int k u) = operate [.ref d, .int k u] (getItem (.ref d) (.int k u)) := by with_unfolding_all rfl) :
    wpAny (model prog w) A (subscriptTail value slice (.ref d) (.int k u)) Q E s := by
  obtain ⟨o, ho, hl⟩ := h.get pk
  obtain ⟨f, hm, _, hf⟩ := dic_map ho hl
  obtain ⟨t, ht⟩ := hf _ _ hx
  exact tail_any hm.typeIs slot_dict_getitem.lookup (wpAny_getItem_intMap hm ht (q t _ (h.tok _))) hs
theorem r_dictSet {d : Addr} {k : Int} {u t : Tok} {Q : Unit → Shared → Prop} (h : H hB oB G ob s) (pk : Pick d (dic kv) ob rest) (hk : k ∉ kv.map (·.1)) (hz : kv.length ≤ 100000)
    (q : ∀ s', H hB oB G ((d, dic (kv ++ [(k, v)])) :: rest) s' → Q () s') : wpAny (model prog w) A (dictSet d (.int k u) (v.v t)) Q E s := by
  obtain ⟨o, ho, hl⟩ := h.get pk
  obtain ⟨f, hm, hle, hf⟩ := dic_map ho hl
  refine wpAny_dictSet_int_le hm hle (le_size (by omega)) fun h' hm' hle' hs' => q _ ?_
  obtain ⟨o', es', ep', ho', hc', hd', hk', hf'⟩ := hm'
  refine (h.tok _).updS (s' := { s with heap := h', toks := s.toks + 1 }) pk hs' ho' ⟨es', ep', hc', hd', hk', ?_, fun k' av hm => ?_⟩
  · have := hle' _ _ _ ho' hd'
    simpa using this
  · rw [hf' k']
    rcases List.mem_append.mp hm with hm | hm
    · have : k' ≠ k := fun e => hk (e ▸ List.mem_map.mpr ⟨_, hm, rfl⟩)
      obtain ⟨t2, ht⟩ := hf _ _ hm
      exact ⟨t2, by show (if k' = k then _ else f k') = _; rw [if_neg this]; exact ht⟩
    · cases List.mem_singleton.mp hm
      exact ⟨t, if_pos rfl⟩

noncomputable def isI (x : Int) : Value → Bool
  | .int z _ => z == x
  | _ => false
theorem ints_any {x : Int} : ∀ {xs : List Int} {vs : List Value}, Ares (xs.map .int) vs → (vs.any (isI x)) = decide (x ∈ xs)
  | [], _, .nil => by simp
  | z :: xs, _, .cons t h => by
    rw [List.any_cons, ints_any h]
    show ((z == x) || decide (x ∈ xs)) = _
    by_cases q : z = x
    · subst q; simp
    · have q2 : ¬ x = z := fun e => q e.symm
      simp [q, q2]
theorem ints_eqAt {A : Around} {x : Int} {t : Tok} {vs : List Value} {xs : List Int} (ha : Ares (xs.map .int) vs) : ∀ y, y ∈ vs.toArray → EqAt A s y (.int x t) (isI x y) := by
  intro y hy
  obtain ⟨i, hi, e⟩ := List.mem_iff_getElem.mp (List.mem_toArray.mp hy)
  have hi2 : i < xs.length := by have := ha.length; rw [List.length_map] at this; omega
  obtain ⟨u, hu⟩ := ha.get (i := i) (x := .int xs[i]) (by simp [hi2])
  have : y = .int xs[i] u := by
    have h2 : vs[i]? = some y := by rw [List.getElem?_eq_getElem hi, e]
    exact Option.some.inj (h2.symm.trans hu)
  subst this
  exact (MeetsSeq.EqGives.int xs[i] x u t).at A s
theorem r_inInts {l : Addr} {x : Int} {t : Tok} {xs : List Int} (h : H hB oB G ob s) (pk : Pick l (lst (xs.map .int)) ob rest) (q : Q (.bool (decide (x ∈ xs))) s) : wpAny (model prog w) A (compareOp .In (.int x t) (.ref l)) Q E s := by
  obtain ⟨o, ho, hl⟩ := h.get pk
  obtain ⟨vs, hL, ha⟩ := lst_isList ho hl
  refine in_listAt (isI x) hL (ints_eqAt ha) ?_
  rw [List.any_toArray, ints_any ha]
  exact q
theorem r_notInInts {l : Addr} {x : Int} {t : Tok} {xs : List Int} (h : H hB oB G ob s) (pk : Pick l (lst (xs.map .int)) ob rest) (q : Q (.bool (!decide (x ∈ xs))) s) : wpAny (model prog w) A (compareOp .NotIn (.int x t) (.ref l)) Q E s := by
  obtain ⟨o, ho, hl⟩ := h.get pk
  obtain ⟨vs, hL, ha⟩ := lst_isList ho hl
  refine notIn_listAt (isI x) hL (ints_eqAt ha) ?_
  rw [List.any_toArray, ints_any ha]
  exact q
theorem ints_all {xs ys : List Int} (he : xs.length = ys.length) : ((List.range xs.length).all fun i => xs.getD i 0 == ys.getD i 0) = decide (xs = ys) := by
  by_cases q : xs = ys
  · subst q; simp
  · rw [decide_eq_false q]
    refine Bool.eq_false_iff.mpr fun hall => q ?_
    rw [List.all_eq_true] at hall
    refine List.ext_getElem he fun i h1 h2 => ?_
    have := hall i (List.mem_range.mpr h1)
    simpa [List.getD_eq_getElem?_getD, h1, h2] using this
theorem ints_at {A : Around} {vs us : List Value} {xs ys : List Int} (ha : Ares (xs.map .int) vs) (hb : Ares (ys.map .int) us) (he : xs.length = ys.length) :
    ∀ j (h1 : j < vs.toArray.size) (h2 : j < us.toArray.size), EqAt A s vs.toArray[j] us.toArray[j] (xs.getD j 0 == ys.getD j 0) := by
  intro j h1 h2
  have e1 := ha.length
  have e2 := hb.length
  rw [List.length_map] at e1 e2
  simp only [List.size_toArray] at h1 h2
  have k1 : j < xs.length := by omega
  have k2 : j < ys.length := by omega
  obtain ⟨u, hu⟩ := ha.get (i := j) (x := .int xs[j]) (by simp [k1])
  obtain ⟨u2, hu2⟩ := hb.get (i := j) (x := .int ys[j]) (by simp [k2])
  have q1 : vs[j] = .int xs[j] u := by rw [List.getElem?_eq_getElem h1] at hu; exact Option.some.inj hu
  have q2 : us[j] = .int ys[j] u2 := by rw [List.getElem?_eq_getElem h2] at hu2; exact Option.some.inj hu2
  rw [List.getElem_toArray, List.getElem_toArray, q1, q2]
  have := (MeetsSeq.EqGives.int xs[j] ys[j] u u2).at A s
  simpa [List.getD_eq_getElem?_getD, k1, k2] using this
theorem r_eqInts {l b : Addr} {xs ys : List Int} (hu : A.units < cLine) (h : H hB oB G ob s) (pk : Pick l (lst (xs.map .int)) ob rest) {rest2 : Ledger} (pk2 : Pick b (lst (ys.map .int)) ob rest2) (q : Q (.bool (decide (xs = ys))) s) : wpAny (model prog w) A (compareOp .Eq (.ref l) (.ref b)) Q E s := by
  obtain ⟨o, ho, hl⟩ := h.get pk
  obtain ⟨vs, hL, ha⟩ := lst_isList ho hl
  obtain ⟨o2, ho2, hl2⟩ := h.get pk2
  obtain ⟨us, hL2, hb⟩ := lst_isList ho2 hl2
  have e1 := ha.length
  have e2 := hb.length
  rw [List.length_map] at e1 e2
  by_cases he : xs.length = ys.length
  · refine eq_listAt (e := fun i => xs.getD i 0 == ys.getD i 0) hL hL2 (by simp; omega) hu (ints_at ha hb he) ?_
    rw [show vs.toArray.size = xs.length from by simp; omega, ints_all he]
    exact q
  · refine eq_list_lengthsAt hL hL2 (by simp; omega) hu ?_
    rwa [decide_eq_false (fun e => he (congrArg List.length e))] at q
theorem r_neInts {l b : Addr} {xs ys : List Int} (hu : A.units < cLine) (h : H hB oB G ob s) (pk : Pick l (lst (xs.map .int)) ob rest) {rest2 : Ledger} (pk2 : Pick b (lst (ys.map .int)) ob rest2) (q : Q (.bool (!decide (xs = ys))) s) : wpAny (model prog w) A (compareOp .NotEq (.ref l) (.ref b)) Q E s := by
  obtain ⟨o, ho, hl⟩ := h.get pk
  obtain ⟨vs, hL, ha⟩ := lst_isList ho hl
  obtain ⟨o2, ho2, hl2⟩ := h.get pk2
  obtain ⟨us, hL2, hb⟩ := lst_isList ho2 hl2
  have e1 := ha.length
  have e2 := hb.length
  rw [List.length_map] at e1 e2
  by_cases he : xs.length = ys.length
  · refine RcNeAt.lists (e := fun i => xs.getD i 0 == ys.getD i 0) hL hL2 (by simp; omega) hu (ints_at ha hb he) prog w E Q ?_
    rw [show vs.toArray.size = xs.length from by simp; omega, ints_all he]
    exact q
  · refine RcNeAt.lists_lengths hL hL2 (by simp; omega) hu prog w E Q ?_
    rwa [decide_eq_false (fun e => he (congrArg List.length e))] at q
theorem r_eqNil {l b : Addr} {xs : List Int} (hu : A.units < cLine) (h : H hB oB G ob s) (pk : Pick l (lst (xs.map .int)) ob rest) {rest2 : Ledger} (pk2 : Pick b (lst []) ob rest2) (q : Q (.bool (decide (xs = []))) s) : wpAny (model prog w) A (compareOp .Eq (.ref l) (.ref b)) Q E s :=
  r_eqInts (ys := []) hu h pk pk2 q
end

end Mine
namespace Mine
open PySem PySem.Calls PyProof.Rows PySem.W
section
variable {prog : Program} {w : World} {A : Around} {E : Value → Shared → Prop} {s : Shared} {hB : Heap} {oB : OsState} {G : Array GenState} {ob rest : Ledger} {I l : Addr}
theorem Itr.congr {Le : Nat → Ledger} {fin : Ledger} {n : Nat} {val val' : Nat → AV} (it : Itr prog w hB oB I Le fin n val) (hv : ∀ i, i < n → val i = val' i) : Itr prog w hB oB I Le fin n val' where
  item := fun i hi A G R s Q E hh h k => it.item i hi A G R s Q E hh h (fun t s' h' => hv i hi ▸ k t s' h')
  done := it.done
  selfI := it.selfI
theorem Itr.ints (I l : Addr) (zs : List Int) : Itr prog w hB oB I (fun i => (I, liter l i) :: [(l, lst (zs.map .int))]) [(l, lst (zs.map .int))] zs.length (fun i => .int (zs.getD i 0)) := by
  have := Itr.list (prog := prog) (w := w) (hB := hB) (oB := oB) I l (zs.map .int)
  rw [List.length_map] at this
  refine this.congr fun i hi => ?_
  simp [List.getD_eq_getElem?_getD, hi]
theorem Pick.app {a : Addr} {P : OP} {R : Ledger} : ∀ {ob rest : Ledger}, Pick a P ob rest → Pick a P (ob ++ R) (rest ++ R)
  | _, _, .here => .here
  | _, _, .there h => .there h.app
theorem H.pickback {P : OP} (pk : Pick l P ob rest) (h : H hB oB G ((l, P) :: rest) s) : H hB oB G ob s := h.perm pk.perm.symm
/-- the list lies somewhere in the ledger -/
theorem Itr.intsIn (I l : Addr) (zs : List Int) (pk : Pick l (lst (zs.map .int)) ob rest) : Itr prog w hB oB I (fun i => (I, liter l i) :: ob) ob zs.length (fun i => .int (zs.getD i 0)) where
  item := fun i hi A G R s Q E hh h k => by
    have pm : List.Perm ((I, liter l i) :: (ob ++ R)) ((I, liter l i) :: (l, lst (zs.map .int)) :: (rest ++ R)) := List.Perm.cons _ (pk.app (R := R)).perm
    have pm' : List.Perm ((I, liter l (i + 1)) :: (l, lst (zs.map .int)) :: (rest ++ R)) ((I, liter l (i + 1)) :: (ob ++ R)) := List.Perm.cons _ (pk.app (R := R)).perm.symm
    exact (Itr.ints (prog := prog) (w := w) (hB := hB) (oB := oB) I l zs).item i hi A G (rest ++ R) s Q E hh (h.perm pm) fun t s' h' => k t s' (h'.perm pm')
  done := fun A G R s Q E hh h k => by
    have pm : List.Perm ((I, liter l zs.length) :: (ob ++ R)) ((I, liter l zs.length) :: (l, lst (zs.map .int)) :: (rest ++ R)) := List.Perm.cons _ (pk.app (R := R)).perm
    exact (Itr.ints (prog := prog) (w := w) (hB := hB) (oB := oB) I l zs).done A G (rest ++ R) s Q E hh (h.perm pm) fun s' h' => k s' (h'.perm (pk.app (R := R)).perm.symm)
  selfI := fun i A G R s Q E h k => by
    obtain ⟨o, ho, hc, hd⟩ := h.get .here
    exact wpAny_pyIter_listiter (l := l) (i := i) ⟨o, ho, hc, hd⟩ k
theorem r_iterListIn {xs : List AV} {Q : Value → Shared → Prop} (h : H hB oB G ob s) (pk : Pick l (lst xs) ob rest) (k : ∀ I s', H hB oB G ((I, liter l 0) :: ob) s' → Q (.ref I) s') : wpAny (model prog w) A (pyIter (.ref l)) Q E s :=
  r_iterList h pk fun I s' h' => k I s' (h'.perm (List.Perm.cons _ pk.perm.symm))
noncomputable def rangeL (a : Int) (n : Nat) : List Int := (List.range n).map fun (i : Nat) => a + (i : Int)
theorem rangeL_len (a : Int) (n : Nat) : (rangeL a n).length = n := by simp [rangeL]
theorem Itr.rangeI (I : Addr) (a : Int) (n : Nat) : Itr prog w hB oB I (fun i => (I, riter (a + i) (n - i)) :: []) [] n (fun i => .int ((rangeL a n).getD i 0)) :=
  (Itr.rangeN I a n).congr fun i hi => by simp [rangeL, List.getD_eq_getElem?_getD, hi]
theorem filter_take_succ {α : Type} (p : α → Bool) (zs : List α) (i : Nat) (d : α) (hi : i < zs.length) : (zs.take (i + 1)).filter p = (zs.take i).filter p ++ (if p (zs.getD i d) then [zs.getD i d] else []) := by
  rw [List.take_add_one, List.filter_append]
  congr 1
  simp only [List.getElem?_eq_getElem hi, Option.toList_some, List.getD_eq_getElem?_getD, Option.getD_some]
  cases hq : p zs[i] <;> simp [hq]

/-- a comprehension over ints, a test and a value that keep the ledger -/
theorem compInts {x : Str} {px : Pos} {elt : Expr} {ifs : List Expr} {gs' : List Str} {fc : List (Str × Addr)} {Qe : (Addr × OP) → Ledger → Array GenState → Addr → Prop} {X : Nat → OP} {fin J : Ledger} {n : Nat} {zs : List Int}
    (it : Itr prog w hB oB I (fun i => (I, X i) :: fin) fin n (fun i => .int (zs.getD i 0))) (hn : zs.length = n) (hz : n ≤ 100000) (p : Int → Bool) (f : Int → AV) (h : H hB oB G ((I, X 0) :: (fin ++ J)) s)
    (hbody : ∀ z ∈ zs, ∀ C env' E' s' R0, Ev env' C [x] fc gs' → H hB oB G ((C, nsp [x] [(x, some (.int z))]) :: (fin ++ (J ++ R0))) s' →
      wpAny (model prog w) A (forIn ifs true fun c r => if r = true then do let ok ← isTrue c env' (eval c env'); pure (ForInStep.yield ok) else pure (ForInStep.yield r)) (fun ok s₁ => ok = p z ∧
        H hB oB G ((C, nsp [x] [(x, some (.int z))]) :: (fin ++ (J ++ R0))) s₁) E' s' ∧
      (p z = true → ∀ s₁, H hB oB G ((C, nsp [x] [(x, some (.int z))]) :: (fin ++ (J ++ R0))) s₁ → wpAny (model prog w) A (eval elt env') (fun v s₂ => ∃ t, v = (f z).v t ∧ H hB oB G ((C, nsp [x] [(x, some (.int z))]) :: (fin ++ (J ++ R0))) s₂) E' s₁))
    (hend : ∀ D, Qe (D, lst ((zs.filter p).map f)) (fin ++ J) G D) : CompFrom prog w A hB oB (.Name x px) elt ifs [x] gs' fc Qe (.ref I) s := by
  subst hn
  refine CompFrom.mk (ItrT.name it) (fun _ => [(x, none)]) (fun i => [(x, some (.int (zs.getD i 0)))]) (fun i => ((zs.take i).filter p).map f) J ⟨rfl, fun q hq => by cases List.mem_singleton.mp hq; rfl⟩ (fun i _ => ?_) rfl h (fun i _ => Put.here) (fun i hi C D env' E' s' he h => ?_) (fun D => ?_)
  · rw [List.length_map]
    have := List.length_filter_le p (zs.take i)
    rw [List.length_take] at this
    omega
  · have hm : zs.getD i 0 ∈ zs := by simp [List.getD_eq_getElem?_getD, hi]
    have e0 := filter_take_succ p zs i 0 hi
    generalize zs.getD i 0 = z at h hm e0
    have pm : List.Perm ((C, nsp [x] [(x, some (AV.int z))]) :: (((I, X (i + 1)) :: fin) ++ (D, lst (((zs.take i).filter p).map f)) :: J)) ((C, nsp [x] [(x, some (AV.int z))]) :: (fin ++ (J ++ [(I, X (i + 1)), (D, lst (((zs.take i).filter p).map f))]))) := by
      refine List.Perm.cons _ ?_
      have e1 : List.Perm ((D, lst (((zs.take i).filter p).map f)) :: J) (J ++ [(D, lst (((zs.take i).filter p).map f))]) := (List.perm_append_singleton _ _).symm
      have e2 : List.Perm ((I, X (i + 1)) :: (fin ++ (J ++ [(D, lst (((zs.take i).filter p).map f))]))) (fin ++ (J ++ ((I, X (i + 1)) :: [(D, lst (((zs.take i).filter p).map f))]))) := by
        rw [← List.append_assoc, ← List.append_assoc]
        exact List.perm_middle.symm
      exact (List.Perm.cons _ (List.Perm.append_left fin e1)).trans e2
    have h2 := h.perm pm
    obtain ⟨b1, b2⟩ := hbody z hm C env' E' s' _ he h2
    have back : ∀ {s''}, H hB oB G ((C, nsp [x] [(x, some (.int z))]) :: (fin ++ (J ++ [(I, X (i + 1)), (D, lst (((zs.take i).filter p).map f))]))) s'' →
        H hB oB G (((I, X (i + 1)) :: fin) ++ (C, nsp [x] [(x, none)]) :: (D, lst (((zs.take i).filter p).map f)) :: J) s'' := fun h3 =>
      ((h3.weak (P' := nsp [x] [(x, none)]) (nsp_forg (.forget .nil))).perm (List.Perm.cons _ ((List.perm_cons _).mp pm).symm)).perm List.perm_middle.symm
    refine wpAny_mono b1 (fun ok s₁ h3 => ?_) fun _ _ e => e
    obtain ⟨rfl, h3⟩ := h3
    cases hp : p z with
    | false =>
      simp only [Bool.false_eq_true, if_false]
      refine ⟨?_, back h3⟩
      rw [e0, hp]; simp
    | true =>
      simp only [if_true]
      refine wpAny_mono (b2 hp s₁ h3) (fun v s₂ h4 => ?_) fun _ _ e => e
      obtain ⟨t, rfl, h4⟩ := h4
      refine ⟨f z, t, rfl, ?_, back h4⟩
      rw [e0, hp]; simp
  · have := hend D
    rw [List.take_length]
    exact this
end

end Mine
namespace Mine
open PySem PySem.Calls PyProof.Rows PySem.W
section
variable {prog : Program} {w : World} {A : Around} {E : Value → Shared → Prop} {s s' : Shared} {hB : Heap} {oB : OsState} {G : Array GenState} {ob rest : Ledger} {a b : Addr} {P P' P2 P2' : OP} {o o' : Obj}
theorem H.upd2 (h : H hB oB G ((a, P) :: (b, P') :: rest) s) (k : ∀ c o, c ≠ a → c ≠ b → s.heap.get? c = some o → s'.heap.get? c = some o) (ha : s'.heap.get? a = some o) (hpa : P2 o) (hb : s'.heap.get? b = some o') (hpb : P2' o')
    (hg : s'.gens = s.gens := by rfl) (hos : s'.os = s.os := by rfl) : H hB oB G ((a, P2) :: (b, P2') :: rest) s' := by
  have n1 := List.nodup_cons.mp h.nodup
  have n2 := List.nodup_cons.mp n1.2
  have hra : ∀ q ∈ rest, q.1 ≠ a := fun q hq e => n1.1 (List.mem_map.mpr ⟨q, .tail _ hq, e⟩)
  have hrb : ∀ q ∈ rest, q.1 ≠ b := fun q hq e => n2.1 (List.mem_map.mpr ⟨q, hq, e⟩)
  have f1 : hB.get? a = none := h.new (a, P) (.head _)
  have f2 : hB.get? b = none := h.new (b, P') (.tail _ (.head _))
  refine ⟨fun c o e => k c o (fun q => ?_) (fun q => ?_) (h.keep c o e), hos.trans h.os, hg.trans h.gens, fun q hq => ?_, h.nodup, fun q hq => ?_⟩
  · rw [q, f1] at e; cases e
  · rw [q, f2] at e; cases e
  · rcases List.mem_cons.mp hq with rfl | hq
    · exact ⟨o, ha, hpa⟩
    · rcases List.mem_cons.mp hq with rfl | hq
      · exact ⟨o', hb, hpb⟩
      · obtain ⟨o2, e, x⟩ := h.at' q (.tail _ (.tail _ hq))
        exact ⟨o2, k _ _ (hra q hq) (hrb q hq) e, x⟩
  · rcases List.mem_cons.mp hq with rfl | hq
    · exact f1
    · rcases List.mem_cons.mp hq with rfl | hq
      · exact f2
      · exact h.new q (.tail _ (.tail _ hq))
theorem H.addNew (h : H hB oB G ob s') (hf : hB.get? a = none ∧ ∀ p ∈ ob, p.1 ≠ a) (ho : s'.heap.get? a = some o) (hp : P o) : H hB oB G ((a, P) :: ob) s' :=
  ⟨h.keep, h.os, h.gens, fun q hq => by
    rcases List.mem_cons.mp hq with rfl | hq
    · exact ⟨o, ho, hp⟩
    · exact h.at' q hq, List.nodup_cons.mpr ⟨fun hm => by
      obtain ⟨p, hp, e⟩ := List.mem_map.mp hm
      exact hf.2 p hp e, h.nodup⟩, fun q hq => by
    rcases List.mem_cons.mp hq with rfl | hq
    · exact hf.1
    · exact h.new q hq⟩

/-- an enumerate object -/
noncomputable def enumO (it : Addr) (i : Int) : OP := fun o => ∃ old, o = ({ cls := .type "enumerate", dict := none, data := .fields #[.none, .bool false, .ref it, rawInt i, .none, old], slots := #[] } : Obj)
noncomputable def enumU (it : Addr) (i : Int) (T : Addr) : OP := fun o => ∃ x, o = ({ cls := .type "enumerate", dict := none, data := .fields #[rawInt T, .bool false, .ref it, rawInt i, .none, x], slots := #[] } : Obj)

theorem ItrT.enumStr {x y : Str} {px py tp : Pos} {c : Nat} (e it : Addr) (z : Str) : ItrT prog w hB oB (.Tuple [.Name x px, .Name y py] c tp) e (fun i => [(e, enumO it i), (it, siter z i)]) [] z.cps.size
    (fun i lo lo' => ∃ l1, Put x (.int i) lo l1 ∧ Put y (sgn z i) l1 lo') where
  item := fun i hi A G R s env L locs gs cl lo lo' Q E hh he hp h k => by
    obtain ⟨oe, ho, old, rfl⟩ := h.get .here
    obtain ⟨ot, hot, t, hc, hd⟩ := h.get (.there .here)
    have n1 := List.nodup_cons.mp h.nodup
    have hne : e ≠ it := fun q => n1.1 (by rw [q]; exact .head _)
    obtain ⟨l1, p1, p2⟩ := hp
    have hx : z.cps[i]? = some (z.cps.getD i 0) := by simp [Array.getD, hi]
    have common : ∀ (ty : String), ot.cls = .type ty → (ty = "str_ascii_iterator" ∨ ty = "str_iterator") → ∀ (P : Nat → Value → Prop) , (∀ v, P i v → ∃ c u, z.cps[i]? = some c ∧ v = .str ⟨#[c]⟩ u) →
        Draws prog w A.in1 it [it] z.cps.size P (fun i h => h.IsStrIter it ty z t i) →
        wpAny (model prog w) A (pyNext (.ref e)) (fun r s₁ => ∃ v, r = some v ∧ wpAny (model prog w) A (letOwnedTupleGo (.Tuple [.Name x px, .Name y py] c tp) (.ref e) v) (fun _ s₂ => wpAny (model prog w) A (assign (.Tuple [.Name x px, .Name y py] c tp) env v) Q E s₂) E s₁) E s := by
      intro ty hty hor P hP D
      refine wpAny_pyNext_enum_itemD D ho ⟨ot, hot, hty, hd⟩ hi hne (by simpa using hne) fun v h' tk hv hout hst hT hsz hk => ⟨_, rfl, ?_⟩
      obtain ⟨cc, u, hcc, rfl⟩ := hP v hv
      have hcc2 : cc = z.cps.getD i 0 := Option.some.inj (hcc.symm.trans hx)
      subst hcc2
      obtain ⟨o2, ho2, hc2, hd2⟩ := hst
      have hfr := h.fresh (fresh_at s.heap)
      have h2 : H hB oB G ((e, enumU it (i + 1) s.heap.objs.size) :: (it, siter z (i + 1)) :: ((L, nsp locs lo) :: R)) { s with heap := h', toks := tk + 1 } :=
        h.upd2 (s' := { s with heap := h', toks := tk + 1 }) (fun b o hb1 hb2 q => hk b o hb1 hb2 q) hout ⟨_, rfl⟩ ho2 ⟨t, by rcases hor with q | q <;> subst q <;> simp [hc2], hd2⟩
      have h3 := h2.addNew (a := s.heap.objs.size) (P := tup [.int i, sgn z i]) ⟨hfr.1, fun p hp => by
        rcases List.mem_cons.mp hp with rfl | hp
        · exact hfr.2 (e, enumO it i) (.head _)
        · rcases List.mem_cons.mp hp with rfl | hp
          · exact hfr.2 (it, siter z i) (.tail _ (.head _))
          · exact hfr.2 _ (.tail _ (.tail _ hp))⟩ hT ⟨[.int i tk, .str ⟨#[z.cps.getD i 0]⟩ u], 0, rfl, .cons tk (.cons u .nil)⟩
      refine wpAny_letOwnedTupleGo_enum hout fun h'' he'' hs'' => ?_
      have h4 := h3.updS (s' := { s with heap := h'', toks := tk + 1 }) (P' := enumO it (i + 1)) (.there .here) hs'' he'' ⟨_, rfl⟩
      refine r_unpack2 (x := x) (y := y) hh h4 (.there .here) fun t1 t2 s5 h5 => ?_
      refine r_store he h5 (.there (.there (.there .here))) p1 fun s6 h6 => ?_
      refine r_store he h6 .here p2 fun s7 h7 => k _ ?_
      exact h7.sub (.cons .here (fun _ h => h) (.cons .here (fun _ h => h) (.cons (.there .here) (fun _ h => h) (.skip .refl))))
    rcases hc with hc | hc
    · exact common _ hc (.inl rfl) _ (fun v h => h) (Draws.strAscii (A := A.in1) hh it z t)
    · exact common _ hc (.inr rfl) _ (fun v h => h) (Draws.strWide (A := A.in1) hh it z t)
  done := fun A G R s Q E hh h k => by
    obtain ⟨oe, ho, old, rfl⟩ := h.get .here
    obtain ⟨ot, hot, t, hc, hd⟩ := h.get (.there .here)
    have fin : ∀ h', Heap.ExtBut it s.heap h' → Q none { s with heap := h' } := fun h' hs => k _ ((h.lose (.there .here) (fun b o hb q => hs b o hb q)).drop)
    rcases hc with hc | hc
    · exact wpAny_pyNext_enum_endD (Draws.strAscii (A := A.in1) hh it z t) ho ⟨ot, hot, hc, hd⟩ fin
    · exact wpAny_pyNext_enum_endD (Draws.strWide (A := A.in1) hh it z t) ho ⟨ot, hot, hc, hd⟩ fin
  selfI := fun i A G R s Q E h k => by
    obtain ⟨oe, ho, old, rfl⟩ := h.get .here
    exact wpAny_pyIter_enum ho k
theorem r_enumStr {x : Str} {t : Tok} {Q : Value → Shared → Prop} (h : H hB oB G ob s) (k : ∀ e it s', H hB oB G ((e, enumO it 0) :: (it, siter x 0) :: ob) s' → Q (.ref e) s') : wpAny (model prog w) A (call (.type "enumerate") [.str x t]) Q E s := by
  refine call_enumerate_str fun h' he hi hz hk => k _ s.heap.objs.size _ ?_
  obtain ⟨o, ho, hc, hd⟩ := hi
  have h0 : H hB oB G ob { s with heap := h' } := h.of hk
  have f1 := h.fresh (fresh_at s.heap)
  have f2 := h.fresh (fresh_ge s.heap (Nat.le_succ s.heap.objs.size))
  have h1 := h0.addNew (P := siter x 0) f1 ho ⟨t, by unfold strIterType at hc; split at hc; exact .inl hc; exact .inr hc, hd⟩
  refine h1.addNew (a := s.heap.objs.size + 1) ⟨f2.1, fun p hp => ?_⟩ he ⟨_, rfl⟩
  rcases List.mem_cons.mp hp with rfl | hp
  · exact Nat.ne_of_lt (Nat.lt_succ_self _)
  · exact f2.2 p hp
theorem r_iterEnum {e it : Addr} {i : Int} {Q : Value → Shared → Prop} (h : H hB oB G ob s) (pk : Pick e (enumO it i) ob rest) (k : Q (.ref e) s) : wpAny (model prog w) A (pyIter (.ref e)) Q E s := by
  obtain ⟨oe, ho, old, rfl⟩ := h.get pk
  exact wpAny_pyIter_enum ho k
end

end Mine
namespace Mine
open PySem PySem.Calls PyProof.Rows PySem.W PySem.Builtin PySem.Builtin.Str
theorem fm_take (l : List Nat) (a : Nat) : ∀ c, (List.range c).filterMap (fun i => l[a + i]?) = (l.drop a).take c := by
  intro c
  induction c with
  | zero => simp
  | succ c ih =>
    rw [List.range_succ, List.filterMap_append, ih, List.take_add_one, List.getElem?_drop]
    cases q : l[a + c]? <;> simp [q]
theorem slice_gen (l : List Nat) (lo hi : Option Int) (a b : Nat) (hab : a ≤ b) (hb : b ≤ l.length)
    (h : strSliceIndices lo hi 1 l.length = sliceRange a b 1) : Txt.slice (S l) lo hi = S ((l.drop a).take (b - a)) := by
  have hr : sliceRange a b 1 = (List.range (b - a)).map (fun i => a + i) := by
    unfold sliceRange
    have : (if (1:Int) > 0 then (if (a:Int) < b then ((b:Int) - a + 1 - 1) / 1 else 0) else (if (a:Int) > b then ((a:Int) - b - 1 - 1) / (-1) else 0)).toNat = b - a := by
      rw [if_pos (by decide)]
      split
      · rw [Int.ediv_one, Int.add_sub_cancel, Int.toNat_sub]
      · rename_i q; exact (Nat.sub_eq_zero_of_le (Int.ofNat_le.mp (Int.not_lt.mp q))).symm
    dsimp only
    rw [this]
    refine List.map_congr_left fun k _ => ?_
    rw [Int.one_mul]
    rfl
  unfold Txt.slice
  rw [S_len, h, hr]
  split
  · rename_i q
    simp only [beq_self_eq_true, Bool.true_and, List.length_map, List.length_range, beq_iff_eq] at q
    have ha : a = 0 := by omega
    subst ha
    simp only [Nat.sub_zero] at q
    rw [List.drop_zero, Nat.sub_zero, q, List.take_length]
  · rw [List.filterMap_map, ← fm_take]
    have : (fun i => (S l).cps[a + i]?) = fun i => l[a + i]? := funext fun i => by simp [S]
    show (⟨(List.filterMap (fun i => (S l).cps[a + i]?) _).toArray⟩ : Str) = _
    rw [this]; rfl
theorem clip0 (l : List Nat) {k : Int} (h0 : 0 ≤ k) (h1 : k ≤ l.length) : strSliceIndices none (some k) 1 l.length = sliceRange (0 : Nat) (k.toNat : Nat) 1 := by
  unfold strSliceIndices
  simp only [show (1 : Int) > 0 by decide, if_true]
  congr 1
  rw [if_neg (Int.not_lt.mpr h0), Int.min_eq_left h1, Int.max_eq_right h0, Int.toNat_of_nonneg h0]
theorem slice_to (l : List Nat) {k : Int} (h0 : 0 ≤ k) (h1 : k ≤ l.length) : Txt.slice (S l) none (some k) = S (l.take k.toNat) := by
  rw [slice_gen l none (some k) 0 k.toNat (Nat.zero_le _) (by omega) (clip0 l h0 h1)]; simp
theorem slice_from (l : List Nat) {k : Int} (h0 : 0 ≤ k) (h1 : k ≤ l.length) : Txt.slice (S l) (some k) none = S (l.drop k.toNat) := by
  rw [slice_gen l (some k) none k.toNat l.length (by omega) (Nat.le_refl _) ?_]
  · rw [List.take_of_length_le (by simp)]
  · unfold strSliceIndices
    simp only [show (1 : Int) > 0 by decide, if_true]
    congr 1
    rw [if_neg (Int.not_lt.mpr h0), Int.min_eq_left h1, Int.max_eq_right h0, Int.toNat_of_nonneg h0]
theorem slice_toNeg (l : List Nat) : Txt.slice (S l) none (some (-1)) = S (l.take (l.length - 1)) := by
  rw [slice_gen l none (some (-1)) 0 (l.length - 1) (Nat.zero_le _) (by omega) ?_]
  · simp
  · unfold strSliceIndices
    simp only [show (1 : Int) > 0 by decide, if_true, show (-1 : Int) < 0 by decide]
    congr 1
    omega
theorem slice_fromNeg (l : List Nat) : Txt.slice (S l) (some (-1)) none = S (l.drop (l.length - 1)) := by
  rw [slice_gen l (some (-1)) none (l.length - 1) l.length (by omega) (Nat.le_refl _) ?_]
  · rw [List.take_of_length_le (by simp)]
  · unfold strSliceIndices
    simp only [show (1 : Int) > 0 by decide, if_true, show (-1 : Int) < 0 by decide]
    congr 1
    omega
theorem S_join (ts : List (List Nat)) : Txt.join (Str.ofString "") (ts.map S) = S ts.flatten := by
  have e0 : (Str.ofString "").cps = #[] := by decide +kernel
  have gen : ∀ (ts : List (List Nat)) (a : Array Nat), ((ts.map S).foldl (fun acc p => acc ++ (Str.ofString "").cps ++ p.cps) a).toList = a.toList ++ ts.flatten := by
    intro ts
    induction ts with
    | nil => intro a; simp
    | cons t r ih =>
      intro a
      rw [List.map_cons, List.foldl_cons, ih, e0]
      simp [S]
  apply Str_ext
  rw [S_cps]
  show (glued (Str.ofString "") (ts.map S)).cps.toList = _
  unfold glued
  cases ts with
  | nil => simp [Str.empty]
  | cons t r =>
    show ((r.map S).foldl _ (S t).cps).toList = _
    rw [gen, S_cps]; simp
theorem joinOkS (ts : List (List Nat)) (h : (ts.map List.length).sum ≤ 100000) : JoinOk (Str.ofString "") (ts.map S) = true := by
  have e0 : (Str.ofString "").length = 0 := by decide +kernel
  have gen : ∀ (ts : List (List Nat)) (a : Nat), (ts.map S).foldl (fun x1 x2 => x1 + x2.length + (Str.ofString "").length) a = a + (ts.map List.length).sum := by
    intro ts
    induction ts with
    | nil => intro a; simp
    | cons t r ih =>
      intro a
      rw [List.map_cons, List.foldl_cons, ih, e0, S_len, List.map_cons, List.sum_cons]
      omega
  unfold JoinOk tooLong
  rw [List.foldl_toArray, gen]
  have : sizeLine = 16777216 := by decide
  simp [this]
  omega

end Mine
namespace Mine
open PySem PySem.Calls PyProof.Rows PySem.W
/-- an instance and its attributes -/
noncomputable def insO (C dx : Addr) : OP := fun o => o.cls = .ref C ∧ (∀ c, o.data ≠ .cls c) ∧ o.dict = some dx
noncomputable def atd (as : List (Str × AV)) : OP := fun o => o.cls = .type "dict" ∧ o.dict = none ∧ ∃ es ep, o.data = .dict es ep ∧ StrKeys es ∧ UniqKeys es ∧ (∀ x v, (x, v) ∈ as → ∃ t, nsFind es x = some (v.v t)) ∧ ∀ x, nsFind es x ≠ none → x ∈ as.map (·.1)
section
variable {prog : Program} {w : World} {A : Around} {E : Value → Shared → Prop} {s : Shared} {hB : Heap} {oB : OsState} {G : Array GenState} {ob rest : Ledger} {x dx C N : Addr} {as : List (Str × AV)} {mN : Str → Option Value} {name : Str} {v : AV}
theorem inst_of {ox od : Obj} (hx : s.heap.get? x = some ox) (px : insO C dx ox) (hd : s.heap.get? dx = some od) (pd : atd as od) (hne : dx ≠ x) :
    ∃ mA, s.heap.InstFk x C mA ∧ (∀ y v, (y, v) ∈ as → ∃ t, mA y = some (v.v t)) ∧ Within mA (as.map (·.1)) := by
  obtain ⟨c1, c2, c3⟩ := px
  obtain ⟨d1, d2, es, ep, d3, d4, d5, d6, d7⟩ := pd
  exact ⟨nsFind es, ⟨ox, hx, c1, c2, .inr ⟨dx, c3, hne, ⟨od, es, ep, hd, d3, d4, d5, fun _ => rfl⟩, ⟨od, hd, d1, d2⟩⟩⟩, d6, fun y hy => d7 y hy⟩
theorem atd_of {hp : Heap} {d : Addr} {mA : Str → Option Value} (h1 : hp.Ns1 d mA) (h2 : hp.ExactDictFk d) (hv : ∀ y v, (y, v) ∈ as → ∃ t, mA y = some (v.v t)) (hw : ∀ y, mA y ≠ none → y ∈ as.map (·.1)) : ∃ o, hp.get? d = some o ∧ atd as o := by
  obtain ⟨o, es, ep, e, hd, hk, hu, hf⟩ := h1
  obtain ⟨o', e', c, dd⟩ := h2
  obtain rfl := Option.some.inj (e.symm.trans e')
  exact ⟨o, e, c, dd, es, ep, hd, hk, hu, fun y v hm => by rw [hf]; exact hv y v hm, fun y hy => hw y (by rw [← hf]; exact hy)⟩
theorem cls_in (X : ClsAt hB C N mN) (h : H hB oB G ob s) : ClsAt s.heap C N mN := X.keeps h.keep

theorem r_getattr {expr : Bool} {Q : Value → Shared → Prop} (X : ClsAt hB C N mN) (h : H hB oB G ob s) (pk : Pick x (insO C dx) ob rest) {rest2 : Ledger} (pk2 : Pick dx (atd as) rest rest2) (hv : (name, v) ∈ as)
    (hng : mN "__getattribute__" = none) (hna : mN name = none) (hB' : typeLookup (.type "object") name = pure none) (hh : ∀ t, handedOut (v.v t) = pure (v.v t))
    (k : ∀ t s', H hB oB G ob s' → Q (v.v t) s') : wpAny (model prog w) A (getAttr (.ref x) name expr) Q E s := by
  have hp := h.pick pk
  obtain ⟨ox, hx, px⟩ := hp.get .here
  obtain ⟨od, hd, pd⟩ := hp.get (.there pk2)
  have hne : dx ≠ x := fun e => (List.nodup_cons.mp hp.nodup).1 (List.mem_map.mpr ⟨(dx, atd as), pk2.perm.mem_iff.mpr (.head _), e⟩)
  obtain ⟨mA, I, hm, _⟩ := inst_of hx px hd pd hne
  obtain ⟨t, ht⟩ := hm _ _ hv
  have Xs := cls_in X h
  obtain ⟨nm, q, bs, sn, sub, col, dd, k0, k1, k2, k3, k5, hC⟩ := Xs.obj
  have h' := k t { s with toks := s.toks + 1 } (h.tok _)
  obtain ⟨hh', g, d, tt, os⟩ := s
  exact load_attrFk hC Xs.ns hng hna hB' I ht (hh t) h'
theorem r_setattr {t : Tok} {Q : Unit → Shared → Prop} (X : ClsAt hB C N mN) (h : H hB oB G ob s) (pk : Pick x (insO C dx) ob rest) {rest2 : Ledger} (pk2 : Pick dx (atd as) rest rest2) (hv : name ∉ as.map (·.1)) (hz : as.length ≤ 1000)
    (hns : mN "__setattr__" = none) (hna : mN name = none) (hB' : typeLookup (.type "object") name = pure none)
    (k : ∀ s', H hB oB G ((dx, atd (as ++ [(name, v)])) :: (x, insO C dx) :: rest2) s' → Q () s') : wpAny (model prog w) A (setAttr (.ref x) name (v.v t)) Q E s := by
  have hp := h.pick pk
  obtain ⟨ox, hx, px⟩ := hp.get .here
  obtain ⟨od, hd, pd⟩ := hp.get (.there pk2)
  have hne : dx ≠ x := fun e => (List.nodup_cons.mp hp.nodup).1 (List.mem_map.mpr ⟨(dx, atd as), pk2.perm.mem_iff.mpr (.head _), e⟩)
  obtain ⟨mA, I, hm, hw⟩ := inst_of hx px hd pd hne
  have Xs := cls_in X h
  obtain ⟨nm, q, bs, sn, sub, col, dd, k0, k1, k2, k3, k5, hC⟩ := Xs.obj
  have hxC : x ≠ C := by
    rintro rfl
    obtain ⟨nm, q, bs, sn, sub, col, dd, k0, k1, k2, k3, k5, hC0⟩ := X.obj
    rw [hp.new (x, insO x dx) (.head _)] at hC0; cases hC0
  have h2 : H hB oB G ((dx, atd as) :: (x, insO C dx) :: rest2) s := hp.perm ((List.Perm.cons _ pk2.perm).trans (List.Perm.swap _ _ _))
  have fin : ∀ h' tk', h'.InstFk x C (fun y => if y = name then some (v.v t) else mA y) → (∀ b o, b ≠ x → (∀ o₀ dx, s.heap.get? x = some o₀ → o₀.dict = some dx → b ≠ dx) → s.heap.get? b = some o → h'.get? b = some o) →
      (∀ o₀, s.heap.get? x = some o₀ → ∃ o₁, h'.get? x = some o₁ ∧ o₁.cls = o₀.cls ∧ o₁.data = o₀.data ∧ o₁.slots = o₀.slots ∧ ∀ dx, o₀.dict = some dx → o₁.dict = some dx) → Q () { s with heap := h', toks := tk' } := by
    intro h' tk' I' hk hsame
    obtain ⟨o₁, e₁, c₁, dt₁, _, dk₁⟩ := hsame ox hx
    obtain ⟨o', e', _, _, hd'⟩ := I'
    obtain rfl := Option.some.inj (e₁.symm.trans e')
    obtain ⟨p1, p2, p3⟩ := px
    rcases hd' with ⟨hn0, _⟩ | ⟨d', hd', _, hns', hex'⟩
    · rw [dk₁ dx p3] at hn0; cases hn0
    · obtain rfl := Option.some.inj ((dk₁ dx p3).symm.trans hd')
      obtain ⟨on, en, pn⟩ := atd_of (as := as ++ [(name, v)]) hns' hex' (fun y u hm' => by
        rcases List.mem_append.mp hm' with hm' | hm'
        · have : y ≠ name := fun e => hv (e ▸ List.mem_map.mpr ⟨_, hm', rfl⟩)
          rw [if_neg this]; exact hm _ _ hm'
        · cases List.mem_singleton.mp hm'
          exact ⟨t, if_pos rfl⟩) (fun y hy => by
        by_cases q : y = name
        · subst q; simp
        · rw [if_neg q] at hy
          have := hw y hy
          rw [List.map_append]; exact List.mem_append_left _ this)
      exact k _ (h2.upd2 (s' := { s with heap := h', toks := tk' }) (fun b o hb1 hb2 e => hk b o hb2 (fun o₀ d0 e₀ ed => by
        obtain rfl := Option.some.inj (hx.symm.trans e₀)
        obtain rfl := Option.some.inj (p3.symm.trans ed)
        exact hb1) e) en pn e₁ ⟨c₁.trans p1, fun c => dt₁ ▸ p2 c, dk₁ _ p3⟩)
  obtain ⟨hh', g, d, tt, os⟩ := s
  exact store_attrFk PySem.F.store_object hC Xs.ns hns hna hB' hxC I (fun h' tk' I' hk hsame => fin h' tk' I' hk hsame) hw (le_size (by rw [List.length_map]; omega))
theorem r_new {vals : List Value} {fI : Addr} {oI : Obj} {Q : Value → Shared → Prop} (X : ClsAt hB C N mN) (h : H hB oB G ob s) (hi : mN "__init__" = some (.ref fI)) (ho : hB.get? fI = some oI) (hfc : oI.cls = .type "function")
    (k : ∀ x dx s', H hB oB G ((x, insO C dx) :: (dx, atd []) :: ob) s' → wpAny (model prog w) (A.under (.builtin "type.__call__" ⟨.ref C :: vals, []⟩)) (call (.ref fI) (.ref x :: vals)) (fun r s'' => r = .none ∧ Q (.ref x) s'') E s') :
    wpAny (model prog w) A (call (.ref C) vals) Q E s := by
  have Xs := cls_in X h
  obtain ⟨nm, q, bs, sn, sub, col, dd, k0, k1, k2, k3, k5, hC⟩ := Xs.obj
  have fin : ∀ h' x dx, Heap.MadeObjFk s.heap h' x dx C → H hB oB G ((x, insO C dx) :: (dx, atd []) :: ob) { s with heap := h' } := by
    intro h' x dx Mk
    obtain ⟨ox, hx, hcx, hncx, hdx⟩ := Mk.inst
    have hdd := Mk.dict ox hx
    rcases hdx with ⟨hn0, _⟩ | ⟨d', hd', hne', hns', hex'⟩
    · rw [hn0] at hdd; cases hdd
    · obtain rfl := Option.some.inj (hd'.symm.trans hdd)
      obtain ⟨on, en, pn⟩ := atd_of (as := []) hns' hex' (fun _ _ q => nomatch q) (fun y hy => absurd rfl hy)
      have f1 := h.fresh Mk.newD
      have f2 := h.fresh Mk.newX
      have h0 : H hB oB G ob { s with heap := h' } := h.of Mk.keeps
      refine (h0.addNew f1 en pn).addNew ⟨f2.1, fun p hp => ?_⟩ hx ⟨hcx, hncx, hdd⟩
      rcases List.mem_cons.mp hp with rfl | hp
      · exact hne'
      · exact f2.2 p hp
  have ho' := h.keep _ _ ho
  obtain ⟨hh', g, d, tt, os⟩ := s
  exact wpAny_call_obj_initFk PySem.F.objNew hC Xs.ns hi ho' hfc fun h' x dx Mk => k x dx _ (fin h' x dx Mk)
end

end Mine
namespace Mine
open PySem PySem.Calls PyProof.Rows PySem.W
section
variable {prog : Program} {w : World} {A : Around} {E : Value → Shared → Prop} {s : Shared} {hB : Heap} {oB : OsState} {G : Array GenState} {ob rest : Ledger} {env : Env} {L : Addr} {locs gs : List Str} {cl : List (Str × Addr)}
/-- a for loop with any target; the state is a thing x that may be chosen anew at each turn, with a fact kept of it -/
theorem r_forLoopT {σ : Type} {tgt : Expr} {body : List Stmt} {I : Addr} {Le : Nat → Ledger} {fin : Ledger} {n : Nat} {Pt : Nat → Lo → Lo → Prop} {Q : Flow → Shared → Prop} {Ex : Value → Shared → Prop}
    (he : Ev env L locs cl gs) (it : ItrT prog w hB oB tgt I Le fin n Pt) (hh : A.handled = none) (Inv : Nat → σ → Prop) (lo lo' : Nat → σ → Lo) (J : Nat → σ → Ledger) (Gi : Nat → Array GenState) (x0 : σ) (h0 : Inv 0 x0)
    (h : H hB oB (Gi 0) (Le 0 ++ (L, nsp locs (lo 0 x0)) :: J 0 x0) s) (hput : ∀ i x, i < n → Pt i (lo i x) (lo' i x))
    (hbody : ∀ i x, i < n → Inv i x → ∀ E' s', H hB oB (Gi i) ((L, nsp locs (lo' i x)) :: (Le (i + 1) ++ J i x)) s' →
      wpAny (model prog w) A (execs body env) (TurnEnd Q fun s'' => ∃ y, Inv (i + 1) y ∧ H hB oB (Gi (i + 1)) (Le (i + 1) ++ (L, nsp locs (lo (i + 1) y)) :: J (i + 1) y) s'') E' s')
    (hend : ∀ x, Inv n x → ∀ s', H hB oB (Gi n) (fin ++ (L, nsp locs (lo n x)) :: J n x) s' → Q .next s') :
    codeAny (model prog w) A (.forLoop tgt (.ref I) body [] env) (fun r s' => match r with | .ok f => Q f s' | .error e => Ex e s') s := by
  refine codeAny_forLoop_any (fun k s' => ∃ i x, i ≤ n ∧ k = n - i ∧ Inv i x ∧ H hB oB (Gi i) (Le i ++ (L, nsp locs (lo i x)) :: J i x) s') ?_ n ⟨0, x0, Nat.zero_le _, rfl, h0, h⟩
  rintro k s' ⟨i, x, hi, rfl, hI, h'⟩
  by_cases hlt : i < n
  · refine wpAny_mono (it.item i hlt _ _ _ _ env L locs gs cl (lo i x) (lo' i x) (fun _ s₁ => wpAny (model prog w) A (execs body env) (TurnEnd Q fun s'' => ∃ y, Inv (i + 1) y ∧ H hB oB (Gi (i + 1)) (Le (i + 1) ++ (L, nsp locs (lo (i + 1) y)) :: J (i + 1) y) s'')
      (notedBy (model prog w) A env Ex) s₁) _ hh he (hput i x hlt) h' (fun s₁ h₁ => hbody i x hlt hI _ s₁ h₁)) (fun r s₁ k => ?_) fun _ _ e => e
    obtain ⟨v, rfl, k⟩ := k
    refine wpAny_mono k (fun _ s₂ k => ?_) fun _ _ e => e
    refine wpAny_mono k (fun _ s₃ k => ?_) fun _ _ e => e
    refine wpAny_mono k (fun f s₄ k => ?_) fun _ _ e => e
    cases f with
    | next => obtain ⟨y, k1, k2⟩ := k; exact ⟨n - (i + 1), by omega, i + 1, y, hlt, rfl, k1, k2⟩
    | cont => obtain ⟨y, k1, k2⟩ := k; exact ⟨n - (i + 1), by omega, i + 1, y, hlt, rfl, k1, k2⟩
    | brk => exact k
    | ret v => exact k
  · have : i = n := by omega
    subst this
    exact it.done _ _ _ _ _ _ hh h' fun s₁ h₁ => wpAny_execs_nil (hend x hI s₁ h₁)
/-- what holds when the body breaks, or ends -/
noncomputable abbrev AfterLoop (P : Shared → Prop) (Q : Flow → Shared → Prop) : Flow → Shared → Prop := fun f s => match f with | .next => P s | f => Q f s
theorem r_forLoopP {σ : Type} {tgt : Expr} {body : List Stmt} {I : Addr} {Le : Nat → Ledger} {fin : Ledger} {n : Nat} {Pt : Nat → Lo → Lo → Prop} {Q : Flow → Shared → Prop} {Ex : Value → Shared → Prop}
    (he : Ev env L locs cl gs) (it : ItrT prog w hB oB tgt I Le fin n Pt) (hh : A.handled = none) (P : Shared → Prop) (Inv : Nat → σ → Prop) (lo lo' : Nat → σ → Lo) (J : Nat → σ → Ledger) (Gi : Nat → Array GenState) (x0 : σ) (h0 : Inv 0 x0)
    (h : H hB oB (Gi 0) (Le 0 ++ (L, nsp locs (lo 0 x0)) :: J 0 x0) s) (hput : ∀ i x, i < n → Pt i (lo i x) (lo' i x))
    (hbody : ∀ i x, i < n → Inv i x → ∀ E' s', H hB oB (Gi i) ((L, nsp locs (lo' i x)) :: (Le (i + 1) ++ J i x)) s' →
      wpAny (model prog w) A (execs body env) (TurnEnd (AfterLoop P Q) fun s'' => ∃ y, Inv (i + 1) y ∧ H hB oB (Gi (i + 1)) (Le (i + 1) ++ (L, nsp locs (lo (i + 1) y)) :: J (i + 1) y) s'') E' s')
    (hend : ∀ x, Inv n x → ∀ s', H hB oB (Gi n) (fin ++ (L, nsp locs (lo n x)) :: J n x) s' → P s') (hP : ∀ s', P s' → Q .next s') :
    codeAny (model prog w) A (.forLoop tgt (.ref I) body [] env) (fun r s' => match r with | .ok f => Q f s' | .error e => Ex e s') s := by
  refine codeAny_mono (r_forLoopT (Q := AfterLoop P Q) (Ex := Ex) he it hh Inv lo lo' J Gi x0 h0 h hput hbody hend) (fun r s' k => ?_)
  match r, k with
  | .ok .next, k => exact hP _ k
  | .ok .brk, k => exact k
  | .ok .cont, k => exact k
  | .ok (.ret v), k => exact k
  | .error e, k => exact k
theorem Rm.under {n : Nat} {A : Around} {id : String} {a : Args} (r : Rm (n + 1) A) (hw : Code.weight (.builtin id a) ≤ 1) (hc : Code.cUnits (.builtin id a) ≤ 20) : Rm n (A.under (.builtin id a)) :=
  ⟨r.h, by have := r.d; show A.depth + Code.weight (.builtin id a) + n ≤ 900; omega, by have := r.u; show A.units + Code.cUnits (.builtin id a) + 20 * n ≤ 5000; omega⟩
end
theorem wt_new (C : Addr) (vals : List Value) : Code.weight (.builtin "type.__call__" ⟨.ref C :: vals, []⟩) = 1 := by with_unfolding_all rfl
theorem cu_new (C : Addr) (vals : List Value) : Code.cUnits (.builtin "type.__call__" ⟨.ref C :: vals, []⟩) = 1 := by with_unfolding_all rfl
section
variable {prog : Program} {w : World} {A : Around} {E : Value → Shared → Prop} {s : Shared} {hB : Heap} {oB : OsState} {G : Array GenState} {ob rest : Ledger} {Q : Value → Shared → Prop}
theorem Rm.new {n : Nat} {C : Addr} {vals : List Value} (r : Rm (n + 1) A) : Rm n (A.under (.builtin "type.__call__" ⟨.ref C :: vals, []⟩)) :=
  r.under (by rw [wt_new]; decide) (by rw [cu_new]; decide)
theorem Ares.rep {xs : List AV} {vs : List Value} (h : Ares xs vs) : ∀ n, Ares (List.replicate n xs).flatten (List.replicate n vs).flatten
  | 0 => by simp; exact .nil
  | n + 1 => by rw [List.replicate_succ, List.replicate_succ, List.flatten_cons, List.flatten_cons]; exact h.append (h.rep n)
/-- the attribute of a class -/
structure ClsVal (prog : Program) (w : World) (hB : Heap) (C : Addr) (name : Str) (v : Value) : Prop where
  get : ∀ (A : Around) (E : Value → Shared → Prop) (s : Shared) (Q : Value → Shared → Prop) (expr : Bool), (∀ b o, hB.get? b = some o → s.heap.get? b = some o) → Q v { s with toks := s.toks + 1 } → wpAny (model prog w) A (getAttr (.ref C) name expr) Q E s
theorem r_clsval {C : Addr} {name : Str} {v : Value} {expr : Bool} (g : ClsVal prog w hB C name v) (h : H hB oB G ob s) (k : ∀ s', H hB oB G ob s' → Q v s') : wpAny (model prog w) A (getAttr (.ref C) name expr) Q E s :=
  g.get A E s Q expr h.keep (k _ (h.tok _))
/-- a plain method of an instance -/
theorem r_meth {C N x dx f : Addr} {as : List (Str × AV)} {mN : Str → Option Value} {name : Str} {pl : Sem Bool} {of : Obj} {Q : Value × List Value → Shared → Prop} (X : ClsAt hB C N mN) (h : H hB oB G ob s) (pk : Pick x (insO C dx) ob rest) {rest2 : Ledger} (pk2 : Pick dx (atd as) rest rest2)
    (hng : mN "__getattribute__" = none) (hnh : mN "__getattr__" = none) (hf : mN name = some (.ref f)) (hfo : hB.get? f = some of) (hfc : of.cls = .type "function") {y : Option Value} (hB' : typeLookup (.type "object") name = pure y)
    (hsh : name ∉ as.map (·.1)) (q : Q (.ref f, [.ref x]) s) : wpAny (model prog w) A (getMethod (.ref x) name pl) Q E s := by
  have hp := h.pick pk
  obtain ⟨ox, hx, px⟩ := hp.get .here
  obtain ⟨od, hd, pd⟩ := hp.get (.there pk2)
  have hne : dx ≠ x := fun e => (List.nodup_cons.mp hp.nodup).1 (List.mem_map.mpr ⟨(dx, atd as), pk2.perm.mem_iff.mpr (.head _), e⟩)
  obtain ⟨mA, I, _, hw⟩ := inst_of hx px hd pd hne
  have Xs := cls_in X h
  obtain ⟨nm, q', bs, sn, sub, col, dd, k0, k1, k2, k3, k5, hC⟩ := Xs.obj
  have hfo' := h.keep _ _ hfo
  have hno : mA name = none := by
    cases e : mA name with
    | none => rfl
    | some v => exact absurd (hw name (by rw [e]; exact fun z => nomatch z)) hsh
  obtain ⟨hh', g, d, tt, os⟩ := s
  exact method_ofFk hC Xs.ns hng hnh hf hfo' hfc hB' I hno q
theorem r_tuple_list {l : Addr} {xs : List AV} {Q : Value → Shared → Prop} (h : H hB oB G ob s) (pk : Pick l (lst xs) ob rest) (hz : xs.length ≤ sizeLine) (k : ∀ a s', H hB oB G ((a, tup xs) :: ob) s' → Q (.ref a) s') : wpAny (model prog w) A (call (.type "tuple") [.ref l]) Q E s := by
  obtain ⟨o, ho, hl⟩ := h.get pk
  obtain ⟨vs, hL, ha⟩ := lst_isList ho hl
  refine call_tuple_list hL (fun h' hk => k _ _ ?_) (szB ha hz)
  have h1 : H hB oB G ob { s with heap := h' } := h.of hk
  exact h1.push (o := { cls := .type "tuple", data := .seq vs.toArray }) rfl ⟨vs, 0, rfl, ha⟩ rfl
theorem r_setItem {l : Addr} {xs : List AV} {v : AV} {k : Int} {t u : Tok} {Q : Unit → Shared → Prop} (h : H hB oB G ob s) (pk : Pick l (lst xs) ob rest) (h0 : 0 ≤ k) (h1 : k < xs.length) (hz : xs.length ≤ 100000)
    (q : ∀ s', H hB oB G ((l, lst (xs.set k.toNat v)) :: rest) s' → Q () s') : wpAny (model prog w) A (setItem (.ref l) (.int k u) (v.v t)) Q E s := by
  obtain ⟨o, ho, hl⟩ := h.get pk
  obtain ⟨vs, n, rfl, ha⟩ := hl
  have hl := ha.length
  refine ki_setAt ho h0 (by omega) (by rw [List.size_toArray]; omega) (q _ ?_)
  obtain ⟨n', e⟩ := mapSeq_get ho (fun xs => xs.setIfInBounds k.toNat (v.v t)) (us := vs.set k.toNat (v.v t)) (by
    apply Array.toList_inj.mp
    simp)
  exact h.updS pk (Heap.SameBut.update ..) e ⟨_, _, rfl, ha.set _ _ _⟩
theorem r_mulInts {l : Addr} {xs : List AV} {x : Int} {u : Tok} (h : H hB oB G ob s) (pk : Pick l (lst xs) ob rest) (hx : -1000 ≤ x ∧ x ≤ 1000) (hz : xs.length ≤ 1000)
    (q : ∀ a s', H hB oB G ((a, lst (List.replicate x.toNat xs).flatten) :: ob) s' → Q (.ref a) s') : wpAny (model prog w) A (binaryOp .Mult (.ref l) (.int x u)) Q E s := by
  obtain ⟨o, ho, vs, n, rfl, ha⟩ := h.get pk
  have hlen := ha.length
  have hm : vs.toArray.size * x.toNat ≤ 1000 * 1000 := Nat.mul_le_mul (by rw [List.size_toArray]; omega) (by omega)
  refine wpAny_binaryOp_repeat_ref (T := "list") (U := "int") (by decide) ⟨_, ho, rfl⟩ (fun s' => typeIs_int s' x u) noFill_list_mul F.fills_int_mul F.slot_int_rmul repeat_list F.slot_int_index.lookup
    (call_meets F.slot_int_rmul (typeIs_int s x u) F.entry_int_rmul (F.args_int_rmul_2 _ _) (int___rmul___int_list x u l vs.toArray n)
      ⟨ho, rfl, ⟨_, ho, rfl⟩, call_meets F.slot_list_mul ⟨_, ho, rfl⟩ F.entry_list_mul (F.args_list_mul_2 _ _)
        (AutoListH.list___mul___list_int_3 l vs.toArray n x u (by simp [Builtin.List.listFitsIndex]; omega) (by omega) (by simp [Builtin.List.listTooLong, sizeLine]; simp at hm; omega))
        ⟨ho, ?_⟩⟩)
  refine q _ _ (h.push (P := lst (List.replicate x.toNat xs).flatten) rfl ⟨(List.replicate x.toNat vs).flatten, 0, ?_, ha.rep _⟩ rfl)
  rw [listMul_foldl_if]
end

end Mine
namespace Mine
open PySem PySem.Calls PyProof.Rows PySem.W
section
variable {prog : Program} {w : World} {A : Around} {E : Value → Shared → Prop} {s : Shared} {hB : Heap} {oB : OsState} {G : Array GenState} {ob rest : Ledger} {a b x dx C N : Addr} {as : List (Str × AV)} {mN : Str → Option Value} {name : Str} {v : AV} {P P' : OP}
theorem pick_of_mem : ∀ {ob : Ledger}, (a, P) ∈ ob → ∃ rest, Pick a P ob rest
  | p :: r, h => by
    rcases List.mem_cons.mp h with e | h
    · exact ⟨r, e ▸ .here⟩
    · obtain ⟨q, hq⟩ := pick_of_mem h
      exact ⟨p :: q, .there hq⟩
theorem Pick.mem_rest {ob rest : Ledger} (pk : Pick a P ob rest) (h : (b, P') ∈ ob) (hn : b ≠ a) : (b, P') ∈ rest := by
  rcases List.mem_cons.mp (pk.perm.mem_iff.mp h) with e | h
  · cases e; exact absurd rfl hn
  · exact h
theorem Pick.mem {ob rest : Ledger} (pk : Pick a P ob rest) : (a, P) ∈ ob := pk.perm.mem_iff.mpr (.head _)
theorem H.getM (h : H hB oB G ob s) (m : (a, P) ∈ ob) : ∃ o, s.heap.get? a = some o ∧ P o := h.at' _ m
theorem inst_ne (h : H hB oB G ob s) (m : (x, insO C dx) ∈ ob) (m2 : (dx, atd as) ∈ ob) : dx ≠ x := by
  rintro rfl
  obtain ⟨o, e, p, _⟩ := h.getM m
  obtain ⟨o', e', p', _⟩ := h.getM m2
  obtain rfl := Option.some.inj (e.symm.trans e')
  rw [p] at p'; cases p'
theorem r_getattrM {expr : Bool} {Q : Value → Shared → Prop} (X : ClsAt hB C N mN) (h : H hB oB G ob s) (m : (x, insO C dx) ∈ ob) (m2 : (dx, atd as) ∈ ob) (hv : (name, v) ∈ as)
    (hng : mN "__getattribute__" = none) (hna : mN name = none) (hB' : typeLookup (.type "object") name = pure none) (hh : ∀ t, handedOut (v.v t) = pure (v.v t))
    (k : ∀ t s', H hB oB G ob s' → Q (v.v t) s') : wpAny (model prog w) A (getAttr (.ref x) name expr) Q E s := by
  obtain ⟨rest, pk⟩ := pick_of_mem m
  obtain ⟨rest2, pk2⟩ := pick_of_mem (pk.mem_rest m2 (inst_ne h m m2))
  exact r_getattr X h pk pk2 hv hng hna hB' hh k
theorem r_methM {f : Addr} {pl : Sem Bool} {of : Obj} {Q : Value × List Value → Shared → Prop} (X : ClsAt hB C N mN) (h : H hB oB G ob s) (m : (x, insO C dx) ∈ ob) (m2 : (dx, atd as) ∈ ob)
    (hng : mN "__getattribute__" = none) (hnh : mN "__getattr__" = none) (hf : mN name = some (.ref f)) (hfo : hB.get? f = some of) (hfc : of.cls = .type "function") {y : Option Value} (hB' : typeLookup (.type "object") name = pure y)
    (hsh : name ∉ as.map (·.1)) (q : Q (.ref f, [.ref x]) s) : wpAny (model prog w) A (getMethod (.ref x) name pl) Q E s := by
  obtain ⟨rest, pk⟩ := pick_of_mem m
  obtain ⟨rest2, pk2⟩ := pick_of_mem (pk.mem_rest m2 (inst_ne h m m2))
  exact r_meth X h pk pk2 hng hnh hf hfo hfc hB' hsh q
/-- o.name(args): a plain method -/
theorem r_methodV {env : Env} {o : Expr} {name : Str} {apos pos : Pos} {args : List Expr} {pl : Sem Bool} {Q : Value → Shared → Prop}
    (k : wpAny (model prog w) A (eval o env) (fun ov s₁ => ∃ f first, IsFn hB f ∧ (∀ Q' : Value × List Value → Shared → Prop, Q' (.ref f, first) s₁ → wpAny (model prog w) A (getMethod ov name pl) Q' E s₁) ∧
      wpAny (model prog w) A (spliced (backTo pos (starEach args env))) (fun vs s₂ => Live hB oB s₂ ∧ wpAny (model prog w) A (call (.ref f) (first ++ vs)) Q E s₂) E s₁) E s)
    (he : eval (.Call (.Attribute o name apos) args [] pos) env = (do
      let ov ← eval o env
      standAt apos.atName
      let (f, first) ← holding [ov] (getMethod ov name pl)
      callWith pos f first (backTo pos (starEach args env)) (backToKw pos (keywordEach [] env))) := by rfl)
    (hp : (backTo pos (starEach args env)).any (·.1) = false := by rfl) : wpAny (model prog w) A (eval (.Call (.Attribute o name apos) args [] pos) env) Q E s := by
  refine methodCall_KW (pl := pl) (wpAny_mono k (fun ov s₁ k => ?_) fun _ _ e => e) he
  obtain ⟨f, first, hm, hg, hc⟩ := k
  exact hg _ (r_withF hm hp hc)
theorem r_lenTup {l : Addr} {xs : List AV} {Q : Value → Shared → Prop} (h : H hB oB G ob s) (m : (l, tup xs) ∈ ob) (hz : xs.length ≤ sizeLine) (q : ∀ t s', H hB oB G ob s' → Q (.int xs.length t) s') : wpAny (model prog w) A (call (.builtin "len") [.ref l]) Q E s := by
  obtain ⟨o, ho, hl⟩ := h.getM m
  obtain ⟨vs, hL, ha⟩ := tup_isTup ho hl
  have e : vs.toArray.size = xs.length := by simp [ha.length]
  have hz' : sizeLine = 16777216 := by decide
  refine PyProof.Rows.len_tuple hL (by rw [e]; omega) ?_
  rw [e]
  exact q _ _ (h.tok _)
theorem r_max2 {x y : Int} {t u : Tok} {Q : Value → Shared → Prop} (hh : A.handled = none) (h : H hB oB G ob s) (q : ∀ t s', H hB oB G ob s' → Q (.int (max x y) t) s') : wpAny (model prog w) A (call (.builtin "max") [.int x t, .int y u]) Q E s := by
  refine max_two_ints hh fun h' tk hk => ?_
  have h1 : H hB oB G ob { s with heap := h', toks := tk } := h.of hk
  have h2 := q
  by_cases c : y > x
  · rw [if_pos c]
    have := q u _ h1
    rwa [show max x y = y from by omega] at this
  · rw [if_neg c]
    have := q t _ h1
    rwa [show max x y = x from by omega] at this
end

end Mine
namespace Mine
open PySem PySem.Calls PyProof.Rows PySem.W PySem.W.X
section
variable {prog : Program} {w : World} {A : Around} {c : Code} {fs : List Frame} {P : End → Shared → Prop} {s : Shared} {env : Env}
  {K : Flow → Sem Fin} {H' : Value → Sem Fin} {gd : Bool → Bool} {lv : List Value → List Value}
theorem x_wrap {α : Type} {m : Sem α} {K : α → Sem Fin} {H' : Value → Sem Fin} (h : wpAny (model prog w) (A.over c fs) m (fun a s' => SegX (model prog w) A c (K a) fs s' P) (fun x s' => SegX (model prog w) A c (H' x) fs s' P) s) :
    SegX (model prog w) A c (m.wrap K H' gd lv) fs s P := by
  rintro Γ p rfl hΓ
  obtain ⟨e, s', hr, hq⟩ := runs_wrap_of_wp (Φ := fun e s' => e.quiet = true ∧ P e s') K H' gd lv m (h (Γ.over fs) p (hΓ.over fs)) (fun a p' s' h' => h' Γ p' rfl hΓ) (fun x p' s' h' => h' Γ p' rfl hΓ)
  exact ⟨e, s', hr, hq⟩
theorem x_bind {α β : Type} {m : Sem α} {K : α → Sem β} {K' : β → Sem Fin} {H' : Value → Sem Fin} (h : wpAny (model prog w) (A.over c fs) m (fun a s' => SegX (model prog w) A c ((K a).wrap K' H' gd lv) fs s' P) (fun x s' => SegX (model prog w) A c (H' x) fs s' P) s) :
    SegX (model prog w) A c ((m >>= K).wrap K' H' gd lv) fs s P := by
  rw [Sem.bind_eq_wrap', Sem.wrap_wrap]; exact x_wrap h
theorem x_at {p' : Pos} {k : Unit → Sem Fin} (h : SegX (model prog w) A c (k ()) fs s P) : SegX (model prog w) A c (.at p' k) fs s P :=
  x_wrap (m := standAt p') (K := k) (H' := .raise) (gd := id) (lv := id) (wpAny_standAt h)
theorem x_point {l : List Value} {k : Unit → Sem Fin} (h : SegX (model prog w) A c (k ()) fs s P) : SegX (model prog w) A c (.point l k) fs s P :=
  x_wrap (m := point) (K := k) (H' := .raise) (gd := id) (lv := fun _ => l) (wpAny_point h)
theorem x_rule {tag : String} {k : Unit → Sem Fin} (h : SegX (model prog w) A c (k ()) fs s P) : SegX (model prog w) A c (.rule tag k) fs s P :=
  x_wrap (m := rule tag) (K := k) (H' := .raise) (gd := id) (lv := id) (wpAny_rule h)
theorem x_nil (h : SegX (model prog w) A c (K .next) fs s P) : SegX (model prog w) A c ((execs [] env).wrap K H' gd lv) fs s P := h
theorem x_cons {st : Stmt} {rest : List Stmt} (h : SegX (model prog w) A c ((exec st env).wrap (fun f => match f with | .next => (execs rest env).wrap K H' gd lv | f => K f) H' gd lv) fs s P) :
    SegX (model prog w) A c ((execs (st :: rest) env).wrap K H' gd lv) fs s P := by rw [execs_cons_wrap]; exact h
theorem x_stmt {st : Stmt} (h : wpAny (model prog w) (A.over c fs) (exec st env) (fun f s' => SegX (model prog w) A c (K f) fs s' P) (fun x s' => SegX (model prog w) A c (H' x) fs s' P) s) :
    SegX (model prog w) A c ((exec st env).wrap K H' gd lv) fs s P := x_wrap h
theorem x_If {test : Expr} {body orelse : List Stmt} {pos : Pos}
    (h : wpAny (model prog w) (A.over c fs) (isTrue test env (eval test env)) (fun b s' => if b = true then SegX (model prog w) A c ((execs body env).wrap K H' gd lv) fs s' P else SegX (model prog w) A c ((execs orelse env).wrap K H' gd lv) fs s' P)
      (fun x s' => SegX (model prog w) A c (H' x) fs s' P) s) :
    SegX (model prog w) A c ((exec (.If test body orelse pos) env).wrap K H' gd lv) fs s P := by
  show SegX _ A c ((standAt pos >>= fun _ => (isTrue test env (eval test env) >>= fun b => if b = true then execs body env else execs orelse env)).wrap K H' gd lv) fs s P
  refine x_bind (wpAny_standAt ?_)
  refine x_bind (wpAny_mono h (fun b s' hb => ?_) fun _ _ e => e)
  cases b with
  | true => exact hb
  | false => exact hb
theorem x_Yield {e : Expr} {ypos pos : Pos} (hfs : splitAtGen fs = none) (hgd : gd false = false) (hfg : fs.any Frame.guarded = false)
    (h : wpAny (model prog w) (A.over c fs) (eval e env) (fun v s' => ∀ l k p, (∀ (P2 : End → Shared → Prop) s'', SegX (model prog w) A c (K .next) fs s'' P2 → SegX (model prog w) A c (k (.send .none)) fs s'' P2) → P (.susp v false l k c p fs) s')
      (fun x s' => SegX (model prog w) A c (H' x) fs s' P) s) (hco : env.scope.isCoroutine = false) (hi : interactive env = false) :
    SegX (model prog w) A c ((exec (.Expr (.Yield (some e) ypos) pos) env).wrap K H' gd lv) fs s P := by
  rw [exec_Expr env _ pos hi rfl]
  show SegX (model prog w) A c (.at pos fun _ => ((eval e env >>= fun v => (standAt ypos >>= fun _ => yieldOut env v)) >>= fun x =>
    dropValue (.Yield (some e) ypos) pos x).wrap K H' gd lv) fs s P
  have hy : ∀ v, yieldOut env v = yieldValue v := fun v => by simp only [yieldOut, hco, Bool.false_eq_true, if_false]
  simp only [hy]
  refine x_at ?_
  rw [Sem.bind_eq_wrap', Sem.bind_eq_wrap', Sem.wrap_wrap, Sem.wrap_wrap]
  refine x_wrap (wpAny_mono h (fun v s' h' => ?_) fun _ _ x => x)
  refine x_at ?_
  show SegX (model prog w) A c (.yield v (gd false) _ _) fs s' P
  rw [hgd]
  refine s_yield prog w A c fs P s' v _ _ hfs hfg fun p => h' _ _ p fun P2 s'' hx => ?_
  exact hx
/-- the end of a for statement in a generator -/
noncomputable abbrev forK (K : Flow → Sem Fin) (H' : Value → Sem Fin) (gd : Bool → Bool) (lv : List Value → List Value) (env : Env) : Result → Sem Fin :=
  fun r => ((match r with | .ok f => (.pure f : Sem Flow) | .error e => .raise e).onRaise fun (x : Value) => do
        if (← field x 1) == Value.none then unsupported "frame.own-activation:exception-without-traceback"
        setFlight x env.frame).wrap K H' gd lv
theorem x_For {target iter : Expr} {body orelse : List Stmt} {pos : Pos}
    (h : wpAny (model prog w) (A.over c fs) (eval iter env) (fun x s₁ => wpAny (model prog w) (A.over c fs) (pyIter x) (fun it s₂ =>
      ∀ p, SegX (model prog w) A (.forLoop target it body orelse env) (denote table (.forLoop target it body orelse env)) (.ret (forK K H' gd lv env) none (gd false) (lv []) c p [] :: fs) s₂ P)
        (fun x s' => SegX (model prog w) A c (H' x) fs s' P) s₁) (fun x s' => SegX (model prog w) A c (H' x) fs s' P) s)
    (hs : ∀ x, foldedSetIterable iter env x = pure x := by intro _; rfl) :
    SegX (model prog w) A c ((exec (.For target iter body orelse pos) env).wrap K H' gd lv) fs s P := by
  rw [exec_For]
  refine x_bind (wpAny_standAt ?_)
  refine x_bind (wpAny_mono h (fun x s₁ h₁ => ?_) fun _ _ e => e)
  refine x_bind (wpAny_of_eq (hs x) ?_)
  refine x_bind (wpAny_standAt ?_)
  refine x_bind (wpAny_holding (wpAny_mono h₁ (fun it s₂ h₂ => ?_) fun _ _ e => e))
  exact s_call prog w A c fs P s₂ _ _ _ _ _ h₂
theorem x_forLoop {target : Expr} {it : Value} {body orelse : List Stmt}
    (h : wpAny (model prog w) (A.over (.forLoop target it body orelse env) fs) (pyNext it) (fun r s' => match r with
      | none => SegX (model prog w) A (.block orelse env) (denote table (.block orelse env)) fs s' P
      | some v => wpAny (model prog w) (A.over (.forLoop target it body orelse env) fs) (letOwnedTupleGo target it v) (fun _ s₁ => wpAny (model prog w) (A.over (.forLoop target it body orelse env) fs) (assign target env v) (fun _ s₂ =>
          SegX (model prog w) A (.forLoop target it body orelse env) ((execs body env).wrap (fun f => match f with
            | .next | .cont => .pure (.again (.forLoop target it body orelse env))
            | .brk => .pure (.done .next)
            | .ret v => .pure (.done (.ret v))) (fun e => (do noteFrame e env; theTreesLotGoes e : Sem Unit).wrap (fun _ => .raise e) .raise id id) id id) fs s₂ P)
          (fun x s' => SegX (model prog w) A (.forLoop target it body orelse env) ((do noteFrame x env; theTreesLotGoes x : Sem Unit).wrap (fun _ => .raise x) .raise id id) fs s' P) s₁)
          (fun x s' => SegX (model prog w) A (.forLoop target it body orelse env) ((do noteFrame x env; theTreesLotGoes x : Sem Unit).wrap (fun _ => .raise x) .raise id id) fs s' P) s')
      (fun x s' => SegX (model prog w) A (.forLoop target it body orelse env) ((do noteFrame x env; theTreesLotGoes x : Sem Unit).wrap (fun _ => .raise x) .raise id id) fs s' P) s) :
    SegX (model prog w) A (.forLoop target it body orelse env) (denote table (.forLoop target it body orelse env)) fs s P := by
  show SegX _ A _ ((forTurn target it body orelse env).onRaise (fun x => do noteFrame x env; theTreesLotGoes x)) fs s P
  unfold forTurn
  have hb : ∀ e : Value, ((do noteFrame e env; theTreesLotGoes e : Sem Unit).bind fun _ => (.raise e : Sem Fin)) = (do noteFrame e env; theTreesLotGoes e : Sem Unit).wrap (fun _ => .raise e) .raise id id := fun e => Sem.bind_eq_wrap _ _
  rw [Sem.onRaise_eq_wrap]
  simp only [hb]
  refine x_bind (wpAny_standAt ?_)
  refine x_bind (wpAny_onRaise (wpAny_mono h (fun r s' hr => ?_) fun x s' hx => wpAny_standAt hx))
  cases r with
  | none =>
    refine s_again prog w A _ fs P s' _ rfl hr
  | some v =>
    refine x_bind (wpAny_mono hr (fun _ s₁ h₁ => ?_) fun _ _ e => e)
    refine x_bind (wpAny_mono h₁ (fun _ s₂ h₂ => ?_) fun _ _ e => e)
    rw [Sem.bind_eq_wrap', Sem.wrap_wrap]
    refine s_eq prog w A _ fs P s₂ _ _ (Sem.wrap_congr (execs body env) _ _ (fun f => ?_) (fun e => rfl)) h₂
    cases f <;> rfl
theorem x_block {stmts : List Stmt} (h : SegX (model prog w) A (.block stmts env) ((execs stmts env).wrap (fun f => .pure (.done f)) (fun e => (do noteFrame e env; theTreesLotGoes e : Sem Unit).wrap (fun _ => .raise e) .raise id id) id id) fs s P) :
    SegX (model prog w) A (.block stmts env) (denote table (.block stmts env)) fs s P := by
  show SegX _ A _ ((execs stmts env).onRaise (fun x => do noteFrame x env; theTreesLotGoes x) >>= fun f => pure (.done f)) fs s P
  have hb : ∀ e : Value, ((do noteFrame e env; theTreesLotGoes e : Sem Unit).bind fun _ => (.raise e : Sem Flow)) = (do noteFrame e env; theTreesLotGoes e : Sem Unit).wrap (fun _ => .raise e) .raise id id := fun e => Sem.bind_eq_wrap _ _
  rw [Sem.onRaise_eq_wrap, Sem.bind_eq_wrap', Sem.wrap_wrap]
  exact s_eq prog w A _ fs P s _ _ (Sem.wrap_congr (execs stmts env) _ _ (fun f => rfl) (fun e => by rw [hb, Sem.wrap_wrap]; rfl)) h
theorem x_func {body : List Stmt} (h : SegX (model prog w) A (.func body env) ((execs body env).wrap (fun f => .pure (.done (.ret (match f with | .ret v => v | _ => .none)))) (fun e => (leaving env e).wrap (fun _ => .raise e) .raise id id) id id) fs s P) :
    SegX (model prog w) A (.func body env) (denote table (.func body env)) fs s P := by
  show SegX _ A _ (.point [] fun _ => ((execs body env).onRaise (leaving env)) >>= _) fs s P
  refine x_point ?_
  rw [Sem.onRaise_eq_wrap, Sem.bind_eq_wrap', Sem.wrap_wrap]
  exact s_eq prog w A _ fs P s _ _ (Sem.wrap_congr (execs body env) _ _ (fun f => by cases f <;> rfl) (fun e => by rw [Sem.bind_eq_wrap, Sem.wrap_wrap]; rfl)) h
theorem x_done (r : Flow) (h : P (.ret (.ok r)) s) : SegX (model prog w) A c (.pure (.done r)) [] s P := s_end prog w A c P s (.ok r) _ rfl h
theorem x_pop (r : Flow) {k : Result → Sem Fin} {hd : Option Value} {g : Bool} {l : List Value} {c₁ : Code} {p₁ : Pos} {kp : List Value} (h : SegX (model prog w) A c₁ (k (.ok r)) fs s P) : SegX (model prog w) A c (.pure (.done r)) (.ret k hd g l c₁ p₁ kp :: fs) s P :=
  s_pop prog w A c fs P s (.ok r) _ rfl k hd g l c₁ p₁ kp h
end

end Mine
namespace Mine
open PySem PySem.Calls PyProof.Rows PySem.W PySem.W.X
noncomputable def genO (g : Nat) : OP := fun o => o.cls = .type "generator" ∧ (∃ nm qn, o.data = .fields #[.int g 0, nm, qn]) ∧ o.slots = #[]
noncomputable abbrev Bare (G : Array GenState) : Prop := ∀ y ∈ G, y.bare = true
/-- what a generator's table says -/
noncomputable def scOkG (sc : Scope) (locs gs : List Str) : Bool :=
  sc.kind == .function && !sc.isCoroutine && sc.isGenerator && sc.names.all (fun p => p.2 != .cell) && locs.all (fun x => sc.names.lookup x == some .local && !(x == ("__debug__" : Str))) &&
  gs.all (fun x => sc.names.lookup x == some .globalImplicit && !(x == ("__debug__" : Str))) && decide locs.Nodup
theorem scOkG_ev {sc : Scope} {locs gs : List Str} (h : scOkG sc locs gs = true) (L : Addr) (q : Str) (fn : Option Addr) (code : Value) :
    Ev (newEnv sc L mainGlobals [] q fn code none builtinsNs) L locs [] gs := by
  simp only [scOkG, Bool.and_eq_true, List.all_eq_true, Bool.not_eq_true', beq_iff_eq, decide_eq_true_eq] at h
  obtain ⟨⟨⟨⟨⟨⟨h1, h2⟩, h3⟩, h4⟩, h5⟩, h6⟩, h7⟩ := h
  exact ⟨h1, rfl, rfl, rfl, fun x hx => ⟨(h5 x hx).1, (h5 x hx).2⟩, (fun p hp => nomatch hp), fun x hx => ⟨(h6 x hx).1, (h6 x hx).2⟩, int_of_kind h1⟩
section
variable {prog : Program} {w : World} {A : Around} {E : Value → Shared → Prop} {s : Shared} {hB : Heap} {oB : OsState} {G : Array GenState} {ob rest R : Ledger}
theorem Bare.set {g : Nat} {x : GenState} (h : Bare G) (hx : x.bare = true) : Bare (G.setIfInBounds g x) := by
  intro y hy
  obtain ⟨i, hi, rfl⟩ := Array.mem_iff_getElem.mp hy
  have hi' : i < G.size := by simpa using hi
  by_cases q : g = i
  · subst q
    have e : (G.setIfInBounds g x)[g]? = some x := by simp [hi']
    rw [Array.getElem?_eq_getElem hi] at e
    rw [Option.some.inj e]; exact hx
  · have e : (G.setIfInBounds g x)[i]? = G[i]? := by rw [Array.getElem?_setIfInBounds, if_neg q]
    rw [Array.getElem?_eq_getElem hi, Array.getElem?_eq_getElem hi'] at e
    rw [Option.some.inj e]; exact h _ (Array.getElem_mem hi')
theorem Bare.push {x : GenState} (h : Bare G) (hx : x.bare = true) : Bare (G.push x) := by
  intro y hy
  rcases Array.mem_push.mp hy with hy | rfl
  · exact h _ hy
  · exact hx
theorem H.gen {g : Nat} {x : GenState} (h : H hB oB G ob s) : H hB oB (G.setIfInBounds g x) ob (s.setGen g x) :=
  ⟨h.keep, h.os, by rw [← h.gens]; rfl, h.at', h.nodup, h.new⟩
theorem r_genCall {n : Nat} {a : Addr} {name qual : Str} {params : Arguments} {body : List Stmt} {sc : Scope} {dV kV : Value} {vals : List Value} {Q : Value → Shared → Prop}
    (f : FnF hB a name qual params body sc dV kV) (lim : hB.NoLimit) (ps : Ps) (more : List Str) (locs gs : List Str) (lo : Lo) (hsc : scOkG sc locs gs = true)
    (hbind : ∀ doc pm an cdv ct, bindArgs (fnX name qual params body sc [] dV kV doc pm an cdv ct) ⟨vals, []⟩ = pure ps.binds)
    (rm : Rm n A) (h : H hB oB G ob s)
    (k : ∀ L env a s', Ev env L locs [] gs → env.scope.isCoroutine = false → H hB oB (G.push (.fresh (.func body env))) ((a, genO G.size) :: (L, nsp locs lo) :: ob) s' → Q (.ref a) s')
    (e1 : ps.locs more = locs := by rfl) (e2 : ps.lo more = lo := by rfl) :
    wpAny (model prog w) A (call (.ref a) vals) Q E s := by
  subst e1 e2
  obtain ⟨oc, od, osl, doc, pm, an, cdv, ct, ho, hcd⟩ := f.ex
  have hsc' := hsc
  simp only [scOkG, Bool.and_eq_true, List.all_eq_true, Bool.not_eq_true', beq_iff_eq, decide_eq_true_eq, bne_iff_ne] at hsc'
  obtain ⟨⟨⟨⟨⟨⟨h1, h2⟩, h3⟩, h4⟩, h5⟩, h6⟩, h7⟩ := hsc'
  refine wpAny_call (codeAny_call_generator rm.lt (h.keep _ _ ho) rfl h2 h3 rfl (hcd.keeps h.keep) ?_)
  refine wpAny_of_eq (hbind _ _ _ _ _) ?_
  refine wpAny_newFunctionEnv (fun x hx => h4 x hx) (fun x hx => ?_) (fun h₀ hns hsb => ?_) h1
  · obtain ⟨p, hp, rfl⟩ := List.mem_map.mp hx
    exact (h5 p.1 (List.mem_append_left _ (List.mem_map.mpr ⟨p, hp, rfl⟩))).1
  · refine ⟨(lim.keeps h.keep).fresh _ hsb, ?_⟩
    have hk : ∀ b o, s.heap.get? b = some o → h₀.get? b = some o := fun b o e => hsb.extBut b o (Nat.ne_of_lt (Heap.lt_size e)) (Heap.get?_push_of_some _ e)
    obtain ⟨o, es, ep, e1, e2, e3, e4⟩ := hns
    have hL : H hB oB G ((s.heap.objs.size, nsp (ps.locs more) (ps.lo more)) :: ob) { s with heap := h₀, toks := s.toks + ps.binds.length } :=
      h.add (a := s.heap.objs.size) (o := o) hk (fresh_at _) e1 ⟨ps.keys more, h7, es, ep, e2, e3, fun x v hm => by rw [e4]; exact ps.look h7 hm⟩
    refine k s.heap.objs.size _ _ _ (scOkG_ev hsc s.heap.objs.size (qual ++ ".<locals>.") (some a) cdv) h2 ?_
    have hg : s.gens = G := h.gens
    have hP : H hB oB (G.push (.fresh (.func body (newEnv sc s.heap.objs.size mainGlobals [] (qual ++ ".<locals>.") (some a) cdv none builtinsNs)))) ((s.heap.objs.size, nsp (ps.locs more) (ps.lo more)) :: ob)
        { s with heap := h₀, toks := s.toks + ps.binds.length, gens := s.gens.push (.fresh (.func body (newEnv sc s.heap.objs.size mainGlobals [] (qual ++ ".<locals>.") (some a) cdv none builtinsNs))) } :=
      ⟨hL.keep, hL.os, by rw [← hg], hL.at', hL.nodup, hL.new⟩
    refine hP.push (P := genO G.size) (o := { cls := .type "generator", data := .fields #[.int s.gens.size 0, .str name (s.toks + ps.binds.length), .str qual (s.toks + ps.binds.length + 1)] }) rfl ⟨rfl, ⟨_, _, by rw [hg]⟩, rfl⟩ rfl

/-- a generator's tree: what it does at the next n turns, its own ledger kept apart -/
noncomputable def GSeg (prog : Program) (w : World) (hB : Heap) (oB : OsState) (A : Around) (us : List (List AV)) : Nat → Ledger → Code → Sem Fin → List Frame → Prop
  | 0 => fun Lg c t fs => ∀ s G R, H hB oB G (Lg ++ R) s → SegX (model prog w) A c t fs s (fun e s' => match e with
      | .ret r => r = .ok (.ret .none) ∧ H hB oB G R s'
      | .susp .. => False)
  | n + 1 => fun Lg c t fs => ∀ s G R, H hB oB G (Lg ++ R) s → SegX (model prog w) A c t fs s (fun e s' => match e with
      | .ret _ => False
      | .susp v _ _ k c' _ fs' => ∃ T Lg' xs, us[us.length - (n + 1)]? = some xs ∧ v = .ref T ∧ H hB oB G ((T, tup xs) :: (Lg' ++ R)) s' ∧ GSeg prog w hB oB A us n Lg' c' (k (.send .none)) fs')
structure GenAtG (prog : Program) (w : World) (hB : Heap) (oB : OsState) (A : Around) (us : List (List AV)) (j : Nat) (Lg : Ledger) (G : Array GenState) (g : Nat) : Prop where
  ex : (∃ c, G[g]? = some (.fresh c) ∧ GSeg prog w hB oB A us (us.length - j) Lg c (denote table c) []) ∨
    (∃ k l c p fs cl, G[g]? = some (.suspended k l c p fs cl) ∧ GSeg prog w hB oB A us (us.length - j) Lg c (k (.send .none)) fs)
theorem genO_isGen {a : Addr} {g : Nat} (h : H hB oB G ob s) (m : (a, genO g) ∈ ob) : s.heap.IsGen a g := by
  obtain ⟨o, ho, hc, ⟨nm, qn, hd⟩, hs⟩ := h.getM m
  exact ⟨o, nm, qn, ho, hc, hd, hs⟩
theorem get_set {g : Nat} {x y : GenState} (h : G[g]? = some x) : (G.setIfInBounds g y)[g]? = some y := by
  have hlt : g < G.size := by
    rcases Nat.lt_or_ge g G.size with h' | h'
    · exact h'
    · rw [Array.getElem?_eq_none h'] at h; cases h
  simp [hlt]
theorem gen_item {a : Addr} {g j : Nat} {us : List (List AV)} {Lg : Ledger} {Q : Option Value → Shared → Prop} (lim : hB.NoLimit) (hroom : A.depth < recursionLimit) (hj : j < us.length)
    (hg : GenAtG prog w hB oB A.in1 us j Lg G g) (hb : Bare G) (h : H hB oB G ((a, genO g) :: (Lg ++ R)) s)
    (k : ∀ T Lg' G' s', GenAtG prog w hB oB A.in1 us (j + 1) Lg' G' g → Bare G' → H hB oB G' ((T, tup (us.getD j [])) :: (a, genO g) :: (Lg' ++ R)) s' → Q (some (.ref T)) s') :
    wpAny (model prog w) A (pyNext (.ref a)) Q E s := by
  have hI := genO_isGen h (.head _)
  have hl : s.heap.NoLimit := lim.keeps h.keep
  obtain ⟨n, hn⟩ : ∃ n, us.length - j = n + 1 := ⟨us.length - j - 1, by omega⟩
  have hx : us[us.length - (n + 1)]? = some (us.getD j []) := by
    rw [show us.length - (n + 1) = j from by omega]; simp [List.getD_eq_getElem?_getD, hj]
  have key : ∀ (c₀ : Code) (t₀ : Sem Fin) (fs₀ : List Frame) (gs : GenState), G[g]? = some gs → GSeg prog w hB oB A.in1 us (n + 1) Lg c₀ t₀ fs₀ →
      SegX (model prog w) A.in1 c₀ t₀ fs₀ (s.setGen g .running) (fun e s₁ => e.quiet = true ∧ match e with
        | .ret _ => False
        | .susp v _ _ _ _ _ _ => Q (some v) (s₁.setGen g e.genState)) := by
    intro c₀ t₀ fs₀ gs hgs hseg
    have h2 : H hB oB (G.setIfInBounds g .running) (Lg ++ ((a, genO g) :: R)) (s.setGen g .running) := (h.perm (List.perm_middle.symm)).gen
    have hS := hseg _ _ _ h2
    intro Γ p hc hΓ
    obtain ⟨e, s', hr, hq, hp⟩ := hS Γ p hc hΓ
    refine ⟨e, s', hr, hq, hq, ?_⟩
    cases e with
    | ret r => exact hp
    | susp v g0 l kk c' p' fs' =>
      obtain ⟨T, Lg', xs, hxs, rfl, h3, hG⟩ := hp
      rw [hx] at hxs
      obtain rfl := Option.some.inj hxs
      have hbq := End.bare_of_quiet hq
      refine k T Lg' ((G.setIfInBounds g .running).setIfInBounds g (.suspended kk l c' p' fs' (g0 || fs'.any Frame.guarded))) _ ⟨.inr ⟨kk, l, c', p', fs', _, get_set (get_set hgs), ?_⟩⟩ ((hb.set rfl).set hbq) ?_
      · rw [show us.length - (j + 1) = n from by omega]; exact hG
      · exact (h3.gen (g := g)).perm (List.Perm.cons _ List.perm_middle)
  unfold pyNext
  refine wpAny_bind (wpAny_attempt (wpAny_callSpecial?_slot (name := Str.ofString "__next__") hI.typeIs slot_gen_next
    (wpAny_call_entry slot_gen_next hI.typeIs entry_gen_next ?_ (args_gen_next _))))
  show wpAny _ A.in1 (Builtin.Generator.genWake (.ref a) (.send .none)) _ _ s
  unfold Builtin.Generator.genWake
  have hgens := h.gens
  rcases hg.ex with ⟨c, hgs, hseg⟩ | ⟨kk, l, c, p, fs, cl, hgs, hseg⟩
  · have hgs' : s.gens[g]? = some (.fresh c) := by rw [hgens]; exact hgs
    refine wpAny_bind (wpAny_holding (wpAny_genNumber hI (wpAny_bind (wpAny_genState hgs' ?_))))
    refine wpAny_bind (wpAny_roomToWake hl hroom ?_)
    show wpAny _ A.in1 (.resume g (.send .none) [] _) _ _ s
    refine wake_any _ prog w (A := A.in1) hgs' (.inl ⟨rfl, rfl, rfl, rfl⟩) (fun Γ => Γ.In A.in1) (fun _ h => h) ?_
    rw [hn] at hseg
    refine (key c _ [] _ hgs hseg).mono fun e s₁ he => ?_
    cases e with
    | ret r => exact he.2.elim
    | susp v g0 l kk c' p' fs' => exact wpAny_pure ⟨v, rfl, wpAny_pure he.2⟩
  · have hgs' : s.gens[g]? = some (.suspended kk l c p fs cl) := by rw [hgens]; exact hgs
    refine wpAny_bind (wpAny_holding (wpAny_genNumber hI (wpAny_bind (wpAny_genState hgs' ?_))))
    refine wpAny_bind (wpAny_roomToWake hl hroom ?_)
    show wpAny _ A.in1 (.resume g (.send .none) [] _) _ _ s
    refine wake_any _ prog w (A := A.in1) hgs' (.inr ⟨kk, l, p, cl, rfl, rfl⟩) (fun Γ => Γ.In A.in1) (fun _ h => h) ?_
    rw [hn] at hseg
    refine (key c _ fs _ hgs hseg).mono fun e s₁ he => ?_
    cases e with
    | ret r => exact he.2.elim
    | susp v g0 l kk c' p' fs' => exact wpAny_pure ⟨v, rfl, wpAny_pure he.2⟩
theorem stop_raise {α : Type} {m : Value → Sem α} {Q : α → Shared → Prop} (hm : ∀ e s, E e s → wpAny (model prog w) A (m e) Q E s)
    (k : ∀ h' a, (∀ b o, s.heap.get? b = some o → h'.get? b = some o) → (∃ o, h'.get? a = some o ∧ o.cls = .type "StopIteration") → E (.ref a) { s with heap := h' }) :
    wpAny (model prog w) A (newExc (.type "StopIteration") [] >>= m) Q E s :=
  wpAny_bind (wpAny_bind (wpAny_newObj_type (wpAny_bind (m := firstArgMember _ _) (wpAny_of_eq (a := Value.none) rfl (wpAny_newObj_type (hm _ _
    (k _ _ (fun _ _ hb => Heap.get?_push_of_some _ (Heap.get?_push_of_some _ hb)) ⟨_, Heap.get?_push_size _ rfl, rfl⟩)) (by size_fits)))) (by size_fits)))
theorem gen_done {a : Addr} {g : Nat} {us : List (List AV)} {Lg : Ledger} {Q : Option Value → Shared → Prop} (hh : A.handled = none) (lim : hB.NoLimit) (hroom : A.depth < recursionLimit)
    (hg : GenAtG prog w hB oB A.in1 us us.length Lg G g) (hb : Bare G) (h : H hB oB G ((a, genO g) :: (Lg ++ R)) s)
    (k : ∀ G' s', Bare G' → H hB oB G' ((a, genO g) :: R) s' → Q none s') :
    wpAny (model prog w) A (pyNext (.ref a)) Q E s := by
  have hI := genO_isGen h (.head _)
  have hl : s.heap.NoLimit := lim.keeps h.keep
  have key : ∀ (c₀ : Code) (t₀ : Sem Fin) (fs₀ : List Frame) (gs : GenState), G[g]? = some gs → GSeg prog w hB oB A.in1 us (us.length - us.length) Lg c₀ t₀ fs₀ →
      SegX (model prog w) A.in1 c₀ t₀ fs₀ (s.setGen g .running) (fun e s₁ => match e with
        | .ret r => r = .ok (.ret .none) ∧ H hB oB (G.setIfInBounds g .running) ((a, genO g) :: R) s₁
        | .susp v _ _ _ _ _ _ => False) := by
    intro c₀ t₀ fs₀ gs hgs hseg
    have h2 : H hB oB (G.setIfInBounds g .running) (Lg ++ ((a, genO g) :: R)) (s.setGen g .running) := (h.perm (List.perm_middle.symm)).gen
    rw [Nat.sub_self] at hseg
    exact hseg _ _ _ h2
  have fin : ∀ (e : End) (s₁ : Shared) (K : GenResult → Sem Fin), (match e with
        | .ret r => r = .ok (.ret .none) ∧ H hB oB (G.setIfInBounds g .running) ((a, genO g) :: R) s₁
        | .susp v _ _ _ _ _ _ => False) → ∃ s₂ : Shared, s₁.setGen g e.genState = s₂ ∧ e.result = .returned .none ∧ ∀ h', (∀ b o, s₁.heap.get? b = some o → h'.get? b = some o) → Q none { s₂ with heap := h' } := by
    intro e s₁ K he
    cases e with
    | susp v g0 l kk c' p' fs' => exact he.elim
    | ret r =>
      obtain ⟨rfl, h3⟩ := he
      refine ⟨_, rfl, rfl, fun h' hk => k ((G.setIfInBounds g .running).setIfInBounds g .finished) _ ((hb.set rfl).set rfl) ?_⟩
      exact (h3.gen (g := g) (x := .finished)).of (s' := { s₁.setGen g .finished with heap := h' }) hk
  unfold pyNext
  refine wpAny_bind (wpAny_attempt (wpAny_callSpecial?_slot (name := Str.ofString "__next__") hI.typeIs slot_gen_next
    (wpAny_call_entry slot_gen_next hI.typeIs entry_gen_next ?_ (args_gen_next _))))
  show wpAny _ A.in1 (Builtin.Generator.genWake (.ref a) (.send .none)) _ _ s
  unfold Builtin.Generator.genWake
  have hgens := h.gens
  rcases hg.ex with ⟨c, hgs, hseg⟩ | ⟨kk, l, c, p, fs, cl, hgs, hseg⟩
  · have hgs' : s.gens[g]? = some (.fresh c) := by rw [hgens]; exact hgs
    refine wpAny_bind (wpAny_holding (wpAny_genNumber hI (wpAny_bind (wpAny_genState hgs' ?_))))
    refine wpAny_bind (wpAny_roomToWake hl hroom ?_)
    show wpAny _ A.in1 (.resume g (.send .none) [] _) _ _ s
    refine wake_any _ prog w (A := A.in1) hgs' (.inl ⟨rfl, rfl, rfl, rfl⟩) (fun Γ => Γ.In A.in1) (fun _ h => h) ?_
    refine (key c _ [] _ hgs hseg).mono fun e s₁ he => ?_
    obtain ⟨s₂, e2, e3, hQ⟩ := fin e s₁ (fun _ => .pure (.done .next)) he
    rw [e2, e3]
    show wpAny _ A.in1 (newExc (.type "StopIteration") [] >>= _) _ _ _
    refine stop_raise (fun e s q => wpAny_bind (wpAny_raiseNew_none hh q)) fun h' a hk ho => ?_
    refine wpAny_bind (wpAny_isInstance (T := "StopIteration") (b := true) ho isSubtype_stop ?_)
    exact wpAny_pure (hQ _ fun b o hb => hk b o (by rw [← e2]; exact hb))
  · have hgs' : s.gens[g]? = some (.suspended kk l c p fs cl) := by rw [hgens]; exact hgs
    refine wpAny_bind (wpAny_holding (wpAny_genNumber hI (wpAny_bind (wpAny_genState hgs' ?_))))
    refine wpAny_bind (wpAny_roomToWake hl hroom ?_)
    show wpAny _ A.in1 (.resume g (.send .none) [] _) _ _ s
    refine wake_any _ prog w (A := A.in1) hgs' (.inr ⟨kk, l, p, cl, rfl, rfl⟩) (fun Γ => Γ.In A.in1) (fun _ h => h) ?_
    refine (key c _ fs _ hgs hseg).mono fun e s₁ he => ?_
    obtain ⟨s₂, e2, e3, hQ⟩ := fin e s₁ (fun _ => .pure (.done .next)) he
    rw [e2, e3]
    show wpAny _ A.in1 (newExc (.type "StopIteration") [] >>= _) _ _ _
    refine stop_raise (fun e s q => wpAny_bind (wpAny_raiseNew_none hh q)) fun h' a hk ho => ?_
    refine wpAny_bind (wpAny_isInstance (T := "StopIteration") (b := true) ho isSubtype_stop ?_)
    exact wpAny_pure (hQ _ fun b o hb => hk b o (by rw [← e2]; exact hb))
theorem gen_iter {a : Addr} {g : Nat} {Q : Value → Shared → Prop} (h : H hB oB G ob s) (m : (a, genO g) ∈ ob) (k : Q (.ref a) s) : wpAny (model prog w) A (pyIter (.ref a)) Q E s :=
  wpAny_pyIter_gen (genO_isGen h m) k
end

end Mine
namespace Mine
open PySem PySem.Calls PyProof.Rows PySem.W
/-- a comprehension's table with one cell of its own -/
noncomputable def compOkC (sc : Scope) (cn : Str) (gs : List Str) : Bool :=
  sc.kind == .function && sc.names.all (fun p => !(p.2 == .local) || sc.names.lookup p.1 == some .local) &&
  sc.names.all (fun p => !(p.2 == .free) || sc.names.lookup p.1 == some .free) && sc.names.lookup cn == some .cell && !(cn == ("__debug__" : Str)) && !(cn == ("__classdict__" : Str)) &&
  gs.all (fun x => sc.names.lookup x == some .globalImplicit && !(x == ("__debug__" : Str)))
section
variable {prog : Program} {w : World} {A : Around} {E : Value → Shared → Prop} {R : Result → Shared → Prop} {s : Shared} {hB : Heap} {oB : OsState} {G : Array GenState} {ob rest : Ledger} {env : Env} {L : Addr} {locs gs : List Str} {cl : List (Str × Addr)}
theorem comp_evC (he : Ev env L locs cl gs) {sc : Scope} {cn : Str} {gs' : List Str} (hsc : compOkC sc cn gs' = true) (hf : fclOk cl sc.names = true) (C cc : Addr) :
    Ev (compEnvC sc ((cn, cc) :: fcl cl sc.names) C env) C [] ((cn, cc) :: fcl cl sc.names) gs' ∧ (compEnvC sc ((cn, cc) :: fcl cl sc.names) C env).kindOf cn = some .cell := by
  simp only [compOkC, Bool.and_eq_true, List.all_eq_true, Bool.not_eq_true', Bool.or_eq_true, beq_iff_eq] at hsc
  obtain ⟨⟨⟨⟨⟨⟨h1, h2⟩, h3⟩, h4⟩, h5⟩, h6⟩, h7⟩ := hsc
  have hm : ∀ q ∈ fcl cl sc.names, q ∈ cl := fcl_mem _ [] hf (fun _ h => nomatch h)
  have hfree : ∀ q ∈ fcl cl sc.names, sc.names.lookup q.1 = some .free := fcl_names sc.names [] (fun x => sc.names.lookup x = some .free) (fun p hp e => by
    rcases h3 p hp with q | q
    · rw [e] at q; exact absurd q (by decide)
    · exact q) (fun _ h => nomatch h)
  have hk : (compEnvC sc ((cn, cc) :: fcl cl sc.names) C env).kindOf cn = some .cell := by
    refine (lookup_relabel (env := env) h4).trans ?_
    rfl
  refine ⟨⟨h1, rfl, he.gl, he.bi, (fun x hx => nomatch hx), fun p hp => ?_, fun x hx => ⟨?_, (h7 x hx).2⟩, int_of_kind h1⟩, hk⟩
  · rcases List.mem_cons.mp hp with rfl | hp
    · exact ⟨.inl hk, by show List.lookup cn ((cn, cc) :: _) = _; simp, h5, h6⟩
    · refine ⟨?_, ?_, (he.isCell _ (hm p hp)).2.2⟩
      · have := lookup_relabel (env := env) (hfree p hp)
        rw [show (compEnvC sc ((cn, cc) :: fcl cl sc.names) C env).kindOf p.1 = _ from this]
        split
        · exact .inl rfl
        · exact .inr rfl
      · have hne : (p.1 == cn) = false := by
          cases q : p.1 == cn with
          | false => rfl
          | true =>
            have := hfree p hp
            rw [eq_of_beq q, h4] at this
            cases this
        show List.lookup p.1 ((cn, cc) :: fcl cl sc.names) = _
        rw [List.lookup_cons, hne]
        refine fcl_lookup (cl := cl) (fun a b x h1 h2 => ?_) _ hm p hp
        have e1 := (he.isCell _ h1).2.1
        have e2 := (he.isCell _ h2).2.1
        exact Option.some.inj (e1.symm.trans e2)
  · refine (lookup_relabel (env := env) (h7 x hx).1).trans ?_
    rfl
theorem newFE1 {sc : Scope} {globals : Addr} {closure : List (Str × Addr)} {qual : Str} {func : Option Addr} {code : Value} {outer : Env} {builtins : Addr} {cn : Str} {Q : Env → Shared → Prop}
    (hc : ∀ n acc, cellsFrom n sc.names acc = (cn, n) :: acc) (hp : ∀ h, pushCells h sc.names = h.push { cls := .type "cell", data := .cell none })
    (hQ : Q (newEnv sc s.heap.objs.size globals ((cn, s.heap.objs.size + 1) :: closure) qual func code (some outer) builtins) { s with heap := (s.heap.push { cls := .type "dict", data := .dict #[] }).push { cls := .type "cell", data := .cell none } }) :
    wpAny (model prog w) A (newFunctionEnv sc globals closure [] qual func code (some outer) builtins) Q E s := by
  simp only [newFunctionEnv, Option.isSome_some, if_true]
  refine wpAny_bind (wpAny_alloc ?_)
  refine wpAny_bind (wpAny_layCells _ (fun name kind cells => by cases hkc : kind == NameKind.cell <;> simp [hkc]) _ _ _ _ ?_)
  rw [hc, hp, show ({ s with heap := s.heap.push { cls := .type "dict", data := .dict #[] } } : Shared).heap.objs.size = s.heap.objs.size + 1 from Heap.size_push ..]
  refine wpAny_bind ?_
  rw [List.forIn_nil]
  exact wpAny_pure (wpAny_pure hQ)
/-- the loop of a dict comprehension over ints -/
theorem r_dictLoop {σ : Type} {kx vx tgt iter : Expr} {sc : Scope} {pos : Pos} {I D l : Addr} {zs : List Int} (ht : ∀ v, letOwnedTupleGo tgt (.ref I) v = pure ()) (hh : A.handled = none) (pk : Pick l (lst (zs.map .int)) ob rest)
    (Cp : Ledger) (Cp' : Int → Ledger)
    (hasg : ∀ z t G R s (Q : Unit → Shared → Prop) E, H hB oB G (Cp ++ R) s → (∀ s', H hB oB G (Cp' z ++ R) s' → Q () s') → wpAny (model prog w) A (assign tgt env (.int z t)) Q E s)
    (Inv : Nat → σ → Prop) (kv : σ → List (Int × AV)) (X : σ → Ledger) (x0 : σ) (h0 : Inv 0 x0) (hz : ∀ i x, i ≤ zs.length → Inv i x → (kv x).length ≤ 1000)
    (h : H hB oB G (Cp ++ ((I, liter l 0) :: ((D, dic (kv x0)) :: (ob ++ X x0)))) s)
    (hbody : ∀ i x, i < zs.length → Inv i x → ∀ E' s' W, H hB oB G (Cp' (zs.getD i 0) ++ (ob ++ (X x ++ W))) s' →
      wpAny (model prog w) A (eval kx env) (fun kk s₁ => wpAny (model prog w) A (eval vx env) (fun vv s₂ => ∃ k t y av u, kk = .int k t ∧ vv = av.v u ∧ k ∉ (kv x).map (·.1) ∧ Inv (i + 1) y ∧ kv y = kv x ++ [(k, av)] ∧
        H hB oB G (Cp ++ (ob ++ (X y ++ W))) s₂) E' s₁) E' s')
    (hend : ∀ x, Inv zs.length x → ∀ s', H hB oB G (Cp ++ ((D, dic (kv x)) :: (ob ++ X x))) s' → R (.ok .next) s') :
    codeAny (model prog w) A (.compLoop (.DictComp kx vx [⟨tgt, iter, [], 0⟩] sc pos) 0 (.ref I) (.ref D) env) R s := by
  have it := Itr.intsIn (prog := prog) (w := w) (hB := hB) (oB := oB) I l zs pk
  refine codeAny_compLoop_testsD (fun k s' => ∃ i x, i ≤ zs.length ∧ k = zs.length - i ∧ Inv i x ∧ H hB oB G (Cp ++ ((I, liter l i) :: ((D, dic (kv x)) :: (ob ++ X x)))) s') ?_ zs.length ⟨0, x0, Nat.zero_le _, rfl, h0, h⟩ ht
  rintro k s' ⟨i, x, hi, rfl, hI, h'⟩
  have pm : ∀ (j : Nat) (Y : Ledger) (x : σ), List.Perm (Y ++ ((I, liter l j) :: ((D, dic (kv x)) :: (ob ++ X x)))) (((I, liter l j) :: ob) ++ (Y ++ ((D, dic (kv x)) :: X x))) := by
    intro j Y x
    refine List.perm_middle.trans (List.Perm.cons _ ?_)
    have e1 : List.Perm ((D, dic (kv x)) :: (ob ++ X x)) (ob ++ ((D, dic (kv x)) :: X x)) := List.perm_middle.symm
    exact (List.Perm.append_left Y e1).trans (List.perm_append_comm_assoc Y ob _)
  by_cases hlt : i < zs.length
  · refine it.item i hlt _ _ _ _ _ _ hh (h'.perm (pm i Cp x)) fun t s₁ h₁ => ?_
    refine hasg _ t G _ s₁ _ _ (h₁.perm (pm (i + 1) Cp x).symm) fun s₂ h₂ => ?_
    refine wpAny_tests_nil ?_
    rw [if_pos rfl]
    have pm2 : ∀ (Y : Ledger) (v : List (Int × AV)) (x : σ), List.Perm (Y ++ ((I, liter l (i + 1)) :: ((D, dic v) :: (ob ++ X x)))) (Y ++ (ob ++ (X x ++ [(I, liter l (i + 1)), (D, dic v)]))) := by
      intro Y v x
      refine List.Perm.append_left Y ?_
      rw [← List.append_assoc]
      exact (List.perm_append_comm (l₁ := [(I, liter l (i + 1)), (D, dic v)]) (l₂ := ob ++ X x))
    refine wpAny_mono (hbody i x hlt hI _ s₂ _ (h₂.perm (pm2 _ _ _))) (fun kk s₃ k => ?_) fun _ _ e => e
    refine wpAny_mono k (fun vv s₄ k => ?_) fun _ _ e => e
    obtain ⟨k, t', y, av, u, rfl, rfl, hk, hI', ey, h₄⟩ := k
    have h5 := h₄.perm (((pm2 Cp (kv x) y).symm).trans ((List.perm_middle).trans ((List.Perm.cons _ List.perm_middle).trans (List.Perm.swap _ _ _))))
    refine r_dictSet h5 .here hk (by have := hz i x hi hI; omega) fun s₆ h₆ => ⟨zs.length - (i + 1), by omega, i + 1, y, hlt, rfl, hI', ?_⟩
    rw [ey]
    exact h₆.perm ((((List.perm_middle).trans ((List.Perm.cons _ List.perm_middle).trans (List.Perm.swap _ _ _)))).symm)
  · have : i = zs.length := by omega
    subst this
    refine it.done _ _ _ _ _ _ hh (h'.perm (pm zs.length Cp x)) fun s₁ h₁ => hend x hI s₁ (h₁.perm ?_)
    exact (List.perm_append_comm_assoc ob Cp _).trans (List.Perm.append_left Cp List.perm_middle)
/-- the block of a dict comprehension over ints, its target a name of its own -/
theorem r_dictBlock {σ : Type} {kx vx iter : Expr} {x : Str} {px : Pos} {sc : Scope} {pos : Pos} {I l : Addr} {zs : List Int} {gs' : List Str} {RR : Value → Addr → Result → Shared → Prop} (he : Ev env L locs cl gs)
    (hsc : compOk sc [x] gs' = true) (hf : fclOk cl sc.names = true) (hh : A.handled = none) (pk : Pick l (lst (zs.map .int)) ob rest)
    (Inv : Nat → σ → Prop) (kv : σ → List (Int × AV)) (X : σ → Ledger) (x0 : σ) (h0 : Inv 0 x0) (hkv : kv x0 = []) (hX : X x0 = []) (hz : ∀ i x, i ≤ zs.length → Inv i x → (kv x).length ≤ 1000)
    (h : H hB oB G ((I, liter l 0) :: ob) s)
    (hbody : ∀ i y, i < zs.length → Inv i y → ∀ C env' E' s' W, Ev env' C [x] (fcl cl sc.names) gs' → H hB oB G ((C, nsp [x] [(x, some (.int (zs.getD i 0)))]) :: (ob ++ (X y ++ W))) s' →
      wpAny (model prog w) A (eval kx env') (fun kk s₁ => wpAny (model prog w) A (eval vx env') (fun vv s₂ => ∃ k t y' av u, kk = .int k t ∧ vv = av.v u ∧ k ∉ (kv y).map (·.1) ∧ Inv (i + 1) y' ∧ kv y' = kv y ++ [(k, av)] ∧
        H hB oB G ((C, nsp [x] [(x, some (.int (zs.getD i 0)))]) :: (ob ++ (X y' ++ W))) s₂) E' s₁) E' s')
    (hend : ∀ C D y, Inv zs.length y → ∀ s', H hB oB G ((C, nsp [x] [(x, none)]) :: (D, dic (kv y)) :: (ob ++ X y)) s' → RR (.ref D) C (.ok .next) s') :
    wpAny (model prog w) A newDict (fun acc s₃ => wpAny (model prog w) A (newFunctionEnv sc env.globals (fcl cl sc.names) [] env.qual none .none (some env)) (fun cenv s₄ =>
      codeAny (model prog w) A (.compStart (.DictComp kx vx [⟨.Name x px, iter, [], 0⟩] sc pos) 0 (.ref I) acc { cenv with scope := relabel sc env }) (RR acc cenv.locals) s₄) E s₃) E s := by
  have hsc' := hsc
  simp only [compOk, Bool.and_eq_true, List.all_eq_true, Bool.not_eq_true', Bool.or_eq_true, beq_iff_eq, decide_eq_true_eq, bne_iff_ne] at hsc'
  obtain ⟨⟨⟨⟨⟨⟨h1, h2⟩, h3⟩, h4⟩, h5⟩, h6⟩, h7⟩ := hsc'
  refine wpAny_newObj_type (wpAny_newFunctionEnv (fun x hx => h2 x hx) (by intro y hy; simp at hy) (fun h₁ hns₁ hsb₁ => ?_) h1)
  dsimp only at hns₁ hsb₁ ⊢
  have hd := h.push (P := dic []) (o := { cls := .type "dict", dict := none, data := .dict #[] }) rfl ⟨#[], 0, rfl, rfl, (by intro e he; simp at he), (by simp), (fun _ _ h => nomatch h)⟩ (s' := { s with heap := s.heap.push { cls := .type "dict", dict := none, data := .dict #[] } }) rfl
  generalize hH2 : s.heap.push { cls := .type "dict", dict := none, data := .dict #[] } = H2 at hns₁ hsb₁ hd ⊢
  have hc : H hB oB G ((H2.objs.size, nsp [x] [(x, none)]) :: (s.heap.objs.size, dic []) :: (I, liter l 0) :: ob) { s with heap := h₁, toks := s.toks + ([] : List (Str × Value)).length } := by
    obtain ⟨o, es, ep, e1, e2, e3, e4⟩ := hns₁
    refine hd.add (a := H2.objs.size) (o := o) (fun b o' e => hsb₁.extBut b o' (Nat.ne_of_lt (Heap.lt_size e)) (Heap.get?_push_of_some _ e)) (fresh_at _) e1 ⟨rfl, h7, es, ep, e2, e3, fun x v hm => ?_⟩
    cases List.mem_singleton.mp hm
  have hc2 : H hB oB G ([(H2.objs.size, nsp [x] [(x, none)])] ++ ((I, liter l 0) :: ((s.heap.objs.size, dic (kv x0)) :: (ob ++ X x0)))) { s with heap := h₁, toks := s.toks + ([] : List (Str × Value)).length } := by
    rw [hkv, hX, List.append_nil]
    exact hc.perm (List.Perm.cons _ (List.Perm.swap _ _ _))
  have hev := comp_ev he hsc hf H2.objs.size
  have loop : codeAny (model prog w) A (.compLoop (.DictComp kx vx [⟨.Name x px, iter, [], 0⟩] sc pos) 0 (.ref I) (.ref s.heap.objs.size) (compEnvC sc (fcl cl sc.names) H2.objs.size env)) (RR (.ref s.heap.objs.size) H2.objs.size)
      { s with heap := h₁, toks := s.toks + ([] : List (Str × Value)).length } := by
    refine r_dictLoop (fun _ => rfl) hh pk [(H2.objs.size, nsp [x] [(x, none)])] (fun z => [(H2.objs.size, nsp [x] [(x, some (.int z))])]) (fun z t G R s Q E h k => ?_) Inv kv X x0 h0 hz hc2 (fun i y hi hI E' s' W h => ?_) (fun y hI s' h => ?_)
    · exact wpAny_assign_Name (r_store (v := .int z) hev h .here .here k)
    · refine wpAny_mono (hbody i y hi hI _ _ E' s' W hev h) (fun kk s₁ k => wpAny_mono k (fun vv s₂ k => ?_) fun _ _ e => e) fun _ _ e => e
      obtain ⟨k, t, y', av, u, q1, q2, q3, q4, q5, q6⟩ := k
      exact ⟨k, t, y', av, u, q1, q2, q3, q4, q5, q6.weak (nsp_forg (.forget .nil))⟩
    · exact hend _ _ y hI s' h
  refine codeAny_compStart_dict loop ?_
  refine (Itr.intsIn (prog := prog) (w := w) (hB := hB) (oB := oB) I l zs pk).selfI 0 _ _ [] _ _ _ (H.sub (ob := _ :: _ :: _ :: ob) (.skip (.skip (by rw [List.append_nil]; exact .refl))) hc) ?_
  exact loop
/-- the block of a dict comprehension over ints, its target a cell of its own -/
theorem r_dictBlockC {σ : Type} {kx vx iter : Expr} {x : Str} {px : Pos} {sc : Scope} {pos : Pos} {I l : Addr} {zs : List Int} {gs' : List Str} {RR : Value → Addr → Result → Shared → Prop} (he : Ev env L locs cl gs)
    (hsc : compOkC sc x gs' = true) (hf : fclOk cl sc.names = true) (hc1 : ∀ n acc, cellsFrom n sc.names acc = (x, n) :: acc) (hp1 : ∀ h, pushCells h sc.names = h.push { cls := .type "cell", data := .cell none })
    (hh : A.handled = none) (pk : Pick l (lst (zs.map .int)) ob rest)
    (Inv : Nat → σ → Prop) (kv : σ → List (Int × AV)) (X : σ → Ledger) (x0 : σ) (h0 : Inv 0 x0) (hkv : kv x0 = []) (hX : X x0 = []) (hz : ∀ i x, i ≤ zs.length → Inv i x → (kv x).length ≤ 1000)
    (h : H hB oB G ((I, liter l 0) :: ob) s)
    (hbody : ∀ i y, i < zs.length → Inv i y → ∀ C cc env' E' s' W, Ev env' C [] ((x, cc) :: fcl cl sc.names) gs' → H hB oB G ((cc, celp (some (.int (zs.getD i 0)))) :: (C, nsp [] []) :: (ob ++ (X y ++ W))) s' →
      wpAny (model prog w) A (eval kx env') (fun kk s₁ => wpAny (model prog w) A (eval vx env') (fun vv s₂ => ∃ k t y' av u, kk = .int k t ∧ vv = av.v u ∧ k ∉ (kv y).map (·.1) ∧ Inv (i + 1) y' ∧ kv y' = kv y ++ [(k, av)] ∧
        H hB oB G ((cc, celp (some (.int (zs.getD i 0)))) :: (C, nsp [] []) :: (ob ++ (X y' ++ W))) s₂) E' s₁) E' s')
    (hend : ∀ C D y, Inv zs.length y → ∀ s', H hB oB G ((C, nsp [] []) :: (D, dic (kv y)) :: (ob ++ X y)) s' → RR (.ref D) C (.ok .next) s') :
    wpAny (model prog w) A newDict (fun acc s₃ => wpAny (model prog w) A (newFunctionEnv sc env.globals (fcl cl sc.names) [] env.qual none .none (some env)) (fun cenv s₄ =>
      codeAny (model prog w) A (.compStart (.DictComp kx vx [⟨.Name x px, iter, [], 0⟩] sc pos) 0 (.ref I) acc { cenv with scope := relabel sc env }) (RR acc cenv.locals) s₄) E s₃) E s := by
  refine wpAny_newObj_type (newFE1 hc1 hp1 ?_)
  dsimp only
  have hd := h.push (P := dic []) (o := { cls := .type "dict", dict := none, data := .dict #[] }) rfl ⟨#[], 0, rfl, rfl, (by intro e he; simp at he), (by simp), (fun _ _ h => nomatch h)⟩ (s' := { s with heap := s.heap.push { cls := .type "dict", dict := none, data := .dict #[] } }) rfl
  generalize hH2 : s.heap.push { cls := .type "dict", dict := none, data := .dict #[] } = H2 at hd ⊢
  have hn1 := hd.push (P := nsp [] []) (o := { cls := .type "dict", data := .dict #[] }) rfl ⟨rfl, List.nodup_nil, #[], 0, rfl, (by intro e he; simp at he), (fun _ _ h => nomatch h)⟩ (s' := { s with heap := H2.push { cls := .type "dict", data := .dict #[] } }) rfl
  have hc0 := hn1.push (P := celp none) (o := { cls := .type "cell", data := .cell none }) rfl ⟨none, rfl, (fun _ h => nomatch h)⟩ (s' := { s with heap := (H2.push { cls := .type "dict", data := .dict #[] }).push { cls := .type "cell", data := .cell none } }) rfl
  have esz : (H2.push { cls := .type "dict", data := .dict #[] }).objs.size = H2.objs.size + 1 := Heap.size_push ..
  have hc : H hB oB G ((H2.objs.size + 1, celp none) :: (H2.objs.size, nsp [] []) :: (s.heap.objs.size, dic []) :: (I, liter l 0) :: ob) { s with heap := (H2.push { cls := .type "dict", data := .dict #[] }).push { cls := .type "cell", data := .cell none } } := by
    rw [← esz]; exact hc0
  have hc2 : H hB oB G ([(H2.objs.size + 1, celp none), (H2.objs.size, nsp [] [])] ++ ((I, liter l 0) :: ((s.heap.objs.size, dic (kv x0)) :: (ob ++ X x0)))) { s with heap := (H2.push { cls := .type "dict", data := .dict #[] }).push { cls := .type "cell", data := .cell none } } := by
    rw [hkv, hX, List.append_nil]
    exact hc.perm (List.Perm.cons _ (List.Perm.cons _ (List.Perm.swap _ _ _)))
  obtain ⟨hev, hkc⟩ := comp_evC he hsc hf H2.objs.size (H2.objs.size + 1)
  have loop : codeAny (model prog w) A (.compLoop (.DictComp kx vx [⟨.Name x px, iter, [], 0⟩] sc pos) 0 (.ref I) (.ref s.heap.objs.size) (compEnvC sc ((x, H2.objs.size + 1) :: fcl cl sc.names) H2.objs.size env)) (RR (.ref s.heap.objs.size) H2.objs.size)
      { s with heap := (H2.push { cls := .type "dict", data := .dict #[] }).push { cls := .type "cell", data := .cell none } } := by
    refine r_dictLoop (fun _ => rfl) hh pk [(H2.objs.size + 1, celp none), (H2.objs.size, nsp [] [])] (fun z => [(H2.objs.size + 1, celp (some (.int z))), (H2.objs.size, nsp [] [])]) (fun z t G R s Q E h k => ?_) Inv kv X x0 h0 hz hc2 (fun i y hi hI E' s' W h => ?_) (fun y hI s' h => ?_)
    · exact wpAny_assign_Name (r_storeC (v := .int z) hev h (.head _) hkc .here k)
    · refine wpAny_mono (hbody i y hi hI _ _ _ E' s' W hev h) (fun kk s₁ k => wpAny_mono k (fun vv s₂ k => ?_) fun _ _ e => e) fun _ _ e => e
      obtain ⟨k, t, y', av, u, q1, q2, q3, q4, q5, q6⟩ := k
      refine ⟨k, t, y', av, u, q1, q2, q3, q4, q5, q6.weak (P' := celp none) fun o ho => ?_⟩
      obtain ⟨vv, hd, _⟩ := ho
      exact ⟨vv, hd, (fun _ h => nomatch h)⟩
    · exact hend _ _ y hI s' h.drop
  refine codeAny_compStart_dict loop ?_
  refine (Itr.intsIn (prog := prog) (w := w) (hB := hB) (oB := oB) I l zs pk).selfI 0 _ _ [] _ _ _ (H.sub (ob := _ :: _ :: _ :: _ :: ob) (.skip (.skip (.skip (by rw [List.append_nil]; exact .refl)))) hc) ?_
  exact loop
end

end Mine
namespace Mine
open PySem PySem.Calls PyProof.Rows PySem.W
section
variable {prog : Program} {w : World} {A : Around} {E : Value → Shared → Prop} {s : Shared} {hB : Heap} {oB : OsState} {G : Array GenState} {ob rest : Ledger} {env : Env} {L : Addr} {locs gs : List Str} {cl : List (Str × Addr)}
variable {σ : Type} {kx vx iter : Expr} {x : Str} {px : Pos} {sc : Scope} {pos : Pos} {l : Addr} {zs : List Int} {gs' : List Str} {fc : List (Str × Addr)}
theorem r_dictComp {Q : Value → Shared → Prop} (he : Ev env L locs cl gs) (hh : A.handled = none) (gs' : List Str) (fc : List (Str × Addr)) (hsc : compOk sc [x] gs' = true) (hf : fclOk cl sc.names = true) (hfc : fcl cl sc.names = fc) (pk : Pick l (lst (zs.map .int)) ob rest)
    (Inv : Nat → σ → Prop) (kv : σ → List (Int × AV)) (X : σ → Ledger) (x0 : σ) (h0 : Inv 0 x0) (hkv : kv x0 = []) (hX : X x0 = []) (hz : ∀ i x, i ≤ zs.length → Inv i x → (kv x).length ≤ 1000)
    (hi : wpAny (model prog w) A (eval iter env) (fun xv s₁ => xv = .ref l ∧ H hB oB G ob s₁) E s)
    (hbody : ∀ i y, i < zs.length → Inv i y → ∀ C env' E' s' W, Ev env' C [x] fc gs' → H hB oB G ((C, nsp [x] [(x, some (.int (zs.getD i 0)))]) :: (ob ++ (X y ++ W))) s' →
      wpAny (model prog w) A (eval kx env') (fun kk s₁ => wpAny (model prog w) A (eval vx env') (fun vv s₂ => ∃ k t y' av u, kk = .int k t ∧ vv = av.v u ∧ k ∉ (kv y).map (·.1) ∧ Inv (i + 1) y' ∧ kv y' = kv y ++ [(k, av)] ∧
        H hB oB G ((C, nsp [x] [(x, some (.int (zs.getD i 0)))]) :: (ob ++ (X y' ++ W))) s₂) E' s₁) E' s')
    (hend : ∀ D y, Inv zs.length y → ∀ s', H hB oB G ((D, dic (kv y)) :: (ob ++ X y)) s' → Q (.ref D) s')
    (hs : ∀ x, foldedSetIterable iter env x = pure x := by intro _; rfl) :
    wpAny (model prog w) A (eval (.DictComp kx vx [⟨.Name x px, iter, [], 0⟩] sc pos) env) Q E s := by
  subst hfc
  rw [arm_eval_DictComp]
  refine wpAny_comprehension_free (use := none) rfl hs (closureFor_fcl he hf) (compOk_kind hsc) (compOk_names hsc) (wpAny_mono hi (fun xv s₁ h₁ => ?_) fun _ _ e => e)
  obtain ⟨rfl, h₁⟩ := h₁
  refine r_iterListIn h₁ pk fun I s₂ h₂ => ?_
  refine r_dictBlock (RR := fun acc C => compPost (model prog w) A E none Q acc C) he hsc hf hh pk Inv kv X x0 h0 hkv hX hz h₂ hbody fun C D y hI s' h => ?_
  obtain ⟨m, hm, hr⟩ := letC h
  exact ⟨m, hm, fun h' hs => hend D y hI _ (hr h' hs)⟩
theorem compOkC_kind {cn : Str} (h : compOkC sc cn gs' = true) : sc.kind = .function := by
  simp only [compOkC, Bool.and_eq_true] at h
  exact kind_of_beq h.1.1.1.1.1.1
theorem compOkC_names {cn : Str} (h : compOkC sc cn gs' = true) : ∀ x ∈ sc.names, x.2 = .local → sc.names.lookup x.1 = some .local := by
  simp only [compOkC, Bool.and_eq_true, List.all_eq_true, Bool.or_eq_true, Bool.not_eq_true', beq_iff_eq] at h
  intro x hx e
  rcases h.1.1.1.1.1.2 x hx with q | q
  · rw [e] at q; exact absurd q (by decide)
  · exact q
theorem r_dictCompC {Q : Value → Shared → Prop} (he : Ev env L locs cl gs) (hh : A.handled = none) (gs' : List Str) (fc : List (Str × Addr)) (hsc : compOkC sc x gs' = true) (hf : fclOk cl sc.names = true) (hfc : fcl cl sc.names = fc)
    (hc1 : ∀ n acc, cellsFrom n sc.names acc = (x, n) :: acc) (hp1 : ∀ h, pushCells h sc.names = h.push { cls := .type "cell", data := .cell none }) (pk : Pick l (lst (zs.map .int)) ob rest)
    (Inv : Nat → σ → Prop) (kv : σ → List (Int × AV)) (X : σ → Ledger) (x0 : σ) (h0 : Inv 0 x0) (hkv : kv x0 = []) (hX : X x0 = []) (hz : ∀ i x, i ≤ zs.length → Inv i x → (kv x).length ≤ 1000)
    (hi : wpAny (model prog w) A (eval iter env) (fun xv s₁ => xv = .ref l ∧ H hB oB G ob s₁) E s)
    (hbody : ∀ i y, i < zs.length → Inv i y → ∀ C cc env' E' s' W, Ev env' C [] ((x, cc) :: fc) gs' → H hB oB G ((cc, celp (some (.int (zs.getD i 0)))) :: (C, nsp [] []) :: (ob ++ (X y ++ W))) s' →
      wpAny (model prog w) A (eval kx env') (fun kk s₁ => wpAny (model prog w) A (eval vx env') (fun vv s₂ => ∃ k t y' av u, kk = .int k t ∧ vv = av.v u ∧ k ∉ (kv y).map (·.1) ∧ Inv (i + 1) y' ∧ kv y' = kv y ++ [(k, av)] ∧
        H hB oB G ((cc, celp (some (.int (zs.getD i 0)))) :: (C, nsp [] []) :: (ob ++ (X y' ++ W))) s₂) E' s₁) E' s')
    (hend : ∀ D y, Inv zs.length y → ∀ s', H hB oB G ((D, dic (kv y)) :: (ob ++ X y)) s' → Q (.ref D) s')
    (hs : ∀ x, foldedSetIterable iter env x = pure x := by intro _; rfl) :
    wpAny (model prog w) A (eval (.DictComp kx vx [⟨.Name x px, iter, [], 0⟩] sc pos) env) Q E s := by
  subst hfc
  rw [arm_eval_DictComp]
  refine wpAny_comprehension_free (use := none) rfl hs (closureFor_fcl he hf) (compOkC_kind hsc) (compOkC_names hsc) (wpAny_mono hi (fun xv s₁ h₁ => ?_) fun _ _ e => e)
  obtain ⟨rfl, h₁⟩ := h₁
  refine r_iterListIn h₁ pk fun I s₂ h₂ => ?_
  refine r_dictBlockC (RR := fun acc C => compPost (model prog w) A E none Q acc C) he hsc hf hc1 hp1 hh pk Inv kv X x0 h0 hkv hX hz h₂ hbody fun C D y hI s' h => ?_
  obtain ⟨m, hm, hr⟩ := letC h
  exact ⟨m, hm, fun h' hs => hend D y hI _ (hr h' hs)⟩
theorem swapsTrueD (he : Ev env L locs cl gs) {tgt : Expr} {y : Str} {py : Pos} {e : Expr} {line : Nat} (hy : y ∈ locs) (hm : e = .DictComp kx vx [⟨tgt, iter, [], 0⟩] sc pos) (hl : (py.line == pos.line) = true) (hn : (sc.names.any fun p => p.1 == y && (p.2 == .local || p.2 == .cell)) = false) :
    swapsWith e (some (.Name y py)) line env = pure true := by
  subst hm
  have k1 : env.blockKind = .function := by unfold Env.blockKind; rw [he.kind]; rfl
  unfold swapsWith
  simp only [k1, (he.isLoc y hy).1]
  show pure _ = _
  have e1 : (Expr.pos (.DictComp kx vx [⟨tgt, iter, [], 0⟩] sc pos)) = pos := rfl
  rw [e1, hl]
  have e2 : (sc.names.any fun x => match x with | (n, k) => n == y && (k == .local || k == .cell)) = false := hn
  rw [e2]
  rfl
theorem r_assignDictC {y : Str} {py spos : Pos} {Q : Flow → Shared → Prop} (he : Ev env L locs cl gs) (hh : A.handled = none) (gs' : List Str) (fc : List (Str × Addr)) (hsc : compOkC sc x gs' = true) (hf : fclOk cl sc.names = true) (hfc : fcl cl sc.names = fc)
    (hc1 : ∀ n acc, cellsFrom n sc.names acc = (x, n) :: acc) (hp1 : ∀ h, pushCells h sc.names = h.push { cls := .type "cell", data := .cell none }) (pk : Pick l (lst (zs.map .int)) ob rest)
    (Inv : Nat → σ → Prop) (kv : σ → List (Int × AV)) (X : σ → Ledger) (x0 : σ) (h0 : Inv 0 x0) (hkv : kv x0 = []) (hX : X x0 = []) (hz : ∀ i x, i ≤ zs.length → Inv i x → (kv x).length ≤ 1000)
    (hy : y ∈ locs) (hl : (py.line == pos.line) = true) (hn : (sc.names.any fun p => p.1 == y && (p.2 == .local || p.2 == .cell)) = false)
    (hi : wpAny (model prog w) A (eval iter env) (fun xv s₁ => xv = .ref l ∧ H hB oB G ob s₁) E s)
    (hbody : ∀ i y, i < zs.length → Inv i y → ∀ C cc env' E' s' W, Ev env' C [] ((x, cc) :: fc) gs' → H hB oB G ((cc, celp (some (.int (zs.getD i 0)))) :: (C, nsp [] []) :: (ob ++ (X y ++ W))) s' →
      wpAny (model prog w) A (eval kx env') (fun kk s₁ => wpAny (model prog w) A (eval vx env') (fun vv s₂ => ∃ k t y' av u, kk = .int k t ∧ vv = av.v u ∧ k ∉ (kv y).map (·.1) ∧ Inv (i + 1) y' ∧ kv y' = kv y ++ [(k, av)] ∧
        H hB oB G ((cc, celp (some (.int (zs.getD i 0)))) :: (C, nsp [] []) :: (ob ++ (X y' ++ W))) s₂) E' s₁) E' s')
    (hend : ∀ D z, Inv zs.length z → ∃ lo lo' rest, Pick L (nsp locs lo) ((D, dic (kv z)) :: (ob ++ X z)) rest ∧ Put y (.ref D) lo lo' ∧ ∀ s', H hB oB G ((L, nsp locs lo') :: rest) s' → Q .next s')
    (hs : ∀ x, foldedSetIterable iter env x = pure x := by intro _; rfl) :
    wpAny (model prog w) A (exec (.Assign [.Name y py] (.DictComp kx vx [⟨.Name x px, iter, [], 0⟩] sc pos) spos) env) Q E s := by
  subst hfc
  rw [exec_Assign_Name_used _ _ _ _ (swapsTrueD he hy rfl hl hn)]
  refine wpAny_bind (wpAny_standAt (wpAny_bind ?_))
  show wpAny _ A (do let _ ← comprehension (.DictComp kx vx [⟨.Name x px, iter, [], 0⟩] sc pos) sc env _ newDict false (eval iter env) (some (assign (.Name y py) env))) _ _ s
  refine wpAny_bind (wpAny_mono (wpAny_comprehension_free (use := some (assign (.Name y py) env)) (Q := fun _ s' => Q .next s') rfl hs (closureFor_fcl he hf) (compOkC_kind hsc) (compOkC_names hsc)
    (wpAny_mono hi (fun xv s₁ h₁ => ?_) fun _ _ e => e)) (fun _ s' hq => wpAny_pure (wpAny_pure hq)) fun _ _ e => e)
  obtain ⟨rfl, h₁⟩ := h₁
  refine r_iterListIn h₁ pk fun I s₂ h₂ => ?_
  refine r_dictBlockC (RR := fun acc C => compPost (model prog w) A E (some (assign (.Name y py) env)) (fun _ s' => Q .next s') acc C) he hsc hf hc1 hp1 hh pk Inv kv X x0 h0 hkv hX hz h₂ hbody fun C D z hI s' h => ?_
  obtain ⟨lo₁, lo₂, rest, pk', pt, hq⟩ := hend D z hI
  show wpAny _ A (assign (.Name y py) env (.ref D)) _ _ _
  refine wpAny_assign_Name (r_store (t := 0) (v := .ref D) he h (.there pk') pt fun s₂ h₂ => ?_)
  obtain ⟨m, hm, hr⟩ := letC h₂.swap
  exact ⟨m, hm, fun h' hs => hq _ (hr h' hs)⟩
end

end Mine
namespace Mine
open PySem PySem.Calls PyProof.Rows PySem.W
open PySem.AutoSeq1 (wpAny_loadPart')
section
variable {prog : Program} {w : World} {A : Around} {E : Value → Shared → Prop} {s : Shared}
theorem nextOf_tup_item {it t : Addr} {i : Nat} {items : Array Value} {x : Value} {Q : Value → Shared → Prop} (hit : s.heap.IsTupleIter it t i) (ht : s.heap.IsTuple t items) (hx : items[i]? = some x)
    (hQ : ∀ h', h'.IsTupleIter it t (i + 1) → Heap.SameBut it s.heap h' → Q x { s with heap := h' }) : wpAny (model prog w) A (Builtin.SmallTypes.nextOf (.ref it)) Q E s := by
  obtain ⟨o, ho, hc, hd⟩ := id hit
  obtain ⟨ol, hol, _, nl, hdl⟩ := ht
  unfold Builtin.SmallTypes.nextOf
  refine wpAny_bind (wpAny_callSpecial?_slot (name := Str.ofString "__next__") hit.typeIs F.slot_tuple_iterator_next
    (wpAny_call_entry F.slot_tuple_iterator_next hit.typeIs F.entry_tuple_iterator_next ?_ (F.args_tuple_iterator_next_1 _)))
  show wpAny _ _ (field (.ref it) 0 >>= _) _ _ s
  refine wpAny_bind (wpAny_field ho hd (x := .ref t) rfl ?_)
  show wpAny _ _ (if (Value.ref t == Value.none) = true then _ else _) _ _ s
  rw [if_neg (show ¬ ((Value.ref t == Value.none) = true) from Bool.false_ne_true)]
  show wpAny _ _ (field (.ref it) 1 >>= _) _ _ s
  refine wpAny_bind (wpAny_field ho hd (x := .int i 0) rfl ?_)
  show wpAny _ _ (seqItems? (.ref t) >>= _) _ _ s
  refine wpAny_bind (wpAny_seqItems hol hdl ?_)
  simp only [Int.toNat_natCast, hx]
  refine wpAny_bind (wpAny_setField ho hd (by simp) (wpAny_pure ⟨x, rfl, wpAny_pure (hQ _ ?_ (Heap.SameBut.update ..))⟩))
  exact ⟨_, Heap.get?_update_self _ ho (Obj.isFreed_of_fields (Obj.data_mapFields hd _)), (Obj.cls_mapFields ..).trans hc, by
    rw [Obj.data_mapFields hd]; simp [rawInt]⟩
theorem nextOf_tup_end {it t : Addr} {i : Nat} {items : Array Value} {Q : Value → Shared → Prop} (hh : A.handled = none) (hit : s.heap.IsTupleIter it t i) (ht : s.heap.IsTuple t items) (hx : items[i]? = none)
    (hE : ∀ h' e, Heap.ExtBut it s.heap h' → (∃ o, h'.get? e = some o ∧ o.cls = .type "StopIteration") → E (.ref e) { s with heap := h' }) : wpAny (model prog w) A (Builtin.SmallTypes.nextOf (.ref it)) Q E s := by
  obtain ⟨o, ho, hc, hd⟩ := id hit
  obtain ⟨ol, hol, _, nl, hdl⟩ := ht
  unfold Builtin.SmallTypes.nextOf
  refine wpAny_bind (wpAny_callSpecial?_slot (name := Str.ofString "__next__") hit.typeIs F.slot_tuple_iterator_next
    (wpAny_call_entry F.slot_tuple_iterator_next hit.typeIs F.entry_tuple_iterator_next ?_ (F.args_tuple_iterator_next_1 _)))
  show wpAny _ _ (field (.ref it) 0 >>= _) _ _ s
  refine wpAny_bind (wpAny_field ho hd (x := .ref t) rfl ?_)
  show wpAny _ _ (if (Value.ref t == Value.none) = true then _ else _) _ _ s
  rw [if_neg (show ¬ ((Value.ref t == Value.none) = true) from Bool.false_ne_true)]
  show wpAny _ _ (field (.ref it) 1 >>= _) _ _ s
  refine wpAny_bind (wpAny_field ho hd (x := .int i 0) rfl ?_)
  show wpAny _ _ (seqItems? (.ref t) >>= _) _ _ s
  refine wpAny_bind (wpAny_seqItems hol hdl ?_)
  simp only [Int.toNat_natCast, hx]
  refine wpAny_bind (wpAny_rule (wpAny_bind (wpAny_setField ho hd (by simp) ?_)))
  show wpAny _ _ (newExc (.type "StopIteration") [] >>= _) _ _ _
  refine wpAny_bind ?_
  simp only [newExc, newTuple]
  refine wpAny_bind (wpAny_newObj_type ?_ (by size_fits))
  refine wpAny_bind (m := firstArgMember _ _) (wpAny_of_eq (a := Value.none) (by first | rfl | (simp only [firstArgMember]; rfl)) ?_)
  refine wpAny_newObj_type ?_ (by size_fits)
  refine wpAny_raiseNew_none hh ?_
  exact hE _ _ (((Heap.SameBut.update ..).extBut.push _).push _) ⟨_, Heap.get?_push_size _ rfl, rfl⟩
theorem drawsTup (hh : A.handled = none) (it l : Addr) (hne : l ≠ it) (items : Array Value) :
    Draws prog w A it [it, l] items.size (fun i v => items[i]? = some v) (fun i h => h.IsTupleIter it l i ∧ h.IsTuple l items) where
  live := fun _ _ st => let ⟨o, ho, _⟩ := st.1; ⟨o, ho⟩
  frame := fun _ h h' st hk => ⟨let ⟨o, ho, r⟩ := st.1; ⟨o, hk it (by simp) o ho, r⟩, let ⟨o, ho, r⟩ := st.2; ⟨o, hk l (by simp) o ho, r⟩⟩
  item := fun i s Q E hi st hQ => by
    refine nextOf_tup_item st.1 st.2 (x := items[i]) (by simp [hi]) fun h' hit' hs' => ?_
    exact hQ _ h' s.toks (by simp [hi]) ⟨hit', let ⟨o, ho, r⟩ := st.2; ⟨o, hs'.extBut _ _ hne ho, r⟩⟩ hs'
  done := fun s Q E st hE => nextOf_tup_end hh st.1 st.2 (by simp) hE
theorem wpAny_short {f : List (Code × Pos) → Bool} {Q : Bool → Shared → Prop} (h : ∀ b, Q b s) : wpAny (model prog w) A stack (fun st s => wpAny (model prog w) A (pure (f st)) Q E s) E s :=
  wpAny_stack_any fun st => wpAny_pure (h _)
theorem meets_enumT (l : Addr) (items : Array Value) (n : Nat) (dct : Option Addr) (sl : Array (Option Value)) :
    Meets (Builtin.«enumerate.__new__» ⟨[.type "enumerate", .ref l], []⟩) (fun _ R s => s.heap.get? l = some { cls := .type "tuple", dict := dct, data := .seq items n, slots := sl } ∧
      R (.ok (.ret (.ref (s.heap.push { cls := .type "tuple_iterator", data := .fields #[.ref l, .int 0 0] }).objs.size)))
        { s with heap := (s.heap.push { cls := .type "tuple_iterator", data := .fields #[.ref l, .int 0 0] }).push { cls := .type "enumerate", data := .fields #[.none, .bool false, .ref s.heap.objs.size, rawInt 0, .none, .none] } }) :=
  .of_wp fun prog w A R s h => by
    obtain ⟨hp, g, d, tk, os⟩ := s; obtain ⟨hl, h⟩ := h
    have hsub := sub_enumerate
    have hL : Heap.IsTuple (Shared.heap ⟨hp, g, d, tk, os⟩) l items := ⟨_, hl, rfl, n, rfl⟩
    wp_walk using wpAny_loadPart' hl
    refine wpAny_short fun bb => ?_
    cases bb
    all_goals
      wp_walk using wpAny_loadPart' hl, wpAny_pyIter_tuple hL
      exact ⟨_, rfl, h⟩
theorem call_enumT {l : Addr} {items : Array Value} {Q : Value → Shared → Prop} (hL : s.heap.IsTuple l items)
    (h : ∀ h', IsEnum h' (s.heap.objs.size + 1) s.heap.objs.size 0 .none → h'.IsTupleIter s.heap.objs.size l 0 → h'.objs.size = s.heap.objs.size + 2 →
      (∀ b o, s.heap.get? b = some o → h'.get? b = some o) → Q (.ref (s.heap.objs.size + 1)) { s with heap := h' }) :
    wpAny (model prog w) A (call (.type "enumerate") [.ref l]) Q E s := by
  obtain ⟨⟨c, dct, dt, sl⟩, hl, hc, n, hd⟩ := hL
  replace hc : c = .type "tuple" := hc
  replace hd : dt = .seq items n := hd
  subst hc hd
  refine callType_new F.called_enumerate (by decide) (F.typeCall_enumerate_1 _) (F.newCall_enumerate_1 _) (fun obj => F.args_object_init_2 obj _) F.entry_enumerate_new
    (meets_enumT l items n dct sl) ⟨hl, ?_⟩
  have hz : (s.heap.push { cls := .type "tuple_iterator", data := .fields #[.ref l, .int 0 0] }).objs.size = s.heap.objs.size + 1 := Heap.size_push ..
  show _ ∧ _
  rw [hz]
  have he : IsEnum ((s.heap.push { cls := .type "tuple_iterator", data := .fields #[.ref l, .int 0 0] }).push
      { cls := .type "enumerate", data := .fields #[.none, .bool false, .ref s.heap.objs.size, rawInt 0, .none, .none] }) (s.heap.objs.size + 1) s.heap.objs.size 0 .none := by
    have := Heap.get?_push_size (s.heap.push { cls := .type "tuple_iterator", data := .fields #[.ref l, .int 0 0] })
      (o := { cls := .type "enumerate", data := .fields #[.none, .bool false, .ref s.heap.objs.size, rawInt 0, .none, .none] }) rfl
    rw [hz] at this; exact this
  refine ⟨⟨_, he, rfl⟩, h _ he ⟨_, Heap.get?_push_of_some _ (Heap.get?_push_size _ rfl), rfl, rfl⟩ (by rw [Heap.size_push, hz]) fun b o x => Heap.get?_push_of_some _ (Heap.get?_push_of_some _ x)⟩
end
section
variable {prog : Program} {w : World} {A : Around} {E : Value → Shared → Prop} {s : Shared} {hB : Heap} {oB : OsState} {G : Array GenState} {ob rest R src : Ledger} {env : Env} {L e it l : Addr} {locs gs : List Str} {cl : List (Str × Addr)} {lo l1 lo' : Lo} {xs : List AV}
theorem enum_item {x y : Str} {px py tp : Pos} {c i n : Nat} {av : AV} {itP1 itP2 : OP} {fp : List Addr} {P : Nat → Value → Prop} {St : Nat → Heap → Prop} {Q : Unit → Shared → Prop} (hh : A.handled = none) (he : Ev env L locs cl gs)
    (D : Draws prog w A.in1 it fp n P St) (hst : St i s.heap) (hi : i < n) (hef : e ∉ fp) (hP : ∀ v, P i v → ∃ u, v = av.v u) (hSt : ∀ h', St (i + 1) h' → ∃ o2, h'.get? it = some o2 ∧ itP2 o2)
    (h : H hB oB G ((e, enumO it i) :: (it, itP1) :: (src ++ ((L, nsp locs lo) :: R))) s) (p1 : Put x (.int i) lo l1) (p2 : Put y av l1 lo')
    (k : ∀ s', H hB oB G ((L, nsp locs lo') :: ((e, enumO it ((i + 1 : Nat) : Int)) :: (it, itP2) :: (src ++ R))) s' → Q () s') :
    wpAny (model prog w) A (pyNext (.ref e)) (fun r s₁ => ∃ v, r = some v ∧ wpAny (model prog w) A (letOwnedTupleGo (.Tuple [.Name x px, .Name y py] c tp) (.ref e) v) (fun _ s₂ => wpAny (model prog w) A (assign (.Tuple [.Name x px, .Name y py] c tp) env v) Q E s₂) E s₁) E s := by
  obtain ⟨oe, ho, old, rfl⟩ := h.get .here
  have n1 := List.nodup_cons.mp h.nodup
  have hne : e ≠ it := fun q => n1.1 (by rw [q]; exact .head _)
  refine wpAny_pyNext_enum_itemD D ho hst hi hne hef fun v h' tk hv hout hst' hT hsz hk => ⟨_, rfl, ?_⟩
  obtain ⟨u, rfl⟩ := hP v hv
  obtain ⟨o2, ho2, hp2⟩ := hSt _ hst'
  have hfr := h.fresh (fresh_at s.heap)
  have h2 : H hB oB G ((e, enumU it (i + 1) s.heap.objs.size) :: (it, itP2) :: (src ++ ((L, nsp locs lo) :: R))) { s with heap := h', toks := tk + 1 } :=
    h.upd2 (s' := { s with heap := h', toks := tk + 1 }) (fun b o hb1 hb2 q => hk b o hb1 hb2 q) hout ⟨_, rfl⟩ ho2 hp2
  have h3 := h2.addNew (a := s.heap.objs.size) (P := tup [.int i, av]) ⟨hfr.1, fun p hp => by
    rcases List.mem_cons.mp hp with rfl | hp
    · exact hfr.2 (e, enumO it i) (.head _)
    · rcases List.mem_cons.mp hp with rfl | hp
      · exact hfr.2 (it, itP1) (.tail _ (.head _))
      · exact hfr.2 _ (.tail _ (.tail _ hp))⟩ hT ⟨[.int i tk, av.v u], 0, rfl, .cons tk (.cons u .nil)⟩
  refine wpAny_letOwnedTupleGo_enum hout fun h'' he'' hs'' => ?_
  have h4 := h3.updS (s' := { s with heap := h'', toks := tk + 1 }) (P' := enumO it (i + 1)) (.there .here) hs'' he'' ⟨_, rfl⟩
  refine r_unpack2 (x := x) (y := y) hh h4 (.there .here) fun t1 t2 s5 h5 => ?_
  refine r_store he h5 (.there (.there (.there (pick_mid _)))) p1 fun s6 h6 => ?_
  refine r_store he h6 .here p2 fun s7 h7 => k _ ?_
  exact h7.sub (.cons .here (fun _ h => h) (.cons .here (fun _ h => h) (.cons (.there .here) (fun _ h => h) (.skip .refl))))
theorem ItrT.enumTup {x y : Str} {px py tp : Pos} {c : Nat} (e it l : Addr) (xs : List AV) : ItrT prog w hB oB (.Tuple [.Name x px, .Name y py] c tp) e (fun i => [(e, enumO it i), (it, titer l i), (l, tup xs)]) [(l, tup xs)] xs.length
    (fun i lo lo' => ∃ l1, Put x (.int i) lo l1 ∧ Put y (xs.getD i .none) l1 lo') where
  item := fun i hi A G R s env L locs gs cl lo lo' Q E hh he hp h k => by
    obtain ⟨ot, hot, hc, hd⟩ := h.get (.there .here)
    obtain ⟨ol, hol, hl⟩ := h.get (.there (.there .here))
    obtain ⟨vs, hL, ha⟩ := tup_isTup hol hl
    have n1 := List.nodup_cons.mp h.nodup
    have n2 := List.nodup_cons.mp n1.2
    have hne1 : e ≠ it := fun q => n1.1 (by rw [q]; exact .head _)
    have hne2 : e ≠ l := fun q => n1.1 (by rw [q]; exact .tail _ (.head _))
    have hne3 : l ≠ it := fun q => n2.1 (by rw [← q]; exact .head _)
    obtain ⟨l1, p1, p2⟩ := hp
    have hx : xs[i]? = some (xs.getD i .none) := by simp [List.getD_eq_getElem?_getD, hi]
    obtain ⟨t, ht⟩ := ha.get hx
    refine enum_item (src := [(l, tup xs)]) (itP2 := titer l (i + 1)) hh he (drawsTup (A := A.in1) hh it l hne3 vs.toArray) ⟨⟨ot, hot, hc, hd⟩, hL⟩ (by simp [ha.length]; exact hi) (by simp [hne1, hne2]) (fun v hv => ⟨t, ?_⟩) (fun h' st => ?_) h p1 p2 k
    · have hv : vs.toArray[i]? = some v := hv
      rw [List.getElem?_toArray, ht] at hv
      exact (Option.some.inj hv).symm
    · obtain ⟨o2, ho2, hc2, hd2⟩ := st.1
      exact ⟨o2, ho2, hc2, hd2⟩
  done := fun A G R s Q E hh h k => by
    obtain ⟨oe, ho, old, rfl⟩ := h.get .here
    obtain ⟨ot, hot, hc, hd⟩ := h.get (.there .here)
    obtain ⟨ol, hol, hl⟩ := h.get (.there (.there .here))
    obtain ⟨vs, hL, ha⟩ := tup_isTup hol hl
    have n1 := List.nodup_cons.mp h.nodup
    have n2 := List.nodup_cons.mp n1.2
    have hne3 : l ≠ it := fun q => n2.1 (by rw [← q]; exact .head _)
    have e0 : vs.toArray.size = xs.length := by simp [ha.length]
    refine wpAny_pyNext_enum_endD (drawsTup (A := A.in1) hh it l hne3 vs.toArray) ho (by rw [e0]; exact ⟨⟨ot, hot, hc, hd⟩, hL⟩) fun h' hs => k _ ((h.lose (.there .here) (fun b o hb q => hs b o hb q)).drop)
  selfI := fun i A G R s Q E h k => by
    obtain ⟨oe, ho, old, rfl⟩ := h.get .here
    exact wpAny_pyIter_enum ho k
theorem ItrT.enumList {x y : Str} {px py tp : Pos} {c : Nat} (e it l : Addr) (xs : List AV) : ItrT prog w hB oB (.Tuple [.Name x px, .Name y py] c tp) e (fun i => [(e, enumO it i), (it, liter l i), (l, lst xs)]) [(l, lst xs)] xs.length
    (fun i lo lo' => ∃ l1, Put x (.int i) lo l1 ∧ Put y (xs.getD i .none) l1 lo') where
  item := fun i hi A G R s env L locs gs cl lo lo' Q E hh he hp h k => by
    obtain ⟨ot, hot, hc, hd⟩ := h.get (.there .here)
    obtain ⟨ol, hol, hl⟩ := h.get (.there (.there .here))
    obtain ⟨vs, hL, ha⟩ := lst_isList hol hl
    have n1 := List.nodup_cons.mp h.nodup
    have n2 := List.nodup_cons.mp n1.2
    have hne1 : e ≠ it := fun q => n1.1 (by rw [q]; exact .head _)
    have hne2 : e ≠ l := fun q => n1.1 (by rw [q]; exact .tail _ (.head _))
    have hne3 : l ≠ it := fun q => n2.1 (by rw [← q]; exact .head _)
    obtain ⟨l1, p1, p2⟩ := hp
    have hx : xs[i]? = some (xs.getD i .none) := by simp [List.getD_eq_getElem?_getD, hi]
    obtain ⟨t, ht⟩ := ha.get hx
    refine enum_item (src := [(l, lst xs)]) (itP2 := liter l (i + 1)) hh he (Draws.list (A := A.in1) hh it l hne3 vs.toArray) ⟨⟨ot, hot, hc, hd⟩, hL⟩ (by simp [ha.length]; exact hi) (by simp [hne1, hne2]) (fun v hv => ⟨t, ?_⟩) (fun h' st => ?_) h p1 p2 k
    · have hv : vs.toArray[i]? = some v := hv
      rw [List.getElem?_toArray, ht] at hv
      exact (Option.some.inj hv).symm
    · obtain ⟨o2, ho2, hc2, hd2⟩ := st.1
      exact ⟨o2, ho2, hc2, hd2⟩
  done := fun A G R s Q E hh h k => by
    obtain ⟨oe, ho, old, rfl⟩ := h.get .here
    obtain ⟨ot, hot, hc, hd⟩ := h.get (.there .here)
    obtain ⟨ol, hol, hl⟩ := h.get (.there (.there .here))
    obtain ⟨vs, hL, ha⟩ := lst_isList hol hl
    have n1 := List.nodup_cons.mp h.nodup
    have n2 := List.nodup_cons.mp n1.2
    have hne3 : l ≠ it := fun q => n2.1 (by rw [← q]; exact .head _)
    have e0 : vs.toArray.size = xs.length := by simp [ha.length]
    refine wpAny_pyNext_enum_endD (Draws.list (A := A.in1) hh it l hne3 vs.toArray) ho (by rw [e0]; exact ⟨⟨ot, hot, hc, hd⟩, hL⟩) fun h' hs => k _ ((h.lose (.there .here) (fun b o hb q => hs b o hb q)).drop)
  selfI := fun i A G R s Q E h k => by
    obtain ⟨oe, ho, old, rfl⟩ := h.get .here
    exact wpAny_pyIter_enum ho k
theorem r_enumTup {Q : Value → Shared → Prop} (h : H hB oB G ob s) (pk : Pick l (tup xs) ob rest) (k : ∀ e it s', H hB oB G ((e, enumO it 0) :: (it, titer l 0) :: (l, tup xs) :: rest) s' → Q (.ref e) s') : wpAny (model prog w) A (call (.type "enumerate") [.ref l]) Q E s := by
  obtain ⟨o, ho, hl⟩ := h.get pk
  obtain ⟨vs, hL, ha⟩ := tup_isTup ho hl
  refine call_enumT hL fun h' he hi hz hk => k _ s.heap.objs.size _ ?_
  obtain ⟨o, ho, hc, hd⟩ := hi
  have h := h.pick pk
  have h0 : H hB oB G ((l, tup xs) :: rest) { s with heap := h' } := h.of hk
  have f1 := h.fresh (fresh_at s.heap)
  have f2 := h.fresh (fresh_ge s.heap (Nat.le_succ s.heap.objs.size))
  have h1 := h0.addNew (P := titer l 0) f1 ho ⟨hc, hd⟩
  refine h1.addNew (a := s.heap.objs.size + 1) ⟨f2.1, fun p hp => ?_⟩ he ⟨_, rfl⟩
  rcases List.mem_cons.mp hp with rfl | hp
  · exact Nat.ne_of_lt (Nat.lt_succ_self _)
  · exact f2.2 p hp
theorem r_enumList {Q : Value → Shared → Prop} (h : H hB oB G ob s) (pk : Pick l (lst xs) ob rest) (k : ∀ e it s', H hB oB G ((e, enumO it 0) :: (it, liter l 0) :: (l, lst xs) :: rest) s' → Q (.ref e) s') : wpAny (model prog w) A (call (.type "enumerate") [.ref l]) Q E s := by
  obtain ⟨o, ho, hl⟩ := h.get pk
  obtain ⟨vs, hL, ha⟩ := lst_isList ho hl
  refine call_enumerate_list hL fun h' he hi hz hk => k _ s.heap.objs.size _ ?_
  obtain ⟨o, ho, hc, hd⟩ := hi
  have h := h.pick pk
  have h0 : H hB oB G ((l, lst xs) :: rest) { s with heap := h' } := h.of hk
  have f1 := h.fresh (fresh_at s.heap)
  have f2 := h.fresh (fresh_ge s.heap (Nat.le_succ s.heap.objs.size))
  have h1 := h0.addNew (P := liter l 0) f1 ho ⟨hc, hd⟩
  refine h1.addNew (a := s.heap.objs.size + 1) ⟨f2.1, fun p hp => ?_⟩ he ⟨_, rfl⟩
  rcases List.mem_cons.mp hp with rfl | hp
  · exact Nat.ne_of_lt (Nat.lt_succ_self _)
  · exact f2.2 p hp
end

end Mine
namespace Mine
open PySem PySem.Calls PyProof.Rows PySem.W
noncomputable abbrev two (elt t1 i1 t2 i2 : Expr) (sc : Scope) (pos : Pos) : Expr := .ListComp elt [⟨t1, i1, [], 0⟩, ⟨t2, i2, [], 0⟩] sc pos
theorem compTurn20 (elt t1 i1 t2 i2 : Expr) (sc : Scope) (pos : Pos) (it acc : Value) (env : Env) : compTurn (two elt t1 i1 t2 i2 sc pos) 0 it acc env = (do
      standAt i1.pos
      match ← pyNext it with
      | none => pure (.done .next)
      | some v =>
        letOwnedTupleGo t1 it v
        assign t1 env v
        let x ← eval i2 env
        standAt i2.pos
        let x ← foldedSetIterable i2 env x
        let _ ← runOwn (.compStart (two elt t1 i1 t2 i2 sc pos) 1 (← holding [x] (pyIter x)) acc env) env
        again (.compLoop (two elt t1 i1 t2 i2 sc pos) 0 it acc env)) := by rfl
theorem compTurn21 (elt t1 i1 t2 i2 : Expr) (sc : Scope) (pos : Pos) (it acc : Value) (env : Env) : compTurn (two elt t1 i1 t2 i2 sc pos) 1 it acc env = (do
      standAt i2.pos
      match ← pyNext it with
      | none => pure (.done .next)
      | some v =>
        letOwnedTupleGo t2 it v
        assign t2 env v
        (do let _ ← call (.builtin "list.append") [acc, ← eval elt env])
        again (.compLoop (two elt t1 i1 t2 i2 sc pos) 1 it acc env)) := by rfl
section
variable {prog : Program} {w : World} {A : Around} {E : Value → Shared → Prop} {R : Result → Shared → Prop} {s : Shared} {env : Env}
theorem codeAny_two1 {elt t1 i1 t2 i2 : Expr} {sc : Scope} {pos : Pos} {it acc : Value} (I : Nat → Shared → Prop)
    (turn : ∀ n s, I n s → wpAny (model prog w) A (pyNext it) (fun r s₁ => match r with
      | none => R (.ok .next) s₁
      | some v => wpAny (model prog w) A (letOwnedTupleGo t2 it v) (fun _ s₁' => wpAny (model prog w) A (assign t2 env v) (fun _ s₂ =>
          wpAny (model prog w) A (eval elt env) (fun x s₄ =>
              wpAny (model prog w) A (call (.builtin "list.append") [acc, x]) (fun _ s₅ => ∃ m, m < n ∧ I m s₅) (notedBy (model prog w) A env fun e s' => R (.error e) s') s₄) (notedBy (model prog w) A env fun e s' => R (.error e) s') s₂)
            (notedBy (model prog w) A env fun e s' => R (.error e) s') s₁') (notedBy (model prog w) A env fun e s' => R (.error e) s') s₁) (notedBy (model prog w) A env fun e s' => R (.error e) s') s)
    (n : Nat) (h : I n s) : codeAny (model prog w) A (.compLoop (two elt t1 i1 t2 i2 sc pos) 1 it acc env) R s := by
  refine codeAny_loop rfl I (fun n s hI => ?_) n h
  show wpAny _ A ((compTurn (two elt t1 i1 t2 i2 sc pos) 1 it acc env).onRaise (fun x => do noteFrame x env; theTreesLotGoes x)) _ _ s
  refine wpAny_noted ?_
  rw [compTurn21]
  refine wpAny_bind (wpAny_standAt (wpAny_bind (wpAny_mono (turn n s hI) (fun r s₁ h₁ => ?_) fun _ _ h' => h')))
  cases r with
  | none => exact wpAny_pure h₁
  | some v =>
    refine wpAny_bind (wpAny_mono h₁ (fun _ s₁' h₁' => ?_) fun _ _ h' => h')
    refine wpAny_bind (wpAny_mono h₁' (fun _ s₂ h₂ => ?_) fun _ _ h' => h')
    exact wpAny_bind (wpAny_bind (wpAny_mono h₂ (fun x s₄ h₄ => wpAny_bind (wpAny_mono h₄ (fun _ s₅ h₅ => wpAny_pure (wpAny_pure ⟨rfl, h₅⟩)) fun _ _ h' => h')) fun _ _ h' => h'))
theorem codeAny_two0 {elt t1 i1 t2 i2 : Expr} {sc : Scope} {pos : Pos} {it acc : Value} (I : Nat → Shared → Prop)
    (turn : ∀ n s, I n s → wpAny (model prog w) A (pyNext it) (fun r s₁ => match r with
      | none => R (.ok .next) s₁
      | some v => wpAny (model prog w) A (letOwnedTupleGo t1 it v) (fun _ s₁' => wpAny (model prog w) A (assign t1 env v) (fun _ s₂ =>
          wpAny (model prog w) A (eval i2 env) (fun x s₃ => foldedSetIterable i2 env x = pure x ∧ wpAny (model prog w) A (pyIter x) (fun it2 s₄ =>
              codeAny (model prog w) A (.compStart (two elt t1 i1 t2 i2 sc pos) 1 it2 acc env) (fun r s' => match r with | .ok _ => ∃ m, m < n ∧ I m s' | .error e => cameBackBy (model prog w) A env (notedBy (model prog w) A env fun e s' => R (.error e) s') e s') s₄) (notedBy (model prog w) A env fun e s' => R (.error e) s') s₃) (notedBy (model prog w) A env fun e s' => R (.error e) s') s₂)
            (notedBy (model prog w) A env fun e s' => R (.error e) s') s₁') (notedBy (model prog w) A env fun e s' => R (.error e) s') s₁) (notedBy (model prog w) A env fun e s' => R (.error e) s') s)
    (n : Nat) (h : I n s) : codeAny (model prog w) A (.compLoop (two elt t1 i1 t2 i2 sc pos) 0 it acc env) R s := by
  refine codeAny_loop rfl I (fun n s hI => ?_) n h
  show wpAny _ A ((compTurn (two elt t1 i1 t2 i2 sc pos) 0 it acc env).onRaise (fun x => do noteFrame x env; theTreesLotGoes x)) _ _ s
  refine wpAny_noted ?_
  rw [compTurn20]
  refine wpAny_bind (wpAny_standAt (wpAny_bind (wpAny_mono (turn n s hI) (fun r s₁ h₁ => ?_) fun _ _ h' => h')))
  cases r with
  | none => exact wpAny_pure h₁
  | some v =>
    refine wpAny_bind (wpAny_mono h₁ (fun _ s₁' h₁' => ?_) fun _ _ h' => h')
    refine wpAny_bind (wpAny_mono h₁' (fun _ s₂ h₂ => ?_) fun _ _ h' => h')
    refine wpAny_bind (wpAny_mono h₂ (fun x s₃ h₃ => ?_) fun _ _ h' => h')
    refine wpAny_bind (wpAny_standAt (wpAny_bind (wpAny_of_eq h₃.1 ?_)))
    refine wpAny_bind (wpAny_holding (wpAny_mono h₃.2 (fun it2 s₄ h₄ => ?_) fun _ _ h' => h'))
    refine wpAny_bind (wpAny_runOwn (codeAny_mono h₄ fun r s' hr => ?_))
    cases r with
    | ok f => exact wpAny_pure ⟨rfl, hr⟩
    | error e => exact hr
theorem codeAny_twoStart1 {elt t1 i1 t2 i2 : Expr} {sc : Scope} {pos : Pos} {it acc : Value}
    (h0 : codeAny (model prog w) A (.compLoop (two elt t1 i1 t2 i2 sc pos) 1 it acc env) R s)
    (h : wpAny (model prog w) A (pyIter it) (fun it' s' => codeAny (model prog w) A (.compLoop (two elt t1 i1 t2 i2 sc pos) 1 it' acc env) R s') (notedBy (model prog w) A env fun x s' => R (.error x) s') s) :
    codeAny (model prog w) A (.compStart (two elt t1 i1 t2 i2 sc pos) 1 it acc env) R s := by
  refine codeAny_of_tree ?_
  show wpAny _ _ ((compStart (two elt t1 i1 t2 i2 sc pos) 1 it acc env).onRaise (fun x => do noteFrame x env; standAt theWindowsPlace)) _ _ s
  refine wpAny_notedAt ?_
  unfold compStart
  show wpAny _ A (ask >>= _) _ _ s
  refine wpAny_bind (wpAny_askSetting (wpAny_ite ?_))
  split
  · first
      | exact wpAny_bind (wpAny_pure (wpAny_pure (And.intro rfl h0)))
      | exact wpAny_pure (And.intro rfl h0)
  · first
      | exact wpAny_bind (wpAny_rule (wpAny_bind (wpAny_standAt (wpAny_bind (wpAny_mono h (fun it' s' h' => wpAny_pure (And.intro rfl h')) fun _ _ x => x)))))
      | (refine wpAny_bind (wpAny_rule ?_); show wpAny _ _ (standAt i2.pos >>= _) _ _ s; exact wpAny_bind (wpAny_standAt (wpAny_bind (wpAny_mono h (fun it' s' h' => wpAny_pure (And.intro rfl h')) fun _ _ x => x))))
end
noncomputable def rowsGo (n2 : Nat → Nat) (f : Nat → Nat → AV) : Nat → List AV
  | 0 => []
  | i + 1 => rowsGo n2 f i ++ (List.range (n2 i)).map (f i)
section
variable {prog : Program} {w : World} {A : Around} {E : Value → Shared → Prop} {s : Shared} {hB : Heap} {oB : OsState} {G : Array GenState} {ob rest : Ledger} {env : Env} {L : Addr} {locs gs : List Str} {cl : List (Str × Addr)}
/-- a list comprehension of two clauses -/
theorem r_comp2 {x y : Str} {px py pos : Pos} {elt i1 i2 : Expr} {sc : Scope} {Q : Value → Shared → Prop} (he : Ev env L locs cl gs) (hh : A.handled = none) (gs' : List Str) (fc : List (Str × Addr)) (hsc : compOk sc [x, y] gs' = true) (hf : fclOk cl sc.names = true) (hfc : fcl cl sc.names = fc)
    (n1 : Nat) (n2 : Nat → Nat) (val1 : Nat → AV) (val2 : Nat → Nat → AV) (f : Nat → Nat → AV) (hz : ∀ i, i ≤ n1 → (rowsGo n2 f i).length ≤ 1000) (hz2 : ∀ i, i < n1 → n2 i ≤ 1000)
    (k : wpAny (model prog w) A (eval i1 env) (fun xv s₁ => wpAny (model prog w) A (pyIter xv) (fun it s₂ => ∃ I1 Le1, it = .ref I1 ∧ Itr prog w hB oB I1 Le1 [] n1 val1 ∧ H hB oB G (Le1 0 ++ ob) s₂) E s₁) E s)
    (hin : ∀ i, i < n1 → ∀ C env' E' s' R0, Ev env' C [x, y] fc gs' → H hB oB G ((C, nsp [x, y] [(x, some (val1 i)), (y, none)]) :: (ob ++ R0)) s' →
      wpAny (model prog w) A (eval i2 env') (fun xv s₁ => foldedSetIterable i2 env' xv = pure xv ∧ wpAny (model prog w) A (pyIter xv) (fun it s₂ => ∃ I2 Le2, it = .ref I2 ∧ Itr prog w hB oB I2 Le2 [] (n2 i) (val2 i) ∧
        H hB oB G (Le2 0 ++ ((C, nsp [x, y] [(x, some (val1 i)), (y, none)]) :: (ob ++ R0))) s₂) E' s₁) E' s')
    (helt : ∀ i j, i < n1 → j < n2 i → ∀ C env' E' s' R0, Ev env' C [x, y] fc gs' → H hB oB G ((C, nsp [x, y] [(x, some (val1 i)), (y, some (val2 i j))]) :: (ob ++ R0)) s' →
      wpAny (model prog w) A (eval elt env') (fun v s₂ => ∃ t, v = (f i j).v t ∧ H hB oB G ((C, nsp [x, y] [(x, some (val1 i)), (y, some (val2 i j))]) :: (ob ++ R0)) s₂) E' s')
    (hend : ∀ D s', H hB oB G ((D, lst (rowsGo n2 f n1)) :: ob) s' → Q (.ref D) s')
    (hs : ∀ x, foldedSetIterable i1 env x = pure x := by intro _; rfl) :
    wpAny (model prog w) A (eval (.ListComp elt [⟨.Name x px, i1, [], 0⟩, ⟨.Name y py, i2, [], 0⟩] sc pos) env) Q E s := by
  subst hfc
  have hsc' := hsc
  simp only [compOk, Bool.and_eq_true, List.all_eq_true, Bool.not_eq_true', Bool.or_eq_true, beq_iff_eq, decide_eq_true_eq, bne_iff_ne] at hsc'
  obtain ⟨⟨⟨⟨⟨⟨h1, h2⟩, h3⟩, h4⟩, h5⟩, h6⟩, h7⟩ := hsc'
  rw [eval_ListComp]
  refine wpAny_comprehension_free (use := none) rfl hs (closureFor_fcl he hf) (compOk_kind hsc) (compOk_names hsc) (wpAny_mono k (fun xv s₁ h₁ => wpAny_mono h₁ (fun it s₂ h₂ => ?_) fun _ _ e => e) fun _ _ e => e)
  obtain ⟨I1, Le1, rfl, it1, h⟩ := h₂
  clear k h₁
  refine wpAny_newObj_type (wpAny_newFunctionEnv (fun x hx => h2 x hx) (by intro y hy; simp at hy) (fun h₁ hns₁ hsb₁ => ?_) h1)
  dsimp only at hns₁ hsb₁ ⊢
  have hd := h.push (P := lst []) (o := { cls := .type "list", dict := none, data := .seq ([] : List Value).toArray }) rfl ⟨[], 0, rfl, .nil⟩ (s' := { s₂ with heap := s₂.heap.push { cls := .type "list", dict := none, data := .seq ([] : List Value).toArray } }) rfl
  generalize hD : s₂.heap.objs.size = D at hd ⊢
  generalize hH2 : s₂.heap.push { cls := .type "list", dict := none, data := .seq ([] : List Value).toArray } = H2 at hns₁ hsb₁ hd ⊢
  have hc : H hB oB G ((H2.objs.size, nsp [x, y] [(x, none), (y, none)]) :: (D, lst []) :: (Le1 0 ++ ob)) { s₂ with heap := h₁, toks := s₂.toks + ([] : List (Str × Value)).length } := by
    obtain ⟨o, es, ep, e1, e2, e3, e4⟩ := hns₁
    refine hd.add (a := H2.objs.size) (o := o) (fun b o' e => hsb₁.extBut b o' (Nat.ne_of_lt (Heap.lt_size e)) (Heap.get?_push_of_some _ e)) (fresh_at _) e1 ⟨rfl, h7, es, ep, e2, e3, fun x v hm => ?_⟩
    exact absurd hm (by simp)
  generalize H2.objs.size = C at hc ⊢
  generalize ({ s₂ with heap := h₁, toks := s₂.toks + ([] : List (Str × Value)).length } : Shared) = s₃ at hc ⊢
  have hev := comp_ev he hsc hf C
  have hc2 : H hB oB G (Le1 0 ++ ((C, nsp [x, y] [(x, none), (y, none)]) :: (D, lst (rowsGo n2 f 0)) :: ob)) s₃ :=
    hc.perm ((List.Perm.cons _ List.perm_middle.symm).trans List.perm_middle.symm)
  have loop : codeAny (model prog w) A (.compLoop (two elt (.Name x px) i1 (.Name y py) i2 sc pos) 0 (.ref I1) (.ref D) (compEnvC sc (fcl cl sc.names) C env)) (compPost (model prog w) A E none Q (.ref D) C) s₃ := by
    refine codeAny_two0 (fun k s' => ∃ i, i ≤ n1 ∧ k = n1 - i ∧ H hB oB G (Le1 i ++ ((C, nsp [x, y] [(x, none), (y, none)]) :: (D, lst (rowsGo n2 f i)) :: ob)) s') ?_ n1 ⟨0, Nat.zero_le _, rfl, hc2⟩
    rintro k s' ⟨i, hi, rfl, h'⟩
    by_cases hlt : i < n1
    · refine it1.item i hlt _ _ _ _ _ _ hh h' fun t s₄ h₄ => ?_
      refine wpAny_of_eq (show letOwnedTupleGo (.Name x px) (.ref I1) ((val1 i).v t) = pure () from rfl) ?_
      refine wpAny_assign_Name (r_store hev h₄ (pick_mid _) .here fun s₅ h₅ => ?_)
      have pm : ∀ (lo : Lo) (ys : List AV), List.Perm ((C, nsp [x, y] lo) :: (Le1 (i + 1) ++ ((D, lst ys) :: ob))) ((C, nsp [x, y] lo) :: (ob ++ ((D, lst ys) :: Le1 (i + 1)))) := fun lo ys =>
        List.Perm.cons _ (List.perm_middle.trans ((List.Perm.cons _ List.perm_append_comm).trans List.perm_middle.symm))
      have h₅' := h₅.perm (pm _ _)
      refine wpAny_mono (hin i hlt C _ _ s₅ _ hev h₅') (fun xv s₆ k => ⟨k.1, wpAny_mono k.2 (fun it2 s₇ k2 => ?_) fun _ _ e => e⟩) fun _ _ e => e
      obtain ⟨I2, Le2, rfl, itr2, h₇⟩ := k2
      have inner : codeAny (model prog w) A (.compLoop (two elt (.Name x px) i1 (.Name y py) i2 sc pos) 1 (.ref I2) (.ref D) (compEnvC sc (fcl cl sc.names) C env)) (fun r s' => match r with
          | .ok _ => ∃ m, m < n1 - i ∧ ∃ i, i ≤ n1 ∧ m = n1 - i ∧ H hB oB G (Le1 i ++ ((C, nsp [x, y] [(x, none), (y, none)]) :: (D, lst (rowsGo n2 f i)) :: ob)) s'
          | .error e => cameBackBy (model prog w) A (compEnvC sc (fcl cl sc.names) C env) (notedBy (model prog w) A (compEnvC sc (fcl cl sc.names) C env) fun e s' => (compPost (model prog w) A E none Q (.ref D) C) (.error e) s') e s') s₇ := by
        have h₈ : H hB oB G (Le2 0 ++ ((C, nsp [x, y] [(x, some (val1 i)), (y, none)]) :: (ob ++ ((D, lst (rowsGo n2 f i ++ (List.range 0).map (f i))) :: Le1 (i + 1))))) s₇ := by
          simpa using h₇
        refine codeAny_two1 (fun k s' => ∃ j, j ≤ n2 i ∧ k = n2 i - j ∧ H hB oB G (Le2 j ++ ((C, nsp [x, y] [(x, some (val1 i)), (y, none)]) :: (ob ++ ((D, lst (rowsGo n2 f i ++ (List.range j).map (f i))) :: Le1 (i + 1))))) s') ?_ (n2 i) ⟨0, Nat.zero_le _, rfl, h₈⟩
        rintro k s' ⟨j, hj, rfl, h'⟩
        by_cases hlt2 : j < n2 i
        · refine itr2.item j hlt2 _ _ _ _ _ _ hh h' fun t s₉ h₉ => ?_
          refine wpAny_of_eq (show letOwnedTupleGo (.Name y py) (.ref I2) ((val2 i j).v t) = pure () from rfl) ?_
          refine wpAny_assign_Name (r_store hev h₉ (pick_mid _) (.there .here) fun s₁₀ h₁₀ => ?_)
          have pm2 : ∀ (lo : Lo) (ys : List AV), List.Perm ((C, nsp [x, y] lo) :: (Le2 (j + 1) ++ (ob ++ ((D, lst ys) :: Le1 (i + 1))))) ((C, nsp [x, y] lo) :: (ob ++ ((D, lst ys) :: (Le1 (i + 1) ++ Le2 (j + 1))))) := fun lo ys =>
            List.Perm.cons _ ((List.perm_append_comm_assoc _ _ _).trans (List.Perm.append_left ob (List.perm_middle.trans (List.Perm.cons _ List.perm_append_comm))))
          refine wpAny_mono (helt i j hlt hlt2 C _ _ s₁₀ _ hev (h₁₀.perm (pm2 _ _))) (fun v s₁₁ k => ?_) fun _ _ e => e
          obtain ⟨t2, rfl, h₁₁⟩ := k
          have hlen : (rowsGo n2 f i ++ (List.range j).map (f i)).length ≤ 2000 := by
            rw [List.length_append, List.length_map, List.length_range]
            have := hz i hi; have := hz2 i hlt; omega
          refine r_append h₁₁ (.there (pick_mid ob)) (le_size (by omega)) fun s₁₂ h₁₂ => ⟨n2 i - (j + 1), by omega, j + 1, hlt2, rfl, ?_⟩
          rw [List.range_succ, List.map_append, ← List.append_assoc]
          have h13 := (h₁₂.swap.weak (P' := nsp [x, y] [(x, some (val1 i)), (y, none)]) (nsp_forg (.same (.forget .nil))))
          refine h13.perm (?_ : List.Perm _ (Le2 (j + 1) ++ ((C, nsp [x, y] [(x, some (val1 i)), (y, none)]) :: (ob ++ ((D, lst (rowsGo n2 f i ++ (List.range j).map (f i) ++ [f i j])) :: Le1 (i + 1))))))
          refine List.Perm.trans (List.Perm.cons _ ?_) List.perm_middle.symm
          have : List.Perm ((D, lst (rowsGo n2 f i ++ (List.range j).map (f i) ++ [f i j])) :: (ob ++ (Le1 (i + 1) ++ Le2 (j + 1)))) (ob ++ ((D, lst (rowsGo n2 f i ++ (List.range j).map (f i) ++ [f i j])) :: (Le1 (i + 1) ++ Le2 (j + 1)))) := List.perm_middle.symm
          refine this.trans ?_
          refine List.Perm.trans ?_ (List.perm_append_comm_assoc ob (Le2 (j + 1)) _)
          exact List.Perm.append_left ob ((List.Perm.cons _ List.perm_append_comm).trans List.perm_middle.symm)
        · have : j = n2 i := by omega
          subst this
          refine itr2.done _ _ _ _ _ _ hh h' fun s₉ h₉ => ⟨n1 - (i + 1), by omega, i + 1, hlt, rfl, ?_⟩
          have h10 := (h₉.weak (P' := nsp [x, y] [(x, none), (y, none)]) (nsp_forg (.forget (.same .nil))))
          refine h10.perm ?_
          refine List.Perm.trans (List.Perm.cons _ ?_) List.perm_middle.symm
          exact (List.perm_middle.trans ((List.Perm.cons _ List.perm_append_comm).trans List.perm_middle.symm))
      exact codeAny_twoStart1 inner (itr2.selfI 0 _ _ _ _ _ _ h₇ inner)
    · have : i = n1 := by omega
      subst this
      refine it1.done _ _ _ _ _ _ hh h' fun s₄ h₄ => ?_
      obtain ⟨m, hm, hr⟩ := letC (ob := (D, lst (rowsGo n2 f i)) :: ob) h₄
      exact ⟨m, hm, fun h' hs => hend D _ (hr h' hs)⟩
  refine codeAny_compStart_list loop ?_
  exact it1.selfI 0 _ _ _ _ _ _ hc2 loop
end

end Mine
namespace Mine
open PySem PySem.Calls PyProof.Rows PySem.W
section
variable {prog : Program} {w : World} {A : Around} {E : Value → Shared → Prop} {s : Shared} {hB : Heap} {oB : OsState} {G : Array GenState} {ob rest : Ledger} {L : Addr} {locs : List Str} {lo : Lo} {zs : List Int}
theorem Ares.ints : ∀ {zs : List Int} {vs : List Value}, Ares (zs.map .int) vs → IntsAre vs zs
  | [], _, .nil => .nil
  | z :: zs, _, .cons t h => .cons z t h.ints
theorem ints_ares : ∀ {vs : List Value} {zs : List Int}, IntsAre vs zs → Ares (zs.map .int) vs
  | _, _, .nil => .nil
  | _, _, .cons n t h => .cons t (ints_ares h)
theorem Ares.items {zs : List Int} {vs : List Value} (h : Ares (zs.map .int) vs) : ∃ xs : List (Int × Tok), vs = xs.map (fun p => Value.int p.1 p.2) ∧ xs.map (·.1) = zs := by
  induction zs generalizing vs with
  | nil => cases h; exact ⟨[], rfl, rfl⟩
  | cons z zs ih =>
    cases h with
    | cons t h =>
      obtain ⟨xs, rfl, rfl⟩ := ih h
      exact ⟨(z, t) :: xs, rfl, rfl⟩
theorem preSum_eq (xs : List (Int × Tok)) : ∀ n, n ≤ xs.length → preSum (numAt xs.toArray) n = ((xs.map (·.1)).take n).sum
  | 0, _ => by simp [preSum]
  | n + 1, h => by
    have hn : n < xs.length := by omega
    rw [preSum, preSum_eq xs n (by omega), List.take_succ_eq_append_getElem (by simpa using hn), List.sum_append]
    simp [numAt, hn]
theorem sum_bound {zs : List Int} {b : Int} (h : ∀ z ∈ zs, -b ≤ z ∧ z ≤ b) : -(b * zs.length) ≤ zs.sum ∧ zs.sum ≤ b * zs.length := by
  induction zs with
  | nil => simp
  | cons z r ih =>
    have h1 := h z (.head _)
    have h2 := ih fun y hy => h y (.tail _ hy)
    have e : b * ((z :: r).length : Int) = b * (r.length : Int) + b := by
      rw [List.length_cons]; push_cast; rw [Int.mul_add, Int.mul_one]
    rw [e, List.sum_cons]; omega
theorem r_sum {l : Addr} {Q : Value → Shared → Prop} (hh : A.handled = none) (h : H hB oB G ob s) (pk : Pick l (lst (zs.map .int)) ob rest) (hz : ∀ z ∈ zs, -100000 ≤ z ∧ z ≤ 100000) (hl : zs.length ≤ 1000)
    (k : ∀ t s', H hB oB G ob s' → Q (.int zs.sum t) s') : wpAny (model prog w) A (call (.builtin "sum") [.ref l]) Q E s := by
  obtain ⟨o, ho, hL⟩ := h.get pk
  obtain ⟨vs, hL, ha⟩ := lst_isList ho hL
  obtain ⟨xs, e1, e2⟩ := ha.items
  have e1' : vs.toArray = intItems xs.toArray := by rw [e1]; simp [intItems]
  rw [e1'] at hL
  have hlen : xs.length = zs.length := by rw [← e2]; simp
  refine sum_intList hh hL (fun j hj => ?_) fun h' tk t' hk => ?_
  · have hj' : j < xs.length := by simpa using hj
    have hj2 : j < zs.length := by omega
    constructor
    · have : numAt xs.toArray j = zs[j] := by
        simp only [← e2]; simp [numAt, hj']
      rw [this]
      have := hz zs[j] (List.getElem_mem hj2)
      unfold InLong; omega
    · rw [preSum_eq xs (j + 1) hj', e2]
      have := sum_bound (b := 100000) (zs := zs.take (j + 1)) fun z hz' => hz z (List.mem_of_mem_take hz')
      rw [List.length_take] at this
      unfold InLong; omega
  · have e3 : preSum (numAt xs.toArray) xs.toArray.size = zs.sum := by
      rw [List.size_toArray, preSum_eq xs xs.length (Nat.le_refl _), e2, hlen, List.take_length]
    rw [e3]
    exact k t' _ (h.of hk)
/-- insertion sort -/
noncomputable def insS (x : Int) : List Int → List Int
  | [] => [x]
  | y :: r => if x ≤ y then x :: y :: r else y :: insS x r
noncomputable def isort : List Int → List Int
  | [] => []
  | x :: r => insS x (isort r)
theorem insS_perm (x : Int) : ∀ l, (insS x l).Perm (x :: l)
  | [] => List.Perm.refl _
  | y :: r => by
    unfold insS
    split
    · exact List.Perm.refl _
    · exact (List.Perm.cons _ (insS_perm x r)).trans (List.Perm.swap _ _ _)
theorem isort_perm : ∀ l, (isort l).Perm l
  | [] => List.Perm.refl _
  | x :: r => (insS_perm x _).trans (List.Perm.cons _ (isort_perm r))
theorem insS_sorted (x : Int) : ∀ l, l.Pairwise (· ≤ ·) → (insS x l).Pairwise (· ≤ ·)
  | [], _ => List.pairwise_singleton _ _
  | y :: r, h => by
    have h2 := List.pairwise_cons.mp h
    unfold insS
    split
    · rename_i q
      exact List.pairwise_cons.mpr ⟨fun z hz => by
        rcases List.mem_cons.mp hz with rfl | hz
        · exact q
        · exact Int.le_trans q (h2.1 z hz), h⟩
    · rename_i q
      refine List.pairwise_cons.mpr ⟨fun z hz => ?_, insS_sorted x r h2.2⟩
      rcases List.mem_cons.mp ((insS_perm x r).mem_iff.mp hz) with rfl | hz
      · omega
      · exact h2.1 z hz
theorem isort_sorted : ∀ l, (isort l).Pairwise (· ≤ ·)
  | [] => List.Pairwise.nil
  | x :: r => insS_sorted x _ (isort_sorted r)
theorem sorted_unique : ∀ {a b : List Int}, a.Perm b → a.Pairwise (· ≤ ·) → b.Pairwise (· ≤ ·) → a = b
  | [], b, p, _, _ => by
    cases b with
    | nil => rfl
    | cons y r => exact absurd p.length_eq (by simp)
  | x :: a, b, p, ha, hb => by
    cases b with
    | nil => exact absurd p.length_eq (by simp)
    | cons y b =>
      have h1 := List.pairwise_cons.mp ha
      have h2 := List.pairwise_cons.mp hb
      have e : x = y := by
        have m1 : x ∈ y :: b := p.mem_iff.mp (.head _)
        have m2 : y ∈ x :: a := p.mem_iff.mpr (.head _)
        rcases List.mem_cons.mp m1 with q | m1
        · exact q
        · rcases List.mem_cons.mp m2 with q | m2
          · exact q.symm
          · exact Int.le_antisymm (h1.1 y m2) (h2.1 x m1)
      subst e
      rw [sorted_unique ((List.perm_cons _).mp p) h1.2 h2.2]
theorem isort_eq {a b : List Int} (p : a.Perm b) (h : a.Pairwise (· ≤ ·)) : a = isort b := sorted_unique (p.trans (isort_perm b).symm) h (isort_sorted b)
theorem r_sorted {l : Addr} {Q : Value → Shared → Prop} (h : H hB oB G ob s) (pk : Pick l (lst (zs.map .int)) ob rest) (hl : zs.length < 64)
    (k : ∀ a s', H hB oB G ((a, lst ((isort zs).map .int)) :: ob) s' → Q (.ref a) s') : wpAny (model prog w) A (call (.builtin "sorted") [.ref l]) Q E s := by
  obtain ⟨o, ho, hL⟩ := h.get pk
  obtain ⟨vs, hL, ha⟩ := lst_isList ho hL
  have e0 := ha.length
  rw [List.length_map] at e0
  refine sorted_ints hL ha.ints (by omega) fun out ns' h1 h2 h3 => k _ _ ?_
  obtain ⟨e, he⟩ := sortedAll_at s.heap vs out
  rw [← isort_eq h2 h3]
  exact h.add (fun b o hb => sortedAll_old hb) (fresh_ge _ (Nat.le_succ _)) he ⟨out.toList, e, by simp, ints_ares h1⟩

/-- all objects but one -/
noncomputable def allBut (h : Heap) (L : Addr) : List (Addr × Obj) := (List.range h.objs.size).filterMap fun a => if a = L then none else (h.get? a).map fun o => (a, o)
theorem allBut_mem {h : Heap} {L : Addr} {a : Addr} {o : Obj} : (a, o) ∈ allBut h L ↔ a ≠ L ∧ h.get? a = some o := by
  unfold allBut
  rw [List.mem_filterMap]
  constructor
  · rintro ⟨b, hb, e⟩
    split at e
    · cases e
    · rename_i hne
      obtain ⟨o', e1, e2⟩ := Option.map_eq_some_iff.mp e
      cases e2
      exact ⟨hne, e1⟩
  · rintro ⟨hne, e⟩
    exact ⟨a, List.mem_range.mpr (Heap.lt_size e), by rw [if_neg hne, e]; rfl⟩
noncomputable def noHeap : Heap := { objs := #[] }
theorem noHeap_get (a : Addr) : noHeap.get? a = none := by unfold noHeap Heap.get?; simp
theorem toFr {h : Heap} {m : Str → Option Value} (hn : h.Ns L m) : Fr noHeap L h m ∧ News noHeap L h (allBut h L) := by
  refine ⟨⟨hn, fun b o e => absurd (noHeap_get b) (by rw [e]; exact fun q => nomatch q), Nat.zero_le _⟩, fun p hp => ?_⟩
  obtain ⟨a, o⟩ := p
  have := allBut_mem.mp hp
  exact ⟨this.2, this.1, noHeap_get _⟩
theorem H.frame {s' : Shared} {m : Str → Option Value} (h : H hB oB G ((L, nsp locs lo) :: rest) s) (hm : ∀ x v, (x, some v) ∈ lo → ∃ t, m x = some (v.v t)) (hn : s'.heap.Ns L m) (hk : ∀ b o, b ≠ L → s.heap.get? b = some o → s'.heap.get? b = some o)
    (hg : s'.gens = s.gens := by rfl) (ho : s'.os = s.os := by rfl) : H hB oB G ((L, nsp locs lo) :: rest) s' := by
  obtain ⟨o0, _, hl, hnd, _⟩ := h.get .here
  obtain ⟨o, es, ep, e1, e2, e3, e4⟩ := hn
  exact h.upd .here hk e1 ⟨hl, hnd, es, ep, e2, e3, fun x v hx => by rw [e4]; exact hm x v hx⟩ hg ho
/-- sorted(l, key=f), f a function that is walked on its own -/
theorem r_sortedKey {l f : Addr} {g : Int → Int} {Q : Value → Shared → Prop} (h : H hB oB G ((L, nsp locs lo) :: rest) s) {rest2 : Ledger} (pk : Pick l (lst (zs.map .int)) rest rest2) (hl : zs.length < 64)
    (turn : ∀ (z : Int) (t : Tok) (s₁ : Shared) (Q' : Value → Shared → Prop) (E' : Value → Shared → Prop), z ∈ zs → H hB oB G ((L, nsp locs lo) :: rest) s₁ →
      (∀ t' h' tk, (∀ b o, s₁.heap.get? b = some o → h'.get? b = some o) → Q' (.int (g z) t') { s₁ with heap := h', toks := tk }) → wpAny (model prog w) A.in1.in1 (call (.ref f) [.int z t]) Q' E' s₁)
    (k : ∀ a s' (ys : List Int), ys.Perm zs → ys.Pairwise (fun x y => g x ≤ g y) → H hB oB G ((a, lst (ys.map .int)) :: (L, nsp locs lo) :: rest) s' → Q (.ref a) s') :
    wpAny (model prog w) A (call (.builtin "sorted") [.ref l] [(Str.ofString "key", .ref f)]) Q E s := by
  obtain ⟨oL, hoL, hnL⟩ := h.get .here
  obtain ⟨m, hm, hv⟩ := nsp_ns hnL hoL
  obtain ⟨o, ho, hLl⟩ := h.get (.there pk)
  obtain ⟨vs, hL, ha⟩ := lst_isList ho hLl
  have e0 := ha.length
  rw [List.length_map] at e0
  obtain ⟨F, N⟩ := toFr hm
  have back : ∀ h' tk own, Fr noHeap L h' m → News noHeap L h' (allBut s.heap L ++ own) → H hB oB G ((L, nsp locs lo) :: rest) { s with heap := h', toks := tk } := fun h' tk own F' N' =>
    h.frame (s' := { s with heap := h', toks := tk }) hv F'.ns fun b o hb e => (N' (b, o) (List.mem_append_left _ (allBut_mem.mpr ⟨hb, e⟩))).1
  refine ksk_letter (b := false) (f := .ref f) g F N hL ha.ints hl (ksk_s1 _ _) (fun x => ksk_l1 _ _) (fun x => ksk_t1 f x) (fun n t h₁ tk own hn F' N' => ?_) fun D vs' ns' c h' tk F' N' hlt hI hlen hp ho' _ => ?_
  · refine turn n t _ _ _ hn (back h₁ tk own F' N') fun t' h' tk' hk => ?_
    exact KskEnd.intro (news' := allBut s.heap L ++ own) ⟨F'.ns.keeps hk, fun b o e => hk b o (F'.keep b o e), F'.above⟩ (fun p hp => ⟨hk _ _ (N' p hp).1, (N' p hp).2⟩) fun p hp => hp
  · have hD : s.heap.get? D = none := by
      cases q : s.heap.get? D with
      | none => rfl
      | some o' =>
        by_cases e : D = L
        · exact absurd e (N' _ (.head _)).2.1
        · exact absurd (hlt _ (allBut_mem.mpr ⟨e, q⟩)) (Nat.lt_irrefl _)
    have h2 := back h' tk [] F' (by rw [List.append_nil]; exact fun p hp => N' p (.tail _ hp))
    refine k D _ ns' hp (ho'.imp fun hab => by simpa using hab) ?_
    refine h2.addNew (h.fresh hD) (N' _ (.head _)).1 ⟨vs', c, rfl, ints_ares hI⟩
end

end Mine
namespace Mine
open PySem PySem.Calls PyProof.Rows PySem.W
theorem codeAmong_other {pos pos' : Pos} {c : Value} (hne : ((pos.line : Int) == pos'.line && (pos.col : Int) == pos'.col) = false) (l : List Value) (h : TriplesOk l) :
    codeAmong pos' (l ++ [rawInt pos.line, rawInt pos.col, c]) = codeAmong pos' l := by
  fun_induction TriplesOk l with
  | case1 => exact if_neg (fun q => by rw [hne] at q; cases q)
  | case2 a t b u x rest ih =>
    show ite _ _ (codeAmong pos' (rest ++ _)) = ite _ _ (codeAmong pos' rest)
    rw [ih h]
  | case3 l h1 h2 => exact h.elim
theorem codeAmong_pos {p q : Pos} (e1 : p.line = q.line) (e2 : p.col = q.col) (l : List Value) (h : TriplesOk l) : codeAmong p l = codeAmong q l := by
  fun_induction TriplesOk l with
  | case1 => rfl
  | case2 a t b u x rest ih =>
    show (if (a == (p.line : Int) && b == (p.col : Int)) = true then some x else codeAmong p rest) = (if (a == (q.line : Int) && b == (q.col : Int)) = true then some x else codeAmong q rest)
    rw [e1, e2, ih h]
  | case3 l h1 h2 => exact h.elim
/-- the table of codes made in a text: at these places, these -/
noncomputable def tabP (ks : List (Pos × Option Addr)) : OP := fun o => ∃ ps, o = tabObj ps ∧ TriplesOk ps.toList ∧ ∀ q ∈ ks, codeAmong q.1 ps.toList = q.2.map Value.ref
noncomputable def codP (qual : Str) : OP := fun o => ∃ vs t, o.data = .fields vs ∧ vs[1]? = some (.str qual t)
/-- a lambda's function -/
noncomputable def lamP (qual : Str) (params : Arguments) (body : Expr) (scope : Scope) (clos : List (Str × Addr)) (c : Addr) : OP := fun o => ∃ pm ctv, o = kla_obj "<lambda>" qual params body scope clos pm c ctv
structure LamBase (hB : Heap) (c P : Addr) : Prop where
  ex : ∃ mg, hB.Ns mainGlobals mg ∧ hB.BuiltinsAt mg P
  hd : CodeHd hB c P
section
variable {prog : Program} {w : World} {A : Around} {E : Value → Shared → Prop} {s : Shared} {hB : Heap} {oB : OsState} {G : Array GenState} {ob rest : Ledger} {env : Env} {L : Addr} {locs gs : List Str} {cl : List (Str × Addr)}
theorem BuiltinsAt.keeps {h h' : Heap} {mg : Str → Option Value} {P : Addr} (x : h.BuiltinsAt mg P) (k : ∀ b o, h.get? b = some o → h'.get? b = some o) : h'.BuiltinsAt mg P :=
  let ⟨bm, o, a1, a2, a3, a4, a5, r⟩ := x; ⟨bm, o, a1, a2, a3, a4, k _ _ a5, r⟩
/-- a lambda's own code is not yet made -/
theorem r_lamMiss {params : Arguments} {body : Expr} {sc : Scope} {pos : Pos} {c P : Addr} {ks : List (Pos × Option Addr)} {Q : Value → Shared → Prop} (he : Ev env L locs cl gs) (B : LamBase hB c P) (hcode : env.code = .ref c) (hf : fclOk cl sc.names = true) (hdef : defaultsOf params env = ([], []))
    (h : H hB oB G ob s) (pk : Pick P (tabP ks) ob rest) (hk : (pos, none) ∈ ks)
    (k : ∀ f c' s', H hB oB G ((f, lamP (env.qual ++ "<lambda>") params body sc (fcl cl sc.names) c') :: (c', codP (env.qual ++ "<lambda>")) :: (P, tabP (ks.map fun q => if q.1.line = pos.line ∧ q.1.col = pos.col then (q.1, some c') else q)) :: rest) s' → Q (.ref f) s') :
    wpAny (model prog w) A (eval (.Lambda params body sc pos) env) Q E s := by
  obtain ⟨mg, hmg, hb⟩ := B.ex
  obtain ⟨o, ho, ps, rfl, ht, hks⟩ := h.get pk
  have hnf : codeAmong pos ps.toList = none := hks _ hk
  have hP0 := (h.pick pk).new (P, tabP ks) (.head _)
  have hgP : mainGlobals ≠ P := fun q => by
    obtain ⟨o, es, ep, e, _⟩ := hmg
    rw [q, hP0] at e; cases e
  refine kla_eval hdef (kla_makeFunction (mg := mg) (closureFor_fcl he hf) he.gl (hmg.keeps h.keep) hcode (B.hd.keeps h.keep) ho ht hnf hgP (BuiltinsAt.keeps hb h.keep) fun c' ctv h' tk hx hge hlt hrec htb => ?_)
  obtain ⟨c₂, oc, vs, t, e2, hoc, hd, hv⟩ := hrec
  cases e2
  have hc0 : s.heap.get? c' = none := fresh_ge _ hge
  have hPc : P ≠ c' := fun q => by rw [q, hc0] at ho; cases ho
  have h1 : H hB oB G ((P, tabP (ks.map fun q => if q.1.line = pos.line ∧ q.1.col = pos.col then (q.1, some c') else q)) :: rest) { s with heap := h', toks := tk } := by
    refine h.upd (s' := { s with heap := h', toks := tk }) pk (fun b o hb e => hx b o hb e) htb ⟨_, rfl, ?_, fun q hq => ?_⟩
    · simp only [Array.toList_append]
      exact TriplesOk_snoc _ _ _ _ ht
    · obtain ⟨q0, hq0, rfl⟩ := List.mem_map.mp hq
      simp only [Array.toList_append]
      by_cases e : q0.1.line = pos.line ∧ q0.1.col = pos.col
      · rw [if_pos e]
        have e3 : codeAmong q0.1 ps.toList = none := (codeAmong_pos e.1 e.2 _ ht).trans hnf
        have := codeAmong_snoc (pos := q0.1) (c := .ref c') ps.toList ht e3
        rw [e.1, e.2] at this
        exact this
      · rw [if_neg e]
        have hne : ((pos.line : Int) == q0.1.line && (pos.col : Int) == q0.1.col) = false := by
          cases q : ((pos.line : Int) == q0.1.line && (pos.col : Int) == q0.1.col) with
          | false => rfl
          | true =>
            rw [Bool.and_eq_true, beq_iff_eq, beq_iff_eq] at q
            exact absurd ⟨by omega, by omega⟩ e
        have := codeAmong_other (pos := pos) (pos' := q0.1) (c := .ref c') hne ps.toList ht
        exact this.trans (hks q0 hq0)
  have f1 := (h.pick pk).fresh hc0
  have h2 : H hB oB G ((c', codP (env.qual ++ "<lambda>")) :: (P, tabP (ks.map fun q => if q.1.line = pos.line ∧ q.1.col = pos.col then (q.1, some c') else q)) :: rest) { s with heap := h', toks := tk } :=
    h1.addNew ⟨f1.1, fun p hp => by
      rcases List.mem_cons.mp hp with rfl | hp
      · exact hPc
      · exact f1.2 p (.tail _ hp)⟩ hoc ⟨vs, t, hd, hv⟩
  exact k h'.objs.size c' _ (h2.push (o := kla_obj "<lambda>" (env.qual ++ "<lambda>") params body sc (fcl cl sc.names) ((mg "__name__").getD .none) c' ctv) rfl ⟨_, _, rfl⟩ rfl)
/-- a lambda's code is there -/
theorem r_lamHit {params : Arguments} {body : Expr} {sc : Scope} {pos : Pos} {c P c' : Addr} {ks : List (Pos × Option Addr)} {Q : Value → Shared → Prop} (he : Ev env L locs cl gs) (B : LamBase hB c P) (hcode : env.code = .ref c) (hf : fclOk cl sc.names = true) (hdef : defaultsOf params env = ([], []))
    (h : H hB oB G ob s) (pk : Pick P (tabP ks) ob rest) (hk : (pos, some c') ∈ ks)
    (k : ∀ f s', H hB oB G ((f, lamP (env.qual ++ "<lambda>") params body sc (fcl cl sc.names) c') :: ob) s' → Q (.ref f) s') :
    wpAny (model prog w) A (eval (.Lambda params body sc pos) env) Q E s := by
  obtain ⟨mg, hmg, hb⟩ := B.ex
  obtain ⟨o, ho, ps, rfl, ht, hks⟩ := h.get pk
  have hnf : codeAmong pos ps.toList = some (.ref c') := hks _ hk
  refine kla_eval hdef (kla_makeFunctionHit (mg := mg) (closureFor_fcl he hf) he.gl (hmg.keeps h.keep) hcode (B.hd.keeps h.keep) ho ht hnf (BuiltinsAt.keeps hb h.keep) fun ctv h' tk hx hge => ?_)
  have h1 : H hB oB G ob { s with heap := h', toks := tk } := h.of (s' := { s with heap := h', toks := tk }) hx
  exact k h'.objs.size _ (h1.push (o := kla_obj "<lambda>" (env.qual ++ "<lambda>") params body sc (fcl cl sc.names) ((mg "__name__").getD .none) c' ctv) rfl ⟨_, _, rfl⟩ rfl)
/-- what a lambda's table says -/
noncomputable def scOkL (sc : Scope) (locs : List Str) (cl : List (Str × Addr)) (gs : List Str) : Bool :=
  sc.kind == .function && !sc.isCoroutine && !sc.isGenerator && sc.names.all (fun p => p.2 != .cell) && locs.all (fun x => sc.names.lookup x == some .local && !(x == ("__debug__" : Str))) &&
  gs.all (fun x => sc.names.lookup x == some .globalImplicit && !(x == ("__debug__" : Str))) && decide locs.Nodup && cl.all (fun p => sc.names.lookup p.1 == some .free && !(p.1 == ("__debug__" : Str)) && !(p.1 == ("__classdict__" : Str))) && decide (cl.map (·.1)).Nodup
theorem scOkL_keys {sc : Scope} {locs : List Str} {cl cl' : List (Str × Addr)} {gs : List Str} (e : cl.map (·.1) = cl'.map (·.1)) (h : scOkL sc locs cl gs = true) : scOkL sc locs cl' gs = true := by
  have key : ∀ l : List (Str × Addr), l.all (fun p => sc.names.lookup p.1 == some .free && !(p.1 == ("__debug__" : Str)) && !(p.1 == ("__classdict__" : Str))) =
      (l.map (·.1)).all (fun x => sc.names.lookup x == some .free && !(x == ("__debug__" : Str)) && !(x == ("__classdict__" : Str))) := fun l => by simp [List.all_map, Function.comp_def]
  unfold scOkL at h ⊢
  rw [key, ← e, ← key]
  exact h
/-- the call of a lambda -/
theorem r_lamCall {n : Nat} {f c : Addr} {qual : Str} {params : Arguments} {body : Expr} {sc : Scope} {clos : List (Str × Addr)} {vals : List Value} {Q : Value → Shared → Prop} (lim : hB.NoLimit) (ps : Ps) (locs gs : List Str) (lo : Lo) (hsc : scOkL sc locs clos gs = true)
    (hbind : ∀ pm cdv ctv, bindArgs (kla_fn "<lambda>" qual params body sc clos pm cdv ctv) ⟨vals, []⟩ = pure ps.binds) (rm : Rm (n + 1) A) (h : H hB oB G ob s) (mf : (f, lamP qual params body sc clos c) ∈ ob) (mc : (c, codP qual) ∈ ob)
    (k : ∀ L env A' E' s', Rm n A' → Ev env L locs clos gs → H hB oB G ((L, nsp locs lo) :: ob) s' → wpAny (model prog w) A' (eval body env) Q E' s')
    (e1 : ps.locs [] = locs := by rfl) (e2 : ps.lo [] = lo := by rfl) :
    wpAny (model prog w) A (call (.ref f) vals) Q E s := by
  subst e1 e2
  obtain ⟨of, hof, pm, ctv, rfl⟩ := h.getM mf
  obtain ⟨oc, hoc, vs, t, hd, hv⟩ := h.getM mc
  have hsc' := hsc
  simp only [scOkL, Bool.and_eq_true, List.all_eq_true, Bool.not_eq_true', beq_iff_eq, decide_eq_true_eq, bne_iff_ne] at hsc'
  obtain ⟨⟨⟨⟨⟨⟨⟨⟨h1, h2⟩, h3⟩, h4⟩, h5⟩, h6⟩, h7⟩, h8⟩, h9⟩ := hsc'
  refine wpAny_call (kla_callFunE rm.lt hof rfl h2 h3 rfl ⟨c, oc, vs, t, rfl, hoc, hd, hv⟩ ?_)
  refine wpAny_of_eq (hbind _ _ _) ?_
  refine wpAny_newFunctionEnv (fun x hx => h4 x hx) (fun x hx => ?_) (fun h₀ hns hsb => ⟨(lim.keeps h.keep).fresh _ hsb, ?_⟩) h1
  · obtain ⟨p, hp, rfl⟩ := List.mem_map.mp hx
    exact (h5 p.1 (List.mem_append_left _ (List.mem_map.mpr ⟨p, hp, rfl⟩))).1
  · have hk : ∀ b o, s.heap.get? b = some o → h₀.get? b = some o := fun b o e => hsb.extBut b o (Nat.ne_of_lt (Heap.lt_size e)) (Heap.get?_push_of_some _ e)
    obtain ⟨o, es, ep, e1, e2, e3, e4⟩ := hns
    have hL : H hB oB G ((s.heap.objs.size, nsp (ps.locs []) (ps.lo [])) :: ob) { s with heap := h₀, toks := s.toks + ps.binds.length } :=
      h.add (a := s.heap.objs.size) (o := o) hk (fresh_at _) e1 ⟨ps.keys [], h7, es, ep, e2, e3, fun x v hm => by rw [e4]; exact ps.look h7 hm⟩
    refine kla_codeExpr (k s.heap.objs.size _ _ _ _ rm.deeper ⟨h1, rfl, rfl, rfl, fun x hx => h5 x hx, fun p hp => ⟨.inr (h8 p hp).1.1, ?_, (h8 p hp).1.2, (h8 p hp).2⟩, fun x hx => h6 x hx, int_of_kind h1⟩ hL)
    exact lookup_of_mem h9 hp
end

end Mine
namespace Mine
open PySem PySem.Calls PyProof.Rows PySem.W
theorem pickL_len {α : Type} (xs : List α) (lo hi st : Option Int) : (pickL xs lo hi st).length ≤ xs.length := by
  unfold pickL
  refine Nat.le_trans (List.length_filterMap_le _ _) (sliceRange_length_le _ _ _ _ (fun hc => ?_) fun hc => ?_)
  · simp only [sliceBounds] at hc ⊢
    simp only [hc, if_true]
    constructor
    · cases lo with
      | none => simp
      | some i => dsimp only; omega
    · cases hi with
      | none => simp
      | some i => dsimp only; omega
  · simp only [sliceBounds] at hc ⊢
    simp only [hc, if_false]
    constructor
    · cases lo with
      | none => simp
      | some i => dsimp only; omega
    · cases hi with
      | none => simp
      | some i => dsimp only; omega
theorem pickL_map {α β : Type} (f : α → β) (xs : List α) (lo hi st : Option Int) : pickL (xs.map f) lo hi st = (pickL xs lo hi st).map f := by
  unfold pickL
  rw [List.length_map, List.map_filterMap]
  congr 1
  funext i
  simp
theorem fm_rev {α : Type} (xs : List α) : ∀ n, n ≤ xs.length → (List.range n).filterMap (fun k => xs[(xs.length - 1 - k)]?) = (xs.drop (xs.length - n)).reverse := by
  intro n
  induction n with
  | zero => intro _; simp
  | succ n ih =>
    intro h
    rw [List.range_succ, List.filterMap_append, ih (Nat.le_of_succ_le h)]
    have e : xs.length - (n + 1) = xs.length - 1 - n := by rw [Nat.add_comm, Nat.sub_add_eq]
    have hi : xs.length - 1 - n < xs.length := e ▸ Nat.sub_lt (Nat.lt_of_lt_of_le (Nat.succ_pos n) h) (Nat.succ_pos n)
    have e2 : xs.drop (xs.length - (n + 1)) = xs[xs.length - 1 - n] :: xs.drop (xs.length - n) := by
      rw [e, List.drop_eq_getElem_cons hi]
      congr 2
      rw [← e]
      exact Nat.sub_add_cancel (Nat.sub_pos_of_lt h)
    rw [e2, List.reverse_cons]
    simp [hi]
theorem pickL_rev {α : Type} (xs : List α) : pickL xs none none (some (-1)) = xs.reverse := by
  have hb : sliceBounds none none (some (-1)) xs.length = ((xs.length : Int) - 1, -1, -1) := by rfl
  unfold pickL
  rw [hb]
  have hr : sliceRange ((xs.length : Int) - 1) (-1) (-1) = (List.range xs.length).map (fun k => xs.length - 1 - k) := by
    unfold sliceRange
    have : (if (-1 : Int) > 0 then (if ((xs.length : Int) - 1) < -1 then (-1 - ((xs.length : Int) - 1) + -1 - 1) / -1 else 0) else (if ((xs.length : Int) - 1) > -1 then (((xs.length : Int) - 1) - -1 - -1 - 1) / (- -1) else 0)).toNat = xs.length := by
      rw [if_neg (by decide)]
      split
      · rw [show (- -1 : Int) = 1 by decide, Int.ediv_one]; omega
      · omega
    dsimp only
    rw [this]
    refine List.map_congr_left fun k hk => ?_
    rw [show (xs.length : Int) - 1 + -1 * (k : Int) = (xs.length : Int) - ((1 + k : Nat) : Int) by omega, Int.toNat_sub, Nat.sub_add_eq]
  dsimp only
  rw [hr, List.filterMap_map]
  have := fm_rev xs xs.length (Nat.le_refl _)
  rw [Nat.sub_self, List.drop_zero] at this
  exact this
section
variable {prog : Program} {w : World} {A : Around} {E : Value → Shared → Prop} {s : Shared} {hB : Heap} {oB : OsState} {G : Array GenState} {ob rest : Ledger} {env : Env} {L : Addr} {locs gs : List Str} {cl : List (Str × Addr)} {xs : List AV}
theorem r_listCopy {l : Addr} {Q : Value → Shared → Prop} (h : H hB oB G ob s) (pk : Pick l (lst xs) ob rest) (hz : xs.length ≤ 1000) (k : ∀ a s', H hB oB G ((a, lst xs) :: ob) s' → Q (.ref a) s') : wpAny (model prog w) A (call (.type "list") [.ref l]) Q E s := by
  obtain ⟨o, ho, vs, n, rfl, ha⟩ := h.get pk
  refine call_list_seq (hsz := szB ha (le_size (by omega))) l (.inl rfl) ho rfl rfl fun h' c' hk hD => k _ _ ?_
  exact h.add hk (fresh_at _) hD ⟨vs, c', rfl, ha⟩
theorem Ares.strs {ts : List Str} : ∀ {vs : List Value}, Ares (ts.map .str) vs → StrsAre vs ts := by
  induction ts with
  | nil => intro vs h; cases h; exact .nil
  | cons t r ih =>
    intro vs h
    cases h with
    | cons u h => exact .cons t u (ih h)
theorem r_inStrs {l : Addr} {ts : List Str} {x : Str} {u : Tok} {Q : Value → Shared → Prop} (h : H hB oB G ob s) (pk : Pick l (tup (ts.map .str)) ob rest) (k : Q (.bool (ts.any (· == x))) s) : wpAny (model prog w) A (compareOp .In (.str x u) (.ref l)) Q E s := by
  obtain ⟨o, ho, hl⟩ := h.get pk
  obtain ⟨vs, hL, ha⟩ := tup_isTup ho hl
  exact in_tuple_strs hL ha.strs k
theorem r_boolIsNot {a b : Bool} {Q : Value → Shared → Prop} (k : Q (.bool (a != b)) s) : wpAny (model prog w) A (compareOp .IsNot (.bool a) (.bool b)) Q E s := by
  refine r_isNotPlain (show plainIs (.bool a) (.bool b) = true from rfl) ?_
  have e : (!((Value.bool a : Value) == .bool b)) = (a != b) := by cases a <;> cases b <;> rfl
  rw [e]; exact k
theorem r_assignCell {x : Str} {e : Expr} {pos' pos : Pos} {Q : Flow → Shared → Prop} (hk : env.kindOf x = some .cell) (h : wpAny (model prog w) A (eval e env) (fun v s₁ => wpAny (model prog w) A (storeName env x v) (fun _ => Q .next) E s₁) E s) :
    wpAny (model prog w) A (exec (.Assign [.Name x pos'] e pos) env) Q E s := r_assign h (swapsCell hk e)
/-- a for loop whose state x holds the generators too -/
theorem r_forLoopX {σ : Type} {tgt : Expr} {body : List Stmt} {I : Addr} {Le : Nat → Ledger} {fin : Ledger} {n : Nat} {Pt : Nat → Lo → Lo → Prop} {Q : Flow → Shared → Prop} {Ex : Value → Shared → Prop}
    (he : Ev env L locs cl gs) (it : ItrT prog w hB oB tgt I Le fin n Pt) (hh : A.handled = none) (Inv : Nat → σ → Prop) (lo lo' : Nat → σ → Lo) (J : Nat → σ → Ledger) (Gs : σ → Array GenState) (x0 : σ) (h0 : Inv 0 x0)
    (h : H hB oB (Gs x0) (Le 0 ++ (L, nsp locs (lo 0 x0)) :: J 0 x0) s) (hput : ∀ i x, i < n → Pt i (lo i x) (lo' i x))
    (hbody : ∀ i x, i < n → Inv i x → ∀ E' s', H hB oB (Gs x) ((L, nsp locs (lo' i x)) :: (Le (i + 1) ++ J i x)) s' →
      wpAny (model prog w) A (execs body env) (TurnEnd Q fun s'' => ∃ y, Inv (i + 1) y ∧ H hB oB (Gs y) (Le (i + 1) ++ (L, nsp locs (lo (i + 1) y)) :: J (i + 1) y) s'') E' s')
    (hend : ∀ x, Inv n x → ∀ s', H hB oB (Gs x) (fin ++ (L, nsp locs (lo n x)) :: J n x) s' → Q .next s') :
    codeAny (model prog w) A (.forLoop tgt (.ref I) body [] env) (fun r s' => match r with | .ok f => Q f s' | .error e => Ex e s') s := by
  refine codeAny_forLoop_any (fun k s' => ∃ i x, i ≤ n ∧ k = n - i ∧ Inv i x ∧ H hB oB (Gs x) (Le i ++ (L, nsp locs (lo i x)) :: J i x) s') ?_ n ⟨0, x0, Nat.zero_le _, rfl, h0, h⟩
  rintro k s' ⟨i, x, hi, rfl, hI, h'⟩
  by_cases hlt : i < n
  · refine wpAny_mono (it.item i hlt _ _ _ _ env L locs gs cl (lo i x) (lo' i x) (fun _ s₁ => wpAny (model prog w) A (execs body env) (TurnEnd Q fun s'' => ∃ y, Inv (i + 1) y ∧ H hB oB (Gs y) (Le (i + 1) ++ (L, nsp locs (lo (i + 1) y)) :: J (i + 1) y) s'')
      (notedBy (model prog w) A env Ex) s₁) _ hh he (hput i x hlt) h' (fun s₁ h₁ => hbody i x hlt hI _ s₁ h₁)) (fun r s₁ k => ?_) fun _ _ e => e
    obtain ⟨v, rfl, k⟩ := k
    refine wpAny_mono k (fun _ s₂ k => ?_) fun _ _ e => e
    refine wpAny_mono k (fun _ s₃ k => ?_) fun _ _ e => e
    refine wpAny_mono k (fun f s₄ k => ?_) fun _ _ e => e
    cases f with
    | next => obtain ⟨y, k1, k2⟩ := k; exact ⟨n - (i + 1), by omega, i + 1, y, hlt, rfl, k1, k2⟩
    | cont => obtain ⟨y, k1, k2⟩ := k; exact ⟨n - (i + 1), by omega, i + 1, y, hlt, rfl, k1, k2⟩
    | brk => exact k
    | ret v => exact k
  · have : i = n := by omega
    subst this
    exact it.done _ _ _ _ _ _ hh h' fun s₁ h₁ => wpAny_execs_nil (hend x hI s₁ h₁)
/-- a for loop whose target is a cell -/
theorem r_forLoopC {x : Str} {px : Pos} {body : List Stmt} {I cc : Addr} {Le : Nat → Ledger} {fin : Ledger} {n : Nat} {val : Nat → AV} {Q : Flow → Shared → Prop} {Ex : Value → Shared → Prop}
    (he : Ev env L locs cl gs) (it : Itr prog w hB oB I Le fin n val) (hh : A.handled = none) (hc : (x, cc) ∈ cl) (hk : env.kindOf x = some .cell) (J : Ledger)
    (h : H hB oB G (Le 0 ++ (cc, celp none) :: J) s)
    (hbody : ∀ i, i < n → ∀ E' s', H hB oB G ((cc, celp (some (val i))) :: (Le (i + 1) ++ J)) s' →
      wpAny (model prog w) A (execs body env) (TurnEnd Q fun s'' => H hB oB G ((cc, celp none) :: (Le (i + 1) ++ J)) s'') E' s')
    (hend : ∀ s', H hB oB G (fin ++ (cc, celp none) :: J) s' → Q .next s') :
    codeAny (model prog w) A (.forLoop (.Name x px) (.ref I) body [] env) (fun r s' => match r with | .ok f => Q f s' | .error e => Ex e s') s := by
  refine codeAny_forLoop (fun k s' => ∃ i, i ≤ n ∧ k = n - i ∧ H hB oB G (Le i ++ (cc, celp none) :: J) s') ?_ n ⟨0, Nat.zero_le _, rfl, h⟩
  rintro k s' ⟨i, hi, rfl, h'⟩
  by_cases hlt : i < n
  · refine it.item i hlt _ _ _ _ _ _ hh h' fun t s₁ h₁ => ?_
    refine wpAny_assign_Name (r_storeC he h₁ hc hk (pick_mid _) fun s₂ h₂ => wpAny_mono (hbody i hlt _ s₂ h₂) (fun f s₃ h₃ => ?_) fun _ _ e => e)
    cases f with
    | next => exact ⟨n - (i + 1), by omega, i + 1, hlt, rfl, h₃.perm List.perm_middle.symm⟩
    | cont => exact ⟨n - (i + 1), by omega, i + 1, hlt, rfl, h₃.perm List.perm_middle.symm⟩
    | brk => exact h₃
    | ret v => exact h₃
  · have : i = n := by omega
    subst this
    exact it.done _ _ _ _ _ _ hh h' fun s₁ h₁ => wpAny_execs_nil (hend s₁ h₁)
end

end Mine
namespace Mine
open PySem PySem.Calls PyProof.Rows PySem.W
set_option compiler.extract_closed false
local macro_rules | `(‹0›) => `(by with_reducible first | assumption | (refine' H.tick ?p; case p => exact ‹0›) | (refine' H.tk ?p; case p => exact ‹0›) | fail)
local macro_rules | `(‹1›) => `(by with_reducible first | exact Pick.here | assumption | exact Pick.app (by assumption) | (refine' Pick.there ?p; case p => exact ‹1›) | fail)
local macro_rules | `(‹2›) => `(by with_reducible first | exact List.mem_cons_self | (refine List.mem_cons_of_mem _ ?_; exact ‹2›) | fail)
local macro_rules | `(‹3›) => `(by first | assumption | decide | omega | (constructor <;> omega) | (refine le_size ?_; (try simp only [List.length_map, Str.length, List.length_append, List.length_cons, List.length_nil]); omega) | fail)
local macro_rules | `(‹4›) => `(by with_unfolding_all rfl)
local macro_rules | `(‹5›) => `(by first | assumption | decide | ((try simp only [List.length_append, List.length_cons, List.length_nil]); omega) | fail)
local macro_rules | `(‹6›) => `(Rm.units (by assumption))
local macro_rules | `(‹7›) => `(by with_reducible first | exact Put.here | (refine' Put.there ?p; case p => exact ‹7›) | fail)
local macro_rules | `(‹8›) => `(by first | rfl | assumption | (simp; done) | fail)
local macro_rules | `(‹9›) => `(by first | rfl | (congr 1 <;> first | omega | (dsimp only; omega)) | fail)
local macro_rules | `(‹10›) => `(by first | exact Forg.nil | ((with_reducible refine Forg.same ?_); exact ‹10›) | ((with_reducible refine Forg.forget ?_); exact ‹10›) | (refine Forg.val ?fv ?fr; (case fv => exact ‹9›); (case fr => exact ‹10›)) | fail)
local macro_rules | `(‹11›) => `(by first | (with_reducible exact fun _ h => h) | exact nsp_forg ‹10› | fail)
local macro_rules | `(‹12›) => `(by first | exact SubL.refl | exact SubL.nil | (refine' SubL.cons ?pk ?w ?r; (case pk => exact ‹1›); (case w => exact ‹11›); (case r => exact ‹12›)) | (refine SubL.skip ?_; exact ‹12›) | fail)
local macro_rules | `(‹13›) => `(by first | exact Ares.nil | exact Ares.cons (x := .int _) _ ‹13› | exact Ares.cons (x := .str _) _ ‹13› | exact Ares.cons (x := .ref _) 0 ‹13› | exact Ares.cons (x := .bool _) 0 ‹13› | exact Ares.cons (x := .none) 0 ‹13› | fail)
local macro_rules | `(‹14›) => `(by first | exact ‹0› | assumption | (refine' H.tick ?p; case p => exact ‹14›) | (refine' H.tk ?p; case p => exact ‹14›) | fail)
local macro_rules | `(tactic| ktu_offI) => `(tactic| (refine ⟨⟨_, _, ‹0›⟩, ?_⟩))
local macro_rules | `(tactic| kxs_still) => `(tactic| (refine ⟨_, _, _, ‹13›, le_size (Nat.le_of_ble_eq_true rfl), ‹0›, ?_⟩; intro _ _ _))
local macro_rules | `(tactic| kd_facts) => `(tactic| simp only [List.cons_append, List.nil_append, List.append_nil] at *)
local macro_rules | `(tactic| ktu_offL) => `(tactic| with_reducible refine t_local ‹0› ‹0› ‹1› ‹2› ?_)
local macro_rules | `(tactic| ktr_call () $t) => `(tactic| guard_target = wpAny _ _ $t _ _ _)
local macro_rules | `(tactic| kct_strs) => `(tactic| first
  | (ktr_call () (subscriptTail _ _ _ _); refine t_tailList ‹0› ‹1› ‹3› ‹3› ‹8› ‹4› ?_)
  | with_reducible first
  | (ktr_call () (eval _ _); first
    | (ktr_call () (eval (.Name _ _) _); first | ktu_offL | refine t_cell ‹0› ‹0› ‹2› ‹1› ?_ | refine r_glob ‹0› ‹0› ‹2› ‹0› ?_)
    | refine t_attr ‹4› ?_
    | refine t_int ?_ | refine wpAny_BinOp ?_ | refine t_str ?_ | refine r_none ?_ | refine r_bool ?_
    | refine subN ?_ | refine subC ?_ | refine subB ?_ | refine subU ?_ | refine subS ?_
    | refine t_cmp ‹4› ?_
    | (ktr_call () (eval (.Call (.Name _ _) _ _ _) _); first
      | refine t_callB ‹0› ‹0› ‹2› ‹0› (by first | exact machB _ | exact machT _) ‹4› ?_
      | refine t_callF ‹0› ‹0› ‹2› ‹0› (by first | exact FnF.isFn (by assumption) | exact FnF.isFn (FnD.fn (by assumption))) ‹4› ?_)
    | refine wpAny_IfExp ?_ | refine wpAny_UnaryOp ?_
    | refine r_tuple ‹0› ?_ | refine r_list ‹0› ?_)
  | (ktr_call () (binaryOp _ _ _); first
    | refine t_add ?_ | refine t_sub ?_
    | refine t_mul ‹3› ‹3› ?_
    | refine t_fdiv ‹3› ‹3› ?_
    | refine t_fmod ‹3› ?_
    | (refine t_catS ‹5› ?_; intro _ _)
    | (refine t_smulS ‹5› ‹3› ?_; intro _ _)
    | (refine t_cat ‹3› ?_; intro _ _)
    | (refine t_smul ‹0› ?_; intro _ _)
    | refine t_shr ‹3› ?_
    | refine t_and ?_)
  | (ktr_call () (compareOp _ _ _); first
    | refine eq_int ?_ | refine lt_int ?_ | refine ne_int ?_ | refine le_int ?_ | refine gt_int ?_ | refine ge_int ?_ | refine eq_str ?_
    | refine r_inInts ‹0› ‹1› ?_ | refine r_notInInts ‹0› ‹1› ?_
    | refine r_eqNil ‹6› ‹0› ‹1› ‹1› ?_ | refine r_eqInts ‹6› ‹0› ‹1› ‹1› ?_ | refine r_neInts ‹6› ‹0› ‹1› ‹1› ?_
    | refine r_isPlain ‹4› ?_ | refine r_isNotPlain ‹4› ?_)
  | (ktr_call () (storeName _ _ _); (first | refine r_storeI ‹0› ‹0› ‹1› ‹7› ?_ | refine r_storeS ‹0› ‹0› ‹1› ‹7› ?_ | refine r_storeB ‹0› ‹0› ‹1› ‹7› ?_ | refine r_storeR ‹0› ‹0› ‹1› ‹7› ?_ | refine r_storeN ‹0› ‹0› ‹1› ‹7› ?_); intro _ _)
  | refine t_arg ‹4› ?_ | refine r_arg0 ?_
  | refine wpAny_truthy_bool ?_ | refine truthy_int ?_
  | refine t_isCmp ‹4› ?_ | (ktr_call () (isTrue _ _ _); refine t_truth ‹4› ?_)
  | (ktr_call () (execs _ _); first
    | refine x_assign ‹4› ?_
    | refine x_assignTup ‹4› (by first | (with_unfolding_all exact swapNone rfl) | exact ‹4›) ?_
    | refine x_aug ?_ | refine x_ret ?_ | refine wpAny_execs_cons ?_ | refine wpAny_execs_nil ?_)
  | (ktr_call () (exec _ _); first
    | refine t_assign ‹4› ?_
    | refine t_assignTup ‹4› (by first | (with_unfolding_all exact swapNone rfl) | exact ‹4›) ?_
    | refine wpAny_AugAssign_Name ?_ | refine wpAny_If ?_ | refine wpAny_Return_some ?_)
  | (ktr_call () (call _ _); first
    | refine t_lenList ‹0› ‹1› ‹3› ?_
    | (refine r_range2 ‹0› ?_; intro _ _ _) | (refine r_range1 ‹0› ?_; intro _ _ _)
    | refine t_lenStr ‹3› ?_)
  | (ktr_call () (assign _ _ _); refine r_unpack2 (Rm.h (by assumption)) ‹0› ‹1› ?_; intro _ _ _ _)
  | (ktr_call () (pyIter _); first
    | (refine r_iterRange ‹0› ‹1› ‹3› ‹3› ‹3› ‹3› ?_; intro _ _ _)
    | (refine r_iterStr ‹0› ?_; intro _ _ _)
    | (refine r_iterList ‹0› ‹1› ?_; intro _ _ _))
  | refine t_iadd ?_ | refine t_isub ?_ | refine t_neg ?_)

section
noncomputable def top (i : Nat) : Stmt := nthS i PySem.Challenge.pw_rs0208_01.main.body

noncomputable def colStep (size : Int) (c : Int) (ch : Nat) : Int := if ch = 32 then c + 1 else ((c.fdiv size) + 1) * size
noncomputable def colF (size : Int) (l : List Nat) : Int := l.foldl (colStep size) 0
theorem colF_snoc (size : Int) (l : List Nat) (c : Nat) : colF size (l ++ [c]) = colStep size (colF size l) c := by simp [colF]
theorem colF_bound (size : Int) (hs : 1 ≤ size ∧ size ≤ 3) (l : List Nat) : 0 ≤ colF size l ∧ colF size l ≤ 3 * l.length := by
  suffices ∀ (l : List Nat) (c : Int), 0 ≤ c → 0 ≤ l.foldl (colStep size) c ∧ l.foldl (colStep size) c ≤ c + 3 * l.length by
    have := this l 0 (by omega); unfold colF; omega
  intro l
  induction l with
  | nil => intro c hc; simp; exact hc
  | cons a r ih =>
    intro c hc
    have hq : 0 ≤ colStep size c a ∧ colStep size c a ≤ c + 3 := by
      unfold colStep
      split
      · omega
      · have h1 := Int.fdiv_eq_ediv_of_nonneg c (show 0 ≤ size by omega)
        rw [h1, Int.add_mul, Int.one_mul]
        have h2 := Int.ediv_mul_le c (show size ≠ 0 by omega)
        have h3 : 0 ≤ c / size := Int.ediv_nonneg hc (by omega)
        have h4 : 0 ≤ c / size * size := Int.mul_nonneg h3 (by omega)
        omega
    have := ih _ hq.1
    rw [List.foldl_cons, List.length_cons]
    constructor
    · exact this.1
    · have := this.2; omega
theorem fdiv_bound {a b : Int} (ha : 0 ≤ a) (hb : 1 ≤ b) : 0 ≤ a.fdiv b ∧ a.fdiv b ≤ a := by
  rw [Int.fdiv_eq_ediv_of_nonneg a (show 0 ≤ b by omega)]
  exact ⟨Int.ediv_nonneg ha (by omega), Int.ediv_le_self b ha⟩

noncomputable abbrev FnCol (hB : Heap) (a : Addr) : Prop := FnF hB a "_law_column" "_law_column" (fnParams (top 13)) (fnBody (top 13)) (fnScope (top 13)) .none .none

section
variable {prog : Program} {w : World} {A : Around} {E : Value → Shared → Prop} {s : Shared} {hB : Heap} {oB : OsState} {G : Array GenState} {ob rest : Ledger}
set_option maxHeartbeats 400000 in
theorem sp_column {a : Addr} (f : FnCol hB a) (lim : hB.NoLimit) (rm : Rm 1 A) (h : H hB oB G ob s) {lead : Str} {size : Int} {t u : Tok} (hs : 1 ≤ size ∧ size ≤ 3) (hl : lead.cps.size ≤ 1000) {Q : Value → Shared → Prop}
    (k : ∀ t s', H hB oB G ob s' → Q (.int (colF size lead.cps.toList) t) s') : wpAny (model prog w) A (call (.ref a) [.str lead t, .int size u]) Q E s := by
  refine r_fn f lim [("lead", .str lead, t), ("size", .int size, u)] ["column", "sign"] ["lead", "size", "column", "sign"] [] [("lead", some (.str lead)), ("size", some (.int size)), ("column", none), ("sign", none)]
    (by decide +kernel) (fun _ _ _ _ _ => BindsTo.of_eq (by with_unfolding_all rfl)) rm h ?_
  clear h
  intro L env A' E' s₁ rm' he h
  refine wpAny_execs_cons ?_
  kct_strs
  kct_strs
  kct_strs
  kct_strs
  refine wpAny_For ?_
  kct_strs
  refine r_iterStr ‹14› fun I s h => ?_
  refine r_forLoop he (Itr.str I lead) rm'.h
    (fun i => [("lead", some (.str lead)), ("size", some (.int size)), ("column", some (.int (colF size (lead.cps.toList.take i)))), ("sign", none)])
    (fun i => [("lead", some (.str lead)), ("size", some (.int size)), ("column", some (.int (colF size (lead.cps.toList.take i)))), ("sign", some (sgn lead i))])
    (fun _ => ob) h (fun i _ => by exact ‹7›) (fun i hi E' s h => ?_) (fun s h => ?_)
  · have e := take_snoc lead hi
    have hb := colF_bound size hs (lead.cps.toList.take i)
    have hq := fdiv_bound hb.1 hs.1
    have hn : (lead.cps.toList.take i).length ≤ 1000 := by rw [List.length_take, Array.length_toList]; omega
    kd_facts
    repeat kct_strs
    rw [show Str.ofString " " = (⟨#[32]⟩ : Str) from by decide +kernel, sgn_eq]
    refine ite_b (fun q => ?_) (fun q => ?_)
    · repeat kct_strs
      refine H.sub ?_ ‹14›
      rw [e, colF_snoc, colStep, if_pos (of_decide_eq_true q)]
      exact ‹12›
    · repeat kct_strs
      refine H.sub ?_ ‹14›
      rw [e, colF_snoc, colStep, if_neg (of_decide_eq_false q)]
      exact ‹12›
  · rw [take_all] at h
    kd_facts
    repeat kct_strs
    exact k _ _ (h.sub (by exact ‹12›))
end

end
section

/-- the search by halves: p says «go right» -/
noncomputable def bis (p : Nat → Bool) : Nat → Nat → Nat → Nat
  | 0, lo, _ => lo
  | n + 1, lo, hi => if lo < hi then (if p ((lo + hi) / 2) then bis p n ((lo + hi) / 2 + 1) hi else bis p n lo ((lo + hi) / 2)) else lo
theorem bis_done (p : Nat → Bool) (n lo hi : Nat) (h : ¬ lo < hi) : bis p n lo hi = lo := by
  cases n with
  | zero => rfl
  | succ n => rw [bis, if_neg h]
theorem mid_lt {lo hi : Nat} (h : lo < hi) : (lo + hi) / 2 < hi := Nat.div_lt_of_lt_mul (by rw [Nat.two_mul]; exact Nat.add_lt_add_right h hi)
theorem mid_ge {lo hi : Nat} (h : lo < hi) : lo ≤ (lo + hi) / 2 := (Nat.le_div_iff_mul_le (by decide)).mpr (by rw [Nat.mul_two]; exact Nat.add_le_add_left (Nat.le_of_lt h) lo)
theorem mid_hi {lo hi : Nat} (h : lo < hi) : hi - ((lo + hi) / 2 + 1) < hi - lo := Nat.sub_lt_sub_left h (Nat.lt_succ_of_le (mid_ge h))
theorem mid_lo {lo hi : Nat} (h : lo < hi) : (lo + hi) / 2 - lo < hi - lo := Nat.sub_lt_sub_right (mid_ge h) (mid_lt h)
theorem bis_fuel (p : Nat → Bool) : ∀ (n m lo hi : Nat), hi - lo ≤ n → hi - lo ≤ m → bis p n lo hi = bis p m lo hi
  | 0, m, lo, hi, h1, h2 => by rw [bis_done p m lo hi (by omega)]; rfl
  | n + 1, 0, lo, hi, h1, h2 => by rw [bis_done p (n + 1) lo hi (by omega)]; rfl
  | n + 1, m + 1, lo, hi, h1, h2 => by
    rw [bis, bis]
    by_cases h : lo < hi
    · rw [if_pos h, if_pos h, bis_fuel p n m _ _ (Nat.le_of_lt_succ (Nat.lt_of_lt_of_le (mid_hi h) h1)) (Nat.le_of_lt_succ (Nat.lt_of_lt_of_le (mid_hi h) h2)),
        bis_fuel p n m lo _ (Nat.le_of_lt_succ (Nat.lt_of_lt_of_le (mid_lo h) h1)) (Nat.le_of_lt_succ (Nat.lt_of_lt_of_le (mid_lo h) h2))]
    · rw [if_neg h, if_neg h]
theorem bis_up {p : Nat → Bool} {lo hi : Nat} (h : lo < hi) (q : p ((lo + hi) / 2) = true) : bis p (hi - ((lo + hi) / 2 + 1)) ((lo + hi) / 2 + 1) hi = bis p (hi - lo) lo hi := by
  rw [show hi - lo = hi - lo - 1 + 1 from (Nat.sub_add_cancel (Nat.sub_pos_of_lt h)).symm, bis, if_pos h, if_pos q]
  exact bis_fuel _ _ _ _ _ (Nat.le_refl _) (Nat.le_sub_one_of_lt (mid_hi h))
theorem bis_dn {p : Nat → Bool} {lo hi : Nat} (h : lo < hi) (q : p ((lo + hi) / 2) = false) : bis p ((lo + hi) / 2 - lo) lo ((lo + hi) / 2) = bis p (hi - lo) lo hi := by
  rw [show hi - lo = hi - lo - 1 + 1 from (Nat.sub_add_cancel (Nat.sub_pos_of_lt h)).symm, bis, if_pos h, if_neg (by rw [q]; exact Bool.false_ne_true)]
  exact bis_fuel _ _ _ _ _ (Nat.le_refl _) (Nat.le_sub_one_of_lt (mid_lo h))
theorem bis_le (p : Nat → Bool) : ∀ (n lo hi : Nat), lo ≤ hi → bis p n lo hi ≤ hi
  | 0, lo, hi, h => h
  | n + 1, lo, hi, h => by
    rw [bis]
    split
    · rename_i h9
      split
      · exact bis_le p n _ _ (mid_lt h9)
      · exact Nat.le_trans (bis_le p n _ _ (mid_ge h9)) (Nat.le_of_lt (mid_lt h9))
    · exact h

noncomputable abbrev FnBR (hB : Heap) : Prop := FnD hB 60 52 53 "bisect_right" (fnParams (top 7)) (fnBody (top 7)) (fnScope (top 7))
noncomputable abbrev FnBL (hB : Heap) : Prop := FnD hB 78 70 71 "bisect_left" (fnParams (top 9)) (fnBody (top 9)) (fnScope (top 9))
noncomputable abbrev FnIR (hB : Heap) : Prop := FnD hB 51 43 44 "insort_right" (fnParams (top 6)) (fnBody (top 6)) (fnScope (top 6))
noncomputable abbrev FnIL (hB : Heap) : Prop := FnD hB 69 61 62 "insort_left" (fnParams (top 8)) (fnBody (top 8)) (fnScope (top 8))
noncomputable abbrev dK (T D : Addr) (t u : Tok) (hs : Int) : Frag := [(T, { cls := .type "tuple", data := .seq #[.int 0 t, .none] }), (D, { cls := .type "dict", data := .dict #[⟨hs, .str "key" u, .none⟩] 1 })]

section
variable {prog : Program} {w : World} {A : Around} {E : Value → Shared → Prop} {s : Shared} {hB : Heap} {oB : OsState} {G : Array GenState} {ob rest : Ledger}
theorem dK_in {T D : Addr} {t u : Tok} {hs : Int} (h : H hB oB G ob s) (h1 : hB.get? T = some { cls := .type "tuple", data := .seq #[.int 0 t, .none] }) (h2 : hB.get? D = some { cls := .type "dict", data := .dict #[⟨hs, .str "key" u, .none⟩] 1 }) : (dK T D t u hs).In s.heap := by
  intro a o e
  rw [List.lookup_cons] at e
  split at e
  · rename_i q; cases e; rw [beq_iff_eq.mp q]; exact h.keep _ _ h1
  · rw [List.lookup_cons] at e
    split at e
    · rename_i q; cases e; rw [beq_iff_eq.mp q]; exact h.keep _ _ h2
    · cases e

noncomputable abbrev bLocs : List Str := ["a", "x", "lo", "hi", "key", "mid"]
noncomputable abbrev bLo (l : Addr) (x : AV) (lo hi : Option AV) (key : AV) (mid : Option AV) : Lo := [("a", some (.ref l)), ("x", some x), ("lo", lo), ("hi", hi), ("key", some key), ("mid", mid)]
set_option maxHeartbeats 400000 in
theorem enterBL2 {l : Addr} {x : Int} {u : Tok} {Q : Value → Shared → Prop} (f : FnBL hB) (lim : hB.NoLimit) {n : Nat} (rm : Rm (n + 1) A) (h : H hB oB G ob s)
   (k : ∀ L env A' E' s', Rm n A' → Ev env L bLocs [] ["ValueError", "len"] → H hB oB G ((L, nsp bLocs (bLo l (.int x) (some (.int 0)) (some .none) .none none)) :: ob) s' →
      wpAny (model prog w) A' (execs (fnBody (top 9)) env) (fun f s'' => Q (match f with | .ret v => v | _ => .none) s'') E' s') : wpAny (model prog w) A (call (.ref 78) [.ref l, .int x u]) Q E s := by
  obtain ⟨t, u', hs, hT, hD⟩ := f.ex
  exact r_fn f.fn lim [("a", .ref l, 0), ("x", .int x, u), ("lo", .int 0, t), ("hi", .none, 0), ("key", .none, 0)] ["mid"] bLocs ["ValueError", "len"] _ (by decide +kernel)
    (fun _ _ _ _ _ => kp_binds (dK_in h hT hD) fun _ => by with_unfolding_all rfl) rm h k

theorem fdiv2 (a b : Nat) : ((a : Int) + (b : Int)).fdiv 2 = (((a + b) / 2 : Nat) : Int) := by
  rw [Int.fdiv_eq_ediv_of_nonneg _ (by decide)]; rfl
theorem fdiv2_lt {a b n : Nat} (h : (a + b) / 2 < n) (hn : n ≤ 1000) : ((a : Int) + (b : Int)).fdiv 2 < 2 ^ 62 := by rw [fdiv2]; omega
theorem fdiv2_ge (a b : Nat) : 0 ≤ ((a : Int) + (b : Int)).fdiv 2 := by rw [fdiv2]; exact Int.natCast_nonneg _
noncomputable def ltL (xs : List Int) (x : Int) (i : Nat) : Bool := decide (xs.getD i 0 < x)
set_option maxHeartbeats 400000 in
theorem bodyBL {L l : Addr} {env : Env} {x : Int} {xs : List Int} {Q : Flow → Shared → Prop} (gl : Glob hB "len" (.builtin "len")) (he : Ev env L bLocs [] ["ValueError", "len"])
    (h : H hB oB G ((L, nsp bLocs (bLo l (.int x) (some (.int 0)) (some .none) .none none)) :: ob) s) (pk : Pick l (lst (xs.map .int)) ob rest) (hz : xs.length ≤ 1000)
    (k : ∀ t s', H hB oB G ob s' → Q (.ret (.int (bis (ltL xs x) xs.length 0 xs.length) t)) s') : wpAny (model prog w) A (execs (fnBody (top 9)) env) Q E s := by
  refine wpAny_execs_cons ?_
  repeat kct_strs
  refine ite_b (fun q => absurd q (by simp)) (fun _ => ?_)
  repeat kct_strs
  refine ite_b (fun _ => ?_) (fun q => absurd q (by simp))
  repeat kct_strs
  refine ite_b (fun _ => ?_) (fun q => absurd q (by simp))
  refine wpAny_execs_cons ?_
  rw [List.length_map] at *
  refine r_while (α := Nat × Nat) (fun p => p.2 - p.1) (fun p => (L, nsp bLocs (bLo l (.int x) (some (.int p.1)) (some (.int p.2)) .none none)) :: ob) (0, xs.length)
    (fun p => p.1 ≤ p.2 ∧ p.2 ≤ xs.length ∧ bis (ltL xs x) (p.2 - p.1) p.1 p.2 = bis (ltL xs x) xs.length 0 xs.length) ⟨Nat.zero_le _, Nat.le_refl _, rfl⟩ ‹14› ?_
  rintro ⟨lo, hi⟩ E' s' ⟨h1, h2, h3⟩ h
  dsimp only at *
  repeat kct_strs
  refine ite_b (fun q => ?_) (fun q => ?_)
  · have q' : lo < hi := by simpa using q
    have hm := fdiv2 lo hi
    have hk := Nat.lt_of_lt_of_le (mid_lt q') h2
    have hk0 := fdiv2_ge lo hi
    have hk1 := fdiv2_lt hk hz
    have hx : (List.map AV.int xs)[(((lo : Int) + (hi : Int)).fdiv 2).toNat]? = some (.int (xs.getD ((lo + hi) / 2) 0)) := by
      rw [hm, Int.toNat_natCast, List.getElem?_map, List.getD_eq_getElem?_getD, List.getElem?_eq_getElem hk]; rfl
    repeat kct_strs
    refine ite_b (fun q2 => ?_) (fun q2 => ?_)
    · repeat kct_strs
      refine ⟨((lo + hi) / 2 + 1, hi), mid_hi q', ⟨mid_lt q', h2, (bis_up q' (show ltL xs x ((lo + hi) / 2) = true from q2)).trans h3⟩, H.sub ?_ ‹14›⟩
      exact ‹12›
    · repeat kct_strs
      refine ⟨(lo, (lo + hi) / 2), mid_lo q', ⟨mid_ge q', Nat.le_of_lt hk, (bis_dn q' (show ltL xs x ((lo + hi) / 2) = false from q2)).trans h3⟩, H.sub ?_ ‹14›⟩
      exact ‹12›
  · have q' : ¬ lo < hi := by simpa using q
    repeat kct_strs
    rw [bis_done _ _ _ _ q'] at h3
    rw [h3]
    exact k _ _ (h.sub (by exact ‹12›))
end

end
section
section
variable {prog : Program} {w : World} {A : Around} {E : Value → Shared → Prop} {s : Shared} {hB : Heap} {oB : OsState} {G : Array GenState} {ob rest : Ledger}
noncomputable def leR (xs : List Int) (x : Int) (i : Nat) : Bool := !(decide (x < xs.getD i 0))
set_option maxHeartbeats 400000 in
theorem bodyBR {L l : Addr} {env : Env} {x : Int} {xs : List Int} {Q : Flow → Shared → Prop} (gl : Glob hB "len" (.builtin "len")) (he : Ev env L bLocs [] ["ValueError", "len"])
    (h : H hB oB G ((L, nsp bLocs (bLo l (.int x) (some (.int 0)) (some .none) .none none)) :: ob) s) (pk : Pick l (lst (xs.map .int)) ob rest) (hz : xs.length ≤ 1000)
    (k : ∀ t s', H hB oB G ob s' → Q (.ret (.int (bis (leR xs x) xs.length 0 xs.length) t)) s') : wpAny (model prog w) A (execs (fnBody (top 7)) env) Q E s := by
  refine wpAny_execs_cons ?_
  repeat kct_strs
  refine ite_b (fun q => absurd q (by simp)) (fun _ => ?_)
  repeat kct_strs
  refine ite_b (fun _ => ?_) (fun q => absurd q (by simp))
  repeat kct_strs
  refine ite_b (fun _ => ?_) (fun q => absurd q (by simp))
  refine wpAny_execs_cons ?_
  rw [List.length_map] at *
  refine r_while (α := Nat × Nat) (fun p => p.2 - p.1) (fun p => (L, nsp bLocs (bLo l (.int x) (some (.int p.1)) (some (.int p.2)) .none none)) :: ob) (0, xs.length)
    (fun p => p.1 ≤ p.2 ∧ p.2 ≤ xs.length ∧ bis (leR xs x) (p.2 - p.1) p.1 p.2 = bis (leR xs x) xs.length 0 xs.length) ⟨Nat.zero_le _, Nat.le_refl _, rfl⟩ ‹14› ?_
  rintro ⟨lo, hi⟩ E' s' ⟨h1, h2, h3⟩ h
  dsimp only at *
  repeat kct_strs
  refine ite_b (fun q => ?_) (fun q => ?_)
  · have q' : lo < hi := by simpa using q
    have hm := fdiv2 lo hi
    have hk := Nat.lt_of_lt_of_le (mid_lt q') h2
    have hk0 := fdiv2_ge lo hi
    have hk1 := fdiv2_lt hk hz
    have hx : (List.map AV.int xs)[(((lo : Int) + (hi : Int)).fdiv 2).toNat]? = some (.int (xs.getD ((lo + hi) / 2) 0)) := by
      rw [hm, Int.toNat_natCast, List.getElem?_map, List.getD_eq_getElem?_getD, List.getElem?_eq_getElem hk]; rfl
    repeat kct_strs
    refine ite_b (fun q2 => ?_) (fun q2 => ?_)
    · repeat kct_strs
      refine ⟨(lo, (lo + hi) / 2), mid_lo q', ⟨mid_ge q', Nat.le_of_lt hk, (bis_dn q' (show leR xs x ((lo + hi) / 2) = false from by unfold leR; rw [q2]; rfl)).trans h3⟩, H.sub ?_ ‹14›⟩
      exact ‹12›
    · repeat kct_strs
      refine ⟨((lo + hi) / 2 + 1, hi), mid_hi q', ⟨mid_lt q', h2, (bis_up q' (show leR xs x ((lo + hi) / 2) = true from by unfold leR; rw [q2]; rfl)).trans h3⟩, H.sub ?_ ‹14›⟩
      exact ‹12›
  · have q' : ¬ lo < hi := by simpa using q
    repeat kct_strs
    rw [bis_done _ _ _ _ q'] at h3
    rw [h3]
    exact k _ _ (h.sub (by exact ‹12›))
end

end
section
section
variable {prog : Program} {w : World} {A : Around} {E : Value → Shared → Prop} {s : Shared} {hB : Heap} {oB : OsState} {G : Array GenState} {ob rest : Ledger}
noncomputable def ltLk (g : Int → Int) (xs : List Int) (x : Int) (i : Nat) : Bool := decide (g (xs.getD i 0) < x)
noncomputable def leRk (g : Int → Int) (xs : List Int) (x : Int) (i : Nat) : Bool := !(decide (x < g (xs.getD i 0)))
set_option maxHeartbeats 400000 in
theorem bodyBLk {L l f : Addr} {env : Env} {x : Int} {xs : List Int} {Q : Flow → Shared → Prop} {n : Nat} {K0 R : Ledger} {g : Int → Int} {dom : Int → Prop} (kf : KeyFn prog w hB oB f n K0 g dom) (hp : ob.Perm (K0 ++ R)) (rm : Rm n A)
    (hdom : ∀ v ∈ xs, dom v) (gl : Glob hB "len" (.builtin "len")) (he : Ev env L bLocs [] ["ValueError", "len"])
    (h : H hB oB G ((L, nsp bLocs (bLo l (.int x) (some (.int 0)) (some .none) (.ref f) none)) :: ob) s) (pk : Pick l (lst (xs.map .int)) ob rest) (hz : xs.length ≤ 1000)
    (k : ∀ t s', H hB oB G ob s' → Q (.ret (.int (bis (ltLk g xs x) xs.length 0 xs.length) t)) s') : wpAny (model prog w) A (execs (fnBody (top 9)) env) Q E s := by
  refine wpAny_execs_cons ?_
  repeat kct_strs
  refine ite_b (fun q => absurd q (by simp)) (fun _ => ?_)
  repeat kct_strs
  refine ite_b (fun _ => ?_) (fun q => absurd q (by simp))
  repeat kct_strs
  refine ite_b (fun q => absurd q (by simp)) (fun _ => ?_)
  refine wpAny_execs_cons ?_
  rw [List.length_map] at *
  refine r_while (α := Nat × Nat) (fun p => p.2 - p.1) (fun p => (L, nsp bLocs (bLo l (.int x) (some (.int p.1)) (some (.int p.2)) (.ref f) none)) :: ob) (0, xs.length)
    (fun p => p.1 ≤ p.2 ∧ p.2 ≤ xs.length ∧ bis (ltLk g xs x) (p.2 - p.1) p.1 p.2 = bis (ltLk g xs x) xs.length 0 xs.length) ⟨Nat.zero_le _, Nat.le_refl _, rfl⟩ ‹14› ?_
  rintro ⟨lo, hi⟩ E' s' ⟨h1, h2, h3⟩ h
  dsimp only at *
  repeat kct_strs
  refine ite_b (fun q => ?_) (fun q => ?_)
  · have q' : lo < hi := by simpa using q
    have hm := fdiv2 lo hi
    have hk := Nat.lt_of_lt_of_le (mid_lt q') h2
    have hk0 := fdiv2_ge lo hi
    have hk1 := fdiv2_lt hk hz
    have hx : (List.map AV.int xs)[(((lo : Int) + (hi : Int)).fdiv 2).toNat]? = some (.int (xs.getD ((lo + hi) / 2) 0)) := by
      rw [hm, Int.toNat_natCast, List.getElem?_map, List.getD_eq_getElem?_getD, List.getElem?_eq_getElem hk]; rfl
    have hd : dom (xs.getD ((lo + hi) / 2) 0) := hdom _ (by rw [List.getD_eq_getElem?_getD, List.getElem?_eq_getElem hk]; exact List.getElem_mem _)
    repeat kct_strs
    refine r_callV ?_
    ktu_offL
    refine ⟨f, rfl, ?_⟩
    repeat kct_strs
    refine ⟨kf.here (perm_cons _ hp) ‹14›, ?_⟩
    refine kf.use (perm_cons _ hp) ‹14› rm hd ?_
    intro _ _ _
    repeat kct_strs
    refine ite_b (fun q2 => ?_) (fun q2 => ?_)
    · repeat kct_strs
      refine ⟨((lo + hi) / 2 + 1, hi), mid_hi q', ⟨mid_lt q', h2, (bis_up q' (show ltLk g xs x ((lo + hi) / 2) = true from q2)).trans h3⟩, H.sub ?_ ‹14›⟩
      exact ‹12›
    · repeat kct_strs
      refine ⟨(lo, (lo + hi) / 2), mid_lo q', ⟨mid_ge q', Nat.le_of_lt hk, (bis_dn q' (show ltLk g xs x ((lo + hi) / 2) = false from q2)).trans h3⟩, H.sub ?_ ‹14›⟩
      exact ‹12›
  · have q' : ¬ lo < hi := by simpa using q
    repeat kct_strs
    rw [bis_done _ _ _ _ q'] at h3
    rw [h3]
    exact k _ _ (h.sub (by exact ‹12›))
set_option maxHeartbeats 400000 in
theorem bodyBRk {L l f : Addr} {env : Env} {x : Int} {xs : List Int} {Q : Flow → Shared → Prop} {n : Nat} {K0 R : Ledger} {g : Int → Int} {dom : Int → Prop} (kf : KeyFn prog w hB oB f n K0 g dom) (hp : ob.Perm (K0 ++ R)) (rm : Rm n A)
    (hdom : ∀ v ∈ xs, dom v) (gl : Glob hB "len" (.builtin "len")) (he : Ev env L bLocs [] ["ValueError", "len"])
    (h : H hB oB G ((L, nsp bLocs (bLo l (.int x) (some (.int 0)) (some .none) (.ref f) none)) :: ob) s) (pk : Pick l (lst (xs.map .int)) ob rest) (hz : xs.length ≤ 1000)
    (k : ∀ t s', H hB oB G ob s' → Q (.ret (.int (bis (leRk g xs x) xs.length 0 xs.length) t)) s') : wpAny (model prog w) A (execs (fnBody (top 7)) env) Q E s := by
  refine wpAny_execs_cons ?_
  repeat kct_strs
  refine ite_b (fun q => absurd q (by simp)) (fun _ => ?_)
  repeat kct_strs
  refine ite_b (fun _ => ?_) (fun q => absurd q (by simp))
  repeat kct_strs
  refine ite_b (fun q => absurd q (by simp)) (fun _ => ?_)
  refine wpAny_execs_cons ?_
  rw [List.length_map] at *
  refine r_while (α := Nat × Nat) (fun p => p.2 - p.1) (fun p => (L, nsp bLocs (bLo l (.int x) (some (.int p.1)) (some (.int p.2)) (.ref f) none)) :: ob) (0, xs.length)
    (fun p => p.1 ≤ p.2 ∧ p.2 ≤ xs.length ∧ bis (leRk g xs x) (p.2 - p.1) p.1 p.2 = bis (leRk g xs x) xs.length 0 xs.length) ⟨Nat.zero_le _, Nat.le_refl _, rfl⟩ ‹14› ?_
  rintro ⟨lo, hi⟩ E' s' ⟨h1, h2, h3⟩ h
  dsimp only at *
  repeat kct_strs
  refine ite_b (fun q => ?_) (fun q => ?_)
  · have q' : lo < hi := by simpa using q
    have hm := fdiv2 lo hi
    have hk := Nat.lt_of_lt_of_le (mid_lt q') h2
    have hk0 := fdiv2_ge lo hi
    have hk1 := fdiv2_lt hk hz
    have hx : (List.map AV.int xs)[(((lo : Int) + (hi : Int)).fdiv 2).toNat]? = some (.int (xs.getD ((lo + hi) / 2) 0)) := by
      rw [hm, Int.toNat_natCast, List.getElem?_map, List.getD_eq_getElem?_getD, List.getElem?_eq_getElem hk]; rfl
    have hd : dom (xs.getD ((lo + hi) / 2) 0) := hdom _ (by rw [List.getD_eq_getElem?_getD, List.getElem?_eq_getElem hk]; exact List.getElem_mem _)
    repeat kct_strs
    refine r_callV ?_
    ktu_offL
    refine ⟨f, rfl, ?_⟩
    repeat kct_strs
    refine ⟨kf.here (perm_cons _ hp) ‹14›, ?_⟩
    refine kf.use (perm_cons _ hp) ‹14› rm hd ?_
    intro _ _ _
    repeat kct_strs
    refine ite_b (fun q2 => ?_) (fun q2 => ?_)
    · repeat kct_strs
      refine ⟨(lo, (lo + hi) / 2), mid_lo q', ⟨mid_ge q', Nat.le_of_lt hk, (bis_dn q' (show leRk g xs x ((lo + hi) / 2) = false from by unfold leRk; rw [q2]; rfl)).trans h3⟩, H.sub ?_ ‹14›⟩
      exact ‹12›
    · repeat kct_strs
      refine ⟨((lo + hi) / 2 + 1, hi), mid_hi q', ⟨mid_lt q', h2, (bis_up q' (show leRk g xs x ((lo + hi) / 2) = true from by unfold leRk; rw [q2]; rfl)).trans h3⟩, H.sub ?_ ‹14›⟩
      exact ‹12›
  · have q' : ¬ lo < hi := by simpa using q
    repeat kct_strs
    rw [bis_done _ _ _ _ q'] at h3
    rw [h3]
    exact k _ _ (h.sub (by exact ‹12›))
end

end
section
section
variable {prog : Program} {w : World} {A : Around} {E : Value → Shared → Prop} {s : Shared} {hB : Heap} {oB : OsState} {G : Array GenState} {ob rest : Ledger}
variable {l f : Addr} {x : Int} {u t0 : Tok} {xs : List Int} {Q : Value → Shared → Prop} {n : Nat} {K0 R : Ledger} {g : Int → Int} {dom : Int → Prop}

theorem sp_bl2 (fn : FnBL hB) (lim : hB.NoLimit) (gl : Glob hB "len" (.builtin "len")) (rm : Rm 1 A) (h : H hB oB G ob s) (pk : Pick l (lst (xs.map .int)) ob rest) (hz : xs.length ≤ 1000)
    (k : ∀ t s', H hB oB G ob s' → Q (.int (bis (ltL xs x) xs.length 0 xs.length) t) s') : wpAny (model prog w) A (call (.ref 78) [.ref l, .int x u]) Q E s := by
  obtain ⟨t, u', hs, hT, hD⟩ := fn.ex
  refine r_fn fn.fn lim [("a", .ref l, 0), ("x", .int x, u), ("lo", .int 0, t), ("hi", .none, 0), ("key", .none, 0)] ["mid"] bLocs ["ValueError", "len"] (bLo l (.int x) (some (.int 0)) (some .none) .none none) (by decide +kernel)
    (fun _ _ _ _ _ => kp_binds (dK_in h hT hD) fun _ => by with_unfolding_all rfl) rm h ?_
  intro L env A' E' s' rm' he h'
  exact bodyBL gl he h' pk hz k
theorem sp_bl4 (fn : FnBL hB) (lim : hB.NoLimit) (gl : Glob hB "len" (.builtin "len")) (rm : Rm 1 A) (h : H hB oB G ob s) (pk : Pick l (lst (xs.map .int)) ob rest) (hz : xs.length ≤ 1000)
    (k : ∀ t s', H hB oB G ob s' → Q (.int (bis (ltL xs x) xs.length 0 xs.length) t) s') : wpAny (model prog w) A (call (.ref 78) [.ref l, .int x u, .int 0 t0, .none]) Q E s := by
  obtain ⟨t, u', hs, hT, hD⟩ := fn.ex
  refine r_fn fn.fn lim [("a", .ref l, 0), ("x", .int x, u), ("lo", .int 0, t0), ("hi", .none, 0), ("key", .none, 0)] ["mid"] bLocs ["ValueError", "len"] (bLo l (.int x) (some (.int 0)) (some .none) .none none) (by decide +kernel)
    (fun _ _ _ _ _ => kp_binds (dK_in h hT hD) fun _ => by with_unfolding_all rfl) rm h ?_
  intro L env A' E' s' rm' he h'
  exact bodyBL gl he h' pk hz k
theorem sp_blk (fn : FnBL hB) (lim : hB.NoLimit) (gl : Glob hB "len" (.builtin "len")) (kf : KeyFn prog w hB oB f n K0 g dom) (hp : ob.Perm (K0 ++ R)) (hdom : ∀ v ∈ xs, dom v) (rm : Rm (n + 1) A) (h : H hB oB G ob s) (pk : Pick l (lst (xs.map .int)) ob rest) (hz : xs.length ≤ 1000)
    (k : ∀ t s', H hB oB G ob s' → Q (.int (bis (ltLk g xs x) xs.length 0 xs.length) t) s') : wpAny (model prog w) A (call (.ref 78) [.ref l, .int x u, .int 0 t0, .none] [("key", .ref f)]) Q E s := by
  obtain ⟨t, u', hs, hT, hD⟩ := fn.ex
  refine r_fn fn.fn lim [("a", .ref l, 0), ("x", .int x, u), ("lo", .int 0, t0), ("hi", .none, 0), ("key", .ref f, 0)] ["mid"] bLocs ["ValueError", "len"] (bLo l (.int x) (some (.int 0)) (some .none) (.ref f) none) (by decide +kernel)
    (fun _ _ _ _ _ => kp_binds (dK_in h hT hD) fun _ => by with_unfolding_all rfl) rm h ?_
  intro L env A' E' s' rm' he h'
  exact bodyBLk kf hp rm' hdom gl he h' pk hz k

theorem sp_br2 (fn : FnBR hB) (lim : hB.NoLimit) (gl : Glob hB "len" (.builtin "len")) (rm : Rm 1 A) (h : H hB oB G ob s) (pk : Pick l (lst (xs.map .int)) ob rest) (hz : xs.length ≤ 1000)
    (k : ∀ t s', H hB oB G ob s' → Q (.int (bis (leR xs x) xs.length 0 xs.length) t) s') : wpAny (model prog w) A (call (.ref 60) [.ref l, .int x u]) Q E s := by
  obtain ⟨t, u', hs, hT, hD⟩ := fn.ex
  refine r_fn fn.fn lim [("a", .ref l, 0), ("x", .int x, u), ("lo", .int 0, t), ("hi", .none, 0), ("key", .none, 0)] ["mid"] bLocs ["ValueError", "len"] (bLo l (.int x) (some (.int 0)) (some .none) .none none) (by decide +kernel)
    (fun _ _ _ _ _ => kp_binds (dK_in h hT hD) fun _ => by with_unfolding_all rfl) rm h ?_
  intro L env A' E' s' rm' he h'
  exact bodyBR gl he h' pk hz k
theorem sp_br4 (fn : FnBR hB) (lim : hB.NoLimit) (gl : Glob hB "len" (.builtin "len")) (rm : Rm 1 A) (h : H hB oB G ob s) (pk : Pick l (lst (xs.map .int)) ob rest) (hz : xs.length ≤ 1000)
    (k : ∀ t s', H hB oB G ob s' → Q (.int (bis (leR xs x) xs.length 0 xs.length) t) s') : wpAny (model prog w) A (call (.ref 60) [.ref l, .int x u, .int 0 t0, .none]) Q E s := by
  obtain ⟨t, u', hs, hT, hD⟩ := fn.ex
  refine r_fn fn.fn lim [("a", .ref l, 0), ("x", .int x, u), ("lo", .int 0, t0), ("hi", .none, 0), ("key", .none, 0)] ["mid"] bLocs ["ValueError", "len"] (bLo l (.int x) (some (.int 0)) (some .none) .none none) (by decide +kernel)
    (fun _ _ _ _ _ => kp_binds (dK_in h hT hD) fun _ => by with_unfolding_all rfl) rm h ?_
  intro L env A' E' s' rm' he h'
  exact bodyBR gl he h' pk hz k
theorem sp_brk (fn : FnBR hB) (lim : hB.NoLimit) (gl : Glob hB "len" (.builtin "len")) (kf : KeyFn prog w hB oB f n K0 g dom) (hp : ob.Perm (K0 ++ R)) (hdom : ∀ v ∈ xs, dom v) (rm : Rm (n + 1) A) (h : H hB oB G ob s) (pk : Pick l (lst (xs.map .int)) ob rest) (hz : xs.length ≤ 1000)
    (k : ∀ t s', H hB oB G ob s' → Q (.int (bis (leRk g xs x) xs.length 0 xs.length) t) s') : wpAny (model prog w) A (call (.ref 60) [.ref l, .int x u, .int 0 t0, .none] [("key", .ref f)]) Q E s := by
  obtain ⟨t, u', hs, hT, hD⟩ := fn.ex
  refine r_fn fn.fn lim [("a", .ref l, 0), ("x", .int x, u), ("lo", .int 0, t0), ("hi", .none, 0), ("key", .ref f, 0)] ["mid"] bLocs ["ValueError", "len"] (bLo l (.int x) (some (.int 0)) (some .none) (.ref f) none) (by decide +kernel)
    (fun _ _ _ _ _ => kp_binds (dK_in h hT hD) fun _ => by with_unfolding_all rfl) rm h ?_
  intro L env A' E' s' rm' he h'
  exact bodyBRk kf hp rm' hdom gl he h' pk hz k

/-- an int laid into a list at place i -/
noncomputable def insAt (xs : List Int) (i : Nat) (x : Int) : List Int := xs.take i ++ x :: xs.drop i
noncomputable abbrev iLocs : List Str := ["a", "x", "lo", "hi", "key"]
noncomputable abbrev iLo (l : Addr) (x : AV) (lo : Option AV) (hi : Option AV) (key : AV) : Lo := [("a", some (.ref l)), ("x", some x), ("lo", lo), ("hi", hi), ("key", some key)]

set_option maxHeartbeats 400000 in
theorem sp_il (fi : FnIL hB) (fn : FnBL hB) (lim : hB.NoLimit) (gl : Glob hB "len" (.builtin "len")) (gb : Glob hB "bisect_left" (.ref 78)) (rm : Rm 2 A) (h : H hB oB G ob s) (pk : Pick l (lst (xs.map .int)) ob rest) (hz : xs.length ≤ 1000)
    (k : ∀ s', H hB oB G ((l, lst ((insAt xs (bis (ltL xs x) xs.length 0 xs.length) x).map .int)) :: rest) s' → Q .none s') : wpAny (model prog w) A (call (.ref 69) [.ref l, .int x u]) Q E s := by
  obtain ⟨t, u', hs, hT, hD⟩ := fi.ex
  refine r_fn fi.fn lim [("a", .ref l, 0), ("x", .int x, u), ("lo", .int 0, t), ("hi", .none, 0), ("key", .none, 0)] [] iLocs ["bisect_left"] (iLo l (.int x) (some (.int 0)) (some .none) .none) (by decide +kernel)
    (fun _ _ _ _ _ => kp_binds (dK_in h hT hD) fun _ => by with_unfolding_all rfl) rm h ?_
  clear h
  intro L env A' E' s' rm' he h
  refine wpAny_execs_cons ?_
  repeat kct_strs
  refine ite_b (fun _ => ?_) (fun q => absurd q (by simp))
  repeat kct_strs
  ktu_offI
  refine sp_bl4 fn lim gl rm' ‹14› (.there pk) hz ?_
  intro t1 s1 h1
  repeat kct_strs
  refine r_exprStmt he ?_
  refine r_method ?_
  ktu_offL
  refine ⟨_, _, machB _, fun Q' q => gm_list ‹14› (.there pk) F.slot_list_insert rfl q, ?_⟩
  repeat kct_strs
  have hi := bis_le (ltL xs x) xs.length 0 xs.length (Nat.zero_le _)
  refine r_insert (v := .int _) ‹14› (.there pk) ?_ ?_ ?_ fun s2 h2 => ?_
  · exact ‹3›
  · omega
  · omega
  repeat kct_strs
  refine k _ ?_
  rw [Int.toNat_natCast] at h2
  have e : (insAt xs (bis (ltL xs x) xs.length 0 xs.length) x).map AV.int = (xs.map AV.int).take (bis (ltL xs x) xs.length 0 xs.length) ++ AV.int x :: (xs.map AV.int).drop (bis (ltL xs x) xs.length 0 xs.length) := by
    simp [insAt, List.map_take, List.map_drop]
  rw [e]
  exact h2.sub (by exact ‹12›)

set_option maxHeartbeats 400000 in
theorem sp_ir (fi : FnIR hB) (fn : FnBR hB) (lim : hB.NoLimit) (gl : Glob hB "len" (.builtin "len")) (gb : Glob hB "bisect_right" (.ref 60)) (rm : Rm 2 A) (h : H hB oB G ob s) (pk : Pick l (lst (xs.map .int)) ob rest) (hz : xs.length ≤ 1000)
    (k : ∀ s', H hB oB G ((l, lst ((insAt xs (bis (leR xs x) xs.length 0 xs.length) x).map .int)) :: rest) s' → Q .none s') : wpAny (model prog w) A (call (.ref 51) [.ref l, .int x u]) Q E s := by
  obtain ⟨t, u', hs, hT, hD⟩ := fi.ex
  refine r_fn fi.fn lim [("a", .ref l, 0), ("x", .int x, u), ("lo", .int 0, t), ("hi", .none, 0), ("key", .none, 0)] [] iLocs ["bisect_right"] (iLo l (.int x) (some (.int 0)) (some .none) .none) (by decide +kernel)
    (fun _ _ _ _ _ => kp_binds (dK_in h hT hD) fun _ => by with_unfolding_all rfl) rm h ?_
  clear h
  intro L env A' E' s' rm' he h
  refine wpAny_execs_cons ?_
  repeat kct_strs
  refine ite_b (fun _ => ?_) (fun q => absurd q (by simp))
  repeat kct_strs
  ktu_offI
  refine sp_br4 fn lim gl rm' ‹14› (.there pk) hz ?_
  intro t1 s1 h1
  repeat kct_strs
  refine r_exprStmt he ?_
  refine r_method ?_
  ktu_offL
  refine ⟨_, _, machB _, fun Q' q => gm_list ‹14› (.there pk) F.slot_list_insert rfl q, ?_⟩
  repeat kct_strs
  have hi := bis_le (leR xs x) xs.length 0 xs.length (Nat.zero_le _)
  refine r_insert (v := .int _) ‹14› (.there pk) ?_ ?_ ?_ fun s2 h2 => ?_
  · exact ‹3›
  · omega
  · omega
  repeat kct_strs
  refine k _ ?_
  rw [Int.toNat_natCast] at h2
  have e : (insAt xs (bis (leR xs x) xs.length 0 xs.length) x).map AV.int = (xs.map AV.int).take (bis (leR xs x) xs.length 0 xs.length) ++ AV.int x :: (xs.map AV.int).drop (bis (leR xs x) xs.length 0 xs.length) := by
    simp [insAt, List.map_take, List.map_drop]
  rw [e]
  exact h2.sub (by exact ‹12›)

set_option maxHeartbeats 400000 in
theorem sp_ilk (fi : FnIL hB) (fn : FnBL hB) (lim : hB.NoLimit) (gl : Glob hB "len" (.builtin "len")) (gb : Glob hB "bisect_left" (.ref 78)) (kf : KeyFn prog w hB oB f n K0 g dom) (hp : ob.Perm (K0 ++ R)) (hdom : ∀ v ∈ xs, dom v) (hdx : dom x)
    (rm : Rm (n + 2) A) (h : H hB oB G ob s) (pk : Pick l (lst (xs.map .int)) ob rest) (hz : xs.length ≤ 1000)
    (k : ∀ s', H hB oB G ((l, lst ((insAt xs (bis (ltLk g xs (g x)) xs.length 0 xs.length) x).map .int)) :: rest) s' → Q .none s') : wpAny (model prog w) A (call (.ref 69) [.ref l, .int x u] [("key", .ref f)]) Q E s := by
  obtain ⟨t, u', hs, hT, hD⟩ := fi.ex
  refine r_fn fi.fn lim [("a", .ref l, 0), ("x", .int x, u), ("lo", .int 0, t), ("hi", .none, 0), ("key", .ref f, 0)] [] iLocs ["bisect_left"] (iLo l (.int x) (some (.int 0)) (some .none) (.ref f)) (by decide +kernel)
    (fun _ _ _ _ _ => kp_binds (dK_in h hT hD) fun _ => by with_unfolding_all rfl) rm h ?_
  clear h
  intro L env A' E' s' rm' he h
  refine wpAny_execs_cons ?_
  repeat kct_strs
  refine ite_b (fun q => absurd q (by simp)) (fun _ => ?_)
  repeat kct_strs
  refine r_callKw he ‹14› (by exact ‹2›) gb fn.fn.isFn ?_
  repeat kct_strs
  refine r_callV ?_
  ktu_offL
  refine ⟨f, rfl, ?_⟩
  repeat kct_strs
  refine ⟨kf.here (perm_cons _ hp) ‹14›, ?_⟩
  refine kf.use (perm_cons _ hp) ‹14› (rm'.le (by omega)) hdx ?_
  intro _ _ _
  repeat kct_strs
  ktu_offI
  refine sp_blk fn lim gl kf (perm_cons _ hp) hdom rm' ‹14› (.there pk) hz ?_
  intro t1 s1 h1
  repeat kct_strs
  refine r_exprStmt he ?_
  refine r_method ?_
  ktu_offL
  refine ⟨_, _, machB _, fun Q' q => gm_list ‹14› (.there pk) F.slot_list_insert rfl q, ?_⟩
  repeat kct_strs
  have hi := bis_le (ltLk g xs (g x)) xs.length 0 xs.length (Nat.zero_le _)
  refine r_insert (v := .int _) ‹14› (.there pk) ?_ ?_ ?_ fun s2 h2 => ?_
  · exact ‹3›
  · omega
  · omega
  repeat kct_strs
  refine k _ ?_
  rw [Int.toNat_natCast] at h2
  have e : (insAt xs (bis (ltLk g xs (g x)) xs.length 0 xs.length) x).map AV.int = (xs.map AV.int).take (bis (ltLk g xs (g x)) xs.length 0 xs.length) ++ AV.int x :: (xs.map AV.int).drop (bis (ltLk g xs (g x)) xs.length 0 xs.length) := by
    simp [insAt, List.map_take, List.map_drop]
  rw [e]
  exact h2.sub (by exact ‹12›)

set_option maxHeartbeats 400000 in
theorem sp_irk (fi : FnIR hB) (fn : FnBR hB) (lim : hB.NoLimit) (gl : Glob hB "len" (.builtin "len")) (gb : Glob hB "bisect_right" (.ref 60)) (kf : KeyFn prog w hB oB f n K0 g dom) (hp : ob.Perm (K0 ++ R)) (hdom : ∀ v ∈ xs, dom v) (hdx : dom x)
    (rm : Rm (n + 2) A) (h : H hB oB G ob s) (pk : Pick l (lst (xs.map .int)) ob rest) (hz : xs.length ≤ 1000)
    (k : ∀ s', H hB oB G ((l, lst ((insAt xs (bis (leRk g xs (g x)) xs.length 0 xs.length) x).map .int)) :: rest) s' → Q .none s') : wpAny (model prog w) A (call (.ref 51) [.ref l, .int x u] [("key", .ref f)]) Q E s := by
  obtain ⟨t, u', hs, hT, hD⟩ := fi.ex
  refine r_fn fi.fn lim [("a", .ref l, 0), ("x", .int x, u), ("lo", .int 0, t), ("hi", .none, 0), ("key", .ref f, 0)] [] iLocs ["bisect_right"] (iLo l (.int x) (some (.int 0)) (some .none) (.ref f)) (by decide +kernel)
    (fun _ _ _ _ _ => kp_binds (dK_in h hT hD) fun _ => by with_unfolding_all rfl) rm h ?_
  clear h
  intro L env A' E' s' rm' he h
  refine wpAny_execs_cons ?_
  repeat kct_strs
  refine ite_b (fun q => absurd q (by simp)) (fun _ => ?_)
  repeat kct_strs
  refine r_callKw he ‹14› (by exact ‹2›) gb fn.fn.isFn ?_
  repeat kct_strs
  refine r_callV ?_
  ktu_offL
  refine ⟨f, rfl, ?_⟩
  repeat kct_strs
  refine ⟨kf.here (perm_cons _ hp) ‹14›, ?_⟩
  refine kf.use (perm_cons _ hp) ‹14› (rm'.le (by omega)) hdx ?_
  intro _ _ _
  repeat kct_strs
  ktu_offI
  refine sp_brk fn lim gl kf (perm_cons _ hp) hdom rm' ‹14› (.there pk) hz ?_
  intro t1 s1 h1
  repeat kct_strs
  refine r_exprStmt he ?_
  refine r_method ?_
  ktu_offL
  refine ⟨_, _, machB _, fun Q' q => gm_list ‹14› (.there pk) F.slot_list_insert rfl q, ?_⟩
  repeat kct_strs
  have hi := bis_le (leRk g xs (g x)) xs.length 0 xs.length (Nat.zero_le _)
  refine r_insert (v := .int _) ‹14› (.there pk) ?_ ?_ ?_ fun s2 h2 => ?_
  · exact ‹3›
  · omega
  · omega
  repeat kct_strs
  refine k _ ?_
  rw [Int.toNat_natCast] at h2
  have e : (insAt xs (bis (leRk g xs (g x)) xs.length 0 xs.length) x).map AV.int = (xs.map AV.int).take (bis (leRk g xs (g x)) xs.length 0 xs.length) ++ AV.int x :: (xs.map AV.int).drop (bis (leRk g xs (g x)) xs.length 0 xs.length) := by
    simp [insAt, List.map_take, List.map_drop]
  rw [e]
  exact h2.sub (by exact ‹12›)

end

end
section
noncomputable def bl (xs : List Int) (x : Int) : Nat := bis (ltL xs x) xs.length 0 xs.length
noncomputable def br (xs : List Int) (x : Int) : Nat := bis (leR xs x) xs.length 0 xs.length
theorem bl_le (xs : List Int) (x : Int) : bl xs x ≤ xs.length := bis_le _ _ _ _ (Nat.zero_le _)
theorem br_le (xs : List Int) (x : Int) : br xs x ≤ xs.length := bis_le _ _ _ _ (Nat.zero_le _)
noncomputable def reachF (xs : List Int) (i : Int) : Int := i + (bl xs (10 * i + 10) : Int) - (br xs (10 * i) : Int)
noncomputable def wStep (xs : List Int) (p : List Nat × Int) (i : Int) : List Nat × Int := (p.1 ++ mulL [40] (reachF xs i - p.2) ++ [41], reachF xs i)
noncomputable def wGo (xs : List Int) : Nat → List Nat × Int
  | 0 => ([], 0)
  | k + 1 => wStep xs (wGo xs k) (1 + (k : Int))
noncomputable def lawWord (xs : List Int) (many : Nat) : List Nat := (wGo xs many).1
theorem wGo_bound (xs : List Int) (hx : xs.length ≤ 100) : ∀ k, k ≤ 10 → -200 ≤ (wGo xs k).2 ∧ (wGo xs k).2 ≤ 200 ∧ (wGo xs k).1.length ≤ 1000 * k := by
  intro k
  induction k with
  | zero => intro _; simp [wGo]
  | succ k ih =>
    intro hk
    obtain ⟨h1, h2, h3⟩ := ih (Nat.le_of_succ_le hk)
    have b1 := bl_le xs (10 * (1 + (k : Int)) + 10)
    have b2 := br_le xs (10 * (1 + (k : Int)))
    have h4 : -200 ≤ reachF xs (1 + (k : Int)) := by unfold reachF; omega
    have h5 : reachF xs (1 + (k : Int)) ≤ 200 := by unfold reachF; omega
    refine ⟨h4, h5, ?_⟩
    have h6 : (mulL [40] (reachF xs (1 + (k : Int)) - (wGo xs k).2)).length ≤ 999 := mulL_le (k := 999) (by omega)
    rw [show (wGo xs (k + 1)).1 = (wGo xs k).1 ++ mulL [40] (reachF xs (1 + (k : Int)) - (wGo xs k).2) ++ [41] from rfl, List.length_append, List.length_append]
    exact Nat.succ_le_succ (Nat.add_le_add h3 h6)
section
variable {prog : Program} {w : World} {A : Around} {E : Value → Shared → Prop} {s : Shared} {hB : Heap} {oB : OsState} {G : Array GenState} {ob rest : Ledger}
variable {l : Addr} {u t0 : Tok} {xs : List Int} {Q : Value → Shared → Prop}
theorem sp_bl (fn : FnBL hB) (lim : hB.NoLimit) (gl : Glob hB "len" (.builtin "len")) (rm : Rm 1 A) (h : H hB oB G ob s) (pk : Pick l (lst (xs.map .int)) ob rest) (hz : xs.length ≤ 1000) {x : Int}
    (k : ∀ t s', H hB oB G ob s' → Q (.int (bl xs x) t) s') : wpAny (model prog w) A (call (.ref 78) [.ref l, .int x u]) Q E s := sp_bl2 fn lim gl rm h pk hz k
theorem sp_br (fn : FnBR hB) (lim : hB.NoLimit) (gl : Glob hB "len" (.builtin "len")) (rm : Rm 1 A) (h : H hB oB G ob s) (pk : Pick l (lst (xs.map .int)) ob rest) (hz : xs.length ≤ 1000) {x : Int}
    (k : ∀ t s', H hB oB G ob s' → Q (.int (br xs x) t) s') : wpAny (model prog w) A (call (.ref 60) [.ref l, .int x u]) Q E s := sp_br2 fn lim gl rm h pk hz k
noncomputable abbrev FnWord (hB : Heap) : Prop := FnF hB 165 "_law_word" "_law_word" (fnParams (top 15)) (fnBody (top 15)) (fnScope (top 15)) .none .none
set_option maxHeartbeats 400000 in
theorem sp_word (fw : FnWord hB) (fl : FnBL hB) (fr : FnBR hB) (lim : hB.NoLimit) (gl : Glob hB "len" (.builtin "len")) (gr : Glob hB "range" (.type "range")) (gbl : Glob hB "bisect_left" (.ref 78)) (gbr : Glob hB "bisect_right" (.ref 60))
    (rm : Rm 2 A) (h : H hB oB G ob s) (pk : Pick l (lst (xs.map .int)) ob rest) (hz : xs.length ≤ 100) {many : Nat} (hm : many ≤ 9)
    (k : ∀ t s', H hB oB G ob s' → Q (.str (S (lawWord xs many)) t) s') : wpAny (model prog w) A (call (.ref 165) [.ref l, .int many u]) Q E s := by
  refine r_fn fw lim [("held", .ref l, 0), ("many", .int many, u)] ["word", "far", "i", "reach"] ["held", "many", "word", "far", "i", "reach"] ["range", "bisect_left", "bisect_right"]
    [("held", some (.ref l)), ("many", some (.int many)), ("word", none), ("far", none), ("i", none), ("reach", none)] (by decide +kernel) (fun _ _ _ _ _ => BindsTo.of_eq (by with_unfolding_all rfl)) rm h ?_
  clear h
  intro L env A' E' s₁ rm' he h
  refine wpAny_execs_cons ?_
  repeat kct_strs
  kxs_still
  repeat kct_strs
  refine wpAny_For ?_
  repeat kct_strs
  have ne : ((many : Int) + 1 - 1).toNat = many := by rw [Int.add_sub_cancel, Int.toNat_natCast]
  refine r_forLoop (hB := hB) (oB := oB) (G := G) he (Itr.rangeN _ 1 many) rm'.h
    (fun i => [("held", some (.ref l)), ("many", some (.int many)), ("word", some (.str (S (wGo xs i).1))), ("far", some (.int (wGo xs i).2)), ("i", none), ("reach", none)])
    (fun i => [("held", some (.ref l)), ("many", some (.int many)), ("word", some (.str (S (wGo xs i).1))), ("far", some (.int (wGo xs i).2)), ("i", some (.int (1 + (i : Int)))), ("reach", none)])
    (fun _ => ob) ?_ (fun i _ => by exact ‹7›) (fun i hi E' s h => ?_) (fun s h => ?_)
  · have ne2 := ne
    have e0 : (wGo xs 0).1 = [] := rfl
    have e1 : (wGo xs 0).2 = 0 := rfl
    refine H.sub ?_ ‹14›
    simp only [ne2, Int.natCast_zero, Int.add_zero, Int.sub_zero, e0, e1, S_nil, List.cons_append, List.nil_append]
    exact ‹12›
  · clear ne
    have hi9 : i < 9 := Nat.lt_of_lt_of_le hi hm
    have hi10 : i ≤ 10 := Nat.le_trans (Nat.le_of_lt hi9) (by decide)
    obtain ⟨b1, b2, b3⟩ := wGo_bound xs hz i hi10
    obtain ⟨b4, b5, _⟩ := wGo_bound xs hz (i + 1) (Nat.le_trans hi9 (by decide))
    change -200 ≤ reachF xs (1 + (i : Int)) at b4
    change reachF xs (1 + (i : Int)) ≤ 200 at b5
    replace b3 : (wGo xs i).1.length ≤ 9000 := Nat.le_trans b3 (Nat.mul_le_mul_left 1000 (Nat.le_of_lt hi9))
    have hz2 : xs.length ≤ 1000 := Nat.le_trans hz (by decide)
    have b6 : (mulL [40] (reachF xs (1 + (i : Int)) - (wGo xs i).2)).length ≤ 1000 := mulL_le (k := 1000) (by omega)
    have ew : wGo xs (i + 1) = ((wGo xs i).1 ++ mulL [40] (reachF xs (1 + (i : Int)) - (wGo xs i).2) ++ [41], reachF xs (1 + (i : Int))) := rfl
    clear hi hm
    kd_facts
    repeat kct_strs
    ktu_offI
    refine sp_bl fl lim gl rm' ‹14› (.there (.there pk)) hz2 fun t s h => ?_
    repeat kct_strs
    ktu_offI
    refine sp_br fr lim gl rm' ‹14› (.there (.there pk)) hz2 fun t s h => ?_
    repeat kct_strs
    rw [show 1 + (i : Int) + (bl xs (10 * (1 + (i : Int)) + 10) : Int) - (br xs (10 * (1 + (i : Int))) : Int) = reachF xs (1 + (i : Int)) from rfl, show Str.ofString "(" = S [40] from by decide +kernel]
    repeat kct_strs
    rw [show Str.ofString ")" = S [41] from by decide +kernel]
    repeat kct_strs
    refine H.sub ?_ ‹14›
    rw [ew]
    exact ‹12›
  · kd_facts
    repeat kct_strs
    exact k _ _ (H.sub (.skip .refl) ‹14›)
end

end
section
theorem map_erase {α β : Type} (f : α → β) : ∀ (xs : List α) (i : Nat), (xs.eraseIdx i).map f = (xs.map f).eraseIdx i
  | [], _ => rfl
  | _ :: _, 0 => rfl
  | x :: r, i + 1 => by simp [List.eraseIdx, map_erase f r i]
noncomputable def toggleF (xs : List Int) (c : Int) (ul ol : List Int) : List Int :=
  if bl xs c < br xs c then (if ol.filter (fun z => decide (z ∈ xs)) = [] then xs.eraseIdx (bl xs c) else xs)
  else if ul.filter (fun z => !decide (z ∈ xs)) = [] then insAt xs (br xs c) c else xs
section
variable {prog : Program} {w : World} {A : Around} {E : Value → Shared → Prop} {s : Shared} {hB : Heap} {oB : OsState} {G : Array GenState} {ob rest rest2 rest3 rest4 rest5 : Ledger}
variable {l U O uL oL : Addr} {u t0 : Tok} {xs ul ol : List Int} {kvU kvO : List (Int × AV)} {c : Int} {Q : Value → Shared → Prop}
noncomputable abbrev FnToggle (hB : Heap) : Prop := FnF hB 182 "_law_toggle" "_law_toggle" (fnParams (top 18)) (fnBody (top 18)) (fnScope (top 18)) .none .none
set_option maxHeartbeats 400000 in
theorem sp_toggle (fw : FnToggle hB) (fl : FnBL hB) (fr : FnBR hB) (fi : FnIR hB) (lim : hB.NoLimit) (gl : Glob hB "len" (.builtin "len")) (gbl : Glob hB "bisect_left" (.ref 78)) (gbr : Glob hB "bisect_right" (.ref 60)) (gir : Glob hB "insort_right" (.ref 51))
    (rm : Rm 3 A) (h : H hB oB G ob s) (pk : Pick l (lst (xs.map .int)) ob rest) (hz : xs.length ≤ 100) (pkU : Pick U (dic kvU) ob rest2) (hU : (c, .ref uL) ∈ kvU) (pku : Pick uL (lst (ul.map .int)) ob rest3) (hzu : ul.length ≤ 100)
    (pkO : Pick O (dic kvO) ob rest4) (hO : (c, .ref oL) ∈ kvO) (pko : Pick oL (lst (ol.map .int)) ob rest5) (hzo : ol.length ≤ 100)
    (k : ∀ s', H hB oB G ((l, lst ((toggleF xs c ul ol).map .int)) :: rest) s' → Q .none s') : wpAny (model prog w) A (call (.ref 182) [.ref l, .int c u, .ref U, .ref O]) Q E s := by
  refine r_fnC fw lim [("held", .ref l, 0), ("cell", .int c, u), ("under", .ref U, 0), ("over", .ref O, 0)] ["held", "cell", "under", "over"] ["cell", "under", "over", "place"] ["held"] ["bisect_left", "bisect_right", "insort_right"]
    [("cell", some (.int c)), ("under", some (.ref U)), ("over", some (.ref O)), ("place", none)] (fun f => [("held", f "held")]) (fun f => [(f "held", celp (some (.ref l)))]) (by decide +kernel) (fun _ _ _ _ _ => by with_unfolding_all rfl) rm h ?_ rfl (by simp)
  clear h
  intro L f env A' E' s₁ rm' he hkc h
  have r1 := rm'.le (show 1 ≤ 2 by decide)
  generalize f "held" = ch at he h
  kd_facts
  refine wpAny_execs_cons ?_
  repeat kct_strs
  ktu_offI
  refine sp_bl fl lim gl r1 ‹14› (.there (.there pk)) (by omega) fun t s h => ?_
  repeat kct_strs
  ktu_offI
  refine sp_br fr lim gl r1 ‹14› (.there (.there pk)) (by omega) fun t s h => ?_
  repeat kct_strs
  refine ite_b (fun q => ?_) (fun q => ?_)
  · repeat kct_strs
    refine r_listComp (hB := hB) (oB := oB) he rm'.h ["one"] [] [("held", ch)] (by decide +kernel) (by with_unfolding_all rfl) (by with_unfolding_all rfl) ?_
    repeat kct_strs
    refine r_tailDict ‹14› (.there (.there pkO)) hO fun t s h => ?_
    refine r_iterListIn h (.there (.there pko)) fun I s h => ?_
    refine compInts (J := []) (Itr.intsIn I oL ol (.there (.there pko))) rfl (by omega) (fun z => decide (z ∈ xs)) AV.int (by kd_facts; exact h) (fun z hz C env' E' s' R0 he' h' => ⟨?_, fun _ s1 h1 => ?_⟩) (fun D => ?_)
    · refine wpAny_tests_one ?_
      kd_facts
      repeat kct_strs
      exact ⟨rfl, ‹14›⟩
    · kd_facts
      repeat kct_strs
      exact ⟨_, rfl, ‹14›⟩
    · intro s h
      kd_facts
      repeat kct_strs
      kxs_still
      repeat kct_strs
      refine ite_b (fun q2 => ?_) (fun q2 => ?_)
      · repeat kct_strs
        refine r_exprStmt he ?_
        refine r_method ?_
        repeat kct_strs
        refine ⟨_, _, machB _, fun Q' q => gm_list ‹14› (.there (.there (.there (.there pk)))) F.slot_list_pop rfl q, ?_⟩
        repeat kct_strs
        have b2 := br_le xs c
        have b1 : bl xs c < xs.length := by have := of_decide_eq_true q; omega
        refine r_pop (v := .int xs[bl xs c]) ‹14› (.there (.there (.there (.there pk)))) ?_ ?_ ?_ ?_ fun t s2 h2 => ?_
        · exact ‹3›
        · omega
        · omega
        · simp [b1]
        repeat kct_strs
        refine k _ ?_
        have e : toggleF xs c ul ol = xs.eraseIdx (bl xs c) := by
          unfold toggleF
          rw [if_pos (by have := of_decide_eq_true q; omega), if_pos (of_decide_eq_true q2)]
        rw [Int.toNat_natCast] at h2
        rw [e, show (xs.eraseIdx (bl xs c)).map AV.int = (xs.map AV.int).eraseIdx (bl xs c) from map_erase _ _ _]
        exact h2.sub (.cons .here (fun _ h => h) (.skip (.skip (.skip (.skip .refl)))))
      · repeat kct_strs
        refine k _ ?_
        have e : toggleF xs c ul ol = xs := by
          unfold toggleF
          rw [if_pos (by have := of_decide_eq_true q; omega), if_neg (of_decide_eq_false q2)]
        rw [e]
        exact H.sub (.cons (.there (.there (.there (.there pk)))) (fun _ h => h) (.skip (.skip (.skip (.skip .refl))))) ‹14›
  · repeat kct_strs
    refine r_listComp (hB := hB) (oB := oB) he rm'.h ["one"] [] [("held", ch)] (by decide +kernel) (by with_unfolding_all rfl) (by with_unfolding_all rfl) ?_
    repeat kct_strs
    refine r_tailDict ‹14› (.there (.there pkU)) hU fun t s h => ?_
    refine r_iterListIn h (.there (.there pku)) fun I s h => ?_
    refine compInts (J := []) (Itr.intsIn I uL ul (.there (.there pku))) rfl (by omega) (fun z => !decide (z ∈ xs)) AV.int (by kd_facts; exact h) (fun z hz C env' E' s' R0 he' h' => ⟨?_, fun _ s1 h1 => ?_⟩) (fun D => ?_)
    · refine wpAny_tests_one ?_
      kd_facts
      repeat kct_strs
      exact ⟨rfl, ‹14›⟩
    · kd_facts
      repeat kct_strs
      exact ⟨_, rfl, ‹14›⟩
    · intro s h
      kd_facts
      repeat kct_strs
      kxs_still
      repeat kct_strs
      refine ite_b (fun q2 => ?_) (fun q2 => ?_)
      · repeat kct_strs
        refine r_exprStmt he ?_
        repeat kct_strs
        ktu_offI
        refine sp_ir fi fr lim gl gbr rm' ‹14› (.there (.there (.there (.there pk)))) (by omega) fun s2 h2 => ?_
        repeat kct_strs
        refine k _ ?_
        have e : toggleF xs c ul ol = insAt xs (br xs c) c := by
          unfold toggleF
          rw [if_neg (by have := of_decide_eq_false q; omega), if_pos (of_decide_eq_true q2)]
        rw [e]
        exact h2.sub (.cons .here (fun _ h => h) (.skip (.skip (.skip (.skip .refl)))))
      · repeat kct_strs
        refine k _ ?_
        have e : toggleF xs c ul ol = xs := by
          unfold toggleF
          rw [if_neg (by have := of_decide_eq_false q; omega), if_neg (of_decide_eq_false q2)]
        rw [e]
        exact H.sub (.cons (.there (.there (.there (.there pk)))) (fun _ h => h) (.skip (.skip (.skip (.skip .refl))))) ‹14›
end

end
section
theorem pick_rev2 {α : Type} (a b : α) : pickL [a, b] none none (some (-1)) = [b, a] := by with_unfolding_all rfl
noncomputable def leadA (left : Int) : List Nat := mulL [32, 9] (2 * left)
noncomputable def leadB (right : Int) : List Nat := mulL [32, 32, 32, 32, 32, 32, 9] right
noncomputable def lawLead (c many kind : Int) : List Nat :=
  let left := many - 1 - c.fdiv 10
  let right := c.fmod 10 - 2
  if kind = 0 then mulL [9] left ++ mulL [32] ((many - 2) * right)
  else if c.fmod 2 = 1 then leadB right ++ leadA left else leadA left ++ leadB right
section
variable {prog : Program} {w : World} {A : Around} {E : Value → Shared → Prop} {s : Shared} {hB : Heap} {oB : OsState} {G : Array GenState} {ob rest : Ledger}
variable {u u1 u2 : Tok} {c many kind : Int} {Q : Value → Shared → Prop}
noncomputable abbrev FnLead (hB : Heap) : Prop := FnF hB 158 "_law_lead" "_law_lead" (fnParams (top 14)) (fnBody (top 14)) (fnScope (top 14)) .none .none
noncomputable abbrev leadLocs : List Str := ["cell", "many", "kind", "left", "right", "parts"]
set_option maxHeartbeats 400000 in
theorem sp_lead (fw : FnLead hB) (lim : hB.NoLimit) (rm : Rm 1 A) (h : H hB oB G ob s) {i j : Int} (hi : c.fdiv 10 = i) (hj : c.fmod 10 = j) (bi : 0 ≤ i ∧ i ≤ 9) (bj : 0 ≤ j ∧ j ≤ 9) (bm : 0 ≤ many ∧ many ≤ 9) (bc : 0 ≤ c ∧ c ≤ 99)
    (k : ∀ t s', H hB oB G ob s' → Q (.str (S (lawLead c many kind)) t) s') : wpAny (model prog w) A (call (.ref 158) [.int c u, .int many u1, .int kind u2]) Q E s := by
  refine r_fn fw lim [("cell", .int c, u), ("many", .int many, u1), ("kind", .int kind, u2)] ["left", "right", "parts"] leadLocs []
    [("cell", some (.int c)), ("many", some (.int many)), ("kind", some (.int kind)), ("left", none), ("right", none), ("parts", none)] (by decide +kernel) (fun _ _ _ _ _ => BindsTo.of_eq (by with_unfolding_all rfl)) rm h ?_
  clear h
  intro L env A' E' s₁ rm' he h
  refine wpAny_execs_cons ?_
  refine r_assignSwap (hB := hB) (oB := oB) rm'.h ?_ ?h1 ?h2
  case h1 => rfl
  case h2 => exact swapSome he (by simp) (by simp) (by decide +kernel) rfl rfl (by decide +kernel) (by decide +kernel)
  repeat kct_strs
  rw [hi]
  repeat kct_strs
  rw [hj]
  repeat kct_strs
  kxs_still
  refine ⟨_, _, _, _, _, _, rfl, ‹14›, .here, fun t1 t2 s h => ?_⟩
  repeat kct_strs
  have bA : -10 ≤ many - 1 - i ∧ many - 1 - i ≤ 10 := by omega
  have bB : -10 ≤ j - 2 ∧ j - 2 ≤ 10 := by omega
  have bM : -10 ≤ many - 2 ∧ many - 2 ≤ 10 := by omega
  have bmul := mul_bd bM bB
  have bl1 : (mulL [9] (many - 1 - i)).length ≤ 1000 := mulL_le (k := 1000) (Int.le_trans bA.2 (by decide))
  have bl2 : (mulL [32] ((many - 2) * (j - 2))).length ≤ 1000 := mulL_le (k := 1000) (Int.le_trans bmul.2 (by decide))
  have bA3 : -10000 ≤ 2 * (many - 1 - i) ∧ 2 * (many - 1 - i) ≤ 10000 := bdw (mul_bd (a := 2) (by decide) bA) (by decide) (by decide)
  have bl3 : (leadA (many - 1 - i)).length ≤ 1000 := mulL_le (l := [32, 9]) (k := 500) (Int.le_trans (mul_bd (a := 2) (by decide) bA).2 (by decide))
  have bl4 : (leadB (j - 2)).length ≤ 1000 := Nat.le_trans (mulL_le (l := [32, 32, 32, 32, 32, 32, 9]) (k := 100) (Int.le_trans bB.2 (by decide))) (by decide)
  have bA1 : -10000 ≤ many - 1 - i ∧ many - 1 - i ≤ 10000 := bdw bA (by decide) (by decide)
  have bA2 : -(2 ^ 60) ≤ many - 1 - i ∧ many - 1 - i ≤ 2 ^ 60 := bdw bA (by decide) (by decide)
  have bB1 : -10000 ≤ j - 2 ∧ j - 2 ≤ 10000 := bdw bB (by decide) (by decide)
  have bB2 : -(2 ^ 60) ≤ j - 2 ∧ j - 2 ≤ 2 ^ 60 := bdw bB (by decide) (by decide)
  have bM2 : -(2 ^ 60) ≤ many - 2 ∧ many - 2 ≤ 2 ^ 60 := bdw bM (by decide) (by decide)
  have bmul1 : -10000 ≤ (many - 2) * (j - 2) ∧ (many - 2) * (j - 2) ≤ 10000 := bdw bmul (by decide) (by decide)
  refine ite_b (fun q => ?_) (fun q => ?_)
  · rw [show Str.ofString "\t" = S [9] from by decide +kernel, show Str.ofString " " = S [32] from by decide +kernel]
    repeat kct_strs
    have e : lawLead c many kind = mulL [9] (many - 1 - i) ++ mulL [32] ((many - 2) * (j - 2)) := by
      unfold lawLead; rw [hi, hj, if_pos (by simpa using q)]
    rw [← e]
    exact k _ _ (H.sub (.skip (.skip .refl)) ‹14›)
  · repeat kct_strs
    rw [show Str.ofString " \t" = S [32, 9] from by decide +kernel, show Str.ofString "      \t" = S [32, 32, 32, 32, 32, 32, 9] from by decide +kernel]
    repeat kct_strs
    kxs_still
    repeat kct_strs
    refine r_method ?_
    repeat kct_strs
    refine ⟨_, _, machB _, fun Q' q => GM.join q, ?_⟩
    repeat kct_strs
    have hq : ¬ kind = 0 := by simpa using q
    refine ite_b (fun q2 => ?_) (fun q2 => ?_)
    · refine r_listSlice (hB := hB) (oB := oB) ?_
      repeat kct_strs
      refine r_part0 (r_part0 (r_part1 ?_))
      repeat kct_strs
      refine ⟨_, _, _, _, [AV.str (S (leadA (many - 1 - i))), AV.str (S (leadB (j - 2)))], none, none, some (-1), rfl, .none, .none, .int _ _, by decide, le_size (by simp), ‹14›, .there .here, fun a s h => ?_⟩
      rw [pick_rev2] at h
      repeat kct_strs
      refine r_join (ts := [leadB (j - 2), leadA (many - 1 - i)].map S) h .here (joinOkS _ (by simp; omega)) fun t s h => ?_
      rw [S_join]
      repeat kct_strs
      have e : lawLead c many kind = [leadB (j - 2), leadA (many - 1 - i)].flatten := by
        unfold lawLead; rw [hi, hj, if_neg hq, if_pos (by simpa using q2)]; simp
      rw [← e]
      exact k _ _ (H.sub (.skip (.skip (.skip (.skip .refl)))) ‹14›)
    · repeat kct_strs
      refine r_join (ts := [leadA (many - 1 - i), leadB (j - 2)].map S) ‹14› (.there .here) (joinOkS _ (by simp; omega)) fun t s h => ?_
      rw [S_join]
      repeat kct_strs
      have e : lawLead c many kind = [leadA (many - 1 - i), leadB (j - 2)].flatten := by
        unfold lawLead; rw [hi, hj, if_neg hq, if_neg (by simpa using q2)]; simp
      rw [← e]
      exact k _ _ (H.sub (.skip (.skip (.skip .refl))) ‹14›)
end

end
section
noncomputable def cnt (l : List Nat) : Int := Txt.count (S l) (S [40])
theorem cnt_bound (l : List Nat) : 0 ≤ cnt l ∧ cnt l ≤ l.length + 1 := by
  unfold cnt Txt.count
  have := StrLaws.occ_length_le (S l) (S [40]) 0 (S l).length ((S l).length + 1)
  rw [S_len] at this
  rw [S_len]
  omega
theorem cnt_le {l : List Nat} (h : l.length ≤ 100) : 0 ≤ cnt l ∧ cnt l ≤ 101 := ⟨(cnt_bound l).1, Int.le_trans (cnt_bound l).2 (Int.add_le_add_right (Int.ofNat_le.mpr h) 1)⟩
noncomputable def pairF (l : List Nat) (p : Int) : List Nat :=
  l.take (p - 1).toNat ++ mulL [41] (2 * cnt (l.take (p - 1).toNat) - p + 1) ++ [l.getD p.toNat 0] ++ [l.getD (p - 1).toNat 0] ++ mulL [40] (2 * cnt (l.take (p + 1).toNat) - p - 1) ++ l.drop (p + 1).toNat
section
variable {prog : Program} {w : World} {A : Around} {E : Value → Shared → Prop} {s : Shared} {hB : Heap} {oB : OsState} {G : Array GenState} {ob rest : Ledger}
variable {u u1 : Tok} {wd : List Nat} {p : Int} {Q : Value → Shared → Prop}
noncomputable abbrev FnPair (hB : Heap) : Prop := FnF hB 172 "_law_pair" "_law_pair" (fnParams (top 16)) (fnBody (top 16)) (fnScope (top 16)) .none .none
noncomputable abbrev pairLocs : List Str := ["word", "p", "ahead", "behind"]
theorem S_at (l : List Nat) (i : Nat) : (⟨#[(S l).cps.getD i 0]⟩ : Str) = S [l.getD i 0] := by
  simp [S, Array.getD, List.getD_eq_getElem?_getD]
  split
  · rename_i h; simp [h]
  · rename_i h; simp [List.getElem?_eq_none (Nat.not_lt.mp h)]
set_option maxHeartbeats 400000 in
theorem sp_pair (fw : FnPair hB) (lim : hB.NoLimit) (rm : Rm 1 A) (h : H hB oB G ob s) (hp : 1 ≤ p ∧ p < wd.length) (hz : wd.length ≤ 100)
    (k : ∀ t s', H hB oB G ob s' → Q (.str (S (pairF wd p)) t) s') : wpAny (model prog w) A (call (.ref 172) [.str (S wd) u, .int p u1]) Q E s := by
  refine r_fn fw lim [("word", .str (S wd), u), ("p", .int p, u1)] ["ahead", "behind"] pairLocs []
    [("word", some (.str (S wd))), ("p", some (.int p)), ("ahead", none), ("behind", none)] (by decide +kernel) (fun _ _ _ _ _ => BindsTo.of_eq (by with_unfolding_all rfl)) rm h ?_
  clear h
  intro L env A' E' s₁ rm' he h
  have hp0 : 0 ≤ p - 1 := Int.sub_nonneg_of_le hp.1
  have hp1 : 0 ≤ p := Int.le_trans (by decide) hp.1
  have hp2 : p ≤ 100 := by omega
  have b3 : (wd.take (p - 1).toNat).length ≤ 100 := Nat.le_trans (List.length_take_le' ..) hz
  have b4 : (wd.drop (p + 1).toNat).length ≤ 100 := by rw [List.length_drop]; exact Nat.le_trans (Nat.sub_le ..) hz
  have c1 := cnt_le b3
  have c2 := cnt_le (l := wd.take (p + 1).toNat) (Nat.le_trans (List.length_take_le' ..) hz)
  have b1 : (mulL [41] (2 * cnt (wd.take (p - 1).toNat) - p + 1)).length ≤ 1000 := mulL_le (k := 1000) (by omega)
  have b2 : (mulL [40] (2 * cnt (wd.take (p + 1).toNat) - p - 1)).length ≤ 1000 := mulL_le (k := 1000) (by omega)
  have szS : (S wd).length ≤ sizeLine := le_size (by rw [S_len]; omega)
  refine wpAny_execs_cons ?_
  rw [show Str.ofString "(" = S [40] from by decide +kernel, show Str.ofString ")" = S [41] from by decide +kernel]
  repeat kct_strs
  refine r_method ?_
  refine r_strSlice (hB := hB) (oB := oB) ?_
  repeat kct_strs
  refine r_part0 (r_part1 ?_)
  repeat kct_strs
  refine ⟨_, _, _, _, none, some (_, _), rfl, rfl, rfl, szS, ‹14›, fun t s h => ?_⟩
  simp only [Option.map_none, Option.map_some]
  rw [show Txt.slice (S wd) _ _ = _ from slice_to wd (show 0 ≤ p - 1 from hp0) (by omega)]
  refine ⟨_, _, machB _, fun Q' q => GM.count q, ?_⟩
  repeat kct_strs
  refine r_strCount ‹14› fun t s h => ?_
  rw [show Txt.count (S (wd.take (p - 1).toNat)) (S [40]) = cnt (wd.take (p - 1).toNat) from rfl]
  repeat kct_strs
  refine r_method ?_
  refine r_strSlice (hB := hB) (oB := oB) ?_
  repeat kct_strs
  refine r_part0 (r_part1 ?_)
  repeat kct_strs
  refine ⟨_, _, _, _, none, some (_, _), rfl, rfl, rfl, szS, ‹14›, fun t s h => ?_⟩
  simp only [Option.map_none, Option.map_some]
  rw [show Txt.slice (S wd) _ _ = _ from slice_to wd (show 0 ≤ p + 1 by omega) (by omega)]
  refine ⟨_, _, machB _, fun Q' q => GM.count q, ?_⟩
  repeat kct_strs
  refine r_strCount ‹14› fun t s h => ?_
  rw [show Txt.count (S (wd.take (p + 1).toNat)) (S [40]) = cnt (wd.take (p + 1).toNat) from rfl]
  repeat kct_strs
  refine r_strSlice (hB := hB) (oB := oB) ?_
  repeat kct_strs
  refine r_part0 (r_part1 ?_)
  repeat kct_strs
  refine ⟨_, _, _, _, none, some (_, _), rfl, rfl, rfl, szS, ‹14›, fun t s h => ?_⟩
  simp only [Option.map_none, Option.map_some]
  rw [show Txt.slice (S wd) _ _ = _ from slice_to wd (show 0 ≤ p - 1 from hp0) (by omega)]
  repeat kct_strs
  refine r_tailStr ‹14› ‹14› (by rw [S_size]; omega) (by omega) fun t s h => ?_
  rw [S_at]
  repeat kct_strs
  refine r_tailStr ‹14› ‹14› (by rw [S_size]; omega) (by omega) fun t s h => ?_
  rw [S_at]
  repeat kct_strs
  refine r_strSlice (hB := hB) (oB := oB) ?_
  repeat kct_strs
  refine r_part1 ?_
  repeat kct_strs
  refine r_part0 ?_
  refine ⟨_, _, _, _, some (_, _), none, rfl, rfl, rfl, szS, ‹14›, fun t s h => ?_⟩
  simp only [Option.map_none, Option.map_some]
  rw [show Txt.slice (S wd) _ _ = _ from slice_from wd (show 0 ≤ p + 1 by omega) (by omega)]
  repeat kct_strs
  exact k _ _ (H.sub (.skip .refl) ‹14›)
end

end
section
/-- the signs of a word, each followed by its hidden piece -/
noncomputable def bodyL (hid : List (List Nat)) (l : List Nat) : Nat → List (List Nat)
  | 0 => []
  | i + 1 => bodyL hid l i ++ [l.getD i 0 :: hid.getD (i % 5) []]
noncomputable def textF (l : List Nat) (hid : List (List Nat)) (e0 e1 : List Nat) : List Nat :=
  (bodyL hid (l.take (l.length - 1)) (l.length - 1)).flatten ++ e0 ++ l.drop (l.length - 1) ++ e1
theorem bodyL_len (hid : List (List Nat)) (l : List Nat) (hh : ∀ x ∈ hid, x.length ≤ 20) : ∀ n, (bodyL hid l n).length = n ∧ ((bodyL hid l n).map List.length).sum ≤ 21 * n := by
  intro n
  induction n with
  | zero => simp [bodyL]
  | succ n ih =>
    have : (hid.getD (n % 5) []).length ≤ 20 := by
      rw [List.getD_eq_getElem?_getD]
      cases q : hid[n % 5]? with
      | none => simp
      | some y => exact hh y (List.mem_of_getElem? q)
    simp only [bodyL, List.length_append, List.map_append, List.sum_append, List.length_cons, List.length_nil, List.map_cons, List.map_nil, List.sum_cons, List.sum_nil]
    omega
section
variable {prog : Program} {w : World} {A : Around} {E : Value → Shared → Prop} {s : Shared} {hB : Heap} {oB : OsState} {G : Array GenState} {ob rest rest2 : Ledger}
variable {u u1 : Tok} {wd : List Nat} {hd en : Addr} {hid : List (List Nat)} {e0 e1 : List Nat} {Q : Value → Shared → Prop}
noncomputable abbrev FnText (hB : Heap) : Prop := FnF hB 177 "_law_text" "_law_text" (fnParams (top 17)) (fnBody (top 17)) (fnScope (top 17)) .none .none
set_option maxHeartbeats 400000 in
theorem sp_text (fw : FnText hB) (lim : hB.NoLimit) (ge : Glob hB "enumerate" (.type "enumerate")) (rm : Rm 1 A) (h : H hB oB G ob s) (pkh : Pick hd (lst ((hid.map S).map .str)) ob rest) (pke : Pick en (tup [.str (S e0), .str (S e1)]) ob rest2)
    (h5 : hid.length = 5) (hh : ∀ x ∈ hid, x.length ≤ 20) (hz : wd.length ≤ 100) (hz0 : e0.length ≤ 20) (hz1 : e1.length ≤ 20)
    (k : ∀ t s', H hB oB G ob s' → Q (.str (S (textF wd hid e0 e1)) t) s') : wpAny (model prog w) A (call (.ref 177) [.str (S wd) u, .ref hd, .ref en]) Q E s := by
  refine r_fnC fw lim [("word", .str (S wd), u), ("hidden", .ref hd, 0), ("ends", .ref en, 0)] ["word", "hidden", "ends"] ["word", "ends", "body"] ["hidden"] ["enumerate"]
    [("word", some (.str (S wd))), ("ends", some (.ref en)), ("body", none)] (fun f => [("hidden", f "hidden")]) (fun f => [(f "hidden", celp (some (.ref hd)))]) (by decide +kernel) (fun _ _ _ _ _ => by with_unfolding_all rfl) rm h ?_ rfl (by simp)
  clear h
  intro L f env A' E' s₁ rm' he hkc h
  generalize f "hidden" = ch at he h
  kd_facts
  refine wpAny_execs_cons ?_
  repeat kct_strs
  refine r_method ?_
  repeat kct_strs
  refine ⟨_, _, machB _, fun Q' q => GM.join q, ?_⟩
  repeat kct_strs
  refine r_listComp (hB := hB) (oB := oB) he rm'.h ["place", "sign"] [] [("hidden", ch)] (by decide +kernel) (by with_unfolding_all rfl) (by with_unfolding_all rfl) ?_
  repeat kct_strs
  refine r_strSlice (hB := hB) (oB := oB) ?_
  repeat kct_strs
  refine r_part0 (r_part1 ?_)
  repeat kct_strs
  refine ⟨_, _, _, _, none, some (_, _), rfl, rfl, rfl, le_size (by rw [S_len]; omega), ‹14›, fun t s h => ?_⟩
  simp only [Option.map_none, Option.map_some]
  rw [show Txt.slice (S wd) _ _ = _ from slice_toNeg wd]
  repeat kct_strs
  refine r_enumStr ‹14› fun e it s h => ?_
  refine r_iterEnum h .here ?_
  refine CompFrom.mk (ItrT.enumStr e it (S (wd.take (wd.length - 1)))) (fun _ => [("place", none), ("sign", none)]) (fun i => [("place", some (.int i)), ("sign", some (.str (S [(wd.take (wd.length - 1)).getD i 0])))])
    (fun i => ((bodyL hid (wd.take (wd.length - 1)) i).map S).map .str) _ ⟨rfl, by simp⟩ (fun i hi => ?_) rfl h (fun i hi => ⟨_, .here, ?_⟩) (fun i hi C D env' E' s' he' h' => ?_) (fun D s h => ?_)
  · have := (bodyL_len hid (wd.take (wd.length - 1)) hh i).1
    rw [List.length_map, List.length_map, this]
    rw [S_size, List.length_take] at hi
    omega
  · rw [S_sgn]; exact .there .here
  · have em : ((i : Nat) : Int).fmod 5 = ((i % 5 : Nat) : Int) := by rw [Int.fmod_eq_emod_of_nonneg _ (by decide)]; rfl
    have hx : hid.getD (i % 5) [] ∈ hid := by
      have : i % 5 < hid.length := by omega
      simp [List.getD_eq_getElem?_getD, this]
    have hl := hh _ hx
    have hget : ((hid.map S).map AV.str)[((i % 5 : Nat) : Int).toNat]? = some (.str (S (hid.getD (i % 5) []))) := by
      have : i % 5 < hid.length := by omega
      rw [Int.toNat_natCast]
      simp [List.getD_eq_getElem?_getD, this]
    refine wpAny_tests_nil ?_
    rw [if_pos rfl]
    kd_facts
    repeat kct_strs
    rw [em]
    refine r_tailList ‹14› (.there (.there (.there (.there (.there (.there pkh)))))) (by omega) (by omega) hget fun t => ?_
    repeat kct_strs
    refine ⟨.str (S (_ :: _)), _, rfl, ?_, ?_⟩
    · simp [bodyL]
    · refine H.sub ?_ ‹14›
      exact ‹12›
  · have hn : (S (wd.take (wd.length - 1))).cps.size = wd.length - 1 := by rw [S_size, List.length_take]; omega
    rw [hn] at h
    have b1 := bodyL_len hid (wd.take (wd.length - 1)) hh (wd.length - 1)
    kd_facts
    repeat kct_strs
    refine r_join (ts := (bodyL hid (wd.take (wd.length - 1)) (wd.length - 1)).map S) h .here (joinOkS _ (by omega)) fun t s h => ?_
    rw [S_join]
    have b2 : (bodyL hid (wd.take (wd.length - 1)) (wd.length - 1)).flatten.length ≤ 2100 := by rw [List.length_flatten]; omega
    repeat kct_strs
    refine r_tailTup ‹14› (.there (.there (.there pke))) (by decide) (by decide) (v := .str (S e0)) rfl fun t => ?_
    repeat kct_strs
    refine r_strSlice (hB := hB) (oB := oB) ?_
    repeat kct_strs
    refine r_part1 ?_
    repeat kct_strs
    refine r_part0 ?_
    refine ⟨_, _, _, _, some (_, _), none, rfl, rfl, rfl, le_size (by rw [S_len]; omega), ‹14›, fun t s h => ?_⟩
    simp only [Option.map_none, Option.map_some]
    rw [show Txt.slice (S wd) _ _ = _ from slice_fromNeg wd]
    have b3 : (wd.drop (wd.length - 1)).length ≤ 100 := by rw [List.length_drop]; omega
    repeat kct_strs
    refine r_tailTup ‹14› (.there (.there (.there pke))) (by decide) (by decide) (v := .str (S e1)) rfl fun t => ?_
    repeat kct_strs
    exact k _ _ (H.sub (.skip (.skip (.skip .refl))) ‹14›)
end

end
section
noncomputable def meth (i : Nat) : Stmt := nthS i (fnBody (top 11))
/-- the class Whitespace, as the base heap holds it -/
structure WsCls (prog : Program) (w : World) (hB : Heap) (mN : Str → Option Value) : Prop where
  X : ClsAt hB 140 139 mN
  init : mN "__init__" = some (.ref 95)
  sa : mN "__setattr__" = none
  ga : mN "__getattribute__" = none
  gt : mN "__getattr__" = none
  raw : mN "raw" = none
  n : mN "n" = none
  nt : mN "nt" = none
  norm : mN "norm" = none
  simple : mN "is_simple" = none
  valS : ∃ t, ClsVal prog w hB 140 "S" (.str (S [32]) t)
  valT : ∃ t, ClsVal prog w hB 140 "T" (.str (S [9]) t)
  fInit : FnF hB 95 "__init__" "Whitespace.__init__" (fnParams (meth 1)) (fnBody (meth 1)) (fnScope (meth 1)) .none .none
  cInit : ∃ o, hB.get? 95 = some o ∧ o.cls = .type "function"
noncomputable def wsStep (st : List Int × Int × Int × Int) (ch : Nat) : List Int × Int × Int × Int :=
  if ch = 32 then (st.1, st.2.1 + 1, st.2.2.1 + 1, st.2.2.2)
  else
    let c := if st.2.1 ≥ st.1.length then st.1 ++ List.replicate (st.2.1 - st.1.length + 1).toNat 0 else st.1
    (c.set st.2.1.toNat (c.getD st.2.1.toNat 0 + 1), 0, st.2.2.1 + 1, st.2.2.2 + 1)
noncomputable def wsRun (l : List Nat) : List Int × Int × Int × Int := l.foldl wsStep ([], 0, 0, 0)
noncomputable def wsHead (l : List Nat) : List Nat := l.takeWhile fun c => c == 32 || c == 9
noncomputable def wsAttrs (l : List Nat) (nm : Addr) : List (Str × AV) :=
  [("raw", .str (S l)), ("n", .int (wsRun (wsHead l)).2.2.1), ("nt", .int (wsRun (wsHead l)).2.2.2), ("norm", .ref nm), ("is_simple", .bool (decide ((wsRun (wsHead l)).1.length ≤ 1)))]
theorem tw_step (p : Nat → Bool) : ∀ (l : List Nat) (i : Nat), i ≤ (l.takeWhile p).length → i < l.length → p (l.getD i 0) = true → i + 1 ≤ (l.takeWhile p).length
  | a :: r, 0, _, _, hp => by
    have : p a = true := hp
    simp [List.takeWhile_cons, this]
  | a :: r, i + 1, h, hi, hp => by
    cases q : p a with
    | false => simp [List.takeWhile_cons, q] at h
    | true =>
      simp only [List.takeWhile_cons, q, if_true, List.length_cons] at h ⊢
      have := tw_step p r i (by omega) (by simp at hi; omega) (by simpa using hp)
      omega
theorem tw_stop (p : Nat → Bool) : ∀ (l : List Nat) (i : Nat), i < l.length → p (l.getD i 0) = false → (l.takeWhile p).length ≤ i
  | a :: r, 0, _, hp => by
    have : p a = false := hp
    simp [List.takeWhile_cons, this]
  | a :: r, i + 1, hi, hp => by
    cases q : p a with
    | false => simp [List.takeWhile_cons, q]
    | true =>
      simp only [List.takeWhile_cons, q, if_true, List.length_cons]
      have := tw_stop p r i (by simp at hi; omega) (by simpa using hp)
      omega
theorem tw_take (p : Nat → Bool) : ∀ (l : List Nat), l.takeWhile p = l.take (l.takeWhile p).length
  | [] => rfl
  | a :: r => by
    cases q : p a with
    | false => simp [List.takeWhile_cons, q]
    | true => simp only [List.takeWhile_cons, q, if_true, List.length_cons, List.take_succ_cons]; rw [← tw_take p r]
theorem wsRun_snoc (l : List Nat) (c : Nat) : wsRun (l ++ [c]) = wsStep (wsRun l) c := by simp [wsRun]
theorem wsRun_bound (l : List Nat) : 0 ≤ (wsRun l).2.1 ∧ (wsRun l).2.1 ≤ l.length ∧ (wsRun l).1.length ≤ l.length + 1 := by
  suffices ∀ (l : List Nat) (k : Nat) (st : List Int × Int × Int × Int), 0 ≤ st.2.1 → st.2.1 ≤ k → st.1.length ≤ k + 1 → 0 ≤ (l.foldl wsStep st).2.1 ∧ (l.foldl wsStep st).2.1 ≤ k + l.length ∧ (l.foldl wsStep st).1.length ≤ k + l.length + 1 by
    have := this l 0 ([], 0, 0, 0) (by simp) (by simp) (by simp)
    unfold wsRun; simp at this ⊢; omega
  intro l
  induction l with
  | nil => intro k st h1 h2 h3; simp; omega
  | cons a r ih =>
    intro k st h1 h2 h3
    rw [List.foldl_cons, List.length_cons]
    have := ih (k + 1) (wsStep st a) (by unfold wsStep; split <;> simp; omega) (by unfold wsStep; split <;> simp <;> omega) (by
      unfold wsStep
      split
      · simp; omega
      · dsimp only
        rw [List.length_set]
        split
        · rw [List.length_append, List.length_replicate]; omega
        · omega)
    omega
section
variable {prog : Program} {w : World} {A : Around} {E : Value → Shared → Prop} {s : Shared} {hB : Heap} {oB : OsState} {G : Array GenState} {ob rest rest2 : Ledger} {mN : Str → Option Value}
variable {u u1 : Tok} {l : List Nat} {x dx : Addr} {Q : Value → Shared → Prop}
noncomputable abbrev wsLocs : List Str := ["self", "ws", "S", "T", "count", "b", "n", "nt", "ch"]
noncomputable abbrev wsLo (x : Addr) (l : List Nat) (a : Addr) (st : List Int × Int × Int × Int) (ch : Option AV) : Lo :=
  [("self", some (.ref x)), ("ws", some (.str (S l))), ("S", some (.str (S [32]))), ("T", some (.str (S [9]))), ("count", some (.ref a)), ("b", some (.int st.2.1)), ("n", some (.int st.2.2.1)), ("nt", some (.int st.2.2.2)), ("ch", ch)]
set_option maxHeartbeats 1000000 in
theorem sp_init (C : WsCls prog w hB mN) (lim : hB.NoLimit) (gw : Glob hB "Whitespace" (.ref 140)) (gl : Glob hB "len" (.builtin "len")) (gt : Glob hB "tuple" (.type "tuple")) (rm : Rm 1 A)
    (h : H hB oB G ((x, insO 140 dx) :: (dx, atd []) :: ob) s) (hz : l.length ≤ 500)
    (k : ∀ nm ct s', H hB oB G ((dx, atd (wsAttrs l nm)) :: (x, insO 140 dx) :: (nm, tup [.ref ct, .int (wsRun (wsHead l)).2.1]) :: (ct, tup ((wsRun (wsHead l)).1.map .int)) :: ob) s' → Q .none s') :
    wpAny (model prog w) A (call (.ref 95) [.ref x, .str (S l) u]) Q E s := by
  refine r_fn C.fInit lim [("self", .ref x, 0), ("ws", .str (S l), u)] ["S", "T", "count", "b", "n", "nt", "ch"] wsLocs ["Whitespace", "len", "tuple"]
    [("self", some (.ref x)), ("ws", some (.str (S l))), ("S", none), ("T", none), ("count", none), ("b", none), ("n", none), ("nt", none), ("ch", none)] (by decide +kernel) (fun _ _ _ _ _ => BindsTo.of_eq (by with_unfolding_all rfl)) rm h ?_
  clear h
  intro L env A' E' s₁ rm' he h
  obtain ⟨tS, vS⟩ := C.valS
  obtain ⟨tT, vT⟩ := C.valT
  refine wpAny_execs_cons ?_
  refine plainObj_wpAny_Assign_Attribute ?_
  repeat kct_strs
  refine r_setattr (v := .str (S l)) C.X ‹14› (.there .here) (.there .here) (by simp) (by simp) C.sa C.raw (by rw [typeLookup_type, builtinLookup_eq_fast]; kernel_rfl) fun s h => ?_
  repeat kct_strs
  refine r_assignSwap (hB := hB) (oB := oB) rm'.h ?_ ?h1 ?h2
  case h1 => rfl
  case h2 => exact swapSome he (by simp) (by simp) (by decide +kernel) rfl rfl (by decide +kernel) (by decide +kernel)
  repeat kct_strs
  refine r_clsval vS ‹14› fun s h => ?_
  repeat kct_strs
  refine r_clsval vT ‹14› fun s h => ?_
  repeat kct_strs
  kxs_still
  refine ⟨_, .str (S [32]), .str (S [9]), _, _, _, rfl, ‹14›, .here, fun t1 t2 s h => ?_⟩
  kd_facts
  repeat kct_strs
  kxs_still
  repeat kct_strs
  refine wpAny_Assign_three ?_
  repeat kct_strs
  refine wpAny_assign_Name ?_
  repeat kct_strs
  refine wpAny_assign_Name ?_
  repeat kct_strs
  refine wpAny_assign_Name ?_
  repeat kct_strs
  refine wpAny_For ?_
  repeat kct_strs
  refine' r_getattr (v := .str (S l)) (as := [("raw", .str (S l))]) C.X ‹14› ?pk ?pk2 (by simp) C.ga C.raw (by rw [typeLookup_type, builtinLookup_eq_fast]; kernel_rfl) (fun _ => rfl) fun t s h => ?_
  case pk => exact ‹1›
  case pk2 => exact ‹1›
  refine r_iterStr h fun I s h => ?_
  refine' r_forLoopP (hB := hB) (oB := oB) (σ := Addr) he (ItrT.name (Itr.str I (S l))) rm'.h (fun s => ∃ a, H hB oB G ((L, nsp wsLocs (wsLo x l a (wsRun (wsHead l)) none)) :: (a, lst ((wsRun (wsHead l)).1.map .int)) :: (dx, atd [("raw", .str (S l))]) :: (x, insO 140 dx) :: ob) s)
    (fun i _ => i ≤ (wsHead l).length) (fun i a => wsLo x l a (wsRun (l.take i)) none) (fun i a => wsLo x l a (wsRun (l.take i)) (some (sgn (S l) i)))
    (fun i a => (a, lst ((wsRun (l.take i)).1.map .int)) :: (dx, atd [("raw", .str (S l))]) :: (x, insO 140 dx) :: ob) (fun _ => G) ?x0 (Nat.zero_le _) ?h0 (fun i a hi => by exact ‹7›) (fun i a hi hI E' s h => ?hb) (fun a hI s h => ?he) (fun s hs => ?hp)
  case h0 =>
    refine H.sub ?_ h
    have e0 : wsRun (l.take 0) = ([], 0, 0, 0) := by simp [wsRun]
    rw [e0]
    kd_facts
    simp only [List.map_nil]
    exact ‹12›
  case he =>
    have hn : (S l).cps.size = l.length := S_size l
    rw [hn] at h hI
    have e : wsHead l = l := by
      unfold wsHead at hI ⊢
      rw [tw_take]; exact List.take_of_length_le hI
    rw [List.take_length] at h
    rw [e]
    exact ⟨a, h⟩
  case hb =>
    have hn : (S l).cps.size = l.length := S_size l
    rw [hn] at hi
    rw [S_sgn] at h
    have bl : (l.take i).length ≤ 500 := Nat.le_trans (List.length_take_le' ..) hz
    have bd : 0 ≤ (wsRun (l.take i)).2.1 ∧ (wsRun (l.take i)).2.1 ≤ 500 ∧ (wsRun (l.take i)).1.length ≤ 501 :=
      ⟨(wsRun_bound _).1, Int.le_trans (wsRun_bound _).2.1 (Int.ofNat_le.mpr bl), Nat.le_trans (wsRun_bound _).2.2 (Nat.succ_le_succ bl)⟩
    clear bl hn
    have es : l.take (i + 1) = l.take i ++ [l.getD i 0] := by
      rw [List.take_add_one]; simp [List.getD_eq_getElem?_getD, hi]
    have er : wsRun (l.take (i + 1)) = wsStep (wsRun (l.take i)) (l.getD i 0) := by rw [es, wsRun_snoc]
    rw [er]
    generalize hst : wsRun (l.take i) = st at h bd
    kd_facts
    repeat kct_strs
    rw [S_beq]
    refine ite_b (fun q => ?_) (fun q => ?_)
    · have q' : l.getD i 0 = 32 := by simpa using q
      repeat kct_strs
      refine ⟨a, tw_step _ _ _ hI hi (by rw [q']; rfl), ?_⟩
      have ew : wsStep st (l.getD i 0) = (st.1, st.2.1 + 1, st.2.2.1 + 1, st.2.2.2) := by unfold wsStep; rw [if_pos q']
      rw [ew]
      refine H.sub ?_ ‹14›
      kd_facts
      exact ‹12›
    · have q' : ¬ l.getD i 0 = 32 := by simpa using q
      repeat kct_strs
      rw [S_beq]
      refine ite_b (fun q2 => ?_) (fun q2 => ?_)
      · have q2' : l.getD i 0 = 9 := by simpa using q2
        repeat kct_strs
        rw [List.length_map]
        refine ite_b (fun q3 => ?_) (fun q3 => ?_)
        · have q3' : (st.1.length : Int) ≤ st.2.1 := of_decide_eq_true q3
          have ew : wsStep st (l.getD i 0) = ((st.1 ++ List.replicate (st.2.1 - st.1.length + 1).toNat 0).set st.2.1.toNat ((st.1 ++ List.replicate (st.2.1 - st.1.length + 1).toNat 0).getD st.2.1.toNat 0 + 1), 0, st.2.2.1 + 1, st.2.2.2 + 1) := by
            unfold wsStep; rw [if_neg q']; dsimp only; rw [if_pos q3']
          have hcl : (st.1 ++ List.replicate (st.2.1 - st.1.length + 1).toNat 0).length ≤ 1000 := by rw [List.length_append, List.length_replicate]; omega
          repeat kct_strs
          kxs_still
          repeat kct_strs
          rw [List.length_map]
          refine r_mulInts ‹14› .here (by omega) (by simp) fun a2 s h => ?_
          refine' r_addList (xs := st.1.map .int) (ys := (List.replicate (st.2.1 - st.1.length + 1).toNat [AV.int 0]).flatten) h ?pk .here ?hz fun a3 s h => ?_
          case pk => exact ‹1›
          case hz => exact le_size (by rw [List.length_map, lm_rep_flat_one, List.length_replicate]; omega)
          have ec : st.1.map AV.int ++ (List.replicate (st.2.1 - st.1.length + 1).toNat [AV.int 0]).flatten = (st.1 ++ List.replicate (st.2.1 - st.1.length + 1).toNat 0).map AV.int := by
            rw [lm_rep_flat_one, List.map_append, List.map_replicate]
          rw [ec] at h
          have hb0 : st.2.1.toNat < (st.1 ++ List.replicate (st.2.1 - st.1.length + 1).toNat 0).length := by rw [List.length_append, List.length_replicate]; omega
          clear ec
          generalize st.1 ++ List.replicate (st.2.1 - st.1.length + 1).toNat 0 = cL at h hb0 ew hcl
          kct_strs
          kct_strs
          kct_strs
          refine wpAny_Assign_Subscript ?_
          kct_strs
          kct_strs
          kct_strs
          kct_strs
          refine' r_tailList (xs := (cL).map .int) (v := .int ((cL).getD st.2.1.toNat 0)) ‹14› ?pk bd.1 (by omega) (by simp [List.getD_eq_getElem?_getD, hb0]) fun t => ?_
          case pk => exact ‹1›
          kct_strs
          kct_strs
          kct_strs
          kct_strs
          refine' r_setItem (xs := (cL).map .int) (v := .int ((cL).getD st.2.1.toNat 0 + 1)) ‹14› ?pk bd.1 (by rw [List.length_map]; omega) (by rw [List.length_map]; omega) fun s h => ?_
          case pk => exact ‹1›
          have em : ((cL).map AV.int).set st.2.1.toNat (.int ((cL).getD st.2.1.toNat 0 + 1)) = (((cL).set st.2.1.toNat ((cL).getD st.2.1.toNat 0 + 1))).map AV.int := by rw [List.map_set]
          rw [em] at h
          repeat kct_strs
          refine ⟨a3, tw_step _ _ _ hI hi (by rw [q2']; rfl), ?_⟩
          rw [ew]
          refine H.sub ?_ ‹14›
          kd_facts
          exact ‹12›
        · have q3' : ¬ (st.1.length : Int) ≤ st.2.1 := of_decide_eq_false q3
          have ew : wsStep st (l.getD i 0) = (st.1.set st.2.1.toNat (st.1.getD st.2.1.toNat 0 + 1), 0, st.2.2.1 + 1, st.2.2.2 + 1) := by
            unfold wsStep; rw [if_neg q']; dsimp only; rw [if_neg q3']
          have hb0 : st.2.1.toNat < (st.1).length := by omega
          kct_strs
          kct_strs
          refine wpAny_Assign_Subscript ?_
          kct_strs
          kct_strs
          kct_strs
          kct_strs
          refine' r_tailList (xs := (st.1).map .int) (v := .int ((st.1).getD st.2.1.toNat 0)) ‹14› ?pk bd.1 (by omega) (by simp [List.getD_eq_getElem?_getD, hb0]) fun t => ?_
          case pk => exact ‹1›
          kct_strs
          kct_strs
          kct_strs
          kct_strs
          refine' r_setItem (xs := (st.1).map .int) (v := .int ((st.1).getD st.2.1.toNat 0 + 1)) ‹14› ?pk bd.1 (by rw [List.length_map]; omega) (by rw [List.length_map]; omega) fun s h => ?_
          case pk => exact ‹1›
          have em : ((st.1).map AV.int).set st.2.1.toNat (.int ((st.1).getD st.2.1.toNat 0 + 1)) = (((st.1).set st.2.1.toNat ((st.1).getD st.2.1.toNat 0 + 1))).map AV.int := by rw [List.map_set]
          rw [em] at h
          repeat kct_strs
          refine ⟨a, tw_step _ _ _ hI hi (by rw [q2']; rfl), ?_⟩
          rw [ew]
          refine H.sub ?_ ‹14›
          kd_facts
          exact ‹12›
      · have q2' : ¬ l.getD i 0 = 9 := by simpa using q2
        repeat kct_strs
        refine wpAny_Break ?_
        have e : wsHead l = l.take i := by
          have h1 := tw_stop (fun c => c == 32 || c == 9) l i hi (by show ((l.getD i 0 == 32) || (l.getD i 0 == 9)) = false; rw [beq_eq_false_iff_ne.mpr q', beq_eq_false_iff_ne.mpr q2']; rfl)
          have h2 : (wsHead l).length = i := Nat.le_antisymm h1 hI
          unfold wsHead at h2 ⊢
          rw [tw_take, h2]
        refine ⟨a, ?_⟩
        rw [e, hst]
        refine H.sub ?_ h
        exact ‹12›
  case hp =>
    obtain ⟨a, h⟩ := hs
    have bd := wsRun_bound (wsHead l)
    have bw : (wsHead l).length ≤ l.length := (List.takeWhile_sublist _).length_le
    unfold wsAttrs at k
    generalize wsRun (wsHead l) = st at h k bd
    have eb : decide (st.1.length ≤ 1) = decide (((st.1.map AV.int).length : Int) ≤ 1) := by rw [List.length_map]; exact decide_eq_decide.mpr (by omega)
    rw [eb] at k
    dsimp only
    refine wpAny_execs_cons ?_
    refine plainObj_wpAny_Assign_Attribute ?_
    kct_strs
    kct_strs
    refine' r_setattr (as := [("raw", .str (S l))]) (v := .int st.2.2.1) C.X ‹14› ?pk ?pk2 (by simp; decide +kernel) (by simp) C.sa C.n (by rw [typeLookup_type, builtinLookup_eq_fast]; kernel_rfl) fun s h => ?_
    case pk => exact ‹1›
    case pk2 => exact ‹1›
    try dsimp only
    try simp only [List.cons_append, List.nil_append] at h
    refine wpAny_execs_cons ?_
    refine plainObj_wpAny_Assign_Attribute ?_
    kct_strs
    kct_strs
    refine' r_setattr (as := [("raw", .str (S l)), ("n", .int st.2.2.1)]) (v := .int st.2.2.2) C.X ‹14› ?pk ?pk2 (by simp; decide +kernel) (by simp) C.sa C.nt (by rw [typeLookup_type, builtinLookup_eq_fast]; kernel_rfl) fun s h => ?_
    case pk => exact ‹1›
    case pk2 => exact ‹1›
    try dsimp only
    try simp only [List.cons_append, List.nil_append] at h
    refine wpAny_execs_cons ?_
    refine plainObj_wpAny_Assign_Attribute ?_
    repeat kct_strs
    refine' r_tuple_list (xs := st.1.map .int) ‹14› ?pk (le_size (by rw [List.length_map]; omega)) fun ct s h => ?_
    case pk => exact ‹1›
    repeat kct_strs
    refine ⟨_, _, _, ‹13›, le_size (Nat.le_of_ble_eq_true rfl), ‹14›, fun nm s h => ?_⟩
    kct_strs
    refine' r_setattr (as := [("raw", .str (S l)), ("n", .int st.2.2.1), ("nt", .int st.2.2.2)]) (v := .ref nm) (t := 0) C.X ‹14› ?pk ?pk2 (by simp; decide +kernel) (by simp) C.sa C.norm (by rw [typeLookup_type, builtinLookup_eq_fast]; kernel_rfl) fun s h => ?_
    case pk => exact ‹1›
    case pk2 => exact ‹1›
    try dsimp only
    try simp only [List.cons_append, List.nil_append] at h
    refine wpAny_execs_cons ?_
    refine plainObj_wpAny_Assign_Attribute ?_
    repeat kct_strs
    refine' r_setattr (as := [("raw", .str (S l)), ("n", .int st.2.2.1), ("nt", .int st.2.2.2), ("norm", .ref nm)]) (v := .bool _) (t := 0) C.X ‹14› ?pk ?pk2 (by simp; decide +kernel) (by simp) C.sa C.simple (by rw [typeLookup_type, builtinLookup_eq_fast]; kernel_rfl) fun s h => ?_
    case pk => exact ‹1›
    case pk2 => exact ‹1›
    repeat kct_strs
    refine' k nm ct _ ?hh
    case hh =>
      refine H.sub ?_ ‹14›
      kd_facts
      refine SubL.cons .here (fun _ h => h) ?_
      exact ‹12›
end

end
section
open PySem PySem.Calls PySem.W PyProof.Rows
set_option maxHeartbeats 0
noncomputable abbrev law0 : OpenLaw := PySem.Challenge.rw_rs0208_01
theorem head_said : law0.wellSaid = true := by
  refine (congrFun PySem.W.Fast.te9446332074065402090 _).trans ?_
  iterate 18 refine look_both ?_ (by decide +kernel)
  decide +kernel
noncomputable def headQ : Program := { law0.prog with main := { law0.prog.main with body := [top 0, top 2, top 3, top 4, top 11, top 13, top 14, top 15, top 16, top 17, top 18, top 19] } }
noncomputable abbrev headL : List Str := ["insort_right", "bisect_right", "insort_left", "bisect_left", "Whitespace"]
noncomputable def headK (P : Params) : Frag := [
(2, { cls := Value.none, data := Data.dict #[] }),
(3, { cls := Value.type "dict", data := Data.dict #[{ hash := PyData.keyHash P ("__name__"), key := Value.str ("__name__") 165, val := Value.str ("law_rs0208_01") 386 }, { hash := PyData.keyHash P ("__doc__"), key := Value.str ("__doc__") 166, val := Value.none }, { hash := PyData.keyHash P ("__package__"), key := Value.str ("__package__") 167, val := Value.none }, { hash := PyData.keyHash P ("__loader__"), key := Value.str ("__loader__") 168, val := Value.builtin "__main__.__loader__#opaque" }, { hash := PyData.keyHash P ("__spec__"), key := Value.str ("__spec__") 169, val := Value.none }, { hash := PyData.keyHash P ("__annotations__"), key := Value.str ("__annotations__") 170, val := Value.ref 6 }, { hash := PyData.keyHash P ("__builtins__"), key := Value.str ("__builtins__") 171, val := Value.ref 4 }, { hash := PyData.keyHash P ("__file__"), key := Value.str ("__file__") 173, val := Value.str ("/claim/cut.py") 172 }, { hash := PyData.keyHash P ("__cached__"), key := Value.str ("__cached__") 174, val := Value.none }, { hash := PyData.keyHash P ("_wall"), key := Value.str ("_wall") 193, val := Value.ref 21 }, { hash := PyData.keyHash P ("_iter_escaped_chars"), key := Value.str ("_iter_escaped_chars") 205, val := Value.ref 28 }, { hash := PyData.keyHash P ("_strip_quoted_realnames"), key := Value.str ("_strip_quoted_realnames") 217, val := Value.ref 35 }, { hash := PyData.keyHash P ("_check_parenthesis"), key := Value.str ("_check_parenthesis") 227, val := Value.ref 42 }, { hash := PyData.keyHash P ("insort_right"), key := Value.str ("insort_right") 242, val := Value.ref 51 }, { hash := PyData.keyHash P ("bisect_right"), key := Value.str ("bisect_right") 256, val := Value.ref 60 }, { hash := PyData.keyHash P ("insort_left"), key := Value.str ("insort_left") 269, val := Value.ref 69 }, { hash := PyData.keyHash P ("bisect_left"), key := Value.str ("bisect_left") 283, val := Value.ref 78 }, { hash := PyData.keyHash P ("Whitespace"), key := Value.str ("Whitespace") 385, val := Value.ref 140 }, { hash := PyData.keyHash P ("_law_column"), key := Value.str ("_law_column") 397, val := Value.ref 151 }, { hash := PyData.keyHash P ("_law_lead"), key := Value.str ("_law_lead") 409, val := Value.ref 158 }, { hash := PyData.keyHash P ("_law_word"), key := Value.str ("_law_word") 421, val := Value.ref 165 }, { hash := PyData.keyHash P ("_law_pair"), key := Value.str ("_law_pair") 431, val := Value.ref 172 }, { hash := PyData.keyHash P ("_law_text"), key := Value.str ("_law_text") 437, val := Value.ref 177 }, { hash := PyData.keyHash P ("_law_toggle"), key := Value.str ("_law_toggle") 443, val := Value.ref 182 }, { hash := PyData.keyHash P ("law"), key := Value.str ("law") 449, val := Value.ref 187 }] 25 }),
(27, { cls := Value.type "code", data := Data.fields #[Value.str ("_iter_escaped_chars") 196, Value.str ("_iter_escaped_chars") 197, Value.str ("/claim/cut.py") 198, Value.int 5 0, Value.int 1 0, Value.int 0 0, Value.int 0 0, Value.int 35 0, Value.ref 22, Value.bool true, Value.int 181 0, Value.ref 23, Value.none, Value.ref 24, Value.ref 25, Value.ref 26, Value.int 203 0, Value.int 5 0, Value.str ("/claim/cut.py") 204] }),
(28, { cls := Value.type "function", data := Data.func { name := "_iter_escaped_chars", qualname := "_iter_escaped_chars", params := fnParams (top 2), body := .stmts (fnBody (top 2)), scope := fnScope (top 2), globals := 3, closure := [], defaults := Value.none, kwdefaults := Value.none, pyModule := Value.str ("cpy313.email.utils") 194, code := Value.ref 27 } }),
(34, { cls := Value.type "code", data := Data.fields #[Value.str ("_strip_quoted_realnames") 206, Value.str ("_strip_quoted_realnames") 207, Value.str ("/claim/cut.py") 208, Value.int 18 0, Value.int 1 0, Value.int 0 0, Value.int 0 0, Value.int 3 0, Value.ref 29, Value.bool true, Value.int 181 0, Value.ref 30, Value.none, Value.ref 31, Value.ref 32, Value.ref 33, Value.int 215 0, Value.int 18 0, Value.str ("/claim/cut.py") 216] }),
(35, { cls := Value.type "function", data := Data.func { name := "_strip_quoted_realnames", qualname := "_strip_quoted_realnames", params := fnParams (top 3), body := .stmts (fnBody (top 3)), scope := fnScope (top 3), globals := 3, closure := [], defaults := Value.none, kwdefaults := Value.none, pyModule := Value.str ("cpy313.email.utils") 194, code := Value.ref 34 } }),
(41, { cls := Value.type "code", data := Data.fields #[Value.str ("_check_parenthesis") 218, Value.str ("_check_parenthesis") 219, Value.str ("/claim/cut.py") 220, Value.int 36 0, Value.int 1 0, Value.int 0 0, Value.int 0 0, Value.int 3 0, Value.ref 36, Value.bool true, Value.int 181 0, Value.ref 37, Value.none, Value.ref 38, Value.ref 39, Value.ref 40, Value.int 225 0, Value.int 36 0, Value.str ("/claim/cut.py") 226] }),
(42, { cls := Value.type "function", data := Data.func { name := "_check_parenthesis", qualname := "_check_parenthesis", params := fnParams (top 4), body := .stmts (fnBody (top 4)), scope := fnScope (top 4), globals := 3, closure := [], defaults := Value.none, kwdefaults := Value.none, pyModule := Value.str ("cpy313.email.utils") 194, code := Value.ref 41 } }),
(43, { cls := Value.type "tuple", data := Data.seq #[Value.int 0 230, Value.none] }),
(44, { cls := Value.type "dict", data := Data.dict #[{ hash := PyData.keyHash P ("key"), key := Value.str ("key") 231, val := Value.none }] 1 }),
(50, { cls := Value.type "code", data := Data.fields #[Value.str ("insort_right") 232, Value.str ("insort_right") 233, Value.str ("/claim/cut.py") 234, Value.int 48 0, Value.int 4 0, Value.int 0 0, Value.int 1 0, Value.int 3 0, Value.ref 45, Value.bool true, Value.int 181 0, Value.ref 46, Value.none, Value.ref 47, Value.ref 48, Value.ref 49, Value.int 240 0, Value.int 48 0, Value.str ("/claim/cut.py") 241] }),
(51, { cls := Value.type "function", data := Data.func { name := "insort_right", qualname := "insort_right", params := fnParams (top 6), body := .stmts (fnBody (top 6)), scope := fnScope (top 6), globals := 3, closure := [], defaults := Value.ref 43, kwdefaults := Value.ref 44, pyModule := Value.str ("cpy313.bisect") 228, code := Value.ref 50 } }),
(52, { cls := Value.type "tuple", data := Data.seq #[Value.int 0 243, Value.none] }),
(53, { cls := Value.type "dict", data := Data.dict #[{ hash := PyData.keyHash P ("key"), key := Value.str ("key") 244, val := Value.none }] 1 }),
(59, { cls := Value.type "code", data := Data.fields #[Value.str ("bisect_right") 245, Value.str ("bisect_right") 246, Value.str ("/claim/cut.py") 247, Value.int 54 0, Value.int 4 0, Value.int 0 0, Value.int 1 0, Value.int 3 0, Value.ref 54, Value.bool true, Value.int 181 0, Value.ref 55, Value.none, Value.ref 56, Value.ref 57, Value.ref 58, Value.int 254 0, Value.int 54 0, Value.str ("/claim/cut.py") 255] }),
(60, { cls := Value.type "function", data := Data.func { name := "bisect_right", qualname := "bisect_right", params := fnParams (top 7), body := .stmts (fnBody (top 7)), scope := fnScope (top 7), globals := 3, closure := [], defaults := Value.ref 52, kwdefaults := Value.ref 53, pyModule := Value.str ("cpy313.bisect") 228, code := Value.ref 59 } }),
(61, { cls := Value.type "tuple", data := Data.seq #[Value.int 0 257, Value.none] }),
(62, { cls := Value.type "dict", data := Data.dict #[{ hash := PyData.keyHash P ("key"), key := Value.str ("key") 258, val := Value.none }] 1 }),
(68, { cls := Value.type "code", data := Data.fields #[Value.str ("insort_left") 259, Value.str ("insort_left") 260, Value.str ("/claim/cut.py") 261, Value.int 74 0, Value.int 4 0, Value.int 0 0, Value.int 1 0, Value.int 3 0, Value.ref 63, Value.bool true, Value.int 181 0, Value.ref 64, Value.none, Value.ref 65, Value.ref 66, Value.ref 67, Value.int 267 0, Value.int 74 0, Value.str ("/claim/cut.py") 268] }),
(69, { cls := Value.type "function", data := Data.func { name := "insort_left", qualname := "insort_left", params := fnParams (top 8), body := .stmts (fnBody (top 8)), scope := fnScope (top 8), globals := 3, closure := [], defaults := Value.ref 61, kwdefaults := Value.ref 62, pyModule := Value.str ("cpy313.bisect") 228, code := Value.ref 68 } }),
(70, { cls := Value.type "tuple", data := Data.seq #[Value.int 0 270, Value.none] }),
(71, { cls := Value.type "dict", data := Data.dict #[{ hash := PyData.keyHash P ("key"), key := Value.str ("key") 271, val := Value.none }] 1 }),
(77, { cls := Value.type "code", data := Data.fields #[Value.str ("bisect_left") 272, Value.str ("bisect_left") 273, Value.str ("/claim/cut.py") 274, Value.int 80 0, Value.int 4 0, Value.int 0 0, Value.int 1 0, Value.int 3 0, Value.ref 72, Value.bool true, Value.int 181 0, Value.ref 73, Value.none, Value.ref 74, Value.ref 75, Value.ref 76, Value.int 281 0, Value.int 80 0, Value.str ("/claim/cut.py") 282] }),
(78, { cls := Value.type "function", data := Data.func { name := "bisect_left", qualname := "bisect_left", params := fnParams (top 9), body := .stmts (fnBody (top 9)), scope := fnScope (top 9), globals := 3, closure := [], defaults := Value.ref 70, kwdefaults := Value.ref 71, pyModule := Value.str ("cpy313.bisect") 228, code := Value.ref 77 } }),
(94, { cls := Value.type "code", data := Data.fields #[Value.str ("__init__") 303, Value.str ("Whitespace.__init__") 304, Value.str ("/claim/cut.py") 305, Value.int 104 0, Value.int 2 0, Value.int 0 0, Value.int 0 0, Value.int 3 0, Value.ref 89, Value.bool true, Value.int 181 0, Value.ref 90, Value.none, Value.ref 91, Value.ref 92, Value.ref 93, Value.int 315 0, Value.int 104 0, Value.str ("/claim/cut.py") 316] }),
(95, { cls := Value.type "function", data := Data.func { name := "__init__", qualname := "Whitespace.__init__", params := fnParams (meth 1), body := .stmts (fnBody (meth 1)), scope := fnScope (meth 1), globals := 3, closure := [], defaults := Value.none, kwdefaults := Value.none, pyModule := Value.str ("cpy313.tabnanny") 284, code := Value.ref 94 } }),
(101, { cls := Value.type "code", data := Data.fields #[Value.str ("longest_run_of_spaces") 318, Value.str ("Whitespace.longest_run_of_spaces") 319, Value.str ("/claim/cut.py") 320, Value.int 127 0, Value.int 1 0, Value.int 0 0, Value.int 0 0, Value.int 3 0, Value.ref 96, Value.bool true, Value.int 181 0, Value.ref 97, Value.none, Value.ref 98, Value.ref 99, Value.ref 100, Value.int 324 0, Value.int 127 0, Value.str ("/claim/cut.py") 325] }),
(102, { cls := Value.type "function", data := Data.func { name := "longest_run_of_spaces", qualname := "Whitespace.longest_run_of_spaces", params := fnParams (meth 2), body := .stmts (fnBody (meth 2)), scope := fnScope (meth 2), globals := 3, closure := [], defaults := Value.none, kwdefaults := Value.none, pyModule := Value.str ("cpy313.tabnanny") 284, code := Value.ref 101 } }),
(108, { cls := Value.type "code", data := Data.fields #[Value.str ("indent_level") 327, Value.str ("Whitespace.indent_level") 328, Value.str ("/claim/cut.py") 329, Value.int 131 0, Value.int 2 0, Value.int 0 0, Value.int 0 0, Value.int 3 0, Value.ref 103, Value.bool true, Value.int 181 0, Value.ref 104, Value.none, Value.ref 105, Value.ref 106, Value.ref 107, Value.int 336 0, Value.int 131 0, Value.str ("/claim/cut.py") 337] }),
(109, { cls := Value.type "function", data := Data.func { name := "indent_level", qualname := "Whitespace.indent_level", params := fnParams (meth 3), body := .stmts (fnBody (meth 3)), scope := fnScope (meth 3), globals := 3, closure := [], defaults := Value.none, kwdefaults := Value.none, pyModule := Value.str ("cpy313.tabnanny") 284, code := Value.ref 108 } }),
(129, { cls := Value.type "code", data := Data.fields #[Value.str ("less") 355, Value.str ("Whitespace.less") 356, Value.str ("/claim/cut.py") 357, Value.int 144 0, Value.int 2 0, Value.int 0 0, Value.int 0 0, Value.int 3 0, Value.ref 124, Value.bool true, Value.int 181 0, Value.ref 125, Value.none, Value.ref 126, Value.ref 127, Value.ref 128, Value.int 362 0, Value.int 144 0, Value.str ("/claim/cut.py") 363] }),
(130, { cls := Value.type "function", data := Data.func { name := "less", qualname := "Whitespace.less", params := fnParams (meth 6), body := .stmts (fnBody (meth 6)), scope := fnScope (meth 6), globals := 3, closure := [], defaults := Value.none, kwdefaults := Value.none, pyModule := Value.str ("cpy313.tabnanny") 284, code := Value.ref 129 } }),
(139, { cls := Value.type "dict", data := Data.dict #[{ hash := PyData.keyHash P ("__module__"), key := Value.str ("__module__") 293, val := Value.str ("cpy313.tabnanny") 284 }, { hash := PyData.keyHash P ("__firstlineno__"), key := Value.str ("__firstlineno__") 297, val := Value.int 101 296 }, { hash := PyData.keyHash P ("S"), key := Value.str ("S") 301, val := Value.str (" ") 299 }, { hash := PyData.keyHash P ("T"), key := Value.str ("T") 302, val := Value.str ("\t") 300 }, { hash := PyData.keyHash P ("__init__"), key := Value.str ("__init__") 317, val := Value.ref 95 }, { hash := PyData.keyHash P ("longest_run_of_spaces"), key := Value.str ("longest_run_of_spaces") 326, val := Value.ref 102 }, { hash := PyData.keyHash P ("indent_level"), key := Value.str ("indent_level") 338, val := Value.ref 109 }, { hash := PyData.keyHash P ("equal"), key := Value.str ("equal") 346, val := Value.ref 116 }, { hash := PyData.keyHash P ("not_equal_witness"), key := Value.str ("not_equal_witness") 354, val := Value.ref 123 }, { hash := PyData.keyHash P ("less"), key := Value.str ("less") 364, val := Value.ref 130 }, { hash := PyData.keyHash P ("not_less_witness"), key := Value.str ("not_less_witness") 372, val := Value.ref 137 }, { hash := PyData.keyHash P ("__static_attributes__"), key := Value.str ("__static_attributes__") 378, val := Value.ref 138 }, { hash := PyData.keyHash P ("__dict__"), key := Value.str ("__dict__") 380, val := Value.ref 141 }, { hash := PyData.keyHash P ("__weakref__"), key := Value.str ("__weakref__") 382, val := Value.ref 142 }, { hash := PyData.keyHash P ("__doc__"), key := Value.str ("__doc__") 383, val := Value.none }] 4 }),
(140, { cls := Value.type "type", data := Data.cls { name := "Whitespace", bases := [Value.type "object"], mro := [Value.ref 140, Value.type "object"], ns := 139, qualname := "Whitespace" }, slots := #[none, none, some (Value.str ("Whitespace") 286), some (Value.str ("Whitespace") 294), some (Value.builtin "object.__new__"), some (Value.bool true)] }),
(150, { cls := Value.type "code", data := Data.fields #[Value.str ("_law_column") 388, Value.str ("_law_column") 389, Value.str ("/claim/cut.py") 390, Value.int 158 0, Value.int 2 0, Value.int 0 0, Value.int 0 0, Value.int 3 0, Value.ref 145, Value.bool true, Value.int 181 0, Value.ref 146, Value.none, Value.ref 147, Value.ref 148, Value.ref 149, Value.int 395 0, Value.int 158 0, Value.str ("/claim/cut.py") 396] }),
(151, { cls := Value.type "function", data := Data.func { name := "_law_column", qualname := "_law_column", params := fnParams (top 13), body := .stmts (fnBody (top 13)), scope := fnScope (top 13), globals := 3, closure := [], defaults := Value.none, kwdefaults := Value.none, pyModule := Value.str ("law_rs0208_01") 386, code := Value.ref 150 } }),
(157, { cls := Value.type "code", data := Data.fields #[Value.str ("_law_lead") 398, Value.str ("_law_lead") 399, Value.str ("/claim/cut.py") 400, Value.int 163 0, Value.int 3 0, Value.int 0 0, Value.int 0 0, Value.int 3 0, Value.ref 152, Value.bool true, Value.int 181 0, Value.ref 153, Value.none, Value.ref 154, Value.ref 155, Value.ref 156, Value.int 407 0, Value.int 163 0, Value.str ("/claim/cut.py") 408] }),
(158, { cls := Value.type "function", data := Data.func { name := "_law_lead", qualname := "_law_lead", params := fnParams (top 14), body := .stmts (fnBody (top 14)), scope := fnScope (top 14), globals := 3, closure := [], defaults := Value.none, kwdefaults := Value.none, pyModule := Value.str ("law_rs0208_01") 386, code := Value.ref 157 } }),
(164, { cls := Value.type "code", data := Data.fields #[Value.str ("_law_word") 410, Value.str ("_law_word") 411, Value.str ("/claim/cut.py") 412, Value.int 169 0, Value.int 2 0, Value.int 0 0, Value.int 0 0, Value.int 3 0, Value.ref 159, Value.bool true, Value.int 181 0, Value.ref 160, Value.none, Value.ref 161, Value.ref 162, Value.ref 163, Value.int 419 0, Value.int 169 0, Value.str ("/claim/cut.py") 420] }),
(165, { cls := Value.type "function", data := Data.func { name := "_law_word", qualname := "_law_word", params := fnParams (top 15), body := .stmts (fnBody (top 15)), scope := fnScope (top 15), globals := 3, closure := [], defaults := Value.none, kwdefaults := Value.none, pyModule := Value.str ("law_rs0208_01") 386, code := Value.ref 164 } }),
(171, { cls := Value.type "code", data := Data.fields #[Value.str ("_law_pair") 422, Value.str ("_law_pair") 423, Value.str ("/claim/cut.py") 424, Value.int 176 0, Value.int 2 0, Value.int 0 0, Value.int 0 0, Value.int 3 0, Value.ref 166, Value.bool true, Value.int 181 0, Value.ref 167, Value.none, Value.ref 168, Value.ref 169, Value.ref 170, Value.int 429 0, Value.int 176 0, Value.str ("/claim/cut.py") 430] }),
(172, { cls := Value.type "function", data := Data.func { name := "_law_pair", qualname := "_law_pair", params := fnParams (top 16), body := .stmts (fnBody (top 16)), scope := fnScope (top 16), globals := 3, closure := [], defaults := Value.none, kwdefaults := Value.none, pyModule := Value.str ("law_rs0208_01") 386, code := Value.ref 171 } }),
(176, { cls := Value.type "code", data := Data.fields #[Value.str ("_law_text") 432, Value.str ("_law_text") 433, Value.str ("/claim/cut.py") 434, Value.int 180 0, Value.int 3 0, Value.int 0 0, Value.int 0 0, Value.int 3 0, Value.ref 173, Value.bool true, Value.int 181 0, Value.ref 174, Value.none, Value.none, Value.none, Value.ref 175, Value.int 435 0, Value.int 180 0, Value.str ("/claim/cut.py") 436] }),
(177, { cls := Value.type "function", data := Data.func { name := "_law_text", qualname := "_law_text", params := fnParams (top 17), body := .stmts (fnBody (top 17)), scope := fnScope (top 17), globals := 3, closure := [], defaults := Value.none, kwdefaults := Value.none, pyModule := Value.str ("law_rs0208_01") 386, code := Value.ref 176 } }),
(181, { cls := Value.type "code", data := Data.fields #[Value.str ("_law_toggle") 438, Value.str ("_law_toggle") 439, Value.str ("/claim/cut.py") 440, Value.int 183 0, Value.int 4 0, Value.int 0 0, Value.int 0 0, Value.int 3 0, Value.ref 178, Value.bool true, Value.int 181 0, Value.ref 179, Value.none, Value.none, Value.none, Value.ref 180, Value.int 441 0, Value.int 183 0, Value.str ("/claim/cut.py") 442] }),
(182, { cls := Value.type "function", data := Data.func { name := "_law_toggle", qualname := "_law_toggle", params := fnParams (top 18), body := .stmts (fnBody (top 18)), scope := fnScope (top 18), globals := 3, closure := [], defaults := Value.none, kwdefaults := Value.none, pyModule := Value.str ("law_rs0208_01") 386, code := Value.ref 181 } }),
(186, { cls := Value.type "code", data := Data.fields #[Value.str ("law") 444, Value.str ("law") 445, Value.str ("/claim/cut.py") 446, Value.int 190 0, Value.int 1 0, Value.int 0 0, Value.int 0 0, Value.int 3 0, Value.ref 183, Value.bool true, Value.int 181 0, Value.ref 184, Value.none, Value.none, Value.none, Value.ref 185, Value.int 447 0, Value.int 190 0, Value.str ("/claim/cut.py") 448] }),
(187, { cls := Value.type "function", data := Data.func { name := "law", qualname := "law", params := fnParams (top 19), body := .stmts (fnBody (top 19)), scope := fnScope (top 19), globals := 3, closure := [], defaults := Value.none, kwdefaults := Value.none, pyModule := Value.str ("law_rs0208_01") 386, code := Value.ref 186 } })]
noncomputable abbrev headAs : List Addr := [2, 3, 27, 28, 34, 35, 41, 42, 43, 44, 50, 51, 52, 53, 59, 60, 61, 62, 68, 69, 70, 71, 77, 78, 94, 95, 101, 102, 108, 109, 129, 130, 139, 140, 150, 151, 157, 158, 164, 165, 171, 172, 176, 177, 181, 182, 186, 187]
noncomputable abbrev headH : Hook := kmHook headK headAs (fun _ => rfl) [184]
theorem head_open : ∀ w : World, (fencedOpening treeTable law0.row.prog w 2180).map (fun s => (s.heap, s.gens, s.drawn, s.toks)) = some (boot_heap w.params, Array.mk [], boot_drawn, boot_toks) :=
  boot_open (by kernel_rfl) (by decide +kernel) (fun s => by kernel_rfl)
noncomputable abbrev headEnd (w : World) (os : OsState) := (topFrom treeTable law0.row.prog w 2180 ⟨boot_heap w.params, Array.mk [], boot_drawn, boot_toks, os⟩).map (fun s =>
  (openSeen headQ headL (importedModules law0.row.prog.main.body) (fun s => xlAt headQ [] s && recOk law0.row.records s) true s, headH.obs s))
noncomputable abbrev HeadSide (b : Bool) : Prop := ∀ (w : World) (os : OsState), headEnd (w.withFollow "special-get-raises" b) os = some (openGood headQ headL, headH.val (w.withFollow "special-get-raises" b))
theorem head_no : HeadSide false := fun w os => by kernel_rfl
theorem head_yes : HeadSide true := fun w os => by kernel_rfl
theorem head_at (w : World) (os : OsState) : headEnd w os = some (openGood headQ headL, headH.val w) := by
  have z := World.withFollow_self w "special-get-raises"
  cases hb : w.params.followText "special-get-raises" <;> rw [hb] at z
  · exact z ▸ head_no w os
  · exact z ▸ head_yes w os
theorem head_left : LeftO law0.row.prog headQ headL (fun s => xlAt headQ [] s && recOk law0.row.records s) headH.obs headH.val 2180 := fun w => by
  obtain ⟨⟨h, gs, d, k, os⟩, e, e'⟩ := Option.map_eq_some_iff.mp (head_open w)
  obtain ⟨rfl, e'⟩ := Prod.mk.inj e'
  obtain ⟨rfl, e'⟩ := Prod.mk.inj e'
  obtain ⟨rfl, rfl⟩ := Prod.mk.inj e'
  rw [openEnds, e, Option.bind_some]
  exact head_at w os

end
section
section
variable {prog : Program} {w : World} {A : Around} {E : Value → Shared → Prop} {s : Shared} {hB : Heap} {oB : OsState} {G : Array GenState} {ob rest : Ledger} {a b x dx C N : Addr} {as : List (Str × AV)} {mN : Str → Option Value} {name : Str} {v : AV} {P P' : OP}
/-- an instance of Whitespace over the text l -/
structure WsAt (ob : Ledger) (x : Addr) (l : List Nat) : Prop where
  ex : ∃ dx nm ct, (x, insO 140 dx) ∈ ob ∧ (dx, atd (wsAttrs l nm)) ∈ ob ∧ (nm, tup [.ref ct, .int (wsRun (wsHead l)).2.1]) ∈ ob ∧ (ct, tup ((wsRun (wsHead l)).1.map .int)) ∈ ob
theorem WsAt.mono {ob' : Ledger} {l : List Nat} (h : WsAt ob x l) (k : ∀ p ∈ ob, p ∈ ob') : WsAt ob' x l := by
  obtain ⟨dx, nm, ct, h1, h2, h3, h4⟩ := h.ex
  exact ⟨dx, nm, ct, k _ h1, k _ h2, k _ h3, k _ h4⟩
theorem WsAt.cons {p : Addr × OP} {l : List Nat} (h : WsAt ob x l) : WsAt (p :: ob) x l := h.mono fun _ m => .tail _ m
end

end
section
structure WsM (prog : Program) (w : World) (hB : Heap) (mN : Str → Option Value) : Prop extends WsCls prog w hB mN where
  mLr : mN "longest_run_of_spaces" = some (.ref 102)
  mIl : mN "indent_level" = some (.ref 109)
  mLe : mN "less" = some (.ref 130)
  fLr : FnF hB 102 "longest_run_of_spaces" "Whitespace.longest_run_of_spaces" (fnParams (meth 2)) (fnBody (meth 2)) (fnScope (meth 2)) .none .none
  cLr : ∃ o, hB.get? 102 = some o ∧ o.cls = .type "function"
  fIl : FnF hB 109 "indent_level" "Whitespace.indent_level" (fnParams (meth 3)) (fnBody (meth 3)) (fnScope (meth 3)) .none .none
  cIl : ∃ o, hB.get? 109 = some o ∧ o.cls = .type "function"
  fLe : FnF hB 130 "less" "Whitespace.less" (fnParams (meth 6)) (fnBody (meth 6)) (fnScope (meth 6)) .none .none
  cLe : ∃ o, hB.get? 130 = some o ∧ o.cls = .type "function"
noncomputable def wsC (l : List Nat) : List Int := (wsRun (wsHead l)).1
noncomputable def wsB (l : List Nat) : Int := (wsRun (wsHead l)).2.1
noncomputable def wsN (l : List Nat) : Int := (wsRun (wsHead l)).2.2.1
noncomputable def wsT (l : List Nat) : Int := (wsRun (wsHead l)).2.2.2
noncomputable def lrF (l : List Nat) : Int := max ((wsRun (wsHead l)).1.length - 1) (wsRun (wsHead l)).2.1
noncomputable def ilGo (c : List Int) (t : Int) : Nat → Int
  | 0 => 0
  | k + 1 => ilGo c t k + (t + (k : Int)).fdiv t * c.getD (t + (k : Int)).toNat 0
noncomputable def ilF (l : List Nat) (t : Int) : Int := (wsRun (wsHead l)).2.1 + t * (ilGo (wsRun (wsHead l)).1 t (((wsRun (wsHead l)).1.length : Int) - t).toNat + (wsRun (wsHead l)).2.2.2)
theorem wsRun_pos (l : List Nat) : (∀ x ∈ (wsRun l).1, 0 ≤ x ∧ x ≤ l.length) ∧ 0 ≤ (wsRun l).2.2.2 ∧ (wsRun l).2.2.2 ≤ l.length := by
  suffices ∀ (l : List Nat) (k : Nat) (st : List Int × Int × Int × Int), (∀ x ∈ st.1, 0 ≤ x ∧ x ≤ k) → 0 ≤ st.2.2.2 → st.2.2.2 ≤ k →
      (∀ x ∈ (l.foldl wsStep st).1, 0 ≤ x ∧ x ≤ (k + l.length : Nat)) ∧ 0 ≤ (l.foldl wsStep st).2.2.2 ∧ (l.foldl wsStep st).2.2.2 ≤ (k + l.length : Nat) by
    have := this l 0 ([], 0, 0, 0) (fun _ h => nomatch h) (by simp) (by simp)
    unfold wsRun; simpa using this
  intro l
  induction l with
  | nil => intro k st h1 h2 h3; simp; exact ⟨h1, h2, h3⟩
  | cons a r ih =>
    intro k st h1 h2 h3
    rw [List.foldl_cons, List.length_cons, show k + (r.length + 1) = (k + 1) + r.length by omega]
    refine ih (k + 1) (wsStep st a) ?_ ?_ ?_
    · unfold wsStep
      split
      · intro x hx; have := h1 x hx; omega
      · dsimp only
        have key : ∀ c : List Int, (∀ x ∈ c, 0 ≤ x ∧ x ≤ k) → ∀ x ∈ c.set st.2.1.toNat (c.getD st.2.1.toNat 0 + 1), 0 ≤ x ∧ x ≤ ((k + 1 : Nat) : Int) := by
          intro c hc x hx
          rcases List.mem_or_eq_of_mem_set hx with hx | rfl
          · have := hc x hx; omega
          · rw [List.getD_eq_getElem?_getD]
            cases q : c[st.2.1.toNat]? with
            | none => simp; omega
            | some y => have := hc y (List.mem_of_getElem? q); simp; omega
        split
        · refine key _ fun x hx => ?_
          rcases List.mem_append.mp hx with hx | hx
          · exact h1 x hx
          · have := (List.mem_replicate.mp hx).2; omega
        · exact key _ h1
    · unfold wsStep; split <;> dsimp only <;> omega
    · unfold wsStep; split <;> dsimp only <;> omega
theorem ilGo_bound {c : List Int} {t : Int} (ht : 1 ≤ t ∧ t ≤ 1000) (hc : ∀ x ∈ c, 0 ≤ x ∧ x ≤ 1000) : ∀ k : Nat, k ≤ 1000 → 0 ≤ ilGo c t k ∧ ilGo c t k ≤ 2000000 * k := by
  intro k
  induction k with
  | zero => intro _; simp [ilGo]
  | succ k ih =>
    intro hk
    have i1 := ih (by omega)
    have h1 := fdiv_bound (a := t + (k : Int)) (b := t) (by omega) (by omega)
    have h2 : 0 ≤ c.getD (t + (k : Int)).toNat 0 ∧ c.getD (t + (k : Int)).toNat 0 ≤ 1000 := by
      rw [List.getD_eq_getElem?_getD]
      cases q : c[(t + (k : Int)).toNat]? with
      | none => simp
      | some y => have := hc y (List.mem_of_getElem? q); simpa using this
    have e : ilGo c t (k + 1) = ilGo c t k + (t + (k : Int)).fdiv t * c.getD (t + (k : Int)).toNat 0 := rfl
    rw [e]
    generalize (t + (k : Int)).fdiv t = d at *
    generalize c.getD (t + (k : Int)).toNat 0 = z at *
    have h3 : 0 ≤ d * z := Int.mul_nonneg h1.1 h2.1
    have h4 : d * z ≤ 2000 * 1000 := Int.mul_le_mul (by omega) h2.2 h2.1 (by omega)
    omega
theorem wsHead_len (l : List Nat) : (wsHead l).length ≤ l.length := (List.takeWhile_sublist _).length_le
theorem ws_facts {l : List Nat} (hz : l.length ≤ 500) : (∀ x ∈ (wsRun (wsHead l)).1, 0 ≤ x ∧ x ≤ 1000) ∧ (wsRun (wsHead l)).1.length ≤ 501 ∧ 0 ≤ (wsRun (wsHead l)).2.1 ∧ (wsRun (wsHead l)).2.1 ≤ 500 ∧ 0 ≤ (wsRun (wsHead l)).2.2.2 ∧ (wsRun (wsHead l)).2.2.2 ≤ 500 := by
  have h1 := wsRun_pos (wsHead l)
  have h2 := wsRun_bound (wsHead l)
  have h3 := wsHead_len l
  refine ⟨fun x hx => ?_, ?_⟩
  · have := h1.1 x hx; omega
  · omega
section
variable {prog : Program} {w : World} {A : Around} {E : Value → Shared → Prop} {s : Shared} {hB : Heap} {oB : OsState} {G : Array GenState} {ob rest rest2 : Ledger} {mN : Str → Option Value}
variable {u u1 : Tok} {l : List Nat} {x dx : Addr} {Q : Value → Shared → Prop}
set_option maxHeartbeats 400000 in
theorem sp_longest (C : WsM prog w hB mN) (lim : hB.NoLimit) (gl : Glob hB "len" (.builtin "len")) (gm : Glob hB "max" (.builtin "max")) (rm : Rm 1 A)
    (h : H hB oB G ob s) (W : WsAt ob x l) (hz : l.length ≤ 500) (k : ∀ t s', H hB oB G ob s' → Q (.int (lrF l) t) s') :
    wpAny (model prog w) A (call (.ref 102) [.ref x]) Q E s := by
  refine r_fn C.fLr lim [("self", .ref x, 0)] ["count", "trailing"] ["self", "count", "trailing"] ["len", "max"]
    [("self", some (.ref x)), ("count", none), ("trailing", none)] (by decide +kernel) (fun _ _ _ _ _ => BindsTo.of_eq (by with_unfolding_all rfl)) rm h ?_
  clear h
  intro L env A' E' s₁ rm' he h
  obtain ⟨dx, nm, ct, m1, m2, m3, m4⟩ := W.ex
  have fc := ws_facts hz
  obtain ⟨r3, pk3⟩ := pick_of_mem m3
  obtain ⟨r4, pk4⟩ := pick_of_mem m4
  refine wpAny_execs_cons ?_
  refine r_assignTup ?_
  repeat kct_strs
  refine r_getattrM (v := .ref nm) C.X ‹14› (.tail _ m1) (.tail _ m2) (by simp [wsAttrs]) C.ga C.norm (by rw [typeLookup_type, builtinLookup_eq_fast]; kernel_rfl) (fun _ => rfl) fun t s h => ?_
  repeat kct_strs
  refine r_lenTup ‹14› (.tail _ m4) (le_size (by rw [List.length_map]; omega)) fun t s h => ?_
  rw [List.length_map]
  repeat kct_strs
  refine r_max2 rm'.h ‹14› fun t s h => ?_
  exact k _ _ h.drop
set_option maxHeartbeats 400000 in
theorem sp_indent (C : WsM prog w hB mN) (lim : hB.NoLimit) (gl : Glob hB "len" (.builtin "len")) (gr : Glob hB "range" (.type "range")) (rm : Rm 1 A)
    (h : H hB oB G ob s) (W : WsAt ob x l) (hz : l.length ≤ 500) {z : Int} (ht : 1 ≤ z ∧ z ≤ 1000) (k : ∀ u s', H hB oB G ob s' → Q (.int (ilF l z) u) s') :
    wpAny (model prog w) A (call (.ref 109) [.ref x, .int z u]) Q E s := by
  refine r_fn C.fIl lim [("self", .ref x, 0), ("tabsize", .int z, u)] ["count", "trailing", "il", "i"] ["self", "tabsize", "count", "trailing", "il", "i"] ["len", "range"]
    [("self", some (.ref x)), ("tabsize", some (.int z)), ("count", none), ("trailing", none), ("il", none), ("i", none)] (by decide +kernel) (fun _ _ _ _ _ => BindsTo.of_eq (by with_unfolding_all rfl)) rm h ?_
  clear h
  intro L env A' E' s₁ rm' he h
  obtain ⟨dx, nm, ct, m1, m2, m3, m4⟩ := W.ex
  have fc := ws_facts hz
  obtain ⟨r3, pk3⟩ := pick_of_mem m3
  obtain ⟨r4, pk4⟩ := pick_of_mem m4
  refine wpAny_execs_cons ?_
  refine r_assignTup ?_
  repeat kct_strs
  refine r_getattrM (v := .ref nm) C.X ‹14› (.tail _ m1) (.tail _ m2) (by simp [wsAttrs]) C.ga C.norm (by rw [typeLookup_type, builtinLookup_eq_fast]; kernel_rfl) (fun _ => rfl) fun t s h => ?_
  repeat kct_strs
  refine wpAny_For ?_
  repeat kct_strs
  refine r_lenTup ‹14› (.tail _ m4) (le_size (by rw [List.length_map]; omega)) fun t s h => ?_
  rw [List.length_map]
  generalize hst : wsRun (wsHead l) = st at *
  repeat kct_strs
  have ne : ((st.1.length : Int) - z).toNat ≤ 501 := by omega
  refine r_forLoop (hB := hB) (oB := oB) (G := G) he (Itr.range _ z st.1.length) rm'.h
    (fun i => [("self", some (.ref x)), ("tabsize", some (.int z)), ("count", some (.ref ct)), ("trailing", some (.int st.2.1)), ("il", some (.int (ilGo st.1 z i))), ("i", none)])
    (fun i => [("self", some (.ref x)), ("tabsize", some (.int z)), ("count", some (.ref ct)), ("trailing", some (.int st.2.1)), ("il", some (.int (ilGo st.1 z i))), ("i", some (.int (z + (i : Int))))])
    (fun _ => ob) ?_ (fun i _ => by exact ‹7›) (fun i hi E' s h => ?_) (fun s h => ?_)
  · refine H.sub ?_ ‹14›
    have e0 : ilGo st.1 z 0 = 0 := rfl
    simp only [Int.natCast_zero, Int.add_zero, Int.sub_zero, e0, List.cons_append, List.nil_append]
    exact ‹12›
  · have e1 : ilGo st.1 z (i + 1) = ilGo st.1 z i + (z + (i : Int)).fdiv z * st.1.getD (z + (i : Int)).toNat 0 := rfl
    have b1 := ilGo_bound ht fc.1 i (by omega)
    have b2 := fdiv_bound (a := z + (i : Int)) (b := z) (by omega) (by omega)
    have hlt : (z + (i : Int)).toNat < st.1.length := by omega
    have hg : (st.1.map AV.int)[(z + (i : Int)).toNat]? = some (.int (st.1.getD (z + (i : Int)).toNat 0)) := by simp [List.getD_eq_getElem?_getD, hlt]
    have b3 := fc.1 (st.1.getD (z + (i : Int)).toNat 0) (by simp [List.getD_eq_getElem?_getD, hlt])
    kd_facts
    repeat kct_strs
    refine r_tailTup ‹14› (.there (.there pk4)) (by omega) (by omega) hg fun t => ?_
    repeat kct_strs
    refine H.sub ?_ ‹14›
    rw [e1]
    exact ‹12›
  · have b1 := ilGo_bound ht fc.1 ((st.1.length : Int) - z).toNat (by omega)
    kd_facts
    repeat kct_strs
    refine r_getattrM (v := .int st.2.2.2) C.X ‹14› (.tail _ m1) (.tail _ m2) (by rw [← hst]; simp [wsAttrs]) C.ga C.nt (by rw [typeLookup_type, builtinLookup_eq_fast]; kernel_rfl) (fun _ => rfl) fun t s h => ?_
    repeat kct_strs
    unfold ilF at k
    rw [hst] at k
    exact k _ _ (H.sub (.skip .refl) ‹14›)
theorem add2 (z : Int) : z + 1 + 1 - 2 = z := by omega
theorem two_bd {i : Nat} (h : i < 501) : 1 ≤ 2 + (i : Int) ∧ 2 + (i : Int) ≤ 1000 := by omega
noncomputable def simpF (l : List Nat) : Bool := decide ((wsRun (wsHead l)).1.length ≤ 1)
noncomputable def lessF (a b : List Nat) : Bool :=
  if (wsRun (wsHead a)).2.2.1 ≥ (wsRun (wsHead b)).2.2.1 then false
  else if simpF a && simpF b then decide ((wsRun (wsHead a)).2.2.2 ≤ (wsRun (wsHead b)).2.2.2)
  else (List.range (max (lrF a) (lrF b)).toNat).all fun i => decide (ilF a (2 + (i : Int)) < ilF b (2 + (i : Int)))
theorem lrF_bound {l : List Nat} (hz : l.length ≤ 500) : 0 ≤ lrF l ∧ lrF l ≤ 501 := by
  have := ws_facts hz
  unfold lrF
  omega
theorem r_wsN {expr : Bool} (C : WsM prog w hB mN) (h : H hB oB G ob s) (W : WsAt ob x l) (k : ∀ t s', H hB oB G ob s' → Q (.int (wsRun (wsHead l)).2.2.1 t) s') : wpAny (model prog w) A (getAttr (.ref x) "n" expr) Q E s := by
  obtain ⟨dx, nm, ct, m1, m2, m3, m4⟩ := W.ex
  exact r_getattrM (v := .int (wsRun (wsHead l)).2.2.1) C.X h m1 m2 (by simp [wsAttrs]) C.ga C.n (by rw [typeLookup_type, builtinLookup_eq_fast]; kernel_rfl) (fun _ => rfl) k
theorem r_wsT {expr : Bool} (C : WsM prog w hB mN) (h : H hB oB G ob s) (W : WsAt ob x l) (k : ∀ t s', H hB oB G ob s' → Q (.int (wsRun (wsHead l)).2.2.2 t) s') : wpAny (model prog w) A (getAttr (.ref x) "nt" expr) Q E s := by
  obtain ⟨dx, nm, ct, m1, m2, m3, m4⟩ := W.ex
  exact r_getattrM (v := .int (wsRun (wsHead l)).2.2.2) C.X h m1 m2 (by simp [wsAttrs]) C.ga C.nt (by rw [typeLookup_type, builtinLookup_eq_fast]; kernel_rfl) (fun _ => rfl) k
theorem r_wsS {expr : Bool} (C : WsM prog w hB mN) (h : H hB oB G ob s) (W : WsAt ob x l) (k : ∀ s', H hB oB G ob s' → Q (.bool (simpF l)) s') : wpAny (model prog w) A (getAttr (.ref x) "is_simple" expr) Q E s := by
  obtain ⟨dx, nm, ct, m1, m2, m3, m4⟩ := W.ex
  exact r_getattrM (v := .bool (simpF l)) C.X h m1 m2 (by simp [wsAttrs, simpF]) C.ga C.simple (by rw [typeLookup_type, builtinLookup_eq_fast]; kernel_rfl) (fun _ => rfl) fun _ => k
theorem r_wsLr {pl : Sem Bool} (C : WsM prog w hB mN) (h : H hB oB G ob s) (W : WsAt ob x l) {Q : Value × List Value → Shared → Prop} (k : Q (.ref 102, [.ref x]) s) : wpAny (model prog w) A (getMethod (.ref x) "longest_run_of_spaces" pl) Q E s := by
  obtain ⟨dx, nm, ct, m1, m2, m3, m4⟩ := W.ex
  obtain ⟨o, ho, hc⟩ := C.cLr
  exact r_methM (y := none) C.X h m1 m2 C.ga C.gt C.mLr ho hc (by rw [typeLookup_type, builtinLookup_eq_fast]; kernel_rfl) (by simp [wsAttrs]; decide +kernel) k
theorem r_wsIl {pl : Sem Bool} (C : WsM prog w hB mN) (h : H hB oB G ob s) (W : WsAt ob x l) {Q : Value × List Value → Shared → Prop} (k : Q (.ref 109, [.ref x]) s) : wpAny (model prog w) A (getMethod (.ref x) "indent_level" pl) Q E s := by
  obtain ⟨dx, nm, ct, m1, m2, m3, m4⟩ := W.ex
  obtain ⟨o, ho, hc⟩ := C.cIl
  exact r_methM (y := none) C.X h m1 m2 C.ga C.gt C.mIl ho hc (by rw [typeLookup_type, builtinLookup_eq_fast]; kernel_rfl) (by simp [wsAttrs]; decide +kernel) k
theorem r_wsLe {pl : Sem Bool} (C : WsM prog w hB mN) (h : H hB oB G ob s) (W : WsAt ob x l) {Q : Value × List Value → Shared → Prop} (k : Q (.ref 130, [.ref x]) s) : wpAny (model prog w) A (getMethod (.ref x) "less" pl) Q E s := by
  obtain ⟨dx, nm, ct, m1, m2, m3, m4⟩ := W.ex
  obtain ⟨o, ho, hc⟩ := C.cLe
  exact r_methM (y := none) C.X h m1 m2 C.ga C.gt C.mLe ho hc (by rw [typeLookup_type, builtinLookup_eq_fast]; kernel_rfl) (by simp [wsAttrs]; decide +kernel) k
set_option maxHeartbeats 1000000 in
theorem sp_less (C : WsM prog w hB mN) (lim : hB.NoLimit) (gl : Glob hB "len" (.builtin "len")) (gm : Glob hB "max" (.builtin "max")) (gr : Glob hB "range" (.type "range")) (rm : Rm 2 A)
    (h : H hB oB G ob s) {y : Addr} {l' : List Nat} (W : WsAt ob x l) (W' : WsAt ob y l') (hz : l.length ≤ 500) (hz' : l'.length ≤ 500) (k : ∀ s', H hB oB G ob s' → Q (.bool (lessF l l')) s') :
    wpAny (model prog w) A (call (.ref 130) [.ref x, .ref y]) Q E s := by
  refine r_fn C.fLe lim [("self", .ref x, 0), ("other", .ref y, 0)] ["n", "ts"] ["self", "other", "n", "ts"] ["max", "range"]
    [("self", some (.ref x)), ("other", some (.ref y)), ("n", none), ("ts", none)] (by decide +kernel) (fun _ _ _ _ _ => BindsTo.of_eq (by with_unfolding_all rfl)) rm h ?_
  clear h
  intro L env A' E' s₁ rm' he h
  have b1 := lrF_bound hz
  have b2 := lrF_bound hz'
  refine wpAny_execs_cons ?_
  kct_strs
  kct_strs
  kct_strs
  kct_strs
  refine r_wsN C ‹14› W.cons fun t s h => ?_
  kct_strs
  kct_strs
  refine r_wsN C ‹14› W'.cons fun t s h => ?_
  kct_strs
  kct_strs
  refine ite_b (fun q => ?_) (fun q => ?_)
  · repeat kct_strs
    have e : lessF l l' = false := by unfold lessF; rw [if_pos (of_decide_eq_true q)]
    rw [e] at k
    exact k _ (H.sub (.skip .refl) ‹14›)
  · have q' := of_decide_eq_false q
    repeat kct_strs
    have tail : ∀ s, (simpF l && simpF l') = false → H hB oB G ((L, nsp ["self", "other", "n", "ts"] [("self", some (.ref x)), ("other", some (.ref y)), ("n", none), ("ts", none)]) :: ob) s →
      wpAny (model prog w) A' (execs ((fnBody (meth 6)).drop 2) env) (fun f s'' => Q (match f with | .ret v => v | _ => .none) s'') E' s := by
      intro s hs h
      refine wpAny_execs_cons ?_
      repeat kct_strs
      refine r_methodV (hB := hB) (oB := oB) ?_
      repeat kct_strs
      refine ⟨_, _, C.fLr.isFn, fun Q' q => r_wsLr C ‹14› W.cons q, ?_⟩
      repeat kct_strs
      ktu_offI
      refine sp_longest C lim gl gm rm' ‹14› W.cons hz fun t s h => ?_
      repeat kct_strs
      refine r_methodV (hB := hB) (oB := oB) ?_
      repeat kct_strs
      refine ⟨_, _, C.fLr.isFn, fun Q' q => r_wsLr C ‹14› W'.cons q, ?_⟩
      repeat kct_strs
      ktu_offI
      refine sp_longest C lim gl gm rm' ‹14› W'.cons hz' fun t s h => ?_
      repeat kct_strs
      refine r_max2 rm'.h ‹14› fun t s h => ?_
      have mx : 0 ≤ max (lrF l) (lrF l') ∧ max (lrF l) (lrF l') ≤ 501 := ⟨Int.le_trans (lrF_bound hz).1 (Int.le_max_left _ _), Int.max_le.mpr ⟨(lrF_bound hz).2, (lrF_bound hz').2⟩⟩
      repeat kct_strs
      refine wpAny_For ?_
      repeat kct_strs
      have ne : (max (lrF l) (lrF l') + 1 + 1 - 2).toNat = (max (lrF l) (lrF l')).toNat := congrArg Int.toNat (add2 _)
      have el : lessF l l' = (List.range (max (lrF l) (lrF l')).toNat).all fun i => decide (ilF l (2 + (i : Int)) < ilF l' (2 + (i : Int))) := by
        unfold lessF; rw [if_neg q', if_neg (by rw [hs]; exact Bool.false_ne_true)]
      refine r_forLoopT (hB := hB) (oB := oB) (σ := Unit) he (ItrT.name (Itr.range _ 2 (max (lrF l) (lrF l') + 1 + 1))) rm'.h (fun i _ => ∀ j, j < i → ilF l (2 + (j : Int)) < ilF l' (2 + (j : Int)))
        (fun i _ => [("self", some (.ref x)), ("other", some (.ref y)), ("n", some (.int (max (lrF l) (lrF l') + 1))), ("ts", none)])
        (fun i _ => [("self", some (.ref x)), ("other", some (.ref y)), ("n", some (.int (max (lrF l) (lrF l') + 1))), ("ts", some (.int (2 + (i : Int))))])
        (fun _ _ => ob) (fun _ => G) () (fun j hj => absurd hj (Nat.not_lt_zero _)) ?_ (fun i _ _ => by exact ‹7›) (fun i _ hi hI E' s h => ?_) (fun _ hI s h => ?_)
      · refine H.sub ?_ ‹14›
        simp only [Int.natCast_zero, Int.add_zero, Int.sub_zero, List.cons_append, List.nil_append]
        exact ‹12›
      · kd_facts
        repeat kct_strs
        refine r_methodV (hB := hB) (oB := oB) ?_
        repeat kct_strs
        refine ⟨_, _, C.fIl.isFn, fun Q' q => r_wsIl C ‹14› W.cons.cons q, ?_⟩
        repeat kct_strs
        ktu_offI
        have hi5 := two_bd (Nat.lt_of_lt_of_le (by rw [← ne]; exact hi) (Int.toNat_le.mpr mx.2))
        refine sp_indent C lim gl gr rm' ‹14› W.cons.cons hz hi5 fun t s h => ?_
        repeat kct_strs
        refine r_methodV (hB := hB) (oB := oB) ?_
        repeat kct_strs
        refine ⟨_, _, C.fIl.isFn, fun Q' q => r_wsIl C ‹14› W'.cons.cons q, ?_⟩
        repeat kct_strs
        ktu_offI
        refine sp_indent C lim gl gr rm' ‹14› W'.cons.cons hz' hi5 fun t s h => ?_
        repeat kct_strs
        refine ite_b (fun q4 => ?_) (fun q4 => ?_)
        · repeat kct_strs
          have e : lessF l l' = false := by
            rw [el]
            refine List.all_eq_false.mpr ⟨i, List.mem_range.mpr (by rw [← ne]; exact hi), ?_⟩
            have := of_decide_eq_true q4
            rw [decide_eq_false (Int.not_lt.mpr this)]
            exact Bool.false_ne_true
          rw [e] at k
          exact k _ (H.sub (.skip (.skip .refl)) ‹14›)
        · repeat kct_strs
          refine ⟨(), fun j hj => ?_, ?_⟩
          · rcases Nat.lt_or_ge j i with c | c
            · exact hI j c
            · obtain rfl : j = i := Nat.le_antisymm (Nat.le_of_lt_succ hj) c
              exact Int.not_le.mp (of_decide_eq_false q4)
          · refine H.sub ?_ ‹14›
            exact ‹12›
      · kd_facts
        repeat kct_strs
        have e : lessF l l' = true := by
          rw [el]
          refine List.all_eq_true.mpr fun j hj => decide_eq_true (hI j ?_)
          rw [ne]
          exact List.mem_range.mp hj
        rw [e] at k
        exact k _ (H.sub (.skip .refl) ‹14›)
    refine isTrue_and ?_
    refine r_truth ?_ ?hs
    case hs => rfl
    kct_strs
    kct_strs
    refine r_wsS C ‹14› W.cons fun s h => ?_
    kct_strs
    refine ite_b (fun q2 => ?_) (fun q2 => ?_)
    · refine isTrue_and ?_
      refine r_truth ?_ ?hs
      case hs => rfl
      kct_strs
      kct_strs
      refine r_wsS C ‹14› W'.cons fun s h => ?_
      kct_strs
      refine ite_b (fun q3 => ?_) (fun q3 => ?_)
      · refine isTrue_and_nil ?_
        simp only [if_true]
        repeat kct_strs
        refine r_wsT C ‹14› W.cons fun t s h => ?_
        repeat kct_strs
        refine r_wsT C ‹14› W'.cons fun t s h => ?_
        repeat kct_strs
        have e : lessF l l' = decide ((wsRun (wsHead l)).2.2.2 ≤ (wsRun (wsHead l')).2.2.2) := by
          unfold lessF; rw [if_neg q', if_pos (by rw [q2, q3]; rfl)]
        rw [e] at k
        exact k _ (H.sub (.skip .refl) ‹14›)
      · simp only [Bool.false_eq_true, if_false]
        refine wpAny_execs_nil ?_
        exact tail _ (by rw [q2, q3]; rfl) ‹14›
    · simp only [Bool.false_eq_true, if_false]
      refine wpAny_execs_nil ?_
      exact tail _ (by rw [q2]; rfl) ‹14›
end

end
section
open PySem PySem.Calls PyProof.Rows PySem.W PySem.W.X
section
variable {prog : Program} {w : World} {A : Around} {fs : List Frame} {P : End → Shared → Prop} {s : Shared} {hB : Heap} {oB : OsState} {G : Array GenState} {R : Ledger} {env : Env} {L : Addr} {locs gs : List Str} {cl : List (Str × Addr)}
theorem x_forItem {tgt : Expr} {body : List Stmt} {I : Addr} {Le : Nat → Ledger} {fin : Ledger} {n i : Nat} {Pt : Nat → Lo → Lo → Prop} {lo lo' : Lo} (it : ItrT prog w hB oB tgt I Le fin n Pt) (hi : i < n)
    (hh : (A.over (.forLoop tgt (.ref I) body [] env) fs).handled = none) (he : Ev env L locs cl gs) (hp : Pt i lo lo') (h : H hB oB G (Le i ++ (L, nsp locs lo) :: R) s)
    (k : ∀ s', H hB oB G ((L, nsp locs lo') :: (Le (i + 1) ++ R)) s' → SegX (model prog w) A (.forLoop tgt (.ref I) body [] env) ((execs body env).wrap (fun f => match f with
            | .next | .cont => .pure (.again (.forLoop tgt (.ref I) body [] env))
            | .brk => .pure (.done .next)
            | .ret v => .pure (.done (.ret v))) (fun e => (do noteFrame e env; theTreesLotGoes e : Sem Unit).wrap (fun _ => .raise e) .raise id id) id id) fs s' P) :
    SegX (model prog w) A (.forLoop tgt (.ref I) body [] env) (denote table (.forLoop tgt (.ref I) body [] env)) fs s P := by
  refine x_forLoop ?_
  refine wpAny_mono (it.item i hi (A.over (.forLoop tgt (.ref I) body [] env) fs) G R s env L locs gs cl lo lo' (fun _ s₂ => SegX (model prog w) A (.forLoop tgt (.ref I) body [] env) ((execs body env).wrap (fun f => match f with
            | .next | .cont => .pure (.again (.forLoop tgt (.ref I) body [] env))
            | .brk => .pure (.done .next)
            | .ret v => .pure (.done (.ret v))) (fun e => (do noteFrame e env; theTreesLotGoes e : Sem Unit).wrap (fun _ => .raise e) .raise id id) id id) fs s₂ P)
      (fun x s' => SegX (model prog w) A (.forLoop tgt (.ref I) body [] env) ((do noteFrame x env; theTreesLotGoes x : Sem Unit).wrap (fun _ => .raise x) .raise id id) fs s' P) hh he hp h k) (fun r s₁ hr => ?_) fun _ _ e => e
  obtain ⟨v, rfl, hv⟩ := hr
  exact hv
theorem x_forDone {tgt : Expr} {body : List Stmt} {I : Addr} {Le : Nat → Ledger} {fin : Ledger} {n : Nat} {Pt : Nat → Lo → Lo → Prop} {k : Result → Sem Fin} {hd : Option Value} {g : Bool} {l : List Value} {c₁ : Code} {p₁ : Pos} {kp : List Value}
    (it : ItrT prog w hB oB tgt I Le fin n Pt)
    (hh : (A.over (.forLoop tgt (.ref I) body [] env) (.ret k hd g l c₁ p₁ kp :: fs)).handled = none) (h : H hB oB G (Le n ++ R) s)
    (q : ∀ s', H hB oB G (fin ++ R) s' → SegX (model prog w) A c₁ (k (.ok .next)) fs s' P) :
    SegX (model prog w) A (.forLoop tgt (.ref I) body [] env) (denote table (.forLoop tgt (.ref I) body [] env)) (.ret k hd g l c₁ p₁ kp :: fs) s P := by
  refine x_forLoop ?_
  exact it.done _ G R s _ _ hh h fun s h => x_block (x_nil (x_pop _ (q s h)))
theorem GSeg.step {us : List (List AV)} {n : Nat} {Lg Lg₂ : Ledger} {c c₂ : Code} {t t₂ : Sem Fin} {fs fs₂ : List Frame} (ih : GSeg prog w hB oB A us n Lg₂ c₂ t₂ fs₂)
    (k : ∀ s G R, H hB oB G (Lg ++ R) s → ∀ P, (∀ s₂, H hB oB G (Lg₂ ++ R) s₂ → SegX (model prog w) A c₂ t₂ fs₂ s₂ P) → SegX (model prog w) A c t fs s P) : GSeg prog w hB oB A us n Lg c t fs := by
  cases n with
  | zero => intro s G R h; exact k s G R h _ fun s₂ h₂ => ih s₂ G R h₂
  | succ n => intro s G R h; exact k s G R h _ fun s₂ h₂ => ih s₂ G R h₂
end
/-- the units of a text: (place, signs) -/
noncomputable def escGo : Nat → Bool → List Nat → List (Nat × List Nat)
  | _, false, [] => []
  | i, true, [] => [(i - 1, [92])]
  | i, true, c :: r => (i, [92, c]) :: escGo (i + 1) false r
  | i, false, c :: r => if c = 92 then escGo (i + 1) true r else (i, [c]) :: escGo (i + 1) false r
noncomputable def unitAV (l : List (Nat × List Nat)) : List (List AV) := l.map fun p => [.int p.1, .str (S p.2)]
noncomputable abbrev FnEsc (hB : Heap) : Prop := FnF hB 28 "_iter_escaped_chars" "_iter_escaped_chars" (fnParams (top 2)) (fnBody (top 2)) (fnScope (top 2)) .none .none
section
variable {prog : Program} {w : World} {A : Around} {E : Value → Shared → Prop} {s : Shared} {hB : Heap} {oB : OsState} {G : Array GenState} {ob rest R : Ledger}
theorem Rm.func {n : Nat} {b : List Stmt} {env : Env} (r : Rm (n + 1) A) : Rm n (A.over (.func b env) []) := by
  refine ⟨r.h, ?_, ?_⟩
  · have := r.d
    show A.depth + 0 + 1 + n ≤ 900; omega
  · have := r.u
    show A.units + 0 + 3 + 20 * n ≤ 5000; omega
theorem Rm.forIn {n : Nat} {b b' : List Stmt} {t : Expr} {it : Value} {env : Env} {k : Result → Sem Fin} {g : Bool} {l kp : List Value} {p : Pos} (r : Rm (n + 1) A) : Rm n (A.over (.forLoop t it b' [] env) [.ret k none g l (.func b env) p kp]) := by
  refine ⟨r.h, ?_, ?_⟩
  · have := r.d
    show A.depth + 1 + 0 + n ≤ 900; omega
  · have := r.u
    show A.units + 3 + 0 + 20 * n ≤ 5000; omega
noncomputable abbrev escLocs : List Str := ["addr", "pos", "escape", "ch"]
noncomputable abbrev escLg (l : List Nat) (L e it : Addr) (i : Nat) (esc : Bool) : Ledger :=
  [(e, enumO it i), (it, siter (S l) i), (L, nsp escLocs [("addr", some (.str (S l))), ("pos", some (.int ((i - 1 : Nat) : Int))), ("escape", some (.bool esc)), ("ch", none)])]
noncomputable def forOf : Stmt → Expr × List Stmt
  | .For t _ b _ _ => (t, b)
  | _ => (.Name "x" ⟨0, 0, 0, 0⟩, [])
noncomputable abbrev escT : Expr := (forOf (nthS 2 (fnBody (top 2)))).1
noncomputable abbrev escB : List Stmt := (forOf (nthS 2 (fnBody (top 2)))).2
theorem drop_cons {α : Type} (d : α) {l : List α} {i : Nat} (hi : i < l.length) : l.drop i = l.getD i d :: l.drop (i + 1) := by
  rw [List.drop_eq_getElem_cons hi]; simp [List.getD_eq_getElem?_getD, hi]
noncomputable def funcK : Flow → Sem Fin := fun f => .pure (.done (.ret (match f with | .ret v => v | _ => .none)))
noncomputable def funcH (env : Env) : Value → Sem Fin := fun e => (leaving env e).wrap (fun _ => .raise e) .raise id id
noncomputable def consK (env : Env) (rest : List Stmt) (K : Flow → Sem Fin) (H' : Value → Sem Fin) (gd : Bool → Bool) (lv : List Value → List Value) : Flow → Sem Fin := fun f => match f with
  | .next => (execs rest env).wrap K H' gd lv
  | f => K f
noncomputable def escK (env : Env) : Result → Sem Fin := forK (consK env ((fnBody (top 2)).drop 3) funcK (funcH env) id id) (funcH env) id id env
set_option maxHeartbeats 1000000 in
theorem esc_loop {l : List Nat} {L e it : Addr} {env : Env} {p : Pos} (rm : Rm 2 A) (he : Ev env L escLocs [] ["enumerate"]) (hco : env.scope.isCoroutine = false) (hl : l.length ≤ 100000) :
    ∀ (k i : Nat) (esc : Bool) (us pre : List (List AV)), l.length - i = k → i ≤ l.length → us = pre ++ unitAV (escGo i esc (l.drop i)) →
      GSeg prog w hB oB A us (unitAV (escGo i esc (l.drop i))).length (escLg l L e it i esc) (.forLoop escT (.ref e) escB [] env) (denote table (.forLoop escT (.ref e) escB [] env))
        [.ret (escK env) none false [] (.func (fnBody (top 2)) env) p []] := by
  intro k
  have hn : (S l).cps.size = l.length := S_size l
  have hE : ItrT prog w hB oB escT e _ _ _ _ := ItrT.enumStr (prog := prog) (w := w) (hB := hB) (oB := oB) e it (S l)
  rw [hn] at hE
  have e92 : Str.ofString "\\" = S [92] := by decide +kernel
  induction k with
  | zero =>
    intro i esc us pre hk hi hus
    have hin : i = l.length := by omega
    subst hin
    rw [List.drop_length] at hus ⊢
    have hr2 : Rm 1 (A.over (.func (fnBody (top 2)) env) []) := rm.func
    cases esc with
    | false =>
      show GSeg prog w hB oB A us 0 _ _ _ _
      intro s G R h
      refine x_forDone hE rm.h h fun s h => ?_
      show SegX (model prog w) A (.func (fnBody (top 2)) env) ((execs ((fnBody (top 2)).drop 3) env).wrap funcK (funcH env) id id) [] s _
      replace h : H hB oB G ((L, nsp escLocs [("addr", some (.str (S l))), ("pos", some (.int ((l.length - 1 : Nat) : Int))), ("escape", some (.bool false)), ("ch", none)]) :: R) s := h
      refine x_cons ?_
      refine x_If ?_
      refine r_truth ?_ ?hs
      case hs => rfl
      kct_strs
      kct_strs
      rw [if_neg Bool.false_ne_true]
      refine x_nil ?_
      refine x_nil ?_
      refine x_done _ ?_
      exact ⟨rfl, h.drop⟩
    | true =>
      show GSeg prog w hB oB A us 1 _ _ _ _
      intro s G R h
      refine x_forDone hE rm.h h fun s h => ?_
      show SegX (model prog w) A (.func (fnBody (top 2)) env) ((execs ((fnBody (top 2)).drop 3) env).wrap funcK (funcH env) id id) [] s _
      replace h : H hB oB G ((L, nsp escLocs [("addr", some (.str (S l))), ("pos", some (.int ((l.length - 1 : Nat) : Int))), ("escape", some (.bool true)), ("ch", none)]) :: R) s := h
      refine x_cons ?_
      refine x_If ?_
      refine r_truth ?_ ?hs
      case hs => rfl
      kct_strs
      kct_strs
      rw [if_pos rfl]
      refine x_cons ?_
      refine x_Yield rfl rfl rfl ?_ hco he.int
      repeat kct_strs
      refine ⟨_, _, _, by exact ‹13›, le_size (by simp only [List.length_cons, List.length_nil]; omega), ‹14›, fun T s h => ?_⟩
      intro ll kk pp hk2
      rw [e92] at h
      refine ⟨T, [_], _, ?_, rfl, h, ?_⟩
      · rw [hus]; simp [unitAV, escGo]
      · intro s G R h
        refine hk2 _ _ (x_nil (x_nil (x_done _ ?_)))
        exact ⟨rfl, h.drop⟩
  | succ k ih =>
    intro i esc us pre hk hi hus
    have hlt : i < l.length := by omega
    rw [drop_cons 0 hlt] at hus ⊢
    have hr : Rm 1 (A.over (.forLoop escT (.ref e) escB [] env) [.ret (escK env) none false [] (.func (fnBody (top 2)) env) p []]) := rm.forIn
    have hsg : sgn (S l) i = .str (S [l.getD i 0]) := S_sgn l i
    cases esc with
    | true =>
      have ee : escGo i true (l.getD i 0 :: l.drop (i + 1)) = (i, [92, l.getD i 0]) :: escGo (i + 1) false (l.drop (i + 1)) := rfl
      rw [ee] at hus ⊢
      have ihh := ih (i + 1) false us (pre ++ [[.int (i : Nat), .str (S [92, l.getD i 0])]]) (by omega) hlt (by rw [hus]; simp [unitAV])
      have hlen : us.length = pre.length + ((unitAV (escGo (i + 1) false (l.drop (i + 1)))).length + 1) := by rw [hus]; simp [unitAV]
      show GSeg prog w hB oB A us ((unitAV (escGo (i + 1) false (l.drop (i + 1)))).length + 1) _ _ _ _
      intro s G R h
      refine x_forItem (lo := [("addr", some (.str (S l))), ("pos", some (.int ((i - 1 : Nat) : Int))), ("escape", some (.bool true)), ("ch", none)]) (lo' := [("addr", some (.str (S l))), ("pos", some (.int ((i : Nat) : Int))), ("escape", some (.bool true)), ("ch", some (.str (S [l.getD i 0])))]) hE hlt hr.h he ⟨_, .there .here, by rw [hsg]; exact .there (.there (.there .here))⟩ h fun s h => ?_
      replace h : H hB oB G ((L, nsp escLocs [("addr", some (.str (S l))), ("pos", some (.int ((i : Nat) : Int))), ("escape", some (.bool true)), ("ch", some (.str (S [l.getD i 0])))]) :: (e, enumO it ((i + 1 : Nat) : Int)) :: (it, siter (S l) (i + 1)) :: R) s := h
      refine x_cons ?_
      refine x_If ?_
      refine r_truth ?_ ?hs
      case hs => rfl
      kct_strs
      kct_strs
      rw [if_pos rfl]
      refine x_cons ?_
      refine x_Yield rfl rfl rfl ?_ hco he.int
      repeat kct_strs
      rw [e92]
      repeat kct_strs
      refine ⟨_, _, _, by exact ‹13›, le_size (by simp only [List.length_cons, List.length_nil]; omega), ‹14›, fun T s h => ?_⟩
      intro ll kk pp hk2
      refine ⟨T, [_, _, _], _, ?_, rfl, h, ?_⟩
      · rw [hlen, hus]; simp [unitAV]
      · refine GSeg.step ihh fun s G R h P hI => ?_
        refine hk2 _ _ ?_
        replace h : H hB oB G ((L, nsp escLocs [("addr", some (.str (S l))), ("pos", some (.int ((i : Nat) : Int))), ("escape", some (.bool true)), ("ch", some (.str (S [l.getD i 0])))]) :: (e, enumO it ((i + 1 : Nat) : Int)) :: (it, siter (S l) (i + 1)) :: R) s := h
        refine x_cons ?_
        refine x_stmt ?_
        repeat kct_strs
        refine x_nil ?_
        refine s_again prog w A _ _ _ _ _ rfl (hI _ (H.sub ?_ ‹14›))
        show SubL ((e, enumO it ((i + 1 : Nat) : Int)) :: (it, siter (S l) (i + 1)) :: (L, nsp escLocs [("addr", some (.str (S l))), ("pos", some (.int (((i + 1) - 1 : Nat) : Int))), ("escape", some (.bool false)), ("ch", none)]) :: R) _
        exact ‹12›
    | false =>
      by_cases q : l.getD i 0 = 92
      · have ee : escGo i false (l.getD i 0 :: l.drop (i + 1)) = escGo (i + 1) true (l.drop (i + 1)) := by
          show (if l.getD i 0 = 92 then _ else _) = _
          rw [if_pos q]
        rw [ee] at hus ⊢
        have ihh := ih (i + 1) true us pre (by omega) hlt hus
        refine GSeg.step ihh fun s G R h P hI => ?_
        refine x_forItem (lo := [("addr", some (.str (S l))), ("pos", some (.int ((i - 1 : Nat) : Int))), ("escape", some (.bool false)), ("ch", none)]) (lo' := [("addr", some (.str (S l))), ("pos", some (.int ((i : Nat) : Int))), ("escape", some (.bool false)), ("ch", some (.str (S [l.getD i 0])))]) hE hlt hr.h he ⟨_, .there .here, by rw [hsg]; exact .there (.there (.there .here))⟩ h fun s h => ?_
        replace h : H hB oB G ((L, nsp escLocs [("addr", some (.str (S l))), ("pos", some (.int ((i : Nat) : Int))), ("escape", some (.bool false)), ("ch", some (.str (S [l.getD i 0])))]) :: (e, enumO it ((i + 1 : Nat) : Int)) :: (it, siter (S l) (i + 1)) :: R) s := h
        refine x_cons ?_
        refine x_If ?_
        refine r_truth ?_ ?hs
        case hs => rfl
        kct_strs
        kct_strs
        rw [if_neg Bool.false_ne_true]
        refine x_cons ?_
        refine x_If ?_
        repeat kct_strs
        rw [e92, S_beq]
        rw [if_pos (by simpa using q)]
        refine x_cons ?_
        refine x_stmt ?_
        repeat kct_strs
        refine x_nil ?_
        refine x_nil ?_
        refine s_again prog w A _ _ _ _ _ rfl (hI _ (H.sub ?_ ‹14›))
        show SubL ((e, enumO it ((i + 1 : Nat) : Int)) :: (it, siter (S l) (i + 1)) :: (L, nsp escLocs [("addr", some (.str (S l))), ("pos", some (.int (((i + 1) - 1 : Nat) : Int))), ("escape", some (.bool true)), ("ch", none)]) :: R) _
        exact ‹12›
      · have ee : escGo i false (l.getD i 0 :: l.drop (i + 1)) = (i, [l.getD i 0]) :: escGo (i + 1) false (l.drop (i + 1)) := by
          show (if l.getD i 0 = 92 then _ else _) = _
          rw [if_neg q]
        rw [ee] at hus ⊢
        have ihh := ih (i + 1) false us (pre ++ [[.int (i : Nat), .str (S [l.getD i 0])]]) (by omega) hlt (by rw [hus]; simp [unitAV])
        have hlen : us.length = pre.length + ((unitAV (escGo (i + 1) false (l.drop (i + 1)))).length + 1) := by rw [hus]; simp [unitAV]
        show GSeg prog w hB oB A us ((unitAV (escGo (i + 1) false (l.drop (i + 1)))).length + 1) _ _ _ _
        intro s G R h
        refine x_forItem (lo := [("addr", some (.str (S l))), ("pos", some (.int ((i - 1 : Nat) : Int))), ("escape", some (.bool false)), ("ch", none)]) (lo' := [("addr", some (.str (S l))), ("pos", some (.int ((i : Nat) : Int))), ("escape", some (.bool false)), ("ch", some (.str (S [l.getD i 0])))]) hE hlt hr.h he ⟨_, .there .here, by rw [hsg]; exact .there (.there (.there .here))⟩ h fun s h => ?_
        replace h : H hB oB G ((L, nsp escLocs [("addr", some (.str (S l))), ("pos", some (.int ((i : Nat) : Int))), ("escape", some (.bool false)), ("ch", some (.str (S [l.getD i 0])))]) :: (e, enumO it ((i + 1 : Nat) : Int)) :: (it, siter (S l) (i + 1)) :: R) s := h
        refine x_cons ?_
        refine x_If ?_
        refine r_truth ?_ ?hs
        case hs => rfl
        kct_strs
        kct_strs
        rw [if_neg Bool.false_ne_true]
        refine x_cons ?_
        refine x_If ?_
        repeat kct_strs
        rw [e92, S_beq]
        rw [if_neg (by simpa using q)]
        refine x_cons ?_
        refine x_Yield rfl rfl rfl ?_ hco he.int
        repeat kct_strs
        refine ⟨_, _, _, by exact ‹13›, le_size (by simp only [List.length_cons, List.length_nil]; omega), ‹14›, fun T s h => ?_⟩
        intro ll kk pp hk2
        refine ⟨T, [_, _, _], _, ?_, rfl, h, ?_⟩
        · rw [hlen, hus]; simp [unitAV]
        · refine GSeg.step ihh fun s G R h P hI => ?_
          refine hk2 _ _ ?_
          replace h : H hB oB G ((L, nsp escLocs [("addr", some (.str (S l))), ("pos", some (.int ((i : Nat) : Int))), ("escape", some (.bool false)), ("ch", some (.str (S [l.getD i 0])))]) :: (e, enumO it ((i + 1 : Nat) : Int)) :: (it, siter (S l) (i + 1)) :: R) s := h
          refine x_nil ?_
          refine x_nil ?_
          refine s_again prog w A _ _ _ _ _ rfl (hI _ (H.sub ?_ ‹14›))
          show SubL ((e, enumO it ((i + 1 : Nat) : Int)) :: (it, siter (S l) (i + 1)) :: (L, nsp escLocs [("addr", some (.str (S l))), ("pos", some (.int (((i + 1) - 1 : Nat) : Int))), ("escape", some (.bool false)), ("ch", none)]) :: R) _
          exact ‹12›
end

end
section
open PySem PySem.Calls PyProof.Rows PySem.W PySem.W.X
section
variable {prog : Program} {w : World} {A : Around} {E : Value → Shared → Prop} {s : Shared} {hB : Heap} {oB : OsState} {G : Array GenState} {ob rest R : Ledger} {env : Env} {L : Addr} {locs gs : List Str} {cl : List (Str × Addr)}
set_option maxHeartbeats 1000000 in
theorem esc_start {l : List Nat} {L : Addr} {env : Env} (ge : Glob hB "enumerate" (.type "enumerate")) (rm : Rm 2 A) (he : Ev env L escLocs [] ["enumerate"]) (hco : env.scope.isCoroutine = false) (hl : l.length ≤ 100000) :
    GSeg prog w hB oB A (unitAV (escGo 0 false l)) (unitAV (escGo 0 false l)).length [(L, nsp escLocs [("addr", some (.str (S l))), ("pos", none), ("escape", none), ("ch", none)])] (.func (fnBody (top 2)) env)
      (denote table (.func (fnBody (top 2)) env)) [] := by
  have main : ∀ e it p, GSeg prog w hB oB A (unitAV (escGo 0 false l)) (unitAV (escGo 0 false l)).length (escLg l L e it 0 false) (.forLoop escT (.ref e) escB [] env) (denote table (.forLoop escT (.ref e) escB [] env))
        [.ret (escK env) none false [] (.func (fnBody (top 2)) env) p []] := fun e it p => esc_loop rm he hco hl l.length 0 false _ [] rfl (Nat.zero_le _) rfl
  have key : ∀ s G R, H hB oB G ([(L, nsp escLocs [("addr", some (.str (S l))), ("pos", none), ("escape", none), ("ch", none)])] ++ R) s → ∀ P,
      (∀ e it p s₂, H hB oB G (escLg l L e it 0 false ++ R) s₂ → SegX (model prog w) A (.forLoop escT (.ref e) escB [] env) (denote table (.forLoop escT (.ref e) escB [] env)) [.ret (escK env) none false [] (.func (fnBody (top 2)) env) p []] s₂ P) →
      SegX (model prog w) A (.func (fnBody (top 2)) env) (denote table (.func (fnBody (top 2)) env)) [] s P := by
    intro s G R h P hk
    have hr : Rm 1 (A.over (.func (fnBody (top 2)) env) []) := rm.func
    replace h : H hB oB G ((L, nsp escLocs [("addr", some (.str (S l))), ("pos", none), ("escape", none), ("ch", none)]) :: R) s := h
    refine x_func ?_
    refine x_cons ?_
    refine x_stmt ?_
    repeat kct_strs
    refine x_cons ?_
    refine x_stmt ?_
    repeat kct_strs
    refine x_cons ?_
    refine x_For ?_
    repeat kct_strs
    refine r_enumStr ‹14› fun e it s h => ?_
    refine r_iterEnum h .here ?_
    intro p
    refine hk e it p s (H.sub ?_ h)
    show SubL ((e, enumO it ((0 : Nat) : Int)) :: (it, siter (S l) 0) :: (L, nsp escLocs [("addr", some (.str (S l))), ("pos", some (.int ((0 - 1 : Nat) : Int))), ("escape", some (.bool false)), ("ch", none)]) :: R) _
    exact ‹12›
  generalize hn : (unitAV (escGo 0 false l)).length = n at main ⊢
  cases n with
  | zero => intro s G R h; exact key s G R h _ fun e it p s₂ h₂ => main e it p s₂ G R h₂
  | succ n => intro s G R h; exact key s G R h _ fun e it p s₂ h₂ => main e it p s₂ G R h₂
/-- the call of _iter_escaped_chars -/
theorem sp_esc {l : List Nat} {t : Tok} {n : Nat} {Q : Value → Shared → Prop} (fw : FnEsc hB) (lim : hB.NoLimit) (ge : Glob hB "enumerate" (.type "enumerate")) (rm : Rm n A) (h : H hB oB G ob s) (hb : Bare G) (hl : l.length ≤ 100000)
    (k : ∀ a Lg g G' s', (∀ A, Rm 2 A → GenAtG prog w hB oB A (unitAV (escGo 0 false l)) 0 Lg G' g) → Bare G' → H hB oB G' ((a, genO g) :: (Lg ++ ob)) s' → Q (.ref a) s') :
    wpAny (model prog w) A (call (.ref 28) [.str (S l) t]) Q E s := by
  refine r_genCall fw lim [("addr", .str (S l), t)] ["pos", "escape", "ch"] escLocs ["enumerate"] [("addr", some (.str (S l))), ("pos", none), ("escape", none), ("ch", none)] (by decide +kernel) (fun _ _ _ _ _ => by with_unfolding_all rfl) rm h
    fun L env a s' he hco h' => ?_
  exact k a [_] G.size _ _ (fun A rm => ⟨.inl ⟨.func (fnBody (top 2)) env, by simp, esc_start ge rm he hco hl⟩⟩) (hb.push rfl) h'
/-- (x, y) drawn from a generator -/
theorem letGo_gen {a T : Addr} {g : Nat} {es : List Expr} {c : Nat} {tp : Pos} {Q : Unit → Shared → Prop} (h : H hB oB G ob s) (m : (a, genO g) ∈ ob) (k : Q () s) : wpAny (model prog w) A (letOwnedTupleGo (.Tuple es c tp) (.ref a) (.ref T)) Q E s := by
  obtain ⟨o, ho, hc, ⟨nm, qn, hd⟩, hs⟩ := h.getM m
  unfold letOwnedTupleGo
  refine wpAny_bind (wpAny_load ho ?_)
  rw [hc, hd]
  exact wpAny_pure k
/-- for x, y in a generator -/
theorem r_forGen {σ : Type} {x y : Str} {px py tp : Pos} {c : Nat} {body : List Stmt} {a : Addr} {g : Nat} {Lg : Ledger} {us : List (List AV)} {Q : Flow → Shared → Prop} {Ex : Value → Shared → Prop}
    (he : Ev env L locs cl gs) (hh : A.handled = none) (lim : hB.NoLimit) (hroom : A.depth < recursionLimit) (Inv : Nat → σ → Prop) (lo lo' : Nat → σ → Lo) (J : Nat → σ → Ledger) (x0 : σ) (h0 : Inv 0 x0)
    (hg : GenAtG prog w hB oB A.in1 us 0 Lg G g) (hb : Bare G) (h : H hB oB G ((a, genO g) :: (Lg ++ (L, nsp locs (lo 0 x0)) :: J 0 x0)) s)
    (hput : ∀ i z, i < us.length → Inv i z → ∃ v1 v2 l1, us.getD i [] = [v1, v2] ∧ Put x v1 (lo i z) l1 ∧ Put y v2 l1 (lo' i z))
    (hbody : ∀ i z, i < us.length → Inv i z → ∀ G' Lg' E' s', Bare G' → H hB oB G' ((L, nsp locs (lo' i z)) :: (J i z ++ (a, genO g) :: Lg')) s' →
      wpAny (model prog w) A (execs body env) (TurnEnd Q fun s'' => ∃ z', Inv (i + 1) z' ∧ H hB oB G' ((L, nsp locs (lo (i + 1) z')) :: (J (i + 1) z' ++ (a, genO g) :: Lg')) s'') E' s')
    (hend : ∀ z, Inv us.length z → ∀ G' s', Bare G' → H hB oB G' ((L, nsp locs (lo us.length z)) :: (a, genO g) :: J us.length z) s' → Q .next s') :
    codeAny (model prog w) A (.forLoop (.Tuple [.Name x px, .Name y py] c tp) (.ref a) body [] env) (fun r s' => match r with | .ok f => Q f s' | .error e => Ex e s') s := by
  refine codeAny_forLoop_any (fun k s' => ∃ i z G' Lg', i ≤ us.length ∧ k = us.length - i ∧ Inv i z ∧ Bare G' ∧ GenAtG prog w hB oB A.in1 us i Lg' G' g ∧ H hB oB G' ((a, genO g) :: (Lg' ++ (L, nsp locs (lo i z)) :: J i z)) s') ?_ us.length ⟨0, x0, G, Lg, Nat.zero_le _, rfl, h0, hb, hg, h⟩
  rintro k s' ⟨i, z, G', Lg', hi, rfl, hI, hb', hg', h'⟩
  by_cases hlt : i < us.length
  · refine gen_item lim hroom hlt hg' hb' h' fun T Lg2 G2 s2 hg2 hb2 h2 => ?_
    obtain ⟨v1, v2, l1, e, p1, p2⟩ := hput i z hlt hI
    rw [e] at h2
    refine letGo_gen h2 (.tail _ (.head _)) ?_
    refine r_unpack2 hh h2 .here fun t1 t2 s3 h3 => ?_
    have pL : ∀ lo, Pick L (nsp locs lo) ((T, tup [v1, v2]) :: (a, genO g) :: (Lg2 ++ (L, nsp locs lo) :: J i z)) ((T, tup [v1, v2]) :: (a, genO g) :: (Lg2 ++ J i z)) := fun lo => .there (.there (pick_mid _))
    refine r_store he h3 (pL _) p1 fun s4 h4 => ?_
    refine r_store he h4 .here p2 fun s5 h5 => ?_
    have pm : ∀ (x : Addr × OP) (J : Ledger), List.Perm (x :: (a, genO g) :: (Lg2 ++ J)) (x :: (J ++ (a, genO g) :: Lg2)) := fun x J =>
      List.Perm.cons _ ((List.Perm.cons _ List.perm_append_comm).trans List.perm_middle.symm)
    refine wpAny_mono (hbody i z hlt hI G2 Lg2 _ s5 hb2 ((h5.sub (.cons .here (fun _ h => h) (.skip .refl))).perm (pm (L, nsp locs (lo' i z)) (J i z)))) (fun f s6 k => ?_) fun _ _ e => e
    have back : ∀ z', H hB oB G2 ((L, nsp locs (lo (i + 1) z')) :: (J (i + 1) z' ++ (a, genO g) :: Lg2)) s6 → H hB oB G2 ((a, genO g) :: (Lg2 ++ (L, nsp locs (lo (i + 1) z')) :: J (i + 1) z')) s6 := fun z' h6 =>
      h6.perm ((pm _ _).symm.trans (((List.Perm.swap _ _ _)).trans (List.Perm.cons _ List.perm_middle.symm)))
    cases f with
    | next => obtain ⟨z', k1, k2⟩ := k; exact ⟨us.length - (i + 1), by omega, i + 1, z', G2, Lg2, hlt, rfl, k1, hb2, hg2, back z' k2⟩
    | cont => obtain ⟨z', k1, k2⟩ := k; exact ⟨us.length - (i + 1), by omega, i + 1, z', G2, Lg2, hlt, rfl, k1, hb2, hg2, back z' k2⟩
    | brk => exact k
    | ret v => exact k
  · have : i = us.length := by omega
    subst this
    refine gen_done hh lim hroom hg' hb' h' fun G2 s2 hb2 h2 => wpAny_execs_nil ?_
    exact hend z hI G2 s2 hb2 h2.swap
end

end
section
open PySem PySem.Calls PyProof.Rows PySem.W PySem.Builtin PySem.Builtin.Str
theorem slice_ab (l : List Nat) (a b : Nat) (ha : a ≤ l.length) (hb : b ≤ l.length) : Txt.slice (S l) (some (a : Int)) (some (b : Int)) = S ((l.take b).drop a) := by
  have hi : strSliceIndices (some (a : Int)) (some (b : Int)) 1 l.length = sliceRange a b 1 := by
    unfold strSliceIndices
    simp only [show (1 : Int) > 0 by decide, if_true]
    congr 1
    · split <;> omega
    · split <;> omega
  rcases Nat.le_total a b with h | h
  · rw [slice_gen l _ _ a b h hb hi, List.drop_take]
  · have hr : sliceRange a b 1 = [] := by
      unfold sliceRange
      have : (if (1:Int) > 0 then (if (a:Int) < b then ((b:Int) - a + 1 - 1) / 1 else 0) else (if (a:Int) > b then ((a:Int) - b - 1 - 1) / (-1) else 0)).toNat = 0 := by
        rw [if_pos (by decide), if_neg (by omega)]; rfl
      dsimp only
      rw [this]; rfl
    unfold Txt.slice
    rw [S_len, hi, hr]
    have e : (l.take b).drop a = [] := List.drop_eq_nil_of_le (by rw [List.length_take]; omega)
    rw [e]
    split
    · rename_i q
      simp at q
      have : l = [] := List.length_eq_zero_iff.mp q.symm
      rw [this]
    · rfl
theorem SubL.pre {l r : Ledger} : ∀ (Lg : Ledger), SubL r l → SubL (Lg ++ r) (Lg ++ l)
  | [], h => h
  | _ :: Lg, h => .cons .here (fun _ h => h) (SubL.pre Lg h)
/-- the front of a ledger -/
theorem SubL.of_app {R : Ledger} : ∀ (ob : Ledger), SubL ob (ob ++ R)
  | [] => .nil
  | _ :: ob => .cons .here (fun _ h => h) (SubL.of_app ob)
noncomputable def stStep (l : List Nat) (st : Nat × Option Nat × List (List Nat)) (u : Nat × List Nat) : Nat × Option Nat × List (List Nat) :=
  if u.2 = [34] then match st.2.1 with
    | none => (st.1, some u.1, st.2.2)
    | some o => (u.1 + 1, none, if st.1 = o then st.2.2 else st.2.2 ++ [(l.take o).drop st.1])
  else st
noncomputable def stEnd (l : List Nat) (us : List (Nat × List Nat)) : Nat × Option Nat × List (List Nat) := us.foldl (stStep l) (0, none, [])
noncomputable def stripF (l : List Nat) : List Nat :=
  if 34 ∈ l then ((stEnd l (escGo 0 false l)).2.2 ++ (if (stEnd l (escGo 0 false l)).1 < l.length then [l.drop (stEnd l (escGo 0 false l)).1] else [])).flatten else l
theorem escGo_pos : ∀ (r : List Nat) (i : Nat) (esc : Bool), ∀ u ∈ escGo i esc r, u.1 ≤ i + r.length - 1 ∧ 1 ≤ u.2.length ∧ u.2.length ≤ 2
  | [], _, false, u, h => nomatch h
  | [], i, true, u, h => by
    cases List.mem_singleton.mp h
    exact ⟨by show i - 1 ≤ _; simp, by simp, by simp⟩
  | c :: r, i, true, u, h => by
    rcases List.mem_cons.mp h with rfl | h
    · exact ⟨by show i ≤ _; simp, by simp, by simp⟩
    · have := escGo_pos r (i + 1) false u h
      rw [List.length_cons]; omega
  | c :: r, i, false, u, h => by
    by_cases q : c = 92
    · have h2 : u ∈ escGo (i + 1) true r := by
        have : u ∈ (if c = 92 then escGo (i + 1) true r else _) := h
        rwa [if_pos q] at this
      have := escGo_pos r (i + 1) true u h2
      rw [List.length_cons]; omega
    · have h2 : u ∈ (i, [c]) :: escGo (i + 1) false r := by
        have : u ∈ (if c = 92 then escGo (i + 1) true r else _) := h
        rwa [if_neg q] at this
      rcases List.mem_cons.mp h2 with rfl | h2
      · exact ⟨by show i ≤ _; simp, by simp, by simp⟩
      · have := escGo_pos r (i + 1) false u h2
        rw [List.length_cons]; omega
theorem escGo_len : ∀ (r : List Nat) (i : Nat) (esc : Bool), (escGo i esc r).length ≤ r.length + 1
  | [], _, false => by simp [escGo]
  | [], i, true => by simp [escGo]
  | c :: r, i, true => by
    have := escGo_len r (i + 1) false
    show ((i, [92, c]) :: escGo (i + 1) false r).length ≤ _
    simp; omega
  | c :: r, i, false => by
    have h1 := escGo_len r (i + 1) false
    have h2 := escGo_len r (i + 1) true
    show (if c = 92 then escGo (i + 1) true r else (i, [c]) :: escGo (i + 1) false r).length ≤ _
    split <;> simp <;> omega
theorem stEnd_bound (l : List Nat) (hl : l ≠ []) (us : List (Nat × List Nat)) (hu : ∀ u ∈ us, u.1 ≤ l.length - 1) :
    (stEnd l us).1 ≤ l.length ∧ (∀ o, (stEnd l us).2.1 = some o → o ≤ l.length) ∧ (stEnd l us).2.2.length ≤ us.length ∧ ∀ x ∈ (stEnd l us).2.2, x.length ≤ l.length := by
  have hp : 1 ≤ l.length := List.length_pos_iff.mpr hl
  suffices ∀ (us : List (Nat × List Nat)) (k : Nat) (st : Nat × Option Nat × List (List Nat)), (∀ u ∈ us, u.1 ≤ l.length - 1) → st.1 ≤ l.length → (∀ o, st.2.1 = some o → o ≤ l.length) → st.2.2.length ≤ k → (∀ x ∈ st.2.2, x.length ≤ l.length) →
      (us.foldl (stStep l) st).1 ≤ l.length ∧ (∀ o, (us.foldl (stStep l) st).2.1 = some o → o ≤ l.length) ∧ (us.foldl (stStep l) st).2.2.length ≤ k + us.length ∧ ∀ x ∈ (us.foldl (stStep l) st).2.2, x.length ≤ l.length by
    have := this us 0 (0, none, []) hu (Nat.zero_le _) (fun _ h => nomatch h) (Nat.le_refl _) (fun _ h => nomatch h)
    simpa [stEnd] using this
  intro us
  induction us with
  | nil => intro k st _ h1 h2 h3 h4; exact ⟨h1, h2, h3, h4⟩
  | cons u r ih =>
    intro k st hu h1 h2 h3 h4
    rw [List.foldl_cons, List.length_cons, show k + (r.length + 1) = (k + 1) + r.length by omega]
    have hu1 := hu u (.head _)
    refine ih (k + 1) _ (fun v hv => hu v (.tail _ hv)) ?_ ?_ ?_ ?_
    · unfold stStep
      split
      · split
        · exact h1
        · show u.1 + 1 ≤ _; omega
      · exact h1
    · unfold stStep
      split
      · split
        · intro o ho; cases ho; show u.1 ≤ _; omega
        · intro o ho; cases ho
      · exact h2
    · unfold stStep
      split
      · split
        · show st.2.2.length ≤ _; omega
        · show (if _ then _ else _ : List (List Nat)).length ≤ _
          split
          · omega
          · rw [List.length_append]; simp; omega
      · show st.2.2.length ≤ _; omega
    · unfold stStep
      split
      · split
        · exact h4
        · intro x hx
          have hx : x ∈ (if _ then _ else _ : List (List Nat)) := hx
          split at hx
          · exact h4 x hx
          · rcases List.mem_append.mp hx with hx | hx
            · exact h4 x hx
            · cases List.mem_singleton.mp hx
              rw [List.length_drop, List.length_take]; omega
      · exact h4
theorem stEnd_snoc (l : List Nat) (us : List (Nat × List Nat)) (u : Nat × List Nat) : stEnd l (us ++ [u]) = stStep l (stEnd l us) u := by simp [stEnd]
theorem sum_le (L n : Nat) : ∀ (xs : List (List Nat)), (∀ x ∈ xs, x.length ≤ L) → xs.length ≤ n → (xs.map List.length).sum ≤ n * L
  | [], _, _ => by simp
  | x :: r, h, hn => by
    obtain ⟨m, rfl⟩ : ∃ m, n = m + 1 := ⟨n - 1, by simp at hn; omega⟩
    have := sum_le L m r (fun y hy => h y (.tail _ hy)) (by simpa using hn)
    have h2 := h x (.head _)
    rw [List.map_cons, List.sum_cons, Nat.succ_mul]; omega
theorem unitAV_len (us : List (Nat × List Nat)) : (unitAV us).length = us.length := by simp [unitAV]
theorem unitAV_get (us : List (Nat × List Nat)) {i : Nat} (hi : i < us.length) : (unitAV us).getD i [] = [.int (us.getD i (0, [])).1, .str (S (us.getD i (0, [])).2)] := by
  simp [unitAV, List.getD_eq_getElem?_getD, hi]
theorem take_snocD {α : Type} (d : α) (l : List α) {i : Nat} (hi : i < l.length) : l.take (i + 1) = l.take i ++ [l.getD i d] := by
  rw [List.take_add_one]; simp [List.getD_eq_getElem?_getD, hi]
noncomputable def opAV : Option Nat → AV
  | none => .none
  | some o => .int o
section
variable {prog : Program} {w : World} {A : Around} {E : Value → Shared → Prop} {s : Shared} {hB : Heap} {oB : OsState} {G : Array GenState} {ob rest R : Ledger} {Q : Value → Shared → Prop}
theorem r_inChr {l : List Nat} {c : Nat} {t u : Tok} (q : Q (.bool (decide (c ∈ l))) s) : wpAny (model prog w) A (compareOp .In (.str (S [c]) u) (.str (S l) t)) Q E s := by
  refine PySem.P.in_str ?_
  have := PySem.StrLaws.found_one (S l) c
  rw [S_cps] at this
  rw [show (S [c]) = (⟨#[c]⟩ : Str) from rfl, this]
  exact q
theorem r_notInChr {l : List Nat} {c : Nat} {t u : Tok} (q : Q (.bool (!decide (c ∈ l))) s) : wpAny (model prog w) A (compareOp .NotIn (.str (S [c]) u) (.str (S l) t)) Q E s := by
  refine PySem.P.notIn_str ?_
  have := PySem.StrLaws.found_one (S l) c
  rw [S_cps] at this
  rw [show (S [c]) = (⟨#[c]⟩ : Str) from rfl, this]
  exact q
noncomputable abbrev FnStrip (hB : Heap) : Prop := FnF hB 35 "_strip_quoted_realnames" "_strip_quoted_realnames" (fnParams (top 3)) (fnBody (top 3)) (fnScope (top 3)) .none .none
set_option maxHeartbeats 400000 in
theorem sp_strip {l : List Nat} {t : Tok} (fw : FnStrip hB) (fe : FnEsc hB) (lim : hB.NoLimit) (ge : Glob hB "enumerate" (.type "enumerate")) (gl : Glob hB "len" (.builtin "len")) (gi : Glob hB "_iter_escaped_chars" (.ref 28)) (rm : Rm 4 A) (h : H hB oB G ob s) (hb : Bare G) (hl : l.length ≤ 250)
    (k : ∀ t G' s', Bare G' → H hB oB G' ob s' → Q (.str (S (stripF l)) t) s') :
    wpAny (model prog w) A (call (.ref 35) [.str (S l) t]) Q E s := by
  refine r_fn fw lim [("addr", .str (S l), t)] ["start", "open_pos", "result", "pos", "ch"] ["addr", "start", "open_pos", "result", "pos", "ch"] ["_iter_escaped_chars", "len"]
    [("addr", some (.str (S l))), ("start", none), ("open_pos", none), ("result", none), ("pos", none), ("ch", none)] (by decide +kernel) (fun _ _ _ _ _ => BindsTo.of_eq (by with_unfolding_all rfl)) rm h ?_
  clear h
  intro L env A' E' s₁ rm' he h
  have e34 : Str.ofString "\"" = S [34] := by decide +kernel
  refine wpAny_execs_cons ?_
  kct_strs
  kct_strs
  kct_strs
  kct_strs
  rw [e34]
  refine r_notInChr ?_
  kct_strs
  refine ite_b (fun q => ?_) (fun q => ?_)
  · repeat kct_strs
    have e : stripF l = l := by
      unfold stripF; rw [if_neg (by simpa using q)]
    rw [e] at k
    exact k _ G _ hb (H.sub (.skip .refl) ‹14›)
  · have q' : 34 ∈ l := by simpa using q
    have hne : l ≠ [] := fun e => by rw [e] at q'; cases q'
    repeat kct_strs
    refine ⟨_, _, _, by exact ‹13›, le_size (by simp only [List.length_nil]; omega), ‹14›, fun a s h => ?_⟩
    repeat kct_strs
    refine wpAny_For ?_
    repeat kct_strs
    ktu_offI
    refine sp_esc fe lim ge rm' ‹14› hb (by omega) fun g Lg gi G2 s hG hb2 h => ?_
    refine gen_iter h (.head _) ?_
    have eu := unitAV_len (escGo 0 false l)
    have bpos := escGo_pos l 0 false
    have blen := escGo_len l 0 false
    generalize hus : escGo 0 false l = us at hG eu bpos blen
    refine r_forGen (hB := hB) (oB := oB) (σ := Unit) he rm'.h lim rm'.lt (fun _ _ => True)
      (fun i _ => [("addr", some (.str (S l))), ("start", some (.int (((stEnd l (us.take i)).1 : Nat) : Int))), ("open_pos", some (opAV (stEnd l (us.take i)).2.1)), ("result", some (.ref a)), ("pos", none), ("ch", none)])
      (fun i _ => [("addr", some (.str (S l))), ("start", some (.int (((stEnd l (us.take i)).1 : Nat) : Int))), ("open_pos", some (opAV (stEnd l (us.take i)).2.1)), ("result", some (.ref a)), ("pos", some (.int ((us.getD i (0, [])).1 : Int))), ("ch", some (.str (S (us.getD i (0, [])).2)))])
      (fun i _ => (a, lst (((stEnd l (us.take i)).2.2.map S).map .str)) :: ob) () trivial (hG _ (Rm.in1 (n := 2) rm')) hb2 ?_ (fun i _ hi _ => ?_) (fun i _ hi _ G' Lg' E' s hb' h => ?_) (fun _ _ G' s hb' h => ?_)
    · refine H.sub ?_ h
      show SubL ((g, genO gi) :: (Lg ++ (L, nsp ["addr", "start", "open_pos", "result", "pos", "ch"] [("addr", some (.str (S l))), ("start", some (.int ((0 : Nat) : Int))), ("open_pos", some (.none)), ("result", some (.ref a)), ("pos", none), ("ch", none)]) :: (a, lst []) :: ob)) _
      refine SubL.cons .here (fun _ h => h) (SubL.pre _ ?_)
      simp only [Int.natCast_zero]
      exact ‹12›
    · rw [eu] at hi
      exact ⟨_, _, _, unitAV_get us hi, by exact ‹7›, by exact ‹7›⟩
    · rw [eu] at hi
      have es := stEnd_snoc l (us.take i) (us.getD i (0, []))
      rw [← take_snocD (0, []) us hi] at es
      have bd := stEnd_bound l hne (us.take i) (fun u hu => by have := (bpos u (List.mem_of_mem_take hu)).1; omega)
      rw [List.length_take] at bd
      rw [es]
      generalize us.getD i (0, []) = u at h es
      generalize stEnd l (us.take i) = st at h es bd
      obtain ⟨st1, op, res⟩ := st
      dsimp only at bd
      kd_facts
      rcases op with _ | o
      · simp only [opAV] at h
        repeat kct_strs
        try rw [e34]
        rw [S_beq]
        refine ite_b (fun q1 => ?_) (fun q1 => ?_)
        · have q1' : u.2 = [34] := by simpa using q1
          have e : stStep l (st1, none, res) u = (st1, some u.1, res) := by unfold stStep; rw [if_pos q1']
          rw [e]
          simp only [opAV]
          repeat kct_strs
          refine ite_b (fun _ => ?_) (fun q => absurd (show (Value.none == Value.none) = true from rfl) (by rw [q]; exact Bool.false_ne_true))
          repeat kct_strs
          refine ⟨(), trivial, H.sub ?_ ‹14›⟩
          exact ‹12›
        · have q1' : ¬ u.2 = [34] := by simpa using q1
          have e : stStep l (st1, none, res) u = (st1, none, res) := by unfold stStep; rw [if_neg q1']
          rw [e]
          simp only [opAV]
          repeat kct_strs
          refine ⟨(), trivial, H.sub ?_ ‹14›⟩
          exact ‹12›
      · have bo := bd.2.1 o rfl
        simp only [opAV] at h
        repeat kct_strs
        try rw [e34]
        rw [S_beq]
        refine ite_b (fun q1 => ?_) (fun q1 => ?_)
        · have q1' : u.2 = [34] := by simpa using q1
          have e : stStep l (st1, some o, res) u = (u.1 + 1, none, if st1 = o then res else res ++ [(l.take o).drop st1]) := by unfold stStep; rw [if_pos q1']
          rw [e]
          simp only [opAV]
          repeat kct_strs
          refine ite_b (fun q => absurd (show false = true from q) Bool.false_ne_true) (fun _ => ?_)
          repeat kct_strs
          refine ite_b (fun q2 => ?_) (fun q2 => ?_)
          · have q2' : ¬ st1 = o := by
              have : ¬ (st1 : Int) = o := by simpa using q2
              omega
            rw [if_neg q2']
            repeat kct_strs
            refine r_exprStmt he ?_
            refine r_method ?_
            repeat kct_strs
            refine ⟨_, _, machB _, fun Q' q => gm_list ‹14› (.there .here) F.slot_list_append rfl q, ?_⟩
            repeat kct_strs
            refine r_strSlice (hB := hB) (oB := oB) ?_
            repeat kct_strs
            refine r_part1 ?_
            repeat kct_strs
            refine r_part1 ?_
            repeat kct_strs
            refine ⟨_, _, _, _, some (_, _), some (_, _), rfl, rfl, rfl, le_size (by rw [S_len]; omega), ‹14›, fun t s h => ?_⟩
            simp only [Option.map_some]
            rw [slice_ab l st1 o bd.1 bo]
            repeat kct_strs
            refine r_append (v := .str (S ((l.take o).drop st1))) ‹14› (.there .here) (le_size (by rw [List.length_map, List.length_map]; omega)) fun s h => ?_
            have em : (res.map S).map AV.str ++ [AV.str (S ((l.take o).drop st1))] = ((res ++ [(l.take o).drop st1]).map S).map AV.str := by simp
            rw [em] at h
            repeat kct_strs
            refine ⟨(), trivial, H.sub ?_ ‹14›⟩
            exact ‹12›
          · have q2' : st1 = o := by
              have : (st1 : Int) = o := by simpa using q2
              omega
            rw [if_pos q2']
            repeat kct_strs
            refine ⟨(), trivial, H.sub ?_ ‹14›⟩
            exact ‹12›
        · have q1' : ¬ u.2 = [34] := by simpa using q1
          have e : stStep l (st1, some o, res) u = (st1, some o, res) := by unfold stStep; rw [if_neg q1']
          rw [e]
          simp only [opAV]
          repeat kct_strs
          refine ⟨(), trivial, H.sub ?_ ‹14›⟩
          exact ‹12›
    · have bd := stEnd_bound l hne us (fun u hu => by have := (bpos u hu).1; omega)
      rw [eu, List.take_of_length_le (Nat.le_refl us.length)] at h
      have ef : stripF l = ((stEnd l us).2.2 ++ (if (stEnd l us).1 < l.length then [l.drop (stEnd l us).1] else [])).flatten := by
        unfold stripF; rw [if_pos q', hus]
      rw [ef] at k
      generalize stEnd l us = st at h bd k
      obtain ⟨st1, op, res⟩ := st
      dsimp only at bd k
      have bs := sum_le 250 252 (res ++ [l.drop st1]) (fun x hx => by
        rcases List.mem_append.mp hx with hx | hx
        · have := bd.2.2.2 x hx; omega
        · cases List.mem_singleton.mp hx; rw [List.length_drop]; omega) (by rw [List.length_append]; simp; omega)
      have bs2 : (res.map List.length).sum ≤ 100000 := by
        rw [List.map_append, List.sum_append] at bs; omega
      dsimp only at h
      repeat kct_strs
      refine r_lenStr ‹14› (le_size (by rw [S_len]; omega)) fun t s h => ?_
      repeat kct_strs
      refine ite_b (fun q1 => ?_) (fun q1 => ?_)
      · have q1' : st1 < l.length := by
          have : (st1 : Int) < l.length := by have := of_decide_eq_true q1; rw [S_len] at this; exact this
          omega
        rw [if_pos q1'] at k
        repeat kct_strs
        refine r_exprStmt he ?_
        refine r_method ?_
        repeat kct_strs
        refine ⟨_, _, machB _, fun Q' q => gm_list ‹14› (.there (.there .here)) F.slot_list_append rfl q, ?_⟩
        repeat kct_strs
        refine r_strSlice (hB := hB) (oB := oB) ?_
        repeat kct_strs
        refine r_part1 ?_
        repeat kct_strs
        refine r_part0 ?_
        refine ⟨_, _, _, _, some (_, _), none, rfl, rfl, rfl, le_size (by rw [S_len]; omega), ‹14›, fun t s h => ?_⟩
        simp only [Option.map_some, Option.map_none]
        rw [slice_from l (k := (st1 : Int)) (by omega) (by omega), Int.toNat_natCast]
        repeat kct_strs
        refine r_append (v := .str (S (l.drop st1))) ‹14› (.there (.there .here)) (le_size (by rw [List.length_map, List.length_map]; omega)) fun s h => ?_
        have em : (res.map S).map AV.str ++ [AV.str (S (l.drop st1))] = ((res ++ [l.drop st1]).map S).map AV.str := by simp
        rw [em] at h
        repeat kct_strs
        refine r_method ?_
        repeat kct_strs
        refine ⟨_, _, machB _, fun Q' q => GM.join q, ?_⟩
        repeat kct_strs
        refine r_join (ts := (res ++ [l.drop st1]).map S) ‹14› .here (joinOkS _ (by omega)) fun t s h => ?_
        rw [S_join]
        exact k _ G' _ hb' (H.sub (.skip (.skip (.skip .refl))) h)
      · have q1' : ¬ st1 < l.length := by
          have : ¬ (st1 : Int) < l.length := by have := of_decide_eq_false q1; rw [S_len] at this; exact this
          omega
        rw [if_neg q1', List.append_nil] at k
        repeat kct_strs
        refine r_method ?_
        repeat kct_strs
        refine ⟨_, _, machB _, fun Q' q => GM.join q, ?_⟩
        repeat kct_strs
        refine r_join (ts := res.map S) ‹14› (.there (.there .here)) (joinOkS _ bs2) fun t s h => ?_
        rw [S_join]
        exact k _ G' _ hb' (H.sub (.skip (.skip (.skip .refl))) h)
end

end
section
open PySem PySem.Calls PyProof.Rows PySem.W PySem.Builtin PySem.Builtin.Str
theorem stripF_len {l : List Nat} (hl : l.length ≤ 250) : (stripF l).length ≤ 100000 := by
  unfold stripF
  by_cases q : 34 ∈ l
  · rw [if_pos q, List.length_flatten]
    have hne : l ≠ [] := fun e => by rw [e] at q; cases q
    have bd := stEnd_bound l hne (escGo 0 false l) (fun u hu => by have := (escGo_pos l 0 false u hu).1; omega)
    have blen := escGo_len l 0 false
    have bs := sum_le 250 252 ((stEnd l (escGo 0 false l)).2.2 ++ (if (stEnd l (escGo 0 false l)).1 < l.length then [l.drop (stEnd l (escGo 0 false l)).1] else [])) (fun x hx => by
        rcases List.mem_append.mp hx with hx | hx
        · have := bd.2.2.2 x hx; omega
        · split at hx
          · cases List.mem_singleton.mp hx; rw [List.length_drop]; omega
          · cases hx) (by rw [List.length_append]; split <;> simp <;> omega)
    omega
  · rw [if_neg q]; omega
noncomputable def ckGo : List (Nat × List Nat) → Int → Bool
  | [], o => decide (o = 0)
  | u :: r, o => if u.2 = [40] then ckGo r (o + 1) else if u.2 = [41] then (if o - 1 < 0 then false else ckGo r (o - 1)) else ckGo r o
noncomputable def checkF (l : List Nat) : Bool := ckGo (escGo 0 false (stripF l)) 0
section
variable {prog : Program} {w : World} {A : Around} {E : Value → Shared → Prop} {s : Shared} {hB : Heap} {oB : OsState} {G : Array GenState} {ob rest R : Ledger} {Q : Value → Shared → Prop}
noncomputable abbrev FnCheck (hB : Heap) : Prop := FnF hB 42 "_check_parenthesis" "_check_parenthesis" (fnParams (top 4)) (fnBody (top 4)) (fnScope (top 4)) .none .none
set_option maxHeartbeats 400000 in
theorem sp_check {l : List Nat} {t : Tok} (fw : FnCheck hB) (fs : FnStrip hB) (fe : FnEsc hB) (lim : hB.NoLimit) (ge : Glob hB "enumerate" (.type "enumerate")) (gl : Glob hB "len" (.builtin "len")) (gi : Glob hB "_iter_escaped_chars" (.ref 28))
    (gs : Glob hB "_strip_quoted_realnames" (.ref 35)) (rm : Rm 5 A) (h : H hB oB G ob s) (hb : Bare G) (hl : l.length ≤ 250)
    (k : ∀ G' s', Bare G' → H hB oB G' ob s' → Q (.bool (checkF l)) s') :
    wpAny (model prog w) A (call (.ref 42) [.str (S l) t]) Q E s := by
  refine r_fn fw lim [("addr", .str (S l), t)] ["opens", "pos", "ch"] ["addr", "opens", "pos", "ch"] ["_iter_escaped_chars", "_strip_quoted_realnames"]
    [("addr", some (.str (S l))), ("opens", none), ("pos", none), ("ch", none)] (by decide +kernel) (fun _ _ _ _ _ => BindsTo.of_eq (by with_unfolding_all rfl)) rm h ?_
  clear h
  intro L env A' E' s₁ rm' he h
  have e40 : Str.ofString "(" = S [40] := by decide +kernel
  have e41 : Str.ofString ")" = S [41] := by decide +kernel
  have hsl := stripF_len hl
  unfold checkF at k
  refine wpAny_execs_cons ?_
  repeat kct_strs
  ktu_offI
  refine sp_strip fs fe lim ge gl gi rm' ‹14› hb hl fun t G1 s hb1 h => ?_
  generalize stripF l = sl at h k hsl
  repeat kct_strs
  refine wpAny_For ?_
  repeat kct_strs
  ktu_offI
  refine sp_esc fe lim ge rm' ‹14› hb1 hsl fun g Lg gi G2 s hG hb2 h => ?_
  refine gen_iter h (.head _) ?_
  have eu := unitAV_len (escGo 0 false sl)
  generalize hus : escGo 0 false sl = us at hG eu k
  refine r_forGen (hB := hB) (oB := oB) (σ := Int) he rm'.h lim rm'.lt (fun i o => ckGo us 0 = ckGo (us.drop i) o)
    (fun i o => [("addr", some (.str (S sl))), ("opens", some (.int o)), ("pos", none), ("ch", none)])
    (fun i o => [("addr", some (.str (S sl))), ("opens", some (.int o)), ("pos", some (.int ((us.getD i (0, [])).1 : Int))), ("ch", some (.str (S (us.getD i (0, [])).2)))])
    (fun i o => ob) 0 rfl (hG _ (Rm.in1 (n := 2) (rm'.le (by decide)))) hb2 ?_ (fun i o hi _ => ?_) (fun i o hi hI G' Lg' E' s hb' h => ?_) (fun o hI G' s hb' h => ?_)
  · refine H.sub ?_ h
    refine SubL.cons .here (fun _ h => h) (SubL.pre _ ?_)
    exact ‹12›
  · rw [eu] at hi
    exact ⟨_, _, _, unitAV_get us hi, by exact ‹7›, by exact ‹7›⟩
  · rw [eu] at hi
    rw [drop_cons (0, []) hi] at hI
    generalize us.getD i (0, []) = u at h hI
    have ec : ckGo (u :: us.drop (i + 1)) o = if u.2 = [40] then ckGo (us.drop (i + 1)) (o + 1) else if u.2 = [41] then (if o - 1 < 0 then false else ckGo (us.drop (i + 1)) (o - 1)) else ckGo (us.drop (i + 1)) o := rfl
    rw [ec] at hI
    repeat kct_strs
    try rw [e40]
    rw [S_beq]
    refine ite_b (fun q1 => ?_) (fun q1 => ?_)
    · have q1' : u.2 = [40] := by simpa using q1
      rw [if_pos q1'] at hI
      repeat kct_strs
      refine r_loadLocal he ‹14› .here (.tail _ (.head _)) fun t => ?_
      repeat kct_strs
      refine ⟨_, hI, H.sub ?_ ‹14›⟩
      exact ‹12›
    · have q1' : ¬ u.2 = [40] := by simpa using q1
      rw [if_neg q1'] at hI
      repeat kct_strs
      try rw [e41]
      rw [S_beq]
      refine ite_b (fun q2 => ?_) (fun q2 => ?_)
      · have q2' : u.2 = [41] := by simpa using q2
        rw [if_pos q2'] at hI
        repeat kct_strs
        refine r_loadLocal he ‹14› .here (.tail _ (.head _)) fun t => ?_
        repeat kct_strs
        refine ite_b (fun q3 => ?_) (fun q3 => ?_)
        · rw [if_pos (of_decide_eq_true q3)] at hI
          repeat kct_strs
          rw [hI] at k
          refine k G' _ hb' (H.sub ?_ ‹14›)
          exact .skip (SubL.of_app _)
        · rw [if_neg (of_decide_eq_false q3)] at hI
          repeat kct_strs
          refine ⟨_, hI, H.sub ?_ ‹14›⟩
          exact ‹12›
      · have q2' : ¬ u.2 = [41] := by simpa using q2
        rw [if_neg q2'] at hI
        repeat kct_strs
        refine ⟨_, hI, H.sub ?_ ‹14›⟩
        exact ‹12›
  · rw [eu, List.drop_length] at hI
    rw [hI] at k
    repeat kct_strs
    exact k G' _ hb' (H.sub (.skip (.skip .refl)) ‹14›)
end

end
section
noncomputable def pickGo (p : Nat → Bool) (f : Nat → AV) : Nat → List AV
  | 0 => []
  | i + 1 => pickGo p f i ++ (if p i then [f i] else [])
theorem pickGo_len (p : Nat → Bool) (f : Nat → AV) : ∀ i, (pickGo p f i).length ≤ i
  | 0 => by simp [pickGo]
  | i + 1 => by
    have := pickGo_len p f i
    show (pickGo p f i ++ _).length ≤ _
    rw [List.length_append]; split <;> simp <;> omega
section
variable {prog : Program} {w : World} {A : Around} {E : Value → Shared → Prop} {s : Shared} {hB : Heap} {oB : OsState} {G : Array GenState} {ob rest : Ledger} {env : Env} {L : Addr} {locs gs : List Str} {cl : List (Str × Addr)}
/-- a list comprehension over a generator of pairs -/
theorem r_genComp {x y : Str} {px py pos tp : Pos} {tk : Nat} {elt iter : Expr} {ifs : List Expr} {sc : Scope} {Q : Value → Shared → Prop} (he : Ev env L locs cl gs) (hh : A.handled = none) (lim : hB.NoLimit) (hroom : A.depth < recursionLimit)
    (gs' : List Str) (fc : List (Str × Addr)) (hsc : compOk sc [x, y] gs' = true) (hf : fclOk cl sc.names = true) (hfc : fcl cl sc.names = fc) (us : List (List AV)) (v1 v2 : Nat → AV) (hus : ∀ i, i < us.length → us.getD i [] = [v1 i, v2 i]) (hz : us.length ≤ 100000)
    (p : Nat → Bool) (f : Nat → AV)
    (k : wpAny (model prog w) A (eval iter env) (fun xv s₁ => wpAny (model prog w) A (pyIter xv) (fun it s₂ => ∃ a g Lg G, it = .ref a ∧ GenAtG prog w hB oB A.in1 us 0 Lg G g ∧ Bare G ∧ H hB oB G ((a, genO g) :: (Lg ++ ob)) s₂) E s₁) E s)
    (hbody : ∀ i, i < us.length → ∀ C env' E' G' s' R0, Ev env' C [x, y] fc gs' → H hB oB G' ((C, nsp [x, y] [(x, some (v1 i)), (y, some (v2 i))]) :: (ob ++ R0)) s' →
      wpAny (model prog w) A (forIn ifs true fun c r => if r = true then do let ok ← isTrue c env' (eval c env'); pure (ForInStep.yield ok) else pure (ForInStep.yield r)) (fun ok s₁ => ok = p i ∧
        H hB oB G' ((C, nsp [x, y] [(x, some (v1 i)), (y, some (v2 i))]) :: (ob ++ R0)) s₁) E' s' ∧
      (p i = true → ∀ s₁, H hB oB G' ((C, nsp [x, y] [(x, some (v1 i)), (y, some (v2 i))]) :: (ob ++ R0)) s₁ → wpAny (model prog w) A (eval elt env') (fun v s₂ => ∃ t, v = (f i).v t ∧ H hB oB G' ((C, nsp [x, y] [(x, some (v1 i)), (y, some (v2 i))]) :: (ob ++ R0)) s₂) E' s₁))
    (hend : ∀ D G' s', Bare G' → H hB oB G' ((D, lst (pickGo p f us.length)) :: ob) s' → Q (.ref D) s')
    (hs : ∀ x, foldedSetIterable iter env x = pure x := by intro _; rfl) :
    wpAny (model prog w) A (eval (.ListComp elt [⟨.Tuple [.Name x px, .Name y py] tk tp, iter, ifs, 0⟩] sc pos) env) Q E s := by
  subst hfc
  have hsc' := hsc
  simp only [compOk, Bool.and_eq_true, List.all_eq_true, Bool.not_eq_true', Bool.or_eq_true, beq_iff_eq, decide_eq_true_eq, bne_iff_ne] at hsc'
  obtain ⟨⟨⟨⟨⟨⟨h1, h2⟩, h3⟩, h4⟩, h5⟩, h6⟩, h7⟩ := hsc'
  rw [eval_ListComp]
  refine wpAny_comprehension_free (use := none) rfl hs (closureFor_fcl he hf) (compOk_kind hsc) (compOk_names hsc) (wpAny_mono k (fun xv s₁ h₁ => wpAny_mono h₁ (fun it s₂ h₂ => ?_) fun _ _ e => e) fun _ _ e => e)
  obtain ⟨a, g, Lg, G, rfl, hg, hb, h⟩ := h₂
  clear k h₁
  refine wpAny_newObj_type (wpAny_newFunctionEnv (fun x hx => h2 x hx) (by intro y hy; simp at hy) (fun h₁ hns₁ hsb₁ => ?_) h1)
  dsimp only at hns₁ hsb₁ ⊢
  have hd := h.push (P := lst []) (o := { cls := .type "list", dict := none, data := .seq ([] : List Value).toArray }) rfl ⟨[], 0, rfl, .nil⟩ (s' := { s₂ with heap := s₂.heap.push { cls := .type "list", dict := none, data := .seq ([] : List Value).toArray } }) rfl
  generalize hD : s₂.heap.objs.size = D at hd ⊢
  generalize hH2 : s₂.heap.push { cls := .type "list", dict := none, data := .seq ([] : List Value).toArray } = H2 at hns₁ hsb₁ hd ⊢
  have hc : H hB oB G ((H2.objs.size, nsp [x, y] [(x, none), (y, none)]) :: (D, lst []) :: ((a, genO g) :: (Lg ++ ob))) { s₂ with heap := h₁, toks := s₂.toks + ([] : List (Str × Value)).length } := by
    obtain ⟨o, es, ep, e1, e2, e3, e4⟩ := hns₁
    refine hd.add (a := H2.objs.size) (o := o) (fun b o' e => hsb₁.extBut b o' (Nat.ne_of_lt (Heap.lt_size e)) (Heap.get?_push_of_some _ e)) (fresh_at _) e1 ⟨rfl, h7, es, ep, e2, e3, fun x v hm => ?_⟩
    exact absurd hm (by simp)
  generalize H2.objs.size = C at hc ⊢
  generalize ({ s₂ with heap := h₁, toks := s₂.toks + ([] : List (Str × Value)).length } : Shared) = s₃ at hc ⊢
  have hev := comp_ev he hsc hf C
  have pm0 : ∀ (c d : Addr × OP), List.Perm (c :: d :: ((a, genO g) :: (Lg ++ ob))) ((a, genO g) :: (Lg ++ (c :: d :: ob))) := fun c d =>
    ((List.Perm.cons _ (List.Perm.swap _ _ _)).trans (List.Perm.swap _ _ _)).trans (List.Perm.cons _ ((List.Perm.cons _ List.perm_middle.symm).trans List.perm_middle.symm))
  have hc2 : H hB oB G ((a, genO g) :: (Lg ++ ((C, nsp [x, y] [(x, none), (y, none)]) :: (D, lst (pickGo p f 0)) :: ob))) s₃ := hc.perm (pm0 _ _)
  have loop : codeAny (model prog w) A (.compLoop (.ListComp elt [⟨.Tuple [.Name x px, .Name y py] tk tp, iter, ifs, 0⟩] sc pos) 0 (.ref a) (.ref D) (compEnvC sc (fcl cl sc.names) C env)) (compPost (model prog w) A E none Q (.ref D) C) s₃ := by
    refine codeAny_compLoop_any (fun k s' => ∃ i G' Lg', i ≤ us.length ∧ k = us.length - i ∧ Bare G' ∧ GenAtG prog w hB oB A.in1 us i Lg' G' g ∧ H hB oB G' ((a, genO g) :: (Lg' ++ ((C, nsp [x, y] [(x, none), (y, none)]) :: (D, lst (pickGo p f i)) :: ob))) s') ?_ us.length ⟨0, G, Lg, Nat.zero_le _, rfl, hb, hg, hc2⟩
    rintro k s' ⟨i, G', Lg', hi, rfl, hb', hg', h'⟩
    by_cases hlt : i < us.length
    · refine gen_item lim hroom hlt hg' hb' h' fun T Lg2 G2 s4 hg2 hb2 h4 => ?_
      rw [hus i hlt] at h4
      refine letGo_gen h4 (.tail _ (.head _)) ?_
      refine r_unpack2 hh h4 .here fun t1 t2 s5 h5 => ?_
      refine r_store hev h5 (.there (.there (pick_mid _))) .here fun s6 h6 => ?_
      refine r_store hev h6 .here (.there .here) fun s7 h7 => ?_
      have pm : ∀ (lo : Lo) (ys : List AV), List.Perm ((C, nsp [x, y] lo) :: (a, genO g) :: (Lg2 ++ ((D, lst ys) :: ob))) ((C, nsp [x, y] lo) :: (ob ++ ((D, lst ys) :: (a, genO g) :: Lg2))) := fun lo ys =>
        List.Perm.cons _ ((List.Perm.cons _ List.perm_append_comm).trans ((List.Perm.swap _ _ _).trans ((List.Perm.cons _ List.perm_middle.symm).trans (List.perm_middle.symm))))
      have h8 := (h7.sub (ob' := (C, nsp [x, y] [(x, some (v1 i)), (y, some (v2 i))]) :: (a, genO g) :: (Lg2 ++ ((D, lst (pickGo p f i)) :: ob))) (.cons .here (fun _ h => h) (.skip .refl))).perm (pm _ _)
      obtain ⟨b1, b2⟩ := hbody i hlt C _ (notedBy (model prog w) A (compEnvC sc (fcl cl sc.names) C env) fun e s' => compPost (model prog w) A E none Q (.ref D) C (.error e) s') G2 s7 _ hev h8
      have back : ∀ {s''} {ys : List AV}, H hB oB G2 ((C, nsp [x, y] [(x, none), (y, none)]) :: (ob ++ ((D, lst ys) :: (a, genO g) :: Lg2))) s'' → H hB oB G2 ((a, genO g) :: (Lg2 ++ ((C, nsp [x, y] [(x, none), (y, none)]) :: (D, lst ys) :: ob))) s'' := fun h3 =>
        h3.perm ((pm _ _).symm.trans ((List.Perm.swap _ _ _).trans (List.Perm.cons _ List.perm_middle.symm)))
      refine wpAny_mono b1 (fun ok s9 h9 => ?_) fun _ _ e => e
      obtain ⟨rfl, h9⟩ := h9
      have en : ∀ ys, pickGo p f (i + 1) = pickGo p f i ++ ys → pickGo p f (i + 1) = pickGo p f i ++ ys := fun _ h => h
      cases hp : p i with
      | false =>
        simp only [Bool.false_eq_true, if_false]
        have e0 : pickGo p f (i + 1) = pickGo p f i := by
          show pickGo p f i ++ _ = _
          rw [hp]; simp
        refine ⟨us.length - (i + 1), by omega, i + 1, G2, Lg2, hlt, rfl, hb2, hg2, ?_⟩
        rw [e0]
        exact back (h9.weak (P' := nsp [x, y] [(x, none), (y, none)]) (nsp_forg (.forget (.forget .nil))))
      | true =>
        simp only [if_true]
        have e0 : pickGo p f (i + 1) = pickGo p f i ++ [f i] := by
          show pickGo p f i ++ _ = _
          rw [hp]; simp
        refine wpAny_mono (b2 hp s9 h9) (fun v s10 h10 => ?_) fun _ _ e => e
        obtain ⟨t, rfl, h10⟩ := h10
        have hlen := pickGo_len p f i
        refine r_append h10 (.there (pick_mid ob)) (le_size (by omega)) fun s11 h11 => ⟨us.length - (i + 1), by omega, i + 1, G2, Lg2, hlt, rfl, hb2, hg2, ?_⟩
        rw [e0]
        have h12 := (h11.swap.weak (P' := nsp [x, y] [(x, none), (y, none)]) (nsp_forg (.forget (.forget .nil))))
        exact back (h12.perm (List.Perm.cons _ List.perm_middle.symm))
    · have : i = us.length := by omega
      subst this
      refine gen_done hh lim hroom hg' hb' h' fun G2 s2 hb2 h2 => ?_
      obtain ⟨m, hm, hr⟩ := letC (ob := (a, genO g) :: (D, lst (pickGo p f us.length)) :: ob) h2.swap
      exact ⟨m, hm, fun h' hs => hend D G2 _ hb2 (hr h' hs).drop⟩
  refine codeAny_compStart_list loop ?_
  exact gen_iter hc2 (.head _) loop
end

end
section
noncomputable abbrev lawLocs : List Str := ["script", "drawn", "cell", "over", "steps", "place", "menu", "hidden", "ends", "word", "crowd", "spots", "p", "begin", "total", "turn", "order", "read"]
noncomputable abbrev lawGs : List Str := ["enumerate", "len", "range", "sorted", "insort_left", "_law_word", "_check_parenthesis", "_law_text", "_law_pair", "list", "insort_right", "_strip_quoted_realnames", "_iter_escaped_chars", "_law_toggle"]
noncomputable abbrev lawCl (f : Str → Addr) : List (Str × Addr) := [("nums", f "nums"), ("many", f "many"), ("kind", f "kind"), ("front", f "front"), ("rear", f "rear"), ("cells", f "cells"), ("leads", f "leads"), ("spaces", f "spaces"), ("under", f "under"), ("tab", f "tab"), ("held", f "held"), ("size", f "size"), ("signs", f "signs")]
noncomputable def lawSt (i : Nat) : Stmt := nthS i (fnBody (top 19))
noncomputable def drawnV (zs : List Int) (k first : Int) : Int := first + ((pickL zs (some k) none (some 3)).map fun x => x.fmod 5040).sum
structure LawEnv (env : Env) (L : Addr) (f : Str → Addr) : Prop where
  ev : Ev env L lawLocs (lawCl f) lawGs
  ck : ∀ x ∈ (lawCl f).map (·.1), env.kindOf x = some .cell
section
variable {prog : Program} {w : World} {A : Around} {E : Value → Shared → Prop} {s : Shared} {hB : Heap} {oB : OsState} {G : Array GenState} {ob rest r2 r3 r4 r5 r6 : Ledger} {env : Env} {L : Addr} {f : Str → Addr} {lo lo' : Lo} {Q : Flow → Shared → Prop}
theorem r_listSliceB {value : Expr} {lower upper step : Option Expr} {p pos : Pos} {Q : Value → Shared → Prop} {vs : List Value} {zs : List Int} {l : Addr} (hL : hB.IsList l vs.toArray) (hI : IntsAre vs zs) (hz : zs.length ≤ 1000)
    (k : wpAny (model prog w) A (eval value env) (fun o s₁ => wpAny (model prog w) A (evalPart lower env) (fun vl s₂ => wpAny (model prog w) A (evalPart upper env) (fun vu s₃ => wpAny (model prog w) A (evalPart step env) (fun vt s₄ =>
      ∃ G ob lo hi st, o = .ref l ∧ IsPart vl lo ∧ IsPart vu hi ∧ IsPart vt st ∧ st ≠ some 0 ∧ H hB oB G ob s₄ ∧
        (∀ a s', H hB oB G ((a, lst ((pickL zs lo hi st).map .int)) :: ob) s' → Q (.ref a) s')) E s₃) E s₂) E s₁) E s) :
    wpAny (model prog w) A (eval (.Subscript value (.Slice lower upper step p) pos) env) Q E s := by
  refine Subscript_ (wpAny_mono k (fun o s₁ k => wpAny_Slice (wpAny_mono k (fun vl s₂ k => wpAny_mono k (fun vu s₃ k => wpAny_mono k (fun vt s₄ k => ?_) fun _ _ e => e) fun _ _ e => e) fun _ _ e => e)) fun _ _ e => e)
  obtain ⟨G, ob, lo, hi, st, rfl, p1, p2, p3, h0, h, k⟩ := k
  have h2 := h.pushed (s' := { s₄ with heap := s₄.heap.push { cls := .type "slice", data := .fields #[vl, vu, vt] } }) _ rfl
  have ha := ints_ares hI
  have e0 := hI.length
  obtain ⟨us, e, hu⟩ := ha.slice lo hi st
  obtain ⟨ops, hops⟩ := subd l s₄.heap.objs.size lower upper step p
  have hL2 : Heap.IsList (s₄.heap.push { cls := .type "slice", data := .fields #[vl, vu, vt] }) l vs.toArray := let ⟨o, ho, r⟩ := hL; ⟨o, h2.keep _ _ ho, r⟩
  refine tail_any (ops := ops) hL2.typeIs slot_list_getitem.lookup (wpAny_getItem_list_slice hL2 ⟨_, Heap.get?_push_size _ rfl, rfl, rfl⟩ p1 p2 p3 h0 (k _ _ ?_) (by simp; exact le_size (by omega))) hops
  rw [← pickL_map]
  exact h2.push (o := { cls := .type "list", data := .seq (slicePick vs.toArray lo hi st) }) rfl ⟨us, 0, by rw [e], hu⟩ rfl
theorem r_localM {x : Str} {v : AV} {px : Pos} {Q : Value → Shared → Prop} (he : LawEnv env L f) (h : H hB oB G ob s) (pL : Pick L (nsp lawLocs lo) ob rest) (hx : (x, some v) ∈ lo) (k : ∀ t, Q (v.v t) s) : wpAny (model prog w) A (eval (.Name x px) env) Q E s := r_local he.ev h pL hx k
set_option maxHeartbeats 400000 in
theorem st0 {X : Stmt} (hX : X = lawSt 0) {l : Addr} {vs : List Value} {zs : List Int} {v0 : Option AV} (he : LawEnv env L f) (hL : hB.IsList l vs.toArray) (hI : IntsAre vs zs) (hz : zs.length ≤ 63) (h : H hB oB G ob s) (pL : Pick L (nsp lawLocs lo) ob rest) (hs : (("script" : Str), some (AV.ref l)) ∈ lo) (pN : Pick (f "nums") (celp v0) ob r2)
    (k : ∀ a s', H hB oB G ((f "nums", celp (some (.ref a))) :: (a, lst ((pickL zs none (some 60) none).map .int)) :: r2) s' → Q .next s') : wpAny (model prog w) A (exec X env) Q E s := by
  subst hX
  have he' := he.ev
  refine r_assignCell (he.ck _ (by simp)) ?_
  refine r_listSliceB (hB := hB) (oB := oB) hL hI (by omega) ?_
  refine r_localM he h pL hs fun t => ?_
  refine r_part0 (r_part1 ?_)
  repeat kct_strs
  refine r_part0 ?_
  refine ⟨_, _, none, some 60, none, rfl, .none, .int _ _, .none, (by decide), ‹14›, fun a s h => ?_⟩
  exact r_storeC (v := .ref a) (t := 0) he' h (.head _) (he.ck _ (by simp)) (.there pN) fun s h => k a s h
theorem drawnV_bound (zs : List Int) (k first : Int) (hz : zs.length ≤ 63) (hf : 0 ≤ first ∧ first ≤ 1000) : 0 ≤ drawnV zs k first ∧ drawnV zs k first ≤ 400000 ∧ (∀ z ∈ (pickL zs (some k) none (some 3)).map fun x => x.fmod 5040, -100000 ≤ z ∧ z ≤ 100000) := by
  have hl := pickL_len zs (some k) none (some 3)
  have hb : ∀ z ∈ (pickL zs (some k) none (some 3)).map fun x => x.fmod 5040, 0 ≤ z ∧ z ≤ 5039 := by
    intro z hz
    obtain ⟨y, _, rfl⟩ := List.mem_map.mp hz
    have h1 := Int.fmod_nonneg_of_pos y (show (0 : Int) < 5040 by decide)
    have h2 := Int.fmod_lt_of_pos y (show (0 : Int) < 5040 by decide)
    omega
  have hs : ∀ l : List Int, (∀ z ∈ l, 0 ≤ z ∧ z ≤ 5039) → 0 ≤ l.sum ∧ l.sum ≤ 5039 * l.length := by
    intro l
    induction l with
    | nil => intro _; simp
    | cons a r ih =>
      intro h
      have h1 := h a (.head _)
      have h2 := ih fun y hy => h y (.tail _ hy)
      rw [List.sum_cons, List.length_cons]; omega
  have h3 := hs _ hb
  rw [List.length_map] at h3
  unfold drawnV
  refine ⟨by omega, by omega, fun z hz => ?_⟩
  have := hb z hz; omega
set_option maxHeartbeats 1000000 in
theorem st1 {X : Stmt} (hX : X = lawSt 1) {l : Addr} {zs : List Int} (he : LawEnv env L f) (ge : Glob hB "enumerate" (.type "enumerate")) (gs : Glob hB "sum" (.builtin "sum")) (rm : Rm 2 A) (hz : zs.length ≤ 63) (h : H hB oB G ob s) (pL : Pick L (nsp lawLocs lo) ob rest) (pN : Pick (f "nums") (celp (some (.ref l))) ob r2) (pl : Pick l (lst (zs.map .int)) ob r3)
    (hp : ∀ v, ∃ lo', Put "drawn" v lo lo')
    (k : ∀ a lo' s', Put "drawn" (.ref a) lo lo' → H hB oB G ((L, nsp lawLocs lo') :: (a, lst [.int (drawnV zs 0 41), .int (drawnV zs 1 9), .int (drawnV zs 2 296)]) :: rest) s' → Q .next s') : wpAny (model prog w) A (exec X env) Q E s := by
  subst hX
  have he' := he.ev
  refine r_assignComp (hB := hB) (oB := oB) he' rm.h ["k", "first"] ["sum"] [("nums", f "nums")] (by decide +kernel) (by with_unfolding_all rfl) (by with_unfolding_all rfl) (by simp) (by decide +kernel) (by decide +kernel) ?_
  repeat kct_strs
  refine ⟨_, _, _, by exact ‹13›, le_size (by simp only [List.length_cons, List.length_nil]; omega), ‹14›, fun T s h => ?_⟩
  repeat kct_strs
  refine r_enumTup h .here fun e it s h => ?_
  refine (ItrT.enumTup (prog := prog) (w := w) (hB := hB) (oB := oB) (x := "k") (y := "first") (px := ⟨0,0,0,0⟩) (py := ⟨0,0,0,0⟩) (tp := ⟨0,0,0,0⟩) (c := 0) e it T [.int 41, .int 9, .int 296]).selfI 0 _ G _ _ _ _ h ?_
  have hx : ∀ i, i < 3 → [AV.int 41, .int 9, .int 296].getD i .none = .int ([41, 9, 296].getD i 0) := fun i hi => match i, hi with
    | 0, _ => rfl
    | 1, _ => rfl
    | 2, _ => rfl
  have hfb : ∀ i, i < 3 → 0 ≤ [(41 : Int), 9, 296].getD i 0 ∧ [(41 : Int), 9, 296].getD i 0 ≤ 1000 := fun i hi => match i, hi with
    | 0, _ => by decide
    | 1, _ => by decide
    | 2, _ => by decide
  have hd : ∀ i, i < 3 → [AV.int (drawnV zs 0 41), .int (drawnV zs 1 9), .int (drawnV zs 2 296)].take (i + 1) = [AV.int (drawnV zs 0 41), .int (drawnV zs 1 9), .int (drawnV zs 2 296)].take i ++ [.int (drawnV zs (i : Nat) ([(41 : Int), 9, 296].getD i 0))] := fun i hi => match i, hi with
    | 0, _ => rfl
    | 1, _ => rfl
    | 2, _ => rfl
  refine CompFrom.mk (ItrT.enumTup e it T [.int 41, .int 9, .int 296]) (fun _ => [("k", none), ("first", none)]) (fun i => [("k", some (.int i)), ("first", some (.int ([(41 : Int), 9, 296].getD i 0)))])
    (fun i => [AV.int (drawnV zs 0 41), .int (drawnV zs 1 9), .int (drawnV zs 2 296)].take i) _ ⟨rfl, by simp⟩ (fun i hi => by simp; omega) rfl h (fun i hi => ⟨_, .here, by rw [hx i hi]; exact .there .here⟩) (fun i hi C D env' E' s he1 h => ?_) (fun D => ?_)
  · have db := drawnV_bound zs (i : Nat) ([(41 : Int), 9, 296].getD i 0) hz (hfb i hi)
    have dl := pickL_len zs (some ((i : Nat) : Int)) none (some 3)
    refine wpAny_tests_nil ?_
    rw [if_pos rfl]
    simp only [List.cons_append, List.nil_append] at h
    repeat kct_strs
    refine r_listComp (hB := hB) (oB := oB) he1 rm.h ["x"] [] [] (by decide +kernel) (by with_unfolding_all rfl) (by with_unfolding_all rfl) ?_
    refine r_listSlice (hB := hB) (oB := oB) ?_
    repeat kct_strs
    refine r_part1 ?_
    repeat kct_strs
    refine r_part0 (r_part1 ?_)
    repeat kct_strs
    refine ⟨_, _, _, _, zs.map .int, some (i : Nat), none, some 3, rfl, .int _ _, .none, .int _ _, (by decide), le_size (by rw [List.length_map]; omega), ‹14›, by exact ‹1›, fun a s h => ?_⟩
    rw [pickL_map] at h
    refine r_iterListIn h .here fun I s h => ?_
    refine compInts (J := []) (Itr.intsIn I a (pickL zs (some ((i : Nat) : Int)) none (some 3)) .here) rfl (by omega) (fun _ => true) (fun z => AV.int (z.fmod 5040)) (by rw [List.append_nil]; exact h) (fun z hz C2 env2 E2 s2 R0 he2 h2 => ⟨?_, fun _ s1 h1 => ?_⟩) (fun D2 => ?_)
    · exact wpAny_tests_nil ⟨rfl, h2⟩
    · repeat kct_strs
      exact ⟨_, rfl, ‹14›⟩
    · intro s h
      have em : (pickL zs (some ((i : Nat) : Int)) none (some 3)).filter (fun _ => true) = pickL zs (some ((i : Nat) : Int)) none (some 3) := by simp
      rw [em, show (pickL zs (some ((i : Nat) : Int)) none (some 3)).map (fun z => AV.int (z.fmod 5040)) = ((pickL zs (some ((i : Nat) : Int)) none (some 3)).map fun z => z.fmod 5040).map .int from by simp] at h
      repeat kct_strs
      refine r_sum rm.h ‹14› .here db.2.2 (by rw [List.length_map]; omega) fun t s h => ?_
      repeat kct_strs
      refine ⟨.int _, _, rfl, (hd i hi).trans ?_, ?_⟩
      · rfl
      · refine H.sub ?_ ‹14›
        simp only [List.cons_append, List.nil_append, List.append_nil]
        refine .cons (.there (.there (.there .here))) (fun _ h => h) (.cons (.there (.there (.there .here))) (fun _ h => h) (.cons (.there (.there (.there .here))) (fun _ h => h) (.cons (.there (.there .here)) (nsp_forg (.forget (.forget .nil))) (.skip (.skip .refl)))))
  · obtain ⟨lo', hp'⟩ := hp (.ref D)
    refine ⟨_, lo', _, .there (.there pL), hp', fun s h => ?_⟩
    refine k D lo' s hp' (h.sub (.cons .here (fun _ h => h) (.cons .here (fun _ h => h) (.skip .refl))))
end

end
section
noncomputable def frontF (j : Nat) : List Nat := [[], [9], [32, 9], [32, 32, 9, 9]].getD j []
section
variable {prog : Program} {w : World} {A : Around} {E : Value → Shared → Prop} {s : Shared} {hB : Heap} {oB : OsState} {G : Array GenState} {ob rest r2 r3 r4 r5 r6 : Ledger} {env : Env} {L : Addr} {f : Str → Addr} {lo lo' : Lo} {Q : Flow → Shared → Prop}
set_option maxHeartbeats 400000 in
theorem st2 {X : Stmt} (hX : X = lawSt 2) {l : Addr} {zs : List Int} {v0 : Option AV} (he : LawEnv env L f) (gl : Glob hB "len" (.builtin "len")) (hz : zs.length ≤ 63) (h : H hB oB G ob s) (pN : Pick (f "nums") (celp (some (.ref l))) ob r2) (pl : Pick l (lst (zs.map .int)) ob r3) (pM : Pick (f "many") (celp v0) ob r4)
    (k : ∀ m : Nat, (m = 4 ∨ m = 5) → ∀ s', H hB oB G ((f "many", celp (some (.int m))) :: r4) s' → Q .next s') : wpAny (model prog w) A (exec X env) Q E s := by
  subst hX
  have he' := he.ev
  refine r_assignCell (he.ck _ (by simp)) ?_
  repeat kct_strs
  refine ite_b (fun q => ?_) (fun q => ?_)
  · repeat kct_strs
    exact r_storeC (v := .int 5) he' ‹14› (.tail _ (.head _)) (he.ck _ (by simp)) pM fun s h => k 5 (.inr rfl) s h
  · repeat kct_strs
    exact r_storeC (v := .int 4) he' ‹14› (.tail _ (.head _)) (he.ck _ (by simp)) pM fun s h => k 4 (.inl rfl) s h
set_option maxHeartbeats 400000 in
theorem st3 {X : Stmt} (hX : X = lawSt 3) {a : Addr} {d0 : Int} {ds : List AV} {m : Nat} {v0 : Option AV} (he : LawEnv env L f) (h : H hB oB G ob s) (pM : Pick (f "many") (celp (some (.int m))) ob r2) (pL : Pick L (nsp lawLocs lo) ob rest) (hd : (("drawn" : Str), some (AV.ref a)) ∈ lo)
    (pd : Pick a (lst (.int d0 :: ds)) ob r3) (pK : Pick (f "kind") (celp v0) ob r4)
    (k : ∀ K : Int, (K = 0 ∨ (m = 4 ∧ K = 1)) → ∀ s', H hB oB G ((f "kind", celp (some (.int K))) :: r4) s' → Q .next s') : wpAny (model prog w) A (exec X env) Q E s := by
  subst hX
  have he' := he.ev
  refine r_assignCell (he.ck _ (by simp)) ?_
  repeat kct_strs
  refine ite_b (fun q => ?_) (fun q => ?_)
  · have q' : (m : Int) = 4 := by simpa using q
    kct_strs
    refine subC ?_
    refine r_localM he ‹14› pL hd fun t => ?_
    repeat kct_strs
    have h1 := Int.fmod_nonneg_of_pos d0 (show (0 : Int) < 2 by decide)
    have h2 := Int.fmod_lt_of_pos d0 (show (0 : Int) < 2 by decide)
    exact r_storeC (v := .int _) he' ‹14› (.tail _ (.tail _ (.head _))) (he.ck _ (by simp)) pK fun s h => k _ (by omega) s h
  · repeat kct_strs
    exact r_storeC (v := .int 0) he' ‹14› (.tail _ (.tail _ (.head _))) (he.ck _ (by simp)) pK fun s h => k 0 (.inl rfl) s h
set_option maxHeartbeats 400000 in
theorem st4 {X : Stmt} (hX : X = lawSt 4) {a : Addr} {d0 : Int} {ds : List AV} {m : Nat} {v0 : Option AV} (he : LawEnv env L f) (h : H hB oB G ob s) (pM : Pick (f "many") (celp (some (.int m))) ob r2) (pL : Pick L (nsp lawLocs lo) ob rest) (hd : (("drawn" : Str), some (AV.ref a)) ∈ lo)
    (pd : Pick a (lst (.int d0 :: ds)) ob r3) (pF : Pick (f "front") (celp v0) ob r4) (hd0 : 0 ≤ d0 ∧ d0 ≤ 400000)
    (k : ∀ j : Nat, (j < 2 ∨ (m = 4 ∧ j < 4)) → ∀ s', H hB oB G ((f "front", celp (some (.str (S (frontF j))))) :: r4) s' → Q .next s') : wpAny (model prog w) A (exec X env) Q E s := by
  subst hX
  have he' := he.ev
  refine r_assignCell (he.ck _ (by simp)) ?_
  iterate 11 kct_strs
  rw [show Str.ofString "" = S (frontF 0) from by decide +kernel, show Str.ofString "\t" = S (frontF 1) from by decide +kernel, show Str.ofString " \t" = S (frontF 2) from by decide +kernel, show Str.ofString "  \t\t" = S (frontF 3) from by decide +kernel]
  refine ⟨_, _, _, by exact ‹13›, le_size (by simp only [List.length_cons, List.length_nil]; omega), ‹14›, fun T s h => ?_⟩
  iterate 3 kct_strs
  refine r_localM he ‹14› (.there pL) hd fun t => ?_
  kct_strs
  refine r_tailList (xs := .int d0 :: ds) (v := .int d0) ‹14› (.there pd) (by decide) (by decide) rfl fun t => ?_
  have b0 := fdiv_bound (a := d0) (b := 2) hd0.1 (by decide)
  have fin : ∀ (j : Nat) (u : Tok) s, (j < 2 ∨ (m = 4 ∧ j < 4)) → H hB oB G ((T, tup [.str (S (frontF 0)), .str (S (frontF 1)), .str (S (frontF 2)), .str (S (frontF 3))]) :: ob) s → ∀ (value slice : Expr), (∀ u, subscripted slice false (.ref T) (.int (j : Int) u) = operate [.ref T, .int (j : Int) u] (getItem (.ref T) (.int (j : Int) u))) →
      wpAny (model prog w) A (subscriptTail value slice (.ref T) (.int (j : Int) u)) (fun v s₁ => wpAny (model prog w) A (storeName env "front" v) (fun _ => Q .next) E s₁) E s := by
    intro j u s hj h value slice hsub
    have hx : [AV.str (S (frontF 0)), .str (S (frontF 1)), .str (S (frontF 2)), .str (S (frontF 3))][((j : Nat) : Int).toNat]? = some (.str (S (frontF j))) := by
      rw [Int.toNat_natCast]
      match j, hj with
      | 0, _ => rfl
      | 1, _ => rfl
      | 2, _ => rfl
      | 3, _ => rfl
      | n + 4, h => exact absurd h (by omega)
    refine r_tailTup h .here (by omega) (by omega) hx (fun t => ?_) (hsub u)
    exact r_storeC (v := .str (S (frontF j))) he' h (by simp) (he.ck _ (by simp)) (.there pF) fun s h => k j hj s (h.sub (.cons .here (fun _ h => h) (.skip .refl)))
  iterate 8 kct_strs
  refine ite_b (fun q => ?_) (fun q => ?_)
  · have q' : (m : Int) = 4 := by simpa using q
    have h1 := Int.fmod_nonneg_of_pos (d0.fdiv 2) (show (0 : Int) < 4 by decide)
    have h2 := Int.fmod_lt_of_pos (d0.fdiv 2) (show (0 : Int) < 4 by decide)
    iterate 2 kct_strs
    obtain ⟨j, hj⟩ := Int.eq_ofNat_of_zero_le h1
    rw [hj]
    exact fin j _ _ (.inr ⟨by omega, by omega⟩) ‹14› _ _ (fun u => by with_unfolding_all rfl)
  · have h1 := Int.fmod_nonneg_of_pos (d0.fdiv 2) (show (0 : Int) < 2 by decide)
    have h2 := Int.fmod_lt_of_pos (d0.fdiv 2) (show (0 : Int) < 2 by decide)
    iterate 2 kct_strs
    obtain ⟨j, hj⟩ := Int.eq_ofNat_of_zero_le h1
    rw [hj]
    exact fin j _ _ (.inl (by omega)) ‹14› _ _ (fun u => by with_unfolding_all rfl)
set_option maxHeartbeats 400000 in
theorem st5 {X : Stmt} (hX : X = lawSt 5) {a : Addr} {d0 : Int} {ds : List AV} {v0 : Option AV} (he : LawEnv env L f) (h : H hB oB G ob s) (pL : Pick L (nsp lawLocs lo) ob rest) (hd : (("drawn" : Str), some (AV.ref a)) ∈ lo)
    (pd : Pick a (lst (.int d0 :: ds)) ob r3) (pR : Pick (f "rear") (celp v0) ob r4) (hd0 : 0 ≤ d0 ∧ d0 ≤ 400000)
    (k : ∀ j : Nat, j < 3 → ∀ s', H hB oB G ((f "rear", celp (some (.str (S (List.replicate j 32))))) :: r4) s' → Q .next s') : wpAny (model prog w) A (exec X env) Q E s := by
  subst hX
  have he' := he.ev
  have b0 := fdiv_bound (a := d0) (b := 8) hd0.1 (by decide)
  have h1 := Int.fmod_nonneg_of_pos (d0.fdiv 8) (show (0 : Int) < 3 by decide)
  have h2 := Int.fmod_lt_of_pos (d0.fdiv 8) (show (0 : Int) < 3 by decide)
  refine r_assignCell (he.ck _ (by simp)) ?_
  iterate 2 kct_strs
  rw [show Str.ofString " " = S [32] from by decide +kernel]
  iterate 3 kct_strs
  refine r_localM he ‹14› pL hd fun t => ?_
  kct_strs
  refine r_tailList (xs := .int d0 :: ds) (v := .int d0) ‹14› pd (by decide) (by decide) rfl fun t => ?_
  iterate 5 kct_strs
  rw [mulL_one]
  refine r_storeC (v := .str _) he' ‹14› (by simp) (he.ck _ (by simp)) pR fun s h => k _ (by omega) s h
end

end
section
noncomputable def leadOf (m : Nat) (K : Int) (j r : Nat) (z : Int) : List Nat := frontF j ++ lawLead z m K ++ List.replicate r 32
/-- all draws that matter for the leads -/
noncomputable def cfgs : List (Nat × Int × Nat × Nat) := ([0, 1].flatMap fun K : Int => [0, 1, 2, 3].flatMap fun j => [0, 1, 2].map fun r => (4, K, j, r)) ++ ([0, 1].flatMap fun j => [0, 1, 2].map fun r => (5, 0, j, r))
theorem cfgs_mem {m : Nat} {K : Int} {j r : Nat} (hm : m = 4 ∨ m = 5) (hK : K = 0 ∨ (m = 4 ∧ K = 1)) (hj : j < 2 ∨ (m = 4 ∧ j < 4)) (hr : r < 3) : (m, K, j, r) ∈ cfgs := by
  have a0 : ∀ j ∈ List.range 4, ∀ r ∈ List.range 3, ((4, 0, j, r) : Nat × Int × Nat × Nat) ∈ cfgs := by decide
  have a1 : ∀ j ∈ List.range 4, ∀ r ∈ List.range 3, ((4, 1, j, r) : Nat × Int × Nat × Nat) ∈ cfgs := by decide
  have b0 : ∀ j ∈ List.range 2, ∀ r ∈ List.range 3, ((5, 0, j, r) : Nat × Int × Nat × Nat) ∈ cfgs := by decide
  rcases hm with rfl | rfl
  · have hj' : j < 4 := hj.elim (fun h => Nat.lt_trans h (by decide)) (fun h => h.2)
    rcases hK with rfl | ⟨_, rfl⟩
    · exact a0 j (List.mem_range.mpr hj') r (List.mem_range.mpr hr)
    · exact a1 j (List.mem_range.mpr hj') r (List.mem_range.mpr hr)
  · have hj' : j < 2 := hj.elim id (fun h => absurd h.1 (by decide))
    rcases hK with rfl | ⟨h, _⟩
    · exact b0 j (List.mem_range.mpr hj') r (List.mem_range.mpr hr)
    · exact absurd h (by decide)
noncomputable def cellsF (m : Nat) : List Int := if m = 4 then [12, 13, 14, 23, 24, 34] else [12, 13, 14, 15, 23, 24, 25, 34, 35, 45]
theorem cells_bound {m : Nat} : ∀ z ∈ cellsF m, 12 ≤ z ∧ z ≤ 45 := by
  unfold cellsF; split <;> decide
theorem cells_nodup (m : Nat) : (cellsF m).Nodup := by
  unfold cellsF; split <;> decide
theorem cells_len (m : Nat) : (cellsF m).length ≤ 10 := by
  unfold cellsF; split <;> decide
theorem cell_div {z : Int} (h : 12 ≤ z ∧ z ≤ 45) : (0 ≤ z.fdiv 10 ∧ z.fdiv 10 ≤ 9) ∧ (0 ≤ z.fmod 10 ∧ z.fmod 10 ≤ 9) ∧ z.fdiv 10 = z / 10 ∧ z.fmod 10 = z % 10 := by
  have h1 := Int.fdiv_eq_ediv_of_nonneg z (show (0 : Int) ≤ 10 by decide)
  have h2 := Int.fmod_eq_emod_of_nonneg z (show (0 : Int) ≤ 10 by decide)
  rw [h1, h2]
  exact ⟨⟨Int.ediv_nonneg (Int.le_trans (by decide) h.1) (by decide), by omega⟩, ⟨Int.emod_nonneg z (by decide), Int.le_of_lt_add_one (Int.emod_lt_of_pos z (by decide))⟩, rfl, rfl⟩
theorem lead_len : ∀ c ∈ cfgs, ∀ z ∈ cellsF c.1, (leadOf c.1 c.2.1 c.2.2.1 c.2.2.2 z).length ≤ 60 := by decide +kernel
theorem cfgs_m : ∀ c ∈ cfgs, c.1 = 4 ∨ c.1 = 5 := by decide
section
variable {prog : Program} {w : World} {A : Around} {E : Value → Shared → Prop} {s : Shared} {hB : Heap} {oB : OsState} {G : Array GenState} {ob rest r2 r3 r4 r5 r6 r7 r8 r9 : Ledger} {env : Env} {L : Addr} {f : Str → Addr} {lo lo' : Lo} {Q : Flow → Shared → Prop}
theorem cells_rows {m : Nat} (hm : m = 4 ∨ m = 5) : rowsGo (fun i => m - 1 - i) (fun i j => .int (10 * (1 + (i : Int)) + (1 + (i : Int) + 1 + (j : Int)))) (m - 1) = (cellsF m).map .int := by
  rcases hm with rfl | rfl <;> rfl
set_option maxHeartbeats 400000 in
theorem st6 {X : Stmt} (hX : X = lawSt 6) {m : Nat} {v0 : Option AV} (he : LawEnv env L f) (gr : Glob hB "range" (.type "range")) (hm : m = 4 ∨ m = 5) (rm : Rm 2 A) (h : H hB oB G ob s) (pM : Pick (f "many") (celp (some (.int m))) ob r2) (pC : Pick (f "cells") (celp v0) ob r4)
    (k : ∀ a s', H hB oB G ((f "cells", celp (some (.ref a))) :: (a, lst ((cellsF m).map .int)) :: r4) s' → Q .next s') : wpAny (model prog w) A (exec X env) Q E s := by
  subst hX
  have he' := he.ev
  refine r_assignCell (he.ck _ (by simp)) ?_
  have hlen : ∀ i, i ≤ m - 1 → (rowsGo (fun i => m - 1 - i) (fun i j => .int (10 * (1 + (i : Int)) + (1 + (i : Int) + 1 + (j : Int)))) i).length ≤ 1000 := by
    rcases hm with rfl | rfl <;> decide
  have hm5 : m ≤ 5 := by rcases hm with rfl | rfl <;> decide
  have hm1 : -(2 ^ 60) ≤ (m : Int) ∧ (m : Int) < 2 ^ 60 := by clear hm; omega
  have hm6 : ∀ i, m - 1 - i ≤ 1000 := fun i => Nat.le_trans (Nat.sub_le ..) (Nat.le_trans (Nat.sub_le ..) (Nat.le_trans hm5 (by decide)))
  have ci : ∀ i, i < m - 1 → -(2 ^ 60) ≤ 1 + (i : Int) ∧ 1 + (i : Int) ≤ 2 ^ 60 := fun i hi => by
    have := Nat.lt_of_lt_of_le hi (Nat.sub_le_sub_right hm5 1)
    clear hm hm1 hm5 hi
    omega
  refine r_comp2 (hB := hB) (oB := oB) (G := G) (ob := ob) he' rm.h ["range"] [("many", f "many")] (by decide +kernel) (by with_unfolding_all rfl) (by with_unfolding_all rfl) (m - 1) (fun i => m - 1 - i) (fun i => .int (1 + (i : Int))) (fun i j => .int (1 + (i : Int) + 1 + (j : Int)))
    (fun i j => .int (10 * (1 + (i : Int)) + (1 + (i : Int) + 1 + (j : Int)))) hlen (fun i hi => hm6 i) ?_ (fun i hi C env1 E1 s1 R0 he1 h1 => ?_) (fun i j hi hj C env1 E1 s1 R0 he1 h1 => ?_) (fun D s h => ?_)
  · repeat kct_strs
    rename_i I s2 h
    refine ⟨I, _, rfl, Itr.rangeN I 1 (m - 1), ?_⟩
    have e1 : ((m : Int) - 1).toNat = m - 1 := Int.toNat_sub m 1
    rw [e1] at h
    simpa using h
  · repeat kct_strs
    refine ⟨rfl, ?_⟩
    refine r_iterRange ‹14› .here (by omega) (by omega) (by omega) (by omega) fun I s h => ?_
    have e1 : ((m : Int) + 1 - (1 + (i : Int) + 1)).toNat = m - 1 - i := by rw [show (m : Int) + 1 - (1 + (i : Int) + 1) = (m : Int) - ((1 + i : Nat) : Int) by omega, Int.toNat_sub, Nat.sub_add_eq]
    rw [e1] at h
    refine ⟨I, _, rfl, Itr.rangeN I (1 + (i : Int) + 1) (m - 1 - i), ?_⟩
    simpa using h
  · repeat kct_strs
    exact ⟨_, rfl, ‹14›⟩
  · rw [cells_rows hm] at h
    exact r_storeC (v := .ref D) (t := 0) he' h (by simp) (he.ck _ (by simp)) (.there pC) fun s h => k D s h
theorem getD_mem' {zs : List Int} {i : Nat} (hi : i < zs.length) : zs.getD i 0 ∈ zs := by simp [List.getD_eq_getElem?_getD, hi]
theorem take_notin {zs : List Int} (hn : zs.Nodup) {i : Nat} (hi : i < zs.length) : zs.getD i 0 ∉ zs.take i := by
  have h := take_snocD 0 zs hi
  have h2 : (zs.take (i + 1)).Nodup := (List.take_sublist _ _).nodup hn
  rw [h] at h2
  exact fun hm => (List.nodup_append.mp h2).2.2 _ hm _ (.head _) rfl
noncomputable def kvOf (zs : List Int) (g : Int → AV) : List (Int × AV) := zs.map fun z => (z, g z)
theorem kvOf_keys (zs : List Int) (g : Int → AV) : (kvOf zs g).map (·.1) = zs := by simp [kvOf, List.map_map, Function.comp_def]
theorem kvOf_mem {zs : List Int} {g : Int → AV} {z : Int} (h : z ∈ zs) : (z, g z) ∈ kvOf zs g := List.mem_map.mpr ⟨z, h, rfl⟩
set_option maxHeartbeats 400000 in
theorem st7 {X : Stmt} (hX : X = lawSt 7) {m j r : Nat} {K : Int} {v0 : Option AV} {a : Addr} (he : LawEnv env L f) (hc : (m, K, j, r) ∈ cfgs) (fl : FnLead hB) (lim : hB.NoLimit) (gl : Glob hB "_law_lead" (.ref 158)) (rm : Rm 2 A) (h : H hB oB G ob s) (pM : Pick (f "many") (celp (some (.int m))) ob r2) (pK : Pick (f "kind") (celp (some (.int K))) ob r3)
    (pF : Pick (f "front") (celp (some (.str (S (frontF j))))) ob r5) (pR : Pick (f "rear") (celp (some (.str (S (List.replicate r 32))))) ob r6) (pC : Pick (f "cells") (celp (some (.ref a))) ob r7) (pa : Pick a (lst ((cellsF m).map .int)) ob r8) (pD : Pick (f "leads") (celp v0) ob r4)
    (k : ∀ D s', H hB oB G ((f "leads", celp (some (.ref D))) :: (D, dic (kvOf (cellsF m) fun z => .str (S (leadOf m K j r z)))) :: r4) s' → Q .next s') : wpAny (model prog w) A (exec X env) Q E s := by
  subst hX
  have he' := he.ev
  have hll : ∀ z ∈ cellsF m, (leadOf m K j r z).length ≤ 60 := lead_len _ hc
  have hm45 : m = 4 ∨ m = 5 := cfgs_m _ hc
  refine r_assignCell (he.ck _ (by simp)) ?_
  refine r_dictComp (hB := hB) (oB := oB) (G := G) (ob := ob) (σ := Nat) he' rm.h ["_law_lead"] [("rear", f "rear"), ("many", f "many"), ("kind", f "kind"), ("front", f "front")] (by decide +kernel) (by with_unfolding_all rfl) (by with_unfolding_all rfl) pa
    (fun i y => y = i) (fun y => kvOf ((cellsF m).take y) fun z => .str (S (leadOf m K j r z))) (fun _ => []) 0 rfl rfl rfl (fun i y _ hy => by have := cells_len m; simp only [kvOf, List.length_map, List.length_take]; omega) ?_ (fun i y hi hy C env1 E1 s1 W he1 h1 => ?_) (fun D y hy s h => ?_)
  · repeat kct_strs
    exact ⟨rfl, h⟩
  · subst hy
    have hm := getD_mem' hi
    have bz := cells_bound _ hm
    have hl := hll _ hm
    have hnot := take_notin (cells_nodup m) hi
    have ht := take_snocD 0 (cellsF m) hi
    generalize (cellsF m).getD y 0 = z at h1 hm bz hl hnot ht
    have cd := cell_div bz
    rw [List.nil_append] at h1
    repeat kct_strs
    ktu_offI
    refine sp_lead fl lim (rm.le (by decide)) ‹14› rfl rfl cd.1 cd.2.1 (by omega) (by omega) fun t s h => ?_
    have hl2 := hl
    unfold leadOf at hl2
    rw [List.length_append, List.length_append] at hl2
    repeat kct_strs
    refine ⟨z, _, y + 1, .str (S (leadOf m K j r z)), _, rfl, rfl, ?_, rfl, ?_, ?_⟩
    · rw [kvOf_keys]; exact hnot
    · show kvOf _ _ = kvOf _ _ ++ _
      rw [ht]; simp [kvOf]
    · rw [List.nil_append]; exact ‹14›
  · subst hy
    rw [List.take_length, List.append_nil] at h
    exact r_storeC (v := .ref D) (t := 0) he' h (by simp) (he.ck _ (by simp)) (.there pD) fun s h => k D s h
end

end
section
theorem perm_in (F : Ledger) (c : Addr × OP) (ob X W : Ledger) : List.Perm (F ++ (c :: (ob ++ (X ++ W)))) (c :: (ob ++ ((F ++ X) ++ W))) := by
  refine List.perm_middle.trans (List.Perm.cons _ ((List.perm_append_comm_assoc F ob _).trans ?_))
  rw [List.append_assoc]
noncomputable def txtOf (m : Nat) (K : Int) (j r : Nat) (z : Int) : List Nat := leadOf m K j r z ++ [120, 32, 9]
/-- a dict of instances, the ledger that bears them -/
structure SpInv (txt : Int → List Nat) (zs : List Int) (kv : List (Int × AV)) (X : Ledger) : Prop where
  keys : kv.map (·.1) = zs
  ws : ∀ z av, (z, av) ∈ kv → ∃ x, av = .ref x ∧ WsAt X x (txt z)
section
variable {prog : Program} {w : World} {A : Around} {E : Value → Shared → Prop} {s : Shared} {hB : Heap} {oB : OsState} {G : Array GenState} {ob rest r2 r3 r4 r5 r6 r7 r8 r9 : Ledger} {env : Env} {L : Addr} {f : Str → Addr} {lo lo' : Lo} {Q : Flow → Shared → Prop}
set_option maxHeartbeats 1000000 in
theorem st8 {X : Stmt} (hX : X = lawSt 8) {m j r : Nat} {K : Int} {v0 : Option AV} {a D0 : Addr} {mN : Str → Option Value} (he : LawEnv env L f) (hc : (m, K, j, r) ∈ cfgs) (C : WsM prog w hB mN) (lim : hB.NoLimit) (gw : Glob hB "Whitespace" (.ref 140)) (gl : Glob hB "len" (.builtin "len")) (gt : Glob hB "tuple" (.type "tuple")) (rm : Rm 3 A) (h : H hB oB G ob s)
    (pl : Pick (f "leads") (celp (some (.ref D0))) ob r2) (pD0 : Pick D0 (dic (kvOf (cellsF m) fun z => .str (S (leadOf m K j r z)))) ob r3) (pC : Pick (f "cells") (celp (some (.ref a))) ob r7) (pa : Pick a (lst ((cellsF m).map .int)) ob r8) (pD : Pick (f "spaces") (celp v0) ob r4)
    (k : ∀ D kv X s', SpInv (txtOf m K j r) (cellsF m) kv X → H hB oB G ((f "spaces", celp (some (.ref D))) :: (D, dic kv) :: (r4 ++ X)) s' → Q .next s') : wpAny (model prog w) A (exec X env) Q E s := by
  subst hX
  have he' := he.ev
  have hll : ∀ z ∈ cellsF m, (leadOf m K j r z).length ≤ 60 := lead_len _ hc
  refine r_assignCell (he.ck _ (by simp)) ?_
  refine r_dictComp (hB := hB) (oB := oB) (G := G) (ob := ob) (σ := List (Int × AV) × Ledger) he' rm.h ["Whitespace"] [("leads", f "leads")] (by decide +kernel) (by with_unfolding_all rfl) (by with_unfolding_all rfl) pa
    (fun i y => SpInv (txtOf m K j r) ((cellsF m).take i) y.1 y.2) (fun y => y.1) (fun y => y.2) ([], []) ⟨rfl, fun _ _ h => nomatch h⟩ rfl rfl
    (fun i y _ hy => by have := cells_len m; have e := congrArg List.length hy.keys; rw [List.length_map, List.length_take] at e; omega) ?_ (fun i y hi hy C1 env1 E1 s1 W he1 h1 => ?_) (fun D y hy s h => ?_)
  · repeat kct_strs
    exact ⟨rfl, h⟩
  · obtain ⟨kv, X⟩ := y
    dsimp only at hy h1 ⊢
    have hm := getD_mem' hi
    have bz := cells_bound _ hm
    have hl := hll _ hm
    have hnot := take_notin (cells_nodup m) hi
    have ht := take_snocD 0 (cellsF m) hi
    have hv := kvOf_mem (g := fun z => AV.str (S (leadOf m K j r z))) hm
    generalize (cellsF m).getD i 0 = z at h1 hm bz hl hnot ht hv
    kct_strs
    refine wpAny_Call_Name_kw (r_glob he1 h1 (.head _) gw (callWith_cls C.X ?_))
    iterate 5 kct_strs
    refine r_tailDict ‹14› (.there (.app pD0)) hv fun t s h => ?_
    kct_strs
    rw [show Str.ofString "x \t" = S [120, 32, 9] from by decide +kernel]
    iterate 2 kct_strs
    rename_i n2
    have h2 := h.tick.tk (n := n2)
    refine ⟨h2.keep, ?_⟩
    obtain ⟨oI, hoI, hcI⟩ := C.cInit
    refine r_new C.X h2 C.init hoI hcI fun x dx s h => ?_
    have htl : (leadOf m K j r z ++ [120, 32, 9]).length ≤ 500 := by
      rw [List.length_append]
      have : (leadOf m K j r z).length ≤ 60 := hl
      simp; omega
    refine sp_init C.toWsCls lim gw gl gt (rm.new.le (by decide)) h htl fun nm ct s h => ⟨rfl, ?_⟩
    refine ⟨z, _, (kv ++ [(z, .ref x)], [(dx, atd (wsAttrs (txtOf m K j r z) nm)), (x, insO 140 dx), (nm, tup [.ref ct, .int (wsRun (wsHead (txtOf m K j r z))).2.1]), (ct, tup ((wsRun (wsHead (txtOf m K j r z))).1.map .int))] ++ X), .ref x, 0, rfl, rfl, ?_, ?_, rfl, ?_⟩
    · rw [hy.keys]; exact hnot
    · refine ⟨?_, fun z' av hm' => ?_⟩
      · rw [List.map_append, hy.keys, ht]; rfl
      · rcases List.mem_append.mp hm' with hm' | hm'
        · obtain ⟨x', e, W'⟩ := hy.ws z' av hm'
          exact ⟨x', e, W'.mono fun p hp => List.mem_append_right _ hp⟩
        · cases List.mem_singleton.mp hm'
          exact ⟨x, rfl, ⟨dx, nm, ct, by simp, by simp, by simp, by simp⟩⟩
    · exact h.perm (perm_in [(dx, atd (wsAttrs (txtOf m K j r z) nm)), (x, insO 140 dx), (nm, tup [.ref ct, .int (wsRun (wsHead (txtOf m K j r z))).2.1]), (ct, tup ((wsRun (wsHead (txtOf m K j r z))).1.map .int))] _ ob X W)
  · obtain ⟨kv, X⟩ := y
    rw [List.take_length] at hy
    exact r_storeC (v := .ref D) (t := 0) he' h (by simp) (he.ck _ (by simp)) (.there (.app pD)) fun s h => k D kv X s hy h
end

end
section
theorem perm_in2 (d c1 c2 : Addr × OP) (ob X W : Ledger) : List.Perm (d :: (c1 :: c2 :: (ob ++ (X ++ W)))) (c1 :: c2 :: (ob ++ ((d :: X) ++ W))) :=
  (List.Perm.swap _ _ _).trans (List.Perm.cons _ ((List.Perm.swap _ _ _).trans (List.Perm.cons _ List.perm_middle.symm)))
/-- a dict of lists of ints, the ledger that bears them -/
structure LdInv (U : Int → List Int) (zs : List Int) (kv : List (Int × AV)) (X : Ledger) : Prop where
  keys : kv.map (·.1) = zs
  ls : ∀ z av, (z, av) ∈ kv → ∃ l, av = .ref l ∧ (l, lst ((U z).map .int)) ∈ X
theorem LdInv.get {U : Int → List Int} {zs : List Int} {kv : List (Int × AV)} {X : Ledger} (h : LdInv U zs kv X) {z : Int} (hz : z ∈ zs) : ∃ l, (z, .ref l) ∈ kv ∧ (l, lst ((U z).map .int)) ∈ X := by
  rw [← h.keys] at hz
  obtain ⟨⟨z', av⟩, hm, rfl⟩ := List.mem_map.mp hz
  obtain ⟨l, rfl, hl⟩ := h.ls _ _ hm
  exact ⟨l, hm, hl⟩
theorem LdInv.mono {U : Int → List Int} {zs : List Int} {kv : List (Int × AV)} {X X' : Ledger} (h : LdInv U zs kv X) (hX : ∀ p ∈ X, p ∈ X') : LdInv U zs kv X' :=
  ⟨h.keys, fun z av hm => let ⟨l, e, hl⟩ := h.ls z av hm; ⟨l, e, hX _ hl⟩⟩
theorem SpInv.get {txt : Int → List Nat} {zs : List Int} {kv : List (Int × AV)} {X : Ledger} (h : SpInv txt zs kv X) {z : Int} (hz : z ∈ zs) : ∃ x, (z, .ref x) ∈ kv ∧ WsAt X x (txt z) := by
  rw [← h.keys] at hz
  obtain ⟨⟨z', av⟩, hm, rfl⟩ := List.mem_map.mp hz
  obtain ⟨x, rfl, hl⟩ := h.ws _ _ hm
  exact ⟨x, hm, hl⟩
theorem SpInv.mono {txt : Int → List Nat} {zs : List Int} {kv : List (Int × AV)} {X X' : Ledger} (h : SpInv txt zs kv X) (hX : ∀ p ∈ X, p ∈ X') : SpInv txt zs kv X' :=
  ⟨h.keys, fun z av hm => let ⟨l, e, hl⟩ := h.ws z av hm; ⟨l, e, hl.mono hX⟩⟩
theorem txt_len {c : Nat × Int × Nat × Nat} (hc : c ∈ cfgs) {z : Int} (hz : z ∈ cellsF c.1) : (txtOf c.1 c.2.1 c.2.2.1 c.2.2.2 z).length ≤ 500 := by
  have := lead_len c hc z hz
  unfold txtOf
  rw [List.length_append]; simp; omega
noncomputable def underF (m : Nat) (K : Int) (j r : Nat) (z : Int) : List Int := (cellsF m).filter fun one => lessF (txtOf m K j r one) (txtOf m K j r z)
section
variable {prog : Program} {w : World} {A : Around} {E : Value → Shared → Prop} {s : Shared} {hB : Heap} {oB : OsState} {G : Array GenState} {ob rest r2 r3 r4 r5 r6 r7 r8 r9 : Ledger} {env : Env} {L : Addr} {f : Str → Addr} {lo lo' : Lo} {Q : Flow → Shared → Prop}
set_option maxHeartbeats 1000000 in
theorem st9 {X : Stmt} (hX : X = lawSt 9) {m j r : Nat} {K : Int} {v0 : Option AV} {a S0 : Addr} {kvS : List (Int × AV)} {mN : Str → Option Value} (he : LawEnv env L f) (hc : (m, K, j, r) ∈ cfgs) (C : WsM prog w hB mN) (lim : hB.NoLimit) (gl : Glob hB "len" (.builtin "len")) (gm : Glob hB "max" (.builtin "max")) (gr : Glob hB "range" (.type "range")) (rm : Rm 3 A) (h : H hB oB G ob s)
    (pS : Pick (f "spaces") (celp (some (.ref S0))) ob r2) (pS0 : Pick S0 (dic kvS) ob r3) (hS : SpInv (txtOf m K j r) (cellsF m) kvS ob) (pC : Pick (f "cells") (celp (some (.ref a))) ob r7) (pa : Pick a (lst ((cellsF m).map .int)) ob r8) (pD : Pick (f "under") (celp v0) ob r4)
    (k : ∀ D kv X s', LdInv (underF m K j r) (cellsF m) kv X → H hB oB G ((f "under", celp (some (.ref D))) :: (D, dic kv) :: (r4 ++ X)) s' → Q .next s') : wpAny (model prog w) A (exec X env) Q E s := by
  subst hX
  have he' := he.ev
  have hl := cells_len m
  refine r_assignCell (he.ck _ (by simp)) ?_
  refine r_dictCompC (hB := hB) (oB := oB) (G := G) (ob := ob) (σ := List (Int × AV) × Ledger) he' rm.h [] [("spaces", f "spaces"), ("cells", f "cells")] (by decide +kernel) (by with_unfolding_all rfl) (by with_unfolding_all rfl) (fun _ _ => rfl) (fun _ => rfl) pa
    (fun i y => LdInv (underF m K j r) ((cellsF m).take i) y.1 y.2) (fun y => y.1) (fun y => y.2) ([], []) ⟨rfl, fun _ _ h => nomatch h⟩ rfl rfl
    (fun i y _ hy => by have e := congrArg List.length hy.keys; rw [List.length_map, List.length_take] at e; omega) ?_ (fun i y hi hy C1 cc env1 E1 s1 W he1 h1 => ?_) (fun D y hy s h => ?_)
  · repeat kct_strs
    exact ⟨rfl, h⟩
  · obtain ⟨kv, X⟩ := y
    dsimp only at hy h1 ⊢
    have hm := getD_mem' hi
    have hnot := take_notin (cells_nodup m) hi
    have ht := take_snocD 0 (cellsF m) hi
    have hzl := txt_len hc hm
    obtain ⟨x2, hx2, W2⟩ := hS.get hm
    generalize (cellsF m).getD i 0 = z at h1 hm hnot ht hzl hx2 W2
    kct_strs
    refine r_listComp (hB := hB) (oB := oB) he1 rm.h ["one"] [] [("spaces", f "spaces"), ("cell", cc)] (by decide +kernel) (by with_unfolding_all rfl) (by with_unfolding_all rfl) ?_
    kct_strs
    refine r_iterListIn ‹14› (.there (.there (.app pa))) fun I s h => ?_
    refine compInts (J := []) (Itr.intsIn I a (cellsF m) (.there (.there (.app pa)))) rfl (by omega) (fun one => lessF (txtOf m K j r one) (txtOf m K j r z)) AV.int (by rw [List.append_nil]; exact h) (fun one ho C2 env2 E2 s2 R0 he2 h2 => ⟨?_, fun _ s3 h3 => ?_⟩) (fun D2 => ?_)
    · obtain ⟨x1, hx1, W1⟩ := hS.get ho
      have ho1 := txt_len hc ho
      refine wpAny_tests_one ?_
      simp only [List.cons_append, List.nil_append, List.append_assoc] at h2 ⊢
      refine r_truth ?_ ?hs
      case hs => rfl
      refine r_methodV (hB := hB) (oB := oB) ?_
      iterate 3 kct_strs
      refine r_tailDict ‹14› (.there (.there (.there (.app pS0)))) hx1 fun t s h => ?_
      have sub3 : ∀ p ∈ ob, p ∈ (C2, nsp ["one"] [("one", some (.int one))]) :: (cc, celp (some (.int z))) :: (C1, nsp [] []) :: (ob ++ (X ++ (W ++ R0))) := fun p hp => .tail _ (.tail _ (.tail _ (List.mem_append_left _ hp)))
      refine ⟨_, _, C.fLe.isFn, fun Q' q => r_wsLe C ‹14› (W1.mono sub3) q, ?_⟩
      iterate 4 kct_strs
      refine r_tailDict ‹14› (.there (.there (.there (.app pS0)))) hx2 fun t s h => ?_
      kct_strs
      ktu_offI
      refine sp_less C lim gl gm gr (rm.le (by decide)) ‹14› (W1.mono sub3) (W2.mono sub3) ho1 hzl fun s h => ?_
      kct_strs
      exact ⟨rfl, h⟩
    · simp only [List.cons_append, List.nil_append, List.append_assoc] at h3 ⊢
      kct_strs
      exact ⟨_, rfl, ‹14›⟩
    · intro s h
      refine ⟨z, _, (kv ++ [(z, .ref D2)], (D2, lst ((underF m K j r z).map .int)) :: X), .ref D2, 0, rfl, rfl, ?_, ?_, rfl, ?_⟩
      · rw [hy.keys]; exact hnot
      · refine ⟨?_, fun z' av hm' => ?_⟩
        · rw [List.map_append, hy.keys, ht]; rfl
        · rcases List.mem_append.mp hm' with hm' | hm'
          · obtain ⟨l, e, hl⟩ := hy.ls z' av hm'
            exact ⟨l, e, .tail _ hl⟩
          · cases List.mem_singleton.mp hm'
            exact ⟨D2, rfl, .head _⟩
      · rw [List.append_nil] at h
        exact h.perm (perm_in2 (D2, _) _ _ ob X W)
  · obtain ⟨kv, X⟩ := y
    rw [List.take_length] at hy
    exact r_storeC (v := .ref D) (t := 0) he' h (by simp) (he.ck _ (by simp)) (.there (.app pD)) fun s h => k D kv X s hy h
noncomputable def overF (m : Nat) (U : Int → List Int) (z : Int) : List Int := (cellsF m).filter fun one => decide (z ∈ U one)
set_option maxHeartbeats 1000000 in
theorem st10 {X : Stmt} (hX : X = lawSt 10) {m : Nat} {a D0 : Addr} {U : Int → List Int} {kvU : List (Int × AV)} (he : LawEnv env L f) (rm : Rm 3 A) (h : H hB oB G ob s) (pL : Pick L (nsp lawLocs lo) ob rest) (hp : ∀ v, ∃ lo', Put "over" v lo lo')
    (pU : Pick (f "under") (celp (some (.ref D0))) ob r2) (pU0 : Pick D0 (dic kvU) ob r3) (hU : LdInv U (cellsF m) kvU ob) (pC : Pick (f "cells") (celp (some (.ref a))) ob r7) (pa : Pick a (lst ((cellsF m).map .int)) ob r8)
    (k : ∀ D kv X lo' s', Put "over" (.ref D) lo lo' → LdInv (overF m U) (cellsF m) kv X → H hB oB G ((L, nsp lawLocs lo') :: (D, dic kv) :: (rest ++ X)) s' → Q .next s') : wpAny (model prog w) A (exec X env) Q E s := by
  subst hX
  have he' := he.ev
  have hl := cells_len m
  refine r_assignDictC (hB := hB) (oB := oB) (G := G) (ob := ob) (σ := List (Int × AV) × Ledger) he' rm.h [] [("under", f "under"), ("cells", f "cells")] (by decide +kernel) (by with_unfolding_all rfl) (by with_unfolding_all rfl) (fun _ _ => rfl) (fun _ => rfl) pa
    (fun i y => LdInv (overF m U) ((cellsF m).take i) y.1 y.2) (fun y => y.1) (fun y => y.2) ([], []) ⟨rfl, fun _ _ h => nomatch h⟩ rfl rfl
    (fun i y _ hy => by have e := congrArg List.length hy.keys; rw [List.length_map, List.length_take] at e; omega) (by simp) (by decide +kernel) (by decide +kernel) ?_ (fun i y hi hy C1 cc env1 E1 s1 W he1 h1 => ?_) (fun D y hy => ?_)
  · repeat kct_strs
    exact ⟨rfl, h⟩
  · obtain ⟨kv, X⟩ := y
    dsimp only at hy h1 ⊢
    have hm := getD_mem' hi
    have hnot := take_notin (cells_nodup m) hi
    have ht := take_snocD 0 (cellsF m) hi
    generalize (cellsF m).getD i 0 = z at h1 hm hnot ht
    kct_strs
    refine r_listComp (hB := hB) (oB := oB) he1 rm.h ["one"] [] [("under", f "under"), ("cell", cc)] (by decide +kernel) (by with_unfolding_all rfl) (by with_unfolding_all rfl) ?_
    kct_strs
    refine r_iterListIn ‹14› (.there (.there (.app pa))) fun I s h => ?_
    refine compInts (J := []) (Itr.intsIn I a (cellsF m) (.there (.there (.app pa)))) rfl (by omega) (fun one => decide (z ∈ U one)) AV.int (by rw [List.append_nil]; exact h) (fun one ho C2 env2 E2 s2 R0 he2 h2 => ⟨?_, fun _ s3 h3 => ?_⟩) (fun D2 => ?_)
    · obtain ⟨x1, hx1, m1⟩ := hU.get ho
      obtain ⟨r1, p1⟩ := pick_of_mem m1
      refine wpAny_tests_one ?_
      simp only [List.cons_append, List.nil_append, List.append_assoc] at h2 ⊢
      iterate 5 kct_strs
      refine r_tailDict ‹14› (.there (.there (.there (.app pU0)))) hx1 fun t s h => ?_
      iterate 2 kct_strs
      exact ⟨rfl, ‹14›⟩
    · simp only [List.cons_append, List.nil_append, List.append_assoc] at h3 ⊢
      kct_strs
      exact ⟨_, rfl, ‹14›⟩
    · intro s h
      refine ⟨z, _, (kv ++ [(z, .ref D2)], (D2, lst ((overF m U z).map .int)) :: X), .ref D2, 0, rfl, rfl, ?_, ?_, rfl, ?_⟩
      · rw [hy.keys]; exact hnot
      · refine ⟨?_, fun z' av hm' => ?_⟩
        · rw [List.map_append, hy.keys, ht]; rfl
        · rcases List.mem_append.mp hm' with hm' | hm'
          · obtain ⟨l, e, hl⟩ := hy.ls z' av hm'
            exact ⟨l, e, .tail _ hl⟩
          · cases List.mem_singleton.mp hm'
            exact ⟨D2, rfl, .head _⟩
      · rw [List.append_nil] at h
        exact h.perm (perm_in2 (D2, _) _ _ ob X W)
  · obtain ⟨kv, X⟩ := y
    rw [List.take_length] at hy
    obtain ⟨lo', hp'⟩ := hp (.ref D)
    exact ⟨_, lo', _, .there (.app pL), hp', fun s h => k D kv X lo' s hp' hy h⟩
end

end
section
noncomputable def stepV (z : Int) : Int := z.fmod 10 - z.fdiv 10
noncomputable def halfV (z : Int) : Int := (z * (z + 1)).fdiv 2 - 1
theorem filt_true (zs : List Int) (g : Int → AV) : (zs.filter fun _ => true).map g = zs.map g := by rw [List.filter_eq_self.mpr fun _ _ => rfl]
section
variable {prog : Program} {w : World} {A : Around} {E : Value → Shared → Prop} {s : Shared} {hB : Heap} {oB : OsState} {G : Array GenState} {ob rest r2 r3 r4 r5 r6 r7 r8 r9 : Ledger} {env : Env} {L : Addr} {f : Str → Addr} {lo lo' : Lo} {Q : Flow → Shared → Prop}
set_option maxHeartbeats 1000000 in
theorem st11 {X : Stmt} (hX : X = lawSt 11) {m : Nat} {a : Addr} (he : LawEnv env L f) (rm : Rm 3 A) (h : H hB oB G ob s) (pL : Pick L (nsp lawLocs lo) ob rest) (hp : ∀ v, ∃ lo', Put "steps" v lo lo')
    (pC : Pick (f "cells") (celp (some (.ref a))) ob r7) (pa : Pick a (lst ((cellsF m).map .int)) ob r8)
    (k : ∀ D lo' s', Put "steps" (.ref D) lo lo' → H hB oB G ((L, nsp lawLocs lo') :: (D, lst (((cellsF m).map stepV).map .int)) :: rest) s' → Q .next s') : wpAny (model prog w) A (exec X env) Q E s := by
  subst hX
  have he' := he.ev
  have hl := cells_len m
  refine r_assignComp (hB := hB) (oB := oB) he' rm.h ["cell"] [] [] (by decide +kernel) (by with_unfolding_all rfl) (by with_unfolding_all rfl) (by simp) (by decide +kernel) (by decide +kernel) ?_
  kct_strs
  refine r_iterListIn ‹14› pa fun I s h => ?_
  refine compInts (J := []) (Itr.intsIn I a (cellsF m) pa) rfl (by omega) (fun _ => true) (fun z => .int (stepV z)) (by rw [List.append_nil]; exact h) (fun one ho C2 env2 E2 s2 R0 he2 h2 => ⟨wpAny_tests_nil ⟨rfl, h2⟩, fun _ s3 h3 => ?_⟩) (fun D2 => ?_)
  · simp only [List.nil_append] at h3 ⊢
    repeat kct_strs
    exact ⟨_, rfl, ‹14›⟩
  · obtain ⟨lo', hp'⟩ := hp (.ref D2)
    refine ⟨_, lo', _, .there (.app pL), hp', fun s h => k D2 lo' s hp' (h.sub ?_)⟩
    rw [filt_true, List.append_nil, List.map_map]
    exact .refl
set_option maxHeartbeats 1000000 in
theorem st12 {X : Stmt} (hX : X = lawSt 12) {m : Nat} {a S1 D0 : Addr} {U : Int → List Int} {kvU : List (Int × AV)} (he : LawEnv env L f) (gl : Glob hB "len" (.builtin "len")) (rm : Rm 3 A) (h : H hB oB G ob s) (pL : Pick L (nsp lawLocs lo) ob rest) (hs : (("steps" : Str), some (AV.ref S1)) ∈ lo) (pS1 : Pick S1 (lst (((cellsF m).map stepV).map .int)) ob r2)
    (pU : Pick (f "under") (celp (some (.ref D0))) ob r4) (pU0 : Pick D0 (dic kvU) ob r3) (hU : LdInv U (cellsF m) kvU ob) (hUl : ∀ z ∈ cellsF m, (U z).length ≤ 100)
    (pC : Pick (f "cells") (celp (some (.ref a))) ob r7) (pa : Pick a (lst ((cellsF m).map .int)) ob r8) (hsb : ∀ z ∈ (cellsF m).map stepV, 0 ≤ z ∧ z ≤ 10)
    (heq : (cellsF m).map (fun z => ((U z).length : Int)) = ((cellsF m).map stepV).map halfV)
    (k : ∀ s', H hB oB G ob s' → Q .next s') : wpAny (model prog w) A (exec X env) Q E s := by
  subst hX
  have he' := he.ev
  have hl := cells_len m
  refine wpAny_If ?_
  iterate 1 kct_strs
  refine r_listComp (hB := hB) (oB := oB) he' rm.h ["cell"] ["len"] [("under", f "under")] (by decide +kernel) (by with_unfolding_all rfl) (by with_unfolding_all rfl) ?_
  kct_strs
  refine r_iterListIn ‹14› pa fun I s h => ?_
  refine compInts (J := []) (Itr.intsIn I a (cellsF m) pa) rfl (by omega) (fun _ => true) (fun z => .int ((U z).length : Int)) (by rw [List.append_nil]; exact h) (fun one ho C2 env2 E2 s2 R0 he2 h2 => ⟨wpAny_tests_nil ⟨rfl, h2⟩, fun _ s3 h3 => ?_⟩) (fun D2 => ?_)
  · obtain ⟨x1, hx1, m1⟩ := hU.get ho
    obtain ⟨r1, p1⟩ := pick_of_mem m1
    have hl1 := hUl one ho
    simp only [List.nil_append] at h3 ⊢
    iterate 5 kct_strs
    refine r_tailDict ‹14› (.there (.app pU0)) hx1 fun t s h => ?_
    kct_strs
    refine r_lenList ‹14› (.there (.app p1)) (le_size (by rw [List.length_map]; omega)) fun t s h => ?_
    rw [List.length_map]
    exact ⟨_, rfl, ‹14›⟩
  · intro s h
    rw [filt_true, List.append_nil] at h
    refine r_listComp (hB := hB) (oB := oB) he' rm.h ["step"] [] [] (by decide +kernel) (by with_unfolding_all rfl) (by with_unfolding_all rfl) ?_
    refine r_localM he ‹14› (.there pL) hs fun t => ?_
    refine r_iterListIn ‹14› (.there pS1) fun I s h => ?_
    refine compInts (J := []) (Itr.intsIn I S1 ((cellsF m).map stepV) (.there pS1)) rfl (by rw [List.length_map]; omega) (fun _ => true) (fun z => .int (halfV z)) (by rw [List.append_nil]; exact h) (fun one ho C2 env2 E2 s2 R0 he2 h2 => ⟨wpAny_tests_nil ⟨rfl, h2⟩, fun _ s3 h3 => ?_⟩) (fun D3 => ?_)
    · have hb := hsb one ho
      simp only [List.nil_append] at h3 ⊢
      repeat kct_strs
      exact ⟨_, rfl, ‹14›⟩
    · intro s h
      rw [filt_true, List.append_nil] at h
      rw [show (cellsF m).map (fun z => AV.int ((U z).length : Int)) = ((cellsF m).map fun z => ((U z).length : Int)).map .int from by simp, show ((cellsF m).map stepV).map (fun z => AV.int (halfV z)) = (((cellsF m).map stepV).map halfV).map .int from by simp] at h
      iterate 2 kct_strs
      rw [heq, decide_eq_true rfl]
      simp only [Bool.not_true, Bool.false_eq_true, if_false]
      kct_strs
      exact k _ (H.sub (.skip (.skip .refl)) h)
set_option maxHeartbeats 1000000 in
theorem st13 {X : Stmt} (hX : X = lawSt 13) {m j r : Nat} {K : Int} {a S0 D0 : Addr} {kvS : List (Int × AV)} {mN : Str → Option Value} (he : LawEnv env L f) (hc : (m, K, j, r) ∈ cfgs) (C : WsM prog w hB mN) (fc : FnCol hB 151) (lim : hB.NoLimit) (gl : Glob hB "len" (.builtin "len")) (gr : Glob hB "range" (.type "range")) (gc : Glob hB "_law_column" (.ref 151)) (rm : Rm 3 A) (h : H hB oB G ob s)
    (pS : Pick (f "spaces") (celp (some (.ref S0))) rest r2) (pS0 : Pick S0 (dic kvS) rest r3) (hS : SpInv (txtOf m K j r) (cellsF m) kvS rest) (pC : Pick (f "cells") (celp (some (.ref a))) rest r7) (pa : Pick a (lst ((cellsF m).map .int)) rest r8)
    (pl : Pick (f "leads") (celp (some (.ref D0))) rest r4) (pD0 : Pick D0 (dic (kvOf (cellsF m) fun z => .str (S (leadOf m K j r z)))) rest r5) (pT : Pick (f "tab") (celp none) ob rest)
    (heq : ∀ t : Int, 1 ≤ t → t ≤ 3 → (cellsF m).map (fun z => ilF (txtOf m K j r z) t) = (cellsF m).map fun z => colF t (leadOf m K j r z))
    (k : ∀ s', H hB oB G rest s' → Q .next s') : wpAny (model prog w) A (exec X env) Q E s := by
  subst hX
  have he' := he.ev
  have hl := cells_len m
  have hll : ∀ z ∈ cellsF m, (leadOf m K j r z).length ≤ 60 := lead_len _ hc
  refine wpAny_For ?_
  iterate 8 kct_strs
  rename_i I s2 h2
  refine r_forLoopC (hB := hB) (oB := oB) (G := G) he' (Itr.rangeN I 1 3) rm.h (x := "tab") (cc := f "tab") (by simp) (he.ck _ (by simp)) rest ?_ (fun i hi E' s h => ?_) (fun s h => ?_)
  · refine H.sub ?_ h2
    exact .cons .here (fun _ h => h) (.cons pT (fun _ h => h) .refl)
  · have ht : 1 ≤ 1 + (i : Int) ∧ 1 + (i : Int) ≤ 3 := by omega
    have hq := heq (1 + (i : Int)) ht.1 ht.2
    generalize 1 + (i : Int) = tt at h ht hq
    replace h : H hB oB G ((f "tab", celp (some (.int tt))) :: (I, _) :: rest) s := h
    refine wpAny_execs_cons ?_
    refine wpAny_If ?_
    kct_strs
    refine r_listComp (hB := hB) (oB := oB) he' rm.h ["cell"] [] [("tab", f "tab"), ("spaces", f "spaces")] (by decide +kernel) (by with_unfolding_all rfl) (by with_unfolding_all rfl) ?_
    kct_strs
    refine r_iterListIn ‹14› (.there (.there pa)) fun I2 s h => ?_
    refine compInts (J := []) (Itr.intsIn I2 a (cellsF m) (.there (.there pa))) rfl (by omega) (fun _ => true) (fun z => .int (ilF (txtOf m K j r z) tt)) (by rw [List.append_nil]; exact h) (fun one ho C2 env2 E2 s2 R0 he2 h2 => ⟨wpAny_tests_nil ⟨rfl, h2⟩, fun _ s3 h3 => ?_⟩) (fun D2 => ?_)
    · obtain ⟨x1, hx1, W1⟩ := hS.get ho
      have ho1 := txt_len hc ho
      simp only [List.cons_append, List.nil_append] at h3 ⊢
      refine r_methodV (hB := hB) (oB := oB) ?_
      iterate 3 kct_strs
      refine r_tailDict ‹14› (.there (.there (.there (.app pS0)))) hx1 fun t s h => ?_
      have W2 : ∀ p1 p2 p3, WsAt (p1 :: p2 :: p3 :: (rest ++ R0)) x1 (txtOf m K j r one) := fun _ _ _ => (W1.mono (ob' := rest ++ R0) fun p hp => List.mem_append_left _ hp).cons.cons.cons
      refine ⟨_, _, C.fIl.isFn, fun Q' q => r_wsIl C ‹14› (W2 _ _ _) q, ?_⟩
      iterate 3 kct_strs
      ktu_offI
      refine sp_indent C lim gl gr (rm.le (by decide)) ‹14› (W2 _ _ _) ho1 (by omega) fun t s h => ?_
      exact ⟨_, rfl, ‹14›⟩
    · intro s h
      rw [filt_true, List.append_nil] at h
      refine r_listComp (hB := hB) (oB := oB) he' rm.h ["cell"] ["_law_column"] [("tab", f "tab"), ("leads", f "leads")] (by decide +kernel) (by with_unfolding_all rfl) (by with_unfolding_all rfl) ?_
      kct_strs
      refine r_iterListIn ‹14› (.there (.there (.there pa))) fun I3 s h => ?_
      refine compInts (J := []) (Itr.intsIn I3 a (cellsF m) (.there (.there (.there pa)))) rfl (by omega) (fun _ => true) (fun z => .int (colF tt (leadOf m K j r z))) (by rw [List.append_nil]; exact h) (fun one ho C2 env2 E2 s2 R0 he2 h2 => ⟨wpAny_tests_nil ⟨rfl, h2⟩, fun _ s3 h3 => ?_⟩) (fun D3 => ?_)
      · have ho1 := hll one ho
        have hv := kvOf_mem (g := fun z => AV.str (S (leadOf m K j r z))) ho
        simp only [List.cons_append, List.nil_append] at h3 ⊢
        iterate 5 kct_strs
        refine r_tailDict ‹14› (.there (.there (.there (.there (.app pD0))))) hv fun t s h => ?_
        iterate 3 kct_strs
        ktu_offI
        refine sp_column fc lim (rm.le (by decide)) ‹14› ht (by rw [S_size]; omega) fun t s h => ?_
        rw [S_cps]
        exact ⟨_, rfl, ‹14›⟩
      · intro s h
        rw [filt_true, List.append_nil] at h
        rw [show (cellsF m).map (fun z => AV.int (ilF (txtOf m K j r z) tt)) = ((cellsF m).map fun z => ilF (txtOf m K j r z) tt).map .int from by simp, show (cellsF m).map (fun z => AV.int (colF tt (leadOf m K j r z))) = ((cellsF m).map fun z => colF tt (leadOf m K j r z)).map .int from by simp] at h
        iterate 2 kct_strs
        rw [hq, decide_eq_true rfl]
        simp only [Bool.not_true, Bool.false_eq_true, if_false]
        iterate 2 kct_strs
        refine H.sub ?_ h
        refine .cons (.there (.there .here)) (fun o ho => ?_) (.skip (.skip .refl))
        obtain ⟨vv, hd, _⟩ := ho
        exact ⟨vv, hd, (fun _ h => nomatch h)⟩
  · exact k _ (H.sub (.skip .refl) h)
end

end
section
noncomputable abbrev oneArg (p : Pos) : Arguments := { posonlyargs := [], args := [{ arg := "one", annotation := none, pos := p : PySem.Arg }], vararg := none, kwonlyargs := [], kw_defaults := [], kwarg := none, defaults := [] : PySem.Arguments }
section
variable {prog : Program} {w : World} {A : Around} {E : Value → Shared → Prop} {s : Shared} {hB : Heap} {oB : OsState} {G : Array GenState} {ob rest r2 r3 r4 r5 r6 r7 r8 r9 : Ledger} {env : Env} {L : Addr} {f : Str → Addr} {lo lo' : Lo} {Q : Flow → Shared → Prop}
theorem lam1_raw {fa c : Addr} {qual : Str} {params : Arguments} {p1 p2 p3 p4 p5 p6 p7 : Pos} {k1 k2 : Nat} {sc : Scope} {z : Int} {t : Tok} {Q : Value → Shared → Prop} (lim : hB.NoLimit)
    (hsc : scOkL sc ["one"] [] [] = true) (hbind : ∀ pm cdv ctv, bindArgs (kla_fn "<lambda>" qual params (.BinOp (.BinOp (.Name "one" p1) .Mod (.Constant (PySem.Const.int 10) k1 p2) p3) .Sub (.BinOp (.Name "one" p4) .FloorDiv (.Constant (PySem.Const.int 10) k2 p5) p6) p7) sc [] pm cdv ctv) ⟨[Value.int z t], []⟩ = pure [(("one" : Str), Value.int z t)])
    (rm : Rm 1 A) (h : H hB oB G ob s)
    (mf : (fa, lamP qual params (.BinOp (.BinOp (.Name "one" p1) .Mod (.Constant (PySem.Const.int 10) k1 p2) p3) .Sub (.BinOp (.Name "one" p4) .FloorDiv (.Constant (PySem.Const.int 10) k2 p5) p6) p7) sc [] c) ∈ ob) (mc : (c, codP qual) ∈ ob)
    (k : ∀ t' h' tk, (∀ b o, s.heap.get? b = some o → h'.get? b = some o) → Q (.int (stepV z) t') { s with heap := h', toks := tk }) : wpAny (model prog w) A (call (.ref fa) [Value.int z t]) Q E s := by
  obtain ⟨of, hof, pm, ctv, rfl⟩ := h.getM mf
  obtain ⟨oc, hoc, vs, tq, hd, hv⟩ := h.getM mc
  simp only [scOkL, Bool.and_eq_true, List.all_eq_true, Bool.not_eq_true', beq_iff_eq, decide_eq_true_eq, bne_iff_ne] at hsc
  obtain ⟨⟨⟨⟨⟨⟨⟨⟨h1, h2⟩, h3⟩, h4⟩, h5⟩, h6⟩, h7⟩, h8⟩, h9⟩ := hsc
  have hone := h5 "one" (.head _)
  refine wpAny_call (kla_callFunE rm.lt hof rfl h2 h3 rfl ⟨c, oc, vs, tq, rfl, hoc, hd, hv⟩ ?_)
  refine wpAny_of_eq (hbind _ _ _) ?_
  refine wpAny_newFunctionEnv (fun x hx => h4 x hx) (fun x hx => by cases List.mem_singleton.mp hx; exact hone.1) (fun h₀ hns hsb => ⟨(lim.keeps h.keep).fresh _ hsb, ?_⟩) h1
  have hk : ∀ b o, s.heap.get? b = some o → h₀.get? b = some o := fun b o e => hsb.extBut b o (Nat.ne_of_lt (Heap.lt_size e)) (Heap.get?_push_of_some _ e)
  have hN : ∀ (s' : Shared) (E' : Value → Shared → Prop) (A' : Around) (Q' : Value → Shared → Prop) (p : Pos) (env : Env), env.scope = sc → env.locals = s.heap.objs.size → s'.heap = h₀ → Q' (.int z t) s' → wpAny (model prog w) A' (eval (.Name "one" p) env) Q' E' s' := by
    intro s' E' A' Q' p env e1 e2 e3 hq
    refine wpAny_Name (wpAny_loadName_local (by rw [e1]; exact h1) (by show env.scope.names.lookup _ = _; rw [e1]; exact hone.1) (m := fun x => ([("one", Value.int z t)] : List (Str × Value)).reverse.lookup x) (by rw [e2, e3]; exact hns) (by simp) hq) hone.2
  refine kla_codeExpr ?_
  refine wpAny_BinOp ?_
  refine wpAny_BinOp ?_
  refine hN _ _ _ _ _ _ rfl rfl rfl ?_
  refine wpAny_Constant_int ?_
  refine mod_int' (by decide) ?_
  refine wpAny_BinOp ?_
  refine hN _ _ _ _ _ _ rfl rfl rfl ?_
  refine wpAny_Constant_int ?_
  refine floordiv_int (by decide) ?_ (.inl (PyProof.noPylong_small (by decide)))
  refine sub_int ?_
  exact k _ h₀ _ hk
set_option maxHeartbeats 400000 in
theorem st14 {X : Stmt} (hX : X = lawSt 14) {v0 : Option AV} (he : LawEnv env L f) (h : H hB oB G ob s) (pD : Pick (f "held") (celp v0) ob r4)
    (k : ∀ a s', H hB oB G ((f "held", celp (some (.ref a))) :: (a, lst []) :: r4) s' → Q .next s') : wpAny (model prog w) A (exec X env) Q E s := by
  subst hX
  have he' := he.ev
  refine r_assignCell (he.ck _ (by simp)) ?_
  iterate 2 kct_strs
  refine ⟨_, _, _, by exact ‹13›, le_size (by simp only [List.length_nil]; omega), ‹14›, fun a s h => ?_⟩
  exact r_storeC (v := .ref a) (t := 0) he' h (by simp) (he.ck _ (by simp)) (.there pD) fun s h => k a s h
end

end
section
noncomputable abbrev lp1 : Pos := ⟨209, 51, 209, 83⟩
noncomputable abbrev lp2 : Pos := ⟨227, 45, 227, 87⟩
noncomputable abbrev lp3 : Pos := ⟨229, 46, 229, 88⟩
noncomputable abbrev loL (sc dr ov : AV) (hi en wo cr sp be to : Option AV) : Lo := [("script", some sc), ("drawn", some dr), ("cell", none), ("over", some ov), ("steps", none), ("place", none), ("menu", none), ("hidden", hi), ("ends", en), ("word", wo), ("crowd", cr), ("spots", sp), ("p", none), ("begin", be), ("total", to), ("turn", none), ("order", none), ("read", none)]
theorem tabP_mono {ks ks' : List (Pos × Option Addr)} (h : ∀ q ∈ ks', q ∈ ks) : ∀ o, tabP ks o → tabP ks' o := fun _ ⟨ps, e, t, q⟩ => ⟨ps, e, t, fun x hx => q x (h x hx)⟩
theorem tab_drop {ks ks' : List (Pos × Option Addr)} {pos : Pos} {c' : Addr} (h : ∀ q ∈ ks', q ∈ ks ∧ ¬ (q.1.line = pos.line ∧ q.1.col = pos.col)) : ∀ o, tabP (ks.map fun q => if q.1.line = pos.line ∧ q.1.col = pos.col then (q.1, some c') else q) o → tabP ks' o :=
  tabP_mono fun q hq => List.mem_map.mpr ⟨q, (h q hq).1, if_neg (h q hq).2⟩
noncomputable def freeIn (U : Int → List Int) (hs : List Int) (z : Int) : Bool := (U z).all fun one => decide (one ∈ hs)
theorem freeIn_of {U : Int → List Int} {hs : List Int} {z : Int} (h : (U z).filter (fun one => !decide (one ∈ hs)) = []) : freeIn U hs z = true := by
  rw [List.filter_eq_nil_iff] at h
  unfold freeIn
  rw [List.all_eq_true]
  intro x hx
  have := h x hx
  simpa using this
section
variable {prog : Program} {w : World} {A : Around} {E : Value → Shared → Prop} {s : Shared} {hB : Heap} {oB : OsState} {G : Array GenState} {ob rest R r2 r3 r4 r5 r6 r7 r8 r9 : Ledger} {env : Env} {L P : Addr} {f : Str → Addr} {Q : Flow → Shared → Prop} {sc ov : AV} {hi en wo cr sp be to : Option AV}
set_option maxHeartbeats 1000000 in
theorem st15 {X : Stmt} (hX : X = lawSt 15) {m : Nat} {cB dr ah a D0 : Addr} {d0 d1 d2 : Int} {U : Int → List Int} {kvU : List (Int × AV)} (he : LawEnv env L f) (B : LamBase hB cB P) (hcode : env.code = .ref cB) (lim : hB.NoLimit)
    (ge : Glob hB "enumerate" (.type "enumerate")) (gs : Glob hB "sorted" (.builtin "sorted")) (gi : Glob hB "insort_left" (.ref 69)) (fi : FnIL hB) (fn : FnBL hB) (gl : Glob hB "len" (.builtin "len")) (gb : Glob hB "bisect_left" (.ref 78))
    (rm : Rm 5 A) (h : H hB oB G ((L, nsp lawLocs (loL sc (.ref dr) ov hi en wo cr sp be to)) :: (P, tabP [(lp1, none), (lp2, none), (lp3, none)]) :: (ah, lst []) :: R) s)
    (pd : Pick dr (lst [.int d0, .int d1, .int d2]) R r2) (pH : Pick (f "held") (celp (some (.ref ah))) R r3)
    (pU : Pick (f "under") (celp (some (.ref D0))) R r4) (pU0 : Pick D0 (dic kvU) R r5) (hU : LdInv U (cellsF m) kvU R) (hUl : ∀ z ∈ cellsF m, (U z).length ≤ 100)
    (pC : Pick (f "cells") (celp (some (.ref a))) R r7) (pa : Pick a (lst ((cellsF m).map .int)) R r8)
    (Inv : List Int → Nat → List Int → Prop) (hI0 : ∀ ys, Inv ys 0 []) (hIl : ∀ ys i hs, Inv ys i hs → hs.length ≤ 100) (hI1 : ∀ ys i hs, Inv ys i hs → Inv ys (i + 1) hs)
    (hI2 : ∀ ys i hs, ys.Perm (cellsF m) → (hi : i < ys.length) → Inv ys i hs → freeIn U hs (ys.getD i 0) = true → Inv ys (i + 1) (insAt hs (bis (ltL hs (ys.getD i 0)) hs.length 0 hs.length) (ys.getD i 0)))
    (k : ∀ ys hs s', ys.Perm (cellsF m) → Inv ys ys.length hs → H hB oB G ((L, nsp lawLocs (loL sc (.ref dr) ov hi en wo cr sp be to)) :: (P, tabP [(lp2, none), (lp3, none)]) :: (ah, lst (hs.map .int)) :: R) s' → Q .next s') : wpAny (model prog w) A (exec X env) Q E s := by
  subst hX
  have he' := he.ev
  have hl := cells_len m
  refine wpAny_For ?_
  iterate 2 kct_strs
  refine wpAny_Call_Name_kw (r_glob he' ‹14› (by simp) gs (callWith_kw ?_))
  iterate 3 kct_strs
  refine kws_cons ?_
  refine r_lamMiss he' B hcode (by with_unfolding_all rfl) (by with_unfolding_all rfl) ‹14› (.there .here) (.head _) fun fa c' s h => ?_
  refine kws_nil ?_
  rw [show fcl (lawCl f) ([(Str.ofString "one", NameKind.local)] : List (Str × NameKind)) = [] from by with_unfolding_all rfl] at h
  have h := h.sub (ob' := (L, nsp lawLocs (loL sc (.ref dr) ov hi en wo cr sp be to)) :: (fa, _) :: (c', _) :: (P, tabP [(lp2, none), (lp3, none)]) :: (ah, lst []) :: R) (.cons (.there (.there (.there .here))) (fun _ h => h) (.cons .here (fun _ h => h) (.cons .here (fun _ h => h) (.cons .here (tab_drop (by decide)) (.cons .here (fun _ h => h) .refl)))))
  refine r_sortedKey (g := stepV) h (.there (.there (.there (.there pa)))) (by rw [show (cellsF m).length = _ from rfl]; omega) (fun z t s₁ Q' E' hz h1 k1 => ?_) (fun a2 s2 ys hp hpw h2 => ?_)
  · exact lam1_raw lim (by decide) (fun _ _ _ => by with_unfolding_all rfl) (rm.le (by decide) |>.in1.in1) h1 (.tail _ (.head _)) (.tail _ (.tail _ (.head _))) k1
  have hyl := hp.length_eq
  kct_strs
  refine r_enumList h2 .here fun e it s h => ?_
  refine (ItrT.enumList (prog := prog) (w := w) (hB := hB) (oB := oB) (x := "place") (y := "cell") (px := ⟨0,0,0,0⟩) (py := ⟨0,0,0,0⟩) (tp := ⟨0,0,0,0⟩) (c := 0) e it a2 (ys.map .int)).selfI 0 _ G _ _ _ _ h ?_
  refine r_forLoopT (hB := hB) (oB := oB) he' (ItrT.enumList e it a2 (ys.map .int)) rm.h (Inv ys) (fun _ _ => loL sc (.ref dr) ov hi en wo cr sp be to)
    (fun i _ => [("script", some sc), ("drawn", some (.ref dr)), ("cell", some (.int (ys.getD i 0))), ("over", some ov), ("steps", none), ("place", some (.int i)), ("menu", none), ("hidden", hi), ("ends", en), ("word", wo), ("crowd", cr), ("spots", sp), ("p", none), ("begin", be), ("total", to), ("turn", none), ("order", none), ("read", none)])
    (fun _ hs => (P, tabP [(lp2, none), (lp3, none)]) :: (ah, lst (hs.map .int)) :: R) (fun _ => G) [] (hI0 ys) (H.sub ?_ h) (fun i x hi => ⟨_, by exact ‹7›, ?_⟩) (fun i hs hi hI E' s' h => ?_) (fun hs hI s h => ?_)
  · simp only [List.cons_append, List.nil_append]
    exact .cons .here (fun _ h => h) (.cons .here (fun _ h => h) (.cons .here (fun _ h => h) (.cons .here (fun _ h => h) (.skip (.skip .refl)))))
  · rw [show (ys.map AV.int).getD i .none = .int (ys.getD i 0) from by rw [List.length_map] at hi; simp [List.getD, hi]]
    exact ‹7›
  · rw [List.length_map] at hi
    have hz : ys.getD i 0 ∈ cellsF m := hp.mem_iff.mp (getD_mem' hi)
    have hst := hI2 ys i hs hp hi hI
    have hst1 := hI1 ys i hs hI
    have hlh := hIl ys i hs hI
    generalize ys.getD i 0 = z at h hz hst
    obtain ⟨x1, hx1, m1⟩ := hU.get hz
    obtain ⟨r1, p1⟩ := pick_of_mem m1
    have hl1 := hUl z hz
    simp only [List.cons_append, List.nil_append] at h ⊢
    refine wpAny_execs_cons ?_
    refine wpAny_If ?_
    refine isTrue_and ?_
    repeat kct_strs
    refine ite_b (fun _ => ?_) (fun _ => ?_)
    · refine isTrue_and ?_
      kct_strs
      refine r_listComp (hB := hB) (oB := oB) he' rm.h ["one"] [] [("held", f "held")] (by decide +kernel) (by with_unfolding_all rfl) (by with_unfolding_all rfl) ?_
      iterate 3 kct_strs
      refine r_tailDict ‹14› (.there (.there (.there (.there (.there (.there pU0)))))) hx1 fun t s h => ?_
      refine r_iterListIn h (.there (.there (.there (.there (.there (.there p1)))))) fun I s h => ?_
      refine compInts (J := []) (Itr.intsIn I x1 (U z) (.there (.there (.there (.there (.there (.there p1))))))) rfl (by omega) (fun one => !decide (one ∈ hs)) AV.int (by rw [List.append_nil]; exact h) (fun one ho C2 env2 E2 s2 R0 he2 h2 => ⟨?_, fun _ s3 h3 => ?_⟩) (fun D2 => ?_)
      · refine wpAny_tests_one ?_
        simp only [List.cons_append, List.nil_append] at h2 ⊢
        repeat kct_strs
        exact ⟨rfl, ‹14›⟩
      · simp only [List.cons_append, List.nil_append] at h3 ⊢
        repeat kct_strs
        exact ⟨_, rfl, ‹14›⟩
      · intro s h
        rw [List.append_nil] at h
        repeat kct_strs
        kxs_still
        repeat kct_strs
        refine ite_b (fun q => ?_) (fun _ => ?_)
        · refine isTrue_and_nil ?_
          rw [if_pos rfl]
          refine wpAny_execs_cons ?_
          refine r_exprStmt he' ?_
          repeat kct_strs
          ktu_offI
          refine sp_il fi fn lim gl gb (rm.le (by decide)) ‹14› (.there (.there (.there (.there (.there (.there (.there .here))))))) (by omega) fun s h => ?_
          repeat kct_strs
          refine ⟨_, hst (freeIn_of (of_decide_eq_true q)), h.sub ?_⟩
          exact .cons (.there (.there (.there (.there .here)))) (fun _ h => h) (.cons (.there (.there (.there (.there .here)))) (fun _ h => h) (.cons (.there (.there (.there (.there .here)))) (fun _ h => h) (.cons (.there (.there (.there .here))) (nsp_forg (by exact ‹10›)) (.cons (.there (.there (.there .here))) (fun _ h => h) (.cons .here (fun _ h => h) (.skip (.skip .refl)))))))
        · skip
          simp only [Bool.false_eq_true, if_false]
          repeat kct_strs
          refine ⟨_, hst1, H.sub ?_ ‹14›⟩
          exact .cons (.there (.there (.there .here))) (fun _ h => h) (.cons (.there (.there (.there .here))) (fun _ h => h) (.cons (.there (.there (.there .here))) (fun _ h => h) (.cons (.there (.there .here)) (nsp_forg (by exact ‹10›)) (.cons (.there (.there .here)) (fun _ h => h) (.cons (.there (.there .here)) (fun _ h => h) (.skip (.skip .refl)))))))
    · simp only [Bool.false_eq_true, if_false]
      repeat kct_strs
      refine ⟨_, hst1, H.sub ?_ ‹14›⟩
      exact .cons (.there .here) (fun _ h => h) (.cons (.there .here) (fun _ h => h) (.cons (.there .here) (fun _ h => h) (.cons .here (nsp_forg (by exact ‹10›)) .refl)))
  · rw [List.length_map] at hI
    refine k ys hs s hp hI (h.sub ?_)
    simp only [List.cons_append, List.nil_append]
    exact .skip .refl
end

end
section
noncomputable def menuF (j : Nat) : List Nat := [[], [34, 40, 34], [34, 41, 34], [92, 40], [92, 41], [92, 34], [92, 92], [34, 92, 34, 40, 34], [34, 40, 34, 34, 92, 34, 34]].getD j []
noncomputable def hidF (a b : Nat) : List (List Nat) := [menuF a, [], menuF b, [], []]
noncomputable def endF (j : Nat) : List Nat × List Nat := [([], []), ([34], []), ([], [34]), ([34], [92])].getD j ([], [])
noncomputable abbrev menuAV : List AV := [.str (S (menuF 0)), .str (S (menuF 1)), .str (S (menuF 2)), .str (S (menuF 3)), .str (S (menuF 4)), .str (S (menuF 5)), .str (S (menuF 6)), .str (S (menuF 7)), .str (S (menuF 8))]
theorem menuAV_get {j : Nat} (h : j < 9) : menuAV[((j : Nat) : Int).toNat]? = some (.str (S (menuF j))) := by
  rw [Int.toNat_natCast]
  match j, h with
  | 0, _ => rfl
  | 1, _ => rfl
  | 2, _ => rfl
  | 3, _ => rfl
  | 4, _ => rfl
  | 5, _ => rfl
  | 6, _ => rfl
  | 7, _ => rfl
  | 8, _ => rfl
section
variable {prog : Program} {w : World} {A : Around} {E : Value → Shared → Prop} {s : Shared} {hB : Heap} {oB : OsState} {G : Array GenState} {ob rest R r2 r3 r4 r5 r6 r7 r8 r9 : Ledger} {env : Env} {L P : Addr} {f : Str → Addr} {lo lo' : Lo} {Q : Flow → Shared → Prop}
set_option maxHeartbeats 1000000 in
theorem st16 {X : Stmt} (hX : X = lawSt 16) (he : LawEnv env L f) (h : H hB oB G ob s) (pL : Pick L (nsp lawLocs lo) ob rest) (hp : ∀ v, ∃ lo', Put "menu" v lo lo')
    (k : ∀ T lo' s', Put "menu" (.ref T) lo lo' → H hB oB G ((L, nsp lawLocs lo') :: (T, tup menuAV) :: rest) s' → Q .next s') : wpAny (model prog w) A (exec X env) Q E s := by
  subst hX
  have he' := he.ev
  refine r_assign ?_ ?hs
  case hs => with_unfolding_all rfl
  repeat kct_strs
  rw [show Str.ofString "" = S (menuF 0) from by decide +kernel, show Str.ofString "\"(\"" = S (menuF 1) from by decide +kernel, show Str.ofString "\")\"" = S (menuF 2) from by decide +kernel, show Str.ofString "\\(" = S (menuF 3) from by decide +kernel, show Str.ofString "\\)" = S (menuF 4) from by decide +kernel, show Str.ofString "\\\"" = S (menuF 5) from by decide +kernel, show Str.ofString "\\\\" = S (menuF 6) from by decide +kernel, show Str.ofString "\"\\\"(\"" = S (menuF 7) from by decide +kernel, show Str.ofString "\"(\"\"\\\"\"" = S (menuF 8) from by decide +kernel]
  refine ⟨_, _, _, by exact ‹13›, le_size (by simp only [List.length_cons, List.length_nil]; omega), ‹14›, fun T s h => ?_⟩
  obtain ⟨lo', hp'⟩ := hp (.ref T)
  exact r_storeR he' h (.there pL) hp' fun s h => k T lo' s hp' (h.sub (.cons .here (fun _ h => h) (.cons .here (fun _ h => h) .refl)))
set_option maxHeartbeats 1000000 in
theorem st17 {X : Stmt} (hX : X = lawSt 17) {dr T : Addr} {d0 d1 d2 : Int} (he : LawEnv env L f) (h : H hB oB G ob s) (pL : Pick L (nsp lawLocs lo) ob rest) (hd : (("drawn" : Str), some (AV.ref dr)) ∈ lo) (hm : (("menu" : Str), some (AV.ref T)) ∈ lo) (pd : Pick dr (lst [.int d0, .int d1, .int d2]) ob r2) (pT : Pick T (tup menuAV) ob r3)
    (hp : ∀ v, ∃ lo', Put "hidden" v lo lo')
    (k : ∀ a b hd lo' s', a < 9 → b < 9 → Put "hidden" (.ref hd) lo lo' → H hB oB G ((L, nsp lawLocs lo') :: (hd, lst (((hidF a b).map S).map .str)) :: rest) s' → Q .next s') : wpAny (model prog w) A (exec X env) Q E s := by
  subst hX
  have he' := he.ev
  refine r_assign ?_ ?hs
  case hs => with_unfolding_all rfl
  have h1 := Int.fmod_nonneg_of_pos d2 (show (0 : Int) < 9 by decide)
  have h2 := Int.fmod_lt_of_pos d2 (show (0 : Int) < 9 by decide)
  have h3 := Int.fmod_nonneg_of_pos (d2.fdiv 9) (show (0 : Int) < 9 by decide)
  have h4 := Int.fmod_lt_of_pos (d2.fdiv 9) (show (0 : Int) < 9 by decide)
  obtain ⟨a, ha⟩ := Int.eq_ofNat_of_zero_le h1
  obtain ⟨b, hb⟩ := Int.eq_ofNat_of_zero_le h3
  iterate 3 kct_strs
  refine r_localM he h pL hm fun t => ?_
  iterate 2 kct_strs
  refine r_localM he h pL hd fun t => ?_
  kct_strs
  refine r_tailList (xs := [.int d0, .int d1, .int d2]) (v := .int d2) ‹14› pd (by decide) (by decide) rfl fun t => ?_
  iterate 2 kct_strs
  rw [ha]
  refine r_tailTup ‹14› pT (by omega) (by simp; omega) (menuAV_get (by omega)) (fun t => ?_) (by with_unfolding_all rfl)
  iterate 4 kct_strs
  refine r_localM he ‹14› pL hm fun t => ?_
  iterate 3 kct_strs
  refine r_localM he ‹14› pL hd fun t => ?_
  kct_strs
  refine r_tailList (xs := [.int d0, .int d1, .int d2]) (v := .int d2) ‹14› pd (by decide) (by decide) rfl fun t => ?_
  iterate 4 kct_strs
  rw [hb]
  refine r_tailTup ‹14› pT (by omega) (by simp; omega) (menuAV_get (by omega)) (fun t => ?_) (by with_unfolding_all rfl)
  repeat kct_strs
  rw [show Str.ofString "" = S [] from by decide +kernel]
  refine ⟨_, _, _, by exact ‹13›, le_size (by simp only [List.length_cons, List.length_nil]; omega), ‹14›, fun hd s h => ?_⟩
  obtain ⟨lo', hp'⟩ := hp (.ref hd)
  exact r_storeR he' h (.there pL) hp' fun s h => k a b hd lo' s (by omega) (by omega) hp' (h.sub (.cons .here (fun _ h => h) (.cons .here (fun _ h => h) .refl)))
set_option maxHeartbeats 1000000 in
theorem st18 {X : Stmt} (hX : X = lawSt 18) {dr : Addr} {d0 d1 d2 : Int} (he : LawEnv env L f) (h : H hB oB G ob s) (pL : Pick L (nsp lawLocs lo) ob rest) (hd : (("drawn" : Str), some (AV.ref dr)) ∈ lo) (pd : Pick dr (lst [.int d0, .int d1, .int d2]) ob r2)
    (hp : ∀ v, ∃ lo', Put "ends" v lo lo')
    (k : ∀ j en lo' s', j < 4 → Put "ends" (.ref en) lo lo' → H hB oB G ((L, nsp lawLocs lo') :: (en, tup [.str (S (endF j).1), .str (S (endF j).2)]) :: rest) s' → Q .next s') : wpAny (model prog w) A (exec X env) Q E s := by
  subst hX
  have he' := he.ev
  refine r_assign ?_ ?hs
  case hs => with_unfolding_all rfl
  have h3 := Int.fmod_nonneg_of_pos (d2.fdiv 81) (show (0 : Int) < 4 by decide)
  have h4 := Int.fmod_lt_of_pos (d2.fdiv 81) (show (0 : Int) < 4 by decide)
  obtain ⟨b, hb⟩ := Int.eq_ofNat_of_zero_le h3
  repeat kct_strs
  rw [show Str.ofString "\"" = S [34] from by decide +kernel, show Str.ofString "" = S [] from by decide +kernel, show Str.ofString "\\" = S [92] from by decide +kernel]
  refine ⟨_, _, _, by exact ‹13›, le_size (by simp only [List.length_cons, List.length_nil]; omega), ‹14›, fun T0 s h => ?_⟩
  repeat kct_strs
  refine ⟨_, _, _, by exact ‹13›, le_size (by simp only [List.length_cons, List.length_nil]; omega), ‹14›, fun T1 s h => ?_⟩
  repeat kct_strs
  refine ⟨_, _, _, by exact ‹13›, le_size (by simp only [List.length_cons, List.length_nil]; omega), ‹14›, fun T2 s h => ?_⟩
  repeat kct_strs
  refine ⟨_, _, _, by exact ‹13›, le_size (by simp only [List.length_cons, List.length_nil]; omega), ‹14›, fun T3 s h => ?_⟩
  repeat kct_strs
  refine ⟨_, _, _, by exact ‹13›, le_size (by simp only [List.length_cons, List.length_nil]; omega), ‹14›, fun T4 s h => ?_⟩
  iterate 3 kct_strs
  refine r_localM he ‹14› (.there (.there (.there (.there (.there pL))))) hd fun t => ?_
  kct_strs
  refine r_tailList (xs := [.int d0, .int d1, .int d2]) (v := .int d2) ‹14› (.there (.there (.there (.there (.there pd))))) (by decide) (by decide) rfl fun t => ?_
  iterate 4 kct_strs
  rw [hb]
  have fin : ∀ (T : Addr) (j : Nat) (s : Shared), j < 4 → H hB oB G ((T, tup [.str (S (endF j).1), .str (S (endF j).2)]) :: ob) s → wpAny (model prog w) A (storeName env "ends" (.ref T)) (fun _ => Q .next) E s := by
    intro T j s hj h
    obtain ⟨lo', hp'⟩ := hp (.ref T)
    exact r_storeR he' h (.there pL) hp' fun s h => k j T lo' s hj hp' (h.sub (.cons .here (fun _ h => h) (.cons .here (fun _ h => h) .refl)))
  match b, (show b < 4 by omega) with
  | 0, _ =>
    refine r_tailTup ‹14› .here (by decide) (by decide) rfl (fun t => ?_) (by with_unfolding_all rfl)
    exact fin T0 0 _ (by decide) (H.sub (.skip (.skip (.skip (.skip .refl)))) ‹14›)
  | 1, _ =>
    refine r_tailTup ‹14› .here (by decide) (by decide) rfl (fun t => ?_) (by with_unfolding_all rfl)
    exact fin T1 1 _ (by decide) (H.sub (.skip (.skip (.skip (.cons .here (fun _ h => h) (.skip .refl))))) ‹14›)
  | 2, _ =>
    refine r_tailTup ‹14› .here (by decide) (by decide) rfl (fun t => ?_) (by with_unfolding_all rfl)
    exact fin T2 2 _ (by decide) (H.sub (.skip (.skip (.cons .here (fun _ h => h) (.skip (.skip .refl))))) ‹14›)
  | 3, _ =>
    refine r_tailTup ‹14› .here (by decide) (by decide) rfl (fun t => ?_) (by with_unfolding_all rfl)
    exact fin T3 3 _ (by decide) (H.sub (.skip (.cons .here (fun _ h => h) (.skip (.skip (.skip .refl))))) ‹14›)
end

end
section
noncomputable def crowdF (U : Int → List Int) (m : Nat) (hs : List Int) : List Int := (cellsF m).filter fun z => !decide (z ∈ hs) && freeIn U hs z
noncomputable def spotF (z : Int) : Int := z.fdiv 10 + z.fmod 10 - 1
noncomputable def spotsF (U : Int → List Int) (m : Nat) (hs : List Int) : List Int := (crowdF U m hs).map spotF
theorem freeIn_eq (U : Int → List Int) (hs : List Int) (z : Int) : freeIn U hs z = decide ((U z).filter (fun one => !decide (one ∈ hs)) = []) := by
  unfold freeIn
  rw [Bool.eq_iff_iff, List.all_eq_true, decide_eq_true_iff, List.filter_eq_nil_iff]
  simp
section
variable {prog : Program} {w : World} {A : Around} {E : Value → Shared → Prop} {s : Shared} {hB : Heap} {oB : OsState} {G : Array GenState} {ob rest R r2 r3 r4 r5 r6 r7 r8 r9 : Ledger} {env : Env} {L P : Addr} {f : Str → Addr} {lo lo' : Lo} {Q : Flow → Shared → Prop}
set_option maxHeartbeats 1000000 in
theorem st19 {X : Stmt} (hX : X = lawSt 19) {m : Nat} {ah : Addr} {hs : List Int} (he : LawEnv env L f) (fw : FnWord hB) (fl : FnBL hB) (fr : FnBR hB) (lim : hB.NoLimit) (gl : Glob hB "len" (.builtin "len")) (gr : Glob hB "range" (.type "range")) (gbl : Glob hB "bisect_left" (.ref 78)) (gbr : Glob hB "bisect_right" (.ref 60)) (gw : Glob hB "_law_word" (.ref 165))
    (rm : Rm 2 A) (hm : m = 4 ∨ m = 5) (h : H hB oB G ob s) (pL : Pick L (nsp lawLocs lo) ob rest) (pM : Pick (f "many") (celp (some (.int m))) ob r2) (pH : Pick (f "held") (celp (some (.ref ah))) ob r3) (ph : Pick ah (lst (hs.map .int)) ob r4) (hl : hs.length ≤ 100)
    (hp : ∀ v, ∃ lo', Put "word" v lo lo')
    (k : ∀ lo' s', Put "word" (.str (S (lawWord hs m))) lo lo' → H hB oB G ((L, nsp lawLocs lo') :: rest) s' → Q .next s') : wpAny (model prog w) A (exec X env) Q E s := by
  subst hX
  have he' := he.ev
  refine r_assign ?_ ?hs
  case hs => with_unfolding_all rfl
  repeat kct_strs
  ktu_offI
  refine sp_word fw fl fr lim gl gr gbl gbr rm ‹14› ph hl (by omega) fun t s h => ?_
  obtain ⟨lo', hp'⟩ := hp (.str (S (lawWord hs m)))
  exact r_storeS he' h pL hp' fun s h => k lo' s hp' h
set_option maxHeartbeats 1000000 in
theorem st20 {X : Stmt} (hX : X = lawSt 20) {m : Nat} {ah a D0 : Addr} {hs : List Int} {U : Int → List Int} {kvU : List (Int × AV)} (he : LawEnv env L f)
    (rm : Rm 2 A) (h : H hB oB G ob s) (pL : Pick L (nsp lawLocs lo) ob rest) (pH : Pick (f "held") (celp (some (.ref ah))) ob r3) (ph : Pick ah (lst (hs.map .int)) ob r4) (hl : hs.length ≤ 100)
    (pU : Pick (f "under") (celp (some (.ref D0))) ob r5) (pU0 : Pick D0 (dic kvU) ob r6) (hU : LdInv U (cellsF m) kvU ob) (hUl : ∀ z ∈ cellsF m, (U z).length ≤ 100)
    (pC : Pick (f "cells") (celp (some (.ref a))) ob r7) (pa : Pick a (lst ((cellsF m).map .int)) ob r8)
    (hp : ∀ v, ∃ lo', Put "crowd" v lo lo')
    (k : ∀ D lo' s', Put "crowd" (.ref D) lo lo' → H hB oB G ((L, nsp lawLocs lo') :: (D, lst ((crowdF U m hs).map .int)) :: rest) s' → Q .next s') : wpAny (model prog w) A (exec X env) Q E s := by
  subst hX
  have he' := he.ev
  have hcl := cells_len m
  refine r_assignComp (hB := hB) (oB := oB) he' rm.h ["cell"] [] [("under", f "under"), ("held", f "held")] (by decide +kernel) (by with_unfolding_all rfl) (by with_unfolding_all rfl) (by simp) (by decide +kernel) (by decide +kernel) ?_
  kct_strs
  refine r_iterListIn ‹14› pa fun I s h => ?_
  refine compInts (J := []) (Itr.intsIn I a (cellsF m) pa) rfl (by omega) (fun z => !decide (z ∈ hs) && freeIn U hs z) .int (by rw [List.append_nil]; exact h) (fun z hz C2 env2 E2 s2 R0 he2 h2 => ⟨?_, fun _ s3 h3 => ?_⟩) (fun D2 => ?_)
  · obtain ⟨x1, hx1, m1⟩ := hU.get hz
    obtain ⟨r1, p1⟩ := pick_of_mem m1
    have hl1 := hUl z hz
    refine wpAny_tests_one ?_
    simp only [List.nil_append] at h2 ⊢
    refine isTrue_and ?_
    iterate 2 kct_strs
    refine r_cell he2 ‹14› (by simp) (.there (.app pH)) fun t => ?_
    refine r_notInInts ‹14› (.there (.app ph)) ?_
    kct_strs
    refine ite_b (fun q => ?_) (fun q => ?_)
    · refine isTrue_and ?_
      kct_strs
      refine r_listComp (hB := hB) (oB := oB) he2 rm.h ["one"] [] [("held", f "held")] (by decide +kernel) (by with_unfolding_all rfl) (by with_unfolding_all rfl) ?_
      kct_strs
      refine r_cell he2 ‹14› (by simp) (.there (.app pU)) fun t => ?_
      kct_strs
      refine r_tailDict ‹14› (.there (.app pU0)) hx1 fun t s h => ?_
      refine r_iterListIn h (.there (.app p1)) fun I s h => ?_
      refine compInts (J := []) (Itr.intsIn I x1 (U z) (.there (.app p1))) rfl (by omega) (fun one => !decide (one ∈ hs)) AV.int (by rw [List.append_nil]; exact h) (fun one ho C3 env3 E3 s3 R1 he3 h3 => ⟨?_, fun _ s4 h4 => ?_⟩) (fun D3 => ?_)
      · refine wpAny_tests_one ?_
        simp only [List.cons_append, List.nil_append, List.append_assoc] at h3 ⊢
        iterate 2 kct_strs
        refine r_cell he3 ‹14› (by simp) (.there (.there (.app pH))) fun t => ?_
        refine r_notInInts ‹14› (.there (.there (.app ph))) ?_
        repeat kct_strs
        exact ⟨rfl, ‹14›⟩
      · simp only [List.cons_append, List.nil_append, List.append_assoc] at h4 ⊢
        kct_strs
        exact ⟨_, rfl, ‹14›⟩
      · intro s h
        rw [List.append_nil] at h
        repeat kct_strs
        kxs_still
        repeat kct_strs
        rw [← freeIn_eq]
        refine ite_b (fun q2 => ?_) (fun q2 => ?_)
        · refine isTrue_and_nil ?_
          exact ⟨by rw [q, q2]; rfl, H.sub (.skip (.skip .refl)) ‹14›⟩
        · exact ⟨by rw [q, q2]; rfl, H.sub (.skip (.skip .refl)) ‹14›⟩
    · exact ⟨by rw [q]; rfl, ‹14›⟩
  · simp only [List.nil_append] at h3 ⊢
    kct_strs
    exact ⟨_, rfl, ‹14›⟩
  · obtain ⟨lo', hp'⟩ := hp (.ref D2)
    refine ⟨_, lo', _, .there (.app pL), hp', fun s h => k D2 lo' s hp' (h.sub ?_)⟩
    rw [List.append_nil]
    exact .refl
set_option maxHeartbeats 1000000 in
theorem st21 {X : Stmt} (hX : X = lawSt 21) {m : Nat} {ac : Addr} {hs : List Int} {U : Int → List Int} (he : LawEnv env L f)
    (rm : Rm 2 A) (h : H hB oB G ob s) (pL : Pick L (nsp lawLocs lo) ob rest) (hc : (("crowd" : Str), some (AV.ref ac)) ∈ lo) (pa : Pick ac (lst ((crowdF U m hs).map .int)) ob r8)
    (hp : ∀ v, ∃ lo', Put "spots" v lo lo')
    (k : ∀ D lo' s', Put "spots" (.ref D) lo lo' → H hB oB G ((L, nsp lawLocs lo') :: (D, lst ((spotsF U m hs).map .int)) :: rest) s' → Q .next s') : wpAny (model prog w) A (exec X env) Q E s := by
  subst hX
  have he' := he.ev
  have hcl : (crowdF U m hs).length ≤ 10 := Nat.le_trans (List.length_filter_le _ _) (cells_len m)
  refine r_assignComp (hB := hB) (oB := oB) he' rm.h ["cell"] [] [] (by decide +kernel) (by with_unfolding_all rfl) (by with_unfolding_all rfl) (by simp) (by decide +kernel) (by decide +kernel) ?_
  refine r_localM he h pL hc fun t => ?_
  refine r_iterListIn ‹14› pa fun I s h => ?_
  refine compInts (J := []) (Itr.intsIn I ac (crowdF U m hs) pa) rfl (by omega) (fun _ => true) (fun z => .int (spotF z)) (by rw [List.append_nil]; exact h) (fun z hz C2 env2 E2 s2 R0 he2 h2 => ⟨wpAny_tests_nil ⟨rfl, h2⟩, fun _ s3 h3 => ?_⟩) (fun D2 => ?_)
  · simp only [List.nil_append] at h3 ⊢
    repeat kct_strs
    exact ⟨_, rfl, ‹14›⟩
  · obtain ⟨lo', hp'⟩ := hp (.ref D2)
    refine ⟨_, lo', _, .there (.app pL), hp', fun s h => k D2 lo' s hp' (h.sub ?_)⟩
    rw [List.append_nil, filt_true, show (spotsF U m hs).map AV.int = (crowdF U m hs).map fun z => .int (spotF z) from by unfold spotsF; rw [List.map_map]; rfl]
    exact .refl
end

end
section
section
variable {prog : Program} {w : World} {A : Around} {E : Value → Shared → Prop} {s : Shared} {hB : Heap} {oB : OsState} {G : Array GenState} {ob rest R r2 r3 r4 r5 r6 r7 r8 r9 : Ledger} {env : Env} {L P : Addr} {f : Str → Addr} {lo lo' : Lo} {Q : Flow → Shared → Prop} {sc dr ov : AV} {be to : Option AV}
structure TxtFns (hB : Heap) : Prop where
  lim : hB.NoLimit
  ck : FnCheck hB
  st : FnStrip hB
  es : FnEsc hB
  tx : FnText hB
  pr : FnPair hB
  ge : Glob hB "enumerate" (.type "enumerate")
  gl : Glob hB "len" (.builtin "len")
  gr : Glob hB "range" (.type "range")
  gi : Glob hB "_iter_escaped_chars" (.ref 28)
  gs : Glob hB "_strip_quoted_realnames" (.ref 35)
  gc : Glob hB "_check_parenthesis" (.ref 42)
  gt : Glob hB "_law_text" (.ref 177)
  gp : Glob hB "_law_pair" (.ref 172)
set_option maxHeartbeats 1000000 in
theorem st22 {X : Stmt} (hX : X = lawSt 22) {m : Nat} {hd en sp : Addr} {cr : Option AV} {wd : List Nat} {hid : List (List Nat)} {e0 e1 : List Nat} {zs : List Int} (he : LawEnv env L f) (F : TxtFns hB) (rm : Rm 5 A) (hm : m = 4 ∨ m = 5) (hb : Bare G)
    (h : H hB oB G ((L, nsp lawLocs (loL sc dr ov (some (.ref hd)) (some (.ref en)) (some (.str (S wd))) cr (some (.ref sp)) be to)) :: R) s)
    (pM : Pick (f "many") (celp (some (.int m))) R r2) (ph : Pick hd (lst ((hid.map S).map .str)) R r3) (pe : Pick en (tup [.str (S e0), .str (S e1)]) R r4) (ps : Pick sp (lst (zs.map .int)) R r5)
    (hwl : wd.length = 2 * m) (h5 : hid.length = 5) (hh : ∀ x ∈ hid, x.length ≤ 20) (hz0 : e0.length ≤ 20) (hz1 : e1.length ≤ 20)
    (hpl : ∀ p : Nat, 1 ≤ p → p < 2 * m → (pairF wd p).length ≤ 100 ∧ (textF (pairF wd p) hid e0 e1).length ≤ 250)
    (hck : ∀ p : Nat, 1 ≤ p → p < 2 * m → checkF (textF (pairF wd p) hid e0 e1) = decide ((p : Int) ∈ zs))
    (k : ∀ G' s', Bare G' → H hB oB G' ((L, nsp lawLocs (loL sc dr ov (some (.ref hd)) (some (.ref en)) (some (.str (S wd))) cr (some (.ref sp)) be to)) :: R) s' → Q .next s') : wpAny (model prog w) A (exec X env) Q E s := by
  subst hX
  have he' := he.ev
  obtain ⟨lim, ck, st, es, tx, pr, ge, gl, gr, gi, gs, gc, gt, gp⟩ := F
  refine wpAny_For ?_
  iterate 10 kct_strs
  refine r_iterRange ‹14› .here (by omega) (by omega) (by omega) (by omega) fun I s h => ?_
  rw [show (2 * (m : Int) - 1).toNat = 2 * m - 1 from Int.toNat_sub (2 * m) 1] at h
  refine r_forLoopX (hB := hB) (oB := oB) (σ := Array GenState) he' (ItrT.name (Itr.rangeN I 1 (2 * m - 1))) rm.h (fun _ G => Bare G)
    (fun _ _ => loL sc dr ov (some (.ref hd)) (some (.ref en)) (some (.str (S wd))) cr (some (.ref sp)) be to)
    (fun i _ => [("script", some sc), ("drawn", some dr), ("cell", none), ("over", some ov), ("steps", none), ("place", none), ("menu", none), ("hidden", some (.ref hd)), ("ends", some (.ref en)), ("word", some (.str (S wd))), ("crowd", cr), ("spots", some (.ref sp)), ("p", some (.int (1 + i))), ("begin", be), ("total", to), ("turn", none), ("order", none), ("read", none)])
    (fun _ _ => R) (fun G => G) G hb (H.sub ?_ h) (fun i x hi => by exact ‹7›) (fun i G1 hi hb1 E' s' h => ?_) (fun G1 hb1 s h => ?_)
  · exact .cons .here (fun _ h => h) (.cons .here (fun _ h => h) .refl)
  · have h1 := hpl (1 + i) (by omega) (by omega)
    have h2 := hck (1 + i) (by omega) (by omega)
    simp only [List.cons_append, List.nil_append] at h ⊢
    rw [show (1 : Int) + (i : Int) = ((1 + i : Nat) : Int) from by omega] at h
    have hp1 : 1 ≤ 1 + i ∧ 1 + i < 2 * m := by omega
    generalize 1 + i = p at h h1 h2 hp1
    refine wpAny_execs_cons ?_
    refine wpAny_If ?_
    repeat kct_strs
    ktu_offI
    refine sp_pair pr lim (rm.le (by decide)) ‹14› (by omega) (by omega) fun t s h => ?_
    repeat kct_strs
    ktu_offI
    refine sp_text tx lim ge (rm.le (by decide)) ‹14› (.there (.there ph)) (.there (.there pe)) h5 hh h1.1 hz0 hz1 fun t s h => ?_
    repeat kct_strs
    ktu_offI
    refine sp_check ck st es lim ge gl gi gs rm ‹14› hb1 h1.2 fun G2 s hb2 h => ?_
    rw [h2]
    repeat kct_strs
    rw [show ∀ b : Bool, (!(Value.bool b == Value.bool b)) = false from fun b => by cases b <;> rfl]
    simp only [Bool.false_eq_true, if_false]
    repeat kct_strs
    refine ⟨G2, hb2, H.sub ?_ ‹14›⟩
    exact .cons (.there .here) (fun _ h => h) (.cons .here (nsp_forg (by exact ‹10›)) .refl)
  · refine k G1 s hb1 (h.sub ?_)
    exact .refl
end

end
section
noncomputable def mirF (m : Nat) (z : Int) : Int := 11 * ((m : Int) + 1) - z.fmod 10 * 10 - z.fdiv 10
section
variable {prog : Program} {w : World} {A : Around} {E : Value → Shared → Prop} {s : Shared} {hB : Heap} {oB : OsState} {G : Array GenState} {ob rest R r2 r3 r4 r5 r6 r7 r8 r9 : Ledger} {env : Env} {L P : Addr} {f : Str → Addr} {lo lo' : Lo} {Q : Flow → Shared → Prop} {sc dr ov : AV} {hi en wo cr sp be to : Option AV}
set_option maxHeartbeats 1000000 in
theorem st23 {X : Stmt} (hX : X = lawSt 23) {ah : Addr} {hs : List Int} (he : LawEnv env L f) (hh : A.handled = none) (gL : Glob hB "list" (.type "list")) (h : H hB oB G ((L, nsp lawLocs (loL sc dr ov hi en wo cr sp be to)) :: R) s)
    (pH : Pick (f "held") (celp (some (.ref ah))) R r3) (ph : Pick ah (lst (hs.map .int)) R r4) (hl : hs.length ≤ 100)
    (k : ∀ b s', H hB oB G ((L, nsp lawLocs (loL sc dr ov hi en wo cr sp (some (.ref b)) (some (.int 0)))) :: (b, lst (hs.map .int)) :: R) s' → Q .next s') : wpAny (model prog w) A (exec X env) Q E s := by
  subst hX
  have he' := he.ev
  refine r_assignSwap (hB := hB) (oB := oB) hh ?_ ?h1 ?h2
  case h1 => with_unfolding_all rfl
  case h2 => exact swapSome he' (by simp) (by simp) (by decide +kernel) rfl rfl (by decide +kernel) (by decide +kernel)
  repeat kct_strs
  refine r_listCopy ‹14› (.there ph) (by rw [List.length_map]; omega) fun b s h => ?_
  repeat kct_strs
  refine ⟨_, _, _, by exact ‹13›, le_size (by simp only [List.length_cons, List.length_nil]; omega), ‹14›, fun T s h => ?_⟩
  refine ⟨_, _, _, _, _, _, rfl, ‹14›, .here, fun t1 t2 s h => ?_⟩
  repeat kct_strs
  exact k b _ (H.sub (.cons .here (fun _ h => h) (.skip (.cons .here (fun _ h => h) .refl))) ‹14›)
set_option maxHeartbeats 1000000 in
theorem st25 {X : Stmt} (hX : X = lawSt 25) {m : Nat} {z : Int} (he : LawEnv env L f) (hm : m = 4 ∨ m = 5) (h : H hB oB G ((L, nsp lawLocs (loL sc dr ov hi en wo cr sp be (some (.int z)))) :: R) s)
    (pM : Pick (f "many") (celp (some (.int m))) R r2) (hz : z = ((m : Int) * ((m : Int) - 1)).fdiv 2)
    (k : ∀ s', H hB oB G ((L, nsp lawLocs (loL sc dr ov hi en wo cr sp be (some (.int z)))) :: R) s' → Q .next s') : wpAny (model prog w) A (exec X env) Q E s := by
  subst hX
  have he' := he.ev
  refine wpAny_If ?_
  repeat kct_strs
  rw [show (z != ((m : Int) * ((m : Int) - 1)).fdiv 2) = false from by simp [hz]]
  simp only [Bool.false_eq_true, if_false]
  kct_strs
  exact k _ ‹14›
set_option maxHeartbeats 1000000 in
theorem st26 {X : Stmt} (hX : X = lawSt 26) {m : Nat} {ah b : Addr} {hs bs : List Int} (he : LawEnv env L f) (gs : Glob hB "sorted" (.builtin "sorted")) (rm : Rm 2 A) (hm : m = 4 ∨ m = 5) (h : H hB oB G ((L, nsp lawLocs (loL sc dr ov hi en wo cr sp (some (.ref b)) to)) :: R) s)
    (pM : Pick (f "many") (celp (some (.int m))) R r2) (pH : Pick (f "held") (celp (some (.ref ah))) R r3) (ph : Pick ah (lst (hs.map .int)) R r4) (pb : Pick b (lst (bs.map .int)) R r5) (hbl : bs.length ≤ 50) (hbb : ∀ z ∈ bs, 12 ≤ z ∧ z ≤ 45)
    (hhs : hs = isort (bs.map (mirF m)))
    (k : ∀ s', H hB oB G ((L, nsp lawLocs (loL sc dr ov hi en wo cr sp (some (.ref b)) to)) :: R) s' → Q (.ret (.bool true)) s') : wpAny (model prog w) A (exec X env) Q E s := by
  subst hX
  have he' := he.ev
  refine wpAny_Return_some ?_
  iterate 4 kct_strs
  refine r_listComp (hB := hB) (oB := oB) he' rm.h ["cell"] [] [("many", f "many")] (by decide +kernel) (by with_unfolding_all rfl) (by with_unfolding_all rfl) ?_
  kct_strs
  refine r_iterListIn ‹14› (.there pb) fun I s h => ?_
  refine compInts (J := []) (Itr.intsIn I b bs (.there pb)) rfl (by omega) (fun _ => true) (fun z => .int (mirF m z)) (by rw [List.append_nil]; exact h) (fun z hz C2 env2 E2 s2 R0 he2 h2 => ⟨wpAny_tests_nil ⟨rfl, h2⟩, fun _ s3 h3 => ?_⟩) (fun D2 => ?_)
  · simp only [List.cons_append, List.nil_append] at h3 ⊢
    have hb := hbb z hz
    have hb2 := cell_div hb
    repeat kct_strs
    exact ⟨_, rfl, ‹14›⟩
  · intro s h
    rw [filt_true, List.append_nil, show (bs.map fun z => AV.int (mirF m z)) = (bs.map (mirF m)).map .int from by rw [List.map_map]; rfl] at h
    repeat kct_strs
    refine r_sorted ‹14› .here (by rw [List.length_map]; omega) fun a s h => ?_
    rw [← hhs] at h
    kct_strs
    rw [decide_eq_true rfl]
    exact k _ (H.sub (.skip (.skip .refl)) ‹14›)
end

end
section
noncomputable def forBody : Stmt → List Stmt
  | .For _ _ b _ _ => b
  | _ => []
noncomputable def tb (i : Nat) : Stmt := nthS i (forBody (lawSt 24))
noncomputable abbrev keyB (p1 p2 p3 p4 p5 p6 : Pos) : Expr := .Call (.Attribute (.Subscript (.Name "spaces" p1) (.Name "one" p2) p3) "indent_level" p4) [.Name "size" p5] [] p6
noncomputable def codes (qual : Str) : Option Addr → Ledger
  | none => []
  | some c => [(c, codP qual)]
section
variable {prog : Program} {w : World} {A : Around} {E : Value → Shared → Prop} {s : Shared} {hB : Heap} {oB : OsState} {G : Array GenState} {ob rest K0 R r2 r3 r4 r5 r6 r7 r8 r9 : Ledger} {env : Env} {L P : Addr} {f : Str → Addr} {lo lo' : Lo} {Q : Flow → Shared → Prop}
set_option maxHeartbeats 1000000 in
theorem lamKey {fa c S0 : Addr} {qual : Str} {p1 p2 p3 p4 p5 p6 p7 : Pos} {t : Int} {zs : List Int} {txt : Int → List Nat} {kvS : List (Int × AV)} {mN : Str → Option Value} {sc : Scope} (C : WsM prog w hB mN) (lim : hB.NoLimit) (gl : Glob hB "len" (.builtin "len")) (gr : Glob hB "range" (.type "range"))
    (hev : ∀ env : Env, ∃ pl, eval (keyB p1 p2 p3 p4 p5 p6) env = (do
      let ov ← eval (.Subscript (.Name "spaces" p1) (.Name "one" p2) p3) env
      standAt p4.atName
      let (f, first) ← holding [ov] (getMethod ov "indent_level" pl)
      callWith p6 f first (backTo p6 (starEach [.Name "size" p5] env)) (backToKw p6 (keywordEach [] env))))
    (hsc : scOkL sc ["one"] [("spaces", f "spaces"), ("size", f "size")] [] = true) (hbind : ∀ pm cdv ctv (v : Int) (u : Tok), bindArgs (kla_fn "<lambda>" qual (oneArg p7) (keyB p1 p2 p3 p4 p5 p6) sc [("spaces", f "spaces"), ("size", f "size")] pm cdv ctv) ⟨[Value.int v u], []⟩ = pure [(("one" : Str), Value.int v u)])
    (mf : (fa, lamP qual (oneArg p7) (keyB p1 p2 p3 p4 p5 p6) sc [("spaces", f "spaces"), ("size", f "size")] c) ∈ K0) (mc : (c, codP qual) ∈ K0)
    (pS : Pick (f "spaces") (celp (some (.ref S0))) K0 r2) (pS0 : Pick S0 (dic kvS) K0 r3) (hS : SpInv txt zs kvS K0) (pz : Pick (f "size") (celp (some (.int t))) K0 r4) (ht : 1 ≤ t ∧ t ≤ 3) (htl : ∀ z ∈ zs, (txt z).length ≤ 500) :
    KeyFn prog w hB oB fa 4 K0 (fun z => ilF (txt z) t) (fun z => z ∈ zs) where
  fn := ⟨_, mf, fun o ⟨pm, ctv, e⟩ => by subst e; exact ⟨_, rfl⟩⟩
  call := by
    intro A E s G R Q v u rm hv h k
    obtain ⟨x1, hx1, W1⟩ := hS.get hv
    have hl1 := htl v hv
    refine r_lamCall lim [("one", .int v, u)] ["one"] [] [("one", some (.int v))] hsc (fun pm cdv ctv => hbind pm cdv ctv v u) rm h (List.mem_append_left _ mf) (List.mem_append_left _ mc) fun L env A' E' s' rm' he h => ?_
    obtain ⟨pl, hev⟩ := hev env
    refine r_methodV (hB := hB) (oB := oB) ?_ hev
    refine subN ?_
    refine r_cell he h (by simp) (.there (.app pS)) fun t => ?_
    kct_strs
    refine r_tailDict ‹14› (.there (.app pS0)) hx1 fun t s h => ?_
    have W2 : WsAt ((L, nsp ["one"] [("one", some (.int v))]) :: (K0 ++ R)) x1 (txt v) := (W1.mono (ob' := K0 ++ R) fun p hp => List.mem_append_left _ hp).cons
    refine ⟨_, _, C.fIl.isFn, fun Q' q => r_wsIl C ‹14› W2 q, ?_⟩
    kct_strs
    refine r_cell he ‹14› (by simp) (.there (.app pz)) fun t => ?_
    repeat kct_strs
    ktu_offI
    refine sp_indent C lim gl gr (rm'.le (by decide)) ‹14› W2 hl1 (by omega) fun t s h => ?_
    exact k _ _ (h.sub (.skip .refl))
end

end
section
theorem pm1 (L I o p : Addr × OP) (R c2 c3 : Ledger) : List.Perm (L :: ((I :: R) ++ (o :: p :: (c2 ++ c3)))) (p :: (c2 ++ (c3 ++ (o :: L :: I :: R)))) := by
  classical
  rw [List.perm_iff_count]
  intro a
  simp only [List.count_append, List.count_cons]
  ac_rfl
theorem pm2 (L I o p fa : Addr × OP) (R c2 c3 : Ledger) : List.Perm (fa :: p :: (c2 ++ (c3 ++ (o :: L :: I :: R)))) (o :: L :: I :: (fa :: p :: (c2 ++ (c3 ++ R)))) := by
  classical
  rw [List.perm_iff_count]
  intro a
  simp only [List.count_append, List.count_cons]
  ac_rfl
theorem pm3 (L I o p : Addr × OP) (R c2 c3 : Ledger) : List.Perm (o :: L :: I :: (p :: (c2 ++ (c3 ++ R)))) ((I :: R) ++ L :: o :: p :: (c2 ++ c3)) := by
  classical
  rw [List.perm_iff_count]
  intro a
  simp only [List.count_append, List.count_cons]
  ac_rfl
noncomputable def insK (g : Int → Int) (left : Bool) (xs : List Int) (z : Int) : List Int :=
  if left then insAt xs (bis (ltLk g xs (g z)) xs.length 0 xs.length) z else insAt xs (bis (leRk g xs (g z)) xs.length 0 xs.length) z
noncomputable def ordK (g : Int → Int) (left : Bool) (zs : List Int) : List Int := zs.foldl (insK g left) []
section
variable {prog : Program} {w : World} {A : Around} {E : Value → Shared → Prop} {s : Shared} {hB : Heap} {oB : OsState} {G : Array GenState} {ob rest Z K0 R r2 r3 r4 r5 r6 r7 r8 r9 : Ledger} {env : Env} {L P : Addr} {locs gs : List Str} {cl : List (Str × Addr)}
theorem r_lam2 {params : Arguments} {body : Expr} {sc : Scope} {cB : Addr} {k2 k3 : Option Addr} {Q : Value → Shared → Prop} (he : Ev env L locs cl gs) (B : LamBase hB cB P) (hcode : env.code = .ref cB) (hf : fclOk cl sc.names = true) (hdef : defaultsOf params env = ([], []))
    (h : H hB oB G ((P, tabP [(lp2, k2), (lp3, k3)]) :: (codes (env.qual ++ "<lambda>") k2 ++ (codes (env.qual ++ "<lambda>") k3 ++ Z))) s)
    (k : ∀ fa c s', H hB oB G ((fa, lamP (env.qual ++ "<lambda>") params body sc (fcl cl sc.names) c) :: (P, tabP [(lp2, some c), (lp3, k3)]) :: (codes (env.qual ++ "<lambda>") (some c) ++ (codes (env.qual ++ "<lambda>") k3 ++ Z))) s' → Q (.ref fa) s') :
    wpAny (model prog w) A (eval (.Lambda params body sc lp2) env) Q E s := by
  cases k2 with
  | none =>
    refine r_lamMiss he B hcode hf hdef h .here (.head _) fun fa c s h => k fa c s (h.sub ?_)
    exact .cons .here (fun _ h => h) (.cons (.there .here) (fun _ h => h) (.cons .here (fun _ h => h) .refl))
  | some c => exact r_lamHit he B hcode hf hdef h .here (.head _) fun fa s h => k fa c s h
theorem r_lam3 {params : Arguments} {body : Expr} {sc : Scope} {cB : Addr} {k2 k3 : Option Addr} {Q : Value → Shared → Prop} (he : Ev env L locs cl gs) (B : LamBase hB cB P) (hcode : env.code = .ref cB) (hf : fclOk cl sc.names = true) (hdef : defaultsOf params env = ([], []))
    (h : H hB oB G ((P, tabP [(lp2, k2), (lp3, k3)]) :: (codes (env.qual ++ "<lambda>") k2 ++ (codes (env.qual ++ "<lambda>") k3 ++ Z))) s)
    (k : ∀ fa c s', H hB oB G ((fa, lamP (env.qual ++ "<lambda>") params body sc (fcl cl sc.names) c) :: (P, tabP [(lp2, k2), (lp3, some c)]) :: (codes (env.qual ++ "<lambda>") k2 ++ (codes (env.qual ++ "<lambda>") (some c) ++ Z))) s' → Q (.ref fa) s') :
    wpAny (model prog w) A (eval (.Lambda params body sc lp3) env) Q E s := by
  cases k3 with
  | none =>
    refine r_lamMiss he B hcode hf hdef h .here (.tail _ (.head _)) fun fa c s h => k fa c s ((h.perm ?_).sub (.cons .here (fun _ h => h) (.cons .here (fun o h => h) .refl)))
    classical
    rw [List.perm_iff_count]
    intro a
    simp only [codes, List.count_append, List.count_cons, List.count_nil]
    ac_rfl
  | some c => exact r_lamHit he B hcode hf hdef h .here (.tail _ (.head _)) fun fa s h => k fa c s h
theorem r_callFK {f : Str} {p pos : Pos} {a : Addr} {e : Expr} {args : List Expr} {kw : Keyword} {kws : List Keyword} {Q : Value → Shared → Prop} (he : Ev env L locs cl gs) (h : H hB oB G ob s) (hx : f ∈ gs) (hg : Glob hB f (.ref a)) (hf : IsFn hB a)
    (hall : (backToKw pos (keywordEach (kw :: kws) env)).all (·.1.isSome) = true)
    (k : wpAny (model prog w) A (spliced (backTo pos (starEach (e :: args) env))) (fun vs s₁ => wpAny (model prog w) A (evalAll ((backToKw pos (keywordEach (kw :: kws) env)).map (·.2)))
      (fun ks s₂ => Live hB oB s₂ ∧ wpAny (model prog w) A (call (.ref a) vs (((backToKw pos (keywordEach (kw :: kws) env)).filterMap (·.1)).zip ks)) Q E s₂) E s₁) E s)
    (hs : starEach (e :: args) env = (false, eval e env) :: starEach args env := by rfl) :
    wpAny (model prog w) A (eval (.Call (.Name f p) (e :: args) (kw :: kws) pos) env) Q E s := by
  obtain ⟨o, fd, ho, hd⟩ := hf
  refine wpAny_Call_Name_kw (r_glob he h hx hg (callWith_def_kw hd ?_))
  refine evalArgs_kw2 hall ?_ hs
  refine wpAny_mono k (fun vs s1 k => wpAny_mono k (fun ks s2 k => ?_) fun _ _ e => e) fun _ _ e => e
  obtain ⟨⟨G, ob, hl⟩, k⟩ := k
  exact ⟨hl.keep _ _ ho, k⟩
end

end
section
noncomputable abbrev loT (sc dr ov : AV) (hi en wo cr sp be to : Option AV) (ce tu od re : Option AV) : Lo := [("script", some sc), ("drawn", some dr), ("cell", ce), ("over", some ov), ("steps", none), ("place", none), ("menu", none), ("hidden", hi), ("ends", en), ("word", wo), ("crowd", cr), ("spots", sp), ("p", none), ("begin", be), ("total", to), ("turn", tu), ("order", od), ("read", re)]
theorem Pick.appR {a : Addr} {P : OP} {R r : Ledger} (h : Pick a P R r) : ∀ X, Pick a P (X ++ R) (X ++ r)
  | [] => h
  | x :: X => .there (Pick.appR h X)
theorem pm4 (L I o p : Addr × OP) (R c : Ledger) : List.Perm (I :: L :: o :: p :: (c ++ R)) ((I :: R) ++ L :: o :: p :: c) := by
  classical
  rw [List.perm_iff_count]
  intro a
  simp only [List.count_append, List.count_cons]
  ac_rfl
theorem pm5 (L o p : Addr × OP) (R c : Ledger) : List.Perm (R ++ L :: o :: p :: c) (L :: o :: p :: (c ++ R)) := by
  classical
  rw [List.perm_iff_count]
  intro a
  simp only [List.count_append, List.count_cons]
  ac_rfl
theorem insK_mem {g : Int → Int} {b : Bool} {xs : List Int} {z v : Int} (h : v ∈ insK g b xs z) : v ∈ xs ∨ v = z := by
  unfold insK insAt at h
  split at h <;> simp only [List.mem_append, List.mem_cons] at h
  all_goals
    rcases h with h | h | h
    · exact .inl (List.mem_of_mem_take h)
    · exact .inr h
    · exact .inl (List.mem_of_mem_drop h)
theorem insK_fold_mem {g : Int → Int} {b : Bool} {v : Int} : ∀ (l xs : List Int), v ∈ l.foldl (insK g b) xs → v ∈ xs ∨ v ∈ l
  | [], _, h => .inl h
  | z :: l, xs, h => by
    rcases insK_fold_mem l _ h with h | h
    · rcases insK_mem h with h | rfl
      · exact .inl h
      · exact .inr (.head _)
    · exact .inr (.tail _ h)
theorem insK_fold_len {g : Int → Int} {b : Bool} : ∀ (l xs : List Int), (l.foldl (insK g b) xs).length ≤ xs.length + l.length
  | [], _ => by simp
  | z :: l, xs => by
    rw [List.foldl_cons, List.length_cons]
    refine Nat.le_trans (insK_fold_len l _) ?_
    have : (insK g b xs z).length ≤ xs.length + 1 := by
      unfold insK insAt; split <;> simp <;> omega
    omega
theorem fm2 (i : Nat) : (((i : Int).fmod 2 == 0) : Bool) = decide (i % 2 = 0) := by
  rw [Bool.eq_iff_iff, beq_iff_eq, decide_eq_true_iff, Int.fmod_eq_emod_of_nonneg _ (by decide)]
  omega
section
variable {prog : Program} {w : World} {A : Around} {E : Value → Shared → Prop} {s : Shared} {hB : Heap} {oB : OsState} {G : Array GenState} {ob rest Z K0 R r2 r3 r4 r5 r6 r7 r8 r9 : Ledger} {env : Env} {L P : Addr} {f : Str → Addr} {lo lo' : Lo} {Q : Flow → Shared → Prop} {sc dr ov : AV} {hi en wo cr sp be to : Option AV}
structure InsFns (hB : Heap) : Prop where
  lim : hB.NoLimit
  il : FnIL hB
  ir : FnIR hB
  bl : FnBL hB
  br : FnBR hB
  gl : Glob hB "len" (.builtin "len")
  gr : Glob hB "range" (.type "range")
  gbl : Glob hB "bisect_left" (.ref 78)
  gbr : Glob hB "bisect_right" (.ref 60)
  gil : Glob hB "insort_left" (.ref 69)
  gir : Glob hB "insort_right" (.ref 51)
set_option maxHeartbeats 1000000 in
theorem tb2 {m i : Nat} {t : Int} {ao a S0 cB : Addr} {txt : Int → List Nat} {kvS : List (Int × AV)} {mN : Str → Option Value} {k2 k3 : Option Addr} (he : LawEnv env L f) (B : LamBase hB cB P) (hcode : env.code = .ref cB) (C : WsM prog w hB mN) (F : InsFns hB) (rm : Rm 7 A) (ht : 1 ≤ t ∧ t ≤ 3)
    (h : H hB oB G ((L, nsp lawLocs (loT sc dr ov hi en wo cr sp be to none (some (.int i)) (some (.ref ao)) none)) :: (ao, lst []) :: (P, tabP [(lp2, k2), (lp3, k3)]) :: ((codes (env.qual ++ "<lambda>") k2 ++ codes (env.qual ++ "<lambda>") k3) ++ R)) s)
    (pS : Pick (f "spaces") (celp (some (.ref S0))) R r2) (pS0 : Pick S0 (dic kvS) R r3) (hS : SpInv txt (cellsF m) kvS R) (pz : Pick (f "size") (celp (some (.int t))) R r4) (htl : ∀ z ∈ cellsF m, (txt z).length ≤ 500)
    (pC : Pick (f "cells") (celp (some (.ref a))) R r7) (pa : Pick a (lst ((cellsF m).map .int)) R r8)
    (k : ∀ k2 k3 s', H hB oB G ((L, nsp lawLocs (loT sc dr ov hi en wo cr sp be to none (some (.int i)) (some (.ref ao)) none)) :: (ao, lst ((ordK (fun z => ilF (txt z) t) (decide (i % 2 = 0)) (cellsF m)).map .int)) :: (P, tabP [(lp2, k2), (lp3, k3)]) :: ((codes (env.qual ++ "<lambda>") k2 ++ codes (env.qual ++ "<lambda>") k3) ++ R)) s' → Q .next s') : wpAny (model prog w) A (exec (tb 2) env) Q E s := by
  have he' := he.ev
  have hcl := cells_len m
  obtain ⟨lim, il, ir, bl, br, gl, gr, gbl, gbr, gil, gir⟩ := F
  refine wpAny_For ?_
  refine r_cell he' h (by simp) (.there (.there (.there (Pick.appR pC _)))) fun u0 => ?_
  refine r_iterListIn h (.there (.there (.there (Pick.appR pa _)))) fun I s h => ?_
  refine r_forLoopT (hB := hB) (oB := oB) (σ := List Int × Option Addr × Option Addr) he' (ItrT.name (Itr.intsIn I a (cellsF m) pa)) rm.h
    (fun n x => x.1 = ((cellsF m).take n).foldl (insK (fun z => ilF (txt z) t) (decide (i % 2 = 0))) [])
    (fun _ _ => loT sc dr ov hi en wo cr sp be to none (some (.int i)) (some (.ref ao)) none) (fun n _ => loT sc dr ov hi en wo cr sp be to (some (.int ((cellsF m).getD n 0))) (some (.int i)) (some (.ref ao)) none)
    (fun _ x => (ao, lst (x.1.map .int)) :: (P, tabP [(lp2, x.2.1), (lp3, x.2.2)]) :: (codes (env.qual ++ "<lambda>") x.2.1 ++ codes (env.qual ++ "<lambda>") x.2.2)) (fun _ => G) ([], k2, k3) rfl (h.perm ?_) (fun n x hi => by exact ‹7›) (fun n x hi hI E' s' h => ?_) (fun x hI s h => ?_)
  · exact pm4 _ _ _ _ _ _
  · obtain ⟨xs, k2, k3⟩ := x
    dsimp only at hI h ⊢
    have hz := getD_mem' hi
    have hs2 := take_snocD 0 (cellsF m) hi
    have hxl : xs.length ≤ 100 := by
      rw [hI]
      have h1 := insK_fold_len (g := fun z => ilF (txt z) t) (b := decide (i % 2 = 0)) ((cellsF m).take n) []
      rw [List.length_take, List.length_nil] at h1
      omega
    have hdom : ∀ v ∈ xs, v ∈ cellsF m := by
      intro v hv
      rw [hI] at hv
      rcases insK_fold_mem _ _ hv with hv | hv
      · cases hv
      · exact List.mem_of_mem_take hv
    generalize (cellsF m).getD n 0 = z at h hz hs2
    refine wpAny_execs_cons ?_
    refine wpAny_If ?_
    repeat kct_strs
    refine ite_b (fun q => ?_) (fun q => ?_)
    · refine wpAny_execs_cons ?_
      refine r_exprStmt he' ?_
      refine r_callFK he' ‹14› (by simp) gil il.fn.isFn rfl ?_
      iterate 5 kct_strs
      refine kws_cons ?_
      refine r_lam2 he' B hcode (by with_unfolding_all rfl) (by with_unfolding_all rfl) (H.perm ‹14› (pm1 _ _ _ _ _ _ _)) fun fa c s h => ?_
      refine kws_nil ?_
      rw [show fcl (lawCl f) ([(Str.ofString "one", NameKind.local), (Str.ofString "size", NameKind.free), (Str.ofString "spaces", NameKind.free)] : List (Str × NameKind)) = ([("spaces", f "spaces"), ("size", f "size")] : List (Str × Addr)) from by with_unfolding_all rfl] at h
      have h := h.perm (pm2 _ _ _ _ _ _ _ _)
      refine ⟨⟨_, _, h⟩, ?_⟩
      refine sp_ilk (n := 4) (R := [_, _, _]) (g := fun z => ilF (txt z) t) (dom := fun z => z ∈ cellsF m) il bl lim gl gbl ?kf List.perm_append_comm hdom hz (rm.le (by decide)) h .here (by omega) fun s h => ?_
      case kf =>
        refine lamKey C lim gl gr (fun env => ⟨_, rfl⟩) ?_ (fun _ _ _ _ _ => ?_) (.head _) (.tail _ (.tail _ (.head _))) (.there (.there (Pick.appR (Pick.appR pS _) _))) (.there (.there (Pick.appR (Pick.appR pS0 _) _))) (hS.mono fun p hp => .tail _ (.tail _ (List.mem_append_right _ (List.mem_append_right _ hp)))) (.there (.there (Pick.appR (Pick.appR pz _) _))) ht htl
        · exact scOkL_keys (cl := ([("spaces", 0), ("size", 0)] : List (Str × Addr))) rfl (by decide +kernel)
        · with_unfolding_all rfl
      repeat kct_strs
      refine ⟨(insK (fun z => ilF (txt z) t) true xs z, some c, k3), ?_, (h.sub (.cons .here (fun _ h => h) (.cons .here (nsp_forg (by exact ‹10›)) (.cons .here (fun _ h => h) (.skip .refl))))).perm (pm3 _ _ _ _ _ _ _)⟩
      rw [hs2, List.foldl_append, ← hI, ← fm2, q]
      rfl
    · refine wpAny_execs_cons ?_
      refine r_exprStmt he' ?_
      refine r_callFK he' ‹14› (by simp) gir ir.fn.isFn rfl ?_
      iterate 5 kct_strs
      refine kws_cons ?_
      refine r_lam3 he' B hcode (by with_unfolding_all rfl) (by with_unfolding_all rfl) (H.perm ‹14› (pm1 _ _ _ _ _ _ _)) fun fa c s h => ?_
      refine kws_nil ?_
      rw [show fcl (lawCl f) ([(Str.ofString "one", NameKind.local), (Str.ofString "size", NameKind.free), (Str.ofString "spaces", NameKind.free)] : List (Str × NameKind)) = ([("spaces", f "spaces"), ("size", f "size")] : List (Str × Addr)) from by with_unfolding_all rfl] at h
      have h := h.perm (pm2 _ _ _ _ _ _ _ _)
      refine ⟨⟨_, _, h⟩, ?_⟩
      refine sp_irk (n := 4) (R := [_, _, _]) (g := fun z => ilF (txt z) t) (dom := fun z => z ∈ cellsF m) ir br lim gl gbr ?kf List.perm_append_comm hdom hz (rm.le (by decide)) h .here (by omega) fun s h => ?_
      case kf =>
        refine lamKey C lim gl gr (fun env => ⟨_, rfl⟩) ?_ (fun _ _ _ _ _ => ?_) (.head _) (.tail _ (.tail _ (List.mem_append_right _ (.head _)))) (.there (.there (Pick.appR (Pick.appR pS _) _))) (.there (.there (Pick.appR (Pick.appR pS0 _) _))) (hS.mono fun p hp => .tail _ (.tail _ (List.mem_append_right _ (List.mem_append_right _ hp)))) (.there (.there (Pick.appR (Pick.appR pz _) _))) ht htl
        · exact scOkL_keys (cl := ([("spaces", 0), ("size", 0)] : List (Str × Addr))) rfl (by decide +kernel)
        · with_unfolding_all rfl
      repeat kct_strs
      refine ⟨(insK (fun z => ilF (txt z) t) false xs z, k2, some c), ?_, (h.sub (.cons .here (fun _ h => h) (.cons .here (nsp_forg (by exact ‹10›)) (.cons .here (fun _ h => h) (.skip .refl))))).perm (pm3 _ _ _ _ _ _ _)⟩
      rw [hs2, List.foldl_append, ← hI, ← fm2, q]
      rfl
  · obtain ⟨xs, k2, k3⟩ := x
    dsimp only at hI h ⊢
    rw [List.take_length] at hI
    subst hI
    exact k k2 k3 s (h.perm (pm5 _ _ _ _ _))
end

end
section
noncomputable def szF (d0 : Int) (i : Nat) : Int := 1 + (d0.fdiv 24 + (i : Int)).fmod 3
theorem szF_bound (d0 : Int) (i : Nat) : 1 ≤ szF d0 i ∧ szF d0 i ≤ 3 := by
  have h1 := Int.fmod_nonneg_of_pos (d0.fdiv 24 + (i : Int)) (show (0 : Int) < 3 by decide)
  have h2 := Int.fmod_lt_of_pos (d0.fdiv 24 + (i : Int)) (show (0 : Int) < 3 by decide)
  unfold szF; omega
section
variable {prog : Program} {w : World} {A : Around} {E : Value → Shared → Prop} {s : Shared} {hB : Heap} {oB : OsState} {G : Array GenState} {ob rest Z K0 R r2 r3 r4 r5 r6 r7 r8 r9 : Ledger} {env : Env} {L P : Addr} {f : Str → Addr} {lo lo' : Lo} {Q : Flow → Shared → Prop} {sc ov : AV} {hi en wo cr sp be to ce tu od re : Option AV}
set_option maxHeartbeats 1000000 in
theorem tb0 {dr : Addr} {d0 d1 d2 : Int} {i : Nat} {v0 : Option AV} (he : LawEnv env L f)
    (h : H hB oB G ((L, nsp lawLocs (loT sc (.ref dr) ov hi en wo cr sp be to none (some (.int i)) none none)) :: (f "size", celp v0) :: R) s) (pd : Pick dr (lst [.int d0, .int d1, .int d2]) R r2)
    (k : ∀ s', H hB oB G ((L, nsp lawLocs (loT sc (.ref dr) ov hi en wo cr sp be to none (some (.int i)) none none)) :: (f "size", celp (some (.int (szF d0 i)))) :: R) s' → Q .next s') : wpAny (model prog w) A (exec (tb 0) env) Q E s := by
  have he' := he.ev
  refine r_assignCell (he.ck _ (by simp)) ?_
  repeat kct_strs
  exact r_storeC (v := .int (szF d0 i)) he' ‹14› (by simp) (he.ck _ (by simp)) (.there .here) fun s h => k s (h.perm (List.Perm.swap _ _ _))
set_option maxHeartbeats 1000000 in
theorem tb1 {i : Nat} {dr : AV} (he : LawEnv env L f)
    (h : H hB oB G ((L, nsp lawLocs (loT sc dr ov hi en wo cr sp be to none (some (.int i)) none none)) :: R) s)
    (k : ∀ ao s', H hB oB G ((L, nsp lawLocs (loT sc dr ov hi en wo cr sp be to none (some (.int i)) (some (.ref ao)) none)) :: (ao, lst []) :: R) s' → Q .next s') : wpAny (model prog w) A (exec (tb 1) env) Q E s := by
  have he' := he.ev
  refine r_assign ?_ ?hs
  case hs => with_unfolding_all rfl
  repeat kct_strs
  refine ⟨_, _, _, by exact ‹13›, le_size (by simp only [List.length_nil]; omega), ‹14›, fun ao s h => ?_⟩
  repeat kct_strs
  exact k ao _ ‹14›
set_option maxHeartbeats 1000000 in
theorem tb3 {m : Nat} {ah hd en : Addr} {hs : List Int} {hid : List (List Nat)} {e0 e1 : List Nat} {dr : AV} (he : LawEnv env L f) (F : TxtFns hB) (fw : FnWord hB) (I : InsFns hB) (gw : Glob hB "_law_word" (.ref 165)) (rm : Rm 5 A) (hm : m = 4 ∨ m = 5) (hb : Bare G)
    (h : H hB oB G ((L, nsp lawLocs (loT sc dr ov (some (.ref hd)) (some (.ref en)) wo cr sp be to none tu od none)) :: R) s)
    (pM : Pick (f "many") (celp (some (.int m))) R r2) (ph : Pick hd (lst ((hid.map S).map .str)) R r3) (pe : Pick en (tup [.str (S e0), .str (S e1)]) R r4) (pH : Pick (f "held") (celp (some (.ref ah))) R r5) (pA : Pick ah (lst (hs.map .int)) R r6) (hl : hs.length ≤ 100)
    (h5 : hid.length = 5) (hh : ∀ x ∈ hid, x.length ≤ 20) (hz0 : e0.length ≤ 20) (hz1 : e1.length ≤ 20)
    (hwl : (lawWord hs m).length ≤ 100) (htl : (textF (lawWord hs m) hid e0 e1).length ≤ 250)
    (k : ∀ G' s', Bare G' → H hB oB G' ((L, nsp lawLocs (loT sc dr ov (some (.ref hd)) (some (.ref en)) wo cr sp be to none tu od (some (.str (S (stripF (textF (lawWord hs m) hid e0 e1))))))) :: R) s' → Q .next s') : wpAny (model prog w) A (exec (tb 3) env) Q E s := by
  have he' := he.ev
  obtain ⟨lim, ck, st, es, tx, pr, ge, gl, gr, gi, gs, gc, gt, gp⟩ := F
  refine r_assign ?_ ?hs
  case hs => with_unfolding_all rfl
  repeat kct_strs
  ktu_offI
  refine sp_word fw I.bl I.br lim gl gr I.gbl I.gbr (rm.le (by decide)) ‹14› (.there pA) hl (by omega) fun t s h => ?_
  repeat kct_strs
  ktu_offI
  refine sp_text tx lim ge (rm.le (by decide)) ‹14› (.there ph) (.there pe) h5 hh hwl hz0 hz1 fun t s h => ?_
  repeat kct_strs
  ktu_offI
  refine sp_strip st es lim ge gl gi (rm.le (by decide)) ‹14› hb htl fun t G2 s hb2 h => ?_
  repeat kct_strs
  exact k G2 _ hb2 ‹14›
end

end
section
noncomputable def isSg (u : List Nat) : Bool := decide (u = [40]) || decide (u = [41])
noncomputable def sgF (l : List Nat) : List (List Nat) := ((escGo 0 false l).map (·.2)).filter isSg
theorem pickGo_filter (us : List (Nat × List Nat)) : ∀ n, n ≤ us.length → pickGo (fun i => isSg (us.getD i (0, [])).2) (fun i => .str (S (us.getD i (0, [])).2)) n = (((us.take n).map (·.2)).filter isSg).map fun u => .str (S u)
  | 0, _ => by simp [pickGo]
  | n + 1, h => by
    rw [pickGo, pickGo_filter us n (by omega), take_snocD (0, []) us (by omega), List.map_append, List.filter_append, List.map_append]
    congr 1
    simp only [List.map_cons, List.map_nil, List.filter_cons, List.filter_nil]
    split <;> simp
section
variable {prog : Program} {w : World} {A : Around} {E : Value → Shared → Prop} {s : Shared} {hB : Heap} {oB : OsState} {G : Array GenState} {ob rest Z K0 R r2 r3 r4 r5 r6 r7 r8 r9 : Ledger} {env : Env} {L P : Addr} {f : Str → Addr} {lo lo' : Lo} {Q : Flow → Shared → Prop} {sc ov : AV} {hi en wo cr sp be to ce tu od re : Option AV}
set_option maxHeartbeats 1000000 in
theorem tb4 {l : List Nat} {v0 : Option AV} {dr : AV} (he : LawEnv env L f) (F : TxtFns hB) (rm : Rm 5 A) (hb : Bare G) (hl : l.length ≤ 250)
    (h : H hB oB G ((L, nsp lawLocs (loT sc dr ov hi en wo cr sp be to none tu od (some (.str (S l))))) :: (f "signs", celp v0) :: R) s)
    (k : ∀ D G' s', Bare G' → H hB oB G' ((L, nsp lawLocs (loT sc dr ov hi en wo cr sp be to none tu od (some (.str (S l))))) :: (f "signs", celp (some (.ref D))) :: (D, lst (((sgF l).map S).map .str)) :: R) s' → Q .next s') : wpAny (model prog w) A (exec (tb 4) env) Q E s := by
  have he' := he.ev
  obtain ⟨lim, ck, st, es, tx, pr, ge, gl, gr, gi, gs, gc, gt, gp⟩ := F
  refine r_assignCell (he.ck _ (by simp)) ?_
  have hel := escGo_len l 0 false
  refine r_genComp (hB := hB) (oB := oB) (ob := (L, nsp lawLocs (loT sc dr ov hi en wo cr sp be to none tu od (some (.str (S l))))) :: (f "signs", celp v0) :: R) he' rm.h lim rm.lt [] [] (by decide +kernel) (by with_unfolding_all rfl) (by with_unfolding_all rfl) (unitAV (escGo 0 false l)) (fun i => .int ((escGo 0 false l).getD i (0, [])).1) (fun i => .str (S ((escGo 0 false l).getD i (0, [])).2)) (fun i hi => unitAV_get _ (by rwa [unitAV_len] at hi)) ?_ (fun i => isSg ((escGo 0 false l).getD i (0, [])).2) (fun i => .str (S ((escGo 0 false l).getD i (0, [])).2)) ?_ (fun i hi C env' E' G' s' R0 he2 h2 => ⟨?_, fun _ s3 h3 => ?_⟩) (fun D G' s' hb' h => ?_)
  · rw [unitAV_len]; omega
  · repeat kct_strs
    ktu_offI
    refine sp_esc es lim ge rm ‹14› hb (by omega) fun g Lg gi G2 s hG hb2 h => ?_
    refine gen_iter h (.head _) ?_
    exact ⟨_, _, _, _, rfl, hG _ (rm.in1.le (by decide)), hb2, h⟩
  · refine wpAny_tests_one ?_
    repeat kct_strs
    rw [show Str.ofString "(" = S [40] from by decide +kernel, show Str.ofString ")" = S [41] from by decide +kernel]
    refine ⟨_, _, _, by exact ‹13›, le_size (by simp only [List.length_cons, List.length_nil]; omega), ‹14›, fun T s h => ?_⟩
    repeat kct_strs
    refine r_inStrs (ts := [S [40], S [41]]) ‹14› .here ?_
    repeat kct_strs
    refine ⟨?_, H.sub (.skip .refl) ‹14›⟩
    simp only [List.any_cons, List.any_nil, S_beq, Bool.or_false, isSg]
    congr 1 <;> exact decide_eq_decide.mpr ⟨Eq.symm, Eq.symm⟩
  · repeat kct_strs
    exact ⟨_, rfl, ‹14›⟩
  · rw [unitAV_len, pickGo_filter _ _ (Nat.le_refl _), List.take_length] at h
    exact r_storeC (v := .ref D) (t := 0) he' h (by simp) (he.ck _ (by simp)) (.there (.there .here)) fun s h => k D G' s hb' (h.sub (.cons (.there (.there .here)) (fun _ h => h) (.cons .here (fun _ h => h) (.cons .here (fun _ h => by simpa [sgF, Function.comp_def] using h) .refl))))
end

end
section
noncomputable def valT (us : List (List Nat)) (z : Int) : Bool := decide (us.getD (z - 1).toNat [] = [41]) && decide (us.getD z.toNat [] = [40])
noncomputable def valF (us : List (List Nat)) : Int := (((rangeL 1 (us.length - 1)).filter (valT us)).length : Nat)
theorem rangeL_mem {a z : Int} {n : Nat} (h : z ∈ rangeL a n) : a ≤ z ∧ z < a + n := by
  unfold rangeL at h
  obtain ⟨i, hi, rfl⟩ := List.mem_map.mp h
  have := List.mem_range.mp hi
  omega
theorem toggleF_len (xs : List Int) (c : Int) (u o : List Int) : (toggleF xs c u o).length ≤ xs.length + 1 := by
  unfold toggleF insAt
  split
  · split
    · have := List.length_eraseIdx_le xs (bl xs c); omega
    · omega
  · split
    · simp; omega
    · omega
theorem togs_len (U O : Int → List Int) : ∀ (l xs : List Int), (l.foldl (fun hs z => toggleF hs z (U z) (O z)) xs).length ≤ xs.length + l.length
  | [], _ => by simp
  | z :: l, xs => by
    rw [List.foldl_cons, List.length_cons]
    have h1 := togs_len U O l (toggleF xs z (U z) (O z))
    have h2 := toggleF_len xs z (U z) (O z)
    omega
section
variable {prog : Program} {w : World} {A : Around} {E : Value → Shared → Prop} {s : Shared} {hB : Heap} {oB : OsState} {G : Array GenState} {ob rest Z K0 R r2 r3 r4 r5 r6 r7 r8 r9 : Ledger} {env : Env} {L P : Addr} {f : Str → Addr} {lo lo' : Lo} {Q : Flow → Shared → Prop} {sc ov : AV} {hi en wo cr sp be to ce tu od re : Option AV}
set_option maxHeartbeats 1000000 in
theorem tb5 {us : List (List Nat)} {D : Addr} {z0 : Int} {dr : AV} (he : LawEnv env L f) (gl : Glob hB "len" (.builtin "len")) (gr : Glob hB "range" (.type "range")) (rm : Rm 5 A) (hl : us.length ≤ 500)
    (h : H hB oB G ((L, nsp lawLocs (loT sc dr ov hi en wo cr sp be (some (.int z0)) none tu od re)) :: R) s) (pS : Pick (f "signs") (celp (some (.ref D))) R r2) (pD : Pick D (lst ((us.map S).map .str)) R r3)
    (k : ∀ s', H hB oB G ((L, nsp lawLocs (loT sc dr ov hi en wo cr sp be (some (.int (z0 + valF us))) none tu od re)) :: R) s' → Q .next s') : wpAny (model prog w) A (exec (tb 5) env) Q E s := by
  have he' := he.ev
  refine r_assign ?_ ?hs
  case hs => with_unfolding_all rfl
  iterate 4 kct_strs
  refine r_listComp (hB := hB) (oB := oB) he' rm.h ["p"] [] [("signs", f "signs")] (by decide +kernel) (by with_unfolding_all rfl) (by with_unfolding_all rfl) ?_
  iterate 8 kct_strs
  refine r_lenList ‹14› (.there pD) (le_size (by rw [List.length_map, List.length_map]; omega)) fun t s h => ?_
  rw [List.length_map, List.length_map]
  iterate 2 kct_strs
  refine r_iterRange ‹14› .here (by omega) (by omega) (by omega) (by omega) fun I s h => ?_
  rw [show ((us.length : Int) - 1).toNat = us.length - 1 from Int.toNat_sub us.length 1] at h
  refine compInts (G := G) (J := (L, nsp lawLocs (loT sc dr ov hi en wo cr sp be (some (.int z0)) none tu od re)) :: R) (Itr.rangeI I 1 (us.length - 1)) (rangeL_len _ _) (by omega) (valT us) .int ?_ (fun z hz C2 env2 E2 s2 R0 he2 h2 => ⟨?_, fun _ s3 h3 => ?_⟩) (fun D2 => ?_)
  · simpa using h
  · have hb := rangeL_mem hz
    have hx : ∀ y : Int, 0 ≤ y → y < us.length → ((us.map S).map AV.str)[y.toNat]? = some (.str (S (us.getD y.toNat []))) := by
      intro y h0 h1
      have : y.toNat < us.length := by omega
      simp [List.getD_eq_getElem?_getD, this]
    refine wpAny_tests_one ?_
    simp only [List.cons_append, List.nil_append] at h2 ⊢
    rw [show Str.ofString "(" = S [40] from by decide +kernel, show Str.ofString ")" = S [41] from by decide +kernel]
    refine isTrue_and ?_
    iterate 2 kct_strs
    refine r_cell he2 h2 (.head _) (.there (.there (.app pS))) fun t => ?_
    iterate 4 kct_strs
    refine r_tailList ‹14› (.there (.there (.app pD))) (by omega) (by omega) (hx (z - 1) (by omega) (by omega)) fun t => ?_
    repeat kct_strs
    rw [S_beq]
    refine ite_b (fun q => ?_) (fun q => ?_)
    · refine isTrue_and ?_
      iterate 2 kct_strs
      refine r_cell he2 ‹14› (.head _) (.there (.there (.app pS))) fun t => ?_
      iterate 1 kct_strs
      refine r_tailList ‹14› (.there (.there (.app pD))) (by omega) (by omega) (hx z (by omega) (by omega)) fun t => ?_
      repeat kct_strs
      rw [S_beq]
      refine ite_b (fun q2 => ?_) (fun q2 => ?_)
      · refine isTrue_and_nil ?_
        exact ⟨by unfold valT; rw [q, q2]; rfl, ‹14›⟩
      · exact ⟨by unfold valT; rw [q, q2]; rfl, ‹14›⟩
    · exact ⟨by unfold valT; rw [q]; rfl, ‹14›⟩
  · simp only [List.nil_append] at h3 ⊢
    kct_strs
    exact ⟨_, rfl, ‹14›⟩
  · intro s h
    have hfl : ((rangeL 1 (us.length - 1)).filter (valT us)).length ≤ 1000 := Nat.le_trans (List.length_filter_le _ _) (by rw [rangeL_len]; omega)
    repeat kct_strs
    rw [List.length_map]
    refine r_storeI he' ‹14› (.there .here) (by exact ‹7›) fun s h => k s (h.sub ?_)
    exact .cons .here (fun _ h => h) (.skip .refl)
set_option maxHeartbeats 1000000 in
theorem tb6 {m : Nat} {ao ah Du Do : Addr} {hs ord : List Int} {U O : Int → List Int} {kvU kvO : List (Int × AV)} {dr : AV} (he : LawEnv env L f) (fw : FnToggle hB) (F : InsFns hB) (gt : Glob hB "_law_toggle" (.ref 182)) (rm : Rm 5 A) (hol : ord.length ≤ 20) (hom : ∀ z ∈ ord, z ∈ cellsF m) (hl : hs.length ≤ 50)
    (h : H hB oB G ((L, nsp lawLocs (loT sc dr (.ref Do) hi en wo cr sp be to none tu (some (.ref ao)) re)) :: (ah, lst (hs.map .int)) :: R) s) (pO : Pick ao (lst (ord.map .int)) R r2) (pH : Pick (f "held") (celp (some (.ref ah))) R r3)
    (pU : Pick (f "under") (celp (some (.ref Du))) R r4) (pU0 : Pick Du (dic kvU) R r5) (hU : LdInv U (cellsF m) kvU R) (hUl : ∀ z ∈ cellsF m, (U z).length ≤ 100)
    (pO0 : Pick Do (dic kvO) R r6) (hO : LdInv O (cellsF m) kvO R) (hOl : ∀ z ∈ cellsF m, (O z).length ≤ 100)
    (k : ∀ s', H hB oB G ((L, nsp lawLocs (loT sc dr (.ref Do) hi en wo cr sp be to none tu (some (.ref ao)) re)) :: (ah, lst ((ord.reverse.foldl (fun hs z => toggleF hs z (U z) (O z)) hs).map .int)) :: R) s' → Q .next s') : wpAny (model prog w) A (exec (tb 6) env) Q E s := by
  have he' := he.ev
  refine wpAny_For ?_
  refine r_listSlice (hB := hB) (oB := oB) ?_
  kct_strs
  refine r_part0 (r_part0 (r_part1 ?_))
  repeat kct_strs
  refine ⟨_, _, _, _, ord.map .int, none, none, some (-1), rfl, .none, .none, .int _ _, (by decide), le_size (by rw [List.length_map]; omega), ‹14›, .there (.there pO), fun a s h => ?_⟩
  rw [pickL_map, pickL_rev] at h
  refine r_iterList h .here fun I s h => ?_
  have hrl : ord.reverse.length = ord.length := List.length_reverse
  have hrm : ∀ z ∈ ord.reverse, z ∈ cellsF m := fun z hz => hom z (List.mem_reverse.mp hz)
  generalize ord.reverse = zs at h hrl hrm k
  refine r_forLoopT (hB := hB) (oB := oB) (σ := List Int) he' (ItrT.name (Itr.ints I a zs)) rm.h (fun n x => x = (zs.take n).foldl (fun hs z => toggleF hs z (U z) (O z)) hs)
    (fun _ _ => loT sc dr (.ref Do) hi en wo cr sp be to none tu (some (.ref ao)) re) (fun n _ => loT sc dr (.ref Do) hi en wo cr sp be to (some (.int (zs.getD n 0))) tu (some (.ref ao)) re)
    (fun _ x => (ah, lst (x.map .int)) :: R) (fun _ => G) hs rfl (h.sub ?_) (fun n x hi => by exact ‹7›) (fun n x hi hI E' s' h => ?_) (fun x hI s h => ?_)
  · exact .cons .here (fun _ h => h) (.cons .here (fun _ h => h) (.cons .here (fun _ h => h) .refl))
  · have hz := hrm _ (getD_mem' hi)
    have hs2 := take_snocD 0 zs hi
    have hxl : x.length ≤ 100 := by
      rw [hI]
      have h1 := togs_len U O (zs.take n) hs
      rw [List.length_take] at h1
      omega
    generalize zs.getD n 0 = z at h hz hs2
    obtain ⟨u1, hu1, m1⟩ := hU.get hz
    obtain ⟨r1, p1⟩ := pick_of_mem m1
    obtain ⟨o1, ho1, m2⟩ := hO.get hz
    obtain ⟨r2', p2⟩ := pick_of_mem m2
    simp only [List.cons_append, List.nil_append] at h ⊢
    refine wpAny_execs_cons ?_
    refine r_exprStmt he' ?_
    repeat kct_strs
    ktu_offI
    refine sp_toggle fw F.bl F.br F.ir F.lim F.gl F.gbl F.gbr F.gir (rm.le (by decide)) ‹14› (.there (.there (.there .here))) hxl (.there (.there (.there (.there pU0)))) hu1 (.there (.there (.there (.there p1)))) (hUl z hz) (.there (.there (.there (.there pO0)))) ho1 (.there (.there (.there (.there p2)))) (hOl z hz) fun s h => ?_
    repeat kct_strs
    refine ⟨_, ?_, h.sub (.cons (.there (.there .here)) (fun _ h => h) (.cons (.there (.there .here)) (fun _ h => h) (.cons (.there .here) (nsp_forg (by exact ‹10›)) (.cons .here (fun _ h => h) .refl))))⟩
    rw [hs2, List.foldl_append, ← hI]
    rfl
  · rw [List.take_length] at hI
    subst hI
    exact k s (h.sub (.skip .refl))
end

end
section
theorem st24_eq : lawSt 24 = .For (.Name "turn" ⟨222, 8, 222, 12⟩) (.Call (.Name "range" ⟨222, 16, 222, 21⟩) [.Name "many" ⟨222, 22, 222, 26⟩] [] ⟨222, 16, 222, 27⟩) [tb 0, tb 1, tb 2, tb 3, tb 4, tb 5, tb 6] [] ⟨222, 4, 234, 48⟩ := by with_unfolding_all rfl
noncomputable def togs (U O : Int → List Int) (ord hs : List Int) : List Int := ord.reverse.foldl (fun hs z => toggleF hs z (U z) (O z)) hs
noncomputable def ordOf (m : Nat) (txt : Int → List Nat) (d0 : Int) (n : Nat) : List Int := ordK (fun z => ilF (txt z) (szF d0 n)) (decide (n % 2 = 0)) (cellsF m)
noncomputable def hsAt (m : Nat) (U O : Int → List Int) (txt : Int → List Nat) (d0 : Int) (hs : List Int) : Nat → List Int
  | 0 => hs
  | n + 1 => togs U O (ordOf m txt d0 n) (hsAt m U O txt d0 hs n)
noncomputable def valOf (m : Nat) (hid : List (List Nat)) (e0 e1 : List Nat) (hs : List Int) : Int := valF (sgF (stripF (textF (lawWord hs m) hid e0 e1)))
noncomputable def totAt (m : Nat) (U O : Int → List Int) (txt : Int → List Nat) (d0 : Int) (hid : List (List Nat)) (e0 e1 : List Nat) (hs : List Int) : Nat → Int
  | 0 => 0
  | n + 1 => totAt m U O txt d0 hid e0 e1 hs n + valOf m hid e0 e1 (hsAt m U O txt d0 hs n)
theorem pm6 (L o z i g a p : Addr × OP) (c R : Ledger) : List.Perm (L :: o :: z :: i :: g :: a :: p :: (c ++ R)) (L :: o :: p :: (c ++ (z :: i :: g :: a :: R))) := by
  classical
  rw [List.perm_iff_count]
  intro b
  simp only [List.count_append, List.count_cons]
  ac_rfl
theorem sgF_len {l : List Nat} (h : l.length ≤ 250) : (sgF l).length ≤ 500 := by
  have h1 := escGo_len l 0 false
  unfold sgF
  refine Nat.le_trans (List.length_filter_le _ _) ?_
  rw [List.length_map]; omega
theorem SubL.dropL : ∀ (c R : Ledger), SubL R (c ++ R)
  | [], _ => .refl
  | _ :: c, R => .skip (SubL.dropL c R)
structure TS where
  hs : List Int
  tot : Int
  k2 : Option Addr
  k3 : Option Addr
  Gn : Array GenState
  sz : Option AV
  sg : Option AV
theorem ordOf_len (m : Nat) (txt : Int → List Nat) (d0 : Int) (n : Nat) : (ordOf m txt d0 n).length ≤ 10 := by
  have h1 := insK_fold_len (g := fun z => ilF (txt z) (szF d0 n)) (b := decide (n % 2 = 0)) (cellsF m) []
  have h2 := cells_len m
  unfold ordOf ordK
  rw [List.length_nil] at h1
  omega
theorem ordOf_mem (m : Nat) (txt : Int → List Nat) (d0 : Int) (n : Nat) : ∀ z ∈ ordOf m txt d0 n, z ∈ cellsF m := by
  intro z hz
  unfold ordOf ordK at hz
  rcases insK_fold_mem _ _ hz with h | h
  · cases h
  · exact h
section
variable {prog : Program} {w : World} {A : Around} {E : Value → Shared → Prop} {s : Shared} {hB : Heap} {oB : OsState} {G : Array GenState} {ob rest Z K0 R r2 r3 r4 r5 r6 r7 r8 r9 : Ledger} {env : Env} {L P : Addr} {f : Str → Addr} {lo lo' : Lo} {Q : Flow → Shared → Prop} {sc : AV} {wo cr sp be ce tu od re : Option AV}
set_option maxHeartbeats 2000000 in
theorem st24 {X : Stmt} (hX : X = lawSt 24) {m : Nat} {a dr ah hd en Du Do S0 cB : Addr} {d0 d1 d2 : Int} {hs : List Int} {U O : Int → List Int} {txt : Int → List Nat} {kvU kvO kvS : List (Int × AV)} {hid : List (List Nat)} {e0 e1 : List Nat} {mN : Str → Option Value} {v1 v2 : Option AV}
    (he : LawEnv env L f) (B : LamBase hB cB P) (hcode : env.code = .ref cB) (C : WsM prog w hB mN) (F : TxtFns hB) (I : InsFns hB) (fw : FnWord hB) (ft : FnToggle hB) (gw : Glob hB "_law_word" (.ref 165)) (gt : Glob hB "_law_toggle" (.ref 182)) (rm : Rm 7 A) (hm : m = 4 ∨ m = 5) (hb : Bare G)
    (h : H hB oB G ((L, nsp lawLocs (loL sc (.ref dr) (.ref Do) (some (.ref hd)) (some (.ref en)) wo cr sp be (some (.int 0)))) :: (P, tabP [(lp2, none), (lp3, none)]) :: (ah, lst (hs.map .int)) :: (f "size", celp v1) :: (f "signs", celp v2) :: R) s)
    (pd : Pick dr (lst [.int d0, .int d1, .int d2]) R r2) (pM : Pick (f "many") (celp (some (.int m))) R r3) (ph : Pick hd (lst ((hid.map S).map .str)) R r4) (pe : Pick en (tup [.str (S e0), .str (S e1)]) R r5) (pH : Pick (f "held") (celp (some (.ref ah))) R r6)
    (pC : Pick (f "cells") (celp (some (.ref a))) R r7) (pa : Pick a (lst ((cellsF m).map .int)) R r8)
    {q1 q2 q3 q4 q5 : Ledger} (pS : Pick (f "spaces") (celp (some (.ref S0))) R q1) (pS0 : Pick S0 (dic kvS) R q2) (hS : SpInv txt (cellsF m) kvS R) (htl : ∀ z ∈ cellsF m, (txt z).length ≤ 500)
    (pU : Pick (f "under") (celp (some (.ref Du))) R q3) (pU0 : Pick Du (dic kvU) R q4) (hU : LdInv U (cellsF m) kvU R) (hUl : ∀ z ∈ cellsF m, (U z).length ≤ 100)
    (pO0 : Pick Do (dic kvO) R q5) (hO : LdInv O (cellsF m) kvO R) (hOl : ∀ z ∈ cellsF m, (O z).length ≤ 100)
    (h5 : hid.length = 5) (hh : ∀ x ∈ hid, x.length ≤ 20) (hz0 : e0.length ≤ 20) (hz1 : e1.length ≤ 20)
    (hlen : ∀ n, n < m → (hsAt m U O txt d0 hs n).length ≤ 50 ∧ (lawWord (hsAt m U O txt d0 hs n) m).length ≤ 100 ∧ (textF (lawWord (hsAt m U O txt d0 hs n) m) hid e0 e1).length ≤ 250 ∧ (stripF (textF (lawWord (hsAt m U O txt d0 hs n) m) hid e0 e1)).length ≤ 250)
    (k : ∀ G' s', H hB oB G' ((L, nsp lawLocs (loL sc (.ref dr) (.ref Do) (some (.ref hd)) (some (.ref en)) wo cr sp be (some (.int (totAt m U O txt d0 hid e0 e1 hs m))))) :: (ah, lst ((hsAt m U O txt d0 hs m).map .int)) :: (P, tabP []) :: R) s' → Bare G' → Q .next s') : wpAny (model prog w) A (exec X env) Q E s := by
  subst hX
  have he' := he.ev
  rw [st24_eq]
  refine wpAny_For ?_
  have grr := F.gr
  iterate 5 kct_strs
  refine r_iterRange ‹14› .here (by omega) (by omega) (by omega) (by omega) fun Ia s h => ?_
  rw [show ((m : Int) - 0).toNat = m from by omega] at h
  refine r_forLoopX (hB := hB) (oB := oB) (σ := TS) he' (ItrT.name (Itr.rangeN Ia 0 m)) rm.h (fun n x => x.hs = hsAt m U O txt d0 hs n ∧ x.tot = totAt m U O txt d0 hid e0 e1 hs n ∧ Bare x.Gn)
    (fun _ x => loT sc (.ref dr) (.ref Do) (some (.ref hd)) (some (.ref en)) wo cr sp be (some (.int x.tot)) none none none none) (fun n x => loT sc (.ref dr) (.ref Do) (some (.ref hd)) (some (.ref en)) wo cr sp be (some (.int x.tot)) none (some (.int n)) none none)
    (fun _ x => (f "size", celp x.sz) :: (f "signs", celp x.sg) :: (ah, lst (x.hs.map .int)) :: (P, tabP [(lp2, x.k2), (lp3, x.k3)]) :: ((codes (env.qual ++ "<lambda>") x.k2 ++ codes (env.qual ++ "<lambda>") x.k3) ++ R)) (fun x => x.Gn) ⟨hs, 0, none, none, G, v1, v2⟩ ⟨rfl, rfl, hb⟩ (h.sub ?_) (fun n x hi => ?_) (fun n x hi hI E' s' h => ?_) (fun x hI s h => ?_)
  · exact .cons .here (fun _ h => h) (.cons .here (fun _ h => h) (.cons (.there (.there .here)) (fun _ h => h) (.cons (.there (.there .here)) (fun _ h => h) (.cons (.there .here) (fun _ h => h) (.cons .here (fun _ h => h) .refl)))))
  · rw [Int.zero_add]
    exact ‹7›
  · obtain ⟨xh, tot, k2, k3, Gn, sz, sg⟩ := x
    obtain ⟨hI1, hI2, hI3⟩ := hI
    dsimp only at hI1 hI2 hI3 h ⊢
    obtain ⟨hn1, hn2, hn3, hn4⟩ := hlen n hi
    rw [← hI1] at hn1 hn2 hn3 hn4
    have hsz := szF_bound d0 n
    simp only [List.cons_append, List.nil_append] at h ⊢
    refine wpAny_execs_cons (tb0 (R := (Ia, _) :: (f "signs", celp sg) :: (ah, lst (xh.map .int)) :: (P, tabP [(lp2, k2), (lp3, k3)]) :: ((codes (env.qual ++ "<lambda>") k2 ++ codes (env.qual ++ "<lambda>") k3) ++ R)) he (h.sub (.cons .here (fun _ h => h) (.cons (.there .here) (fun _ h => h) (.cons .here (fun _ h => h) .refl)))) (.there (.there (.there (.there (Pick.appR pd _))))) fun s h => ?_)
    refine wpAny_execs_cons (tb1 he h fun ao s h => ?_)
    refine wpAny_execs_cons (tb2 (R := (f "size", celp (some (.int (szF d0 n)))) :: (Ia, _) :: (f "signs", celp sg) :: (ah, lst (xh.map .int)) :: R) he B hcode C I rm hsz (h.perm (pm6 _ _ _ _ _ _ _ _ _)) (.there (.there (.there (.there pS)))) (.there (.there (.there (.there pS0)))) (hS.mono fun p hp => .tail _ (.tail _ (.tail _ (.tail _ hp)))) .here htl (.there (.there (.there (.there pC)))) (.there (.there (.there (.there pa)))) fun k2 k3 s h => ?_)
    have h := h.perm (pm6 _ _ _ _ _ _ _ _ _).symm
    refine wpAny_execs_cons (tb3 he F fw I gw (rm.le (by decide)) hm hI3 h (.there (.there (.there (.there (.there (.there (Pick.appR pM _))))))) (.there (.there (.there (.there (.there (.there (Pick.appR ph _))))))) (.there (.there (.there (.there (.there (.there (Pick.appR pe _))))))) (.there (.there (.there (.there (.there (.there (Pick.appR pH _))))))) (.there (.there (.there (.there .here)))) (by omega) h5 hh hz0 hz1 hn2 hn3 fun G2 s hb2 h => ?_)
    refine wpAny_execs_cons (tb4 he F (rm.le (by decide)) hb2 hn4 (h.sub (.cons .here (fun _ h => h) (.cons (.there (.there (.there .here))) (fun _ h => h) .refl))) fun D G3 s hb3 h => ?_)
    refine wpAny_execs_cons (tb5 he I.gl I.gr (rm.le (by decide)) (sgF_len hn4) h .here (.there .here) fun s h => ?_)
    have ho1 := ordOf_len m txt d0 n
    refine wpAny_execs_cons (tb6 he ft I gt (rm.le (by decide)) (by show (ordOf m txt d0 n).length ≤ 20; omega) (ordOf_mem m txt d0 n) hn1 (h.sub (.cons .here (fun _ h => h) (.cons (.there (.there (.there (.there (.there .here))))) (fun _ h => h) .refl))) (.there (.there .here)) (.there (.there (.there (.there (.there (.there (Pick.appR pH _))))))) (.there (.there (.there (.there (.there (.there (Pick.appR pU _))))))) (.there (.there (.there (.there (.there (.there (Pick.appR pU0 _))))))) (hU.mono fun p hp => .tail _ (.tail _ (.tail _ (.tail _ (.tail _ (.tail _ (List.mem_append_right _ hp))))))) hUl (.there (.there (.there (.there (.there (.there (Pick.appR pO0 _))))))) (hO.mono fun p hp => .tail _ (.tail _ (.tail _ (.tail _ (.tail _ (.tail _ (List.mem_append_right _ hp))))))) hOl fun s h => ?_)
    refine wpAny_execs_nil ?_
    refine ⟨⟨togs U O (ordOf m txt d0 n) xh, tot + valOf m hid e0 e1 xh, k2, k3, G3, some (.int (szF d0 n)), some (.ref D)⟩, ⟨?_, ?_, hb3⟩, h.sub ?_⟩
    · rw [hsAt, ← hI1]
    · rw [totAt, ← hI1, ← hI2]
    · exact .cons (.there (.there (.there (.there (.there (.there .here)))))) (fun _ h => h) (.cons .here (nsp_forg (by exact ‹10›)) (.cons (.there (.there (.there (.there .here)))) (fun _ h => h) (.cons (.there .here) (fun _ h => h) (.cons .here (fun _ h => h) (.cons (.there (.there .here)) (fun _ h => h) (.skip (.skip .refl)))))))
  · obtain ⟨xh, tot, k2, k3, Gn, sz, sg⟩ := x
    obtain ⟨hI1, hI2, hI3⟩ := hI
    dsimp only at hI1 hI2 hI3 h
    rw [← hI1, ← hI2] at k
    refine k Gn s (h.sub ?_) hI3
    exact .cons .here (fun _ h => h) (.cons (.there (.there .here)) (fun _ h => h) (.cons (.there (.there .here)) (tabP_mono (fun _ hq => nomatch hq)) (.skip (.skip (SubL.dropL _ _)))))
end

end
section
/-- the units of a text -/
noncomputable def pu : List Nat → List (List Nat)
  | [] => []
  | [c] => [[c]]
  | c :: d :: r => if c = 92 then [92, d] :: pu r else [c] :: pu (d :: r)
noncomputable def clo : List Nat → Bool
  | [] => true
  | [c] => decide (c ≠ 92)
  | c :: d :: r => if c = 92 then clo r else clo (d :: r)
theorem escGo_pu : ∀ (r : List Nat) (i : Nat), (escGo i false r).map (·.2) = pu r
  | [], _ => rfl
  | [c], i => by
    unfold escGo pu
    by_cases h : c = 92
    · rw [if_pos h, h]; rfl
    · rw [if_neg h]; rfl
  | c :: d :: r, i => by
    unfold escGo pu
    by_cases h : c = 92
    · rw [if_pos h, if_pos h]
      show [92, d] :: _ = _
      rw [escGo_pu r]
    · rw [if_neg h, if_neg h, List.map_cons, escGo_pu (d :: r)]
theorem pu_flat : ∀ r : List Nat, (pu r).flatten = r
  | [] => rfl
  | [c] => rfl
  | c :: d :: r => by
    unfold pu
    by_cases h : c = 92
    · rw [if_pos h, List.flatten_cons, pu_flat r, h]; rfl
    · rw [if_neg h, List.flatten_cons, pu_flat (d :: r)]; rfl
theorem pu_cons {c : Nat} (h : c ≠ 92) (r : List Nat) : pu (c :: r) = [c] :: pu r := by
  cases r with
  | nil => rfl
  | cons d r => rw [pu, if_neg h]
theorem clo_cons {c : Nat} (h : c ≠ 92) (r : List Nat) : clo (c :: r) = clo r := by
  cases r with
  | nil => simp [clo, h]
  | cons d r => rw [clo, if_neg h]
theorem pu_app : ∀ (x y : List Nat), clo x = true → pu (x ++ y) = pu x ++ pu y
  | [], y, _ => rfl
  | [c], y, h => by
    have hc : c ≠ 92 := by simpa [clo] using h
    rw [List.cons_append, List.nil_append, pu_cons hc]; rfl
  | c :: d :: r, y, h => by
    by_cases hc : c = 92
    · rw [clo, if_pos hc] at h
      rw [List.cons_append, List.cons_append, pu, if_pos hc, pu, if_pos hc, pu_app r y h, List.cons_append]
    · rw [clo, if_neg hc] at h
      rw [List.cons_append, pu_cons hc, pu_cons hc, pu_app (d :: r) y h, List.cons_append]
theorem clo_app : ∀ (x y : List Nat), clo x = true → clo (x ++ y) = clo y
  | [], y, _ => rfl
  | [c], y, h => by
    have hc : c ≠ 92 := by simpa [clo] using h
    rw [List.cons_append, List.nil_append, clo_cons hc]
  | c :: d :: r, y, h => by
    by_cases hc : c = 92
    · rw [clo, if_pos hc] at h
      rw [List.cons_append, List.cons_append, clo, if_pos hc, clo_app r y h]
    · rw [clo, if_neg hc] at h
      rw [List.cons_append, clo_cons hc, clo_app (d :: r) y h]
/-- the quotes taken out: what is out, what is pending since an open quote -/
noncomputable def mStep (x : List Nat × Option (List Nat)) (u : List Nat) : List Nat × Option (List Nat) :=
  match x.2 with
  | none => if u = [34] then (x.1, some [34]) else (x.1 ++ u, none)
  | some p => if u = [34] then (x.1, none) else (x.1, some (p ++ u))
noncomputable def mOut (x : List Nat × Option (List Nat)) : List Nat := x.1 ++ x.2.getD []
theorem mOut_len : ∀ (us : List (List Nat)) (x : List Nat × Option (List Nat)), (mOut (us.foldl mStep x)).length ≤ (mOut x).length + us.flatten.length
  | [], x => by simp
  | u :: us, x => by
    rw [List.foldl_cons, List.flatten_cons, List.length_append]
    have h1 := mOut_len us (mStep x u)
    have h2 : (mOut (mStep x u)).length ≤ (mOut x).length + u.length := by
      obtain ⟨o, p⟩ := x
      cases p with
      | none =>
        simp only [mStep]
        split
        · rename_i q; rw [q]; simp [mOut]
        · simp [mOut]
      | some p =>
        simp only [mStep]
        split
        · simp [mOut]; omega
        · simp [mOut]; omega
    omega
/-- how the strip's state and the machine's stand together -/
noncomputable def Rl (l : List Nat) (n : Nat) (st : Nat × Option Nat × List (List Nat)) (x : List Nat × Option (List Nat)) : Prop :=
  match st.2.1, x.2 with
  | none, none => st.1 ≤ n ∧ x.1 = st.2.2.flatten ++ (l.take n).drop st.1
  | some o, some p => st.1 ≤ o ∧ o ≤ n ∧ x.1 = st.2.2.flatten ++ (l.take o).drop st.1 ∧ p = (l.take n).drop o
  | _, _ => False
theorem take_drop_snoc {l u r : List Nat} {n k : Nat} (hl : l.drop n = u ++ r) (hn : n ≤ l.length) (hk : k ≤ n) : (l.take (n + u.length)).drop k = (l.take n).drop k ++ u := by
  have e : l.take (n + u.length) = l.take n ++ u := by
    rw [List.take_add, hl, List.take_left']
    rfl
  rw [e, List.drop_append_of_le_length (by rw [List.length_take]; omega)]
theorem Rl_step {l u r : List Nat} {n : Nat} {st : Nat × Option Nat × List (List Nat)} {x : List Nat × Option (List Nat)} (h : Rl l n st x) (hl : l.drop n = u ++ r) (hn : n ≤ l.length) (v : Nat × List Nat) (hv : v.2 = u) (hp : v.1 + 1 = n + u.length) (hu : 1 ≤ u.length) :
    Rl l (n + u.length) (stStep l st v) (mStep x u) := by
  obtain ⟨s0, op, res⟩ := st
  obtain ⟨o, p⟩ := x
  obtain ⟨vp, vu⟩ := v
  subst hv
  dsimp only at hl hp hu ⊢
  cases op with
  | none =>
    cases p with
    | some p => exact h.elim
    | none =>
      obtain ⟨h1, h2⟩ := h
      dsimp only at h1 h2
      subst h2
      by_cases q : vu = [34]
      · simp only [stStep, mStep, if_pos q]
        have e1 : vu.length = 1 := by rw [q]; rfl
        have e2 : vp = n := by omega
        subst e2
        refine ⟨h1, by omega, rfl, ?_⟩
        rw [take_drop_snoc hl hn (Nat.le_refl _), q]
        rw [List.drop_eq_nil_of_le (by rw [List.length_take]; omega)]
        rfl
      · simp only [stStep, mStep, if_neg q]
        refine ⟨by dsimp only; omega, ?_⟩
        dsimp only
        rw [take_drop_snoc hl hn h1, List.append_assoc]
  | some oo =>
    cases p with
    | none => exact h.elim
    | some p =>
      obtain ⟨h1, h2, h3, h4⟩ := h
      dsimp only at h1 h2 h3 h4
      subst h3 h4
      by_cases q : vu = [34]
      · simp only [stStep, mStep, if_pos q]
        refine ⟨by dsimp only; omega, ?_⟩
        dsimp only
        rw [hp, List.drop_eq_nil_of_le (as := l.take (n + vu.length)) (by rw [List.length_take]; omega), List.append_nil]
        split
        · rename_i q2
          rw [q2, List.drop_eq_nil_of_le (by rw [List.length_take]; omega), List.append_nil]
        · rw [List.flatten_append, List.flatten_singleton]
      · simp only [stStep, mStep, if_neg q]
        refine ⟨h1, by omega, rfl, ?_⟩
        rw [take_drop_snoc hl hn h2]
theorem Rl_run (l : List Nat) : ∀ (r : List Nat) (n : Nat) (st : Nat × Option Nat × List (List Nat)) (x : List Nat × Option (List Nat)), l.drop n = r → n ≤ l.length → Rl l n st x →
    Rl l l.length ((escGo n false r).foldl (stStep l) st) ((pu r).foldl mStep x)
  | [], n, st, x, hl, hn, h => by
    have : n = l.length := by have := congrArg List.length hl; rw [List.length_drop, List.length_nil] at this; omega
    subst this
    exact h
  | [c], n, st, x, hl, hn, h => by
    have e : l.length = n + 1 := by have := congrArg List.length hl; rw [List.length_drop] at this; simp at this; omega
    have e2 : (escGo n false [c]) = [(n, [c])] := by
      by_cases q : c = 92
      · simp [escGo, q]
      · simp [escGo, q]
    rw [e2, e]
    exact Rl_step h hl hn (n, [c]) rfl rfl (Nat.le_refl _)
  | c :: d :: r, n, st, x, hl, hn, h => by
    by_cases q : c = 92
    · have e2 : escGo n false (c :: d :: r) = (n + 1, [92, d]) :: escGo (n + 2) false r := by simp [escGo, q]
      rw [e2, pu, if_pos q, List.foldl_cons, List.foldl_cons]
      have hlen := congrArg List.length hl
      rw [List.length_drop] at hlen
      simp only [List.length_cons] at hlen
      refine Rl_run l r (n + 2) _ _ ?_ (by omega) ?_
      · rw [← List.drop_drop, hl]; rfl
      · exact Rl_step (u := [92, d]) (r := r) h (by rw [hl, q]; rfl) hn (n + 1, [92, d]) rfl rfl (by simp)
    · have e2 : escGo n false (c :: d :: r) = (n, [c]) :: escGo (n + 1) false (d :: r) := by rw [escGo, if_neg q]
      rw [e2, pu, if_neg q, List.foldl_cons, List.foldl_cons]
      have hlen := congrArg List.length hl
      rw [List.length_drop] at hlen
      simp only [List.length_cons] at hlen
      refine Rl_run l (d :: r) (n + 1) _ _ ?_ (by omega) ?_
      · rw [← List.drop_drop, hl]; rfl
      · exact Rl_step (u := [c]) (r := d :: r) h (by rw [hl]; rfl) hn (n, [c]) rfl rfl (by simp)
theorem no34 : ∀ (us : List (List Nat)) (o : List Nat), (∀ u ∈ us, u ≠ [34]) → us.foldl mStep (o, none) = (o ++ us.flatten, none)
  | [], o, _ => by simp
  | u :: us, o, h => by
    rw [List.foldl_cons]
    have : mStep (o, none) u = (o ++ u, none) := by simp only [mStep]; rw [if_neg (h u (.head _))]
    rw [this, no34 us _ fun v hv => h v (.tail _ hv), List.flatten_cons, List.append_assoc]
theorem stripF_m (l : List Nat) : stripF l = mOut ((pu l).foldl mStep ([], none)) := by
  have h := Rl_run l l 0 (0, none, []) ([], none) rfl (Nat.zero_le _) ⟨Nat.le_refl _, by simp⟩
  unfold stripF
  by_cases q : 34 ∈ l
  · rw [if_pos q]
    unfold stEnd
    generalize (escGo 0 false l).foldl (stStep l) (0, none, []) = st at h
    generalize (pu l).foldl mStep ([], none) = x at h
    obtain ⟨s0, op, res⟩ := st
    obtain ⟨o, p⟩ := x
    have e : ∀ s0, (if s0 < l.length then [l.drop s0] else []).flatten = l.drop s0 := by
      intro s0
      split
      · simp
      · rw [List.drop_eq_nil_of_le (by omega)]; rfl
    cases op with
    | none =>
      cases p with
      | some p => exact h.elim
      | none =>
        obtain ⟨h1, h2⟩ := h
        dsimp only at h1 h2 ⊢
        rw [List.flatten_append, e, h2, List.take_length]
        simp [mOut]
    | some oo =>
      cases p with
      | none => exact h.elim
      | some p =>
        obtain ⟨h1, h2, h3, h4⟩ := h
        dsimp only at h1 h2 h3 h4 ⊢
        rw [List.flatten_append, e, h3, h4, List.take_length]
        simp only [mOut, Option.getD_some, List.append_assoc]
        congr 1
        have e2 : l.drop s0 = (l.take oo).drop s0 ++ l.drop oo := by
          conv => lhs; rw [← List.take_append_drop oo l]
          rw [List.drop_append_of_le_length (by rw [List.length_take]; omega)]
        exact e2
  · rw [if_neg q, no34, pu_flat]
    · simp [mOut]
    · intro u hu e
      apply q
      rw [← pu_flat l]
      exact List.mem_flatten.mpr ⟨u, hu, by rw [e]; exact .head _⟩

end
section
noncomputable def keptF (j : Nat) : List Nat := [[], [], [], [92, 40], [92, 41], [92, 34], [92, 92], [], []].getD j []
theorem lt9 {P : Nat → Prop} (h : P 0 ∧ P 1 ∧ P 2 ∧ P 3 ∧ P 4 ∧ P 5 ∧ P 6 ∧ P 7 ∧ P 8) {a : Nat} (ha : a < 9) : P a := by
  obtain ⟨h0, h1, h2, h3, h4, h5, h6, h7, h8⟩ := h
  match a, ha with
  | 0, _ => exact h0
  | 1, _ => exact h1
  | 2, _ => exact h2
  | 3, _ => exact h3
  | 4, _ => exact h4
  | 5, _ => exact h5
  | 6, _ => exact h6
  | 7, _ => exact h7
  | 8, _ => exact h8
theorem blk_run {a : Nat} (ha : a < 9) : ∀ c : Nat, (c = 40 ∨ c = 41) → ∀ o : List Nat, (pu (c :: menuF a)).foldl mStep (o, none) = (o ++ c :: keptF a, none) := by
  refine lt9 (P := fun a => ∀ c : Nat, (c = 40 ∨ c = 41) → ∀ o : List Nat, (pu (c :: menuF a)).foldl mStep (o, none) = (o ++ c :: keptF a, none)) ⟨?_, ?_, ?_, ?_, ?_, ?_, ?_, ?_, ?_⟩ ha
  all_goals
    rintro c (rfl | rfl) o <;> simp [menuF, keptF, pu, mStep]
theorem blk_clo {a : Nat} (ha : a < 9) : ∀ c : Nat, (c = 40 ∨ c = 41) → clo (c :: menuF a) = true ∧ clo (c :: keptF a) = true ∧ (pu (c :: keptF a)).filter isSg = [[c]] := by
  refine lt9 (P := fun a => ∀ c : Nat, (c = 40 ∨ c = 41) → clo (c :: menuF a) = true ∧ clo (c :: keptF a) = true ∧ (pu (c :: keptF a)).filter isSg = [[c]]) ⟨?_, ?_, ?_, ?_, ?_, ?_, ?_, ?_, ?_⟩ ha
  all_goals
    rintro c (rfl | rfl) <;> decide
theorem menuF_len {a : Nat} (ha : a < 9) : (menuF a).length ≤ 7 := lt9 (P := fun a => (menuF a).length ≤ 7) (by decide) ha
theorem endF_len {j : Nat} (hj : j < 4) : (endF j).1.length ≤ 1 ∧ (endF j).2.length ≤ 1 := by
  match j, hj with
  | 0, _ => decide
  | 1, _ => decide
  | 2, _ => decide
  | 3, _ => decide
theorem hid_get {a b : Nat} (ha : a < 9) (hb : b < 9) (i : Nat) : ∃ x, x < 9 ∧ (hidF a b).getD (i % 5) [] = menuF x := by
  have h : i % 5 < 5 := Nat.mod_lt _ (by decide)
  generalize i % 5 = y at h
  match y, h with
  | 0, _ => exact ⟨a, ha, rfl⟩
  | 1, _ => exact ⟨0, by decide, rfl⟩
  | 2, _ => exact ⟨b, hb, rfl⟩
  | 3, _ => exact ⟨0, by decide, rfl⟩
  | 4, _ => exact ⟨0, by decide, rfl⟩
theorem body_inv {a b : Nat} (ha : a < 9) (hb : b < 9) (l : List Nat) (hl : ∀ c ∈ l, c = 40 ∨ c = 41) : ∀ n, n ≤ l.length → clo (bodyL (hidF a b) l n).flatten = true ∧ (bodyL (hidF a b) l n).flatten.length ≤ 8 * n ∧
    ∃ o, (pu (bodyL (hidF a b) l n).flatten).foldl mStep ([], none) = (o, none) ∧ clo o = true ∧ (pu o).filter isSg = (l.take n).map fun c => [c]
  | 0, _ => ⟨rfl, by simp [bodyL], [], rfl, rfl, by simp [pu]⟩
  | n + 1, h => by
    obtain ⟨h1, hlen, o, h2, h3, h4⟩ := body_inv ha hb l hl n (by omega)
    obtain ⟨x, hx, ex⟩ := hid_get ha hb n
    have hc : l.getD n 0 = 40 ∨ l.getD n 0 = 41 := hl _ (by rw [List.getD_eq_getElem?_getD, List.getElem?_eq_getElem (by omega)]; exact List.getElem_mem _)
    obtain ⟨b1, b2, b3⟩ := blk_clo hx _ hc
    have b4 := blk_run hx _ hc o
    have ml := menuF_len hx
    rw [bodyL, ex, List.flatten_append, List.flatten_singleton, take_snocD 0 l (by omega)]
    refine ⟨by rw [clo_app _ _ h1]; exact b1, by rw [List.length_append, List.length_cons]; omega, o ++ l.getD n 0 :: keptF x, ?_, ?_, ?_⟩
    · rw [pu_app _ _ h1, List.foldl_append, h2, b4]
    · rw [clo_app _ _ h3, b2]
    · rw [pu_app _ _ h3, List.filter_append, h4, b3, List.map_append]; rfl
theorem end_run {j : Nat} (hj : j < 4) : ∀ c : Nat, (c = 40 ∨ c = 41) → ∀ o : List Nat, ∃ t, mOut ((pu ((endF j).1 ++ [c] ++ (endF j).2)).foldl mStep (o, none)) = o ++ t ∧ (pu t).filter isSg = [[c]] := by
  match j, hj with
  | 0, _ => rintro c (rfl | rfl) o <;> exact ⟨[_], by simp [endF, pu, mStep, mOut]; rfl, by decide⟩
  | 1, _ => rintro c (rfl | rfl) o <;> exact ⟨[34, _], by simp [endF, pu, mStep, mOut]; rfl, by decide⟩
  | 2, _ => rintro c (rfl | rfl) o <;> exact ⟨[_, 34], by simp [endF, pu, mStep, mOut]; rfl, by decide⟩
  | 3, _ => rintro c (rfl | rfl) o <;> exact ⟨[34, _, 92], by simp [endF, pu, mStep, mOut]; rfl, by decide⟩
theorem text_sg {a b j : Nat} (ha : a < 9) (hb : b < 9) (hj : j < 4) (l : List Nat) (hl : ∀ c ∈ l, c = 40 ∨ c = 41) (hne : l ≠ []) : sgF (stripF (textF l (hidF a b) (endF j).1 (endF j).2)) = l.map fun c => [c] := by
  have hlp : 1 ≤ l.length := List.length_pos_iff.mpr hne
  obtain ⟨h1, _, o, h2, h3, h4⟩ := body_inv ha hb (l.take (l.length - 1)) (fun c hc => hl c (List.mem_of_mem_take hc)) (l.length - 1) (by rw [List.length_take]; omega)
  have hd : l.drop (l.length - 1) = [l.getD (l.length - 1) 0] := by
    rw [drop_cons 0 (by omega), show l.length - 1 + 1 = l.length from by omega, List.drop_length]
  have hc : l.getD (l.length - 1) 0 = 40 ∨ l.getD (l.length - 1) 0 = 41 := hl _ (by rw [List.getD_eq_getElem?_getD, List.getElem?_eq_getElem (by omega)]; exact List.getElem_mem _)
  obtain ⟨t, e1, e2⟩ := end_run hj _ hc o
  have e3 : stripF (textF l (hidF a b) (endF j).1 (endF j).2) = o ++ t := by
    rw [stripF_m]
    unfold textF
    rw [hd, List.append_assoc, List.append_assoc, pu_app _ _ h1, List.foldl_append, h2, ← List.append_assoc, e1]
  unfold sgF
  rw [escGo_pu, e3, pu_app _ _ h3, List.filter_append, h4, e2, List.take_of_length_le (by rw [List.length_take]; omega)]
  conv => rhs; rw [← List.take_append_drop (l.length - 1) l, List.map_append, hd]
  rfl
theorem text_len {a b j : Nat} (ha : a < 9) (hb : b < 9) (hj : j < 4) (l : List Nat) (hl : ∀ c ∈ l, c = 40 ∨ c = 41) (hn : l.length ≤ 25) : (textF l (hidF a b) (endF j).1 (endF j).2).length ≤ 250 ∧ (stripF (textF l (hidF a b) (endF j).1 (endF j).2)).length ≤ 250 := by
  obtain ⟨_, h1, _⟩ := body_inv ha hb (l.take (l.length - 1)) (fun c hc => hl c (List.mem_of_mem_take hc)) (l.length - 1) (by rw [List.length_take]; omega)
  obtain ⟨h2, h3⟩ := endF_len hj
  have h4 : (textF l (hidF a b) (endF j).1 (endF j).2).length ≤ 250 := by
    unfold textF
    rw [List.length_append, List.length_append, List.length_append, List.length_drop]
    omega
  refine ⟨h4, ?_⟩
  rw [stripF_m]
  have h5 := mOut_len (pu (textF l (hidF a b) (endF j).1 (endF j).2)) ([], none)
  rw [pu_flat] at h5
  have h6 : (mOut ([], none)).length = 0 := rfl
  omega
noncomputable def ckW : List Nat → Int → Bool
  | [], o => decide (o = 0)
  | c :: r, o => if c = 40 then ckW r (o + 1) else if o - 1 < 0 then false else ckW r (o - 1)
theorem ckGo_sg : ∀ (us : List (Nat × List Nat)) (n : Int) (w : List Nat), (us.map (·.2)).filter isSg = w.map (fun c => [c]) → ckGo us n = ckW w n
  | [], n, w, h => by
    cases w with
    | nil => rfl
    | cons c w => simp at h
  | u :: us, n, w, h => by
    rw [List.map_cons, List.filter_cons] at h
    unfold ckGo
    by_cases q : u.2 = [40]
    · rw [if_pos (by rw [q]; decide)] at h
      rw [if_pos q]
      cases w with
      | nil => simp at h
      | cons c w =>
        rw [List.map_cons, List.cons.injEq, q] at h
        have hc : c = 40 := by have := h.1; simp at this; exact this.symm
        rw [ckW, if_pos hc, ckGo_sg us _ w h.2]
    · rw [if_neg q]
      by_cases q2 : u.2 = [41]
      · rw [if_pos (by rw [q2]; decide)] at h
        rw [if_pos q2]
        cases w with
        | nil => simp at h
        | cons c w =>
          rw [List.map_cons, List.cons.injEq, q2] at h
          have hc : c = 41 := by have := h.1; simp at this; exact this.symm
          rw [ckGo_sg us _ w h.2, hc]; rfl
      · rw [if_neg (by simp [isSg, q, q2])] at h
        rw [if_neg q2]
        exact ckGo_sg us n w h
theorem text_check {a b j : Nat} (ha : a < 9) (hb : b < 9) (hj : j < 4) (l : List Nat) (hl : ∀ c ∈ l, c = 40 ∨ c = 41) (hne : l ≠ []) : checkF (textF l (hidF a b) (endF j).1 (endF j).2) = ckW l 0 :=
  ckGo_sg _ _ _ (text_sg ha hb hj l hl hne)

end
section
/-- the pairs within -/
noncomputable def posU (m : Nat) (z : Int) : List Int := (cellsF m).filter fun one => decide (z / 10 ≤ one / 10 ∧ one % 10 ≤ z % 10 ∧ one ≠ z)
noncomputable def idealsL (m : Nat) : List (List Int) := if m = 4 then [[], [34], [23], [23, 34], [23, 24, 34], [12], [12, 34], [12, 23], [12, 23, 34], [12, 23, 24, 34], [12, 13, 23], [12, 13, 23, 34], [12, 13, 23, 24, 34], [12, 13, 14, 23, 24, 34]]
  else [[], [45], [34], [34, 45], [34, 35, 45], [23], [23, 45], [23, 34], [23, 34, 45], [23, 34, 35, 45], [23, 24, 34], [23, 24, 34, 45], [23, 24, 34, 35, 45], [23, 24, 25, 34, 35, 45], [12], [12, 45], [12, 34], [12, 34, 45], [12, 34, 35, 45], [12, 23], [12, 23, 45], [12, 23, 34], [12, 23, 34, 45], [12, 23, 34, 35, 45], [12, 23, 24, 34], [12, 23, 24, 34, 45], [12, 23, 24, 34, 35, 45], [12, 23, 24, 25, 34, 35, 45], [12, 13, 23], [12, 13, 23, 45], [12, 13, 23, 34], [12, 13, 23, 34, 45], [12, 13, 23, 34, 35, 45], [12, 13, 23, 24, 34], [12, 13, 23, 24, 34, 45], [12, 13, 23, 24, 34, 35, 45], [12, 13, 23, 24, 25, 34, 35, 45], [12, 13, 14, 23, 24, 34], [12, 13, 14, 23, 24, 34, 45], [12, 13, 14, 23, 24, 34, 35, 45], [12, 13, 14, 23, 24, 25, 34, 35, 45], [12, 13, 14, 15, 23, 24, 25, 34, 35, 45]]
noncomputable def ordsL (m : Nat) : List (List Int) := if m = 4 then [[12, 23, 34, 13, 24, 14], [12, 23, 13, 34, 24, 14], [34, 23, 12, 24, 13, 14]]
  else [[12, 23, 13, 34, 24, 45, 14, 35, 25, 15], [12, 23, 13, 34, 24, 14, 45, 35, 25, 15], [12, 23, 34, 45, 13, 24, 35, 14, 25, 15], [12, 23, 34, 13, 45, 24, 35, 14, 25, 15], [45, 34, 23, 12, 35, 24, 13, 25, 14, 15]]
theorem cfg_under : ∀ c ∈ cfgs, ∀ z ∈ cellsF c.1, underF c.1 c.2.1 c.2.2.1 c.2.2.2 z = posU c.1 z := by decide +kernel
theorem cfg_heq : ∀ c ∈ cfgs, (cellsF c.1).map (fun z => ((posU c.1 z).length : Int)) = ((cellsF c.1).map stepV).map halfV := by decide +kernel
theorem steps_bound : ∀ m ∈ [4, 5], ∀ z ∈ (cellsF m).map stepV, 0 ≤ z ∧ z ≤ 10 := by decide +kernel
theorem cfg_il : ∀ c ∈ cfgs, ∀ t ∈ [(1 : Int), 2, 3], (cellsF c.1).map (fun z => ilF (txtOf c.1 c.2.1 c.2.2.1 c.2.2.2 z) t) = (cellsF c.1).map fun z => colF t (leadOf c.1 c.2.1 c.2.2.1 c.2.2.2 z) := by decide +kernel
theorem cfg_ord : ∀ c ∈ cfgs, ∀ t ∈ [(1 : Int), 2, 3], ∀ b ∈ [true, false], ordK (fun z => ilF (txtOf c.1 c.2.1 c.2.2.1 c.2.2.2 z) t) b (cellsF c.1) ∈ ordsL c.1 := by decide +kernel

end
section
noncomputable def rowF (m : Nat) (hs : List Int) : List Int := togs (posU m) (overF m (posU m)) ((ordsL m).getD 0 []) hs
noncomputable def rowIt (m : Nat) (hs : List Int) : Nat → List Int
  | 0 => hs
  | n + 1 => rowF m (rowIt m hs n)
noncomputable def valW (m : Nat) (hs : List Int) : Int := valF ((lawWord hs m).map fun c => [c])
noncomputable def totW (m : Nat) (hs : List Int) : Nat → Int
  | 0 => 0
  | n + 1 => totW m hs n + valW m (rowIt m hs n)
theorem id_small : ∀ m ∈ [4, 5], ∀ hs ∈ idealsL m, hs.length ≤ 10 ∧ ∀ z ∈ hs, 12 ≤ z ∧ z ≤ 45 := by decide +kernel
theorem id_word : ∀ m ∈ [4, 5], ∀ hs ∈ idealsL m, (lawWord hs m).length = 2 * m ∧ ∀ c ∈ lawWord hs m, c = 40 ∨ c = 41 := by decide +kernel
theorem id_pair : ∀ m ∈ [4, 5], ∀ hs ∈ idealsL m, ∀ p ∈ List.range (2 * m), 1 ≤ p → (pairF (lawWord hs m) p).length ≤ 25 ∧ pairF (lawWord hs m) p ≠ [] ∧ (∀ c ∈ pairF (lawWord hs m) p, c = 40 ∨ c = 41) ∧ ckW (pairF (lawWord hs m) p) 0 = decide ((p : Int) ∈ spotsF (posU m) m hs) := by decide +kernel
theorem id_ins : ∀ m ∈ [4, 5], ∀ hs ∈ idealsL m, ∀ z ∈ cellsF m, z ∉ hs → freeIn (posU m) hs z = true → insAt hs (bis (ltL hs z) hs.length 0 hs.length) z ∈ idealsL m := by decide +kernel
theorem id_row : ∀ m ∈ [4, 5], ∀ hs ∈ idealsL m, rowF m hs ∈ idealsL m := by decide +kernel
theorem id_ord : ∀ m ∈ [4, 5], ∀ ord ∈ ordsL m, ∀ hs ∈ idealsL m, togs (posU m) (overF m (posU m)) ord hs = rowF m hs := by decide +kernel
theorem id_end : ∀ m ∈ [4, 5], ∀ hs ∈ idealsL m, rowIt m hs m = isort (hs.map (mirF m)) ∧ totW m hs m = ((m : Int) * ((m : Int) - 1)).fdiv 2 := by decide +kernel

end
section
theorem mem45 {m : Nat} (h : m = 4 ∨ m = 5) : m ∈ [4, 5] := by rcases h with rfl | rfl <;> decide
theorem t123 {t : Int} (h : 1 ≤ t ∧ t ≤ 3) : t ∈ [(1 : Int), 2, 3] := by
  have : t = 1 ∨ t = 2 ∨ t = 3 := by omega
  rcases this with rfl | rfl | rfl <;> decide
theorem ordOf_in {m j r : Nat} {K : Int} (hc : (m, K, j, r) ∈ cfgs) (d0 : Int) (n : Nat) : ordOf m (txtOf m K j r) d0 n ∈ ordsL m :=
  cfg_ord _ hc (szF d0 n) (t123 (szF_bound d0 n)) (decide (n % 2 = 0)) (by cases decide (n % 2 = 0) <;> decide)
theorem rowIt_in {m : Nat} (hm : m = 4 ∨ m = 5) {hs : List Int} (h : hs ∈ idealsL m) : ∀ n, rowIt m hs n ∈ idealsL m
  | 0 => h
  | n + 1 => id_row m (mem45 hm) _ (rowIt_in hm h n)
theorem hsAt_row {m j r : Nat} {K : Int} (hm : m = 4 ∨ m = 5) (hc : (m, K, j, r) ∈ cfgs) (d0 : Int) {hs : List Int} (h : hs ∈ idealsL m) : ∀ n, hsAt m (posU m) (overF m (posU m)) (txtOf m K j r) d0 hs n = rowIt m hs n
  | 0 => rfl
  | n + 1 => by
    rw [hsAt, hsAt_row hm hc d0 h n, rowIt]
    exact id_ord m (mem45 hm) _ (ordOf_in hc d0 n) _ (rowIt_in hm h n)
theorem word_ne {m : Nat} (hm : m = 4 ∨ m = 5) {hs : List Int} (h : hs ∈ idealsL m) : lawWord hs m ≠ [] := by
  intro e
  have h1 := (id_word m (mem45 hm) hs h).1
  rw [e, List.length_nil] at h1; omega
theorem valOf_val {m a b j : Nat} (hm : m = 4 ∨ m = 5) (ha : a < 9) (hb : b < 9) (hj : j < 4) {hs : List Int} (h : hs ∈ idealsL m) : valOf m (hidF a b) (endF j).1 (endF j).2 hs = valW m hs := by
  unfold valOf valW
  rw [text_sg ha hb hj _ (id_word m (mem45 hm) hs h).2 (word_ne hm h)]
theorem totAt_tot {m j r a b e : Nat} {K : Int} (hm : m = 4 ∨ m = 5) (hc : (m, K, j, r) ∈ cfgs) (ha : a < 9) (hb : b < 9) (he : e < 4) (d0 : Int) {hs : List Int} (h : hs ∈ idealsL m) :
    ∀ n, totAt m (posU m) (overF m (posU m)) (txtOf m K j r) d0 (hidF a b) (endF e).1 (endF e).2 hs n = totW m hs n
  | 0 => rfl
  | n + 1 => by
    rw [totAt, totAt_tot hm hc ha hb he d0 h n, hsAt_row hm hc d0 h n, totW, valOf_val hm ha hb he (rowIt_in hm h n)]
theorem law_len {m j r a b e : Nat} {K : Int} (hm : m = 4 ∨ m = 5) (hc : (m, K, j, r) ∈ cfgs) (ha : a < 9) (hb : b < 9) (he : e < 4) (d0 : Int) {hs : List Int} (h : hs ∈ idealsL m) (n : Nat) :
    (hsAt m (posU m) (overF m (posU m)) (txtOf m K j r) d0 hs n).length ≤ 50 ∧ (lawWord (hsAt m (posU m) (overF m (posU m)) (txtOf m K j r) d0 hs n) m).length ≤ 100 ∧
      (textF (lawWord (hsAt m (posU m) (overF m (posU m)) (txtOf m K j r) d0 hs n) m) (hidF a b) (endF e).1 (endF e).2).length ≤ 250 ∧ (stripF (textF (lawWord (hsAt m (posU m) (overF m (posU m)) (txtOf m K j r) d0 hs n) m) (hidF a b) (endF e).1 (endF e).2)).length ≤ 250 := by
  rw [hsAt_row hm hc d0 h n]
  have h1 := rowIt_in hm h n
  have h2 := id_small m (mem45 hm) _ h1
  have h3 := id_word m (mem45 hm) _ h1
  have h4 := text_len ha hb he _ h3.2 (by omega)
  exact ⟨by omega, by omega, h4.1, h4.2⟩
theorem law_end {m j r : Nat} {K : Int} (hm : m = 4 ∨ m = 5) (hc : (m, K, j, r) ∈ cfgs) (d0 : Int) {hs : List Int} (h : hs ∈ idealsL m) : hsAt m (posU m) (overF m (posU m)) (txtOf m K j r) d0 hs m = isort (hs.map (mirF m)) := by
  rw [hsAt_row hm hc d0 h m]
  exact (id_end m (mem45 hm) hs h).1
theorem law_tot {m j r a b e : Nat} {K : Int} (hm : m = 4 ∨ m = 5) (hc : (m, K, j, r) ∈ cfgs) (ha : a < 9) (hb : b < 9) (he : e < 4) (d0 : Int) {hs : List Int} (h : hs ∈ idealsL m) :
    totAt m (posU m) (overF m (posU m)) (txtOf m K j r) d0 (hidF a b) (endF e).1 (endF e).2 hs m = ((m : Int) * ((m : Int) - 1)).fdiv 2 := by
  rw [totAt_tot hm hc ha hb he d0 h m]
  exact (id_end m (mem45 hm) hs h).2
theorem law_pair {m a b e : Nat} (hm : m = 4 ∨ m = 5) (ha : a < 9) (hb : b < 9) (he : e < 4) {hs : List Int} (h : hs ∈ idealsL m) (p : Nat) (h1 : 1 ≤ p) (h2 : p < 2 * m) :
    ((pairF (lawWord hs m) p).length ≤ 100 ∧ (textF (pairF (lawWord hs m) p) (hidF a b) (endF e).1 (endF e).2).length ≤ 250) ∧
      checkF (textF (pairF (lawWord hs m) p) (hidF a b) (endF e).1 (endF e).2) = decide ((p : Int) ∈ spotsF (posU m) m hs) := by
  obtain ⟨q1, q2, q3, q4⟩ := id_pair m (mem45 hm) hs h p (List.mem_range.mpr h2) h1
  refine ⟨⟨by omega, (text_len ha hb he _ q3 q1).1⟩, ?_⟩
  rw [text_check ha hb he _ q3 q2, q4]
theorem hidF_ok {a b : Nat} (ha : a < 9) (hb : b < 9) : (hidF a b).length = 5 ∧ ∀ x ∈ hidF a b, x.length ≤ 20 := by
  refine ⟨rfl, ?_⟩
  have h1 := menuF_len ha
  have h2 := menuF_len hb
  intro x hx
  simp only [hidF, List.mem_cons, List.not_mem_nil, or_false] at hx
  rcases hx with rfl | rfl | rfl | rfl | rfl
  all_goals first | omega | simp
/-- what st15's loop keeps -/
noncomputable def HInv (m : Nat) (ys : List Int) (i : Nat) (hs : List Int) : Prop := hs ∈ idealsL m ∧ ∀ x ∈ hs, x ∈ ys.take i
theorem HInv.start {m : Nat} (hm : m = 4 ∨ m = 5) (ys : List Int) : HInv m ys 0 [] := ⟨by rcases hm with rfl | rfl <;> decide, fun _ h => nomatch h⟩
theorem HInv.len {m : Nat} (hm : m = 4 ∨ m = 5) {ys : List Int} {i : Nat} {hs : List Int} (h : HInv m ys i hs) : hs.length ≤ 100 := by
  have := (id_small m (mem45 hm) hs h.1).1; omega
theorem HInv.keep {m : Nat} {ys : List Int} {i : Nat} {hs : List Int} (h : HInv m ys i hs) : HInv m ys (i + 1) hs :=
  ⟨h.1, fun x hx => by
    have h1 := h.2 x hx
    rw [List.mem_take_iff_getElem] at h1 ⊢
    obtain ⟨k, hk, e⟩ := h1
    exact ⟨k, by omega, e⟩⟩
theorem insAt_mem {xs : List Int} {k : Nat} {z v : Int} (h : v ∈ insAt xs k z) : v ∈ xs ∨ v = z := by
  unfold insAt at h
  simp only [List.mem_append, List.mem_cons] at h
  rcases h with h | h | h
  · exact .inl (List.mem_of_mem_take h)
  · exact .inr h
  · exact .inl (List.mem_of_mem_drop h)
theorem HInv.step {m : Nat} (hm : m = 4 ∨ m = 5) {ys : List Int} {i : Nat} {hs : List Int} (hp : ys.Perm (cellsF m)) (hi : i < ys.length) (h : HInv m ys i hs) (hf : freeIn (posU m) hs (ys.getD i 0) = true) :
    HInv m ys (i + 1) (insAt hs (bis (ltL hs (ys.getD i 0)) hs.length 0 hs.length) (ys.getD i 0)) := by
  have hnd : ys.Nodup := (hp.nodup_iff).mpr (cells_nodup m)
  have hnot : ys.getD i 0 ∉ hs := fun q => take_notin hnd hi (h.2 _ q)
  refine ⟨id_ins m (mem45 hm) hs h.1 _ (hp.mem_iff.mp (getD_mem' hi)) hnot hf, fun x hx => ?_⟩
  rcases insAt_mem hx with hx | rfl
  · exact (h.keep).2 x hx
  · rw [take_snocD 0 ys hi]
    exact List.mem_append_right _ (.head _)

end
section
structure FnFc (hB : Heap) (a c : Addr) (name qual : Str) (params : Arguments) (body : List Stmt) (sc : Scope) (dV kV : Value) : Prop where
  ex : ∃ oc od osl doc pm an ct, hB.get? a = some ⟨oc, od, .func (fnX name qual params body sc [] dV kV doc pm an (.ref c) ct), osl⟩ ∧ hB.CodeRec (.ref c) qual
section
variable {prog : Program} {w : World} {A : Around} {E : Value → Shared → Prop} {s : Shared} {hB : Heap} {oB : OsState} {G : Array GenState} {ob rest : Ledger}
theorem r_fnCc {c : Addr} {n : Nat} {a : Addr} {name qual : Str} {params : Arguments} {body : List Stmt} {sc : Scope} {dV kV : Value} {vals : List Value} {Q : Value → Shared → Prop}
    (f : FnFc hB a c name qual params body sc dV kV) (lim : hB.NoLimit) (ps : Ps) (pn locs cns gs : List Str) (lo : Lo) (cells : (Str → Addr) → List (Str × Addr)) (led : (Str → Addr) → Ledger) (hsc : scOkC sc locs cns gs pn = true)
    (hbind : ∀ doc pm an cdv ct, bindArgs (fnX name qual params body sc [] dV kV doc pm an cdv ct) ⟨vals, []⟩ = pure ps.binds)
    (rm : Rm (n + 1) A) (h : H hB oB G ob s)
    (k : ∀ L (f : Str → Addr) env A' E' s', Rm n A' → Ev env L locs (cells f) gs → (∀ x ∈ cns, env.kindOf x = some .cell) → env.code = .ref c → H hB oB G ((L, nsp locs lo) :: (led f ++ ob)) s' →
      wpAny (model prog w) A' (execs body env) (fun f s'' => Q (match f with | .ret v => v | _ => .none) s'') E' s')
    (e1 : lo.map (·.1) = locs) (e2 : ∀ p ∈ lo, p.2 = none ∨ ∃ q ∈ ps, q.1 = p.1 ∧ p.2 = some q.2.1)
    (e3 : ∀ f, cns.map (fun x => (x, f x)) = cells f := by intro _; rfl) (e4 : ∀ f, cns.map (fun x => (f x, celp ((ps.lookup x).map (·.1)))) = led f := by intro _; rfl) (e5 : ps.map (·.1) = pn := by rfl) :
    wpAny (model prog w) A (call (.ref a) vals) Q E s := by
  subst e5
  obtain ⟨oc, od, osl, doc, pm, an, ct, ho, hcd⟩ := f.ex
  have hsc' := hsc
  simp only [scOkC, Bool.and_eq_true, List.all_eq_true, Bool.not_eq_true', beq_iff_eq, decide_eq_true_eq, bne_iff_ne, Bool.or_eq_true, List.contains_iff_mem] at hsc'
  obtain ⟨⟨⟨⟨⟨⟨⟨⟨⟨h1, h2⟩, h3⟩, h4⟩, h5⟩, h6⟩, h7⟩, h8⟩, h9⟩, h10⟩ := hsc'
  have hpn : ps.binds.map (·.1) = ps.map (·.1) := by simp [Ps.binds, List.map_map, Function.comp_def]
  have hcell : ∀ N x, x ∈ cns → ((cellsFrom N sc.names []).lookup x).isSome = true := fun N x hx => lookup_isSome (by
    rw [cellsFrom_keys sc.names N 0 [] [] rfl]; exact (h7 x hx).1.1.2)
  refine wpAny_call (codeAny_call_cells rm.lt (h.keep _ _ ho) rfl (lim.keeps h.keep) (hcd.keeps h.keep) rfl (hbind _ _ _ _ _) rfl (fun x hx => ?_) (fun s₁ x => ?_) h2 h3 h1)
  · have hm : x.1 ∈ ps.map (·.1) := hpn ▸ List.mem_map.mpr ⟨x, hx, rfl⟩
    rcases h9 x.1 hm with q | q
    · exact .inl (h4 _ q).1
    · exact .inr ⟨(h7 _ q).1.1.1, hcell _ _ q⟩
  · generalize hfd : fnX name qual params body sc [] dV kV doc pm an (.ref c) ct = fd at x
    have hkd : ∀ y, (callEnvC fd s.heap.objs.size a).kindOf y = sc.names.lookup y := fun y => by rw [← hfd]; rfl
    have hL : (callEnvC fd s.heap.objs.size a).locals = s.heap.objs.size := rfl
    have hcs : (callEnvC fd s.heap.objs.size a).cells = cellsFrom (s.heap.objs.size + 1) sc.names [] := by rw [← hfd]; rfl
    let f : Str → Addr := fun y => ((callEnvC fd s.heap.objs.size a).cells.lookup y).getD 0
    have hf : ∀ y ∈ cns, (callEnvC fd s.heap.objs.size a).cells.lookup y = some (f y) := fun y hy => by
      have := hcell (s.heap.objs.size + 1) y hy
      rw [← hcs] at this
      obtain ⟨c, hc⟩ := Option.isSome_iff_exists.mp this
      show _ = some (((callEnvC fd s.heap.objs.size a).cells.lookup y).getD 0)
      rw [hc]; rfl
    refine k s.heap.objs.size f _ _ _ _ rm.deeper ⟨?_, rfl, ?_, ?_, fun y hy => ⟨by rw [hkd]; exact (h4 y hy).1, (h4 y hy).2⟩, fun p hp => ?_, fun y hy => ⟨by rw [hkd]; exact (h5 y hy).1, (h5 y hy).2⟩, ?_⟩ (fun y hy => by rw [hkd]; exact (h7 y hy).1.1.1) (by rw [← hfd]; rfl) ?_
    · rw [← hfd]; exact h1
    · rw [← hfd]; rfl
    · rw [← hfd]; rfl
    · rw [← e3 f] at hp
      obtain ⟨y, hy, rfl⟩ := List.mem_map.mp hp
      exact ⟨.inl (by rw [hkd]; exact (h7 y hy).1.1.1), hf y hy, (h7 y hy).1.2, (h7 y hy).2⟩
    · rw [← hfd]; exact int_of_kind h1
    · have hfresh := fresh_at s.heap
      rw [← e4 f]
      have hk0 : H hB oB G ob s₁ := by
        obtain ⟨h', tk, rfl, hk⟩ := x.toInCall.done
        exact h.of hk
      have hcf : ∀ y ∈ cns, s.heap.get? (f y) = none := fun y hy => fresh_ge _ (Nat.le_of_lt (by have := x.above y (f y) (PySem.mem_of_lookup (hf y hy)); rw [hL] at this; exact this))
      have hnb : ∀ b, s.heap.get? b = none → hB.get? b = none ∧ ∀ p ∈ ob, p.1 ≠ b := fun b hb => h.fresh hb
      refine ⟨hk0.keep, hk0.os, hk0.gens, fun p hp => ?_, ?_, fun p hp => ?_⟩
      · rcases List.mem_cons.mp hp with rfl | hp
        · obtain ⟨o, es, ep, q1, q2, q3, q4⟩ := x.toInCall.ns
          refine ⟨o, q1, e1, h6, es, ep, q2, q3, fun y v hm => ?_⟩
          rcases e2 _ hm with q | ⟨⟨z, av, t⟩, hz, rfl, q⟩
          · cases q
          · cases q
            refine ⟨t, ?_⟩
            rw [q4]
            exact bindL_mem _ _ _ _ _ (hpn ▸ h10) (List.mem_map.mpr ⟨_, hz, rfl⟩) (by rw [hkd]; exact (h4 z (e1 ▸ List.mem_map.mpr ⟨_, hm, rfl⟩)).1)
        · rcases List.mem_append.mp hp with hp | hp
          · obtain ⟨y, hy, rfl⟩ := List.mem_map.mp hp
            obtain ⟨o, ho2, hd⟩ := x.cell y (f y) (hf y hy)
            refine ⟨o, ho2, _, hd, fun av hav => ?_⟩
            cases el : ps.lookup y with
            | none => rw [el] at hav; cases hav
            | some q =>
              rw [el] at hav
              cases hav
              refine ⟨q.2, bindC_mem _ _ _ _ _ (hpn ▸ h10) (List.mem_map.mpr ⟨(y, q), PySem.mem_of_lookup el, rfl⟩) (by rw [hkd, (h7 y hy).1.1.1]; decide)⟩
          · exact hk0.at' p hp
      · rw [List.map_cons, List.map_append]
        refine List.nodup_cons.mpr ⟨fun hm => ?_, List.nodup_append.mpr ⟨?_, hk0.nodup, fun b hb c hc e => ?_⟩⟩
        · rcases List.mem_append.mp hm with hm | hm
          · obtain ⟨p, hp, e⟩ := List.mem_map.mp hm
            obtain ⟨y, hy, rfl⟩ := List.mem_map.mp hp
            have := x.above y (f y) (PySem.mem_of_lookup (hf y hy))
            rw [hL] at this
            exact absurd e (Nat.ne_of_gt this)
          · obtain ⟨p, hp, e⟩ := List.mem_map.mp hm
            exact (hnb _ hfresh).2 p hp e
        · rw [List.map_map]
          refine (List.pairwise_map).mpr (h8.imp_of_mem fun {y z} hy hz hne e => hne ?_)
          exact name_of_addr x.apart (PySem.mem_of_lookup (hf y hy)) (by have e : f y = f z := e; rw [e]; exact PySem.mem_of_lookup (hf z hz))
        · obtain ⟨p, hp, rfl⟩ := List.mem_map.mp hb
          obtain ⟨y, hy, rfl⟩ := List.mem_map.mp hp
          obtain ⟨q, hq, rfl⟩ := List.mem_map.mp hc
          exact (hnb _ (hcf y hy)).2 q hq e.symm
      · rcases List.mem_cons.mp hp with rfl | hp
        · exact (hnb _ hfresh).1
        · rcases List.mem_append.mp hp with hp | hp
          · obtain ⟨y, hy, rfl⟩ := List.mem_map.mp hp
            exact (hnb _ (hcf y hy)).1
          · exact hk0.new p hp
end

end
section
theorem lawBody_eq : fnBody (top 19) = [lawSt 0, lawSt 1, lawSt 2, lawSt 3, lawSt 4, lawSt 5, lawSt 6, lawSt 7, lawSt 8, lawSt 9, lawSt 10, lawSt 11, lawSt 12, lawSt 13, lawSt 14, lawSt 15, lawSt 16, lawSt 17, lawSt 18, lawSt 19, lawSt 20, lawSt 21, lawSt 22, lawSt 23, lawSt 24, lawSt 25, lawSt 26] := by with_unfolding_all rfl
noncomputable abbrev loN (sc dr ov : AV) (me hi : Option AV) : Lo := [("script", some sc), ("drawn", some dr), ("cell", none), ("over", some ov), ("steps", none), ("place", none), ("menu", me), ("hidden", hi), ("ends", none), ("word", none), ("crowd", none), ("spots", none), ("p", none), ("begin", none), ("total", none), ("turn", none), ("order", none), ("read", none)]
structure LawB (prog : Program) (w : World) (hB : Heap) (mN : Str → Option Value) : Prop where
  lim : hB.NoLimit
  B : LamBase hB 186 184
  fn : FnFc hB 187 186 "law" "law" (fnParams (top 19)) (fnBody (top 19)) (fnScope (top 19)) .none .none
  C : WsM prog w hB mN
  F : TxtFns hB
  I : InsFns hB
  fcol : FnCol hB 151
  flead : FnLead hB
  fword : FnWord hB
  ftog : FnToggle hB
  gen : Glob hB "enumerate" (.type "enumerate")
  gsum : Glob hB "sum" (.builtin "sum")
  gtup : Glob hB "tuple" (.type "tuple")
  gmax : Glob hB "max" (.builtin "max")
  gsor : Glob hB "sorted" (.builtin "sorted")
  glist : Glob hB "list" (.type "list")
  gWs : Glob hB "Whitespace" (.ref 140)
  glead : Glob hB "_law_lead" (.ref 158)
  gcol : Glob hB "_law_column" (.ref 151)
  gword : Glob hB "_law_word" (.ref 165)
  gtog : Glob hB "_law_toggle" (.ref 182)
noncomputable abbrev lawCns : List Str := ["nums", "many", "kind", "front", "rear", "cells", "leads", "spaces", "under", "tab", "held", "size", "signs"]
noncomputable abbrev loA (sc : AV) (dr ov st : Option AV) : Lo := [("script", some sc), ("drawn", dr), ("cell", none), ("over", ov), ("steps", st), ("place", none), ("menu", none), ("hidden", none), ("ends", none), ("word", none), ("crowd", none), ("spots", none), ("p", none), ("begin", none), ("total", none), ("turn", none), ("order", none), ("read", none)]
theorem Put.uniq {x : Str} {v : AV} : ∀ {lo a b : Lo}, (lo.map (·.1)).Nodup → Put x v lo a → Put x v lo b → a = b
  | _, _, _, _, .here, .here => rfl
  | _, _, _, n, .here, .there h => absurd h.key (List.nodup_cons.mp n).1
  | _, _, _, n, .there h, .here => absurd h.key (List.nodup_cons.mp n).1
  | _, _, _, n, .there h, .there h2 => by rw [Put.uniq (List.nodup_cons.mp n).2 h h2]
theorem nodL {sc : AV} {x1 x2 x3 x4 x5 x6 x7 x8 x9 x10 x11 x12 x13 x14 x15 x16 x17 : Option AV} : (([("script", some sc), ("drawn", x1), ("cell", x2), ("over", x3), ("steps", x4), ("place", x5), ("menu", x6), ("hidden", x7), ("ends", x8), ("word", x9), ("crowd", x10), ("spots", x11), ("p", x12), ("begin", x13), ("total", x14), ("turn", x15), ("order", x16), ("read", x17)] : Lo).map (·.1)).Nodup := by
  show lawLocs.Nodup
  decide +kernel
theorem LdInv.congr {U V : Int → List Int} {zs : List Int} {kv : List (Int × AV)} {X : Ledger} (h : LdInv U zs kv X) (e : ∀ z ∈ zs, U z = V z) : LdInv V zs kv X :=
  ⟨h.keys, fun z av hm => by
    obtain ⟨l, q, hl⟩ := h.ls z av hm
    have hz : z ∈ zs := by rw [← h.keys]; exact List.mem_map.mpr ⟨_, hm, rfl⟩
    exact ⟨l, q, by rw [← e z hz]; exact hl⟩⟩
section
variable {prog : Program} {w : World} {A : Around} {E : Value → Shared → Prop} {s : Shared} {hB : Heap} {oB : OsState} {G : Array GenState} {ob : Ledger} {mN : Str → Option Value}
set_option maxHeartbeats 4000000 in
theorem sp_law {l : Addr} {vs : List Value} {zs : List Int} {Q : Value → Shared → Prop} (LB : LawB prog w hB mN) (hL : hB.IsList l vs.toArray) (hI : IntsAre vs zs) (hz : zs.length ≤ 63) (rm : Rm 10 A) (hb : Bare G)
    (h : H hB oB G [(184, tabP [(lp1, none), (lp2, none), (lp3, none)])] s)
    (k : ∀ G' ob' s', Bare G' → (184, tabP []) ∈ ob' → H hB oB G' ob' s' → Q (.bool true) s') : wpAny (model prog w) A (call (.ref 187) [.ref l]) Q E s := by
  obtain ⟨lim, B, fn, C, F, I, fcol, flead, fword, ftog, gen, gsum, gtup, gmax, gsor, glist, gWs, glead, gcol, gword, gtog⟩ := LB
  refine r_fnCc fn lim [("script", .ref l, 0)] ["script"] lawLocs lawCns lawGs (loA (.ref l) none none none) lawCl
    (fun f => [(f "nums", celp none), (f "many", celp none), (f "kind", celp none), (f "front", celp none), (f "rear", celp none), (f "cells", celp none), (f "leads", celp none), (f "spaces", celp none), (f "under", celp none), (f "tab", celp none), (f "held", celp none), (f "size", celp none), (f "signs", celp none)])
    (by decide +kernel) (fun _ _ _ _ _ => by with_unfolding_all rfl) rm h ?_ rfl (by simp)
  clear h
  intro L f env A' E' s₁ rm' hev hck hcode h
  have he : LawEnv env L f := ⟨hev, fun x hx => hck x (by simpa using hx)⟩
  obtain ⟨X, hX⟩ : ∃ X : Nat → Stmt, ∀ i, X i = lawSt i := ⟨lawSt, fun _ => rfl⟩
  rw [lawBody_eq]
  simp only [← hX]
  simp only [List.cons_append, List.nil_append] at h
  refine wpAny_execs_cons (st0 (hX 0) he hL hI hz h .here (.head _) (by exact ‹1›) fun an s h => ?_)
  have hnl : (pickL zs none (some 60) none).length ≤ 63 := Nat.le_trans (pickL_len _ _ _ _) hz
  generalize pickL zs none (some 60) none = nz at h hnl
  refine wpAny_execs_cons (st1 (hX 1) (lo := loA (.ref l) none none none) he gen gsum (rm'.le (by decide)) hnl h (by exact ‹1›) .here (.there .here) (fun v => ⟨_, by exact ‹7›⟩) fun dr lo' s hp h => ?_)
  obtain rfl := Put.uniq nodL hp (show Put "drawn" _ _ (loA (.ref l) (some (.ref dr)) none none) by exact ‹7›)
  clear hp
  have hd0 := drawnV_bound nz 0 41 hnl (by decide)
  generalize drawnV nz 0 41 = d0 at h hd0
  generalize drawnV nz 1 9 = d1 at h
  generalize drawnV nz 2 296 = d2 at h
  refine wpAny_execs_cons (st2 (hX 2) he F.gl hnl h (by exact ‹1›) (by exact ‹1›) (by exact ‹1›) fun m hm s h => ?_)
  refine wpAny_execs_cons (st3 (hX 3) (lo := loA (.ref l) (some (.ref dr)) none none) he h (by exact ‹1›) (by exact ‹1›) (by exact ‹2›) (by exact ‹1›) (by exact ‹1›) fun K hK s h => ?_)
  refine wpAny_execs_cons (st4 (hX 4) (lo := loA (.ref l) (some (.ref dr)) none none) he h (by exact ‹1›) (by exact ‹1›) (by exact ‹2›) (by exact ‹1›) (by exact ‹1›) ⟨hd0.1, hd0.2.1⟩ fun j hj s h => ?_)
  refine wpAny_execs_cons (st5 (hX 5) (lo := loA (.ref l) (some (.ref dr)) none none) he h (by exact ‹1›) (by exact ‹2›) (by exact ‹1›) (by exact ‹1›) ⟨hd0.1, hd0.2.1⟩ fun r hr s h => ?_)
  have hc : (m, K, j, r) ∈ cfgs := cfgs_mem hm hK hj hr
  refine wpAny_execs_cons (st6 (hX 6) he F.gr hm (rm'.le (by decide)) h (by exact ‹1›) (by exact ‹1›) fun ac s h => ?_)
  refine wpAny_execs_cons (st7 (hX 7) he hc flead lim glead (rm'.le (by decide)) h (by exact ‹1›) (by exact ‹1›) (by exact ‹1›) (by exact ‹1›) (by exact ‹1›) (by exact ‹1›) (by exact ‹1›) fun Dl s h => ?_)
  refine wpAny_execs_cons (st8 (hX 8) he hc C lim gWs F.gl gtup (rm'.le (by decide)) h (by exact ‹1›) (by exact ‹1›) (by exact ‹1›) (by exact ‹1›) (by exact ‹1›) fun S0 kvS X1 s hS h => ?_)
  simp only [List.cons_append, List.nil_append] at h
  refine wpAny_execs_cons (st9 (hX 9) he hc C lim F.gl gmax F.gr (rm'.le (by decide)) h .here (.there .here) (hS.mono fun p hp => by repeat (first | exact hp | apply List.mem_cons_of_mem)) (by exact ‹1›) (by exact ‹1›) (by exact ‹1›) fun Du kvU X2 s hU h => ?_)
  simp only [List.cons_append, List.nil_append] at h
  have hU : LdInv (posU m) (cellsF m) kvU X2 := hU.congr fun z hz => cfg_under _ hc z hz
  refine wpAny_execs_cons (st10 (hX 10) (lo := loA (.ref l) (some (.ref dr)) none none) he (rm'.le (by decide)) h (by exact ‹1›) (fun v => ⟨_, by exact ‹7›⟩) .here (.there .here) (hU.mono fun p hp => by repeat (first | exact hp | exact List.mem_append_right _ hp | apply List.mem_cons_of_mem)) (by exact ‹1›) (by exact ‹1›) fun Do kvO X3 lo' s hp hO h => ?_)
  obtain rfl := Put.uniq nodL hp (show Put "over" _ _ (loA (.ref l) (some (.ref dr)) (some (.ref Do)) none) by exact ‹7›)
  clear hp
  simp only [List.cons_append, List.nil_append] at h
  have hS : SpInv (txtOf m K j r) (cellsF m) kvS (X1 ++ X2 ++ X3) := hS.mono fun p hp => List.mem_append_left _ (List.mem_append_left _ hp)
  have hU : LdInv (posU m) (cellsF m) kvU (X1 ++ X2 ++ X3) := hU.mono fun p hp => List.mem_append_left _ (List.mem_append_right _ hp)
  have hO : LdInv (overF m (posU m)) (cellsF m) kvO (X1 ++ X2 ++ X3) := hO.mono fun p hp => List.mem_append_right _ hp
  generalize X1 ++ X2 ++ X3 = XX at h hS hU hO
  clear hI hL
  refine wpAny_execs_cons (st11 (hX 11) (lo := loA (.ref l) (some (.ref dr)) (some (.ref Do)) none) he (rm'.le (by decide)) h .here (fun v => ⟨_, by exact ‹7›⟩) (by exact ‹1›) (by exact ‹1›) fun St lo' s hp h => ?_)
  obtain rfl := Put.uniq nodL hp (show Put "steps" _ _ (loA (.ref l) (some (.ref dr)) (some (.ref Do)) (some (.ref St))) by exact ‹7›)
  clear hp
  have hUl : ∀ z ∈ cellsF m, (posU m z).length ≤ 100 := fun z hz => Nat.le_trans (List.length_filter_le _ _) (Nat.le_trans (cells_len m) (by decide))
  have hOl : ∀ z ∈ cellsF m, (overF m (posU m) z).length ≤ 100 := fun z hz => Nat.le_trans (List.length_filter_le _ _) (Nat.le_trans (cells_len m) (by decide))
  refine wpAny_execs_cons (st12 (hX 12) (lo := loA (.ref l) (some (.ref dr)) (some (.ref Do)) (some (.ref St))) he F.gl (rm'.le (by decide)) h .here (by exact ‹2›) (.there .here) (by exact ‹1›) (by exact ‹1›) (hU.mono fun p hp => by repeat (first | exact hp | apply List.mem_cons_of_mem)) hUl (by exact ‹1›) (by exact ‹1›) (steps_bound m (mem45 hm)) (cfg_heq _ hc) fun s h => ?_)
  have h := h.sub (ob' := (f "tab", celp none) :: (L, nsp lawLocs (loA (.ref l) (some (.ref dr)) (some (.ref Do)) none)) :: (184, tabP [(lp1, none), (lp2, none), (lp3, none)]) :: (f "held", celp none) :: (f "size", celp none) :: (f "signs", celp none) :: (f "spaces", celp (some (.ref S0))) :: (S0, dic kvS) :: (f "leads", celp (some (.ref Dl))) :: (Dl, dic (kvOf (cellsF m) fun z => .str (S (leadOf m K j r z)))) :: (f "cells", celp (some (.ref ac))) :: (ac, lst ((cellsF m).map .int)) :: (f "many", celp (some (.int m))) :: (dr, lst [.int d0, .int d1, .int d2]) :: (f "under", celp (some (.ref Du))) :: (Du, dic kvU) :: (Do, dic kvO) :: XX) (by exact ‹12›)
  refine wpAny_execs_cons (st13 (hX 13) he hc C fcol lim F.gl F.gr gcol (rm'.le (by decide)) h (by exact ‹1›) (by exact ‹1›) (hS.mono fun p hp => by repeat (first | exact hp | apply List.mem_cons_of_mem)) (by exact ‹1›) (by exact ‹1›) (by exact ‹1›) (by exact ‹1›) .here (fun t t1 t2 => cfg_il _ hc t (t123 ⟨t1, t2⟩)) fun s h => ?_)
  refine wpAny_execs_cons (st14 (hX 14) he h (by exact ‹1›) fun ah s h => ?_)
  have h := h.sub (ob' := (L, nsp lawLocs (loL (.ref l) (.ref dr) (.ref Do) none none none none none none none)) :: (184, tabP [(lp1, none), (lp2, none), (lp3, none)]) :: (ah, lst []) :: (f "held", celp (some (.ref ah))) :: (f "size", celp none) :: (f "signs", celp none) :: (f "spaces", celp (some (.ref S0))) :: (S0, dic kvS) :: (f "cells", celp (some (.ref ac))) :: (ac, lst ((cellsF m).map .int)) :: (f "many", celp (some (.int m))) :: (dr, lst [.int d0, .int d1, .int d2]) :: (f "under", celp (some (.ref Du))) :: (Du, dic kvU) :: (Do, dic kvO) :: XX) (by exact ‹12›)
  refine wpAny_execs_cons (st15 (hX 15) he B hcode lim F.ge gsor I.gil I.il I.bl I.gl I.gbl (rm'.le (by decide)) h (by exact ‹1›) .here (by exact ‹1›) (by exact ‹1›) (hU.mono fun p hp => by repeat (first | exact hp | apply List.mem_cons_of_mem)) hUl (by exact ‹1›) (by exact ‹1›)
    (HInv m) (HInv.start hm) (fun _ _ _ q => q.len hm) (fun _ _ _ q => q.keep) (fun _ _ _ p hi q hf => q.step hm p hi hf) fun ys hs s _ hI h => ?_)
  have hid := hI.1
  clear hI
  refine wpAny_execs_cons (st16 (hX 16) (lo := loL (.ref l) (.ref dr) (.ref Do) none none none none none none none) he h .here (fun v => ⟨_, by exact ‹7›⟩) fun T lo' s hp h => ?_)
  obtain rfl := Put.uniq nodL hp (show Put "menu" _ _ (loN (.ref l) (.ref dr) (.ref Do) (some (.ref T)) none) by exact ‹7›)
  clear hp
  refine wpAny_execs_cons (st17 (hX 17) (lo := loN (.ref l) (.ref dr) (.ref Do) (some (.ref T)) none) he h .here (by exact ‹2›) (by exact ‹2›) (by exact ‹1›) (.there .here) (fun v => ⟨_, by exact ‹7›⟩) fun p q hd lo' s hpa hqb hp h => ?_)
  obtain rfl := Put.uniq (by show lawLocs.Nodup; decide +kernel) hp (show Put "hidden" _ _ (loN (.ref l) (.ref dr) (.ref Do) (some (.ref T)) (some (.ref hd))) by exact ‹7›)
  clear hp
  have h := h.sub (ob' := (L, nsp lawLocs (loL (.ref l) (.ref dr) (.ref Do) (some (.ref hd)) none none none none none none)) :: (184, tabP [(lp2, none), (lp3, none)]) :: (ah, lst (hs.map .int)) :: (f "size", celp none) :: (f "signs", celp none) :: (f "held", celp (some (.ref ah))) :: (f "spaces", celp (some (.ref S0))) :: (S0, dic kvS) :: (f "cells", celp (some (.ref ac))) :: (ac, lst ((cellsF m).map .int)) :: (f "many", celp (some (.int m))) :: (dr, lst [.int d0, .int d1, .int d2]) :: (f "under", celp (some (.ref Du))) :: (Du, dic kvU) :: (Do, dic kvO) :: (hd, lst (((hidF p q).map S).map .str)) :: XX) (by exact ‹12›)
  refine wpAny_execs_cons (st18 (hX 18) (lo := loL (.ref l) (.ref dr) (.ref Do) (some (.ref hd)) none none none none none none) he h .here (by exact ‹2›) (by exact ‹1›) (fun v => ⟨_, by exact ‹7›⟩) fun e en lo' s hee hp h => ?_)
  obtain rfl := Put.uniq nodL hp (show Put "ends" _ _ (loL (.ref l) (.ref dr) (.ref Do) (some (.ref hd)) (some (.ref en)) none none none none none) by exact ‹7›)
  clear hp
  have hsm := id_small m (mem45 hm) hs hid
  have hwd := id_word m (mem45 hm) hs hid
  refine wpAny_execs_cons (st19 (hX 19) (lo := loL (.ref l) (.ref dr) (.ref Do) (some (.ref hd)) (some (.ref en)) none none none none none) he fword I.bl I.br lim I.gl I.gr I.gbl I.gbr gword (rm'.le (by decide)) hm h .here (by exact ‹1›) (by exact ‹1›) (by exact ‹1›) (by omega) (fun v => ⟨_, by exact ‹7›⟩) fun lo' s hp h => ?_)
  obtain rfl := Put.uniq nodL hp (show Put "word" _ _ (loL (.ref l) (.ref dr) (.ref Do) (some (.ref hd)) (some (.ref en)) (some (.str (S (lawWord hs m)))) none none none none) by exact ‹7›)
  clear hp
  refine wpAny_execs_cons (st20 (hX 20) (lo := loL (.ref l) (.ref dr) (.ref Do) (some (.ref hd)) (some (.ref en)) (some (.str (S (lawWord hs m)))) none none none none) he (rm'.le (by decide)) h .here (by exact ‹1›) (by exact ‹1›) (by omega) (by exact ‹1›) (by exact ‹1›) (hU.mono fun p hp => by repeat (first | exact hp | apply List.mem_cons_of_mem)) hUl (by exact ‹1›) (by exact ‹1›) (fun v => ⟨_, by exact ‹7›⟩) fun cr lo' s hp h => ?_)
  obtain rfl := Put.uniq nodL hp (show Put "crowd" _ _ (loL (.ref l) (.ref dr) (.ref Do) (some (.ref hd)) (some (.ref en)) (some (.str (S (lawWord hs m)))) (some (.ref cr)) none none none) by exact ‹7›)
  clear hp
  refine wpAny_execs_cons (st21 (hX 21) (lo := loL (.ref l) (.ref dr) (.ref Do) (some (.ref hd)) (some (.ref en)) (some (.str (S (lawWord hs m)))) (some (.ref cr)) none none none) he (rm'.le (by decide)) h .here (by exact ‹2›) (.there .here) (fun v => ⟨_, by exact ‹7›⟩) fun sp lo' s hp h => ?_)
  obtain rfl := Put.uniq nodL hp (show Put "spots" _ _ (loL (.ref l) (.ref dr) (.ref Do) (some (.ref hd)) (some (.ref en)) (some (.str (S (lawWord hs m)))) (some (.ref cr)) (some (.ref sp)) none none) by exact ‹7›)
  clear hp
  obtain ⟨hid5, hidl⟩ := hidF_ok hpa hqb
  obtain ⟨he0, he1⟩ := endF_len hee
  refine wpAny_execs_cons (st22 (hX 22) he F (rm'.le (by decide)) hm hb h (by exact ‹1›) (by exact ‹1›) (by exact ‹1›) .here hwd.1 hid5 hidl (by omega) (by omega) (fun y y1 y2 => (law_pair hm hpa hqb hee hid y y1 y2).1) (fun y y1 y2 => (law_pair hm hpa hqb hee hid y y1 y2).2) fun G2 s hb2 h => ?_)
  refine wpAny_execs_cons (st23 (hX 23) he rm'.h glist h (by exact ‹1›) (by exact ‹1›) (by omega) fun b s h => ?_)
  have h := h.sub (ob' := (L, nsp lawLocs (loL (.ref l) (.ref dr) (.ref Do) (some (.ref hd)) (some (.ref en)) (some (.str (S (lawWord hs m)))) (some (.ref cr)) (some (.ref sp)) (some (.ref b)) (some (.int 0)))) :: (184, tabP [(lp2, none), (lp3, none)]) :: (ah, lst (hs.map .int)) :: (f "size", celp none) :: (f "signs", celp none) :: (b, lst (hs.map .int)) :: (en, tup [.str (S (endF e).1), .str (S (endF e).2)]) :: (f "held", celp (some (.ref ah))) :: (f "spaces", celp (some (.ref S0))) :: (S0, dic kvS) :: (f "cells", celp (some (.ref ac))) :: (ac, lst ((cellsF m).map .int)) :: (f "many", celp (some (.int m))) :: (dr, lst [.int d0, .int d1, .int d2]) :: (f "under", celp (some (.ref Du))) :: (Du, dic kvU) :: (Do, dic kvO) :: (hd, lst (((hidF p q).map S).map .str)) :: XX) (by exact ‹12›)
  refine wpAny_execs_cons (st24 (hX 24) he B hcode C F I fword ftog gword gtog (rm'.le (by decide)) hm hb2 h (by exact ‹1›) (by exact ‹1›) (by exact ‹1›) (by exact ‹1›) (by exact ‹1›) (by exact ‹1›) (by exact ‹1›) (by exact ‹1›) (by exact ‹1›) (hS.mono fun p hp => by repeat (first | exact hp | apply List.mem_cons_of_mem)) (fun z hz => txt_len hc hz)
    (by exact ‹1›) (by exact ‹1›) (hU.mono fun p hp => by repeat (first | exact hp | apply List.mem_cons_of_mem)) hUl (by exact ‹1›) (hO.mono fun p hp => by repeat (first | exact hp | apply List.mem_cons_of_mem)) hOl hid5 hidl (by omega) (by omega) (fun n _ => law_len hm hc hpa hqb hee d0 hid n) fun G3 s h hb3 => ?_)
  rw [law_end hm hc d0 hid, law_tot hm hc hpa hqb hee d0 hid] at h
  refine wpAny_execs_cons (st25 (hX 25) he hm h (by exact ‹1›) rfl fun s h => ?_)
  refine wpAny_execs_cons (st26 (hX 26) he gsor (rm'.le (by decide)) hm h (by exact ‹1›) (by exact ‹1›) .here (by exact ‹1›) (by omega) hsm.2 rfl fun s h => ?_)
  exact k G3 _ s hb3 (.tail _ (.tail _ (.head _))) h
end

end
end Mine
namespace Mine
open PySem
theorem strKeys_of {es : Array DictEntry} (h : es.toList.all (fun e => match e.key with | .str _ _ => true | _ => false) = true) : StrKeys es := by
  intro e he
  have h1 := List.all_eq_true.mp h e (by simpa using he)
  cases q : e.key with
  | str n t => exact ⟨n, t, rfl⟩
  | _ => rw [q] at h1; cases h1
end Mine
open PySem PySem.Calls PySem.W PyProof.Rows
set_option maxRecDepth 100000 in
set_option maxHeartbeats 0 in
theorem PySem.Challenge.cw_rs0208_01_holds : PySem.Challenge.rw_rs0208_01.Holds := by
  refine holds_law Mine.head_said fun said => ?_
  refine holds_open (q := Mine.headQ) (loose := Mine.headL) (Xt := fun s => xlAt Mine.headQ [] s && recOk Mine.law0.row.records s) (XP := XL Mine.headQ []) (Yf := Hook.obs Mine.headH) (Ya := Hook.val Mine.headH) (YP := Hook.says Mine.headH) (N := 2180) Mine.head_left (Hook.of Mine.headH) (Hook.keeps Mine.headH) (fun s e => xl_of s (Bool.and_eq_true_iff.mp e).1) XL.keeps (by rfl) (by rfl) (by rfl) (fun s e => recFacts_of (Bool.and_eq_true_iff.mp e).2) (by rfl) said (by decide +kernel) ⟨rfl, rfl, rfl, rfl, rfl, by decide +kernel⟩ ⟨[.list []], by decide +kernel, by decide +kernel⟩ ?_
  intro w s₀ s₁ mg mb G Y fa o pm cd doc dV kV ho hd hcd hD hmg hg args vals as hpre hlay hrd hwl hlo
  have KX := km_in_of Y
  have hT8 := km_tabs_of Y
  have X := (Ground.X G).1
  have V := (Ground.X G).2
  refine Ground.open G ?_
  intro T B D TE TW
  try (refine guard_noD D (by decide +kernel) ?_; clear D)
  have hT9 : TabsAt [(186, 184)] s₁.heap := List.forall_mem_cons.mpr ⟨⟨codeHd_of_K (c := 186) (P := 184) KX (by kernel_rfl), hT8 184 (.head _)⟩, fun _ h => nomatch h⟩
  have he9 : cd = PySem.Value.ref 186 := law_code (x := "law") (c := 186) (P := 184) KX (Top.g T) (by kernel_rfl) hmg ho hd
  subst he9
  have hfa : fa = 187 := by
    have := mg_of (v := .ref 187) KX T.g (n := "law") (by with_unfolding_all rfl)
    rw [hmg] at this
    exact Value.ref.inj (Option.some.inj this)
  clear hmg
  have LB : ∃ mN, Mine.LawB PySem.Challenge.rw_rs0208_01.row.prog w (ghostOf s₁.heap [(186, 184)]) mN := by
    have hK2 := ghost_K hT9 KX (by with_unfolding_all rfl)
    have hg2 := ghost_ns hT9 T.g
    have hb2 := ghost_ns hT9 T.b
    have lim2 : (ghostOf s₁.heap [(186, 184)]).NoLimit := let ⟨mc, a, r⟩ := T.nolimit; ⟨mc, ghost_ns hT9 a, r⟩
    have gB : ∀ {x : Str} {v : Value}, nsIn _ mainGlobals x = some none → x ≠ "__name__" → bootBuiltins x = some v → Mine.Glob (ghostOf s₁.heap [(186, 184)]) x v := fun e1 e2 e3 => ⟨mg, hg2, .inr ⟨mg_none_of KX T.g e1, mb, hb2, (T.builtins _ e2).trans e3⟩⟩
    have gF : ∀ {x : Str} {v : Value}, nsIn _ mainGlobals x = some (some v) → Mine.Glob (ghostOf s₁.heap [(186, 184)]) x v := fun e => ⟨mg, hg2, .inl (mg_of KX T.g e)⟩
    have fF : ∀ {a c : Addr} {name qual : Str} {params : Arguments} {body : List Stmt} {sc : Scope} {dV kV : Value} {oc od osl doc pm an ct} {oo : Obj} {vs t}, _ = some (⟨oc, od, .func (fnX name qual params body sc [] dV kV doc pm an (.ref c) ct), osl⟩ : Obj) → _ = some oo → oo.data = .fields vs → vs[1]? = some (.str qual t) → Mine.FnF (ghostOf s₁.heap [(186, 184)]) a name qual params body sc dV kV :=
      fun {a c name qual params body sc dV kV oc od osl doc pm an ct oo vs t} e1 e2 e3 e4 => ⟨_, _, _, _, _, _, _, _, hK2 a _ e1, ⟨c, _, _, _, rfl, hK2 c _ e2, e3, e4⟩⟩
    have bA : (ghostOf s₁.heap [(186, 184)]).BuiltinsAt mg 184 := by
      obtain ⟨bm, ob, a1, a2, a3, a4, r⟩ := T.bmain
      have e : bm = _ := Value.ref.inj (Option.some.inj (a1.symm.trans (mg_of KX T.g (n := "__builtins__") (by with_unfolding_all rfl))))
      refine ⟨bm, ob, a1, a2, ?_, ?_, ghost_get hT9 a3 (fun q => by rw [q] at a4; cases a4), a4, r⟩
      · rw [e]; decide +kernel
      · rw [e]; decide +kernel
    have C : ∃ mN, Mine.WsM PySem.Challenge.rw_rs0208_01.row.prog w (ghostOf s₁.heap [(186, 184)]) mN := by
      have keyv : ∀ {name : Str} {v mc : Value}, readsIn _ 140 mc = true → findCls _ (.ref 140) mc name = some (.val v) → handedIn v = true → Mine.ClsVal PySem.Challenge.rw_rs0208_01.row.prog w (ghostOf s₁.heap [(186, 184)]) 140 name v := fun e1 e2 e3 => ⟨fun A E s Q expr hk q => cls_value (hK2.keeps hk) e1 e2 e3 q⟩
      refine ⟨_, ⟨⟨⟨⟨_, _, _, _, _, _, _, _, _, _, _, _, hK2 140 _ (by with_unfolding_all rfl)⟩, ⟨_, _, _, hK2 139 _ (by with_unfolding_all rfl), rfl, ?_, fun _ => rfl⟩⟩, ?_, ?_, ?_, ?_, ?_, ?_, ?_, ?_, ?_, ⟨_, keyv (mc := .type "type") (by with_unfolding_all rfl) (by with_unfolding_all rfl) rfl⟩, ⟨_, keyv (mc := .type "type") (by with_unfolding_all rfl) (by with_unfolding_all rfl) rfl⟩, ?_, ?_⟩, ?_, ?_, ?_, ?_, ?_, ?_, ?_, ?_, ?_⟩⟩
      · exact Mine.strKeys_of (by with_unfolding_all rfl)
      iterate 9 (with_unfolding_all rfl)
      · exact fF (by with_unfolding_all rfl) (by with_unfolding_all rfl) rfl rfl
      · exact ⟨_, hK2 95 _ (by with_unfolding_all rfl), rfl⟩
      iterate 3 (with_unfolding_all rfl)
      · exact fF (by with_unfolding_all rfl) (by with_unfolding_all rfl) rfl rfl
      · exact ⟨_, hK2 102 _ (by with_unfolding_all rfl), rfl⟩
      · exact fF (by with_unfolding_all rfl) (by with_unfolding_all rfl) rfl rfl
      · exact ⟨_, hK2 109 _ (by with_unfolding_all rfl), rfl⟩
      · exact fF (by with_unfolding_all rfl) (by with_unfolding_all rfl) rfl rfl
      · exact ⟨_, hK2 130 _ (by with_unfolding_all rfl), rfl⟩
    obtain ⟨mN, C⟩ := C
    refine ⟨mN, lim2, ⟨⟨mg, hg2, bA⟩, (ghost_code hT9).1⟩, ⟨_, _, _, _, _, _, _, hK2 187 _ (by with_unfolding_all rfl), ⟨186, _, _, _, rfl, hK2 186 _ (by with_unfolding_all rfl), rfl, rfl⟩⟩, C, ?_, ?_, ?_, ?_, ?_, ?_, ?_, ?_, ?_, ?_, ?_, ?_, ?_, ?_, ?_, ?_, ?_⟩
    · refine ⟨lim2, ?_, ?_, ?_, ?_, ?_, ?_, ?_, ?_, ?_, ?_, ?_, ?_, ?_⟩
      · exact fF (by with_unfolding_all rfl) (by with_unfolding_all rfl) rfl rfl
      · exact fF (by with_unfolding_all rfl) (by with_unfolding_all rfl) rfl rfl
      · exact fF (by with_unfolding_all rfl) (by with_unfolding_all rfl) rfl rfl
      · exact fF (by with_unfolding_all rfl) (by with_unfolding_all rfl) rfl rfl
      · exact fF (by with_unfolding_all rfl) (by with_unfolding_all rfl) rfl rfl
      · exact gB (by with_unfolding_all rfl) (by decide +kernel) (by with_unfolding_all rfl)
      · exact gB (by with_unfolding_all rfl) (by decide +kernel) (by with_unfolding_all rfl)
      · exact gB (by with_unfolding_all rfl) (by decide +kernel) (by with_unfolding_all rfl)
      iterate 5 exact gF (by with_unfolding_all rfl)
    · have fD : ∀ {a T D : Addr} {name : Str} {params : Arguments} {body : List Stmt} {sc : Scope} {t u : Tok} {hs : Int}, Mine.FnF (ghostOf s₁.heap [(186, 184)]) a name name params body sc (.ref T) (.ref D) → _ = some _ → _ = some _ → Mine.FnD (ghostOf s₁.heap [(186, 184)]) a T D name params body sc :=
        fun {a T D name params body sc t u hs} e1 e2 e3 => ⟨e1, t, u, hs, hK2 T _ e2, hK2 D _ e3⟩
      refine ⟨lim2, ?_, ?_, ?_, ?_, ?_, ?_, ?_, ?_, ?_, ?_⟩
      iterate 4 exact fD (fF (by with_unfolding_all rfl) (by with_unfolding_all rfl) rfl rfl) (by with_unfolding_all rfl) (by with_unfolding_all rfl)
      · exact gB (by with_unfolding_all rfl) (by decide +kernel) (by with_unfolding_all rfl)
      · exact gB (by with_unfolding_all rfl) (by decide +kernel) (by with_unfolding_all rfl)
      iterate 4 exact gF (by with_unfolding_all rfl)
    iterate 4 exact fF (by with_unfolding_all rfl) (by with_unfolding_all rfl) rfl rfl
    iterate 6 exact gB (by with_unfolding_all rfl) (by decide +kernel) (by with_unfolding_all rfl)
    iterate 5 exact gF (by with_unfolding_all rfl)
  obtain ⟨mN, LB⟩ := LB
  have hH : Mine.H (ghostOf s₁.heap [(186, 184)]) s₁.os s₁.gens [(184, Mine.tabP [(Mine.lp1, none), (Mine.lp2, none), (Mine.lp3, none)])] s₁ := by
    refine ⟨fun b o e => of_hideAll _ e, rfl, rfl, fun p hp => ?_, by simp, fun p hp => ?_⟩
    · cases List.mem_singleton.mp hp
      refine ⟨_, (hT9 _ (.head _)).2, #[], rfl, trivial, fun q hq => ?_⟩
      simp only [List.mem_cons, List.not_mem_nil, or_false] at hq
      rcases hq with rfl | rfl | rfl <;> rfl
    · cases List.mem_singleton.mp hp
      exact hideAll_none _ (.head _)
  have hbare : Mine.Bare s₁.gens := by rw [hg]; intro y hy; simp at hy
  subst hfa
  wrow_args hpre hlay hrd hwl hlo
  refine Mine.sp_law LB (ghost_list hT9 (by assumption)) (by assumption) (by omega) ⟨rfl, by decide, by decide⟩ hbare hH (fun G' ob' s' hb' hm hH' => ?_)
  refine ⟨.inl ⟨_, _, [], rfl, fun _ => rfl, ReadsW.bool true, ?_, fun _ => ⟨List.nodup_nil, fun _ hm => nomatch hm⟩⟩, ?_, hH'.os, by rw [hH'.gens]; exact hb'⟩
  · first | rfl | wrow_post
  · obtain ⟨o', ho', ps, e', _⟩ := hH'.at' _ hm
    have hps : s'.heap.get? 184 = some (tabObj ps) := by rw [← e']; exact ho'
    have h184 := hT9 (186, 184) (.head _)
    refine ⟨fun b o e => ?_, fun b o e => ?_⟩
    · by_cases hb : b = 184
      · subst hb
        rw [h184.2] at e
        cases e
        exact .inr (.inl ⟨(h184.1.tab h184.2).isCodeTable, rfl, #[], ps, rfl, by rw [Array.empty_append]; exact hps⟩)
      · exact .inl (hH'.keep b o (ghost_ne e (by simpa using hb)))
    · by_cases hb : b = 184
      · subst hb; exact ⟨_, hps⟩
      · exact ⟨o, hH'.keep b o (ghost_ne e (by simpa using hb))⟩
