import PyProof.Rows.All
import Wide.All
import OpenK.AllK
import Wide.FinOn
import PySem.Challenge.RW_oc0086_01
open PySem PySem.W PyProof.Rows
set_option Elab.async false
set_option maxRecDepth 100000
set_option maxHeartbeats 8000000
-- the head
namespace Mine
open_top hd for PySem.Challenge.rw_oc0086_01
end Mine
open PySem.Calls
namespace Mine
section
abbrev NoE : Value → Shared → Prop := fun _ _ => False
abbrev At (g : Shared) (h : Heap) (tk : Nat) : Shared := { g with heap := h, toks := tk }
abbrev lO (vs : List Value) (n : Nat) : Obj := { cls := .type "list", data := .seq vs.toArray n }
abbrev tO (vs : List Value) (n : Nat) : Obj := { cls := .type "tuple", data := .seq vs.toArray n }
abbrev Kept (h h' : Heap) : Prop := ∀ b o, h.get? b = some o → h'.get? b = some o

/-- the frame L holds the names of l; the ledger news holds; addresses are distinct -/
structure Wd (h₀ : Heap) (L : Addr) (l : List (Str × Value)) (news : List (Addr × Obj)) (h : Heap) : Prop where
  fr : ∃ m, Fr h₀ L h m ∧ ∀ x v, l.lookup x = some v → m x = some v
  nw : News h₀ L h news
  nd : (news.map (·.1)).Nodup

section
variable {h₀ h h' : Heap} {L : Addr} {l l' : List (Str × Value)} {news news' : List (Addr × Obj)}

theorem Wd.kept (w : Wd h₀ L l news h) : Kept h₀ h := by obtain ⟨m, F, _⟩ := w.fr; exact F.keep
theorem Wd.get (w : Wd h₀ L l news h) {a : Addr} {o : Obj} (hm : (a, o) ∈ news) : h.get? a = some o := (w.nw _ hm).1
theorem Wd.geti (w : Wd h₀ L l news h) (i : Nat) {a : Addr} {o : Obj} (hi : news[i]? = some (a, o)) : h.get? a = some o := w.get (List.mem_of_getElem? hi)
theorem Wd.old (w : Wd h₀ L l news h) {a : Addr} {o : Obj} (e : h₀.get? a = some o) : h.get? a = some o := w.kept a o e

theorem Wd.keep (w : Wd h₀ L l news h) (hk : Kept h h') : Wd h₀ L l news h' := by
  obtain ⟨m, F, hl⟩ := w.fr
  exact ⟨⟨m, ⟨F.ns.at' fun o e => hk _ o e, fun b o e => hk b o (F.keep b o e), F.above⟩, hl⟩, fun p hp => ⟨hk _ _ (w.nw p hp).1, (w.nw p hp).2⟩, w.nd⟩

theorem Wd.names (w : Wd h₀ L l news h) (hs : ∀ x v, l'.lookup x = some v → l.lookup x = some v) : Wd h₀ L l' news h := by
  obtain ⟨m, F, hl⟩ := w.fr
  exact ⟨⟨m, F, fun x v e => hl x v (hs x v e)⟩, w.nw, w.nd⟩
theorem Wd.sub (w : Wd h₀ L l news h) (hs : news'.Sublist news) : Wd h₀ L l news' h :=
  ⟨w.fr, fun p hp => w.nw p (hs.subset hp), w.nd.sublist (hs.map _)⟩
theorem Wd.perm (w : Wd h₀ L l news h) (hs : news'.Perm news) : Wd h₀ L l news' h :=
  ⟨w.fr, fun p hp => w.nw p (hs.subset hp), (hs.map _).nodup_iff.mpr w.nd⟩

theorem Wd.push (w : Wd h₀ L l news h) (o : Obj) (hf : o.isFreed = false := by rfl) : Wd h₀ L l ((h.objs.size, o) :: news) (h.push o) := by
  obtain ⟨m, F, hl⟩ := w.fr
  refine ⟨⟨m, F.push o, hl⟩, News.push F w.nw o hf, ?_⟩
  rw [List.map_cons, List.nodup_cons]
  refine ⟨fun hm => ?_, w.nd⟩
  obtain ⟨p, hp, e⟩ := List.mem_map.mp hm
  exact absurd (Heap.lt_size (w.nw p hp).1) (by rw [e]; exact Nat.lt_irrefl _)

/-- objects made by a callee, laid before the ledger -/
structure NewIn (h h' : Heap) (own : List (Addr × Obj)) : Prop where
  has : ∀ p ∈ own, h.get? p.1 = none ∧ h'.get? p.1 = some p.2
  nd : (own.map (·.1)).Nodup
theorem NewIn.nil : NewIn h h' [] := ⟨fun _ hp => (nomatch hp), List.nodup_nil⟩
theorem NewIn.keep {own : List (Addr × Obj)} {h'' : Heap} (x : NewIn h h' own) (hk : Kept h' h'') : NewIn h h'' own := ⟨fun p hp => ⟨(x.has p hp).1, hk _ _ (x.has p hp).2⟩, x.nd⟩

theorem Wd.more (w : Wd h₀ L l news h) {own : List (Addr × Obj)} (hk : Kept h h') (hn : NewIn h h' own) : Wd h₀ L l (own ++ news) h' := by
  have w' := w.keep hk
  obtain ⟨m, F, hl⟩ := w.fr
  refine ⟨w'.fr, fun p hp => ?_, ?_⟩
  · rcases List.mem_append.mp hp with hp | hp
    · obtain ⟨a, b⟩ := hn.has p hp
      refine ⟨b, fun e => ?_, ?_⟩
      · obtain ⟨o, _, _, ho, _⟩ := F.ns
        rw [e, ho] at a; cases a
      · cases hq : h₀.get? p.1 with
        | none => rfl
        | some o => rw [F.keep _ _ hq] at a; cases a
    · exact w'.nw p hp
  · rw [List.map_append]
    refine List.nodup_append.mpr ⟨hn.nd, w.nd, fun a ha b hb e => ?_⟩
    subst e
    obtain ⟨p, hp, rfl⟩ := List.mem_map.mp ha
    obtain ⟨q, hq, e⟩ := List.mem_map.mp hb
    have h1 := (hn.has p hp).1
    rw [← e, (w.nw q hq).1] at h1; cases h1

theorem map_set_fst {news : List (Addr × Obj)} {i : Nat} {d : Addr} {o o' : Obj} (hi : news[i]? = some (d, o)) : (news.set i (d, o')).map (·.1) = news.map (·.1) := by
  have hlt := (List.getElem?_eq_some_iff.mp hi).1
  rw [List.map_set]
  refine List.ext_getElem? fun j => ?_
  rw [List.getElem?_set]
  split
  · rename_i e
    subst e
    simp only [List.getElem?_map, hi, List.length_map, hlt, if_true, Option.map_some]
  · rfl

theorem Wd.upd (w : Wd h₀ L l news h) (i : Nat) {d : Addr} {o o' : Obj} (hi : news[i]? = some (d, o)) (hk : ∀ b o, b ≠ d → h.get? b = some o → h'.get? b = some o) (hd : h'.get? d = some o') :
    Wd h₀ L l (news.set i (d, o')) h' := by
  obtain ⟨m, F, hl⟩ := w.fr
  have hm := w.nw _ (List.mem_of_getElem? hi)
  have hold : ∀ b ob, h₀.get? b = some ob → b ≠ d := fun b ob e q => by have := hm.2.2; rw [← q, e] at this; cases this
  refine ⟨⟨m, ⟨F.ns.at' fun ob e => hk _ ob (Ne.symm hm.2.1) e, fun b ob e => hk b ob (hold b ob e) (F.keep b ob e), F.above⟩, hl⟩, fun p hp => ?_, ?_⟩
  · obtain ⟨j, hj⟩ := List.getElem?_of_mem hp
    rw [List.getElem?_set] at hj
    split at hj
    · split at hj
      · cases hj; exact ⟨hd, hm.2⟩
      · cases hj
    · rename_i hne
      have hp' := w.nw p (List.mem_of_getElem? hj)
      refine ⟨hk _ _ (fun q => hne ?_) hp'.1, hp'.2⟩
      have h1 : (news.map (·.1))[i]? = some d := by rw [List.getElem?_map, hi]; rfl
      have h2 : (news.map (·.1))[j]? = some d := by rw [List.getElem?_map, hj, ← q]; rfl
      have l1 := (List.getElem?_eq_some_iff.mp h1).1
      exact (List.getElem?_inj l1 w.nd).mp (h1.trans h2.symm)
  · rw [map_set_fst hi]; exact w.nd

theorem Wd.sto (w : Wd h₀ L l news h) {x : Str} {v : Value} (hh : ∀ m, h.Ns L m → h'.Ns L (fun y => if y = x then some v else m y)) (hs : Heap.SameBut L h h') : Wd h₀ L ((x, v) :: l) news h' := by
  obtain ⟨m, F, hl⟩ := w.fr
  refine ⟨⟨_, F.set (hh m F.ns) hs, fun y u e => ?_⟩, w.nw.set hs, w.nd⟩
  rw [List.lookup_cons] at e
  by_cases hy : y = x
  · subst hy; simp only [beq_self_eq_true] at e; simpa using e
  · have : (y == x) = false := by simpa using hy
    rw [this] at e
    simp only [if_neg hy]
    exact hl y u e
theorem Wd.lt (w : Wd h₀ L l news h) : L < h.objs.size := by
  obtain ⟨m, F, _⟩ := w.fr; exact F.ns.lt
end

/-- the room of a call -/
structure Room (A : Around) (k : Nat) : Prop where
  hh : A.handled = none
  hd : A.depth + k < recursionLimit
  hu : A.units + 10 * k + 60 < cLine
theorem Room.deeper {A : Around} {k : Nat} (r : Room A (k + 1)) (env : Env) : Room (A.deeper env) k := by
  refine ⟨r.hh, ?_, ?_⟩
  · have := r.hd; show A.depth + 1 + k < _; omega
  · have := r.hu; show A.units + 3 + 10 * k + 60 < _; omega
theorem Room.depth {A : Around} {k : Nat} (r : Room A k) : A.depth < recursionLimit := by have := r.hd; omega
theorem Room.units {A : Around} {k : Nat} (r : Room A k) : A.units < cLine := by have := r.hu; omega
end
section
structure Bs (K : Frag) (h : Heap) : Prop where
  k : K.In h
  t : ∃ p loose mg mb, TopRead p loose mg mb h
theorem Bs.keep {K : Frag} {h h' : Heap} (b : Bs K h) (hk : Kept h h') : Bs K h' := by
  obtain ⟨p, l, mg, mb, T⟩ := b.t
  exact ⟨b.k.keeps hk, p, l, mg, mb, T.keeps hk⟩
theorem Bs.lim {K : Frag} {h : Heap} (b : Bs K h) : h.NoLimit := by obtain ⟨p, l, mg, mb, T⟩ := b.t; exact T.nolimit

section
variable {prog : Program} {w : World} {A : Around} {g : Shared} {h₀ h : Heap} {tk : Nat} {L : Addr} {l : List (Str × Value)} {news : List (Addr × Obj)} {env : Env} {K : Frag} {k : Nat}

theorem Wd.ofFN {h' : Heap} {m : Str → Option Value} {a : Addr} {o : Obj} (wd : Wd h₀ L l news h) (F : Fr h₀ L h' m) (hl : ∀ x v, l.lookup x = some v → m x = some v) (N : News h₀ L h' ((a, o) :: news)) (ha : h.objs.size ≤ a) : Wd h₀ L l ((a, o) :: news) h' := by
  refine ⟨⟨m, F, hl⟩, N, ?_⟩
  rw [List.map_cons, List.nodup_cons]
  refine ⟨fun hm => ?_, wd.nd⟩
  obtain ⟨p, hp, e⟩ := List.mem_map.mp hm
  have := Heap.lt_size (wd.nw p hp).1
  rw [e] at this; exact absurd this (Nat.not_lt.mpr ha)

-- names
theorem r_loc {x : Str} {pos : Pos} {v : Value} {Q : Value → Shared → Prop} (wd : Wd h₀ env.locals l news h) (hk : env.scope.kind = .function) (hx : env.kindOf x = some .local) (hv : l.lookup x = some v)
    (hd : (x == ("__debug__" : Str)) = false) (hq : Q v (At g h tk)) : wpAny (model prog w) A (eval (.Name x pos) env) Q NoE (At g h tk) := by
  obtain ⟨m, F, hl⟩ := wd.fr
  exact wpAny_Name (wpAny_loadName_local (s := At g h tk) hk hx F.ns (hl x v hv) hq) hd
theorem r_glob {x : Str} {pos : Pos} {v : Value} {Q : Value → Shared → Prop} (bs : Bs K h) (hk : env.scope.kind = .function) (hg : env.globals = mainGlobals) (hx : env.kindOf x = some .globalImplicit)
    (hv : nsIn K mainGlobals x = some (some v)) (hd : (x == ("__debug__" : Str)) = false) (hq : Q v (At g h tk)) : wpAny (model prog w) A (eval (.Name x pos) env) Q NoE (At g h tk) := by
  obtain ⟨p, lo, mg, mb, T⟩ := bs.t
  exact Name_function_global hk hx (loadGlobal_global (s := At g h tk) (hg ▸ T.g) (mg_of bs.k T.g hv) hq) hd
theorem r_bltn {x : Str} {pos : Pos} {v : Value} {Q : Value → Shared → Prop} (bs : Bs K h) (hk : env.scope.kind = .function) (hg : env.globals = mainGlobals) (hb : env.builtins = builtinsNs) (hx : env.kindOf x = some .globalImplicit)
    (hv : nsIn K mainGlobals x = some none) (hv2 : bootBuiltins x = some v) (hn : x ≠ "__name__") (hd : (x == ("__debug__" : Str)) = false) (hq : Q v (At g h tk)) : wpAny (model prog w) A (eval (.Name x pos) env) Q NoE (At g h tk) := by
  obtain ⟨p, lo, mg, mb, T⟩ := bs.t
  exact Name_function_global hk hx (loadGlobal_builtin (s := At g h tk) (hg ▸ T.g) (mg_none_of bs.k T.g hv) (hb ▸ T.b) ((T.builtins x hn).trans hv2) hq) hd
theorem r_cell {x : Str} {pos : Pos} {c : Addr} {v : Value} {o : Obj} {Q : Value → Shared → Prop} (ho : h.get? c = some o) (hc : o.data = .cell (some v)) (hk : env.scope.kind = .function) (hx : env.kindOf x = some .cell) (hl : env.cells.lookup x = some c)
    (hd : (x == ("__debug__" : Str)) = false) (hq : Q v (At g h tk)) : wpAny (model prog w) A (eval (.Name x pos) env) Q NoE (At g h tk) :=
  wpAny_Name (wpAny_loadName_cell (s := At g h tk) hk hx hl ⟨o, ho, hc⟩ hq) hd
theorem st_loc {x : Str} {v : Value} {Q : Unit → Shared → Prop} (wd : Wd h₀ env.locals l news h) (hx : env.kindOf x = some .local) (hp : (env.scope.kind == .class || (env.scope.kind == .module && env.locals != env.globals)) = false)
    (hq : ∀ h' tk', Wd h₀ env.locals ((x, v) :: l) news h' → Q () (At g h' tk')) : wpAny (model prog w) A (storeName env x v) Q NoE (At g h tk) := by
  obtain ⟨m, F, hl⟩ := wd.fr
  refine wpAny_storeName_local (s := At g h tk) hx F.ns (fun h' hn hs => hq h' _ ?_) hp
  refine ⟨⟨_, F.set hn hs, fun y u e => ?_⟩, wd.nw.set hs, wd.nd⟩
  rw [List.lookup_cons] at e
  by_cases hy : y = x
  · subst hy; simp only [beq_self_eq_true] at e; simpa using e
  · have : (y == x) = false := by simpa using hy
    rw [this] at e
    simp only [if_neg hy]
    exact hl y u e
theorem st_cell {x : Str} {v : Value} {c : Addr} {o : Obj} {u : Option Value} {Q : Unit → Shared → Prop} (i : Nat) (wd : Wd h₀ L l news h) (hi : news[i]? = some (c, o)) (hc : o.data = .cell u) (hk : env.scope.kind = .function) (hx : env.kindOf x = some .cell)
    (hl : env.cells.lookup x = some c)
    (hq : ∀ h' tk' o', o'.data = .cell (some v) → Wd h₀ L l (news.set i (c, o')) h' → Q () (At g h' tk')) : wpAny (model prog w) A (storeName env x v) Q NoE (At g h tk) := by
  refine wpAny_storeName_cell (s := At g h tk) hk hx hl ⟨o, wd.geti i hi, hc⟩ fun h' hv hs => ?_
  obtain ⟨o', ho', hd'⟩ := hv
  exact hq h' tk o' hd' (wd.upd i hi (fun b ob hb e => hs.extBut b ob hb e) ho')

-- constants
theorem r_int {i : Int} {kk pos} {Q : Value → Shared → Prop} (hq : ∀ t tk', Q (.int i t) (At g h tk')) : wpAny (model prog w) A (eval (.Constant (.int i) kk pos) env) Q NoE (At g h tk) := wpAny_Constant_int (s := At g h tk) (hq _ _)
theorem r_str {i : Str} {kk pos} {Q : Value → Shared → Prop} (hq : ∀ t tk', Q (.str i t) (At g h tk')) : wpAny (model prog w) A (eval (.Constant (.str i) kk pos) env) Q NoE (At g h tk) := wpAny_Constant_str (s := At g h tk) (hq _ _)

-- int operations
theorem o_add {a b : Int} {t u : Tok} {Q : Value → Shared → Prop} (hq : ∀ t tk', Q (.int (a + b) t) (At g h tk')) : wpAny (model prog w) A (binaryOp .Add (.int a t) (.int b u)) Q NoE (At g h tk) := PyProof.Rows.add_int (s := At g h tk) (hq _ _)
theorem o_sub {a b : Int} {t u : Tok} {Q : Value → Shared → Prop} (hq : ∀ t tk', Q (.int (a - b) t) (At g h tk')) : wpAny (model prog w) A (binaryOp .Sub (.int a t) (.int b u)) Q NoE (At g h tk) := PyProof.Rows.sub_int (s := At g h tk) (hq _ _)
theorem o_mul {a b : Int} {t u : Tok} {Q : Value → Shared → Prop} (hm : IntMulOk a b) (hq : ∀ t tk', Q (.int (a * b) t) (At g h tk')) : wpAny (model prog w) A (binaryOp .Mult (.int a t) (.int b u)) Q NoE (At g h tk) := PyProof.Rows.mul_int (s := At g h tk) (hq _ _) hm
theorem o_and {a b : Int} {t u : Tok} {Q : Value → Shared → Prop} (hq : ∀ t tk', Q (.int (Builtin.bitAnd a b) t) (At g h tk')) : wpAny (model prog w) A (binaryOp .BitAnd (.int a t) (.int b u)) Q NoE (At g h tk) := PyProof.Rows.and_int (s := At g h tk) (hq _ _)
theorem o_or {a b : Int} {t u : Tok} {Q : Value → Shared → Prop} (hq : ∀ t tk', Q (.int (Builtin.bitOr a b) t) (At g h tk')) : wpAny (model prog w) A (binaryOp .BitOr (.int a t) (.int b u)) Q NoE (At g h tk) := PyProof.Rows.or_int (s := At g h tk) (hq _ _)
theorem o_shr {a b : Int} {t u : Tok} {Q : Value → Shared → Prop} (hb : 0 ≤ b) (hq : ∀ t tk', Q (.int (a.fdiv (2 ^ b.toNat)) t) (At g h tk')) : wpAny (model prog w) A (binaryOp .RShift (.int a t) (.int b u)) Q NoE (At g h tk) := PyProof.Rows.rshift_int (s := At g h tk) hb (hq _ _)
theorem o_shl {a b : Int} {t u : Tok} {Q : Value → Shared → Prop} (hb : 0 ≤ b) (hb2 : b ≤ 1000000) (ha : a.natAbs < 2 ^ 64) (hq : ∀ t tk', Q (.int (a * 2 ^ b.toNat) t) (At g h tk')) : wpAny (model prog w) A (binaryOp .LShift (.int a t) (.int b u)) Q NoE (At g h tk) := PyProof.Rows.lshift_int_small (s := At g h tk) hb hb2 ha (hq _ _)
theorem o_mod {a b : Int} {t u : Tok} {Q : Value → Shared → Prop} (hb : b ≠ 0) (hq : ∀ t tk', Q (.int (a.fmod b) t) (At g h tk')) : wpAny (model prog w) A (binaryOp .Mod (.int a t) (.int b u)) Q NoE (At g h tk) := PyProof.Rows.mod_int' (s := At g h tk) hb (hq _ _)
theorem o_fdv {a b : Int} {t u : Tok} {Q : Value → Shared → Prop} (hb : b ≠ 0) (hp : Builtin.divisionGoesByPylong a b = false) (hq : ∀ t tk', Q (.int (a.fdiv b) t) (At g h tk')) : wpAny (model prog w) A (binaryOp .FloorDiv (.int a t) (.int b u)) Q NoE (At g h tk) := PyProof.Rows.floordiv_int (s := At g h tk) hb (hq _ _) (.inl hp)
theorem c_eqI {a b : Int} {t u : Tok} {Q : Value → Shared → Prop} (hq : Q (.bool (a == b)) (At g h tk)) : wpAny (model prog w) A (compareOp .Eq (.int a t) (.int b u)) Q NoE (At g h tk) := PyProof.Rows.eq_int (s := At g h tk) hq
theorem c_ltI {a b : Int} {t u : Tok} {Q : Value → Shared → Prop} (hq : Q (.bool (decide (a < b))) (At g h tk)) : wpAny (model prog w) A (compareOp .Lt (.int a t) (.int b u)) Q NoE (At g h tk) := PyProof.Rows.lt_int (s := At g h tk) hq
theorem c_gtI {a b : Int} {t u : Tok} {Q : Value → Shared → Prop} (hq : Q (.bool (decide (b < a))) (At g h tk)) : wpAny (model prog w) A (compareOp .Gt (.int a t) (.int b u)) Q NoE (At g h tk) := PyProof.Rows.gt_int (s := At g h tk) hq
theorem c_geI {a b : Int} {t u : Tok} {Q : Value → Shared → Prop} (hq : Q (.bool (decide (b ≤ a))) (At g h tk)) : wpAny (model prog w) A (compareOp .GtE (.int a t) (.int b u)) Q NoE (At g h tk) := PyProof.Rows.ge_int (s := At g h tk) hq
theorem c_eqS {a b : Str} {t u : Tok} {Q : Value → Shared → Prop} (hq : Q (.bool (a == b)) (At g h tk)) : wpAny (model prog w) A (compareOp .Eq (.str a t) (.str b u)) Q NoE (At g h tk) := PyProof.Rows.eq_str (s := At g h tk) hq
theorem t_int {a : Int} {t : Tok} {Q : Bool → Shared → Prop} (hq : Q (a != 0) (At g h tk)) : wpAny (model prog w) A (truthy (.int a t)) Q NoE (At g h tk) := PyProof.Rows.truthy_int (s := At g h tk) hq
theorem t_bool {a : Bool} {Q : Bool → Shared → Prop} (hq : Q a (At g h tk)) : wpAny (model prog w) A (truthy (.bool a)) Q NoE (At g h tk) := wpAny_truthy_bool (s := At g h tk) hq
theorem t_list {d : Addr} {vs : List Value} {n : Nat} {Q : Bool → Shared → Prop} (hd : h.get? d = some (lO vs n)) (hz : vs.length < 1000000) (hq : ∀ tk', Q (!vs.isEmpty) (At g h tk')) : wpAny (model prog w) A (truthy (.ref d)) Q NoE (At g h tk) := by
  refine wpAny_truthy_list (s := At g h tk) (items := vs.toArray) ⟨_, hd, rfl, n, rfl⟩ (by simp; omega) ?_
  have : vs.toArray.isEmpty = vs.isEmpty := by cases vs <;> rfl
  rw [this]; exact hq _

-- statements
theorem s_nil {Q : Flow → Shared → Prop} (hq : Q .next (At g h tk)) : wpAny (model prog w) A (execs [] env) Q NoE (At g h tk) := wpAny_execs_nil hq
theorem s_asg {x : Str} {pos' pos : Pos} {value : Expr} {rest : List Stmt} {Q : Flow → Shared → Prop} (hs : swapsWith value (some (.Name x pos')) pos.line env = pure false)
    (hq : wpAny (model prog w) A (eval value env) (fun v s₁ => wpAny (model prog w) A (storeName env x v) (fun _ s₂ => wpAny (model prog w) A (execs rest env) Q NoE s₂) NoE s₁) NoE (At g h tk)) :
    wpAny (model prog w) A (execs (.Assign [.Name x pos'] value pos :: rest) env) Q NoE (At g h tk) := wpAny_execs_cons (wpAny_Assign_Name hq hs)
theorem s_expr {e : Expr} {pos : Pos} {rest : List Stmt} {Q : Flow → Shared → Prop} (hi : interactive env = false) (hs : swapsWith e none pos.line env = pure false)
    (hq : wpAny (model prog w) A (eval e env) (fun v s₁ => v = .none ∧ wpAny (model prog w) A (execs rest env) Q NoE s₁) NoE (At g h tk)) :
    wpAny (model prog w) A (execs (.Expr e pos :: rest) env) Q NoE (At g h tk) :=
  wpAny_execs_cons (wpAny_Expr (wpAny_mono hq (fun v s₁ x => by obtain ⟨rfl, x⟩ := x; exact x) fun _ _ x => x) hi hs)
theorem s_aug {x : Str} {pos' pos : Pos} {op : Operator} {value : Expr} {rest : List Stmt} {Q : Flow → Shared → Prop}
    (hq : wpAny (model prog w) A (loadName env x) (fun old s₁ => wpAny (model prog w) A (eval value env) (fun v s₂ => wpAny (model prog w) A (inplaceOp op old v)
      (fun r s₃ => wpAny (model prog w) A (storeName env x r) (fun _ s₄ => wpAny (model prog w) A (execs rest env) Q NoE s₄) NoE s₃) NoE s₂) NoE s₁) NoE (At g h tk)) :
    wpAny (model prog w) A (execs (.AugAssign (.Name x pos') op value pos :: rest) env) Q NoE (At g h tk) := wpAny_execs_cons (wpAny_AugAssign_Name hq)
theorem s_if {test : Expr} {body orelse : List Stmt} {pos : Pos} {rest : List Stmt} {Q : Flow → Shared → Prop}
    (hq : wpAny (model prog w) A (isTrue test env (eval test env)) (fun b s₂ => if b then wpAny (model prog w) A (execs body env) (fun f s' => match f with | .next => wpAny (model prog w) A (execs rest env) Q NoE s' | f => Q f s') NoE s₂
      else wpAny (model prog w) A (execs orelse env) (fun f s' => match f with | .next => wpAny (model prog w) A (execs rest env) Q NoE s' | f => Q f s') NoE s₂) NoE (At g h tk)) :
    wpAny (model prog w) A (execs (.If test body orelse pos :: rest) env) Q NoE (At g h tk) := wpAny_execs_cons (wpAny_If hq)
theorem s_ret {e : Expr} {pos : Pos} {rest : List Stmt} {Q : Flow → Shared → Prop} (hq : wpAny (model prog w) A (eval e env) (fun v s₁ => Q (.ret v) s₁) NoE (At g h tk)) :
    wpAny (model prog w) A (execs (.Return (some e) pos :: rest) env) Q NoE (At g h tk) := wpAny_execs_cons (wpAny_Return_some hq)
theorem s_brk {pos : Pos} {rest : List Stmt} {Q : Flow → Shared → Prop} (hq : Q .brk (At g h tk)) : wpAny (model prog w) A (execs (.Break pos :: rest) env) Q NoE (At g h tk) := wpAny_execs_cons (wpAny_Break hq)

-- a for over an iterator
theorem Wd.drop {I : Addr} {o : Obj} {h₁ : Heap} (wd : Wd h₀ L l ((I, o) :: news) h) (hk : ∀ b o, b ∉ [I] → h.get? b = some o → h₁.get? b = some o) : Wd h₀ L l news h₁ := by
  obtain ⟨m, F, hl⟩ := wd.fr
  have hm := wd.nw (I, o) (.head _)
  have hold : ∀ b ob, h₀.get? b = some ob → b ∉ [I] := fun b ob e q => by rw [List.mem_singleton] at q; have := hm.2.2; rw [← q, e] at this; cases this
  have nd := wd.nd
  rw [List.map_cons, List.nodup_cons] at nd
  refine ⟨⟨m, ⟨F.ns.at' fun ob e => hk _ ob (by rw [List.mem_singleton]; exact Ne.symm hm.2.1) e, fun b ob e => hk b ob (hold b ob e) (F.keep b ob e), F.above⟩, hl⟩, fun p hp => ?_, nd.2⟩
  have hp' := wd.nw p (List.mem_cons_of_mem _ hp)
  exact ⟨hk _ _ (fun q => nd.1 (by rw [List.mem_singleton] at q; rw [← q]; exact List.mem_map.mpr ⟨p, hp, rfl⟩)) hp'.1, hp'.2⟩
theorem loopW {target : Expr} {body orelse : List Stmt} {I : Addr} {fp : List Addr} {n : Nat} {P : Nat → Value → Prop} {St : Nat → Heap → Prop} {o : Obj} {R : Result → Shared → Prop}
    (Wk : Walks prog w A I fp [I] n P St) (hlive : ∀ i h, St i h → ∃ o, h.get? I = some o) (J : Nat → List (Str × Value) → List (Addr × Obj) → Prop)
    (hfp : ∀ b ∈ fp, b = I ∨ (∃ o, h₀.get? b = some o) ∨ (∃ o, ∀ i l news, J i l news → (b, o) ∈ news))
    (wd : Wd h₀ L l ((I, o) :: news) h) (st : St 0 h) (j0 : J 0 l news)
    (step : ∀ i v o l news h tk, i < n → P i v → J i l news → Wd h₀ L l ((I, o) :: news) h → St (i + 1) h →
      wpAny (model prog w) A (letOwnedTupleGo target (.ref I) v) (fun _ s₁ => wpAny (model prog w) A (assign target env v) (fun _ s₂ => wpAny (model prog w) A (execs body env) (fun f s₃ => match f with
        | .next | .cont => ∃ l' news' h' tk', s₃ = At g h' tk' ∧ Wd h₀ L l' ((I, o) :: news') h' ∧ J (i + 1) l' news'
        | .brk => R (.ok .next) s₃
        | .ret v => R (.ok (.ret v)) s₃) NoE s₂) NoE s₁) NoE (At g h tk))
    (done : ∀ l news h tk, J n l news → Wd h₀ L l news h → wpAny (model prog w) A (execs orelse env) (fun f s => R (.ok f) s) NoE (At g h tk)) :
    codeAny (model prog w) A (.forLoop target (.ref I) body orelse env) R (At g h tk) := by
  have swap : ∀ {l news o o₁} {h h₁ : Heap}, Wd h₀ L l ((I, o) :: news) h → (∀ b o, b ∉ [I] → h.get? b = some o → h₁.get? b = some o) → h₁.get? I = some o₁ → Wd h₀ L l ((I, o₁) :: news) h₁ := by
    intro l news o o₁ h h₁ w1 hk hI
    exact w1.upd 0 rfl (fun b ob hb e => hk b ob (by simpa using hb) e) hI
  refine codeAny_forLoop_any (s := At g h tk) (fun k s' => ∃ h' tk' l' news' o' i, s' = At g h' tk' ∧ St i h' ∧ Wd h₀ L l' ((I, o') :: news') h' ∧ J i l' news' ∧ i ≤ n ∧ k = n + 1 - i) ?_ (n + 1)
    ⟨h, tk, l, news, o, 0, rfl, st, wd, j0, Nat.zero_le _, rfl⟩
  rintro k s' ⟨h', tk', l', news', o', i, rfl, st', wd', hJ, hi, rfl⟩
  by_cases hlt : i < n
  · refine Wk.item i _ _ _ hlt st' fun v h₁ tk₁ hP st₁ hk₁ => ?_
    obtain ⟨o₁, ho₁⟩ := hlive _ _ st₁
    have wd₁ := swap wd' hk₁ ho₁
    refine wpAny_mono (step i v o₁ l' news' h₁ tk₁ hlt hP hJ wd₁ st₁) (fun _ s₁ x₁ => wpAny_mono x₁ (fun _ s₂ x₂ => wpAny_mono x₂ (fun f s₃ x₃ => ?_) fun _ _ x => x.elim) fun _ _ x => x.elim) fun _ _ x => x.elim
    have fin : (∃ l' news' h' tk', s₃ = At g h' tk' ∧ Wd h₀ L l' ((I, o₁) :: news') h' ∧ J (i + 1) l' news') →
        ∃ m, m < n + 1 - i ∧ ∃ h' tk' l' news' o' j, s₃ = At g h' tk' ∧ St j h' ∧ Wd h₀ L l' ((I, o') :: news') h' ∧ J j l' news' ∧ j ≤ n ∧ m = n + 1 - j := by
      rintro ⟨l₂, news₂, h₂, tk₂, rfl, wd₂, hJ₂⟩
      refine ⟨n + 1 - (i + 1), by omega, h₂, tk₂, l₂, news₂, o₁, i + 1, rfl, ?_, wd₂, hJ₂, hlt, rfl⟩
      refine Wk.frame _ _ _ st₁ fun b hb ob e => ?_
      rcases hfp b hb with rfl | ⟨o₀, e₀⟩ | ⟨o₀, hm⟩
      · rw [ho₁] at e; cases e; exact wd₂.geti 0 rfl
      · have := wd₁.old e₀; rw [e] at this; cases this; exact wd₂.old e₀
      · have := wd₁.get (List.mem_cons_of_mem _ (hm _ _ _ hJ)); rw [e] at this; cases this; exact wd₂.get (List.mem_cons_of_mem _ (hm _ _ _ hJ₂))
    cases f with
    | next => exact fin x₃
    | cont => exact fin x₃
    | brk => exact x₃
    | ret v => exact x₃
  · have hin : i = n := by omega
    subst hin
    refine Wk.done _ _ _ st' fun h₁ tk₁ hk₁ => ?_
    exact wpAny_mono (done l' news' h₁ tk₁ hJ (wd'.drop hk₁)) (fun _ _ x => x) fun _ _ x => x.elim
end
end
section
/-- the heap with one address taken out -/
def hide (h : Heap) (a : Addr) : Heap := h.update a fun _ => ⟨.none, none, .freed, #[]⟩
theorem hide_ne {h : Heap} {a b : Addr} (hb : b ≠ a) : (hide h a).get? b = h.get? b := Heap.get?_update_ne h b a _ hb
theorem hide_eq {h : Heap} {a : Addr} : (hide h a).get? a = none := by
  unfold hide Heap.update Heap.get?
  simp only [Array.getElem?_modify, if_true]
  cases h.objs[a]? <;> rfl
theorem hide_size {h : Heap} {a : Addr} : (hide h a).objs.size = h.objs.size := Heap.size_update h a _
theorem hide_sub {h : Heap} {a b : Addr} {o : Obj} (e : (hide h a).get? b = some o) : b ≠ a ∧ h.get? b = some o := by
  by_cases hb : b = a
  · subst hb; rw [hide_eq] at e; cases e
  · exact ⟨hb, by rwa [hide_ne hb] at e⟩
theorem Wd.hid {h₀ h : Heap} {L I a : Addr} {o ob : Obj} {l : List (Str × Value)} {news : List (Addr × Obj)} (wd : Wd h₀ L l ((I, o) :: news) h) (hm : (a, ob) ∈ news) : (hide h I).get? a = some ob := by
  have nd := wd.nd
  rw [List.map_cons, List.nodup_cons] at nd
  have : a ≠ I := fun e => nd.1 (by subst e; exact List.mem_map.mpr ⟨_, hm, rfl⟩)
  rw [hide_ne this]; exact wd.get (List.mem_cons_of_mem _ hm)
theorem Wd.hid0 {h₀ h : Heap} {L I : Addr} {o : Obj} {l : List (Str × Value)} {news : List (Addr × Obj)} (wd : Wd h₀ L l ((I, o) :: news) h) : Kept h₀ (hide h I) := fun b ob e => by
  have := (wd.nw (I, o) (.head _)).2.2
  have hb : b ≠ I := fun q => by subst q; rw [e] at this; cases this
  rw [hide_ne hb]; exact wd.old e

/-- what a comprehension has made of the first i items -/
inductive CR (P : Nat → Value → Prop) (p : Nat → Value → Bool) (G : Nat → Value → Value → List (Addr × Obj) → Prop) : Nat → List (Value × List (Addr × Obj)) → Prop
  | zero : CR P p G 0 []
  | skip {i res v} : CR P p G i res → P i v → p i v = false → CR P p G (i + 1) res
  | take {i res v y own} : CR P p G i res → P i v → p i v = true → G i v y own → CR P p G (i + 1) (res ++ [(y, own)])
theorem CR.len {P : Nat → Value → Prop} {p : Nat → Value → Bool} {G : Nat → Value → Value → List (Addr × Obj) → Prop} {i : Nat} {res : List (Value × List (Addr × Obj))} (x : CR P p G i res) : res.length ≤ i := by
  induction x with
  | zero => exact Nat.le_refl _
  | skip _ _ _ ih => exact Nat.le_succ_of_le ih
  | take _ _ _ _ ih => rw [List.length_append]; simpa using ih

section
variable {prog : Program} {w : World} {A : Around} {g : Shared} {h₀ h : Heap} {tk : Nat} {L : Addr} {l : List (Str × Value)} {news : List (Addr × Obj)} {env : Env} {K : Frag} {k : Nat}

theorem app_at {d : Addr} {vs : List Value} {n : Nat} {x : Value} {Q : Value → Shared → Prop} (i : Nat) (wd : Wd h₀ L l news h) (hi : news[i]? = some (d, lO vs n)) (hz : vs.length < 100000)
    (hq : ∀ h', Wd h₀ L l (news.set i (d, lO (vs ++ [x]) (n + 1))) h' → Q .none (At g h' tk)) : wpAny (model prog w) A (call (.builtin "list.append") [.ref d, x]) Q NoE (At g h tk) := by
  refine append_at (s := At g h tk) (wd.geti i hi) (fun h' hs ho' => hq h' ?_) (by rw [List.size_toArray, sizeLine_eq]; omega)
  refine wd.upd i hi (fun b ob hb e => hs.extBut b ob hb e) ?_
  rw [ho']; simp

theorem compLoopW {elt iter : Expr} {x : Str} {px : Pos} {ifs : List Expr} {scope : Scope} {pos : Pos} {I D C : Addr} {fp : List Addr} {n : Nat} {P : Nat → Value → Prop} {St : Nat → Heap → Prop} {cenv : Env} {oI oC : Obj} {m : Str → Option Value} {h₁ : Heap} {R : Result → Shared → Prop}
    (Wk : Walks prog w A I fp [I] n P St) (hlive : ∀ i h, St i h → ∃ o, h.get? I = some o) (p : Nat → Value → Bool) (G : Nat → Value → Value → List (Addr × Obj) → Prop)
    (hC : cenv.locals = C) (hx : cenv.kindOf x = some .local) (hp : (cenv.scope.kind == .class || (cenv.scope.kind == .module && cenv.locals != cenv.globals)) = false) (hn : n < 100000)
    (hfp : ∀ b ∈ fp, b = I ∨ ∃ o, (hide h I).get? b = some o)
    (hle : h.objs.size ≤ C) (hDn : ∀ b o, h.get? b = some o → b ≠ D) (wd : Wd h₀ L l ((I, oI) :: (D, lO [] 0) :: (C, oC) :: news) h₁) (hns : h₁.Ns C m) (st : St 0 h₁) (hk : ∀ b o, b ≠ I → h.get? b = some o → h₁.get? b = some o)
    (tests : ∀ i v h' tk', i < n → P i v → Wd (hide h I) C [(x, v)] [] h' →
      wpAny (model prog w) A (forIn ifs true fun c r => if r = true then do let ok ← isTrue c cenv (eval c cenv); pure (ForInStep.yield ok) else pure (ForInStep.yield r)) (fun ok s' => ok = p i v ∧ ∃ h'' tk'', s' = At g h'' tk'' ∧ Kept h' h'') NoE (At g h' tk'))
    (elts : ∀ i v h' tk', i < n → P i v → p i v = true → Wd (hide h I) C [(x, v)] [] h' →
      wpAny (model prog w) A (eval elt cenv) (fun y s' => ∃ own h'' tk'', s' = At g h'' tk'' ∧ Kept h' h'' ∧ NewIn h' h'' own ∧ G i v y own) NoE (At g h' tk'))
    (hR : ∀ h' tk' res e oC m, CR P p G n res → Wd h₀ L l ((D, lO (res.map (·.1)) e) :: (C, oC) :: (res.flatMap (·.2) ++ news)) h' → h'.Ns C m → R (.ok .next) (At g h' tk')) :
    codeAny (model prog w) A (.compLoop (.ListComp elt [⟨.Name x px, iter, ifs, 0⟩] scope pos) 0 (.ref I) (.ref D) cenv) R (At g h₁ tk) := by
  refine codeAny_compLoop_tests (s := At g h₁ tk) (fun k s' => ∃ h' tk' res i o' oC m e, s' = At g h' tk' ∧ St i h' ∧ CR P p G i res ∧ i ≤ n ∧ k = n + 1 - i ∧
    Wd h₀ L l ((I, o') :: (D, lO (res.map (·.1)) e) :: (C, oC) :: (res.flatMap (·.2) ++ news)) h' ∧ h'.Ns C m ∧ (∀ b o, b ≠ I → h.get? b = some o → h'.get? b = some o)) ?_ (n + 1)
    ⟨h₁, tk, [], 0, oI, oC, m, 0, rfl, st, .zero, Nat.zero_le _, rfl, wd, hns, hk⟩
  rintro k s' ⟨h', tk', res, i, o', oC', m', e, rfl, st', cr, hi, rfl, wd', hns', hk'⟩
  have ndI : ∀ q ∈ ((D, lO (res.map (·.1)) e) :: (C, oC') :: (res.flatMap (·.2) ++ news)), q.1 ≠ I := fun q hq e => by
    have := wd'.nd
    rw [List.map_cons, List.nodup_cons] at this
    exact this.1 (by rw [← e]; exact List.mem_map.mpr ⟨q, hq, rfl⟩)
  have hCI : C ≠ I := ndI (C, oC') (.tail _ (.head _))
  have hDC : D ≠ C := by
    have := wd'.nd
    simp only [List.map_cons, List.nodup_cons, List.mem_cons, not_or] at this
    exact this.2.1.1
  have hnew : ∀ b o, h.get? b = some o → b ≠ C := fun b o e q => by have := Heap.lt_size e; rw [q] at this; exact absurd this (Nat.not_lt.mpr hle)
  by_cases hlt : i < n
  · refine Wk.item i _ _ _ hlt st' fun v h₂ tk₂ hP st₂ hk₂ => ?_
    obtain ⟨o₂, ho₂⟩ := hlive _ _ st₂
    have wd₂ : Wd h₀ L l ((I, o₂) :: (D, lO (res.map (·.1)) e) :: (C, oC') :: (res.flatMap (·.2) ++ news)) h₂ := wd'.upd 0 rfl (fun b ob hb e => hk₂ b ob (by simpa using hb) e) ho₂
    have hns₂ : h₂.Ns C m' := hns'.at' fun o e => hk₂ _ o (by simpa using hCI) e
    have kp₂ : ∀ b o, b ≠ I → h.get? b = some o → h₂.get? b = some o := fun b o hb e => hk₂ b o (by simpa using hb) (hk' b o hb e)
    refine wpAny_assign_Name (wpAny_storeName_local (s := At g h₂ tk₂) hx (hC ▸ hns₂) (fun h₃ hns₃ hs₃ => ?_) hp)
    rw [hC] at hns₃ hs₃
    obtain ⟨o₃, es₃, ep₃, ho₃, r₃⟩ := id hns₃
    have wd₃ : Wd h₀ L l ((I, o₂) :: (D, lO (res.map (·.1)) e) :: (C, o₃) :: (res.flatMap (·.2) ++ news)) h₃ := wd₂.upd 2 rfl (fun b ob hb e => hs₃.extBut b ob hb e) ho₃
    have st₃ : St (i + 1) h₃ := Wk.frame _ _ _ st₂ fun b hb ob e => by
      rcases hfp b hb with rfl | ⟨o₀, e₀⟩
      · exact hs₃.extBut _ _ (Ne.symm hCI) e
      · exact hs₃.extBut _ _ (hnew _ _ (hide_sub e₀).2) e
    have kp₃ : ∀ b o, b ≠ I → h.get? b = some o → h₃.get? b = some o := fun b o hb e => hs₃.extBut b o (hnew b o e) (kp₂ b o hb e)
    have wC : Wd (hide h I) C [(x, v)] [] h₃ := by
      refine ⟨⟨_, ⟨hns₃, fun b o e => kp₃ b o (hide_sub e).1 (hide_sub e).2, by rw [hide_size]; exact hle⟩, fun y u e => ?_⟩, News.nil, List.nodup_nil⟩
      rw [List.lookup_cons] at e
      by_cases hy : y = x
      · subst hy; simp only [beq_self_eq_true] at e; simpa using e
      · have : (y == x) = false := by simpa using hy
        rw [this] at e; simp at e
    refine wpAny_mono (tests i v h₃ _ hlt hP wC) (fun ok s₄ x₄ => ?_) fun _ _ x => x.elim
    obtain ⟨rfl, h₄, tk₄, rfl, k₄⟩ := x₄
    have wd₄ := wd₃.keep k₄
    have hns₄ := hns₃.keeps k₄
    have st₄ : St (i + 1) h₄ := Wk.frame _ _ _ st₃ fun b _ ob e => k₄ b ob e
    have kp₄ : ∀ b o, b ≠ I → h.get? b = some o → h₄.get? b = some o := fun b o hb e => k₄ b o (kp₃ b o hb e)
    cases hpv : p i v with
    | false =>
      simp only [Bool.false_eq_true, if_false]
      exact ⟨n + 1 - (i + 1), by omega, h₄, tk₄, res, i + 1, o₂, o₃, _, e, rfl, st₄, .skip cr hP hpv, hlt, rfl, wd₄, hns₄, kp₄⟩
    | true =>
      simp only [if_true]
      refine wpAny_mono (elts i v h₄ tk₄ hlt hP hpv (wC.keep k₄)) (fun y s₅ x₅ => ?_) fun _ _ x => x.elim
      obtain ⟨own, h₅, tk₅, rfl, k₅, n₅, hG⟩ := x₅
      have wd₅ := wd₄.more k₅ n₅
      have wd₅' : Wd h₀ L l ((I, o₂) :: (D, lO (res.map (·.1)) e) :: (C, o₃) :: ((res ++ [(y, own)]).flatMap (·.2) ++ news)) h₅ := by
        refine wd₅.perm ?_
        rw [List.flatMap_append]
        simp only [List.flatMap_cons, List.flatMap_nil, List.append_nil]
        have p1 : (res.flatMap (·.2) ++ own ++ news).Perm (own ++ (res.flatMap (·.2) ++ news)) := by
          rw [List.append_assoc]
          exact List.perm_append_comm_assoc _ _ _
        refine ((p1.cons _).cons _).cons _ |>.trans ?_
        have := List.perm_middle (a := (I, o₂)) (l₁ := own) (l₂ := (D, lO (res.map (·.1)) e) :: (C, o₃) :: (res.flatMap (·.2) ++ news))
        refine List.Perm.trans ?_ this.symm
        refine List.Perm.cons _ ?_
        refine List.Perm.trans ?_ (List.perm_middle (a := (D, lO (res.map (·.1)) e)) (l₁ := own)).symm
        exact List.Perm.cons _ (List.perm_middle (a := (C, o₃)) (l₁ := own)).symm
      have hD5 := wd₅'.geti 1 rfl
      refine append_at (s := At g h₅ tk₅) hD5 (fun h₆ hs₆ ho₆ => ?_) (by rw [List.size_toArray, List.length_map, sizeLine_eq]; have := cr.len; omega)
      refine ⟨n + 1 - (i + 1), by omega, h₆, tk₅, res ++ [(y, own)], i + 1, o₂, o₃, _, e + 1, rfl, ?_, .take cr hP hpv hG, hlt, rfl, ?_, (hns₄.keeps k₅).sameBut hs₆ (Ne.symm hDC), ?_⟩
      · refine Wk.frame _ _ _ st₄ fun b hb ob eb => ?_
        rcases hfp b hb with rfl | ⟨o₀, e₀⟩
        · exact hs₆.extBut _ _ (Ne.symm (ndI _ (.head _))) (k₅ _ _ eb)
        · exact hs₆.extBut _ _ (hDn _ _ (hide_sub e₀).2) (k₅ _ _ eb)
      · have wd₆ := wd₅'.upd 1 (o' := lO ((res ++ [(y, own)]).map (·.1)) (e + 1)) rfl (fun b ob hb e => hs₆.extBut b ob hb e) (by rw [ho₆]; simp)
        exact wd₆
      · exact fun b o hb eb => hs₆.extBut b o (hDn b o eb) (k₅ b o (kp₄ b o hb eb))
  · have hin : i = n := by omega
    subst hin
    refine Wk.done _ _ _ st' fun h₂ tk₂ hk₂ => ?_
    exact hR h₂ tk₂ res e oC' m' cr (wd'.drop hk₂) (hns'.at' fun o e => hk₂ _ o (by simpa using hCI) e)
end
end
section
section
variable {prog : Program} {w : World} {A : Around} {g : Shared} {h₀ h : Heap} {tk : Nat} {L : Addr} {l : List (Str × Value)} {news : List (Addr × Obj)} {env : Env} {K : Frag} {k : Nat}

/-- a comprehension's parts, its source opened as the iterator it -/
def CompAt (prog : Program) (w : World) (A : Around) (g : Shared) (env : Env) (h₀ : Heap) (L : Addr) (l : List (Str × Value)) (elt : Expr) (x : Str) (ifs : List Expr) (scope : Scope) (cl : List (Str × Addr))
    (Q : List (Addr × Obj) → Addr → Heap → Nat → Prop) (it : Value) (s₂ : Shared) : Prop :=
  ∃ (I : Addr) (fp : List Addr) (n : Nat) (P : Nat → Value → Prop) (St : Nat → Heap → Prop) (oI : Obj) (h : Heap) (tk : Nat) (news : List (Addr × Obj)) (p : Nat → Value → Bool) (G : Nat → Value → Value → List (Addr × Obj) → Prop),
    it = .ref I ∧ s₂ = At g h tk ∧ Walks prog w A I fp [I] n P St ∧ (∀ i h, St i h → ∃ o, h.get? I = some o) ∧ n < 100000 ∧ St 0 h ∧ (∀ b ∈ fp, b = I ∨ ∃ o, (hide h I).get? b = some o) ∧ Wd h₀ L l ((I, oI) :: news) h ∧
    (∀ C i v h' tk', i < n → P i v → Wd (hide h I) C [(x, v)] [] h' →
      wpAny (model prog w) A (forIn ifs true fun c r => if r = true then do let ok ← isTrue c (compEnvC scope cl C env) (eval c (compEnvC scope cl C env)); pure (ForInStep.yield ok) else pure (ForInStep.yield r)) (fun ok s' => ok = p i v ∧ ∃ h'' tk'', s' = At g h'' tk'' ∧ Kept h' h'') NoE (At g h' tk')) ∧
    (∀ C i v h' tk', i < n → P i v → p i v = true → Wd (hide h I) C [(x, v)] [] h' →
      wpAny (model prog w) A (eval elt (compEnvC scope cl C env)) (fun y s' => ∃ own h'' tk'', s' = At g h'' tk'' ∧ Kept h' h'' ∧ NewIn h' h'' own ∧ G i v y own) NoE (At g h' tk')) ∧
    (∀ D h' tk' res e, CR P p G n res → Wd h₀ L l ((D, lO (res.map (·.1)) e) :: (res.flatMap (·.2) ++ news)) h' → Q ((D, lO (res.map (·.1)) e) :: (res.flatMap (·.2) ++ news)) D h' tk')

theorem Wd.drop1 {I : Addr} {q : Addr × Obj} {o : Obj} {h₁ : Heap} (wd : Wd h₀ L l (q :: (I, o) :: news) h) (hk : ∀ b o, b ≠ I → h.get? b = some o → h₁.get? b = some o) : Wd h₀ L l (q :: news) h₁ :=
  (wd.perm (news' := (I, o) :: q :: news) (List.Perm.swap _ _ _)).drop fun b o hb e => hk b o (by simpa using hb) e

theorem compBlockW {elt iter : Expr} {x : Str} {px : Pos} {ifs : List Expr} {scope : Scope} {cl : List (Str × Addr)} {pos : Pos} {it : Value} {s₂ : Shared} {Qc : List (Addr × Obj) → Addr → Heap → Nat → Prop} {RR : Value → Addr → Result → Shared → Prop}
    (hcell : ∀ y ∈ scope.names, y.2 ≠ .cell) (hkind : scope.kind = .function) (hx : scope.names.lookup x = some .local)
    (hc : CompAt prog w A g env h₀ L l elt x ifs scope cl Qc it s₂)
    (hRR : ∀ D C h' tk' oC m own, Wd h₀ L l (own.headD (D, lO [] 0) :: (C, oC) :: own.tail) h' → own ≠ [] → (own.headD (D, lO [] 0)).1 = D → h'.Ns C m → (∀ h'', Wd h₀ L l own h'' → ∀ tk'', Qc own D h'' tk'') → RR (.ref D) C (.ok .next) (At g h' tk')) :
    wpAny (model prog w) A (newList []) (fun acc s₃ => wpAny (model prog w) A (newFunctionEnv scope env.globals cl [] env.qual none .none (some env)) (fun cenv s₄ =>
      codeAny (model prog w) A (.compStart (.ListComp elt [⟨.Name x px, iter, ifs, 0⟩] scope pos) 0 it acc { cenv with scope := relabel scope env }) (RR acc cenv.locals) s₄) NoE s₃) NoE s₂ := by
  obtain ⟨I, fp, n, P, St, oI, h, tk, news, p, G, rfl, rfl, Wk, hlive, hn, st, hfp, wd, tests, elts, done⟩ := hc
  refine wpAny_newObj_type (s := At g h tk) (wpAny_newFunctionEnv hcell (by intro y hy; simp at hy) (fun h₁ hns₁ hsb₁ => ?_) hkind)
  dsimp only at hns₁ hsb₁ ⊢
  have wdD := wd.push (lO [] 0)
  generalize hH2 : h.push { cls := .type "list", dict := none, data := .seq ([] : List Value).toArray } = H2 at hns₁ hsb₁ ⊢
  have hH2' : h.push (lO [] 0) = H2 := hH2
  rw [hH2'] at wdD
  have hC : H2.objs.size = h.objs.size + 1 := by rw [← hH2, Heap.size_push]
  have hDC : h.objs.size ≠ H2.objs.size := by rw [hC]; exact Nat.ne_of_lt (Nat.lt_succ_self _)
  obtain ⟨oC, es, ep, hoC, rC⟩ := id hns₁
  have kH : Kept h H2 := fun b o e => hH2 ▸ Heap.get?_push_of_some _ e
  have kp : Kept H2 h₁ := fun b o e => hsb₁.extBut b o (Nat.ne_of_lt (Heap.lt_size e)) (Heap.get?_push_of_some _ e)
  have wdC : Wd h₀ L l ((H2.objs.size, oC) :: (h.objs.size, lO [] 0) :: (I, oI) :: news) h₁ := by
    refine (wdD.more (own := [(H2.objs.size, oC)]) kp ⟨fun q hq => ?_, by simp⟩)
    rw [List.mem_singleton] at hq
    subst hq
    refine ⟨?_, hoC⟩
    cases e : H2.get? H2.objs.size with
    | none => rfl
    | some o' => exact absurd (Heap.lt_size e) (Nat.lt_irrefl _)
  have wd₁ : Wd h₀ L l ((I, oI) :: (h.objs.size, lO [] 0) :: (H2.objs.size, oC) :: news) h₁ := by
    refine wdC.perm ?_
    refine (List.Perm.swap _ _ _).trans ?_
    refine ((List.Perm.swap _ _ _).cons _).trans ?_
    exact List.Perm.swap _ _ _
  have hk₁ : ∀ b o, b ≠ I → h.get? b = some o → h₁.get? b = some o := fun b o _ e => kp b o (kH b o e)
  have st₁ : St 0 h₁ := Wk.frame _ _ _ st fun b _ o e => kp b o (kH b o e)
  have loop : ∀ tk', codeAny (model prog w) A (.compLoop (.ListComp elt [⟨.Name x px, iter, ifs, 0⟩] scope pos) 0 (.ref I) (.ref h.objs.size) (compEnvC scope cl H2.objs.size env)) (RR (.ref h.objs.size) H2.objs.size) (At g h₁ tk') := by
    intro tk'
    refine compLoopW (h := h) (C := H2.objs.size) (cenv := compEnvC scope cl H2.objs.size env) Wk hlive p G rfl (lookup_relabel_local hx) (by simp [compEnvC, relabel, hkind]) hn hfp (by rw [hC]; exact Nat.le_succ _)
      (fun b o e => Nat.ne_of_lt (Heap.lt_size e)) wd₁ hns₁ st₁ hk₁ (tests _) (elts _) ?_
    intro h' tk'' res e oC' m' cr wd' hns'
    exact hRR _ _ h' tk'' oC' m' ((h.objs.size, lO (res.map (·.1)) e) :: (res.flatMap (·.2) ++ news)) wd' (by simp) rfl hns' fun h'' wd'' tk''' => done _ h'' tk''' res e cr wd''
  exact codeAny_compStart_list (loop _) (Wk.self 0 _ _ _ st₁ (loop _))

theorem r_comp {elt iter : Expr} {x : Str} {px : Pos} {ifs : List Expr} {scope : Scope} {cl : List (Str × Addr)} {pos : Pos} {Q : Value → Shared → Prop} (_wd : Wd h₀ L l news h)
    (hclos : closureFor scope env = pure cl) (hcell : ∀ y ∈ scope.names, y.2 ≠ .cell) (hkind : scope.kind = .function)
    (hnames : ∀ y ∈ scope.names, y.2 = .local → scope.names.lookup y.1 = some .local) (hx : scope.names.lookup x = some .local)
    (hs : ∀ x, foldedSetIterable iter env x = pure x)
    (hq : wpAny (model prog w) A (eval iter env) (fun xv s₁ => wpAny (model prog w) A (pyIter xv) (CompAt prog w A g env h₀ L l elt x ifs scope cl fun own D h' tk' => Wd h₀ L l own h' → Q (.ref D) (At g h' tk')) NoE s₁) NoE (At g h tk)) :
    wpAny (model prog w) A (eval (.ListComp elt [⟨.Name x px, iter, ifs, 0⟩] scope pos) env) Q NoE (At g h tk) := by
  rw [eval_ListComp]
  refine wpAny_comprehension_free (use := none) rfl hs hclos hkind hnames (wpAny_mono hq (fun xv s₁ h₁ => wpAny_mono h₁ (fun it s₂ h₂ => ?_) fun _ _ e => e) fun _ _ e => e)
  refine compBlockW (RR := fun acc C => compPost (model prog w) A NoE none Q acc C) hcell hkind hx h₂ ?_
  intro D C h' tk' oC m own wd hne hD hns hQ
  refine ⟨m, hns, fun h'' hs'' => ?_⟩
  have wd' : Wd h₀ L l own h'' := by
    have := wd.drop1 (h₁ := h'') fun b o hb e => hs''.extBut b o hb e
    cases own with
    | nil => exact absurd rfl hne
    | cons a r => exact this
  exact hQ h'' wd' _ wd'

theorem s_comp {elt iter : Expr} {x y : Str} {px py : Pos} {ifs : List Expr} {scope : Scope} {cl : List (Str × Addr)} {pos spos : Pos} {rest : List Stmt} {Q : Flow → Shared → Prop} (_wd : Wd h₀ env.locals l news h)
    (hsw : swapsWith (.ListComp elt [⟨.Name x px, iter, ifs, 0⟩] scope pos) (some (.Name y py)) spos.line env = pure true)
    (hclos : closureFor scope env = pure cl) (hcell : ∀ z ∈ scope.names, z.2 ≠ .cell) (hkind : scope.kind = .function)
    (hnames : ∀ z ∈ scope.names, z.2 = .local → scope.names.lookup z.1 = some .local) (hx : scope.names.lookup x = some .local)
    (hy : env.kindOf y = some .local) (hp : (env.scope.kind == .class || (env.scope.kind == .module && env.locals != env.globals)) = false)
    (hs : ∀ x, foldedSetIterable iter env x = pure x)
    (hq : wpAny (model prog w) A (eval iter env) (fun xv s₁ => wpAny (model prog w) A (pyIter xv) (CompAt prog w A g env h₀ env.locals l elt x ifs scope cl fun own D _ _ => ∀ h'' tk'', Wd h₀ env.locals ((y, .ref D) :: l) own h'' → wpAny (model prog w) A (execs rest env) Q NoE (At g h'' tk'')) NoE s₁) NoE (At g h tk)) :
    wpAny (model prog w) A (execs (.Assign [.Name y py] (.ListComp elt [⟨.Name x px, iter, ifs, 0⟩] scope pos) spos :: rest) env) Q NoE (At g h tk) := by
  refine wpAny_execs_cons ?_
  rw [exec_Assign_Name_used _ _ _ _ hsw]
  refine wpAny_bind (wpAny_standAt (wpAny_bind ?_))
  show wpAny _ A (do let _ ← comprehension (.ListComp elt [⟨.Name x px, iter, ifs, 0⟩] scope pos) scope env _ (newList []) false (eval iter env) (some (assign (.Name y py) env))) _ _ _
  refine wpAny_bind (wpAny_mono (wpAny_comprehension_free (use := some (assign (.Name y py) env)) (Q := fun _ s' => wpAny (model prog w) A (execs rest env) Q NoE s') rfl hs hclos hkind hnames
    (wpAny_mono hq (fun xv s₁ h₁ => wpAny_mono h₁ (fun it s₂ h₂ => ?_) fun _ _ e => e) fun _ _ e => e)) (fun _ s' hq => wpAny_pure (wpAny_pure hq)) fun _ _ e => e)
  refine compBlockW (RR := fun acc C => compPost (model prog w) A NoE (some (assign (.Name y py) env)) (fun _ s' => wpAny (model prog w) A (execs rest env) Q NoE s') acc C) hcell hkind hx h₂ ?_
  intro D C h' tk' oC m own wd hne hD hns hQ
  show wpAny _ A (assign (.Name y py) env (.ref D)) _ _ _
  refine wpAny_assign_Name (st_loc wd hy hp fun h₃ tk₃ wd₃ => ?_)
  have hns₃ : h₃.Ns C m := hns.at' fun o e => by
    have := wd.geti 1 rfl
    rw [e] at this; cases this; exact wd₃.geti 1 rfl
  refine ⟨m, hns₃, fun h'' hs'' => ?_⟩
  have wd' : Wd h₀ env.locals ((y, .ref D) :: l) own h'' := by
    have := wd₃.drop1 (h₁ := h'') fun b o hb e => hs''.extBut b o hb e
    cases own with
    | nil => exact absurd rfl hne
    | cons a r => exact this
  have wd0 : Wd h₀ env.locals l own h' := by
    have := wd.drop1 (h₁ := h') fun b o _ e => e
    cases own with
    | nil => exact absurd rfl hne
    | cons a r => exact this
  exact hQ h' wd0 tk' h'' _ wd'
end
end
section
section
variable {prog : Program} {w : World} {A : Around} {g : Shared} {h₀ h : Heap} {tk : Nat} {L : Addr} {l : List (Str × Value)} {news : List (Addr × Obj)} {env : Env} {K : Frag} {k : Nat}

-- calls of the text's defs
section
variable {name qual : Str} {params : Arguments} {body : List Stmt} {scope : Scope} {dV kV doc pm cdv ct oc : Value} {an od : Option Addr} {osl : Array (Option Value)} {f : Addr} {args : List Value} {kw : List (Str × Value)} {binds : List (Str × Value)} {Q : Value → Shared → Prop}

theorem callF (bs : Bs K h) (rm : Room A (k + 1)) (ho : K.lookup f = some ⟨oc, od, .func (fnOf name qual params body scope dV kV doc pm an cdv ct), osl⟩) (hcd : codeIn K cdv qual = true)
    (hbind : BindsTo (At g h tk) (fnOf name qual params body scope dV kV doc pm an cdv ct) ⟨args, kw⟩ binds) (hcell : ∀ x ∈ scope.names, x.2 ≠ .cell) (hloc : ∀ x ∈ binds, scope.names.lookup x.1 = some .local)
    (hco : scope.isCoroutine = false) (hgen : scope.isGenerator = false) (hk : scope.kind = .function) (hide : List (Addr × Obj)) (hh : ∀ p ∈ hide, h.get? p.1 = some p.2) (hnd : (hide.map (·.1)).Nodup)
    (H : ∀ L h₁ tk₁, Wd (hideAll h (hide.map (·.1))) L binds.reverse hide h₁ → Room (A.deeper (envX qual scope L f cdv [])) k →
      wpAny (model prog w) (A.deeper (envX qual scope L f cdv [])) (execs body (envX qual scope L f cdv [])) (fun fl s' => Q (match fl with | .ret v => v | _ => .none) s') NoE (At g h₁ tk₁)) :
    wpAny (model prog w) A (call (.ref f) args kw) Q NoE (At g h tk) := by
  refine wpAny_call (codeAny_call_def (s := At g h tk) (fd := fnOf name qual params body scope dV kV doc pm an cdv ct) (body := body) (binds := binds) rm.depth (bs.k _ _ ho) rfl bs.lim (codeRec_of bs.k hcd) rfl hbind hcell hloc (fun h₁ hns hk₁ => ?_) hco hgen hk)
  refine wpAny_mono (H h.objs.size h₁ _ ⟨⟨_, ⟨hns, fun b o e => hk₁ b o (of_hideAll _ e), Nat.le_of_eq (hideAll_size _ _)⟩, fun _ _ e => e⟩, fun p hp => ⟨hk₁ _ _ (hh p hp), Nat.ne_of_lt (Heap.lt_size (hh p hp)), hideAll_none _ (List.mem_map_of_mem hp)⟩, hnd⟩ (rm.deeper _)) (fun _ _ x => x) fun _ _ x => x.elim

theorem callC (bs : Bs K h) (rm : Room A (k + 1)) (ho : K.lookup f = some ⟨oc, od, .func (fnOf name qual params body scope dV kV doc pm an cdv ct), osl⟩) (hcd : codeIn K cdv qual = true)
    (hbind : BindsTo (At g h tk) (fnOf name qual params body scope dV kV doc pm an cdv ct) ⟨args, kw⟩ binds) (hloc : ∀ x ∈ binds, scope.names.lookup x.1 = some .local)
    (hco : scope.isCoroutine = false) (hgen : scope.isGenerator = false) (hk : scope.kind = .function) (hnd : ((cellsFrom 0 scope.names []).map (·.1)).Nodup)
    (hbl : ∀ x v, binds.reverse.lookup x = some v → bindL (fun y => scope.names.lookup y) binds (fun _ => none) x = some v) (hbc : bindC (fun y => scope.names.lookup y) binds (fun _ => none) = fun _ => none)
    (H : ∀ L h₁ tk₁ cells, Wd h L binds.reverse cells h₁ → CellsAre (fun _ => none) (cellsFrom (L + 1) scope.names []) cells → Room (A.deeper (envX qual scope L f cdv (cellsFrom (L + 1) scope.names []))) k →
      wpAny (model prog w) (A.deeper (envX qual scope L f cdv (cellsFrom (L + 1) scope.names []))) (execs body (envX qual scope L f cdv (cellsFrom (L + 1) scope.names []))) (fun fl s' => Q (match fl with | .ret v => v | _ => .none) s') NoE (At g h₁ tk₁)) :
    wpAny (model prog w) A (call (.ref f) args kw) Q NoE (At g h tk) := by
  refine wpAny_call (codeAny_call_function (s := At g h tk) rm.depth (bs.k _ _ ho) rfl hco hgen rfl (codeRec_of bs.k hcd) (hbind _ _ _ _ ?_))
  refine wpAny_newFunctionEnv_cells hk (fun x hx => .inl (hloc x hx)) fun env' he s' x => ?_
  subst he
  refine ⟨bs.lim.keeps x.toInCall.keep, codeAny_func ?_⟩
  obtain ⟨h₁, tk₁, rfl, _⟩ := x.done
  have hk₁ := x.toInCall.keep
  have hns := x.toInCall.ns
  obtain ⟨cells, NC, Y⟩ := Cl.news (h₀ := h) (Nat.le_refl _) fun n c hm => ⟨x.cell n c (lookup_of_mem_nodup (cellsFrom_names scope.names 0 (h.objs.size + 1) [] [] rfl ▸ hnd) hm), x.above n c hm⟩
  have hb2 : bindC (newEnv scope h.objs.size mainGlobals (cellsFrom (h.objs.size + 1) scope.names []) (qual ++ ".<locals>.") (some f) cdv none builtinsNs).kindOf binds (fun _ => none) = fun _ => none := hbc
  have nd : (cells.map (·.1)).Nodup := by
    have : ∀ {cm} {cs : List (Str × Addr)} {cells : List (Addr × Obj)}, CellsAre cm cs cells → cells.map (·.1) = cs.map (·.2) := by
      intro cm cs cells X
      induction X with
      | nil => rfl
      | cons _ _ ih => simp [ih]
    rw [this Y]
    have := x.apart
    exact List.pairwise_map.mpr this
  refine wpAny_mono (H h.objs.size h₁ tk₁ cells ⟨⟨_, ⟨hns, hk₁, Nat.le_refl _⟩, fun y v e => hbl y v e⟩, NC, nd⟩ (hb2 ▸ Y) (rm.deeper _)) (fun _ _ x => x) fun _ _ x => x.elim
end

-- displays
theorem a_nil {pos : Pos} {Q : List Value → Shared → Prop} (hq : Q [] (At g h tk)) : wpAny (model prog w) A (spliced (backTo pos (starEach [] env))) Q NoE (At g h tk) := spliced_none hq
theorem a_cons {e : Expr} {rest : List Expr} {pos : Pos} {Q : List Value → Shared → Prop} (he : starEach (e :: rest) env = (false, eval e env) :: starEach rest env)
    (hq : wpAny (model prog w) A (eval e env) (fun v s₁ => wpAny (model prog w) A (spliced (backTo pos (starEach rest env))) (fun vs s₂ => Q (v :: vs) s₂) NoE s₁) NoE (At g h tk)) :
    wpAny (model prog w) A (spliced (backTo pos (starEach (e :: rest) env))) Q NoE (At g h tk) := spliced_more hq he
theorem r_list {elts : List Expr} {pos : Pos} {Q : Value → Shared → Prop} (hq : wpAny (model prog w) A (spliced (backTo pos (starEach elts env))) (fun vs s₁ => wpAny (model prog w) A (newList vs) Q NoE s₁) NoE (At g h tk)) :
    wpAny (model prog w) A (eval (.List elts pos) env) Q NoE (At g h tk) := List_ hq
theorem r_tup {elts : List Expr} {kk : Nat} {pos : Pos} {Q : Value → Shared → Prop} (hq : wpAny (model prog w) A (spliced (backTo pos (starEach elts env))) (fun vs s₁ => wpAny (model prog w) A (newTuple vs) Q NoE s₁) NoE (At g h tk)) :
    wpAny (model prog w) A (eval (.Tuple elts kk pos) env) Q NoE (At g h tk) := Tuple_ hq
theorem push_new (h : Heap) (o : Obj) (hf : o.isFreed = false := by rfl) : Kept h (h.push o) ∧ NewIn h (h.push o) [(h.objs.size, o)] := by
  refine ⟨fun b ob e => Heap.get?_push_of_some _ e, fun p hp => ?_, by simp⟩
  rw [List.mem_singleton] at hp
  subst hp
  refine ⟨?_, Heap.get?_push_size _ hf⟩
  cases e : h.get? h.objs.size with
  | none => rfl
  | some o' => exact absurd (Heap.lt_size e) (Nat.lt_irrefl _)
theorem n_list {vs : List Value} {Q : Value → Shared → Prop} (hz : vs.length < 100000) (hq : ∀ d h', Kept h h' → NewIn h h' [(d, lO vs 0)] → Q (.ref d) (At g h' tk)) : wpAny (model prog w) A (newList vs) Q NoE (At g h tk) :=
  wpAny_newObj_type (s := At g h tk) (hq _ _ (push_new h (lO vs 0)).1 (push_new h (lO vs 0)).2) (by show vs.toArray.size ≤ sizeLine; rw [List.size_toArray, sizeLine_eq]; omega)
theorem n_tup {vs : List Value} {Q : Value → Shared → Prop} (hz : vs.length < 100000) (hq : ∀ d h', Kept h h' → NewIn h h' [(d, tO vs 0)] → Q (.ref d) (At g h' tk)) : wpAny (model prog w) A (newTuple vs) Q NoE (At g h tk) :=
  wpAny_newObj_type (s := At g h tk) (hq _ _ (push_new h (tO vs 0)).1 (push_new h (tO vs 0)).2) (by show vs.toArray.size ≤ sizeLine; rw [List.size_toArray, sizeLine_eq]; omega)

-- operators
theorem r_bin {a b : Expr} {op : Operator} {pos : Pos} {Q : Value → Shared → Prop} (hq : wpAny (model prog w) A (eval a env) (fun x s₁ => wpAny (model prog w) A (eval b env) (fun y s₂ => wpAny (model prog w) A (binaryOp op x y) Q NoE s₂) NoE s₁) NoE (At g h tk)) :
    wpAny (model prog w) A (eval (.BinOp a op b pos) env) Q NoE (At g h tk) := wpAny_BinOp hq
theorem r_cmp {a b : Expr} {op : CmpOp} {pos : Pos} {Q : Value → Shared → Prop} (hm : behindInMarks op b = false) (hq : wpAny (model prog w) A (eval a env) (fun x s₁ => wpAny (model prog w) A (eval b env) (fun y s₂ => wpAny (model prog w) A (compareOp op x y) Q NoE s₂) NoE s₁) NoE (At g h tk)) :
    wpAny (model prog w) A (eval (.Compare a [op] [b] pos) env) Q NoE (At g h tk) := wpAny_Compare1 hq hm
theorem i_cmp {a b : Expr} {op : CmpOp} {pos : Pos} {whole : Sem Value} {Q : Bool → Shared → Prop} (hm : behindInMarks op b = false) (hq : wpAny (model prog w) A (eval a env) (fun x s₁ => wpAny (model prog w) A (eval b env) (fun y s₂ => wpAny (model prog w) A (compareOp op x y) (fun c s₃ => wpAny (model prog w) A (truthy c) Q NoE s₃) NoE s₂) NoE s₁) NoE (At g h tk)) :
    wpAny (model prog w) A (isTrue (.Compare a [op] [b] pos) env whole) Q NoE (At g h tk) := wpAny_isTrue_Compare1 hq hm
theorem i_val {e : Expr} {whole : Sem Value} {Q : Bool → Shared → Prop} (he : isTrue e env whole = (do let v ← whole; standAt e.pos; holding [v] (truthy v))) (hq : wpAny (model prog w) A whole (fun v s₁ => wpAny (model prog w) A (truthy v) Q NoE s₁) NoE (At g h tk)) :
    wpAny (model prog w) A (isTrue e env whole) Q NoE (At g h tk) := wpAny_isTrue_value hq he
theorem r_ite {test body orelse : Expr} {pos : Pos} {Q : Value → Shared → Prop} (hq : wpAny (model prog w) A (isTrue test env (eval test env)) (fun b s₁ => if b then wpAny (model prog w) A (eval body env) Q NoE s₁ else wpAny (model prog w) A (eval orelse env) Q NoE s₁) NoE (At g h tk)) :
    wpAny (model prog w) A (eval (.IfExp test body orelse pos) env) Q NoE (At g h tk) := wpAny_IfExp hq

-- subscripts
theorem r_sub {value slice : Expr} {pos : Pos} {Q : Value → Shared → Prop} (hq : wpAny (model prog w) A (eval value env) (fun o s₁ => wpAny (model prog w) A (eval slice env) (fun i s₂ => wpAny (model prog w) A (subscriptTail value slice o i) Q NoE s₂) NoE s₁) NoE (At g h tk)) :
    wpAny (model prog w) A (eval (.Subscript value slice pos) env) Q NoE (At g h tk) := Subscript_ hq
theorem b_list {value slice : Expr} {a : Addr} {vs : List Value} {n : Nat} {i : Int} {u : Tok} {v : Value} {Q : Value → Shared → Prop} (ho : h.get? a = some (lO vs n)) (h0 : 0 ≤ i) (h1 : i < 100000) (hv : vs[i.toNat]? = some v)
    (hs : subscripted slice false (.ref a) (.int i u) = operate [.ref a, .int i u] (getItem (.ref a) (.int i u))) (hq : Q v (At g h tk)) : wpAny (model prog w) A (subscriptTail value slice (.ref a) (.int i u)) Q NoE (At g h tk) :=
  have hL : (At g h tk).heap.IsList a vs.toArray := ⟨_, ho, rfl, n, rfl⟩
  tail_any (s := At g h tk) hL.typeIs slot_list_getitem.lookup (wpAny_getItem_list hL h0 (by omega) (by simpa using hv) hq) hs
theorem b_str {value slice : Expr} {x : Str} {t u : Tok} {i : Int} {Q : Value → Shared → Prop} (h0 : 0 ≤ i) (h1 : i < x.length) (h2 : i < 100000)
    (hs : subscripted slice false (.str x t) (.int i u) = operate [.str x t, .int i u] (getItem (.str x t) (.int i u))) (ht : ∀ r, letTemporaryGo value (.str x t) r = pure ())
    (hq : ∀ t' tk', Q (.str (Txt.item x i) t') (At g h tk')) : wpAny (model prog w) A (subscriptTail value slice (.str x t) (.int i u)) Q NoE (At g h tk) :=
  item_str (s := At g h tk) (fitsSsize_of (N := 9223372036854775808) (by omega) (by omega) (Int.le_refl _)) (by omega) h1 (fun _ => hq _ _) hs ht

-- methods
theorem r_meth {o : Expr} {nm : Str} {apos pos : Pos} {args : List Expr} {T id : String} {Q : Value → Shared → Prop} (pa : PlainAttrs T) (slot : Slot T nm id) (hty : typeOf (.builtin id) = pure (.type "method_descriptor"))
    (hbase : attributeBase o nm env (eval o env) = eval o env)
    (hfew : ((backTo pos (starEach args env)).all (fun x => !x.1) && (backToKw pos (keywordEach [] env)).all (fun x => x.1.isSome) && decide (args.length + ([] : List Keyword).length + (if ([] : List Keyword).isEmpty then 0 else 1) < 30)) = true)
    (hline : (apos.endLine == pos.line) = true)
    (hq : wpAny (model prog w) A (eval o env) (fun ov s₁ => s₁.TypeIs ov T ∧ (∀ a, ov = .ref a → ∃ ob, s₁.heap.get? a = some ob ∧ ob.dict = none) ∧
      wpAny (model prog w) A (callWith pos (.builtin id) [ov] (backTo pos (starEach args env)) []) Q NoE s₁) NoE (At g h tk)) :
    wpAny (model prog w) A (eval (.Call (.Attribute o nm apos) args [] pos) env) Q NoE (At g h tk) := wpAny_Call_method hbase hfew hline pa slot hty hq
theorem tyL {a : Addr} {vs : List Value} {n : Nat} (ho : h.get? a = some (lO vs n)) : (At g h tk).TypeIs (.ref a) "list" ∧ (∀ b, Value.ref a = .ref b → ∃ ob, (At g h tk).heap.get? b = some ob ∧ ob.dict = none) :=
  ⟨⟨_, ho, rfl⟩, fun b e => by cases e; exact ⟨_, ho, rfl⟩⟩
theorem tyS {x : Str} {t : Tok} : (At g h tk).TypeIs (.str x t) "str" ∧ (∀ b, Value.str x t = .ref b → ∃ ob, (At g h tk).heap.get? b = some ob ∧ ob.dict = none) :=
  ⟨rfl, fun b e => by cases e⟩
theorem m_call0 {pos : Pos} {id : String} {first : List Value} {Q : Value → Shared → Prop} (hq : wpAny (model prog w) A (call (.builtin id) first) Q NoE (At g h tk)) :
    wpAny (model prog w) A (callWith pos (.builtin id) first (backTo pos (starEach [] env)) []) Q NoE (At g h tk) := callWith_method0 hq
theorem m_call {pos : Pos} {id : String} {first : List Value} {e : Expr} {rest : List Expr} {Q : Value → Shared → Prop}
    (he : starEach (e :: rest) env = (false, eval e env) :: starEach rest env) (hplain : (backTo pos (starEach rest env)).any (·.1) = false)
    (hq : wpAny (model prog w) A (spliced (backTo pos (starEach (e :: rest) env))) (fun vs s₁ => wpAny (model prog w) A (call (.builtin id) (first ++ vs)) Q NoE s₁) NoE (At g h tk)) :
    wpAny (model prog w) A (callWith pos (.builtin id) first (backTo pos (starEach (e :: rest) env)) []) Q NoE (At g h tk) := callWith_method1 hq he hplain
theorem m_type {pos : Pos} {T : String} {e : Expr} {rest : List Expr} {Q : Value → Shared → Prop}
    (he : starEach (e :: rest) env = (false, eval e env) :: starEach rest env) (hplain : (backTo pos (starEach rest env)).any (·.1) = false)
    (hq : wpAny (model prog w) A (spliced (backTo pos (starEach (e :: rest) env))) (fun vs s₁ => wpAny (model prog w) A (call (.type T) vs) Q NoE s₁) NoE (At g h tk)) :
    wpAny (model prog w) A (callWith pos (.type T) [] (backTo pos (starEach (e :: rest) env)) []) Q NoE (At g h tk) := Pv.callWith_type1 hq he hplain
theorem m_fn {pos : Pos} {f : Value} {e : Expr} {rest : List Expr} {Q : Value → Shared → Prop} (bs : Bs K h) (hk : keepIn K f = true)
    (he : starEach (e :: rest) env = (false, eval e env) :: starEach rest env) (hplain : (backTo pos (starEach rest env)).any (·.1) = false)
    (hq : wpAny (model prog w) A (spliced (backTo pos (starEach (e :: rest) env))) (fun vs s₁ => K.In s₁.heap ∧ wpAny (model prog w) A (call f vs) Q NoE s₁) NoE (At g h tk)) :
    wpAny (model prog w) A (callWith pos f [] (backTo pos (starEach (e :: rest) env)) []) Q NoE (At g h tk) := callWith_K bs.k hk hq he hplain
theorem r_call {id : Str} {p pos : Pos} {args : List Expr} {Q : Value → Shared → Prop} (hq : wpAny (model prog w) A (eval (.Name id p) env) (fun f s₁ => wpAny (model prog w) A (callWith pos f [] (backTo pos (starEach args env)) []) Q NoE s₁) NoE (At g h tk)) :
    wpAny (model prog w) A (eval (.Call (.Name id p) args [] pos) env) Q NoE (At g h tk) := wpAny_Call_NameR hq

-- built-ins
theorem f_len {a : Addr} {vs : List Value} {n : Nat} {Q : Value → Shared → Prop} (ho : h.get? a = some (lO vs n)) (hz : vs.length < 100000) (hq : ∀ t tk', Q (.int vs.length t) (At g h tk')) : wpAny (model prog w) A (call (.builtin "len") [.ref a]) Q NoE (At g h tk) := by
  refine call_len_list (s := At g h tk) (items := vs.toArray) ⟨_, ho, rfl, n, rfl⟩ (by simp; omega) ?_
  rw [List.size_toArray]; exact hq _ _
theorem f_join {a : Addr} {vs : List Value} {n : Nat} {ys : List Str} {t : Tok} {Q : Value → Shared → Prop} (ho : h.get? a = some (lO vs n)) (hs : StrsAre vs ys) (hz : (ys.map (·.length)).sum + ys.length * 64 ≤ 16777216)
    (hq : ∀ t' tk', Q (.str (Txt.join (Str.ofString "") ys) t') (At g h tk')) : wpAny (model prog w) A (call (.builtin "str.join") [.str (Str.ofString "") t, .ref a]) Q NoE (At g h tk) :=
  join_listC (s := At g h tk) (items := vs.toArray) ⟨_, ho, rfl, n, rfl⟩ (by simpa using hs) (by decide) hz fun t' k => hq t' k

-- iterators
theorem rangeWalks (hh : A.handled = none) (I : Addr) (a c : Int) (n : Nat) : Walks prog w A I [I] [I] n (fun i v => ∃ t, v = .int (a + i * c) t) (fun i h => IsRangeIter h I (a + (i : Nat) * c) ((n : Int) - (i : Nat)) c) := Walks.range hh I a c n
theorem f_rangeObj {a b c : Int} {t u v : Tok} {Q : Value → Shared → Prop} (r : Addr) (hr : IsRange h r a b c t u v) (hsm : Builtin.Range.small a b c = true) (wd : Wd h₀ L l news h)
    (hq : ∀ I o h', Kept h h' → Wd h₀ L l ((I, o) :: news) h' → IsRangeIter h' I a (Builtin.Range.rangeSize a b c) c → Q (.ref I) (At g h' tk)) : wpAny (model prog w) A (pyIter (.ref r)) Q NoE (At g h tk) := by
  refine wpAny_pyIter_range (s := At g h tk) hr hsm ?_
  exact hq _ _ _ (push_new h _).1 (wd.push _) (Heap.get?_push_size _ rfl)
theorem f_listIter {a : Addr} {vs : List Value} {n : Nat} {Q : Value → Shared → Prop} (ho : h.get? a = some (lO vs n)) (wd : Wd h₀ L l news h)
    (hq : ∀ I o h', Kept h h' → Wd h₀ L l ((I, o) :: news) h' → h'.IsListIter I a 0 → Q (.ref I) (At g h' tk)) : wpAny (model prog w) A (pyIter (.ref a)) Q NoE (At g h tk) := by
  refine wpAny_pyIter_list (s := At g h tk) (items := vs.toArray) ⟨_, ho, rfl, n, rfl⟩ ?_
  exact hq _ _ _ (push_new h _).1 (wd.push _) ⟨_, Heap.get?_push_size _ rfl, rfl, rfl⟩
theorem s_for {target iter : Expr} {body orelse : List Stmt} {pos : Pos} {rest : List Stmt} {Q : Flow → Shared → Prop} (hs : ∀ x, foldedSetIterable iter env x = pure x)
    (hq : wpAny (model prog w) A (eval iter env) (fun x s₁ => wpAny (model prog w) A (pyIter x) (fun it s₂ => ∀ X : Value → Shared → Prop,
      codeAny (model prog w) A (.forLoop target it body orelse env) (fun r s' => match r with | .ok f => (match f with | .next => wpAny (model prog w) A (execs rest env) Q NoE s' | f => Q f s') | .error e => X e s') s₂) NoE s₁) NoE (At g h tk)) :
    wpAny (model prog w) A (execs (.For target iter body orelse pos :: rest) env) Q NoE (At g h tk) :=
  wpAny_execs_cons (wpAny_For (wpAny_mono hq (fun x s₁ h₁ => wpAny_mono h₁ (fun it s₂ h₂ => h₂ _) fun _ _ e => e) fun _ _ e => e) hs)
end
end
section
section
variable {prog : Program} {w : World} {A : Around} {g : Shared} {h₀ h : Heap} {tk : Nat} {L : Addr} {l : List (Str × Value)} {news : List (Addr × Obj)} {env : Env} {K : Frag} {k : Nat}
theorem f_range1 {b : Int} {t : Tok} {Q : Value → Shared → Prop} (wd : Wd h₀ L l news h) (hq : ∀ r h' tk' t₁ u₁ v₁, IsRange h' r 0 b 1 t₁ u₁ v₁ → Kept h h' → Wd h₀ L l news h' → Q (.ref r) (At g h' tk')) :
    wpAny (model prog w) A (call (.type "range") [.int b t]) Q NoE (At g h tk) := by
  obtain ⟨m, F, hl⟩ := wd.fr
  exact range1_rows (s := At g h tk) F wd.nw fun h' tk' t₁ u₁ v₁ hr _ _ hk => hq _ h' tk' t₁ u₁ v₁ hr hk (wd.keep hk)
theorem f_range2 {a b : Int} {t u : Tok} {Q : Value → Shared → Prop} (wd : Wd h₀ L l news h) (hq : ∀ r h' tk' t₁ u₁ v₁, IsRange h' r a b 1 t₁ u₁ v₁ → Kept h h' → Wd h₀ L l news h' → Q (.ref r) (At g h' tk')) :
    wpAny (model prog w) A (call (.type "range") [.int a t, .int b u]) Q NoE (At g h tk) := by
  obtain ⟨m, F, hl⟩ := wd.fr
  exact range2_rows (s := At g h tk) F wd.nw fun h' tk' t₁ u₁ v₁ hr _ _ hk => hq _ h' tk' t₁ u₁ v₁ hr hk (wd.keep hk)
theorem f_range3 {a b c : Int} {t u v : Tok} {Q : Value → Shared → Prop} (wd : Wd h₀ L l news h) (hc : c ≠ 0) (hc2 : c.natAbs < 1073741824) (hq : ∀ r h' tk' t₁ u₁ v₁, IsRange h' r a b c t₁ u₁ v₁ → Kept h h' → Wd h₀ L l news h' → Q (.ref r) (At g h' tk')) :
    wpAny (model prog w) A (call (.type "range") [.int a t, .int b u, .int c v]) Q NoE (At g h tk) := by
  obtain ⟨m, F, hl⟩ := wd.fr
  exact range3_rows (s := At g h tk) F wd.nw hc (fun h' tk' t₁ u₁ v₁ hr _ _ hk => hq _ h' tk' t₁ u₁ v₁ hr hk (wd.keep hk)) (.inl (PyProof.noPylong_small hc2))

theorem size_up (a b : Int) : Builtin.Range.rangeSize a b 1 = ((b - a).toNat : Int) := rangeSize_nat a b
theorem size_dn (a b : Int) : Builtin.Range.rangeSize a b (-1) = ((a - b).toNat : Int) := by
  unfold Builtin.Range.rangeSize
  rw [if_neg (by decide)]
  split
  · have : (a - b - 1) / (-(-1)) = a - b - 1 := by rw [Int.neg_neg, Int.ediv_one]
    omega
  · omega
theorem fits_small {a : Int} (ha : -1000000 < a) (ha2 : a < 1000000) : Builtin.Range.rangeFitsLong a = true := by
  unfold Builtin.Range.rangeFitsLong
  simp only [Bool.and_eq_true, decide_eq_true_eq]
  omega
theorem range_small {a b c : Int} (ha : -100000 < a) (ha2 : a < 100000) (hb : -100000 < b) (hb2 : b < 100000) (hc : c = 1 ∨ c = -1) : Builtin.Range.small a b c = true := by
  have hs : -1000000 < Builtin.Range.rangeSize a b c ∧ Builtin.Range.rangeSize a b c < 1000000 := by
    rcases hc with rfl | rfl
    · rw [size_up]; omega
    · rw [size_dn]; omega
  unfold Builtin.Range.small
  rw [fits_small (by omega) (by omega), fits_small (by omega) (by omega), fits_small (a := c) (by omega) (by omega), fits_small hs.1 hs.2]
  have : (if c > 0 then Builtin.Range.rangeFitsLong (b + (c - 1)) else Builtin.Range.rangeFitsLong (b + (c + 1))) = true := by
    split
    · exact fits_small (by omega) (by omega)
    · exact fits_small (by omega) (by omega)
  rw [this]; simp

theorem n_listW {vs : List Value} {Q : Value → Shared → Prop} (wd : Wd h₀ L l news h) (hz : vs.length < 100000) (hq : ∀ d h', Kept h h' → NewIn h h' [(d, lO vs 0)] → Wd h₀ L l ((d, lO vs 0) :: news) h' → Q (.ref d) (At g h' tk)) : wpAny (model prog w) A (newList vs) Q NoE (At g h tk) :=
  n_list hz fun d h' hk hn => hq d h' hk hn (wd.more hk hn)
theorem n_tupW {vs : List Value} {Q : Value → Shared → Prop} (wd : Wd h₀ L l news h) (hz : vs.length < 100000) (hq : ∀ d h', Kept h h' → NewIn h h' [(d, tO vs 0)] → Wd h₀ L l ((d, tO vs 0) :: news) h' → Q (.ref d) (At g h' tk)) : wpAny (model prog w) A (newTuple vs) Q NoE (At g h tk) :=
  n_tup hz fun d h' hk hn => hq d h' hk hn (wd.more hk hn)
/-- the iterator of range(a, b), by ones -/
theorem f_rangeIt {a b c : Int} {t u v : Tok} {Q : Value → Shared → Prop} {r : Addr} (n : Nat) (wd : Wd h₀ L l news h) (hr : IsRange h r a b c t u v) (ha : -100000 < a) (ha2 : a < 100000) (hb : -100000 < b) (hb2 : b < 100000) (hc : c = 1 ∨ c = -1) (hn : Builtin.Range.rangeSize a b c = (n : Int))
    (hq : ∀ I o h', Kept h h' → Wd h₀ L l ((I, o) :: news) h' → IsRangeIter h' I a n c → Q (.ref I) (At g h' tk)) : wpAny (model prog w) A (pyIter (.ref r)) Q NoE (At g h tk) :=
  f_rangeObj r hr (range_small ha ha2 hb hb2 hc) wd fun I o h' hk wd' hi => hq I o h' hk wd' (hn ▸ hi)
/-- a for over range(a, b), by ones -/
theorem loopR {x : Str} {px : Pos} {body orelse : List Stmt} {I : Addr} {a c : Int} {o : Obj} {R : Result → Shared → Prop} {n : Nat} (rm : Room A k) (hx : env.kindOf x = some .local)
    (hp : (env.scope.kind == .class || (env.scope.kind == .module && env.locals != env.globals)) = false)
    (J : Nat → List (Str × Value) → List (Addr × Obj) → Prop) (wd : Wd h₀ env.locals l ((I, o) :: news) h) (st : IsRangeIter h I a n c) (j0 : J 0 l news)
    (step : ∀ i t o l news h tk, i < n → J i l news → Wd h₀ env.locals ((x, .int (a + (i : Nat) * c) t) :: l) ((I, o) :: news) h →
      wpAny (model prog w) A (execs body env) (fun f s₃ => match f with
        | .next | .cont => ∃ l' news' h' tk', s₃ = At g h' tk' ∧ Wd h₀ env.locals l' ((I, o) :: news') h' ∧ J (i + 1) l' news'
        | .brk => R (.ok .next) s₃
        | .ret v => R (.ok (.ret v)) s₃) NoE (At g h tk))
    (done : ∀ l news h tk, J n l news → Wd h₀ env.locals l news h → wpAny (model prog w) A (execs orelse env) (fun f s => R (.ok f) s) NoE (At g h tk)) :
    codeAny (model prog w) A (.forLoop (.Name x px) (.ref I) body orelse env) R (At g h tk) := by
  refine loopW (Walks.range rm.hh I a c n) (fun i h st => ⟨_, st⟩) J (fun b hb => .inl (List.mem_singleton.mp hb)) wd (by simpa using st) j0 ?_ done
  rintro i v o l news h tk hi ⟨t, rfl⟩ hJ wd _
  exact wpAny_pure (wpAny_assign_Name (st_loc wd hx hp fun h' tk' wd' => step i t o l news h' tk' hi hJ wd'))

/-- a for over a list that stays -/
theorem loopL {x : Str} {px : Pos} {body orelse : List Stmt} {I a : Addr} {vs : List Value} {e : Nat} {o : Obj} {R : Result → Shared → Prop} (rm : Room A k) (hx : env.kindOf x = some .local)
    (hp : (env.scope.kind == .class || (env.scope.kind == .module && env.locals != env.globals)) = false)
    (J : Nat → List (Str × Value) → List (Addr × Obj) → Prop) (ha : (∃ o, h₀.get? a = some o) ∨ (∀ i l news, J i l news → (a, lO vs e) ∈ news)) (ho : h.get? a = some (lO vs e)) (wd : Wd h₀ env.locals l ((I, o) :: news) h) (st : h.IsListIter I a 0) (j0 : J 0 l news)
    (step : ∀ i v o l news h tk, vs[i]? = some v → J i l news → Wd h₀ env.locals ((x, v) :: l) ((I, o) :: news) h → h.get? a = some (lO vs e) →
      wpAny (model prog w) A (execs body env) (fun f s₃ => match f with
        | .next | .cont => ∃ l' news' h' tk', s₃ = At g h' tk' ∧ Wd h₀ env.locals l' ((I, o) :: news') h' ∧ J (i + 1) l' news'
        | .brk => R (.ok .next) s₃
        | .ret v => R (.ok (.ret v)) s₃) NoE (At g h tk))
    (done : ∀ l news h tk, J vs.length l news → Wd h₀ env.locals l news h → wpAny (model prog w) A (execs orelse env) (fun f s => R (.ok f) s) NoE (At g h tk)) :
    codeAny (model prog w) A (.forLoop (.Name x px) (.ref I) body orelse env) R (At g h tk) := by
  have hne : a ≠ I := by
    rintro rfl
    obtain ⟨o', ho', hc, _⟩ := st
    rw [ho] at ho'; cases ho'; exact absurd (show Value.type "list" = Value.type "list_iterator" from hc) (by decide)
  have W := Walks.list (prog := prog) (w := w) rm.hh I a hne vs.toArray
  rw [List.size_toArray] at W
  have keepA : ∀ {i l news h o}, J i l news → Wd h₀ env.locals l ((I, o) :: news) h → h.IsList a vs.toArray → h.get? a = some (lO vs e) := by
    intro i l news h' o hJ wd' hL
    rcases ha with ⟨o₀, e₀⟩ | hm
    · have := wd.old e₀
      rw [ho] at this; cases this
      exact wd'.old e₀
    · exact wd'.get (List.mem_cons_of_mem _ (hm _ _ _ hJ))
  refine loopW W (fun i h st => by obtain ⟨⟨o, ho, _⟩, _⟩ := st; exact ⟨o, ho⟩) J (fun b hb => ?_) wd ⟨st, _, ho, rfl, e, rfl⟩ j0 ?_ done
  · rcases List.mem_cons.mp hb with e1 | hb
    · exact .inl e1
    · rw [List.mem_singleton.mp hb]
      rcases ha with h1 | h1
      · exact .inr (.inl h1)
      · exact .inr (.inr ⟨_, h1⟩)
  · rintro i v o l news h tk hi hP hJ wd st'
    have hA := keepA hJ wd st'.2
    refine wpAny_pure (wpAny_assign_Name (st_loc wd hx hp fun h' tk' wd' => step i v o l news h' tk' (by simpa using hP) hJ wd' ?_))
    rcases ha with ⟨o₀, e₀⟩ | hm
    · have := wd.old e₀
      rw [hA] at this; cases this
      exact wd'.old e₀
    · exact wd'.get (List.mem_cons_of_mem _ (hm _ _ _ hJ))
end
end
section
-- bits
theorem and_nat (a b : Nat) : Builtin.bitAnd (a : Int) (b : Int) = ((a &&& b : Nat) : Int) := by
  unfold Builtin.bitAnd
  simp
theorem or_nat (a b : Nat) : Builtin.bitOr (a : Int) (b : Int) = ((a ||| b : Nat) : Int) := by
  unfold Builtin.bitOr Builtin.bitAnd Builtin.bitNot
  have h1 : ¬ (0 : Int) ≤ -(a : Int) - 1 := by omega
  have h2 : ¬ (0 : Int) ≤ -(b : Int) - 1 := by omega
  simp only [h1, h2, decide_false]
  have e1 : (-(-(a : Int) - 1) - 1).toNat = a := by omega
  have e2 : (-(-(b : Int) - 1) - 1).toNat = b := by omega
  rw [e1, e2]
  omega
theorem shr_nat (a p : Nat) : (a : Int).fdiv (2 ^ p) = ((a / 2 ^ p : Nat) : Int) := by
  have : ((2 : Int) ^ p) = ((2 ^ p : Nat) : Int) := by push_cast; rfl
  rw [this]
  exact Int.fdiv_eq_ediv_of_nonneg _ (Int.natCast_nonneg _)
theorem bit_nat (a p : Nat) : (Builtin.bitAnd ((a : Int).fdiv (2 ^ p)) 1 != 0) = a.testBit p := by
  rw [shr_nat]
  have := and_nat (a / 2 ^ p) 1
  rw [show ((1 : Nat) : Int) = 1 from rfl] at this
  rw [this, Nat.testBit, Nat.shiftRight_eq_div_pow, Nat.and_comm]
  cases h : (1 &&& (a / 2 ^ p)) with
  | zero => rfl
  | succ n => simp; omega
-- texts
def ch (c : Nat) : Str := ⟨#[c]⟩
def mkS (cs : List Nat) : Str := ⟨cs.toArray⟩
theorem glue_ch (cs : List Nat) (a : Array Nat) : (cs.map ch).foldl (fun acc p => acc ++ (Str.ofString "").cps ++ p.cps) a = a ++ cs.toArray := by
  induction cs generalizing a with
  | nil => simp
  | cons c r ih =>
    rw [List.map_cons, List.foldl_cons, ih]
    have : (Str.ofString "").cps = #[] := by rfl
    rw [this]
    simp [ch]
theorem join_ch (cs : List Nat) : Txt.join (Str.ofString "") (cs.map ch) = mkS cs := by
  unfold Txt.join Builtin.Str.glued mkS
  cases cs with
  | nil => rfl
  | cons c r =>
    rw [List.map_cons, List.drop_succ_cons, List.drop_zero, glue_ch]
    simp [ch]
theorem mkS_len (cs : List Nat) : (mkS cs).length = cs.length := by simp [mkS, Str.length]
theorem item_mkS {cs : List Nat} {i c : Nat} (h : cs[i]? = some c) : Txt.item (mkS cs) (i : Int) = ch c := by
  have hl : i < cs.length := (List.getElem?_eq_some_iff.mp h).1
  have hi : seqIndex? (i : Int) (mkS cs).length = some i := by
    rw [mkS_len]; unfold seqIndex?
    have h1 : ¬ (i : Int) < 0 := by omega
    simp only [h1, if_false]
    rw [if_pos (by simp; omega)]; simp
  simp only [Txt.item, Txt.charAt, hi, Option.bind_some]
  simp [mkS, h, ch]
theorem mkS_inj {a b : List Nat} (h : mkS a = mkS b) : a = b := by
  have := congrArg (fun s : Str => s.cps.toList) h
  simpa [mkS] using this
theorem chs_len (cs : List Nat) : ((cs.map ch).map (·.length)).sum = cs.length := by
  induction cs with
  | nil => rfl
  | cons c r ih => rw [List.map_cons, List.map_cons, List.sum_cons, ih, List.length_cons]; show 1 + _ = _; omega
theorem StrsAre.snoc {vs : List Value} {ys : List Str} {y : Str} {t : Tok} (h : StrsAre vs ys) : StrsAre (vs ++ [.str y t]) (ys ++ [y]) := by
  induction h with
  | nil => exact .cons _ _ .nil
  | cons y t _ ih => exact .cons _ _ ih
theorem StrsAre.len {vs : List Value} {ys : List Str} (h : StrsAre vs ys) : vs.length = ys.length := by
  induction h with
  | nil => rfl
  | cons y t _ ih => simp [ih]
theorem StrsAre.get {vs : List Value} {ys : List Str} (h : StrsAre vs ys) {i : Nat} {v : Value} (hv : vs[i]? = some v) : ∃ y t, ys[i]? = some y ∧ v = .str y t := by
  induction h generalizing i with
  | nil => simp at hv
  | cons y t _ ih =>
    cases i with
    | zero => simp at hv; exact ⟨y, t, rfl, hv.symm⟩
    | succ i => simp at hv; simpa using ih hv
-- names
def pick (ks : List Str) (l : List (Str × Value)) : List (Str × Value) := ks.filterMap fun k => (l.lookup k).map fun v => (k, v)
theorem pick_lookup (ks : List Str) (l : List (Str × Value)) (x : Str) (v : Value) (h : (pick ks l).lookup x = some v) : l.lookup x = some v := by
  induction ks with
  | nil => cases h
  | cons k r ih =>
    unfold pick at h ih
    rw [List.filterMap_cons] at h
    cases hk : l.lookup k with
    | none => rw [hk] at h; exact ih h
    | some u =>
      rw [hk] at h
      simp only [Option.map_some, List.lookup_cons] at h
      by_cases hx : x = k
      · subst hx; simp at h; rw [hk, h]
      · rw [show (x == k) = false by simpa using hx] at h; exact ih h
theorem Wd.pick {h₀ h : Heap} {L : Addr} {l : List (Str × Value)} {news : List (Addr × Obj)} (wd : Wd h₀ L l news h) (ks : List Str) : Wd h₀ L (pick ks l) news h := wd.names fun x v e => pick_lookup ks l x v e
end
section
theorem bindL_loc {kd : Str → Option NameKind} : ∀ (binds : List (Str × Value)) (m : Str → Option Value), (∀ y ∈ binds, kd y.1 = some .local) → ∀ x, bindL kd binds m x = (binds.reverse.lookup x).or (m x)
  | [], m, _, x => rfl
  | (n, v) :: r, m, hb, x => by
    rw [bindL, if_pos (hb (n, v) (.head _)), bindL_loc r _ (fun y hy => hb y (.tail _ hy))]
    rw [List.reverse_cons, List.lookup_append]
    cases r.reverse.lookup x with
    | some u => rfl
    | none =>
      simp only [Option.none_or]
      by_cases hx : x = n
      · subst hx; simp
      · have : (x == n) = false := by simpa using hx
        simp [hx, this, List.lookup_cons]
theorem bindC_loc {kd : Str → Option NameKind} : ∀ (binds : List (Str × Value)) (m : Str → Option Value), (∀ y ∈ binds, kd y.1 = some .local) → bindC kd binds m = m
  | [], _, _ => rfl
  | (n, v) :: r, m, hb => by rw [bindC, if_pos (hb (n, v) (.head _)), bindC_loc r _ (fun y hy => hb y (.tail _ hy))]
section
variable {prog : Program} {w : World} {A : Around} {g : Shared} {h₀ h : Heap} {tk : Nat} {L : Addr} {l : List (Str × Value)} {news : List (Addr × Obj)} {env : Env} {K : Frag} {k : Nat}

section
variable {name qual : Str} {params : Arguments} {body : List Stmt} {scope : Scope} {dV kV doc pm cdv ct oc : Value} {an od : Option Addr} {osl : Array (Option Value)} {f : Addr} {args : List Value} {kw : List (Str × Value)} {binds : List (Str × Value)} {Q : Value → Shared → Prop}
theorem callC' (bs : Bs K h) (rm : Room A (k + 1)) (ho : K.lookup f = some ⟨oc, od, .func (fnOf name qual params body scope dV kV doc pm an cdv ct), osl⟩) (hcd : codeIn K cdv qual = true)
    (hbind : BindsTo (At g h tk) (fnOf name qual params body scope dV kV doc pm an cdv ct) ⟨args, kw⟩ binds) (hloc : ∀ x ∈ binds, scope.names.lookup x.1 = some .local)
    (hco : scope.isCoroutine = false) (hgen : scope.isGenerator = false) (hk : scope.kind = .function) (hnd : ((cellsFrom 0 scope.names []).map (·.1)).Nodup)
    (H : ∀ L h₁ tk₁ cells, Wd h L binds.reverse cells h₁ → CellsAre (fun _ => none) (cellsFrom (L + 1) scope.names []) cells → Room (A.deeper (envX qual scope L f cdv (cellsFrom (L + 1) scope.names []))) k →
      wpAny (model prog w) (A.deeper (envX qual scope L f cdv (cellsFrom (L + 1) scope.names []))) (execs body (envX qual scope L f cdv (cellsFrom (L + 1) scope.names []))) (fun fl s' => Q (match fl with | .ret v => v | _ => .none) s') NoE (At g h₁ tk₁)) :
    wpAny (model prog w) A (call (.ref f) args kw) Q NoE (At g h tk) :=
  callC bs rm ho hcd hbind hloc hco hgen hk hnd (fun x v e => by rw [bindL_loc _ _ hloc, e]; rfl) (bindC_loc _ _ hloc) H
end

theorem r_ldn {x : Str} {v : Value} {Q : Value → Shared → Prop} (wd : Wd h₀ env.locals l news h) (hk : env.scope.kind = .function) (hx : env.kindOf x = some .local) (hv : l.lookup x = some v)
    (hq : Q v (At g h tk)) : wpAny (model prog w) A (loadName env x) Q NoE (At g h tk) := by
  obtain ⟨m, F, hl⟩ := wd.fr
  exact wpAny_loadName_local (s := At g h tk) hk hx F.ns (hl x v hv) hq
theorem o_iadd {a b : Int} {t u : Tok} {Q : Value → Shared → Prop} (hq : ∀ t tk', Q (.int (a + b) t) (At g h tk')) : wpAny (model prog w) A (inplaceOp .Add (.int a t) (.int b u)) Q NoE (At g h tk) := PyProof.Rows.iadd_int (s := At g h tk) (hq _ _)

/-- a for whose name is a cell: the cell stands first in the ledger -/
theorem loopWC {x : Str} {px : Pos} {body orelse : List Stmt} {I cc : Addr} {fp : List Addr} {n : Nat} {P : Nat → Value → Prop} {St : Nat → Heap → Prop} {o oc : Obj} {u : Option Value} {R : Result → Shared → Prop}
    (Wk : Walks prog w A I fp [I] n P St) (hlive : ∀ i h, St i h → ∃ o, h.get? I = some o) (hk : env.scope.kind = .function) (hx : env.kindOf x = some .cell) (hcc : env.cells.lookup x = some cc) (J : Nat → List (Str × Value) → List (Addr × Obj) → Prop)
    (hfp : ∀ b ∈ fp, b = I ∨ (∃ o, h₀.get? b = some o) ∨ (∃ o, ∀ i l news, J i l news → (b, o) ∈ news))
    (wd : Wd h₀ L l ((I, o) :: (cc, oc) :: news) h) (hoc : oc.data = .cell u) (st : St 0 h) (j0 : J 0 l news)
    (step : ∀ i v o oc l news h tk, i < n → P i v → J i l news → oc.data = .cell (some v) → Wd h₀ L l ((I, o) :: (cc, oc) :: news) h → St (i + 1) h →
      wpAny (model prog w) A (execs body env) (fun f s₃ => match f with
        | .next | .cont => ∃ l' news' oc' u h' tk', s₃ = At g h' tk' ∧ oc'.data = .cell u ∧ Wd h₀ L l' ((I, o) :: (cc, oc') :: news') h' ∧ J (i + 1) l' news'
        | .brk => R (.ok .next) s₃
        | .ret v => R (.ok (.ret v)) s₃) NoE (At g h tk))
    (done : ∀ l news oc u h tk, J n l news → oc.data = .cell u → Wd h₀ L l ((cc, oc) :: news) h → wpAny (model prog w) A (execs orelse env) (fun f s => R (.ok f) s) NoE (At g h tk)) :
    codeAny (model prog w) A (.forLoop (.Name x px) (.ref I) body orelse env) R (At g h tk) := by
  refine loopW Wk hlive (fun i l news => ∃ oc u news', news = (cc, oc) :: news' ∧ oc.data = .cell u ∧ J i l news') (fun b hb => ?_) wd st ⟨oc, u, news, rfl, hoc, j0⟩ ?_ ?_
  · rcases hfp b hb with h1 | h1 | ⟨o, h1⟩
    · exact .inl h1
    · exact .inr (.inl h1)
    · refine .inr (.inr ⟨o, ?_⟩)
      rintro i l news ⟨oc, u, news', rfl, _, hJ⟩
      exact .tail _ (h1 _ _ _ hJ)
  · rintro i v o l news h tk hi hP ⟨oc, u, news', rfl, hoc, hJ⟩ wd st'
    refine wpAny_pure (wpAny_assign_Name (st_cell 1 wd rfl hoc hk hx hcc fun h' tk' o' ho' wd' => ?_))
    have st2 : St (i + 1) h' := Wk.frame _ _ _ st' fun b hb ob e => by
      rcases hfp b hb with rfl | ⟨o₀, e₀⟩ | ⟨o₀, hm⟩
      · have := wd.geti 0 rfl; rw [e] at this; cases this; exact wd'.geti 0 rfl
      · have := wd.old e₀; rw [e] at this; cases this; exact wd'.old e₀
      · have := wd.get (List.mem_cons_of_mem _ (List.mem_cons_of_mem _ (hm _ _ _ hJ))); rw [e] at this; cases this; exact wd'.get (List.mem_cons_of_mem _ (List.mem_cons_of_mem _ (hm _ _ _ hJ)))
    refine wpAny_mono (step i v o o' l news' h' tk' hi hP hJ ho' wd' st2) (fun f s₃ x₃ => ?_) fun _ _ x => x
    cases f with
    | next => obtain ⟨l', news', oc', u', h', tk', e, a, b, c⟩ := x₃; exact ⟨l', _, h', tk', e, b, oc', u', news', rfl, a, c⟩
    | cont => obtain ⟨l', news', oc', u', h', tk', e, a, b, c⟩ := x₃; exact ⟨l', _, h', tk', e, b, oc', u', news', rfl, a, c⟩
    | brk => exact x₃
    | ret v => exact x₃
  · rintro l news h tk ⟨oc, u, news', rfl, hoc, hJ⟩ wd
    exact done l news' oc u h tk hJ hoc wd
theorem loopRC {x : Str} {px : Pos} {body orelse : List Stmt} {I cc : Addr} {a c : Int} {o oc : Obj} {u : Option Value} {R : Result → Shared → Prop} {n : Nat} (rm : Room A k) (hk : env.scope.kind = .function) (hx : env.kindOf x = some .cell) (hcc : env.cells.lookup x = some cc)
    (J : Nat → List (Str × Value) → List (Addr × Obj) → Prop) (wd : Wd h₀ L l ((I, o) :: (cc, oc) :: news) h) (hoc : oc.data = .cell u) (st : IsRangeIter h I a n c) (j0 : J 0 l news)
    (step : ∀ i t o oc l news h tk, i < n → J i l news → oc.data = .cell (some (.int (a + (i : Nat) * c) t)) → Wd h₀ L l ((I, o) :: (cc, oc) :: news) h →
      wpAny (model prog w) A (execs body env) (fun f s₃ => match f with
        | .next | .cont => ∃ l' news' oc' u h' tk', s₃ = At g h' tk' ∧ oc'.data = .cell u ∧ Wd h₀ L l' ((I, o) :: (cc, oc') :: news') h' ∧ J (i + 1) l' news'
        | .brk => R (.ok .next) s₃
        | .ret v => R (.ok (.ret v)) s₃) NoE (At g h tk))
    (done : ∀ l news oc u h tk, J n l news → oc.data = .cell u → Wd h₀ L l ((cc, oc) :: news) h → wpAny (model prog w) A (execs orelse env) (fun f s => R (.ok f) s) NoE (At g h tk)) :
    codeAny (model prog w) A (.forLoop (.Name x px) (.ref I) body orelse env) R (At g h tk) := by
  refine loopWC (Walks.range rm.hh I a c n) (fun i h st => ⟨_, st⟩) hk hx hcc J (fun b hb => .inl (List.mem_singleton.mp hb)) wd hoc (by simpa using st) j0 ?_ done
  rintro i v o oc l news h tk hi ⟨t, rfl⟩ hJ hoc wd _
  exact step i t o oc l news h tk hi hJ hoc wd

-- comprehensions over a list, over a range
theorem compAtL {elt : Expr} {x : Str} {ifs : List Expr} {scope : Scope} {cl : List (Str × Addr)} {Q : List (Addr × Obj) → Addr → Heap → Nat → Prop} {I a : Addr} {vs : List Value} {e : Nat} {oI : Obj} (rm : Room A k) (ho : h.get? a = some (lO vs e))
    (wd : Wd h₀ L l ((I, oI) :: news) h) (hit : h.IsListIter I a 0) (hz : vs.length < 100000) (p : Nat → Value → Bool) (G : Nat → Value → Value → List (Addr × Obj) → Prop)
    (tests : ∀ C i v h' tk', vs[i]? = some v → Wd (hide h I) C [(x, v)] [] h' →
      wpAny (model prog w) A (forIn ifs true fun c r => if r = true then do let ok ← isTrue c (compEnvC scope cl C env) (eval c (compEnvC scope cl C env)); pure (ForInStep.yield ok) else pure (ForInStep.yield r)) (fun ok s' => ok = p i v ∧ ∃ h'' tk'', s' = At g h'' tk'' ∧ Kept h' h'') NoE (At g h' tk'))
    (elts : ∀ C i v h' tk', vs[i]? = some v → p i v = true → Wd (hide h I) C [(x, v)] [] h' →
      wpAny (model prog w) A (eval elt (compEnvC scope cl C env)) (fun y s' => ∃ own h'' tk'', s' = At g h'' tk'' ∧ Kept h' h'' ∧ NewIn h' h'' own ∧ G i v y own) NoE (At g h' tk'))
    (done : ∀ D h' tk' res e, CR (fun i v => vs[i]? = some v) p G vs.length res → Wd h₀ L l ((D, lO (res.map (·.1)) e) :: (res.flatMap (·.2) ++ news)) h' → Q ((D, lO (res.map (·.1)) e) :: (res.flatMap (·.2) ++ news)) D h' tk') :
    CompAt prog w A g env h₀ L l elt x ifs scope cl Q (.ref I) (At g h tk) := by
  have hne : a ≠ I := by
    rintro rfl
    obtain ⟨o', ho', hc, _⟩ := hit
    rw [ho] at ho'; cases ho'; exact absurd (show Value.type "list" = Value.type "list_iterator" from hc) (by decide)
  have W := Walks.list (prog := prog) (w := w) rm.hh I a hne vs.toArray
  rw [List.size_toArray] at W
  have e1 : (fun (i : Nat) (v : Value) => vs.toArray[i]? = some v) = fun i v => vs[i]? = some v := by funext i v; simp
  rw [e1] at W
  refine ⟨I, _, vs.length, _, _, oI, h, tk, news, p, G, rfl, rfl, W, fun i h st => by obtain ⟨⟨o, ho, _⟩, _⟩ := st; exact ⟨o, ho⟩, hz, ⟨hit, _, ho, rfl, e, rfl⟩, fun b hb => ?_, wd,
    fun C i v h' tk' _ hv wdC => tests C i v h' tk' hv wdC, fun C i v h' tk' _ hv hp wdC => elts C i v h' tk' hv hp wdC, done⟩
  rcases List.mem_cons.mp hb with e1 | hb
  · exact .inl e1
  · rw [List.mem_singleton.mp hb]
    exact .inr ⟨_, (hide_ne hne).trans ho⟩
theorem compAtR {elt : Expr} {x : Str} {ifs : List Expr} {scope : Scope} {cl : List (Str × Addr)} {Q : List (Addr × Obj) → Addr → Heap → Nat → Prop} {I : Addr} {a c : Int} {n : Nat} {oI : Obj} (rm : Room A k)
    (wd : Wd h₀ L l ((I, oI) :: news) h) (hit : IsRangeIter h I a n c) (hz : n < 100000) (p : Nat → Value → Bool) (G : Nat → Value → Value → List (Addr × Obj) → Prop)
    (tests : ∀ C i t h' tk', i < n → Wd (hide h I) C [(x, .int (a + (i : Nat) * c) t)] [] h' →
      wpAny (model prog w) A (forIn ifs true fun c r => if r = true then do let ok ← isTrue c (compEnvC scope cl C env) (eval c (compEnvC scope cl C env)); pure (ForInStep.yield ok) else pure (ForInStep.yield r)) (fun ok s' => ok = p i (.int (a + (i : Nat) * c) t) ∧ ∃ h'' tk'', s' = At g h'' tk'' ∧ Kept h' h'') NoE (At g h' tk'))
    (elts : ∀ C i t h' tk', i < n → p i (.int (a + (i : Nat) * c) t) = true → Wd (hide h I) C [(x, .int (a + (i : Nat) * c) t)] [] h' →
      wpAny (model prog w) A (eval elt (compEnvC scope cl C env)) (fun y s' => ∃ own h'' tk'', s' = At g h'' tk'' ∧ Kept h' h'' ∧ NewIn h' h'' own ∧ G i (.int (a + (i : Nat) * c) t) y own) NoE (At g h' tk'))
    (done : ∀ D h' tk' res e, CR (fun i v => ∃ t, v = .int (a + (i : Nat) * c) t) p G n res → Wd h₀ L l ((D, lO (res.map (·.1)) e) :: (res.flatMap (·.2) ++ news)) h' → Q ((D, lO (res.map (·.1)) e) :: (res.flatMap (·.2) ++ news)) D h' tk') :
    CompAt prog w A g env h₀ L l elt x ifs scope cl Q (.ref I) (At g h tk) := by
  refine ⟨I, _, n, _, _, oI, h, tk, news, p, G, rfl, rfl, Walks.range rm.hh I a c n, fun i h st => ⟨_, st⟩, hz, by simpa using hit, fun b hb => .inl (List.mem_singleton.mp hb), wd, ?_, ?_, done⟩
  · rintro C i v h' tk' hi ⟨t, rfl⟩ wdC
    exact tests C i t h' tk' hi wdC
  · rintro C i v h' tk' hi ⟨t, rfl⟩ hp wdC
    exact elts C i t h' tk' hi hp wdC
end
end
section
def NatsAre (vs : List Value) (fs : List Nat) : Prop := IntsAre vs (fs.map fun n : Nat => (n : Int))
theorem ints_len {vs : List Value} {ns : List Int} (h : IntsAre vs ns) : vs.length = ns.length := by
  induction h with
  | nil => rfl
  | cons _ _ _ ih => simp [ih]
theorem ints_get {vs : List Value} {ns : List Int} (h : IntsAre vs ns) {i : Nat} {v : Value} (hv : vs[i]? = some v) : ∃ n t, ns[i]? = some n ∧ v = .int n t := by
  induction h generalizing i with
  | nil => simp at hv
  | cons n t _ ih =>
    cases i with
    | zero => simp at hv; exact ⟨n, t, rfl, hv.symm⟩
    | succ i => simp at hv; simpa using ih hv
theorem ints_snoc {vs : List Value} {ns : List Int} {n : Int} {t : Tok} (h : IntsAre vs ns) : IntsAre (vs ++ [.int n t]) (ns ++ [n]) := by
  induction h with
  | nil => exact .cons _ _ .nil
  | cons _ _ _ ih => exact .cons _ _ ih
theorem ints_app {vs us : List Value} {ns ms : List Int} (h : IntsAre vs ns) (h2 : IntsAre us ms) : IntsAre (vs ++ us) (ns ++ ms) := by
  induction h with
  | nil => exact h2
  | cons _ _ _ ih => exact .cons _ _ ih
theorem NatsAre.len {vs : List Value} {fs : List Nat} (h : NatsAre vs fs) : vs.length = fs.length := by have := ints_len h; simpa using this
theorem NatsAre.get {vs : List Value} {fs : List Nat} (h : NatsAre vs fs) {i : Nat} {v : Value} (hv : vs[i]? = some v) : ∃ n t, fs[i]? = some n ∧ v = .int (n : Nat) t := by
  obtain ⟨n, t, h1, h2⟩ := ints_get h hv
  rw [List.getElem?_map] at h1
  cases hf : fs[i]? with
  | none => rw [hf] at h1; cases h1
  | some m => rw [hf] at h1; cases h1; exact ⟨m, t, rfl, h2⟩
theorem NatsAre.snoc {vs : List Value} {fs : List Nat} {n : Nat} {t : Tok} (h : NatsAre vs fs) : NatsAre (vs ++ [.int n t]) (fs ++ [n]) := by
  unfold NatsAre; rw [List.map_append]; exact ints_snoc h

/-- a filter of a list of ints -/
theorem cr_filter {vs : List Value} {fs : List Nat} (hv : NatsAre vs fs) (q : Nat → Bool) {i : Nat} {res : List (Value × List (Addr × Obj))}
    (cr : CR (fun i v => vs[i]? = some v) (fun i _ => q (fs.getD i 0)) (fun _ v y own => y = v ∧ own = []) i res) : res.length = (fs.take i).countP q ∧ res.flatMap (·.2) = [] := by
  induction cr with
  | zero => exact ⟨by simp, rfl⟩
  | @skip i res v _ hp hq ih =>
    obtain ⟨n, t, hn, rfl⟩ := hv.get hp
    rw [List.getD_eq_getElem?_getD, hn] at hq
    refine ⟨?_, ih.2⟩
    rw [List.take_add_one, hn, List.countP_append, ih.1]
    simpa using hq
  | @take i res v y own _ hp hq hG ih =>
    obtain ⟨n, t, hn, rfl⟩ := hv.get hp
    obtain ⟨rfl, rfl⟩ := hG
    rw [List.getD_eq_getElem?_getD, hn] at hq
    refine ⟨?_, by rw [List.flatMap_append, ih.2]; rfl⟩
    rw [List.take_add_one, hn, List.countP_append, List.length_append, ih.1]
    have hq' : q n = true := hq
    simp [List.countP_cons, hq']
/-- the bits below i that at least k numbers have -/
def hl (fs : List Nat) (k : Nat) : Nat → Nat
  | 0 => 0
  | i + 1 => hl fs k i + if k ≤ fs.countP (·.testBit i) then 2 ^ i else 0
end
section
section
variable {prog : Program} {w : World} {A : Around} {g : Shared} {h₀ h : Heap} {tk : Nat} {L : Addr} {l : List (Str × Value)} {news : List (Addr × Obj)} {env : Env} {K : Frag} {k : Nat}
theorem Wd.newIn (wd : Wd h₀ L l news h) {own : List (Addr × Obj)} (hs : own.Sublist news) : NewIn h₀ h own :=
  ⟨fun p hp => ⟨(wd.nw p (hs.subset hp)).2.2, (wd.nw p (hs.subset hp)).1⟩, wd.nd.sublist (hs.map _)⟩
theorem o_cat {a b : Addr} {vs us : List Value} {n m : Nat} {Q : Value → Shared → Prop} (wd : Wd h₀ L l news h) (ha : h.get? a = some (lO vs n)) (hb : h.get? b = some (lO us m)) (hz : vs.length + us.length < 100000)
    (hq : ∀ d h', Wd h₀ L l ((d, lO (vs ++ us) 0) :: news) h' → Q (.ref d) (At g h' tk)) : wpAny (model prog w) A (binaryOp .Add (.ref a) (.ref b)) Q NoE (At g h tk) := by
  obtain ⟨mm, F, hl⟩ := wd.fr
  refine add_arrays (s := At g h tk) F wd.nw (its := vs.toArray) (its2 := us.toArray) ⟨_, ha, rfl, n, rfl⟩ ⟨_, hb, rfl, m, rfl⟩ (fun h' F' N' => hq _ h' (wd.ofFN F' hl N' (Nat.le_refl _))) ?_
  rw [List.size_toArray, List.size_toArray, sizeLine_eq]; omega
theorem s_asgSub {o i value : Expr} {p' pos : Pos} {rest : List Stmt} {Q : Flow → Shared → Prop} (hs : swapsWith value (some (.Subscript o i p')) pos.line env = pure false)
    (hq : wpAny (model prog w) A (eval value env) (fun v s₁ => wpAny (model prog w) A (eval o env) (fun ov s₂ => wpAny (model prog w) A (eval i env) (fun iv s₃ => wpAny (model prog w) A (setItem ov iv v) (fun _ s₄ => wpAny (model prog w) A (execs rest env) Q NoE s₄) NoE s₃) NoE s₂) NoE s₁) NoE (At g h tk)) :
    wpAny (model prog w) A (execs (.Assign [.Subscript o i p'] value pos :: rest) env) Q NoE (At g h tk) := wpAny_execs_cons (wpAny_Assign_Subscript hq hs)
theorem f_set {d : Addr} {vs : List Value} {n : Nat} {j : Int} {t : Tok} {v : Value} {Q : Unit → Shared → Prop} (i : Nat) (wd : Wd h₀ L l news h) (hi : news[i]? = some (d, lO vs n)) (h0 : 0 ≤ j) (h1 : j < vs.length) (h2 : vs.length < 100000)
    (hq : ∀ h', Wd h₀ L l (news.set i (d, lO (vs.set j.toNat v) n)) h' → Q () (At g h' tk)) : wpAny (model prog w) A (setItem (.ref d) (.int j t) v) Q NoE (At g h tk) := by
  refine ki_setAt (s := At g h tk) (wd.geti i hi) h0 (by omega) (by simpa using h1) (hq _ (wd.upd i hi (fun b ob hb e => (Heap.SameBut.update ..).extBut b ob hb e) ?_))
  have q := PySem.IsL.update (wd.geti i hi) (·.setIfInBounds j.toNat v)
  simpa using q
theorem r_neg {x : Expr} {pos : Pos} {Q : Value → Shared → Prop} (hq : wpAny (model prog w) A (eval x env) (fun v s₁ => wpAny (model prog w) A (unaryOp .USub v) Q NoE s₁) NoE (At g h tk)) : wpAny (model prog w) A (eval (.UnaryOp .USub x pos) env) Q NoE (At g h tk) := wpAny_UnaryOp hq
theorem o_neg {a : Int} {t : Tok} {Q : Value → Shared → Prop} (hq : ∀ t tk', Q (.int (-a) t) (At g h tk')) : wpAny (model prog w) A (unaryOp .USub (.int a t)) Q NoE (At g h tk) := PyProof.Rows.neg_int (s := At g h tk) (hq _ _)
theorem r_slUp {value e : Expr} {p pos : Pos} {Q : Value → Shared → Prop} (ht : ∀ o r, letTemporaryGo value o r = pure ())
    (hq : wpAny (model prog w) A (eval value env) (fun o s₁ => wpAny (model prog w) A (eval e env) (fun u s₂ => ∃ (h : Heap) (tk : Nat) (a : Addr) (vs : List Value) (x : Int) (t : Tok), s₂ = At g h tk ∧ o = .ref a ∧ u = .int x t ∧ h.IsList a vs.toArray ∧ vs.length < 100000 ∧
      ∀ d h', Kept h h' → NewIn h h' [(d, lO (slicePick vs.toArray none (some x) none).toList 0)] → Q (.ref d) (At g h' tk)) NoE s₁) NoE (At g h tk)) :
    wpAny (model prog w) A (eval (.Subscript value (.Slice none (some e) none p) pos) env) Q NoE (At g h tk) := by
  refine wpAny_Subscript_list_slice (wpAny_mono hq (fun o s₁ h₁ => ?_) fun _ _ x => x) ht
  rw [evalPart_none]
  refine wpAny_pure (wpAny_evalPart_some (wpAny_mono h₁ (fun u s₂ h₂ => ?_) fun _ _ x => x))
  obtain ⟨h, tk, a, vs, x, t, rfl, rfl, rfl, ho, hz, hq⟩ := h₂
  refine ⟨a, vs.toArray, none, some x, rfl, ho, by rw [List.size_toArray, sizeLine_eq]; omega, .none, .int _ _, ?_⟩
  have p1 := push_new h { cls := .type "slice", data := .fields #[.none, .int x t, .none] }
  have p2 := push_new (h.push { cls := .type "slice", data := .fields #[.none, .int x t, .none] }) (lO (slicePick vs.toArray none (some x) none).toList 0)
  rw [Heap.size_push] at p2
  have := hq (h.objs.size + 1) _ (fun b o e => p2.1 b o (p1.1 b o e)) ⟨fun q hq => ⟨?_, (p2.2.has q hq).2⟩, p2.2.nd⟩
  · simpa using this
  · have := (p2.2.has q hq).1
    cases e : h.get? q.1 with
    | none => rfl
    | some o => rw [p1.1 _ _ e] at this; cases this
theorem r_slFr {value e : Expr} {p pos : Pos} {Q : Value → Shared → Prop} (ht : ∀ o r, letTemporaryGo value o r = pure ())
    (hq : wpAny (model prog w) A (eval value env) (fun o s₁ => wpAny (model prog w) A (eval e env) (fun u s₂ => ∃ h tk a vs n x t, s₂ = At g h tk ∧ o = .ref a ∧ u = .int x t ∧ h.get? a = some (lO vs n) ∧ vs.length < 100000 ∧
      ∀ d h', Kept h h' → NewIn h h' [(d, lO (slicePick vs.toArray (some x) none none).toList 0)] → Q (.ref d) (At g h' tk)) NoE s₁) NoE (At g h tk)) :
    wpAny (model prog w) A (eval (.Subscript value (.Slice (some e) none none p) pos) env) Q NoE (At g h tk) := by
  refine wpAny_Subscript_list_slice (wpAny_mono hq (fun o s₁ h₁ => ?_) fun _ _ x => x) ht
  refine wpAny_evalPart_some (wpAny_mono h₁ (fun u s₂ h₂ => ?_) fun _ _ x => x)
  rw [evalPart_none]
  refine wpAny_pure ?_
  obtain ⟨h, tk, a, vs, n, x, t, rfl, rfl, rfl, ho, hz, hq⟩ := h₂
  refine ⟨a, vs.toArray, some x, none, rfl, ⟨_, ho, rfl, n, rfl⟩, by rw [List.size_toArray, sizeLine_eq]; omega, .int _ _, .none, ?_⟩
  have p1 := push_new h { cls := .type "slice", data := .fields #[.int x t, .none, .none] }
  have p2 := push_new (h.push { cls := .type "slice", data := .fields #[.int x t, .none, .none] }) (lO (slicePick vs.toArray (some x) none none).toList 0)
  rw [Heap.size_push] at p2
  have := hq (h.objs.size + 1) _ (fun b o e => p2.1 b o (p1.1 b o e)) ⟨fun q hq => ⟨?_, (p2.2.has q hq).2⟩, p2.2.nd⟩
  · simpa using this
  · have := (p2.2.has q hq).1
    cases e : h.get? q.1 with
    | none => rfl
    | some o => rw [p1.1 _ _ e] at this; cases this
end
end
section
theorem cr_nats {P : Nat → Value → Prop} (f : Nat → Nat) {i : Nat} {res : List (Value × List (Addr × Obj))} (cr : CR P (fun _ _ => true) (fun i _ y own => own = [] ∧ ∃ t, y = .int (f i : Nat) t) i res) : NatsAre (res.map (·.1)) ((List.range i).map f) ∧ res.flatMap (·.2) = [] := by
  induction cr with
  | zero => exact ⟨.nil, rfl⟩
  | skip _ _ hq => cases hq
  | take _ _ _ hG ih =>
    obtain ⟨rfl, t, rfl⟩ := hG
    refine ⟨?_, by rw [List.flatMap_append, ih.2]; rfl⟩
    rw [List.map_append, List.range_succ, List.map_append]
    exact ih.1.snoc
theorem cr_strs {P : Nat → Value → Prop} (f : Nat → Str) {i : Nat} {res : List (Value × List (Addr × Obj))} (cr : CR P (fun _ _ => true) (fun i _ y own => own = [] ∧ ∃ t, y = .str (f i) t) i res) : StrsAre (res.map (·.1)) ((List.range i).map f) ∧ res.flatMap (·.2) = [] := by
  induction cr with
  | zero => exact ⟨.nil, rfl⟩
  | skip _ _ hq => cases hq
  | take _ _ _ hG ih =>
    obtain ⟨rfl, t, rfl⟩ := hG
    refine ⟨?_, by rw [List.flatMap_append, ih.2]; rfl⟩
    rw [List.map_append, List.range_succ, List.map_append]
    exact StrsAre.snoc ih.1
theorem range_getD {α β : Type} (l : List α) (d : α) (f : α → β) : (List.range l.length).map (fun i => f (l.getD i d)) = l.map f := by
  refine List.ext_getElem? fun j => ?_
  rw [List.getElem?_map, List.getElem?_map]
  by_cases hj : j < l.length
  · rw [List.getElem?_range hj, List.getElem?_eq_getElem hj]; simp [List.getD_eq_getElem?_getD, hj]
  · rw [List.getElem?_eq_none (by simp; omega), List.getElem?_eq_none (by omega)]; rfl
theorem NewIn.from {h h₁ h₂ : Heap} {own : List (Addr × Obj)} (hk : Kept h h₁) (x : NewIn h₁ h₂ own) : NewIn h h₂ own := by
  refine ⟨fun q hq => ⟨?_, (x.has q hq).2⟩, x.nd⟩
  have := (x.has q hq).1
  cases e : h.get? q.1 with
  | none => rfl
  | some o => rw [hk _ _ e] at this; cases this
theorem hl_lt (fs : List Nat) (k : Nat) : ∀ i, hl fs k i < 2 ^ i
  | 0 => by simp [hl]
  | i + 1 => by
    have := hl_lt fs k i
    rw [hl, Nat.pow_succ]
    split <;> omega
theorem hl_bit (fs : List Nat) (k : Nat) : ∀ i b, (hl fs k i).testBit b = (decide (b < i) && decide (k ≤ fs.countP (·.testBit b)))
  | 0, b => by simp [hl]
  | i + 1, b => by
    have ih := hl_bit fs k i
    have lt := hl_lt fs k i
    rw [hl]
    by_cases hc : k ≤ fs.countP (·.testBit i)
    · rw [if_pos hc, Nat.add_comm]
      by_cases hb : b = i
      · subst hb
        rw [Nat.testBit_two_pow_add_eq, ih]; simp [hc]
      · by_cases hlt : b < i
        · rw [Nat.testBit_two_pow_add_gt hlt, ih]; simp [hlt, Nat.lt_succ_of_lt hlt]
        · have h1 : i + 1 ≤ b := by omega
          rw [Nat.testBit_lt_two_pow]
          · simp; omega
          · have : 2 ^ (i + 1) ≤ 2 ^ b := Nat.pow_le_pow_right (by decide) h1
            rw [Nat.pow_succ] at this; omega
    · rw [if_neg hc, Nat.add_zero, ih]
      by_cases hb : b = i
      · subst hb; simp [hc]
      · have : decide (b < i) = decide (b < i + 1) := by simp; omega
        rw [this]
/-- what one number makes of place j -/
def up1 (m : List Nat) (one j : Nat) : Nat := m.getD j 0 ||| (m.getD (j - 1) 0 &&& one)
/-- the masks after some numbers -/
def MOk (fs : List Nat) (n : Nat) (m : List Nat) : Prop := m.length = n + 1 ∧ ∀ k b, k ≤ n → (m.getD k 0).testBit b = (decide (b < 9) && decide (k ≤ fs.countP (·.testBit b)))
theorem bit511 (b : Nat) : (511 : Nat).testBit b = decide (b < 9) := by
  have := Nat.testBit_two_pow_sub_one 9 b
  simpa using this
theorem MOk.start (n : Nat) : MOk [] n (511 :: List.replicate n 0) := by
  refine ⟨by simp, fun k b hk => ?_⟩
  cases k with
  | zero => rw [List.getD_cons_zero, bit511]; simp
  | succ k =>
    rw [List.getD_cons_succ]
    have : (List.replicate n 0).getD k 0 = 0 := by
      rw [List.getD_eq_getElem?_getD, List.getElem?_replicate]; split <;> rfl
    rw [this]; simp
theorem MOk.step {fs : List Nat} {n one : Nat} {m m' : List Nat} (hm : MOk fs n m) (hl : m'.length = n + 1) (he : ∀ j, j ≤ n → m'.getD j 0 = if 0 < j then up1 m one j else m.getD j 0) : MOk (fs ++ [one]) n m' := by
  refine ⟨hl, fun k b hk => ?_⟩
  rw [he k hk, List.countP_append]
  have e1 : List.countP (fun x => x.testBit b) [one] = if one.testBit b then 1 else 0 := by simp [List.countP_cons]
  rw [e1]
  split
  · rename_i h0
    unfold up1
    rw [Nat.testBit_or, Nat.testBit_and, hm.2 k b hk, hm.2 (k - 1) b (by omega)]
    cases one.testBit b <;> by_cases hb : b < 9 <;> simp [hb]
    by_cases h1 : k ≤ fs.countP (·.testBit b)
    · simp [h1]; omega
    · simp [h1]
  · have : k = 0 := by omega
    subst this
    rw [hm.2 0 b (by omega)]; simp
theorem MOk.fin {fs : List Nat} {n : Nat} {m : List Nat} (hm : MOk fs n m) : m.drop 1 = (List.range n).map fun k => hl fs (k + 1) 9 := by
  refine List.ext_getElem? fun j => ?_
  rw [List.getElem?_drop, List.getElem?_map]
  by_cases hj : j < n
  · rw [List.getElem?_range hj]
    have h1 : 1 + j < m.length := by rw [hm.1]; omega
    rw [List.getElem?_eq_getElem h1]
    simp only [Option.map_some, Option.some.injEq]
    refine Nat.eq_of_testBit_eq fun b => ?_
    have := hm.2 (1 + j) b (by omega)
    rw [List.getD_eq_getElem?_getD, List.getElem?_eq_getElem h1] at this
    rw [hl_bit, Nat.add_comm j 1]
    exact this
  · rw [List.getElem?_eq_none (by rw [hm.1]; omega), List.getElem?_eq_none (by simp; omega)]; rfl
end
section
section
variable {prog : Program} {w : World} {A : Around} {g : Shared} {h₀ h : Heap} {tk : Nat} {L : Addr} {l : List (Str × Value)} {news : List (Addr × Obj)} {env : Env} {K : Frag} {k : Nat}

theorem ext_kept {h h' : Heap} (x : Heap.ExtBut h.objs.size h h') : Kept h h' := fun b o e => x b o (Nat.ne_of_lt (Heap.lt_size e)) e
/-- two names, both local -/
theorem a_tup2 {x y : Str} {p1 p2 pos : Pos} {kk : Nat} {T : Addr} {v1 v2 : Value} {n : Nat} {Q : Unit → Shared → Prop} (rm : Room A k) (wd : Wd h₀ env.locals l news h) (ht : h.get? T = some (tO [v1, v2] n)) (hx : env.kindOf x = some .local) (hy : env.kindOf y = some .local)
    (hp : (env.scope.kind == .class || (env.scope.kind == .module && env.locals != env.globals)) = false)
    (hq : ∀ h' tk', Wd h₀ env.locals ((y, v2) :: (x, v1) :: l) news h' → Kept h₀ h' → Q () (At g h' tk')) :
    wpAny (model prog w) A (assign (.Tuple [.Name x p1, .Name y p2] kk pos) env (.ref T)) Q NoE (At g h tk) := by
  refine wpAny_assign_Tuple (s := At g h tk) rm.hh (items := #[v1, v2]) ⟨_, ht, rfl, n, rfl⟩ rfl rfl fun h₁ hx₁ => ?_
  have wd₁ := wd.keep (ext_kept hx₁)
  show wpAny _ _ (assignInOrder [assign (.Name x p1) env, assign (.Name y p2) env] [v1, v2]) _ _ (At g h₁ tk)
  refine wpAny_assignInOrder_more (wpAny_assign_Name (st_loc wd₁ hx hp fun h₂ tk₂ wd₂ => ?_))
  refine wpAny_assignInOrder_more (wpAny_assign_Name (st_loc wd₂ hy hp fun h₃ tk₃ wd₃ => ?_))
  exact wpAny_assignInOrder_none (hq h₃ tk₃ wd₃ wd₃.kept)

theorem letGo_plain {target : Expr} {I : Addr} {v : Value} {o : Obj} {T : String} {Q : Unit → Shared → Prop} (ho : h.get? I = some o) (hc : o.cls = .type T) (hT : (["enumerate", "zip", "dict_itemiterator", "dict_reverseitemiterator", "odict_iterator", "itertools.zip_longest", "itertools.pairwise"] : List String).contains T = false)
    (hq : Q () (At g h tk)) : wpAny (model prog w) A (letOwnedTupleGo target (.ref I) v) Q NoE (At g h tk) := by
  unfold letOwnedTupleGo
  split
  all_goals try exact wpAny_pure hq
  all_goals
    split
    · rename_i e
      cases e
      refine wpAny_bind (wpAny_load (s := At g h tk) ho ?_)
      rw [hc]
      split
      · rename_i e1 _
        cases e1
        rw [if_neg (by rw [hT]; simp)]
        exact wpAny_pure hq
      · exact wpAny_pure hq
    · exact wpAny_pure hq

/-- a for over a tuple that stays, two names -/
theorem loopT2 {x y : Str} {p1 p2 pos : Pos} {kk : Nat} {body orelse : List Stmt} {I a : Addr} {vs : List Value} {e : Nat} {o : Obj} {R : Result → Shared → Prop} (rm : Room A k) (hx : env.kindOf x = some .local) (hy : env.kindOf y = some .local)
    (hp : (env.scope.kind == .class || (env.scope.kind == .module && env.locals != env.globals)) = false)
    (J : Nat → List (Str × Value) → List (Addr × Obj) → Prop) (ha : h₀.get? a = some (tO vs e)) (hvs : ∀ (i : Nat) (v : Value), vs[i]? = some v → ∃ (T : Addr) (v1 v2 : Value) (n : Nat), v = .ref T ∧ h₀.get? T = some (tO [v1, v2] n)) (wd : Wd h₀ env.locals l ((I, o) :: news) h) (st : h.IsTupleIter I a 0) (j0 : J 0 l news)
    (step : ∀ i T v1 v2 n o l news h tk, vs[i]? = some (.ref T) → h₀.get? T = some (tO [v1, v2] n) → J i l news → Wd h₀ env.locals ((y, v2) :: (x, v1) :: l) ((I, o) :: news) h →
      wpAny (model prog w) A (execs body env) (fun f s₃ => match f with
        | .next | .cont => ∃ l' news' h' tk', s₃ = At g h' tk' ∧ Wd h₀ env.locals l' ((I, o) :: news') h' ∧ J (i + 1) l' news'
        | .brk => R (.ok .next) s₃
        | .ret v => R (.ok (.ret v)) s₃) NoE (At g h tk))
    (done : ∀ l news h tk, J vs.length l news → Wd h₀ env.locals l news h → wpAny (model prog w) A (execs orelse env) (fun f s => R (.ok f) s) NoE (At g h tk)) :
    codeAny (model prog w) A (.forLoop (.Tuple [.Name x p1, .Name y p2] kk pos) (.ref I) body orelse env) R (At g h tk) := by
  have hne : a ≠ I := by
    rintro rfl
    have := (wd.nw (a, o) (.head _)).2.2
    rw [ha] at this; cases this
  have W := Walks.tuple (prog := prog) (w := w) rm.hh I a hne vs.toArray
  rw [List.size_toArray] at W
  refine loopW W (fun i h st => by obtain ⟨⟨o, ho, _⟩, _⟩ := st; exact ⟨o, ho⟩) J (fun b hb => ?_) wd ⟨st, _, wd.old ha, rfl, e, rfl⟩ j0 ?_ done
  · rcases List.mem_cons.mp hb with e1 | hb
    · exact .inl e1
    · rw [List.mem_singleton.mp hb]; exact .inr (.inl ⟨_, ha⟩)
  · rintro i v o l news h tk hi hP hJ wd ⟨⟨oi, hoi, hci, _⟩, _⟩
    have hP' : vs[i]? = some v := by simpa using hP
    obtain ⟨T, v1, v2, n, rfl, hT⟩ := hvs i v hP'
    refine letGo_plain hoi hci (by decide) ?_
    refine a_tup2 rm wd (wd.old hT) hx hy hp fun h' tk' wd' _ => ?_
    exact step i T v1 v2 n o l news h' tk' hP' hT hJ wd'

theorem f_tupIter {a : Addr} {vs : List Value} {n : Nat} {Q : Value → Shared → Prop} (ho : h.get? a = some (tO vs n)) (wd : Wd h₀ L l news h)
    (hq : ∀ I o h', Kept h h' → Wd h₀ L l ((I, o) :: news) h' → h'.IsTupleIter I a 0 → Q (.ref I) (At g h' tk)) : wpAny (model prog w) A (pyIter (.ref a)) Q NoE (At g h tk) := by
  refine wpAny_pyIter_tuple (s := At g h tk) (items := vs.toArray) ⟨_, ho, rfl, n, rfl⟩ ?_
  exact hq _ _ _ (push_new h _).1 (wd.push _) ⟨_, Heap.get?_push_size _ rfl, rfl, rfl⟩

-- enumerate over a tuple
theorem nextT_item {s : Shared} {E : Value → Shared → Prop} {it t : Addr} {i : Nat} {items : Array Value} {x : Value} {Q : Value → Shared → Prop} (hit : s.heap.IsTupleIter it t i) (ht : s.heap.IsTuple t items) (hx : items[i]? = some x)
    (hQ : ∀ h', h'.IsTupleIter it t (i + 1) → Heap.SameBut it s.heap h' → Q x { s with heap := h' }) : wpAny (model prog w) A (Builtin.SmallTypes.nextOf (.ref it)) Q E s := by
  obtain ⟨o, ho, hc, hd⟩ := id hit
  obtain ⟨ol, hol, _, nl, hdl⟩ := ht
  unfold Builtin.SmallTypes.nextOf
  refine wpAny_bind (wpAny_callSpecial?_slot (name := Str.ofString "__next__") hit.typeIs PySem.F.slot_tuple_iterator_next (wpAny_call_entry PySem.F.slot_tuple_iterator_next hit.typeIs PySem.F.entry_tuple_iterator_next ?_ (PySem.F.args_tuple_iterator_next_1 _)))
  show wpAny _ _ (field (.ref it) 0 >>= _) _ _ s
  refine wpAny_bind (wpAny_field ho hd (x := .ref t) rfl ?_)
  show wpAny _ _ (if (Value.ref t == Value.none) = true then _ else _) _ _ s
  rw [if_neg (show ¬ ((Value.ref t == Value.none) = true) from Bool.false_ne_true)]
  show wpAny _ _ (field (.ref it) 1 >>= _) _ _ s
  refine wpAny_bind (wpAny_field ho hd (x := .int i 0) rfl ?_)
  show wpAny _ _ (seqItems? (.ref t) >>= _) _ _ s
  refine wpAny_bind (wpAny_seqItems hol hdl ?_)
  simp only [Int.toNat_natCast, hx]
  refine wpAny_bind (wpAny_setField ho hd (by simp) (wpAny_pure ⟨x, rfl, wpAny_pure (hQ _ ?_ (Heap.SameBut.update ..))⟩))
  exact ⟨_, Heap.get?_update_self _ ho (Obj.isFreed_of_fields (Obj.data_mapFields hd _)), (Obj.cls_mapFields ..).trans hc, by rw [Obj.data_mapFields hd]; simp [rawInt]⟩
theorem nextT_end {s : Shared} {E : Value → Shared → Prop} {it t : Addr} {i : Nat} {items : Array Value} {Q : Value → Shared → Prop} (hh : A.handled = none) (hit : s.heap.IsTupleIter it t i) (ht : s.heap.IsTuple t items) (hx : items[i]? = none)
    (hE : ∀ h' e, Heap.ExtBut it s.heap h' → (∃ o, h'.get? e = some o ∧ o.cls = .type "StopIteration") → E (.ref e) { s with heap := h' }) : wpAny (model prog w) A (Builtin.SmallTypes.nextOf (.ref it)) Q E s := by
  obtain ⟨o, ho, hc, hd⟩ := id hit
  obtain ⟨ol, hol, _, nl, hdl⟩ := ht
  unfold Builtin.SmallTypes.nextOf
  refine wpAny_bind (wpAny_callSpecial?_slot (name := Str.ofString "__next__") hit.typeIs PySem.F.slot_tuple_iterator_next (wpAny_call_entry PySem.F.slot_tuple_iterator_next hit.typeIs PySem.F.entry_tuple_iterator_next ?_ (PySem.F.args_tuple_iterator_next_1 _)))
  show wpAny _ _ (field (.ref it) 0 >>= _) _ _ s
  refine wpAny_bind (wpAny_field ho hd (x := .ref t) rfl ?_)
  show wpAny _ _ (if (Value.ref t == Value.none) = true then _ else _) _ _ s
  rw [if_neg (show ¬ ((Value.ref t == Value.none) = true) from Bool.false_ne_true)]
  show wpAny _ _ (field (.ref it) 1 >>= _) _ _ s
  refine wpAny_bind (wpAny_field ho hd (x := .int i 0) rfl ?_)
  show wpAny _ _ (seqItems? (.ref t) >>= _) _ _ s
  refine wpAny_bind (wpAny_seqItems hol hdl ?_)
  simp only [Int.toNat_natCast, hx]
  refine wpAny_bind (wpAny_rule (wpAny_bind (wpAny_setField ho hd (by simp) ?_)))
  show wpAny _ _ (newExc (.type "StopIteration") [] >>= _) _ _ _
  refine wpAny_bind ?_
  simp only [newExc, newTuple]
  refine wpAny_bind (wpAny_newObj_type ?_ (by size_fits))
  refine wpAny_bind (m := firstArgMember _ _) (wpAny_of_eq (a := Value.none) (by first | rfl | (simp only [firstArgMember]; rfl)) ?_)
  refine wpAny_newObj_type ?_ (by size_fits)
  simp only [raiseNew]
  refine wpAny_bind (wpAny_handled ?_)
  first | rw [show A.in1.handled = none from hh] | rw [hh]
  refine wpAny_bind (wpAny_pure (wpAny_throw ?_))
  exact hE _ _ (((Heap.SameBut.update ..).extBut.push _).push _) ⟨_, Heap.get?_push_size _ rfl, rfl⟩
theorem drawsT (hh : A.handled = none) (it t : Addr) (hne : t ≠ it) (items : Array Value) :
    Draws prog w A it [it, t] items.size (fun i v => items[i]? = some v) (fun i h => h.IsTupleIter it t i ∧ h.IsTuple t items) where
  live := fun _ _ st => let ⟨o, ho, _⟩ := st.1; ⟨o, ho⟩
  frame := fun _ _ _ st hk => ⟨st.1.at fun o e => hk it (by simp) o e, st.2.at fun o e => hk t (by simp) o e⟩
  item := fun i s Q E hi st hQ => by
    refine nextT_item st.1 st.2 (x := items[i]) (by simp [hi]) fun h' hit' hs' => ?_
    exact hQ _ h' s.toks (by simp [hi]) ⟨hit', st.2.extBut hs'.extBut hne⟩ hs'
  done := fun s Q E st hE => nextT_end hh st.1 st.2 (by simp) hE

theorem enumNewT (a : Addr) (items : Array Value) (n : Nat) :
    Meets (Builtin.«enumerate.__new__» ⟨[.type "enumerate", .ref a], []⟩) (fun _ R s => s.heap.get? a = some { cls := .type "tuple", dict := none, data := .seq items n, slots := #[] } ∧
      R (.ok (.ret (.ref (s.heap.push { cls := .type "tuple_iterator", data := .fields #[.ref a, .int 0 0] }).objs.size)))
        { s with heap := (s.heap.push { cls := .type "tuple_iterator", data := .fields #[.ref a, .int 0 0] }).push { cls := .type "enumerate", data := .fields #[.none, .bool false, .ref s.heap.objs.size, rawInt 0, .none, .none] } }) :=
  .of_wp fun prog w A R s h => by
    obtain ⟨hp, g, d, tk, os⟩ := s; obtain ⟨hl, h⟩ := h
    have hsub := sub_enumerate
    have hL : Heap.IsTuple (Shared.heap ⟨hp, g, d, tk, os⟩) a items := ⟨_, hl, rfl, n, rfl⟩
    wp_walk using AutoSeq1.wpAny_loadPart' hl
    refine wpAny_stack_any fun st => wpAny_pure ?_
    split
    · rename_i c _ _ _ _ _
      cases (c == Value.type "enumerate")
      · wp_walk using AutoSeq1.wpAny_loadPart' hl, wpAny_pyIter_tuple hL
        exact ⟨_, rfl, h⟩
      · wp_walk using AutoSeq1.wpAny_loadPart' hl, wpAny_pyIter_tuple hL
        exact ⟨_, rfl, h⟩
    · wp_walk using AutoSeq1.wpAny_loadPart' hl, wpAny_pyIter_tuple hL
      exact ⟨_, rfl, h⟩
/-- enumerate(a tuple), and its iterator -/
theorem f_enum {a : Addr} {vs : List Value} {n : Nat} {Q : Value → Shared → Prop} (ho : h.get? a = some (tO vs n)) (wd : Wd h₀ L l news h)
    (hq : ∀ e it oe oi h', Kept h h' → Wd h₀ L l ((e, oe) :: (it, oi) :: news) h' → IsEnum h' e it 0 .none → h'.IsTupleIter it a 0 → Q (.ref e) (At g h' tk)) : wpAny (model prog w) A (call (.type "enumerate") [.ref a]) Q NoE (At g h tk) := by
  refine callType_new PySem.F.called_enumerate (by decide) (PySem.F.typeCall_enumerate_1 _) (PySem.F.newCall_enumerate_1 _) (fun obj => PySem.F.args_object_init_2 obj _) PySem.F.entry_enumerate_new (enumNewT a vs.toArray n) (s := At g h tk) ⟨ho, ?_⟩
  have w1 := wd.push { cls := .type "tuple_iterator", data := .fields #[.ref a, .int 0 0] }
  have w2 := w1.push { cls := .type "enumerate", data := .fields #[.none, .bool false, .ref h.objs.size, rawInt 0, .none, .none] }
  have k1 := (push_new h { cls := .type "tuple_iterator", data := .fields #[.ref a, .int 0 0] }).1
  have k2 := (push_new (h.push { cls := .type "tuple_iterator", data := .fields #[.ref a, .int 0 0] }) { cls := .type "enumerate", data := .fields #[.none, .bool false, .ref h.objs.size, rawInt 0, .none, .none] }).1
  refine ⟨⟨_, w2.geti 0 rfl, rfl⟩, hq _ _ _ _ _ (fun b o e => k2 b o (k1 b o e)) w2 (w2.geti 0 rfl) ⟨_, w2.geti 1 rfl, rfl, rfl⟩⟩
end
end
section
section
variable {prog : Program} {w : World} {A : Around} {g : Shared} {h₀ h : Heap} {tk : Nat} {L : Addr} {l : List (Str × Value)} {news : List (Addr × Obj)} {env : Env} {K : Frag} {k : Nat}
theorem Wd.drop2 {e it : Addr} {oe oi : Obj} {h₁ : Heap} (wd : Wd h₀ L l ((e, oe) :: (it, oi) :: news) h) (hk : ∀ b o, b ∉ [e, it] → h.get? b = some o → h₁.get? b = some o) : Wd h₀ L l news h₁ := by
  obtain ⟨m, F, hl⟩ := wd.fr
  have he := wd.nw (e, oe) (.head _)
  have hi := wd.nw (it, oi) (.tail _ (.head _))
  have hold : ∀ b ob, h₀.get? b = some ob → b ∉ [e, it] := fun b ob x q => by
    rcases List.mem_cons.mp q with rfl | q
    · have := he.2.2; rw [x] at this; cases this
    · rw [List.mem_singleton.mp q] at x; have := hi.2.2; rw [x] at this; cases this
  have nd := wd.nd
  simp only [List.map_cons, List.nodup_cons, List.mem_cons, not_or] at nd
  refine ⟨⟨m, ⟨F.ns.at' fun ob x => hk _ ob (by simp only [List.mem_cons, List.not_mem_nil, or_false, not_or]; exact ⟨Ne.symm he.2.1, Ne.symm hi.2.1⟩) x, fun b ob x => hk b ob (hold b ob x) (F.keep b ob x), F.above⟩, hl⟩, fun p hp => ?_, nd.2.2⟩
  have hp' := wd.nw p (.tail _ (.tail _ hp))
  refine ⟨hk _ _ (fun q => ?_) hp'.1, hp'.2⟩
  rcases List.mem_cons.mp q with q | q
  · exact nd.1.2 (by rw [← q]; exact List.mem_map.mpr ⟨p, hp, rfl⟩)
  · rw [List.mem_singleton] at q; exact nd.2.1 (by rw [← q]; exact List.mem_map.mpr ⟨p, hp, rfl⟩)
theorem Wd.upd2 {e it : Addr} {oe oi oe₁ oi₁ : Obj} {h₁ : Heap} (wd : Wd h₀ L l ((e, oe) :: (it, oi) :: news) h) (hk : ∀ b o, b ∉ [e, it] → h.get? b = some o → h₁.get? b = some o) (h1 : h₁.get? e = some oe₁) (h2 : h₁.get? it = some oi₁) :
    Wd h₀ L l ((e, oe₁) :: (it, oi₁) :: news) h₁ := by
  have wd' := wd.drop2 hk
  refine ⟨wd'.fr, fun p hp => ?_, wd.nd⟩
  rcases List.mem_cons.mp hp with rfl | hp
  · exact ⟨h1, (wd.nw (e, oe) (.head _)).2⟩
  · rcases List.mem_cons.mp hp with rfl | hp
    · exact ⟨h2, (wd.nw (it, oi) (.tail _ (.head _))).2⟩
    · exact wd'.nw p hp
theorem loopE {x y : Str} {p1 p2 pos : Pos} {kk : Nat} {body orelse : List Stmt} {e it a : Addr} {vs : List Value} {n : Nat} {oe oi : Obj} {R : Result → Shared → Prop} (rm : Room A k) (hx : env.kindOf x = some .local) (hy : env.kindOf y = some .local)
    (hp : (env.scope.kind == .class || (env.scope.kind == .module && env.locals != env.globals)) = false)
    (J : Nat → List (Str × Value) → List (Addr × Obj) → Prop) (ha : h₀.get? a = some (tO vs n)) (wd : Wd h₀ env.locals l ((e, oe) :: (it, oi) :: news) h) (he : IsEnum h e it 0 .none) (hit : h.IsTupleIter it a 0) (j0 : J 0 l news)
    (step : ∀ i v t oe oi l news h tk, vs[i]? = some v → J i l news → Wd h₀ env.locals ((y, v) :: (x, .int (i : Nat) t) :: l) ((e, oe) :: (it, oi) :: news) h →
      wpAny (model prog w) A (execs body env) (fun f s₃ => match f with
        | .next | .cont => ∃ l' news' h' tk', s₃ = At g h' tk' ∧ Wd h₀ env.locals l' ((e, oe) :: (it, oi) :: news') h' ∧ J (i + 1) l' news'
        | .brk => R (.ok .next) s₃
        | .ret v => R (.ok (.ret v)) s₃) NoE (At g h tk))
    (done : ∀ l news h tk, J vs.length l news → Wd h₀ env.locals l news h → wpAny (model prog w) A (execs orelse env) (fun f s => R (.ok f) s) NoE (At g h tk)) :
    codeAny (model prog w) A (.forLoop (.Tuple [.Name x p1, .Name y p2] kk pos) (.ref e) body orelse env) R (At g h tk) := by
  have nd := wd.nd
  simp only [List.map_cons, List.nodup_cons, List.mem_cons, not_or] at nd
  have hei : e ≠ it := nd.1.1
  have hae : a ≠ e := by rintro rfl; have := (wd.nw (a, oe) (.head _)).2.2; rw [ha] at this; cases this
  have hai : a ≠ it := by rintro rfl; have := (wd.nw (a, oi) (.tail _ (.head _))).2.2; rw [ha] at this; cases this
  have W := WalksT.enumerateD (drawsT (prog := prog) (w := w) (A := A.in1) rm.hh it a hai vs.toArray) e hei (by simp only [List.mem_cons, List.not_mem_nil, or_false, not_or]; exact ⟨hei, Ne.symm hae⟩) (by simp)
  rw [List.size_toArray] at W
  refine codeAny_forLoop_any (s := At g h tk) (fun k s' => ∃ h' tk' l' news' oe' oi' i, s' = At g h' tk' ∧ ((∃ old, IsEnum h' e it ((i : Nat) : Int) old) ∧ h'.IsTupleIter it a i ∧ h'.IsTuple a vs.toArray) ∧ Wd h₀ env.locals l' ((e, oe') :: (it, oi') :: news') h' ∧ J i l' news' ∧ i ≤ vs.length ∧ k = vs.length + 1 - i) ?_ (vs.length + 1)
    ⟨h, tk, l, news, oe, oi, 0, rfl, ⟨⟨_, he⟩, hit, _, wd.old ha, rfl, n, rfl⟩, wd, j0, Nat.zero_le _, rfl⟩
  rintro k s' ⟨h', tk', l', news', oe', oi', i, rfl, st', wd', hJ, hi, rfl⟩
  by_cases hlt : i < vs.length
  · refine W.item i _ _ _ hlt st' fun T vals h₁ tk₁ hP _ hT hM hk₁ => ?_
    refine W.go _ _ _ i T _ _ _ hM fun h₂ st₂ hk₂ => ?_
    obtain ⟨t, v, hv, rfl⟩ := hP
    have hv' : vs[i]? = some v := by simpa using hv
    have hkk : ∀ b o, b ∉ [e, it] → h'.get? b = some o → h₂.get? b = some o := fun b o hb x => hk₂ b o hb (hk₁ b o hb x)
    obtain ⟨⟨old, he₂⟩, ⟨oi₂, hoi₂, hci₂⟩, hta₂⟩ := id st₂
    obtain ⟨oe₂, hoe₂⟩ : ∃ o, h₂.get? e = some o := ⟨_, he₂⟩
    have hq₂ := hoe₂.symm.trans he₂
    have wd₂ := wd'.upd2 hkk hoe₂ hoi₂
    obtain ⟨oT, hoT, cT, nT, dT⟩ := hT
    have hT₂ : h₂.get? T = some oT := hk₂ _ _ (W.apart _ _ _ hM) hoT
    refine wpAny_assign_Tuple (s := At g h₂ tk₁) rm.hh (items := #[.int (i : Nat) t, v]) ⟨oT, hT₂, cT, nT, dT⟩ rfl rfl fun h₃ hx₃ => ?_
    have wd₃ := wd₂.keep (ext_kept hx₃)
    show wpAny _ _ (assignInOrder [assign (.Name x p1) env, assign (.Name y p2) env] [.int (i : Nat) t, v]) _ _ (At g h₃ tk₁)
    refine wpAny_mono (wpAny_assignInOrder_more (wpAny_assign_Name (st_loc wd₃ hx hp fun h₄ tk₄ wd₄ => wpAny_assignInOrder_more (wpAny_assign_Name (st_loc wd₄ hy hp fun h₅ tk₅ wd₅ => wpAny_assignInOrder_none (step i v t _ _ l' news' h₅ tk₅ hv' hJ wd₅)))))) (fun _ s₁ x₁ => wpAny_mono x₁ (fun f s₃ x₃ => ?_) fun _ _ x => x.elim) fun _ _ x => x.elim
    have fin : (∃ l' news' h' tk', s₃ = At g h' tk' ∧ Wd h₀ env.locals l' ((e, oe₂) :: (it, oi₂) :: news') h' ∧ J (i + 1) l' news') →
        ∃ m, m < vs.length + 1 - i ∧ ∃ h' tk' l' news' oe' oi' j, s₃ = At g h' tk' ∧ ((∃ old, IsEnum h' e it (j : Nat) old) ∧ h'.IsTupleIter it a j ∧ h'.IsTuple a vs.toArray) ∧ Wd h₀ env.locals l' ((e, oe') :: (it, oi') :: news') h' ∧ J j l' news' ∧ j ≤ vs.length ∧ m = vs.length + 1 - j := by
      rintro ⟨l₂, news₂, h₆, tk₆, rfl, wd₆, hJ₂⟩
      refine ⟨vs.length + 1 - (i + 1), by omega, h₆, tk₆, l₂, news₂, _, oi₂, i + 1, rfl, ⟨⟨old, (wd₆.geti 0 rfl).trans hq₂⟩, ⟨oi₂, wd₆.geti 1 rfl, hci₂⟩, ⟨_, wd₆.old ha, rfl, n, rfl⟩⟩, wd₆, hJ₂, hlt, rfl⟩
    cases f with
    | next => exact fin x₃
    | cont => exact fin x₃
    | brk => exact x₃
    | ret v => exact x₃
  · have hin : i = vs.length := by omega
    subst hin
    refine W.done _ _ _ st' fun h₁ tk₁ hk₁ => ?_
    exact wpAny_mono (done l' news' h₁ tk₁ hJ (wd'.drop2 hk₁)) (fun _ _ x => x) fun _ _ x => x.elim
theorem f_enumIter {e it : Addr} {i : Int} {old : Value} {Q : Value → Shared → Prop} (he : IsEnum h e it i old) (hq : Q (.ref e) (At g h tk)) : wpAny (model prog w) A (pyIter (.ref e)) Q NoE (At g h tk) := wpAny_pyIter_enum (s := At g h tk) he hq
end
end
section
inductive FltsAre : List Value → List UInt64 → Prop
  | nil : FltsAre [] []
  | cons (y : UInt64) (t : Tok) {vs ys} : FltsAre vs ys → FltsAre (.float y t :: vs) (y :: ys)
theorem FltsAre.snoc {vs : List Value} {ys : List UInt64} {y : UInt64} {t : Tok} (h : FltsAre vs ys) : FltsAre (vs ++ [.float y t]) (ys ++ [y]) := by
  induction h with
  | nil => exact .cons _ _ .nil
  | cons y t _ ih => exact .cons _ _ ih
theorem FltsAre.len {vs : List Value} {ys : List UInt64} (h : FltsAre vs ys) : vs.length = ys.length := by
  induction h with
  | nil => rfl
  | cons y t _ ih => simp [ih]
theorem FltsAre.at {vs : List Value} {ys : List UInt64} (h : FltsAre vs ys) {i : Nat} {y : UInt64} (hv : ys[i]? = some y) : ∃ t, vs[i]? = some (.float y t) := by
  induction h generalizing i with
  | nil => simp at hv
  | cons y' t _ ih =>
    cases i with
    | zero => simp at hv; exact ⟨t, by simp [hv]⟩
    | succ i => simp at hv; simpa using ih hv
theorem mulOk {a b : Int} (ha : a.natAbs < 2 ^ 30) (hb : b.natAbs < 2 ^ 30) : IntMulOk a b := IntMulOk.of_le (m := 30) (n := 30) (intBits_le_iff.mpr ha) (intBits_le_iff.mpr hb) (by decide)
def flt (N x : Nat) : UInt64 := Float64.ofFrac false (x * N) N
theorem flt_inf : ∀ N < 8, 2 < N → ∀ x < 2, Float64.isInf (flt N x) = false := by decide +kernel
theorem flt_eq1 : ∀ N < 8, 2 < N → ∀ x < 2, (Float64.cmpInt (flt N x) 1 == some Ordering.eq) = (x == 1) := by decide +kernel
section
variable {prog : Program} {w : World} {A : Around} {g : Shared} {h₀ h : Heap} {tk : Nat} {L : Addr} {l : List (Str × Value)} {news : List (Addr × Obj)} {env : Env} {K : Frag} {k : Nat}
theorem f_sorted {a : Addr} {vs : List Value} {n : Nat} {xs : List Nat} {Q : Value → Shared → Prop} (wd : Wd h₀ L l news h) (ho : h.get? a = some (lO vs n)) (hv : NatsAre vs xs) (hz : vs.length < 64)
    (hq : ∀ d us e ys h', Wd h₀ L l ((d, lO us e) :: news) h' → NatsAre us ys → ys.Perm xs → ys.Pairwise (· ≤ ·) → Q (.ref d) (At g h' tk)) : wpAny (model prog w) A (call (.builtin "sorted") [.ref a]) Q NoE (At g h tk) := by
  obtain ⟨m, F, hl⟩ := wd.fr
  refine sorted_N (s := At g h tk) F wd.nw ⟨_, ho, rfl, n, rfl⟩ hv hz fun h' vs' ns' e F' N' hI hp hs => ?_
  have hnn : ∀ z ∈ ns', 0 ≤ z := fun z hz => by
    obtain ⟨q, _, rfl⟩ := List.mem_map.mp (hp.subset hz)
    omega
  have e1 : (ns'.map Int.toNat).map (fun n : Nat => (n : Int)) = ns' := by
    rw [List.map_map]
    conv => rhs; rw [← List.map_id ns']
    refine List.map_congr_left fun z hz => ?_
    have := hnn z hz
    simp only [Function.comp, id]; omega
  refine hq _ vs' e (ns'.map Int.toNat) h' (wd.ofFN F' hl N' (Nat.le_succ _)) (by unfold NatsAre; rw [e1]; exact hI) ?_ ?_
  · have := hp.map Int.toNat
    rw [List.map_map] at this
    have e2 : (Int.toNat ∘ fun n : Nat => (n : Int)) = id := by funext n; simp
    rw [e2, List.map_id] at this
    exact this
  · rw [List.pairwise_map]
    exact hs.imp fun {a b} hab => by omega
theorem o_div {a b : Int} {t u : Tok} {Q : Value → Shared → Prop} (hb : b ≠ 0) (hi : Float64.isInf (Float64.ofFrac (decide (a < 0) != decide (b < 0)) a.natAbs b.natAbs) = false)
    (hq : ∀ t tk', Q (.float (Float64.ofFrac (decide (a < 0) != decide (b < 0)) a.natAbs b.natAbs) t) (At g h tk')) : wpAny (model prog w) A (binaryOp .Div (.int a t) (.int b u)) Q NoE (At g h tk) :=
  AutoIntOps.truediv_2 (s := At g h tk) (by simpa using hb) (by rw [hi]; simp) (hq _ _)
theorem o_divN {x N : Nat} {t u : Tok} {Q : Value → Shared → Prop} (h1 : 2 < N) (h2 : N < 8) (hx : x < 2) (hq : ∀ t tk', Q (.float (flt N x) t) (At g h tk')) : wpAny (model prog w) A (binaryOp .Div (.int ((x * N : Nat) : Int) t) (.int (N : Nat) u)) Q NoE (At g h tk) := by
  have e1 : decide (((x * N : Nat) : Int) < 0) = false := decide_eq_false (Int.not_lt.mpr (Int.natCast_nonneg _))
  have e2 : decide (((N : Nat) : Int) < 0) = false := decide_eq_false (Int.not_lt.mpr (Int.natCast_nonneg _))
  have e3 : (((x * N : Nat) : Int)).natAbs = x * N := Int.natAbs_natCast _
  have e4 : (((N : Nat) : Int)).natAbs = N := Int.natAbs_natCast _
  refine o_div (by omega) ?_ ?_
  · rw [e1, e2, e3, e4]; exact flt_inf N h2 h1 x hx
  · rw [e1, e2, e3, e4]; exact hq
theorem c_eqFI {a : UInt64} {n : Int} {t u : Tok} {Q : Value → Shared → Prop} (hq : Q (.bool (Float64.cmpInt a n == some Ordering.eq)) (At g h tk)) : wpAny (model prog w) A (compareOp .Eq (.float a t) (.int n u)) Q NoE (At g h tk) := PyProof.Rows.eq_fi (s := At g h tk) hq
theorem r_callKw {id : Str} {p pos : Pos} {args : List Expr} {kws : List Keyword} {Q : Value → Shared → Prop} (hq : wpAny (model prog w) A (eval (.Name id p) env) (fun f s₁ => wpAny (model prog w) A (callWith pos f [] (backTo pos (starEach args env)) (backToKw pos (keywordEach kws env))) Q NoE s₁) NoE (At g h tk)) :
    wpAny (model prog w) A (eval (.Call (.Name id p) args kws pos) env) Q NoE (At g h tk) := wpAny_Call_Name_kw hq
end
end
section
theorem front_perm {α : Type} : ∀ (l : List α) (i : Nat) (hi : i < l.length), (l[i] :: l.eraseIdx i).Perm l
  | x :: r, 0, _ => List.Perm.refl _
  | x :: r, i + 1, hi => (List.Perm.swap x (r[i]'(Nat.lt_of_succ_lt_succ hi)) (r.eraseIdx i)).trans ((front_perm r i (Nat.lt_of_succ_lt_succ hi)).cons x)
theorem Wd.front {h₀ h : Heap} {L : Addr} {l : List (Str × Value)} {news : List (Addr × Obj)} (wd : Wd h₀ L l news h) (i : Nat) (hi : i < news.length) : Wd h₀ L l (news[i] :: news.eraseIdx i) h := wd.perm (front_perm news i hi)
theorem Wd.back {h₀ h : Heap} {L : Addr} {l : List (Str × Value)} {q : Addr × Obj} {news : List (Addr × Obj)} (wd : Wd h₀ L l (q :: news) h) : Wd h₀ L l (news ++ [q]) h := wd.perm (List.perm_append_singleton q news)
theorem sorted01 {ys xs : List Nat} (hp : ys.Perm xs) (hs : ys.Pairwise (· ≤ ·)) (hx : ∀ x ∈ xs, x < 2) {need : Nat} (h1 : 1 ≤ need) (h2 : need ≤ xs.length) :
    (ys.getD (xs.length - need) 0 == 1) = decide (need ≤ xs.countP (· == 1)) := by
  have hl : ys.length = xs.length := hp.length_eq
  have hy : ∀ y ∈ ys, y < 2 := fun y h => hx y (hp.subset h)
  have hc : xs.countP (· == 1) = ys.countP (· == 1) := (hp.countP_eq _).symm
  rw [hc, ← hl]
  rw [← hl] at h2
  obtain ⟨k, hk⟩ : ∃ k, k = ys.length - need := ⟨_, rfl⟩
  rw [← hk]
  have hkl : k < ys.length := by omega
  have hget : ys.getD k 0 = ys[k] := by rw [List.getD_eq_getElem?_getD, List.getElem?_eq_getElem hkl]; rfl
  rw [hget]
  have mono : ∀ i j (hi : i < ys.length) (hj : j < ys.length), i ≤ j → ys[i] ≤ ys[j] := fun i j hi hj hij => by
    rcases Nat.lt_or_eq_of_le hij with h | h
    · exact (List.pairwise_iff_getElem.mp hs) i j hi hj h
    · subst h; exact Nat.le_refl _
  have hk2 := hy ys[k] (List.getElem_mem hkl)
  by_cases h01 : ys[k] = 1
  · have hall : (ys.drop k).countP (· == 1) = (ys.drop k).length := by
      rw [List.countP_eq_length]
      intro a ha
      obtain ⟨i, hi, rfl⟩ := List.mem_iff_getElem.mp ha
      rw [List.getElem_drop]
      rw [List.length_drop] at hi
      have := mono k (k + i) hkl (by omega) (by omega)
      have := hy ys[k + i] (List.getElem_mem _)
      simp; omega
    have hsplit : ys.countP (· == 1) = (ys.take k).countP (· == 1) + (ys.drop k).countP (· == 1) := by
      rw [← List.countP_append, List.take_append_drop]
    rw [h01, hsplit, hall, List.length_drop]
    simp; omega
  · have hall : (ys.take (k + 1)).countP (· == 1) = 0 := by
      rw [List.countP_eq_zero]
      intro a ha
      obtain ⟨i, hi, rfl⟩ := List.mem_iff_getElem.mp ha
      rw [List.getElem_take]
      rw [List.length_take] at hi
      have := mono i k (by omega) hkl (by omega)
      simp; omega
    have hsplit : ys.countP (· == 1) = (ys.take (k + 1)).countP (· == 1) + (ys.drop (k + 1)).countP (· == 1) := by
      rw [← List.countP_append, List.take_append_drop]
    have hle := List.countP_le_length (p := (· == 1)) (l := ys.drop (k + 1))
    rw [List.length_drop] at hle
    rw [hsplit, hall]
    have : (ys[k] == 1) = false := by simpa using h01
    rw [this]
    symm
    rw [decide_eq_false_iff_not]
    omega
/-- the column of place p -/
def col (rows : List (List Nat)) (p : Nat) : List Nat := rows.map fun r => if r.getD p 0 = 45 then 0 else 1
theorem col_lt (rows : List (List Nat)) (p : Nat) : ∀ x ∈ col rows p, x < 2 := by
  intro x hx
  obtain ⟨r, _, rfl⟩ := List.mem_map.mp hx
  split <;> omega
theorem col_count (rows : List (List Nat)) (p : Nat) : (col rows p).countP (· == 1) = rows.countP (fun r => r.getD p 0 != 45) := by
  unfold col
  rw [List.countP_map]
  refine List.countP_congr fun r _ => ?_
  simp only [Function.comp]
  by_cases h : r.getD p 0 = 45
  · simp [h]
  · simp [h]
def sg0 (p : Nat) : Nat := [45, 114, 119, 120, 114, 119, 120, 114, 119, 120].getD p 45
/-- the sign of place p in the layer of those that at least need rows show -/
def layC (rows : List (List Nat)) (need p : Nat) : Nat := if need ≤ rows.countP (fun r => r.getD p 0 != 45) then sg0 p else 45
theorem sg0_lit : Str.ofString "-rwxrwxrwx" = mkS [45, 114, 119, 120, 114, 119, 120, 114, 119, 120] := by rfl
theorem sg0_get {i : Nat} (hi : i < 10) : [45, 114, 119, 120, 114, 119, 120, 114, 119, 120][i]? = some (sg0 i) := by
  unfold sg0
  rw [List.getD_eq_getElem?_getD, List.getElem?_eq_getElem (by simpa using hi)]; rfl
end
section
/-- v is a pair: place p and its sign -/
def TupIs (h : Heap) (v : Value) (p : Nat) : Prop := ∃ T t1 t2 n, v = .ref T ∧ h.get? T = some (tO [.int (p : Nat) t1, .str (ch (sg0 p)) t2] n)
theorem TupIs.keep {h h' : Heap} {v : Value} {p : Nat} (x : TupIs h v p) (hk : Kept h h') : TupIs h' v p := let ⟨T, t1, t2, n, e, ho⟩ := x; ⟨T, t1, t2, n, e, hk _ _ ho⟩
inductive KeysAre (h : Heap) : List Value → List Nat → Prop
  | nil : KeysAre h [] []
  | cons {v vs p ps} : TupIs h v p → KeysAre h vs ps → KeysAre h (v :: vs) (p :: ps)
theorem KeysAre.keep {h h' : Heap} {vs : List Value} {ps : List Nat} (x : KeysAre h vs ps) (hk : Kept h h') : KeysAre h' vs ps := by
  induction x with
  | nil => exact .nil
  | cons a _ ih => exact .cons (a.keep hk) ih
theorem KeysAre.len {h : Heap} {vs : List Value} {ps : List Nat} (x : KeysAre h vs ps) : vs.length = ps.length := by
  induction x with
  | nil => rfl
  | cons _ _ ih => simp [ih]
theorem KeysAre.get {h : Heap} {vs : List Value} {ps : List Nat} (x : KeysAre h vs ps) {i : Nat} {v : Value} (hv : vs[i]? = some v) : ∃ p, ps[i]? = some p ∧ TupIs h v p := by
  induction x generalizing i with
  | nil => simp at hv
  | @cons v' vs p ps a _ ih =>
    cases i with
    | zero => simp at hv; subst hv; exact ⟨p, rfl, a⟩
    | succ i => simp at hv; simpa using ih hv
theorem KeysAre.snoc {h : Heap} {vs : List Value} {ps : List Nat} {v : Value} {p : Nat} (x : KeysAre h vs ps) (a : TupIs h v p) : KeysAre h (vs ++ [v]) (ps ++ [p]) := by
  induction x with
  | nil => exact .cons a .nil
  | cons b _ ih => exact .cons b ih
theorem KeysAre.app {h : Heap} {vs us : List Value} {ps qs : List Nat} (x : KeysAre h vs ps) (y : KeysAre h us qs) : KeysAre h (vs ++ us) (ps ++ qs) := by
  induction x with
  | nil => exact y
  | cons b _ ih => exact .cons b ih
theorem KeysAre.take {h : Heap} {vs : List Value} {ps : List Nat} (x : KeysAre h vs ps) : ∀ n, KeysAre h (vs.take n) (ps.take n) := by
  induction x with
  | nil => intro n; simpa using .nil
  | cons a _ ih =>
    intro n
    cases n with
    | zero => exact .nil
    | succ n => exact .cons a (ih n)
theorem KeysAre.erase {h : Heap} {vs : List Value} {ps : List Nat} (x : KeysAre h vs ps) : ∀ n, KeysAre h (vs.eraseIdx n) (ps.eraseIdx n) := by
  induction x with
  | nil => intro n; exact .nil
  | cons a y ih =>
    intro n
    cases n with
    | zero => exact y
    | succ n => exact .cons a (ih n)
/-- the place that a value stands for -/
def keyOf (h : Heap) : Value → Nat
  | .ref T => match h.get? T with
    | some ⟨_, _, .seq items _, _⟩ => match items.toList with
      | .int i _ :: _ => i.toNat
      | _ => 0
    | _ => 0
  | _ => 0
theorem TupIs.key {h : Heap} {v : Value} {p : Nat} (x : TupIs h v p) : keyOf h v = p := by
  obtain ⟨T, t1, t2, n, rfl, ho⟩ := x
  show (match h.get? T with
    | some ⟨_, _, .seq items _, _⟩ => match items.toList with
      | .int i _ :: _ => i.toNat
      | _ => 0
    | _ => 0) = p
  rw [ho]; rfl
theorem KeysAre.map {h : Heap} {vs : List Value} {ps : List Nat} (x : KeysAre h vs ps) : vs.map (keyOf h) = ps := by
  induction x with
  | nil => rfl
  | cons a _ ih => rw [List.map_cons, a.key, ih]

theorem tup_eq {A : Around} {s : Shared} {v v' : Value} {p p' : Nat} (hu : A.units + 5 < cLine) (a : TupIs s.heap v p) (b : TupIs s.heap v' p') : SeqAt.EqAt A s v v' (p == p') := by
  obtain ⟨T, t1, t2, n, rfl, ho⟩ := a
  obtain ⟨T', t1', t2', n', rfl, ho'⟩ := b
  by_cases hne : T = T'
  · subst hne
    rw [ho] at ho'
    have : p = p' := by
      have h1 := Option.some.inj ho'
      simp at h1
      exact Int.ofNat_inj.mp (by have := h1.1.1.1; simpa using this)
    subst this
    rw [beq_self_eq_true]
    exact SeqAt.EqAt.same _
  · have hu' : A.units < cLine := by omega
    have hL : s.heap.IsTuple T #[.int (p : Nat) t1, .str (ch (sg0 p)) t2] := ⟨_, ho, rfl, n, rfl⟩
    have hR : s.heap.IsTuple T' #[.int (p' : Nat) t1', .str (ch (sg0 p')) t2'] := ⟨_, ho', rfl, n', rfl⟩
    have key := SeqAt.RcAt.tuples (A := A) (s := s) (e := fun j => if j = 0 then p == p' else ch (sg0 p) == ch (sg0 p')) hL hR hu' (fun j h1 h2 => by
      have hj : j = 0 ∨ j = 1 := by simp at h1; omega
      rcases hj with rfl | rfl
      · have := SeqAt.EqAt.int_int (A := A.in1) (s := s) (p : Int) t1 (p' : Int) t1'
        have e1 : (((p : Nat) : Int) == ((p' : Nat) : Int)) = (p == p') := by rw [Bool.eq_iff_iff]; simp; omega
        rw [e1] at this
        exact this
      · exact (eqGives_str (ch (sg0 p)) (ch (sg0 p')) t2 t2').at _ _)
    have e2 : ((List.range (min (#[.int (p : Nat) t1, .str (ch (sg0 p)) t2] : Array Value).size (#[.int (p' : Nat) t1', .str (ch (sg0 p')) t2'] : Array Value).size)).all (fun j => if j = 0 then p == p' else ch (sg0 p) == ch (sg0 p')) && (#[.int (p : Nat) t1, .str (ch (sg0 p)) t2] : Array Value).size == (#[.int (p' : Nat) t1', .str (ch (sg0 p')) t2'] : Array Value).size) = (p == p') := by
      show ((List.range 2).all _ && true) = _
      rw [Bool.and_true]
      show ((if 0 = 0 then p == p' else _) && ((if 1 = 0 then _ else ch (sg0 p) == ch (sg0 p')) && true)) = _
      simp only [if_true, Bool.and_true]
      by_cases hp : p = p'
      · subst hp; simp
      · simp [hp]
    rw [e2] at key
    exact SeqAt.EqAt.of_refs hne key

section
variable {prog : Program} {w : World} {A : Around} {g : Shared} {h₀ h : Heap} {tk : Nat} {L : Addr} {l : List (Str × Value)} {news : List (Addr × Obj)} {env : Env} {K : Frag} {k : Nat}

theorem rmLoop (d : Addr) (items : Array Value) (n : Nat) (x : Value) (e : Value → Bool) (j : Nat) (hj : j < items.size) (hit : e items[j] = true) (q : Nat) (hs1 : items.size ≤ sizeLine) :
    ∀ i : Nat, j - i = q → i ≤ j → (∀ m (hm : m < items.size), i ≤ m → m < j → e items[m] = false) → Meets (Builtin.«list.remove.loop» ⟨[.ref d, x, rawInt i], []⟩)
      (fun A R s => s.heap.get? d = some { cls := .type "list", dict := none, data := .seq items n, slots := #[] } ∧ (∀ y, y ∈ items → SeqAt.EqAt A.in1 s y x (e y)) ∧ R (.ok (.ret .none)) { s with heap := s.heap.update d (Obj.mapSeq fun xs => xs.eraseIdxIfInBounds j) }) := by
  induction q with
  | zero =>
    intro i hk hij hno prog w A R s h
    obtain ⟨hp, g, dr, tk, os⟩ := s; obtain ⟨hl, he, h⟩ := h
    have hij' : i = j := by omega
    subst hij'
    wp_walk using AutoSeq1.wpAny_loadPart' hl
    have hi : items[((i : Nat) : Int).toNat]? = some items[i] := by simp [hj]
    rw [hi]
    refine wpAny_bind (he _ (Array.getElem_mem hj) prog w _ _ ?_)
    rw [hit]
    have hz' : (items.eraseIdxIfInBounds i).size ≤ sizeLine + 1 := Nat.le_trans (MeetsSeq.size_erased items _) (Nat.le_succ_of_le hs1)
    wp_walk using (wpAny_updateSeq hl rfl (hz := hs1) (_hz' := hz')), AutoSeq1.wpAny_loadPart' hl
    simpa using h
  | succ q ih =>
    intro i hk hij hno prog w A R s h
    obtain ⟨hp, g, dr, tk, os⟩ := s; obtain ⟨hl, he, h⟩ := h
    have hlt : i < items.size := by omega
    wp_walk using AutoSeq1.wpAny_loadPart' hl
    have hi : items[((i : Nat) : Int).toNat]? = some items[i] := by simp [hlt]
    have hc : ((i : Int) + 1) = ((i + 1 : Nat) : Int) := by push_cast; rfl
    rw [hi]
    refine wpAny_bind (he _ (Array.getElem_mem hlt) prog w _ _ ?_)
    rw [hno i hlt (Nat.le_refl _) (by omega)]
    wp_walk
    rw [hc]
    exact ⟨plainId_quiet MeetsSeq.plain_remove_loop _, codeAny_builtin MeetsSeq.entry_remove_loop (by
      rw [Around.under_plainId MeetsSeq.plain_remove_loop _]
      exact ih (i + 1) (by omega) (by omega) (fun m hm h1 h2 => hno m hm (by omega) h2) prog w A R _ ⟨hl, he, h⟩)⟩
theorem rmMeets (d : Addr) (items : Array Value) (n : Nat) (x : Value) (e : Value → Bool) (j : Nat) (hj : j < items.size) (hit : e items[j] = true) (hno : ∀ m (hm : m < items.size), m < j → e items[m] = false) (hs1 : items.size ≤ sizeLine) :
    Meets (Builtin.«list.remove» ⟨[.ref d, x], []⟩)
      (fun A R s => s.heap.get? d = some { cls := .type "list", dict := none, data := .seq items n, slots := #[] } ∧ (∀ y, y ∈ items → SeqAt.EqAt A.in1 s y x (e y)) ∧ R (.ok (.ret .none)) { s with heap := s.heap.update d (Obj.mapSeq fun xs => xs.eraseIdxIfInBounds j) }) := by
  intro prog w A R s h
  obtain ⟨hp, g, dr, tk, os⟩ := s; obtain ⟨hl, he, h⟩ := h
  wp_walk using AutoSeq1.wpAny_loadPart' hl
  exact ⟨plainId_quiet MeetsSeq.plain_remove_loop _, codeAny_builtin MeetsSeq.entry_remove_loop (by
    rw [Around.under_plainId MeetsSeq.plain_remove_loop _]
    exact rmLoop d items n x e j hj hit _ hs1 0 rfl (Nat.zero_le _) (fun m hm _ h2 => hno m hm h2) prog w A R _ ⟨hl, he, h⟩)⟩

theorem f_remove {d : Addr} {vs : List Value} {n : Nat} {ps : List Nat} {x : Value} {p : Nat} {Q : Value → Shared → Prop} (i : Nat) (rm : Room A k) (wd : Wd h₀ L l news h) {hb : Heap} (hkb : Kept hb h) (hi : news[i]? = some (d, lO vs n)) (hvb : KeysAre hb vs ps) (hx : TupIs h x p) (hp : p ∈ ps) (hz : vs.length < 100000)
    (hq : ∀ us h', Wd h₀ L l (news.set i (d, lO us (n + 1))) h' → (∀ b o, b ≠ d → h.get? b = some o → h'.get? b = some o) → KeysAre hb us (ps.erase p) → (∀ v ∈ us, v ∈ vs) → Q .none (At g h' tk)) : wpAny (model prog w) A (call (.builtin "list.remove") [.ref d, x]) Q NoE (At g h tk) := by
  have hv := hvb.keep hkb
  have hlen := hv.len
  obtain ⟨j, hj1, hj2⟩ : ∃ j, ps.idxOf p = j ∧ j < ps.length := ⟨_, rfl, List.idxOf_lt_length_of_mem hp⟩
  have hjv : j < vs.toArray.size := by rw [List.size_toArray]; omega
  have hkey : ∀ m (hm : m < vs.toArray.size), keyOf h vs.toArray[m] = ps[m]'(by rw [List.size_toArray] at hm; omega) := by
    intro m hm
    obtain ⟨q, hq1, hq2⟩ := hv.get (i := m) (v := vs.toArray[m]) (by rw [List.size_toArray] at hm; simp [hm])
    rw [hq2.key]
    exact (List.getElem?_eq_some_iff.mp hq1).2.symm
  have hpj : ps[j] = p := by subst hj1; exact List.getElem_idxOf hj2
  refine call_meets PySem.F.slot_list_remove ⟨_, wd.geti i hi, rfl⟩ PySem.F.entry_list_remove (PySem.F.args_list_remove_2 _ _) (rmMeets d vs.toArray n x (fun y => keyOf h y == p) j hjv (by simp only [hkey j hjv, hpj, beq_self_eq_true]) (fun m hm hlt => ?_) (by rw [List.size_toArray, sizeLine_eq]; omega)) (s := At g h tk) ⟨wd.geti i hi, fun y hy => ?_, ?_⟩
  · rw [hkey m hm]
    have := List.not_of_lt_findIdx (p := (· == p)) (xs := ps) (i := m) (by show m < ps.idxOf p; omega)
    simpa using this
  · obtain ⟨m, hm, rfl⟩ := Array.mem_iff_getElem.mp hy
    obtain ⟨q, hq1, hq2⟩ := hv.get (i := m) (v := vs.toArray[m]) (by rw [List.size_toArray] at hm; simp [hm])
    rw [hq2.key]
    exact tup_eq (by have := rm.hu; show A.units + 1 + 5 < cLine; omega) hq2 hx
  · have q := PySem.IsL.update (wd.geti i hi) (fun xs => xs.eraseIdxIfInBounds j)
    have e1 : vs.toArray.eraseIdxIfInBounds j = (vs.eraseIdx j).toArray := by simp
    have e2 : (if (vs.toArray.eraseIdxIfInBounds j).size == vs.toArray.size then n else n + 1) = n + 1 := by
      rw [e1, List.size_toArray, List.size_toArray, List.length_eraseIdx_of_lt (by omega)]
      rw [if_neg (by simp; omega)]
    rw [e2, e1] at q
    have sb : Heap.SameBut d h (h.update d (Obj.mapSeq fun xs => xs.eraseIdxIfInBounds j)) := Heap.SameBut.update ..
    refine hq (vs.eraseIdx j) _ (wd.upd i hi (fun b ob hb e => sb.extBut b ob hb e) q) (fun b ob hb e => sb.extBut b ob hb e) ?_ fun v hv => List.mem_of_mem_eraseIdx hv
    have e3 : ps.erase p = ps.eraseIdx j := by rw [List.erase_eq_eraseIdx_of_idxOf hj1]
    rw [e3]
    exact hvb.erase j

theorem f_pop {d : Addr} {vs : List Value} {n : Nat} {v : Value} {Q : Value → Shared → Prop} (i : Nat) (wd : Wd h₀ L l news h) (hi : news[i]? = some (d, lO (vs ++ [v]) n)) (hz : vs.length < 100000)
    (hq : ∀ h', Wd h₀ L l (news.set i (d, lO vs (n + 1))) h' → Q v (At g h' tk)) : wpAny (model prog w) A (call (.builtin "list.pop") [.ref d]) Q NoE (At g h tk) := by
  refine call_meets PySem.F.slot_list_pop ⟨_, wd.geti i hi, rfl⟩ PySem.F.entry_list_pop (PySem.F.args_list_pop_1 _) (MeetsSeq.list_pop_last d (vs ++ [v]).toArray n v (by simp) (by rw [List.size_toArray, sizeLine_eq, List.length_append]; simp; omega)) (s := At g h tk) ⟨wd.geti i hi, ?_⟩
  have q := PySem.IsL.update (wd.geti i hi) (fun xs => xs.eraseIdxIfInBounds ((vs ++ [v]).toArray.size - 1))
  have e1 : (vs ++ [v]).toArray.eraseIdxIfInBounds ((vs ++ [v]).toArray.size - 1) = vs.toArray := by
    have : (vs ++ [v]).eraseIdx vs.length = vs := by rw [List.eraseIdx_append_of_length_le (Nat.le_refl _)]; simp
    simp [this]
  rw [e1] at q
  have e2 : (if vs.toArray.size == (vs ++ [v]).toArray.size then n else n + 1) = n + 1 := by rw [if_neg (by simp)]
  rw [e2] at q
  have sb : Heap.SameBut d h (h.update d (Obj.mapSeq fun xs => xs.eraseIdxIfInBounds ((vs ++ [v]).toArray.size - 1))) := Heap.SameBut.update ..
  exact hq _ (wd.upd i hi (fun b ob hb e => sb.extBut b ob hb e) q)

theorem f_extend {d b : Addr} {vs us : List Value} {n m : Nat} {Q : Value → Shared → Prop} (i : Nat) (wd : Wd h₀ L l news h) (hi : news[i]? = some (d, lO vs n)) (hb : h.get? b = some (lO us m)) (hz : vs.length + us.length < 100000)
    (hq : ∀ e h', Wd h₀ L l (news.set i (d, lO (vs ++ us) e)) h' → Q .none (At g h' tk)) : wpAny (model prog w) A (call (.builtin "list.extend") [.ref d, .ref b]) Q NoE (At g h tk) := by
  refine call_meets PySem.F.slot_list_extend ⟨_, wd.geti i hi, rfl⟩ PySem.F.entry_list_extend (PySem.F.args_list_extend_2 _ _) (AutoSeq1.list_extend_list_list_0 d vs.toArray n b us.toArray m ?_ (by rw [List.size_toArray, sizeLine_eq]; omega) (by rw [List.size_toArray, List.size_toArray, sizeLine_eq]; omega)) (s := At g h tk) ⟨wd.geti i hi, hb, ?_⟩
  · have : Builtin.List.listTooLong (vs.toArray.size + us.toArray.size) = false := by
      unfold Builtin.List.listTooLong
      rw [List.size_toArray, List.size_toArray, sizeLine_eq]
      simp; omega
    rw [this]; simp
  · have q := PySem.IsL.update (wd.geti i hi) (fun x => x ++ us.toArray)
    have e1 : vs.toArray ++ us.toArray = (vs ++ us).toArray := by simp
    rw [e1] at q
    have sb : Heap.SameBut d h (h.update d (Obj.mapSeq fun x => x ++ us.toArray)) := Heap.SameBut.update ..
    exact hq _ _ (wd.upd i hi (fun b ob hb e => sb.extBut b ob hb e) q)

theorem f_notIn {d : Addr} {vs : List Value} {n : Nat} {ps : List Nat} {x : Value} {p : Nat} {Q : Value → Shared → Prop} (rm : Room A k) (hd : h.get? d = some (lO vs n)) (hv : KeysAre h vs ps) (hx : TupIs h x p)
    (hq : Q (.bool (!decide (p ∈ ps))) (At g h tk)) : wpAny (model prog w) A (compareOp .NotIn x (.ref d)) Q NoE (At g h tk) := by
  refine SeqAt.notIn_listAt (s := At g h tk) (items := vs.toArray) (fun y => keyOf h y == p) ⟨_, hd, rfl, n, rfl⟩ (fun y hy => ?_) ?_
  · obtain ⟨m, hm, rfl⟩ := Array.mem_iff_getElem.mp hy
    obtain ⟨q, hq1, hq2⟩ := hv.get (i := m) (v := vs.toArray[m]) (by rw [List.size_toArray] at hm; simp [hm])
    rw [hq2.key]
    exact tup_eq (by have := rm.hu; show A.units + 1 + 5 < cLine; omega) hq2 hx
  · have : vs.toArray.any (fun y => keyOf h y == p) = decide (p ∈ ps) := by
      rw [← hv.map, List.any_toArray, Bool.eq_iff_iff]
      simp
    rw [this]; exact hq
end
end
section
section
variable {prog : Program} {w : World} {A : Around} {g : Shared} {h₀ h : Heap} {tk : Nat} {L : Addr} {l : List (Str × Value)} {news : List (Addr × Obj)} {env : Env} {K : Frag} {k : Nat}
theorem s_try {body orelse : List Stmt} {x : ExceptHandler} {xs : List ExceptHandler} {pos : Pos} {rest : List Stmt} {Q : Flow → Shared → Prop}
    (hq : wpAny (model prog w) A (execs body env) (fun f s₁ => match f with
      | .next => wpAny (model prog w) A (execs orelse env) (fun f s' => match f with | .next => wpAny (model prog w) A (execs rest env) Q NoE s' | f => Q f s') NoE s₁
      | f => (match f with | .next => wpAny (model prog w) A (execs rest env) Q NoE s₁ | f => Q f s₁)) NoE (At g h tk)) :
    wpAny (model prog w) A (execs (.Try body (x :: xs) orelse [] pos :: rest) env) Q NoE (At g h tk) :=
  wpAny_execs_cons (wpAny_Try_except (wpAny_mono hq (fun _ _ x => x) fun _ _ x => x.elim))
theorem s_while {test : Expr} {body orelse : List Stmt} {pos : Pos} {rest : List Stmt} {Q : Flow → Shared → Prop} (I : Nat → Shared → Prop) (n : Nat) (h0 : I n (At g h tk))
    (turn : ∀ n s, I n s → wpAny (model prog w) A (isTrue test env (eval test env)) (fun b s₂ =>
        if b then wpAny (model prog w) A (execs body env) (fun f s₃ => match f with
            | .next | .cont => ∃ m, m < n ∧ I m s₃
            | .brk => wpAny (model prog w) A (execs rest env) Q NoE s₃
            | .ret v => Q (.ret v) s₃) NoE s₂
        else wpAny (model prog w) A (execs orelse env) (fun f s₃ => match f with | .next => wpAny (model prog w) A (execs rest env) Q NoE s₃ | f => Q f s₃) NoE s₂) NoE s) :
    wpAny (model prog w) A (execs (.While test body orelse pos :: rest) env) Q NoE (At g h tk) := by
  refine wpAny_execs_cons (wpAny_While (codeAny_whileLoop I (fun n s hI => ?_) n h0))
  refine wpAny_mono (turn n s hI) (fun b s₂ x₂ => ?_) fun _ _ x => x.elim
  cases b with
  | true =>
    simp only [if_true] at x₂ ⊢
    refine wpAny_mono x₂ (fun f s₃ x₃ => ?_) fun _ _ x => x.elim
    cases f <;> exact x₃
  | false =>
    simp only [Bool.false_eq_true, if_false] at x₂ ⊢
    exact wpAny_mono x₂ (fun _ _ x => x) fun _ _ x => x.elim
theorem s_asgTup {elts : List Expr} {kk : Nat} {tpos pos : Pos} {value : Expr} {rest : List Stmt} {Q : Flow → Shared → Prop} (hs : swapsWithSole [.Tuple elts kk tpos] value pos.line env = pure false) (hw : swappedStores [.Tuple elts kk tpos] value env = pure none)
    (hq : wpAny (model prog w) A (eval value env) (fun v s₁ => wpAny (model prog w) A (assign (.Tuple elts kk tpos) env v) (fun _ s₂ => wpAny (model prog w) A (execs rest env) Q NoE s₂) NoE s₁) NoE (At g h tk)) :
    wpAny (model prog w) A (execs (.Assign [.Tuple elts kk tpos] value pos :: rest) env) Q NoE (At g h tk) := wpAny_execs_cons (Assign_Tuple hq hs hw)
theorem Wd.add {news' own : List (Addr × Obj)} {h' : Heap} (wd : Wd h₀ L l news h) (wd' : Wd h₀ L l news' h') (hadr : news'.map (·.1) = news.map (·.1)) (hn : NewIn h h' own) : Wd h₀ L l (own ++ news') h' := by
  obtain ⟨m, F, hl⟩ := wd.fr
  refine ⟨wd'.fr, fun p hp => ?_, ?_⟩
  · rcases List.mem_append.mp hp with hp | hp
    · obtain ⟨a, b⟩ := hn.has p hp
      refine ⟨b, fun e => ?_, ?_⟩
      · obtain ⟨o, _, _, ho, _⟩ := F.ns
        rw [e, ho] at a; cases a
      · cases hq : h₀.get? p.1 with
        | none => rfl
        | some o => rw [F.keep _ _ hq] at a; cases a
    · exact wd'.nw p hp
  · rw [List.map_append, hadr]
    refine List.nodup_append.mpr ⟨hn.nd, wd.nd, fun a ha b hb e => ?_⟩
    subst e
    obtain ⟨p, hp, rfl⟩ := List.mem_map.mp ha
    obtain ⟨q, hq, e⟩ := List.mem_map.mp hb
    have h1 := (hn.has p hp).1
    rw [← e, (wd.nw q hq).1] at h1; cases h1

/-- a for over a list that stays, two names; the items are pairs of the heap -/
theorem loopL2 {x y : Str} {p1 p2 pos : Pos} {kk : Nat} {body orelse : List Stmt} {I a : Addr} {vs : List Value} {e : Nat} {o : Obj} {R : Result → Shared → Prop} (rm : Room A k) (hx : env.kindOf x = some .local) (hy : env.kindOf y = some .local)
    (hp : (env.scope.kind == .class || (env.scope.kind == .module && env.locals != env.globals)) = false)
    (J : Nat → List (Str × Value) → List (Addr × Obj) → Prop) (ha : ∀ i l news, J i l news → (a, lO vs e) ∈ news) (hvs : ∀ (i : Nat) (v : Value) l news h, vs[i]? = some v → J i l news → Wd h₀ env.locals l news h → ∃ (T : Addr) (v1 v2 : Value) (n : Nat), v = .ref T ∧ h.get? T = some (tO [v1, v2] n))
    (wd : Wd h₀ env.locals l ((I, o) :: news) h) (st : h.IsListIter I a 0) (j0 : J 0 l news)
    (step : ∀ i T v1 v2 n o l news h h₂ tk, vs[i]? = some (.ref T) → h.get? T = some (tO [v1, v2] n) → J i l news → Wd h₀ env.locals l ((I, o) :: news) h → Wd h₀ env.locals ((y, v2) :: (x, v1) :: l) ((I, o) :: news) h₂ →
      wpAny (model prog w) A (execs body env) (fun f s₃ => match f with
        | .next | .cont => ∃ l' news' h' tk', s₃ = At g h' tk' ∧ Wd h₀ env.locals l' ((I, o) :: news') h' ∧ J (i + 1) l' news'
        | .brk => R (.ok .next) s₃
        | .ret v => R (.ok (.ret v)) s₃) NoE (At g h₂ tk))
    (done : ∀ l news h tk, J vs.length l news → Wd h₀ env.locals l news h → wpAny (model prog w) A (execs orelse env) (fun f s => R (.ok f) s) NoE (At g h tk)) :
    codeAny (model prog w) A (.forLoop (.Tuple [.Name x p1, .Name y p2] kk pos) (.ref I) body orelse env) R (At g h tk) := by
  have ho : h.get? a = some (lO vs e) := wd.get (.tail _ (ha _ _ _ j0))
  have hne : a ≠ I := by
    rintro rfl
    obtain ⟨o', ho', hc, _⟩ := st
    rw [ho] at ho'; cases ho'; exact absurd (show Value.type "list" = Value.type "list_iterator" from hc) (by decide)
  have W := Walks.list (prog := prog) (w := w) rm.hh I a hne vs.toArray
  rw [List.size_toArray] at W
  refine loopW W (fun i h st => by obtain ⟨⟨o, ho, _⟩, _⟩ := st; exact ⟨o, ho⟩) J (fun b hb => ?_) wd ⟨st, _, ho, rfl, e, rfl⟩ j0 ?_ done
  · rcases List.mem_cons.mp hb with e1 | hb
    · exact .inl e1
    · rw [List.mem_singleton.mp hb]; exact .inr (.inr ⟨_, ha⟩)
  · rintro i v o l news h tk hi hP hJ wd ⟨⟨oi, hoi, hci, _⟩, _⟩
    have hP' : vs[i]? = some v := by simpa using hP
    obtain ⟨T, v1, v2, n, rfl, hT⟩ := hvs i v l news h hP' hJ (wd.sub (List.sublist_cons_self _ _))
    refine letGo_plain hoi hci (by decide) ?_
    refine a_tup2 rm wd hT hx hy hp fun h' tk' wd' _ => ?_
    exact step i T v1 v2 n o l news h h' tk' hP' hT hJ wd wd'
/-- a for over a list that stays, the name a cell -/
theorem loopLC {x : Str} {px : Pos} {body orelse : List Stmt} {I cc a : Addr} {vs : List Value} {e : Nat} {o oc : Obj} {u : Option Value} {R : Result → Shared → Prop} (rm : Room A k) (hk : env.scope.kind = .function) (hx : env.kindOf x = some .cell) (hcc : env.cells.lookup x = some cc)
    (J : Nat → List (Str × Value) → List (Addr × Obj) → Prop) (ha : h₀.get? a = some (lO vs e)) (wd : Wd h₀ L l ((I, o) :: (cc, oc) :: news) h) (hoc : oc.data = .cell u) (st : h.IsListIter I a 0) (j0 : J 0 l news)
    (step : ∀ i v o oc l news h tk, vs[i]? = some v → J i l news → oc.data = .cell (some v) → Wd h₀ L l ((I, o) :: (cc, oc) :: news) h →
      wpAny (model prog w) A (execs body env) (fun f s₃ => match f with
        | .next | .cont => ∃ l' news' oc' u h' tk', s₃ = At g h' tk' ∧ oc'.data = .cell u ∧ Wd h₀ L l' ((I, o) :: (cc, oc') :: news') h' ∧ J (i + 1) l' news'
        | .brk => R (.ok .next) s₃
        | .ret v => R (.ok (.ret v)) s₃) NoE (At g h tk))
    (done : ∀ l news oc u h tk, J vs.length l news → oc.data = .cell u → Wd h₀ L l ((cc, oc) :: news) h → wpAny (model prog w) A (execs orelse env) (fun f s => R (.ok f) s) NoE (At g h tk)) :
    codeAny (model prog w) A (.forLoop (.Name x px) (.ref I) body orelse env) R (At g h tk) := by
  have hne : a ≠ I := by rintro rfl; have := (wd.nw (a, o) (.head _)).2.2; rw [ha] at this; cases this
  have W := Walks.list (prog := prog) (w := w) rm.hh I a hne vs.toArray
  rw [List.size_toArray] at W
  refine loopWC W (fun i h st => by obtain ⟨⟨o, ho, _⟩, _⟩ := st; exact ⟨o, ho⟩) hk hx hcc J (fun b hb => ?_) wd hoc ⟨st, _, wd.old ha, rfl, e, rfl⟩ j0 ?_ done
  · rcases List.mem_cons.mp hb with e1 | hb
    · exact .inl e1
    · rw [List.mem_singleton.mp hb]; exact .inr (.inl ⟨_, ha⟩)
  · rintro i v o oc l news h tk hi hP hJ hoc wd _
    exact step i v o oc l news h tk (by simpa using hP) hJ hoc wd
end
end
section
def places (r : List Nat) : List Nat := (List.range 10).filter fun p => r.getD p 0 != 45
def bag0 (rows : List (List Nat)) : List Nat := rows.flatMap places
def kdStep (acc : List Nat) (p : Nat) : List Nat := if p ∈ acc then acc else acc ++ [p]
def kd (bs : List Nat) : List Nat := bs.foldl kdStep []
def nextBag (bs : List Nat) : List Nat := (kd bs).reverse.foldl List.erase bs
def bagAt (rows : List (List Nat)) : Nat → List Nat
  | 0 => bag0 rows
  | t + 1 => nextBag (bagAt rows t)
theorem kd_go (bs : List Nat) : ∀ acc : List Nat, acc.Nodup → (bs.foldl kdStep acc).Nodup ∧ ∀ p, p ∈ bs.foldl kdStep acc ↔ p ∈ acc ∨ p ∈ bs := by
  induction bs with
  | nil => intro acc h; exact ⟨h, fun p => by simp⟩
  | cons b r ih =>
    intro acc h
    rw [List.foldl_cons]
    by_cases hb : b ∈ acc
    · have e : kdStep acc b = acc := by unfold kdStep; rw [if_pos hb]
      rw [e]
      refine ⟨(ih acc h).1, fun p => ?_⟩
      rw [(ih acc h).2 p, List.mem_cons]
      constructor
      · rintro (h1 | h1)
        · exact .inl h1
        · exact .inr (.inr h1)
      · rintro (h1 | rfl | h1)
        · exact .inl h1
        · exact .inl hb
        · exact .inr h1
    · have e : kdStep acc b = acc ++ [b] := by unfold kdStep; rw [if_neg hb]
      rw [e]
      have hnd : (acc ++ [b]).Nodup := List.nodup_append.mpr ⟨h, by simp, fun x hx y hy => by rw [List.mem_singleton.mp hy]; rintro rfl; exact hb hx⟩
      refine ⟨(ih _ hnd).1, fun p => ?_⟩
      rw [(ih _ hnd).2 p, List.mem_append, List.mem_singleton, List.mem_cons, or_assoc]
theorem kd_nodup (bs : List Nat) : (kd bs).Nodup := (kd_go bs [] List.nodup_nil).1
theorem kd_mem (bs : List Nat) (p : Nat) : p ∈ kd bs ↔ p ∈ bs := by
  have := (kd_go bs [] List.nodup_nil).2 p
  unfold kd
  simpa using this
theorem nodup_count {p : Nat} : ∀ {l : List Nat}, l.Nodup → p ∈ l → l.count p = 1
  | x :: r, hn, hm => by
    rw [List.nodup_cons] at hn
    rw [List.count_cons]
    by_cases hx : x = p
    · subst hx
      rw [List.count_eq_zero.mpr hn.1]; simp
    · rcases List.mem_cons.mp hm with h1 | h1
      · exact absurd h1.symm hx
      · rw [nodup_count hn.2 h1]; simp [hx]
theorem count_foldl_erase (p : Nat) : ∀ (qs bs : List Nat), (qs.foldl List.erase bs).count p = bs.count p - qs.count p
  | [], bs => by simp
  | q :: r, bs => by
    rw [List.foldl_cons, count_foldl_erase p r, List.count_erase, List.count_cons]
    by_cases h : q = p
    · subst h; simp; omega
    · have h1 : (q == p) = false := by simpa using h
      simp [h1]
theorem count_next (bs : List Nat) (p : Nat) : (nextBag bs).count p = bs.count p - 1 := by
  unfold nextBag
  rw [count_foldl_erase, List.count_reverse]
  by_cases h : p ∈ bs
  · have h1 : (kd bs).count p = 1 := nodup_count (kd_nodup bs) ((kd_mem bs p).mpr h)
    rw [h1]
  · have h1 : bs.count p = 0 := List.count_eq_zero.mpr h
    rw [h1]; simp
theorem count_bagAt (rows : List (List Nat)) (p : Nat) : ∀ t, (bagAt rows t).count p = (bag0 rows).count p - t
  | 0 => rfl
  | t + 1 => by rw [bagAt, count_next, count_bagAt rows p t]; omega
theorem count_places (r : List Nat) {p : Nat} (hp : p < 10) : (places r).count p = if r.getD p 0 != 45 then 1 else 0 := by
  unfold places
  by_cases h : (r.getD p 0 != 45) = true
  · rw [List.count_filter (p := fun p => r.getD p 0 != 45) (a := p) (l := List.range 10) h, if_pos h]
    exact nodup_count List.nodup_range (List.mem_range.mpr hp)
  · rw [if_neg h]
    exact List.count_eq_zero.mpr fun hm => h (by have := (List.mem_filter.mp hm).2; exact this)
theorem count_bag0 (rows : List (List Nat)) {p : Nat} (hp : p < 10) : (bag0 rows).count p = rows.countP (fun r => r.getD p 0 != 45) := by
  unfold bag0
  induction rows with
  | nil => rfl
  | cons r rs ih =>
    rw [List.flatMap_cons, List.count_append, ih, count_places r hp, List.countP_cons]
    omega
theorem mem_bag0 {rows : List (List Nat)} {p : Nat} (h : p ∈ bag0 rows) : p < 10 := by
  obtain ⟨r, _, hr⟩ := List.mem_flatMap.mp h
  exact List.mem_range.mp (List.mem_filter.mp hr).1
theorem mem_bagAt {rows : List (List Nat)} {p t : Nat} (h : p ∈ bagAt rows t) : p < 10 := by
  have h1 : 0 < (bagAt rows t).count p := List.count_pos_iff.mpr h
  rw [count_bagAt] at h1
  have h2 : 0 < (bag0 rows).count p := by omega
  exact mem_bag0 (List.count_pos_iff.mp h2)
theorem kd_lay (rows : List (List Nat)) (t : Nat) {p : Nat} (hp : p < 10) : (if p ∈ kd (bagAt rows t) then sg0 p else 45) = layC rows (t + 1) p := by
  unfold layC
  have : p ∈ kd (bagAt rows t) ↔ t + 1 ≤ rows.countP (fun r => r.getD p 0 != 45) := by
    rw [kd_mem, ← List.count_pos_iff, count_bagAt, count_bag0 rows hp]; omega
  by_cases h : p ∈ kd (bagAt rows t)
  · rw [if_pos h, if_pos (this.mp h)]
  · rw [if_neg h, if_neg (fun q => h (this.mpr q))]
theorem bagAt_end (rows : List (List Nat)) : bagAt rows rows.length = [] := by
  rw [List.eq_nil_iff_forall_not_mem]
  intro p hp
  have h1 : 0 < (bagAt rows rows.length).count p := List.count_pos_iff.mpr hp
  rw [count_bagAt, count_bag0 rows (mem_bagAt hp)] at h1
  have := List.countP_le_length (p := fun r => r.getD p 0 != 45) (l := rows)
  omega
theorem len_bag0 (rows : List (List Nat)) : (bag0 rows).length ≤ 10 * rows.length := by
  unfold bag0
  induction rows with
  | nil => simp
  | cons r rs ih =>
    rw [List.flatMap_cons, List.length_append, List.length_cons]
    have : (places r).length ≤ 10 := by
      unfold places
      have := List.length_filter_le (fun p => r.getD p 0 != 45) (List.range 10)
      simpa using this
    omega
theorem len_foldl_erase : ∀ (qs bs : List Nat), (qs.foldl List.erase bs).length ≤ bs.length
  | [], _ => Nat.le_refl _
  | q :: r, bs => Nat.le_trans (len_foldl_erase r (bs.erase q)) List.length_erase_le
theorem len_bagAt (rows : List (List Nat)) : ∀ t, (bagAt rows t).length ≤ 10 * rows.length
  | 0 => len_bag0 rows
  | t + 1 => Nat.le_trans (len_foldl_erase _ _) (len_bagAt rows t)
theorem len_kd (bs : List Nat) : ∀ acc : List Nat, (bs.foldl kdStep acc).length ≤ acc.length + bs.length := by
  induction bs with
  | nil => intro acc; simp
  | cons b r ih =>
    intro acc
    rw [List.foldl_cons, List.length_cons]
    have := ih (kdStep acc b)
    have h2 : (kdStep acc b).length ≤ acc.length + 1 := by unfold kdStep; split <;> simp
    omega
-- pairs of the ledger
def KIn (tups : List (Addr × Obj)) (v : Value) (p : Nat) : Prop := ∃ T t1 t2, v = .ref T ∧ (T, tO [.int (p : Nat) t1, .str (ch (sg0 p)) t2] 0) ∈ tups
inductive KIns (tups : List (Addr × Obj)) : List Value → List Nat → Prop
  | nil : KIns tups [] []
  | cons {v vs p ps} : KIn tups v p → KIns tups vs ps → KIns tups (v :: vs) (p :: ps)
theorem KIns.snoc {tups : List (Addr × Obj)} {vs : List Value} {ps : List Nat} {v : Value} {p : Nat} (x : KIns tups vs ps) (a : KIn tups v p) : KIns tups (vs ++ [v]) (ps ++ [p]) := by
  induction x with
  | nil => exact .cons a .nil
  | cons b _ ih => exact .cons b ih
theorem KIns.get {tups : List (Addr × Obj)} {vs : List Value} {ps : List Nat} (x : KIns tups vs ps) {i : Nat} {v : Value} (hv : vs[i]? = some v) : ∃ p, ps[i]? = some p ∧ KIn tups v p := by
  induction x generalizing i with
  | nil => simp at hv
  | @cons v' vs p ps a _ ih =>
    cases i with
    | zero => simp at hv; subst hv; exact ⟨p, rfl, a⟩
    | succ i => simp at hv; simpa using ih hv
theorem KIns.len {tups : List (Addr × Obj)} {vs : List Value} {ps : List Nat} (x : KIns tups vs ps) : vs.length = ps.length := by
  induction x with
  | nil => rfl
  | cons _ _ ih => simp [ih]
theorem KIn.tup {tups : List (Addr × Obj)} {h : Heap} {v : Value} {p : Nat} (x : KIn tups v p) (hg : ∀ q ∈ tups, h.get? q.1 = some q.2) : TupIs h v p := let ⟨T, t1, t2, e, hm⟩ := x; ⟨T, t1, t2, 0, e, hg _ hm⟩
theorem KIns.keys {tups : List (Addr × Obj)} {h : Heap} {vs : List Value} {ps : List Nat} (x : KIns tups vs ps) (hg : ∀ q ∈ tups, h.get? q.1 = some q.2) : KeysAre h vs ps := by
  induction x with
  | nil => exact .nil
  | cons a _ ih => exact .cons (a.tup hg) ih
theorem KIns.back {tups : List (Addr × Obj)} {h : Heap} {vs us : List Value} {ps qs : List Nat} (x : KeysAre h us qs) (hm : ∀ v ∈ us, v ∈ vs) (y : KIns tups vs ps) (hg : ∀ q ∈ tups, h.get? q.1 = some q.2) : KIns tups us qs := by
  induction x with
  | nil => exact .nil
  | @cons v us p qs a _ ih =>
    refine .cons ?_ (ih fun u hu => hm u (.tail _ hu))
    obtain ⟨i, hi⟩ := List.getElem?_of_mem (hm v (.head _))
    obtain ⟨p', _, k'⟩ := y.get hi
    have e1 := a.key
    have e2 := (k'.tup hg).key
    rw [e1] at e2
    subst e2; exact k'
/-- pairs in order -/
inductive TupsOk : List (Addr × Obj) → List Nat → Prop
  | nil : TupsOk [] []
  | snoc {ts ps T t1 t2 p} : TupsOk ts ps → TupsOk (ts ++ [(T, tO [.int (p : Nat) t1, .str (ch (sg0 p)) t2] 0)]) (ps ++ [p])
theorem TupsOk.app {ts us : List (Addr × Obj)} {ps qs : List Nat} (x : TupsOk ts ps) (y : TupsOk us qs) : TupsOk (ts ++ us) (ps ++ qs) := by
  induction y with
  | nil => simpa using x
  | snoc _ ih => rw [← List.append_assoc, ← List.append_assoc]; exact .snoc ih
theorem KIn.mono {tups tups' : List (Addr × Obj)} {v : Value} {p : Nat} (x : KIn tups v p) (hs : ∀ q ∈ tups, q ∈ tups') : KIn tups' v p := let ⟨T, t1, t2, e, hm⟩ := x; ⟨T, t1, t2, e, hs _ hm⟩
theorem KIns.mono {tups tups' : List (Addr × Obj)} {vs : List Value} {ps : List Nat} (x : KIns tups vs ps) (hs : ∀ q ∈ tups, q ∈ tups') : KIns tups' vs ps := by
  induction x with
  | nil => exact .nil
  | cons a _ ih => exact .cons (a.mono hs) ih
theorem TupsOk.ins {ts : List (Addr × Obj)} {ps : List Nat} (x : TupsOk ts ps) : KIns ts (ts.map fun q => .ref q.1) ps := by
  induction x with
  | nil => exact .nil
  | snoc _ ih =>
    rw [List.map_append]
    exact (ih.mono fun q hq => List.mem_append_left _ hq).snoc ⟨_, _, _, rfl, List.mem_append_right _ (.head _)⟩
theorem TupsOk.len {ts : List (Addr × Obj)} {ps : List Nat} (x : TupsOk ts ps) : ts.length = ps.length := by
  have := x.ins.len; simpa using this
theorem cr_tups {P : Nat → Value → Prop} (q : Nat → Bool) {i : Nat} {res : List (Value × List (Addr × Obj))}
    (cr : CR P (fun j _ => q j) (fun j _ y own => ∃ d t1 t2, y = .ref d ∧ own = [(d, tO [.int (j : Nat) t1, .str (ch (sg0 j)) t2] 0)]) i res) : TupsOk (res.flatMap (·.2)) ((List.range i).filter q) ∧ res.map (·.1) = (res.flatMap (·.2)).map fun q => .ref q.1 := by
  induction cr with
  | zero => exact ⟨.nil, rfl⟩
  | @skip i res v _ _ hq ih =>
    rw [List.range_succ, List.filter_append]
    have : [i].filter q = ([] : List Nat) := by simp [hq]
    rw [this, List.append_nil]; exact ih
  | @take i res v y own _ _ hq hG ih =>
    obtain ⟨d, t1, t2, rfl, rfl⟩ := hG
    rw [List.range_succ, List.filter_append, List.flatMap_append]
    have : [i].filter q = [i] := by simp [hq]
    rw [this]
    simp only [List.flatMap_cons, List.flatMap_nil, List.append_nil]
    refine ⟨.snoc ih.1, ?_⟩
    rw [List.map_append, List.map_append, ih.2]; rfl
end
section
noncomputable abbrev KK (w : World) : Frag := hd.heap_39 w.params
theorem g_range (w : World) : nsIn (KK w) mainGlobals "range" = some none := by rfl
theorem g_len (w : World) : nsIn (KK w) mainGlobals "len" = some none := by rfl
theorem g_sorted (w : World) : nsIn (KK w) mainGlobals "sorted" = some none := by rfl
theorem g_enumerate (w : World) : nsIn (KK w) mainGlobals "enumerate" = some none := by rfl
theorem g_IFMT (w : World) : nsIn (KK w) mainGlobals "S_IFMT" = some (some (.ref 42)) := by rfl
theorem g_IFREG (w : World) : nsIn (KK w) mainGlobals "S_IFREG" = some (some (.int 32768 242)) := by rfl
theorem g_quant (w : World) : nsIn (KK w) mainGlobals "quantiles" = some (some (.ref 35)) := by rfl
theorem g_table (w : World) : nsIn (KK w) mainGlobals "_filemode_table" = some (some (.ref 75)) := by rfl
theorem g_fmode (w : World) : nsIn (KK w) mainGlobals "filemode" = some (some (.ref 82)) := by rfl
theorem g_unord (w : World) : nsIn (KK w) mainGlobals "unorderable_list_difference" = some (some (.ref 89)) := by rfl
theorem g_files (w : World) : nsIn (KK w) mainGlobals "_law_files" = some (some (.ref 94)) := by rfl
theorem g_row (w : World) : nsIn (KK w) mainGlobals "_law_row" = some (some (.ref 101)) := by rfl
theorem g_held (w : World) : nsIn (KK w) mainGlobals "_law_held" = some (some (.ref 106)) := by rfl
theorem g_common (w : World) : nsIn (KK w) mainGlobals "_law_common" = some (some (.ref 111)) := by rfl
theorem g_cuts (w : World) : nsIn (KK w) mainGlobals "_law_by_cuts" = some (some (.ref 116)) := by rfl
theorem g_bag (w : World) : nsIn (KK w) mainGlobals "_law_by_bag" = some (some (.ref 121)) := by rfl
theorem b_range : bootBuiltins "range" = some (.type "range") := by rfl
theorem b_len : bootBuiltins "len" = some (.builtin "len") := by rfl
theorem b_sorted : bootBuiltins "sorted" = some (.builtin "sorted") := by rfl
theorem b_enumerate : bootBuiltins "enumerate" = some (.type "enumerate") := by rfl
theorem k_IFMT (w : World) : keepIn (KK w) (.ref 42) = true := by rfl
theorem k_quant (w : World) : keepIn (KK w) (.ref 35) = true := by rfl
theorem k_fmode (w : World) : keepIn (KK w) (.ref 82) = true := by rfl
theorem k_unord (w : World) : keepIn (KK w) (.ref 89) = true := by rfl
theorem k_files (w : World) : keepIn (KK w) (.ref 94) = true := by rfl
theorem k_row (w : World) : keepIn (KK w) (.ref 101) = true := by rfl
theorem k_held (w : World) : keepIn (KK w) (.ref 106) = true := by rfl
theorem k_common (w : World) : keepIn (KK w) (.ref 111) = true := by rfl
theorem k_cuts (w : World) : keepIn (KK w) (.ref 116) = true := by rfl
theorem k_bag (w : World) : keepIn (KK w) (.ref 121) = true := by rfl
end
local macro_rules | `(tactic| walk_at "rf") => `(tactic| with_unfolding_all rfl)
-- one step of the walk
local macro_rules | `(tactic| walk_at "m") => `(tactic| first
  | ((with_reducible refine' r_loc ?wd ?hk ?hx ?hv ?hd ?_); (case wd => assumption); (case hk => walk_at "rf"); (case hx => walk_at "rf"); (case hv => walk_at "rf"); (case hd => decide))
  | ((with_reducible refine r_int ?_); intro _ _)
  | ((with_reducible refine r_str ?_); intro _ _)
  | with_reducible refine r_bin ?_
  | with_reducible refine a_nil ?_
  | ((with_reducible refine a_cons ?he ?_); (case he => walk_at "rf"))
  | ((with_reducible refine s_asg ?hs ?_); (case hs => walk_at "rf"))
  | ((with_reducible refine s_expr ?hi ?hs ?_); (case hi => walk_at "rf"); (case hs => walk_at "rf"))
  | with_reducible refine s_if ?_
  | with_reducible refine s_ret ?_
  | with_reducible refine s_brk ?_
  | with_reducible refine s_nil ?_
  | with_reducible refine s_aug ?_
  | ((with_reducible refine s_for ?hs ?_); (case hs => intro _; walk_at "rf"))
  | ((with_reducible refine r_cmp ?hm ?_); (case hm => walk_at "rf"))
  | ((with_reducible refine i_cmp ?hm ?_); (case hm => walk_at "rf"))
  | with_reducible refine r_ite ?_
  | with_reducible refine r_sub ?_
  | with_reducible refine r_list ?_
  | with_reducible refine r_tup ?_
  | with_reducible refine r_call ?_
  | with_reducible refine m_call0 ?_
  | ((with_reducible refine m_call ?he ?hp ?_); (case he => walk_at "rf"); (case hp => walk_at "rf"))
  | ((with_reducible refine m_type ?he ?hp ?_); (case he => walk_at "rf"); (case hp => walk_at "rf"))
  | ((with_reducible refine' r_bltn (K := KK _) ?bs ?hk ?hg ?hb ?hx ?hv ?hv2 ?hn ?hd ?_); (case bs => exact Bs.keep (by assumption) (Wd.kept (by assumption))); (case hk => walk_at "rf"); (case hg => walk_at "rf"); (case hb => walk_at "rf"); (case hx => walk_at "rf"); (case hv => first | exact g_range _ | exact g_len _ | exact g_sorted _ | exact g_enumerate _); (case hv2 => first | exact b_range | exact b_len | exact b_sorted | exact b_enumerate); (case hn => decide); (case hd => decide))
  | ((with_reducible refine' r_ldn ?wd ?hk ?hx ?hv ?_); (case wd => assumption); (case hk => walk_at "rf"); (case hx => walk_at "rf"); (case hv => walk_at "rf"))
  | ((with_reducible refine o_iadd ?_); intro _ _)
  | ((with_reducible refine o_add ?_); intro _ _)
  | ((with_reducible refine o_sub ?_); intro _ _)
  | ((with_reducible refine o_and ?_); intro _ _)
  | ((with_reducible refine o_or ?_); intro _ _)
  | with_reducible refine c_eqI ?_
  | with_reducible refine c_geI ?_
  | with_reducible refine c_ltI ?_
  | with_reducible refine c_gtI ?_
  | with_reducible refine c_eqS ?_
  | with_reducible refine t_int ?_
  | with_reducible refine t_bool ?_
  | ((with_reducible refine i_val ?he ?_); (case he => walk_at "rf"))
  | ((with_reducible refine' st_loc ?wd ?hx ?hp ?_); (case wd => assumption); (case hx => walk_at "rf"); (case hp => walk_at "rf"); intro _ _ _))
local macro_rules | `(tactic| walk_at "append") => `(tactic| ((with_reducible refine r_meth (T := "list") (id := "list.append") PySem.F.plainAttrs_list PySem.F.slot_list_append PySem.F.type_list_append ?hb ?hf ?hl ?_); (case hb => walk_at "rf"); (case hf => walk_at "rf"); (case hl => walk_at "rf")))
local macro_rules | `(tactic| walk_at "join") => `(tactic| ((with_reducible refine r_meth (T := "str") (id := "str.join") PySem.F.plainAttrs_str PySem.F.slot_str_join PySem.F.type_str_join ?hb ?hf ?hl ?_); (case hb => walk_at "rf"); (case hf => walk_at "rf"); (case hl => walk_at "rf")))
section
def sg (p : Nat) : Nat := [114, 119, 120, 114, 119, 120, 114, 119, 120].getD p 45
def rowC (b : Nat) : List Nat := 45 :: (List.range 9).map fun p => if b.testBit (8 - p) then sg p else 45

theorem sg_lit : Str.ofString "rwxrwxrwx" = mkS [114, 119, 120, 114, 119, 120, 114, 119, 120] := by rfl
theorem sg_get {i : Nat} (hi : i < 9) : [114, 119, 120, 114, 119, 120, 114, 119, 120][i]? = some (sg i) := by
  unfold sg
  rw [List.getD_eq_getElem?_getD, List.getElem?_eq_getElem (by simpa using hi)]; rfl
theorem row_call {w : World} {A : Around} {g : Shared} {h0 : Heap} {tk k : Nat} {Q : Value → Shared → Prop} (bs : Bs (KK w) h0) (rm : Room A (k + 1)) (b : Nat) (t0 : Tok)
    (hq : ∀ t' h' tk', Kept h0 h' → Q (.str (mkS (rowC b)) t') (At g h' tk')) :
    wpAny (model PySem.Challenge.rw_oc0086_01.row.prog w) A (call (.ref 101) [.int b t0]) Q NoE (At g h0 tk) := by
  refine callF bs rm (by walk_at "rf") (by walk_at "rf") (BindsTo.of_eq (by walk_at "rf")) (by decide) (by exact locs (by walk_at "rf")) (by walk_at "rf") (by walk_at "rf") (by walk_at "rf") [] (fun _ hp => (nomatch hp)) List.nodup_nil ?_
  intro L h₁ tk₁ wd rm₁
  replace wd : Wd h0 L [(Str.ofString "bits", .int b t0)] [] h₁ := wd
  generalize A.deeper _ = A₁ at rm₁ ⊢
  repeat walk_at "m"
  refine n_listW wd (by simp) fun d h₂ _ _ wd => ?_
  repeat walk_at "m"
  refine f_range1 (by assumption) fun r h₃ tk₃ t₁ u₁ v₁ hr _ wd => ?_
  refine f_rangeIt 9 wd hr (by decide) (by decide) (by decide) (by decide) (.inl rfl) (by decide) fun I o h₄ _ wd hi X => ?_
  refine loopR rm₁ (by walk_at "rf") (by walk_at "rf") (fun i l news => l = [(Str.ofString "signs", .ref d), (Str.ofString "bits", .int b t0)] ∧ ∃ vs e, news = [(d, lO vs e)] ∧ StrsAre vs ((45 :: (List.range i).map fun p => if b.testBit (8 - p) then sg p else 45).map ch)) wd hi ⟨rfl, _, _, rfl, .cons _ _ .nil⟩ ?_ ?_
  · rintro i t' o l news h tk hi ⟨rfl, vs, e, rfl, hs⟩ wd
    have hz : vs.length < 100000 := by rw [StrsAre.len hs]; simp; omega
    repeat walk_at "m"
    walk_at "append"
    repeat walk_at "m"
    refine ⟨(tyL (wd.geti 1 rfl)).1, (tyL (wd.geti 1 rfl)).2, ?_⟩
    repeat walk_at "m"
    refine o_shr (by omega) fun _ _ => ?_
    repeat walk_at "m"
    have e1 : (8 - (0 + (i : Int) * 1)).toNat = 8 - i := by omega
    have e2 : (0 + (i : Int) * 1) = (i : Nat) := by omega
    rw [e1, bit_nat]
    have fin : ∀ c t h₅ tk₅, c = (if b.testBit (8 - i) then sg i else 45) → Wd h0 L [(Str.ofString "signs", .ref d), (Str.ofString "bits", .int b t0)] [(I, o), (d, lO (vs ++ [.str (ch c) t]) (e + 1))] h₅ → ∃ l' news' h' tk', At g h₅ tk₅ = At g h' tk' ∧ Wd h0 L l' ((I, o) :: news') h' ∧ l' = [(Str.ofString "signs", .ref d), (Str.ofString "bits", .int b t0)] ∧ ∃ vs e, news' = [(d, lO vs e)] ∧ StrsAre vs ((45 :: (List.range (i + 1)).map fun p => if b.testBit (8 - p) then sg p else 45).map ch) := by
      intro c t h₅ tk₅ hc wd
      refine ⟨_, _, h₅, tk₅, rfl, wd, rfl, _, _, rfl, ?_⟩
      rw [List.range_succ, List.map_append, ← List.cons_append, List.map_append, List.map_singleton, List.map_singleton, ← hc]
      exact StrsAre.snoc hs
    cases hb : b.testBit (8 - i)
    · rw [if_neg (by simp)]
      repeat walk_at "m"
      refine app_at 1 wd rfl hz fun h₅ wd => ⟨rfl, ?_⟩
      repeat walk_at "m"
      exact fin 45 _ h₅ _ (by rw [hb]; rfl) (wd.pick ["signs", "bits"])
    · rw [if_pos rfl]
      repeat walk_at "m"
      refine b_str (by omega) (by rw [e2, sg_lit, mkS_len]; simp; omega) (by omega) (by walk_at "rf") (by intro _; walk_at "rf") fun t₅ tk₅ => ?_
      rw [e2, sg_lit, item_mkS (c := sg i) (sg_get hi)]
      repeat walk_at "m"
      refine app_at 1 wd rfl hz fun h₅ wd => ⟨rfl, ?_⟩
      repeat walk_at "m"
      exact fin (sg i) _ h₅ _ (by rw [hb]; rfl) (wd.pick ["signs", "bits"])
  · rintro l news h tk ⟨rfl, vs, e, rfl, hs⟩ wd
    repeat walk_at "m"
    walk_at "join"
    repeat walk_at "m"
    refine ⟨tyS.1, tyS.2, ?_⟩
    repeat walk_at "m"
    refine f_join (wd.geti 0 rfl) hs (by rw [chs_len]; simp) fun t' tk' => ?_
    rw [join_ch]
    exact hq _ _ _ wd.kept
end
section
theorem held_call {w : World} {A : Around} {g : Shared} {h0 : Heap} {tk k : Nat} {Q : Value → Shared → Prop} (bs : Bs (KK w) h0) (rm : Room A (k + 1)) {a : Addr} {vs : List Value} {e : Nat} {fs : List Nat} (ho : h0.get? a = some (lO vs e)) (hv : NatsAre vs fs) (hz : vs.length < 1000) (n : Nat) (t0 : Tok)
    (hq : ∀ t' h' tk', Kept h0 h' → Q (.int (hl fs n 9 : Nat) t') (At g h' tk')) :
    wpAny (model PySem.Challenge.rw_oc0086_01.row.prog w) A (call (.ref 106) [.ref a, .int n t0]) Q NoE (At g h0 tk) := by
  refine callC' bs rm (by walk_at "rf") (by walk_at "rf") (BindsTo.of_eq (by walk_at "rf")) (by exact locs (by walk_at "rf")) (by walk_at "rf") (by walk_at "rf") (by walk_at "rf") (by decide) ?_
  intro L h₁ tk₁ cells wd hc rm₁
  replace wd : Wd h0 L [(Str.ofString "need", .int n t0), (Str.ofString "files", .ref a)] cells h₁ := wd
  obtain ⟨oc, rfl, hoc⟩ := CellsAre.one (n := Str.ofString "place") (c := L + 1) hc
  generalize A.deeper _ = A₁ at rm₁ ⊢
  repeat walk_at "m"
  rename Wd _ _ _ _ _ => wd
  refine f_range1 wd fun r h₃ tk₃ t₁ u₁ v₁ hr _ wd => ?_
  refine f_rangeIt 9 wd hr (by decide) (by decide) (by decide) (by decide) (.inl rfl) (by decide) fun I o h₄ _ wd hi X => ?_
  refine loopRC rm₁ (by walk_at "rf") (by walk_at "rf") (by walk_at "rf") (fun i l news => (∃ t, l = [(Str.ofString "bits", .int (hl fs n i : Nat) t), (Str.ofString "need", .int n t0), (Str.ofString "files", .ref a)]) ∧ news = []) wd hoc hi ⟨⟨_, rfl⟩, rfl⟩ ?_ ?_
  · rintro i t' o oc l news h tk hi ⟨⟨tb, rfl⟩, rfl⟩ hoc wd
    have e2 : (0 + (i : Int) * 1) = (i : Nat) := by omega
    rw [e2] at hoc
    refine s_comp wd (by walk_at "rf") (by walk_at "rf") (by decide) (by walk_at "rf") (by decide) (by walk_at "rf") (by walk_at "rf") (by walk_at "rf") (by intro _; walk_at "rf") ?_
    repeat walk_at "m"
    refine f_listIter (wd.old ho) wd fun I' o' h₅ _ wd hit => ?_
    refine compAtL rm₁ (wd.old ho) wd hit (by omega) (fun j _ => (fs.getD j 0).testBit i) (fun _ v y own => y = v ∧ own = []) ?_ ?_ ?_
    · intro C j v h₆ tk₆ hj wdC
      obtain ⟨m, tm, hm, rfl⟩ := hv.get hj
      refine wpAny_tests_one ?_
      repeat walk_at "m"
      refine r_cell (wdC.old (wd.hid (.tail _ (.head _)))) hoc (by walk_at "rf") (by walk_at "rf") (by walk_at "rf") (by decide) ?_
      refine o_shr (by omega) fun _ _ => ?_
      repeat walk_at "m"
      rw [show ((i : Nat) : Int).toNat = i from rfl, bit_nat]
      exact ⟨by rw [List.getD_eq_getElem?_getD, hm]; rfl, _, _, rfl, fun _ _ e => e⟩
    · intro C j v h₆ tk₆ hj _ wdC
      repeat walk_at "m"
      exact ⟨[], _, _, rfl, fun _ _ e => e, NewIn.nil, rfl, rfl⟩
    · intro D h₆ tk₆ res e₆ cr _ h₇ tk₇ wd
      obtain ⟨hlen, hown⟩ := cr_filter hv (·.testBit i) cr
      rw [hown] at wd
      rw [hv.len, List.take_length] at hlen
      have hlz : (res.map (·.1)).length < 100000 := by rw [List.length_map, hlen]; have := List.countP_le_length (p := (·.testBit i)) (l := fs); have := hv.len; omega
      repeat walk_at "m"
      refine f_len (wd.geti 0 rfl) hlz fun _ _ => ?_
      repeat walk_at "m"
      rw [List.length_map, hlen]
      have fin : ∀ tt h₈ tk₈, Wd h0 L [(Str.ofString "bits", .int (hl fs n (i + 1) : Nat) tt), (Str.ofString "need", .int n t0), (Str.ofString "files", .ref a)] [(I, o), (L + 1, oc)] h₈ →
          ∃ l' news' oc' u h' tk', At g h₈ tk₈ = At g h' tk' ∧ oc'.data = .cell u ∧ Wd h0 L l' ((I, o) :: (L + 1, oc') :: news') h' ∧ (∃ t, l' = [(Str.ofString "bits", .int (hl fs n (i + 1) : Nat) t), (Str.ofString "need", .int n t0), (Str.ofString "files", .ref a)]) ∧ news' = [] :=
        fun tt h₈ tk₈ wd => ⟨_, _, oc, _, h₈, tk₈, rfl, hoc, wd, ⟨_, rfl⟩, rfl⟩
      by_cases hle : n ≤ fs.countP (·.testBit i)
      · rw [if_pos (by simpa using hle)]
        repeat walk_at "m"
        refine r_cell (wd.geti 2 rfl) hoc (by walk_at "rf") (by walk_at "rf") (by walk_at "rf") (by decide) ?_
        refine o_shl (by omega) (by omega) (by decide) fun _ _ => ?_
        repeat walk_at "m"
        rename Wd _ _ _ _ _ => wd
        have e3 : ((hl fs n i : Nat) : Int) + 1 * 2 ^ ((i : Nat) : Int).toNat = ((hl fs n (i + 1) : Nat) : Int) := by
          rw [hl, if_pos hle]; simp
        have wd' := (wd.pick ["bits", "need", "files"]).sub (news' := [(I, o), (L + 1, oc)]) (List.sublist_cons_self _ _)
        exact fin _ _ _ (e3 ▸ wd')
      · rw [if_neg (by simpa using hle)]
        repeat walk_at "m"
        have e3 : hl fs n i = hl fs n (i + 1) := by rw [hl, if_neg hle]; rfl
        have wd' := (wd.pick ["bits", "need", "files"]).sub (news' := [(I, o), (L + 1, oc)]) (List.sublist_cons_self _ _)
        exact fin _ _ _ (e3 ▸ wd')
  · rintro l news oc u h tk ⟨⟨tb, rfl⟩, rfl⟩ hoc wd
    repeat walk_at "m"
    exact hq _ _ _ wd.kept
end
section
theorem cr_zeros {P : Nat → Value → Prop} {i : Nat} {res : List (Value × List (Addr × Obj))} (cr : CR P (fun _ _ => true) (fun _ _ y own => own = [] ∧ ∃ t, y = .int 0 t) i res) : NatsAre (res.map (·.1)) (List.replicate i 0) ∧ res.flatMap (·.2) = [] := by
  induction cr with
  | zero => exact ⟨.nil, rfl⟩
  | skip _ _ hq => cases hq
  | take _ _ _ hG ih =>
    obtain ⟨rfl, t, rfl⟩ := hG
    refine ⟨?_, by rw [List.flatMap_append, ih.2]; rfl⟩
    rw [List.map_append, List.replicate_succ']
    exact ih.1.snoc
theorem getD_set (m : List Nat) (p x j : Nat) (hp : p < m.length) : (m.set p x).getD j 0 = if j = p then x else m.getD j 0 := by
  rw [List.getD_eq_getElem?_getD, List.getD_eq_getElem?_getD, List.getElem?_set]
  by_cases h : p = j
  · subst h; simp [hp]
  · rw [if_neg h, if_neg (Ne.symm h)]
theorem NatsAre.set {vs : List Value} {fs : List Nat} {x : Nat} {t : Tok} (h : NatsAre vs fs) (j : Nat) : NatsAre (vs.set j (.int x t)) (fs.set j x) := by
  unfold NatsAre; rw [List.map_set]; exact ints_set h j
theorem NatsAre.at {vs : List Value} {fs : List Nat} (h : NatsAre vs fs) {j : Nat} (hj : j < fs.length) : ∃ t, vs[j]? = some (.int (fs.getD j 0 : Nat) t) := by
  have hl : j < vs.length := by rw [h.len]; exact hj
  obtain ⟨n, t, h1, h2⟩ := h.get (List.getElem?_eq_getElem hl)
  refine ⟨t, ?_⟩
  rw [List.getElem?_eq_getElem hl, h2, List.getD_eq_getElem?_getD, h1]; rfl
theorem NatsAre.drop {vs : List Value} {fs : List Nat} (h : NatsAre vs fs) (x : Nat) : NatsAre (slicePick vs.toArray (some x) none none).toList (fs.drop x) := by
  have := slice_ints_fromW h (x := x) (by omega)
  unfold NatsAre; rw [List.map_drop]; exact this

theorem common_call {w : World} {A : Around} {g : Shared} {h0 : Heap} {tk k : Nat} {Q : Value → Shared → Prop} (bs : Bs (KK w) h0) (rm : Room A (k + 1)) {a : Addr} {vs : List Value} {e : Nat} {fs : List Nat} (ho : h0.get? a = some (lO vs e)) (hv : NatsAre vs fs) (hz : vs.length < 1000)
    (hq : ∀ d us e' h' tk', Kept h0 h' → NewIn h0 h' [(d, lO us e')] → NatsAre us ((List.range fs.length).map fun k => hl fs (k + 1) 9) → Q (.ref d) (At g h' tk')) :
    wpAny (model PySem.Challenge.rw_oc0086_01.row.prog w) A (call (.ref 111) [.ref a]) Q NoE (At g h0 tk) := by
  have hlen := hv.len
  refine callF bs rm (by walk_at "rf") (by walk_at "rf") (BindsTo.of_eq (by walk_at "rf")) (by decide) (by exact locs (by walk_at "rf")) (by walk_at "rf") (by walk_at "rf") (by walk_at "rf") [] (fun _ hp => (nomatch hp)) List.nodup_nil ?_
  intro L h₁ tk₁ wd rm₁
  replace wd : Wd h0 L [(Str.ofString "files", .ref a)] [] h₁ := wd
  generalize A.deeper _ = A₁ at rm₁ ⊢
  repeat walk_at "m"
  refine n_listW wd (by simp) fun d1 h₂ _ _ wd => ?_
  refine r_comp wd (by walk_at "rf") (by decide) (by walk_at "rf") (by decide) (by walk_at "rf") (by intro _; walk_at "rf") ?_
  repeat walk_at "m"
  refine f_listIter (wd.old ho) wd fun I' o' h₅ _ wd hit => ?_
  refine compAtL rm₁ (wd.old ho) wd hit (by omega) (fun _ _ => true) (fun _ _ y own => own = [] ∧ ∃ t, y = .int 0 t) ?_ ?_ ?_
  · intro C j v h₆ tk₆ hj wdC
    exact wpAny_tests_nil ⟨rfl, _, _, rfl, fun _ _ e => e⟩
  · intro C j v h₆ tk₆ hj _ wdC
    repeat walk_at "m"
    exact ⟨[], _, _, rfl, fun _ _ e => e, NewIn.nil, rfl, _, rfl⟩
  intro D h₆ tk₆ res e₆ cr _ wd
  obtain ⟨hzs, hown⟩ := cr_zeros cr
  rw [hown] at wd
  have hrl : (res.map (·.1)).length = fs.length := by rw [hzs.len, List.length_replicate]; exact hlen
  refine o_cat wd (wd.geti 1 rfl) (wd.geti 0 rfl) (by rw [hrl]; simp; omega) fun d h₇ wd => ?_
  repeat walk_at "m"
  rename Wd _ _ _ _ _ => wd
  replace wd := wd.sub (news' := [(d, _)]) (List.Sublist.cons_cons _ (List.nil_sublist _))
  refine f_listIter (wd.old ho) wd fun I o h₈ _ wd hit X => ?_
  refine loopL rm₁ (by walk_at "rf") (by walk_at "rf") (fun i l news => l = [(Str.ofString "masks", .ref d), (Str.ofString "files", .ref a)] ∧ ∃ us e m, news = [(d, lO us e)] ∧ NatsAre us m ∧ MOk (fs.take i) fs.length m) (.inl ⟨_, ho⟩) (wd.old ho) wd hit ⟨rfl, _, _, 511 :: List.replicate fs.length 0, rfl, ?_, MOk.start _⟩ ?_ ?_
  · have := hzs
    rw [hlen] at this
    exact .cons _ _ this
  · rintro i v o l news h tk hi ⟨rfl, us, e', m, rfl, hus, hm⟩ wd _
    obtain ⟨one, t1, h1, rfl⟩ := hv.get hi
    repeat walk_at "m"
    refine f_len (wd.old ho) (by omega) fun _ _ => ?_
    repeat walk_at "m"
    refine r_neg ?_
    repeat walk_at "m"
    refine o_neg fun _ _ => ?_
    repeat walk_at "m"
    refine f_range3 wd (by decide) (by decide) fun r h₃ tk₃ t₁ u₁ v₁ hr _ wd => ?_
    refine f_rangeIt fs.length wd hr (by omega) (by omega) (by decide) (by decide) (.inr rfl) (by rw [size_dn, hlen]; omega) fun I' o' h₄ _ wd hi' X' => ?_
    refine loopR rm₁ (by walk_at "rf") (by walk_at "rf") (fun j l news => l = [(Str.ofString "one", .int (one : Nat) t1), (Str.ofString "masks", .ref d), (Str.ofString "files", .ref a)] ∧ ∃ us e m', news = [(I, o), (d, lO us e)] ∧ NatsAre us m' ∧ m'.length = fs.length + 1 ∧ ∀ q, q ≤ fs.length → m'.getD q 0 = if fs.length - j < q then up1 m one q else m.getD q 0) wd hi' ⟨rfl, us, _, m, rfl, hus, hm.1, fun q hq => by rw [if_neg (by omega)]⟩ ?_ ?_
    · rintro j t' o' l news h tk hj ⟨rfl, us, e', m', rfl, hus, hml, hmq⟩ wd
      have e2 : ((vs.length : Int) + (j : Nat) * (-1)) = ((fs.length - j : Nat) : Int) := by omega
      rw [e2] at wd
      have hp1 : fs.length - j < m'.length := by omega
      have hp2 : fs.length - j - 1 < m'.length := by omega
      have hul := hus.len
      obtain ⟨ta, ha⟩ := hus.at hp1
      obtain ⟨tb, hb⟩ := hus.at hp2
      refine s_asgSub (by walk_at "rf") ?_
      repeat walk_at "m"
      refine b_list (wd.geti 2 rfl) (by omega) (by omega) ha (by walk_at "rf") ?_
      repeat walk_at "m"
      refine b_list (wd.geti 2 rfl) (by omega) (by omega) (v := .int (m'.getD (fs.length - j - 1) 0 : Nat) tb) ?_ (by walk_at "rf") ?_
      · rw [← hb]; congr 1; omega
      repeat walk_at "m"
      rw [and_nat, or_nat]
      refine f_set 2 wd rfl (by omega) (by omega) (by omega) fun h₉ wd => ?_
      repeat walk_at "m"
      refine ⟨_, _, h₉, _, rfl, (wd.pick ["one", "masks", "files"]), rfl, _, _, m'.set (fs.length - j) (m'.getD (fs.length - j) 0 ||| m'.getD (fs.length - j - 1) 0 &&& one), rfl, hus.set _, by rw [List.length_set]; exact hml, fun q hq => ?_⟩
      rw [getD_set _ _ _ _ hp1]
      by_cases h3 : q = fs.length - j
      · rw [if_pos h3, if_pos (by omega), hmq _ (by omega), hmq _ (by omega), if_neg (by omega), if_neg (by omega), ← h3]; rfl
      · rw [if_neg h3, hmq q hq]
        by_cases h4 : fs.length - j < q
        · rw [if_pos h4, if_pos (by omega)]
        · rw [if_neg h4, if_neg (by omega)]
    · rintro l news h tk ⟨rfl, us, e', m', rfl, hus, hml, hmq⟩ wd
      repeat walk_at "m"
      refine ⟨_, _, h, _, rfl, (wd.pick ["masks", "files"]), rfl, _, _, m', rfl, hus, ?_⟩
      rw [List.take_add_one, h1]
      refine hm.step hml fun q hq => ?_
      rw [hmq q hq, Nat.sub_self]
  · rintro l news h tk ⟨rfl, us, e', m, rfl, hus, hm⟩ wd
    rw [hlen, List.take_length] at hm
    walk_at "m"
    walk_at "m"
    refine r_slFr (by intro _ _; rfl) ?_
    repeat walk_at "m"
    refine ⟨_, _, d, us, _, 1, _, rfl, rfl, rfl, wd.geti 0 rfl, by have := hus.len; have := hm.1; omega, fun d' h' hk hn => ?_⟩
    refine hq d' _ _ h' _ (fun b o e => hk b o (wd.kept b o e)) ⟨fun q hq => ⟨?_, (hn.has q hq).2⟩, hn.nd⟩ (hm.fin ▸ hus.drop 1)
    have := (hn.has q hq).1
    cases e : h0.get? q.1 with
    | none => rfl
    | some o => rw [wd.kept _ _ e] at this; cases this
end
section
def filesOf (ns : List Int) : List Nat := ((ns.take 4).map fun x => (x.fmod 512).toNat) ++ [416, 365]
theorem fmod_nat (x : Int) : x.fmod 512 = ((x.fmod 512).toNat : Int) := by
  have := Int.fmod_nonneg_of_pos x (b := 512) (by decide)
  omega
theorem NatsAre.app {vs us : List Value} {fs gs : List Nat} (h : NatsAre vs fs) (h2 : NatsAre us gs) : NatsAre (vs ++ us) (fs ++ gs) := by
  unfold NatsAre; rw [List.map_append]; exact ints_app h h2
theorem files_call {w : World} {A : Around} {g : Shared} {h0 : Heap} {tk k : Nat} {Q : Value → Shared → Prop} (bs : Bs (KK w) h0) (rm : Room A (k + 1)) {a : Addr} {vs : List Value} {ns : List Int} (ho : h0.IsList a vs.toArray) (hv : IntsAre vs ns) (hz : vs.length < 1000)
    (hq : ∀ d us e' h' tk', Kept h0 h' → NewIn h0 h' [(d, lO us e')] → NatsAre us (filesOf ns) → Q (.ref d) (At g h' tk')) :
    wpAny (model PySem.Challenge.rw_oc0086_01.row.prog w) A (call (.ref 94) [.ref a]) Q NoE (At g h0 tk) := by
  refine callF bs rm (by walk_at "rf") (by walk_at "rf") (BindsTo.of_eq (by walk_at "rf")) (by decide) (by exact locs (by walk_at "rf")) (by walk_at "rf") (by walk_at "rf") (by walk_at "rf") [] (fun _ hp => (nomatch hp)) List.nodup_nil ?_
  intro L h₁ tk₁ wd rm₁
  replace wd : Wd h0 L [(Str.ofString "script", .ref a)] [] h₁ := wd
  generalize A.deeper _ = A₁ at rm₁ ⊢
  refine s_comp wd (by walk_at "rf") (by walk_at "rf") (by decide) (by walk_at "rf") (by decide) (by walk_at "rf") (by walk_at "rf") (by walk_at "rf") (by intro _; walk_at "rf") ?_
  refine r_slUp (by intro _ _; rfl) ?_
  repeat walk_at "m"
  refine ⟨_, _, a, vs, 4, _, rfl, rfl, rfl, ho.at fun o e => wd.kept _ o e, by omega, fun d h₂ hk hn => ?_⟩
  replace wd := wd.more hk hn
  have hsl : IntsAre (slicePick vs.toArray none (some 4) none).toList (ns.take 4) := slice_ints_uptoW hv (y := 4) (by decide)
  have hsll := ints_len hsl
  have hsz : (slicePick vs.toArray none (some 4) none).toList.length < 100000 := by rw [hsll, List.length_take]; omega
  refine f_listIter (wd.geti 0 rfl) wd fun I' o' h₅ _ wd hit => ?_
  refine compAtL rm₁ (wd.geti 1 rfl) wd hit hsz (fun _ _ => true) (fun i _ y own => own = [] ∧ ∃ t, y = .int (((ns.take 4).getD i 0).fmod 512).toNat t) ?_ ?_ ?_
  · intro C j v h₆ tk₆ hj wdC
    exact wpAny_tests_nil ⟨rfl, _, _, rfl, fun _ _ e => e⟩
  · intro C j v h₆ tk₆ hj _ wdC
    obtain ⟨n, t, hn, rfl⟩ := ints_get hsl hj
    repeat walk_at "m"
    refine o_mod (by decide) fun t5 _ => ?_
    refine ⟨[], _, _, rfl, fun _ _ e => e, NewIn.nil, rfl, t5, ?_⟩
    rw [List.getD_eq_getElem?_getD, hn, ← fmod_nat]; rfl
  intro D h₆ tk₆ res e₆ cr _ h₇ tk₇ wd
  obtain ⟨hzs, hown⟩ := cr_nats (fun i => (((ns.take 4).getD i 0).fmod 512).toNat) cr
  rw [hown] at wd
  rw [hsll, range_getD (ns.take 4) 0 fun x => (x.fmod 512).toNat] at hzs
  repeat walk_at "m"
  refine n_listW wd (by simp) fun d1 h₂ _ _ wd => ?_
  refine o_cat wd (wd.geti 1 rfl) (wd.geti 0 rfl) (by rw [hzs.len, List.length_map, List.length_take]; simp; omega) fun d h₇ wd => ?_
  refine hq d _ _ h₇ _ wd.kept (wd.newIn (List.Sublist.cons_cons _ (List.nil_sublist _))) (hzs.app ?_)
  exact .cons _ _ (.cons _ _ .nil)
end
section
abbrev Pr := Addr × Nat × Tok × Nat × Tok
def TB : List (Addr × List Pr) := [
  (50, [(43, 40960, 246, 108, 274), (44, 49152, 248, 115, 275), (45, 32768, 242, 45, 276), (46, 24576, 240, 98, 277), (47, 16384, 236, 100, 278), (48, 8192, 238, 99, 279), (49, 4096, 244, 112, 280)]),
  (52, [(51, 256, 256, 114, 281)]),
  (54, [(53, 128, 258, 119, 282)]),
  (58, [(55, 2112, 283, 115, 284), (56, 2048, 250, 83, 285), (57, 64, 260, 120, 286)]),
  (60, [(59, 32, 262, 114, 287)]),
  (62, [(61, 16, 264, 119, 288)]),
  (66, [(63, 1032, 289, 115, 290), (64, 1024, 252, 83, 291), (65, 8, 266, 120, 292)]),
  (68, [(67, 4, 268, 114, 293)]),
  (70, [(69, 2, 270, 119, 294)]),
  (74, [(71, 513, 295, 116, 296), (72, 512, 254, 84, 297), (73, 1, 272, 120, 298)])]
def prV (p : Pr) : List Value := [.int (p.2.1 : Nat) p.2.2.1, .str (ch p.2.2.2.1) p.2.2.2.2]
theorem tb_top (w : World) : (KK w).lookup 75 = some (tO (TB.map fun r => .ref r.1) 0) := by rfl
theorem tb_row (w : World) : ∀ r ∈ TB, (KK w).lookup r.1 = some (tO (r.2.map fun p => .ref p.1) 0) := by
  unfold TB
  repeat (first | exact List.forall_mem_nil _ | refine List.forall_mem_cons.mpr ⟨rfl, ?_⟩)
theorem tb_pair (w : World) : ∀ r ∈ TB, ∀ p ∈ r.2, (KK w).lookup p.1 = some (tO (prV p) 0) := by
  unfold TB
  repeat' (first | exact List.forall_mem_nil _ | refine List.forall_mem_cons.mpr ⟨?_, ?_⟩)
  all_goals rfl
theorem int_beq (a b : Nat) : (((a : Nat) : Int) == ((b : Nat) : Int)) = (a == b) := by
  rw [Bool.eq_iff_iff]; simp; omega
def hit (i m : Nat) (p : Pr) : Bool := if i = 0 then m &&& 61440 == p.2.1 else m &&& p.2.1 == p.2.1
def pickC (i m : Nat) (ps : List Pr) : Nat := match ps.find? (hit i m) with
  | some p => p.2.2.2.1
  | none => if i = 0 then 63 else 45
def rowAt (i : Nat) : List Pr := (TB.getD i (0, [])).2
def fmC (m : Nat) : List Nat := (List.range 10).map fun i => pickC i m (rowAt i)

theorem ifmt_call {w : World} {A : Around} {g : Shared} {h0 : Heap} {tk k : Nat} {Q : Value → Shared → Prop} (bs : Bs (KK w) h0) (rm : Room A (k + 1)) (m : Nat) (t0 : Tok)
    (hq : ∀ t' h' tk', Kept h0 h' → Q (.int (m &&& 61440 : Nat) t') (At g h' tk')) :
    wpAny (model PySem.Challenge.rw_oc0086_01.row.prog w) A (call (.ref 42) [.int m t0]) Q NoE (At g h0 tk) := by
  refine callF bs rm (by walk_at "rf") (by walk_at "rf") (BindsTo.of_eq (by walk_at "rf")) (by decide) (by exact locs (by walk_at "rf")) (by walk_at "rf") (by walk_at "rf") (by walk_at "rf") [] (fun _ hp => (nomatch hp)) List.nodup_nil ?_
  intro L h₁ tk₁ wd rm₁
  replace wd : Wd h0 L [(Str.ofString "mode", .int m t0)] [] h₁ := wd
  generalize A.deeper _ = A₁ at rm₁ ⊢
  repeat walk_at "m"
  have := and_nat m 61440
  rw [show ((61440 : Nat) : Int) = 61440 from rfl] at this
  rw [this]
  exact hq _ _ _ wd.kept

theorem fmode_call {w : World} {A : Around} {g : Shared} {h0 : Heap} {tk k : Nat} {Q : Value → Shared → Prop} (bs : Bs (KK w) h0) (rm : Room A (k + 2)) (m : Nat) (t0 : Tok)
    (hq : ∀ t' h' tk', Kept h0 h' → Q (.str (mkS (fmC m)) t') (At g h' tk')) :
    wpAny (model PySem.Challenge.rw_oc0086_01.row.prog w) A (call (.ref 82) [.int m t0]) Q NoE (At g h0 tk) := by
  refine callF bs rm (by walk_at "rf") (by walk_at "rf") (BindsTo.of_eq (by walk_at "rf")) (by decide) (by exact locs (by walk_at "rf")) (by walk_at "rf") (by walk_at "rf") (by walk_at "rf") [] (fun _ hp => (nomatch hp)) List.nodup_nil ?_
  intro L h₁ tk₁ wd rm₁
  replace wd : Wd h0 L [(Str.ofString "mode", .int m t0)] [] h₁ := wd
  generalize A.deeper _ = A₁ at rm₁ ⊢
  repeat walk_at "m"
  refine n_listW wd (by simp) fun d h₂ _ _ wd => ?_
  repeat walk_at "m"
  rename Wd _ _ _ _ _ => wd
  refine r_glob (bs.keep wd.kept) (by walk_at "rf") (by walk_at "rf") (by walk_at "rf") (g_table w) (by decide) ?_
  repeat walk_at "m"
  refine f_enum (wd.old (bs.k _ _ (tb_top w))) wd fun e it oe oi h₃ _ wd he hit' => ?_
  refine f_enumIter he fun X => ?_
  refine loopE rm₁ (by walk_at "rf") (by walk_at "rf") (by walk_at "rf") (fun i l news => l = [(Str.ofString "perm", .ref d), (Str.ofString "mode", .int m t0)] ∧ ∃ vs e, news = [(d, lO vs e)] ∧ StrsAre vs (((List.range i).map fun i => pickC i m (rowAt i)).map ch)) (bs.k _ _ (tb_top w)) wd he hit' ⟨rfl, _, _, rfl, .nil⟩ ?_ ?_
  · rintro i v ti oe oi l news h tk hi ⟨rfl, vs, ee, rfl, hs⟩ wd
    obtain ⟨row, hrow, rfl⟩ : ∃ row, TB[i]? = some row ∧ v = .ref row.1 := by
      rw [List.getElem?_map] at hi
      cases hr : TB[i]? with
      | none => rw [hr] at hi; cases hi
      | some row => rw [hr] at hi; exact ⟨row, rfl, (Option.some.inj hi).symm⟩
    have hi10 : i < 10 := by have := (List.getElem?_eq_some_iff.mp hrow).1; exact this
    have hmem := List.mem_of_getElem? hrow
    have hrA : rowAt i = row.2 := by unfold rowAt; rw [List.getD_eq_getElem?_getD, hrow]; rfl
    have hz : vs.length < 100000 := by rw [StrsAre.len hs]; simp; omega
    have fin : ∀ c t h₅ tk₅, c = pickC i m row.2 → Wd h0 L [(Str.ofString "perm", .ref d), (Str.ofString "mode", .int m t0)] [(e, oe), (it, oi), (d, lO (vs ++ [.str (ch c) t]) (ee + 1))] h₅ →
        ∃ l' news' h' tk', At g h₅ tk₅ = At g h' tk' ∧ Wd h0 L l' ((e, oe) :: (it, oi) :: news') h' ∧ l' = [(Str.ofString "perm", .ref d), (Str.ofString "mode", .int m t0)] ∧ ∃ vs e, news' = [(d, lO vs e)] ∧ StrsAre vs (((List.range (i + 1)).map fun i => pickC i m (rowAt i)).map ch) := by
      intro c t h₅ tk₅ hc wd
      refine ⟨_, _, h₅, tk₅, rfl, wd, rfl, _, _, rfl, ?_⟩
      rw [List.range_succ, List.map_append, List.map_append, List.map_singleton, List.map_singleton, hrA, ← hc]
      exact StrsAre.snoc hs
    repeat walk_at "m"
    refine f_tupIter (wd.old (bs.k _ _ (tb_row w row hmem))) wd fun I o h₄ _ wd hit X => ?_
    refine loopT2 rm₁ (by walk_at "rf") (by walk_at "rf") (by walk_at "rf") (fun j l news => l = [(Str.ofString "table", .ref row.1), (Str.ofString "index", .int (i : Nat) ti), (Str.ofString "perm", .ref d), (Str.ofString "mode", .int m t0)] ∧ news = [(e, oe), (it, oi), (d, lO vs ee)] ∧ ∀ p ∈ row.2.take j, Mine.hit i m p = false) (bs.k _ _ (tb_row w row hmem)) ?_ wd hit ⟨rfl, rfl, by simp⟩ ?_ ?_
    · intro j v hj
      rw [List.getElem?_map] at hj
      cases hp : row.2[j]? with
      | none => rw [hp] at hj; cases hj
      | some p =>
        rw [hp] at hj
        refine ⟨p.1, _, _, 0, (Option.some.inj hj).symm, bs.k _ _ (tb_pair w row hmem p (List.mem_of_getElem? hp))⟩
    · rintro j T v1 v2 n o l news h tk hj hT ⟨rfl, rfl, hno⟩ wd
      obtain ⟨p, hp, rfl⟩ : ∃ p, row.2[j]? = some p ∧ T = p.1 := by
        rw [List.getElem?_map] at hj
        cases hp : row.2[j]? with
        | none => rw [hp] at hj; cases hj
        | some p => rw [hp] at hj; exact ⟨p, rfl, by have := Option.some.inj hj; cases this; rfl⟩
      have hT2 := bs.k _ _ (tb_pair w row hmem p (List.mem_of_getElem? hp))
      rw [hT] at hT2
      obtain ⟨rfl, rfl⟩ : v1 = .int (p.2.1 : Nat) p.2.2.1 ∧ v2 = .str (ch p.2.2.2.1) p.2.2.2.2 := by
        simp [prV] at hT2
        exact hT2.1
      have hfind : Mine.hit i m p = true → pickC i m row.2 = p.2.2.2.1 := by
        intro hh
        unfold pickC
        have : row.2.find? (Mine.hit i m) = some p := by
          rw [List.find?_eq_some_iff_getElem]
          obtain ⟨hlt, hge⟩ := List.getElem?_eq_some_iff.mp hp
          refine ⟨hh, j, hlt, hge, fun q hq => ?_⟩
          have := hno row.2[q] (by rw [List.mem_take_iff_getElem]; exact ⟨q, by omega, rfl⟩)
          rw [this]; rfl
        rw [this]
      have hnext : Mine.hit i m p = false → ∀ p' ∈ row.2.take (j + 1), Mine.hit i m p' = false := by
        intro hh p' hp'
        rw [List.take_add_one, hp] at hp'
        rcases List.mem_append.mp hp' with h1 | h1
        · exact hno p' h1
        · have : p' = p := by simpa using h1
          rw [this]; exact hh
      repeat walk_at "m"
      by_cases hi0 : i = 0
      · rw [if_pos (by simp [hi0])]
        repeat walk_at "m"
        refine r_glob (bs.keep wd.kept) (by walk_at "rf") (by walk_at "rf") (by walk_at "rf") (g_IFMT w) (by decide) ?_
        refine m_fn (bs.keep wd.kept) (k_IFMT w) (by walk_at "rf") (by walk_at "rf") ?_
        repeat walk_at "m"
        refine ⟨(bs.keep wd.kept).k, ?_⟩
        refine ifmt_call (bs.keep wd.kept) rm₁ m _ fun t' h' tk' hk => ?_
        replace wd := wd.keep hk
        repeat walk_at "m"
        rw [int_beq]
        by_cases hh : Mine.hit i m p = true
        · rw [if_pos (by simpa [Mine.hit, hi0] using hh)]
          repeat walk_at "m"
          walk_at "append"
          repeat walk_at "m"
          refine ⟨(tyL (wd.geti 3 rfl)).1, (tyL (wd.geti 3 rfl)).2, ?_⟩
          repeat walk_at "m"
          refine app_at 3 wd rfl hz fun h₅ wd => ⟨rfl, ?_⟩
          repeat walk_at "m"
          exact fin _ _ h₅ _ (hfind hh).symm ((wd.pick ["perm", "mode"]).sub (List.sublist_cons_self _ _))
        · have hh' : Mine.hit i m p = false := by simpa using hh
          rw [if_neg (by simpa [Mine.hit, hi0] using hh')]
          repeat walk_at "m"
          exact ⟨_, _, _, _, rfl, wd.pick ["table", "index", "perm", "mode"], rfl, rfl, hnext hh'⟩
      · rw [if_neg (by simp [hi0])]
        repeat walk_at "m"
        rw [and_nat, int_beq]
        by_cases hh : Mine.hit i m p = true
        · rw [if_pos (by simpa [Mine.hit, hi0] using hh)]
          repeat walk_at "m"
          walk_at "append"
          repeat walk_at "m"
          refine ⟨(tyL (wd.geti 3 rfl)).1, (tyL (wd.geti 3 rfl)).2, ?_⟩
          repeat walk_at "m"
          refine app_at 3 wd rfl hz fun h₅ wd => ⟨rfl, ?_⟩
          repeat walk_at "m"
          exact fin _ _ h₅ _ (hfind hh).symm ((wd.pick ["perm", "mode"]).sub (List.sublist_cons_self _ _))
        · have hh' : Mine.hit i m p = false := by simpa using hh
          rw [if_neg (by simpa [Mine.hit, hi0] using hh')]
          repeat walk_at "m"
          exact ⟨_, _, _, _, rfl, wd.pick ["table", "index", "perm", "mode"], rfl, rfl, hnext hh'⟩
    · rintro l news h tk ⟨rfl, rfl, hno⟩ wd
      rw [List.length_map, List.take_length] at hno
      have hnone : row.2.find? (Mine.hit i m) = none := List.find?_eq_none.mpr fun p hp => by rw [hno p hp]; simp
      repeat walk_at "m"
      by_cases hi0 : i = 0
      · rw [if_pos (by simp [hi0])]
        repeat walk_at "m"
        walk_at "append"
        repeat walk_at "m"
        refine ⟨(tyL (wd.geti 2 rfl)).1, (tyL (wd.geti 2 rfl)).2, ?_⟩
        repeat walk_at "m"
        refine app_at 2 wd rfl hz fun h₅ wd => ⟨rfl, ?_⟩
        repeat walk_at "m"
        exact fin 63 _ h₅ _ (by unfold pickC; rw [hnone]; simp [hi0]) (wd.pick ["perm", "mode"])
      · rw [if_neg (by simp [hi0])]
        repeat walk_at "m"
        walk_at "append"
        repeat walk_at "m"
        refine ⟨(tyL (wd.geti 2 rfl)).1, (tyL (wd.geti 2 rfl)).2, ?_⟩
        repeat walk_at "m"
        refine app_at 2 wd rfl hz fun h₅ wd => ⟨rfl, ?_⟩
        repeat walk_at "m"
        exact fin 45 _ h₅ _ (by unfold pickC; rw [hnone]; simp [hi0]) (wd.pick ["perm", "mode"])
  · rintro l news h tk ⟨rfl, vs, ee, rfl, hs⟩ wd
    have e10 : (TB.map fun r => Value.ref r.1).length = 10 := by rfl
    rw [e10] at hs
    repeat walk_at "m"
    walk_at "join"
    repeat walk_at "m"
    refine ⟨tyS.1, tyS.2, ?_⟩
    repeat walk_at "m"
    refine f_join (wd.geti 0 rfl) hs (by rw [chs_len]; simp) fun t' tk' => ?_
    rw [join_ch]
    exact hq _ _ _ wd.kept
end
section
theorem quant_call {w : World} {A : Around} {g : Shared} {h0 : Heap} {tk k : Nat} {Q : Value → Shared → Prop} (bs : Bs (KK w) h0) (rm : Room A (k + 1)) {a : Addr} {vs : List Value} {e : Nat} {xs : List Nat} (ho : h0.get? a = some (lO vs e)) (hv : NatsAre vs xs) (hx : ∀ x ∈ xs, x < 2) (h2 : 2 ≤ xs.length) (h6 : xs.length ≤ 6) (t0 : Tok)
    (hq : ∀ (d : Addr) (us : List Value) (e' : Nat) (ys : List Nat) (h' : Heap) (tk' : Nat), Kept h0 h' → NewIn h0 h' [(d, lO us e')] → ys.Perm xs → ys.Pairwise (· ≤ ·) → FltsAre us (ys.map (flt (xs.length + 1))) → Q (.ref d) (At g h' tk')) :
    wpAny (model PySem.Challenge.rw_oc0086_01.row.prog w) A (call (.ref 35) [.ref a] [(Str.ofString "n", .int (xs.length + 1 : Nat) t0)]) Q NoE (At g h0 tk) := by
  have hlen := hv.len
  refine callF bs rm (by walk_at "rf") (by walk_at "rf") (kp_binds bs.k (fun S => by walk_at "rf")) (by decide) (by exact locs (by walk_at "rf")) (by walk_at "rf") (by walk_at "rf") (by walk_at "rf") [] (fun _ hp => (nomatch hp)) List.nodup_nil ?_
  intro L h₁ tk₁ wd rm₁
  replace wd := wd.pick ["data", "n", "method"]
  obtain ⟨N, hN⟩ : ∃ N, N = xs.length + 1 := ⟨_, rfl⟩
  rw [← hN] at wd hq
  obtain ⟨tm, wd⟩ : ∃ tm, Wd h0 L [(Str.ofString "data", .ref a), (Str.ofString "n", .int (N : Nat) t0), (Str.ofString "method", .str (Str.ofString "exclusive") tm)] [] h₁ := ⟨_, wd⟩
  generalize A.deeper _ = A₁ at rm₁ ⊢
  repeat walk_at "m"
  rw [if_neg (by simp; omega)]
  repeat walk_at "m"
  refine f_sorted wd (wd.old ho) hv (by omega) fun srt us es ys h₂ wd hus hperm hsort => ?_
  have hyl : ys.length = xs.length := hperm.length_eq
  have hul := hus.len
  repeat walk_at "m"
  rename Wd _ _ _ _ _ => wd
  refine f_len (wd.geti 0 rfl) (by omega) fun _ _ => ?_
  repeat walk_at "m"
  rw [if_neg (by simp; omega)]
  repeat walk_at "m"
  rw [if_neg (by decide)]
  repeat walk_at "m"
  rw [if_pos (by decide)]
  repeat walk_at "m"
  rename Wd _ _ _ _ _ => wd
  refine n_listW wd (by simp) fun d h₃ _ _ wd => ?_
  repeat walk_at "m"
  rename Wd _ _ _ _ _ => wd
  refine f_range2 wd fun r h₃ tk₃ t₁ u₁ v₁ hr _ wd => ?_
  refine f_rangeIt xs.length wd hr (by decide) (by decide) (by omega) (by omega) (.inl rfl) (by rw [size_up]; omega) fun I o h₄ _ wd hi X => ?_
  obtain ⟨tm', tl, wd⟩ : ∃ tm' tl, Wd h0 L [(Str.ofString "result", .ref d), (Str.ofString "m", .int (N : Nat) tm'), (Str.ofString "ld", .int (us.length : Nat) tl), (Str.ofString "data", .ref srt), (Str.ofString "n", .int (N : Nat) t0)] [(I, o), (d, lO [] 0), (srt, lO us es)] h₄ := by
    have e1 : ((us.length : Nat) : Int) + 1 = (N : Nat) := by omega
    rw [e1] at wd
    exact ⟨_, _, wd.pick ["result", "m", "ld", "data", "n"]⟩
  rw [hul, hyl] at wd
  obtain ⟨s, hs⟩ : ∃ s, s = xs.length := ⟨_, rfl⟩
  rw [← hs] at wd hN hi hyl h2 h6
  have hys : ∀ y ∈ ys, y < 2 := fun y hy => hx y (hperm.subset hy)
  refine loopR rm₁ (by walk_at "rf") (by walk_at "rf") (fun i l news => l = [(Str.ofString "result", .ref d), (Str.ofString "m", .int (N : Nat) tm'), (Str.ofString "ld", .int (s : Nat) tl), (Str.ofString "data", .ref srt), (Str.ofString "n", .int (N : Nat) t0)] ∧ ∃ fs e, news = [(d, lO fs e), (srt, lO us es)] ∧ FltsAre fs ((ys.take i).map (flt N))) wd hi ⟨rfl, _, _, rfl, .nil⟩ ?_ ?_
  · rintro i t' o l news h tk hi ⟨rfl, fs, e', rfl, hfs⟩ wd
    have hfz : fs.length < 100000 := by rw [hfs.len, List.length_map, List.length_take]; omega
    have e0 : (1 + (i : Int) * 1) = ((i + 1 : Nat) : Int) := by omega
    rw [e0] at wd
    have hi1 : i < ys.length := by omega
    obtain ⟨ta, hda⟩ := hus.at hi1
    have hy := hys (ys.getD i 0) (by rw [List.getD_eq_getElem?_getD, List.getElem?_eq_getElem hi1]; exact List.getElem_mem hi1)
    have hN8 : N < 8 := by omega
    have ej : (((i + 1 : Nat) : Int) * (N : Nat)).fdiv (N : Nat) = ((i + 1 : Nat) : Int) := Int.mul_fdiv_cancel _ (by omega)
    have fin : ∀ t h₅ tk₅, Wd h0 L [(Str.ofString "result", .ref d), (Str.ofString "m", .int (N : Nat) tm'), (Str.ofString "ld", .int (s : Nat) tl), (Str.ofString "data", .ref srt), (Str.ofString "n", .int (N : Nat) t0)] [(I, o), (d, lO (fs ++ [.float (flt N (ys.getD i 0)) t]) (e' + 1)), (srt, lO us es)] h₅ →
        ∃ l' news' h' tk', At g h₅ tk₅ = At g h' tk' ∧ Wd h0 L l' ((I, o) :: news') h' ∧ l' = [(Str.ofString "result", .ref d), (Str.ofString "m", .int (N : Nat) tm'), (Str.ofString "ld", .int (s : Nat) tl), (Str.ofString "data", .ref srt), (Str.ofString "n", .int (N : Nat) t0)] ∧ ∃ fs e, news' = [(d, lO fs e), (srt, lO us es)] ∧ FltsAre fs ((ys.take (i + 1)).map (flt N)) := by
      intro t h₅ tk₅ wd
      refine ⟨_, _, h₅, tk₅, rfl, wd, rfl, _, _, rfl, ?_⟩
      rw [List.take_add_one, List.map_append, List.getElem?_eq_getElem hi1]
      have : ys.getD i 0 = ys[i] := by rw [List.getD_eq_getElem?_getD, List.getElem?_eq_getElem hi1]; rfl
      rw [this]
      exact FltsAre.snoc hfs
    repeat walk_at "m"
    refine o_mul (mulOk (by omega) (by omega)) fun _ _ => ?_
    repeat walk_at "m"
    refine o_fdv (by omega) (PyProof.noPylong_small (by omega)) fun _ _ => ?_
    rw [ej]
    repeat walk_at "m"
    rename Wd _ _ _ _ _ => wd
    rw [if_neg (by simp; omega)]
    repeat walk_at "m"
    by_cases hlast : i + 1 < s
    · rw [if_neg (by simp; omega)]
      obtain ⟨tb, hdb⟩ := hus.at (j := i + 1) (by omega)
      have hy' := hys (ys.getD (i + 1) 0) (by rw [List.getD_eq_getElem?_getD, List.getElem?_eq_getElem (by omega)]; exact List.getElem_mem _)
      repeat walk_at "m"
      rename Wd _ _ _ _ _ => wd
      refine o_mul (mulOk (by omega) (by omega)) fun _ _ => ?_
      repeat walk_at "m"
      refine o_mul (mulOk (by omega) (by omega)) fun _ _ => ?_
      walk_at "m"
      rw [Int.sub_self]
      repeat walk_at "m"
      rename Wd _ _ _ _ _ => wd
      refine b_list (wd.geti 2 rfl) (by omega) (by omega) (v := .int (ys.getD i 0 : Nat) ta) (by rw [← hda]; congr 1; omega) (by walk_at "rf") ?_
      repeat walk_at "m"
      refine o_mul (mulOk (by omega) (by omega)) fun _ _ => ?_
      repeat walk_at "m"
      refine b_list (wd.geti 2 rfl) (by omega) (by omega) hdb (by walk_at "rf") ?_
      repeat walk_at "m"
      refine o_mul (mulOk (by omega) (by omega)) fun _ _ => ?_
      repeat walk_at "m"
      have en : ((ys.getD i 0 : Nat) : Int) * ((N : Nat) - 0) + ((ys.getD (i + 1) 0 : Nat) : Int) * 0 = ((ys.getD i 0 * N : Nat) : Int) := by
        rw [Int.mul_zero, Int.add_zero, Int.sub_zero]; push_cast; rfl
      rw [en]
      refine o_divN (by omega) hN8 hy fun tf _ => ?_
      repeat walk_at "m"
      rename Wd _ _ _ _ _ => wd
      walk_at "append"
      repeat walk_at "m"
      refine ⟨(tyL (wd.geti 1 rfl)).1, (tyL (wd.geti 1 rfl)).2, ?_⟩
      repeat walk_at "m"
      refine app_at 1 wd rfl hfz fun h₅ wd => ⟨rfl, ?_⟩
      repeat walk_at "m"
      exact fin _ h₅ _ (wd.pick ["result", "m", "ld", "data", "n"])
    · rw [if_pos (by simp; omega)]
      have his : s = i + 1 := by omega
      obtain ⟨tb, hdb⟩ := hus.at (j := s - 2) (by omega)
      have hy' := hys (ys.getD (s - 2) 0) (by rw [List.getD_eq_getElem?_getD, List.getElem?_eq_getElem (by omega)]; exact List.getElem_mem _)
      repeat walk_at "m"
      rename Wd _ _ _ _ _ => wd
      refine o_mul (mulOk (by omega) (by omega)) fun _ _ => ?_
      repeat walk_at "m"
      refine o_mul (mulOk (by omega) (by omega)) fun _ _ => ?_
      walk_at "m"
      have ed : ((i + 1 : Nat) : Int) * (N : Nat) - ((s : Nat) - 1 : Int) * (N : Nat) = (N : Nat) := by
        rw [← Int.sub_mul, his]
        have : (((i + 1 : Nat) : Int) - (((i + 1 : Nat) : Int) - 1)) = 1 := by omega
        rw [this, Int.one_mul]
      rw [ed]
      repeat walk_at "m"
      rename Wd _ _ _ _ _ => wd
      refine b_list (wd.geti 2 rfl) (by omega) (by omega) (v := .int (ys.getD (s - 2) 0 : Nat) tb) (by rw [← hdb]; congr 1; omega) (by walk_at "rf") ?_
      repeat walk_at "m"
      refine o_mul (mulOk (by omega) (by omega)) fun _ _ => ?_
      repeat walk_at "m"
      refine b_list (wd.geti 2 rfl) (by omega) (by omega) (v := .int (ys.getD i 0 : Nat) ta) (by rw [← hda]; congr 1; omega) (by walk_at "rf") ?_
      repeat walk_at "m"
      refine o_mul (mulOk (by omega) (by omega)) fun _ _ => ?_
      repeat walk_at "m"
      have en : ((ys.getD (s - 2) 0 : Nat) : Int) * ((N : Nat) - (N : Nat)) + ((ys.getD i 0 : Nat) : Int) * (N : Nat) = ((ys.getD i 0 * N : Nat) : Int) := by
        rw [Int.sub_self, Int.mul_zero, Int.zero_add]; push_cast; rfl
      rw [en]
      refine o_divN (by omega) hN8 hy fun tf _ => ?_
      repeat walk_at "m"
      rename Wd _ _ _ _ _ => wd
      walk_at "append"
      repeat walk_at "m"
      refine ⟨(tyL (wd.geti 1 rfl)).1, (tyL (wd.geti 1 rfl)).2, ?_⟩
      repeat walk_at "m"
      refine app_at 1 wd rfl hfz fun h₅ wd => ⟨rfl, ?_⟩
      repeat walk_at "m"
      exact fin _ h₅ _ (wd.pick ["result", "m", "ld", "data", "n"])
  · rintro l news h tk ⟨rfl, fs, e', rfl, hfs⟩ wd
    rw [← hyl, List.take_length] at hfs
    repeat walk_at "m"
    exact hq d fs e' ys h _ wd.kept (wd.newIn (List.Sublist.cons_cons _ (List.nil_sublist _))) hperm hsort hfs
end
section
/-- the float lists of the places below i, as the ledger has them -/
def CutsOk (rows : List (List Nat)) (owns : List (Addr × Obj)) : Prop :=
  ∀ j q, owns[j]? = some q → ∃ us e ys, q.2 = lO us e ∧ List.Perm ys (col rows j) ∧ List.Pairwise (· ≤ ·) ys ∧ FltsAre us (ys.map (flt (rows.length + 1)))
theorem CutsOk.snoc {rows : List (List Nat)} {owns : List (Addr × Obj)} {d : Addr} {us : List Value} {e : Nat} {ys : List Nat} (h : CutsOk rows owns) (h1 : List.Perm ys (col rows owns.length)) (h2 : List.Pairwise (· ≤ ·) ys) (h3 : FltsAre us (ys.map (flt (rows.length + 1)))) :
    CutsOk rows (owns ++ [(d, lO us e)]) := by
  intro j q hj
  rcases Nat.lt_trichotomy j owns.length with hlt | heq | hgt
  · rw [List.getElem?_append_left hlt] at hj; exact h j q hj
  · subst heq; simp at hj; subst hj; exact ⟨us, e, ys, rfl, h1, h2, h3⟩
  · rw [List.getElem?_eq_none (by simp; omega)] at hj; cases hj
theorem rows_get {vs : List Value} {rows : List (List Nat)} (h : StrsAre vs (rows.map mkS)) {i : Nat} {v : Value} (hv : vs[i]? = some v) : ∃ r t, rows[i]? = some r ∧ v = .str (mkS r) t := by
  obtain ⟨y, t, h1, h2⟩ := StrsAre.get h hv
  rw [List.getElem?_map] at h1
  cases hr : rows[i]? with
  | none => rw [hr] at h1; cases h1
  | some r => rw [hr] at h1; cases h1; exact ⟨r, t, rfl, h2⟩

theorem cuts_call {w : World} {A : Around} {g : Shared} {h0 : Heap} {tk k : Nat} {Q : Value → Shared → Prop} (bs : Bs (KK w) h0) (rm : Room A (k + 2)) {a : Addr} {vs : List Value} {e : Nat} {rows : List (List Nat)} (ho : h0.get? a = some (lO vs e)) (hv : StrsAre vs (rows.map mkS)) (hr : ∀ r ∈ rows, r.length = 10) (h2 : 2 ≤ rows.length) (h6 : rows.length ≤ 6)
    (hq : ∀ (d : Addr) (us : List Value) (e' : Nat) (h' : Heap) (tk' : Nat), Kept h0 h' → NewIn h0 h' [(d, lO us e')] → StrsAre us ((List.range rows.length).map fun i => mkS ((List.range 10).map (layC rows (i + 1)))) → Q (.ref d) (At g h' tk')) :
    wpAny (model PySem.Challenge.rw_oc0086_01.row.prog w) A (call (.ref 116) [.ref a]) Q NoE (At g h0 tk) := by
  have hlen : vs.length = rows.length := by rw [StrsAre.len hv, List.length_map]
  refine callC' bs rm (by walk_at "rf") (by walk_at "rf") (BindsTo.of_eq (by walk_at "rf")) (by exact locs (by walk_at "rf")) (by walk_at "rf") (by walk_at "rf") (by walk_at "rf") (by decide) ?_
  intro L h₁ tk₁ cells wd hc rm₁
  replace wd : Wd h0 L [(Str.ofString "listing", .ref a)] cells h₁ := wd
  replace hc : CellsAre (fun _ => none) [(Str.ofString "need", L + 4), (Str.ofString "place", L + 3), (Str.ofString "cuts", L + 2), (Str.ofString "size", L + 1)] cells := hc
  cases hc with | @cons _ _ oN _ _ hoN hc => cases hc with | @cons _ _ oP _ _ hoP hc => cases hc with | @cons _ _ oC _ _ hoC hc => cases hc with | @cons _ _ oS _ _ hoS hc => cases hc with | nil =>
  generalize A.deeper _ = A₁ at rm₁ ⊢
  repeat walk_at "m"
  refine f_len (wd.old ho) (by omega) fun tS _ => ?_
  rw [hlen]
  refine st_cell 3 wd rfl hoS (by walk_at "rf") (by walk_at "rf") (by walk_at "rf") fun h₂ tk₂ oS hoS wd => ?_
  repeat walk_at "m"
  refine n_listW wd (by simp) fun c h₃ _ _ wd => ?_
  refine st_cell 3 wd rfl hoC (by walk_at "rf") (by walk_at "rf") (by walk_at "rf") fun h₄ tk₄ oC hoC wd => ?_
  replace wd : Wd h0 L [(Str.ofString "listing", .ref a)] [(c, lO [] 0), (L + 4, oN), (L + 3, oP), (L + 2, oC), (L + 1, oS)] h₄ := wd
  replace wd : Wd h0 L [(Str.ofString "listing", .ref a)] [(L + 3, oP), (c, lO [] 0), (L + 4, oN), (L + 2, oC), (L + 1, oS)] h₄ := wd.front 2 (by simp)
  repeat walk_at "m"
  refine f_range1 wd fun r h₅ tk₅ t₁ u₁ v₁ hr' _ wd => ?_
  refine f_rangeIt 10 wd hr' (by decide) (by decide) (by decide) (by decide) (.inl rfl) (by decide) fun I o h₆ _ wd hi X => ?_
  refine loopRC rm₁ (by walk_at "rf") (by walk_at "rf") (by walk_at "rf") (fun i l news => l = [(Str.ofString "listing", .ref a)] ∧ ∃ owns ee, news = [(c, lO (owns.map fun q => .ref q.1) ee), (L + 4, oN), (L + 2, oC), (L + 1, oS)] ++ owns ∧ owns.length = i ∧ CutsOk rows owns) wd hoP hi ⟨rfl, [], 0, rfl, rfl, fun j q hj => by simp at hj⟩ ?_ ?_
  · rintro i t' o oP l news h tk hi ⟨rfl, owns, ee, rfl, hol, hok⟩ hoP wd
    have e2 : (0 + (i : Int) * 1) = (i : Nat) := by omega
    rw [e2] at hoP
    walk_at "m"
    walk_at "append"
    refine r_cell (wd.geti 4 rfl) hoC (by walk_at "rf") (by walk_at "rf") (by walk_at "rf") (by decide) ?_
    refine ⟨(tyL (wd.geti 2 rfl)).1, (tyL (wd.geti 2 rfl)).2, ?_⟩
    repeat walk_at "m"
    refine r_callKw ?_
    refine r_glob (bs.keep wd.kept) (by walk_at "rf") (by walk_at "rf") (by walk_at "rf") (g_quant w) (by decide) ?_
    refine callWith_KW (bs.keep wd.kept).k (k_quant w) (by walk_at "rf") ?_ (by walk_at "rf") (by walk_at "rf")
    walk_at "m"
    refine r_comp wd (by walk_at "rf") (by decide) (by walk_at "rf") (by decide) (by walk_at "rf") (by intro _; walk_at "rf") ?_
    repeat walk_at "m"
    refine f_listIter (wd.old ho) wd fun I' o' h₇ _ wd hit => ?_
    refine compAtL rm₁ (wd.old ho) wd hit (by omega) (fun _ _ => true) (fun j _ y own => own = [] ∧ ∃ t, y = .int ((col rows i).getD j 0 : Nat) t) ?_ ?_ ?_
    · intro C j v h₆ tk₆ hj wdC
      exact wpAny_tests_nil ⟨rfl, _, _, rfl, fun _ _ e => e⟩
    · intro C j v h₆ tk₆ hj _ wdC
      obtain ⟨r, tr, hrj, rfl⟩ := rows_get hv hj
      have hrl := hr r (List.mem_of_getElem? hrj)
      have hcg : (col rows i).getD j 0 = if r.getD i 0 = 45 then 0 else 1 := by
        unfold col; rw [List.getD_eq_getElem?_getD, List.getElem?_map, hrj]; rfl
      repeat walk_at "m"
      refine r_cell (wdC.old (wd.hid (.tail _ (.head _)))) hoP (by walk_at "rf") (by walk_at "rf") (by walk_at "rf") (by decide) ?_
      refine b_str (by omega) (by rw [mkS_len, hrl]; omega) (by omega) (by walk_at "rf") (by intro _; walk_at "rf") fun t₅ tk₅ => ?_
      rw [item_mkS (c := r.getD i 0) (by rw [List.getD_eq_getElem?_getD, List.getElem?_eq_getElem (by omega)]; rfl)]
      repeat walk_at "m"
      have hdash : (ch (r.getD i 0) == Str.ofString "-") = decide (r.getD i 0 = 45) := by
        rw [show Str.ofString "-" = ch 45 from rfl, Bool.eq_iff_iff]
        simp only [beq_iff_eq, decide_eq_true_eq]
        constructor
        · intro hx; have := congrArg (fun s : Str => s.cps.toList) hx; simpa [ch] using this
        · intro hx; rw [hx]
      rw [hdash]
      by_cases h45 : r.getD i 0 = 45
      · rw [if_pos (by simpa using h45)]
        repeat walk_at "m"
        rename_i t6 _
        exact ⟨[], _, _, rfl, fun _ _ e => e, NewIn.nil, rfl, t6, by rw [hcg, if_pos h45]; rfl⟩
      · rw [if_neg (by simpa using h45)]
        repeat walk_at "m"
        rename_i t6 _
        exact ⟨[], _, _, rfl, fun _ _ e => e, NewIn.nil, rfl, t6, by rw [hcg, if_neg h45]; rfl⟩
    · intro D h₈ tk₈ res e₈ cr _ wd
      obtain ⟨hzs, hown⟩ := cr_nats (fun j => (col rows i).getD j 0) cr
      rw [hown] at wd
      have hcl : (col rows i).length = rows.length := by simp [col]
      have hzs' : NatsAre (res.map (·.1)) (col rows i) := by
        have := range_getD (col rows i) 0 (fun x => x)
        rw [hcl, ← hlen] at this
        rw [this, List.map_id'] at hzs
        exact hzs
      repeat walk_at "m"
      refine kws_cons ?_
      repeat walk_at "m"
      refine r_cell (wd.geti 6 rfl) hoS (by walk_at "rf") (by walk_at "rf") (by walk_at "rf") (by decide) ?_
      repeat walk_at "m"
      refine kws_nil ⟨(bs.keep wd.kept).k, ?_⟩
      have eN : ((rows.length : Nat) : Int) + 1 = (((col rows i).length + 1 : Nat) : Int) := by rw [hcl]; push_cast; rfl
      rw [eN]
      refine quant_call (bs.keep wd.kept) rm₁ (wd.geti 0 rfl) hzs' (col_lt rows i) (by omega) (by omega) _ fun d us e' ys h₉ tk₉ hk hn hperm hsort hfl => ?_
      rw [hcl] at hfl
      replace wd := wd.more hk hn
      repeat walk_at "m"
      refine app_at 4 wd rfl (by rw [List.length_map, hol]; omega) fun h₁₀ wd => ⟨rfl, ?_⟩
      repeat walk_at "m"
      replace wd : Wd h0 L [(Str.ofString "listing", .ref a)] ((d, lO us e') :: (D, lO (res.map (·.1)) e₈) :: (I, o) :: (L + 3, oP) :: (c, lO ((owns.map fun q => .ref q.1) ++ [.ref d]) (ee + 1)) :: (L + 4, oN) :: (L + 2, oC) :: (L + 1, oS) :: owns) h₁₀ := wd
      replace wd := (wd.sub (List.Sublist.cons_cons _ (List.sublist_cons_self _ _))).back
      refine ⟨_, _, oP, _, h₁₀, _, rfl, hoP, wd, rfl, owns ++ [(d, lO us e')], ee + 1, ?_, by rw [List.length_append, hol]; rfl, hok.snoc (by rw [hol]; exact hperm) hsort hfl⟩
      rw [List.map_append]; rfl
  · rintro l news oP u h tk ⟨rfl, owns, ee, rfl, hol, hok⟩ hoP wd
    repeat walk_at "m"
    refine n_listW wd (by simp) fun d h₃ _ _ wd => ?_
    repeat walk_at "m"
    rename Wd _ _ _ _ _ => wd
    refine r_cell (wd.geti 5 rfl) hoS (by walk_at "rf") (by walk_at "rf") (by walk_at "rf") (by decide) ?_
    repeat walk_at "m"
    refine f_range2 wd fun r h₅ tk₅ t₁ u₁ v₁ hr' _ wd => ?_
    refine f_rangeIt rows.length wd hr' (by decide) (by decide) (by omega) (by omega) (.inl rfl) (by rw [size_up]; omega) fun I o h₆ _ wd hi X => ?_
    replace wd : Wd h0 L [(Str.ofString "layers", .ref d), (Str.ofString "listing", .ref a)] ((L + 4, oN) :: (I, o) :: (d, lO [] 0) :: (L + 3, oP) :: (c, lO (owns.map fun q => .ref q.1) ee) :: (L + 2, oC) :: (L + 1, oS) :: owns) h₆ := wd.front 4 (by simp)
    replace wd : Wd h0 L [(Str.ofString "layers", .ref d), (Str.ofString "listing", .ref a)] ((I, o) :: (L + 4, oN) :: (d, lO [] 0) :: (L + 3, oP) :: (c, lO (owns.map fun q => .ref q.1) ee) :: (L + 2, oC) :: (L + 1, oS) :: owns) h₆ := wd.front 1 (by simp)
    refine loopRC rm₁ (by walk_at "rf") (by walk_at "rf") (by walk_at "rf") (fun i l news => l = [(Str.ofString "layers", .ref d), (Str.ofString "listing", .ref a)] ∧ ∃ us e', news = (d, lO us e') :: (L + 3, oP) :: (c, lO (owns.map fun q => .ref q.1) ee) :: (L + 2, oC) :: (L + 1, oS) :: owns ∧ StrsAre us ((List.range i).map fun i => mkS ((List.range 10).map (layC rows (i + 1))))) wd hoN hi ⟨rfl, _, _, rfl, .nil⟩ ?_ ?_
    · rintro i t' o oN l news h tk hi ⟨rfl, us, e', rfl, hs⟩ hoN wd
      have e2 : (1 + (i : Int) * 1) = ((i + 1 : Nat) : Int) := by omega
      rw [e2] at hoN
      have hz : us.length < 100000 := by rw [StrsAre.len hs]; simp; omega
      walk_at "m"
      walk_at "append"
      repeat walk_at "m"
      refine ⟨(tyL (wd.geti 2 rfl)).1, (tyL (wd.geti 2 rfl)).2, ?_⟩
      repeat walk_at "m"
      walk_at "join"
      repeat walk_at "m"
      refine ⟨tyS.1, tyS.2, ?_⟩
      repeat walk_at "m"
      refine r_comp wd (by walk_at "rf") (by decide) (by walk_at "rf") (by decide) (by walk_at "rf") (by intro _; walk_at "rf") ?_
      repeat walk_at "m"
      refine f_range1 wd fun r h₅ tk₅ t₁ u₁ v₁ hr' _ wd => ?_
      refine f_rangeIt 10 wd hr' (by decide) (by decide) (by decide) (by decide) (.inl rfl) (by decide) fun I' o' h₆ _ wd hit => ?_
      refine compAtR rm₁ wd hit (by decide) (fun _ _ => true) (fun j _ y own => own = [] ∧ ∃ t, y = .str (ch (layC rows (i + 1) j)) t) ?_ ?_ ?_
      · intro C j t h₇ tk₇ hj wdC
        exact wpAny_tests_nil ⟨rfl, _, _, rfl, fun _ _ e => e⟩
      · intro C j tj h₇ tk₇ hj _ wdC
        have e3 : (0 + (j : Int) * 1) = ((j : Nat) : Int) := by omega
        rw [e3] at wdC
        obtain ⟨q, hq⟩ : ∃ q, owns[j]? = some q := ⟨_, List.getElem?_eq_getElem (by omega)⟩
        obtain ⟨fu, fe, ys, hq2, hperm, hsort, hfl⟩ := hok j q hq
        obtain ⟨dq, oq⟩ := q
        cases hq2
        have hcl : (col rows j).length = rows.length := by simp [col]
        have hyl : ys.length = rows.length := by rw [hperm.length_eq, hcl]
        have hyi : (ys.map (flt (rows.length + 1)))[rows.length - (i + 1)]? = some (flt (rows.length + 1) (ys.getD (rows.length - (i + 1)) 0)) := by
          rw [List.getElem?_map, List.getD_eq_getElem?_getD, List.getElem?_eq_getElem (by omega)]; rfl
        obtain ⟨tf, hf⟩ := hfl.at hyi
        have hfl2 := hfl.len
        have hyx : ys.getD (rows.length - (i + 1)) 0 < 2 := col_lt rows j _ (hperm.subset (by rw [List.getD_eq_getElem?_getD, List.getElem?_eq_getElem (by omega)]; exact List.getElem_mem _))
        have hs01 := sorted01 hperm hsort (col_lt rows j) (need := i + 1) (by omega) (by omega)
        rw [hcl, col_count] at hs01
        repeat walk_at "m"
        refine r_cell (wdC.old (wd.hid (.tail _ (.tail _ (.tail _ (.tail _ (.tail _ (.head _)))))))) hoC (by walk_at "rf") (by walk_at "rf") (by walk_at "rf") (by decide) ?_
        repeat walk_at "m"
        refine b_list (wdC.old (wd.hid (.tail _ (.tail _ (.tail _ (.tail _ (.head _))))))) (by omega) (by omega) (v := .ref dq) (by rw [show ((j : Nat) : Int).toNat = j from rfl, List.getElem?_map, hq]; rfl) (by walk_at "rf") ?_
        repeat walk_at "m"
        refine r_cell (wdC.old (wd.hid (.tail _ (.tail _ (.tail _ (.tail _ (.tail _ (.tail _ (.head _))))))))) hoS (by walk_at "rf") (by walk_at "rf") (by walk_at "rf") (by decide) ?_
        refine r_cell (wdC.old (wd.hid (.tail _ (.head _)))) hoN (by walk_at "rf") (by walk_at "rf") (by walk_at "rf") (by decide) ?_
        repeat walk_at "m"
        refine b_list (wdC.old (wd.hid (.tail _ (.tail _ (.tail _ (.tail _ (.tail _ (.tail _ (.tail _ (List.mem_of_getElem? hq))))))))) ) (by omega) (by omega) (v := .float (flt (rows.length + 1) (ys.getD (rows.length - (i + 1)) 0)) tf) (by rw [← hf]; congr 1; omega) (by walk_at "rf") ?_
        repeat walk_at "m"
        refine c_eqFI ?_
        rw [flt_eq1 (rows.length + 1) (by omega) (by omega) _ hyx, hs01]
        repeat walk_at "m"
        by_cases hle : i + 1 ≤ rows.countP (fun r => r.getD j 0 != 45)
        · rw [if_pos (by simpa using hle)]
          repeat walk_at "m"
          refine b_str (by omega) (by rw [sg0_lit, mkS_len]; simp; omega) (by omega) (by walk_at "rf") (by intro _; walk_at "rf") fun t₅ tk₅ => ?_
          rw [sg0_lit, item_mkS (c := sg0 j) (sg0_get hj)]
          exact ⟨[], _, _, rfl, fun _ _ e => e, NewIn.nil, rfl, t₅, by rw [layC, if_pos hle]⟩
        · rw [if_neg (by simpa using hle)]
          repeat walk_at "m"
          rename_i t6 _
          exact ⟨[], _, _, rfl, fun _ _ e => e, NewIn.nil, rfl, t6, by rw [layC, if_neg hle]; rfl⟩
      · intro D h₈ tk₈ res e₈ cr _ wd
        obtain ⟨hzs, hown⟩ := cr_strs (fun j => ch (layC rows (i + 1) j)) cr
        rw [hown] at wd
        have hzs' : StrsAre (res.map (·.1)) (((List.range 10).map (layC rows (i + 1))).map ch) := by rw [List.map_map]; exact hzs
        repeat walk_at "m"
        refine f_join (wd.geti 0 rfl) hzs' (by rw [chs_len]; simp) fun t' tk' => ?_
        rw [join_ch]
        repeat walk_at "m"
        refine app_at 3 wd rfl hz fun h₁₀ wd => ⟨rfl, ?_⟩
        repeat walk_at "m"
        replace wd : Wd h0 L [(Str.ofString "layers", .ref d), (Str.ofString "listing", .ref a)] ((D, lO (res.map (·.1)) e₈) :: (I, o) :: (L + 4, oN) :: (d, lO (us ++ [.str (mkS ((List.range 10).map (layC rows (i + 1)))) t']) (e' + 1)) :: (L + 3, oP) :: (c, lO (owns.map fun q => .ref q.1) ee) :: (L + 2, oC) :: (L + 1, oS) :: owns) h₁₀ := wd
        refine ⟨_, _, oN, _, h₁₀, _, rfl, hoN, wd.sub (List.sublist_cons_self _ _), rfl, _, _, rfl, ?_⟩
        rw [List.range_succ (n := i), List.map_append]
        exact StrsAre.snoc hs
    · rintro l news oN u h tk ⟨rfl, us, e', rfl, hs⟩ hoN wd
      repeat walk_at "m"
      exact hq d us e' h _ wd.kept (wd.newIn (List.Sublist.cons _ (List.Sublist.cons_cons _ (List.nil_sublist _)))) hs
end
section
local macro_rules | `(tactic| walk_at "pop") => `(tactic| ((with_reducible refine r_meth (T := "list") (id := "list.pop") PySem.F.plainAttrs_list PySem.F.slot_list_pop PySem.F.type_list_pop ?hb ?hf ?hl ?_); (case hb => walk_at "rf"); (case hf => walk_at "rf"); (case hl => walk_at "rf")))
local macro_rules | `(tactic| walk_at "remove") => `(tactic| ((with_reducible refine r_meth (T := "list") (id := "list.remove") PySem.F.plainAttrs_list PySem.F.slot_list_remove PySem.F.type_list_remove ?hb ?hf ?hl ?_); (case hb => walk_at "rf"); (case hf => walk_at "rf"); (case hl => walk_at "rf")))
theorem mem_foldl_erase {p : Nat} : ∀ (qs bs : List Nat), p ∈ bs → (∀ q ∈ qs, q ≠ p) → p ∈ qs.foldl List.erase bs
  | [], _, h, _ => h
  | q :: r, bs, h, hn => mem_foldl_erase r (bs.erase q) ((List.mem_erase_of_ne (Ne.symm (hn q (.head _)))).mpr h) fun x hx => hn x (.tail _ hx)
theorem TupIs.hid {h : Heap} {v : Value} {p : Nat} {E F : Addr} {es fs : List Value} {n m : Nat} (x : TupIs h v p) (hE : h.get? E = some (lO es n)) (hF : h.get? F = some (lO fs m)) : TupIs (hideAll h [E, F]) v p := by
  obtain ⟨T, t1, t2, k, e, ho⟩ := x
  refine ⟨T, t1, t2, k, e, hideAll_get _ ho ?_⟩
  intro hm
  have key : ∀ {D : Addr} {ds : List Value} {q : Nat}, h.get? D = some (lO ds q) → T ≠ D := by
    rintro D ds q hD rfl
    rw [ho] at hD
    have := congrArg (fun o : Option Obj => o.map (·.cls)) hD
    exact absurd this (by simp)
  rcases List.mem_cons.mp hm with h1 | h1
  · exact key hE h1
  · exact key hF (List.mem_singleton.mp h1)
theorem KeysAre.hid {h : Heap} {vs : List Value} {ps : List Nat} {E F : Addr} {es fs : List Value} {n m : Nat} (x : KeysAre h vs ps) (hE : h.get? E = some (lO es n)) (hF : h.get? F = some (lO fs m)) : KeysAre (hideAll h [E, F]) vs ps := by
  induction x with
  | nil => exact .nil
  | cons a _ ih => exact .cons (a.hid hE hF) ih

theorem unord_call {w : World} {A : Around} {g : Shared} {h0 : Heap} {tk k : Nat} {Q : Value → Shared → Prop} (bs : Bs (KK w) h0) (rm : Room A (k + 1)) {E F : Addr} {es fs : List Value} {ne nf : Nat} {ks bb : List Nat} (hE : h0.get? E = some (lO es ne)) (hF : h0.get? F = some (lO fs nf)) (hne : E ≠ F)
    (hks : KeysAre h0 es ks) (hbb : KeysAre h0 fs bb) (hnd : ks.Nodup) (hsub : ∀ p ∈ ks, p ∈ bb) (hz : es.length < 1000) (hz2 : fs.length < 1000)
    (hq : ∀ (r m : Addr) (fs' : List Value) (nf' ne' : Nat) (h' : Heap) (tk' : Nat), (∀ b o, b ≠ E → b ≠ F → h0.get? b = some o → h'.get? b = some o) → h'.get? E = some (lO [] ne') → h'.get? F = some (lO fs' nf') → NewIn h0 h' [(r, tO [.ref m, .ref F] 0), (m, lO [] 0)] →
      KeysAre h0 fs' (ks.reverse.foldl List.erase bb) → (∀ v ∈ fs', v ∈ fs) → Q (.ref r) (At g h' tk')) :
    wpAny (model PySem.Challenge.rw_oc0086_01.row.prog w) A (call (.ref 89) [.ref E, .ref F]) Q NoE (At g h0 tk) := by
  refine callF bs rm (by walk_at "rf") (by walk_at "rf") (BindsTo.of_eq (by walk_at "rf")) (by decide) (by exact locs (by walk_at "rf")) (by walk_at "rf") (by walk_at "rf") (by walk_at "rf") [(E, lO es ne), (F, lO fs nf)] (fun p hp => ?_) (by simpa using hne) ?_
  · rcases List.mem_cons.mp hp with rfl | hp
    · exact hE
    · rw [List.mem_singleton.mp hp]; exact hF
  intro L h₁ tk₁ wd rm₁
  have hks₀ := hks.hid hE hF
  have hbb₀ := hbb.hid hE hF
  replace wd : Wd (hideAll h0 [E, F]) L [(Str.ofString "actual", .ref F), (Str.ofString "expected", .ref E)] [(E, lO es ne), (F, lO fs nf)] h₁ := wd
  have hback : ∀ b o, b ≠ E → b ≠ F → h0.get? b = some o → (hideAll h0 [E, F]).get? b = some o := fun b o h1 h2 e => hideAll_get _ e (by simp only [List.mem_cons, List.not_mem_nil, or_false, not_or]; exact ⟨h1, h2⟩)
  have hkeysback : ∀ {vs ps}, KeysAre (hideAll h0 [E, F]) vs ps → KeysAre h0 vs ps := fun x => x.keep fun b o e => of_hideAll _ e
  generalize hideAll h0 [E, F] = H at wd hks₀ hbb₀ hback hkeysback
  generalize A.deeper _ = A₁ at rm₁ ⊢
  have hkl := hks.len
  repeat walk_at "m"
  refine n_listW wd (by simp) fun m h₂ _ _ wd => ?_
  repeat walk_at "m"
  rename Wd _ _ _ _ _ => wd
  refine s_while (fun n s => ∃ h' tk' ne' nf' fs' bb', s = At g h' tk' ∧ n ≤ es.length ∧ Wd H L [(Str.ofString "missing", .ref m), (Str.ofString "actual", .ref F), (Str.ofString "expected", .ref E)] [(m, lO [] 0), (E, lO (es.take n) ne'), (F, lO fs' nf')] h' ∧ KeysAre H fs' bb' ∧ fs'.length < 1000 ∧ (∀ v ∈ fs', v ∈ fs) ∧ bb' = (ks.drop n).reverse.foldl List.erase bb) es.length ⟨_, _, ne, nf, fs, bb, rfl, Nat.le_refl _, ?_, hbb₀, hz2, fun _ h => h, ?_⟩ ?_
  · rw [List.take_length]; exact wd
  · rw [hkl, List.drop_length]; rfl
  · rintro n s ⟨h', tk', ne', nf', fs', bb', rfl, hn, wd, hfs, hfz, hfm, hbb'⟩
    repeat walk_at "m"
    refine t_list (wd.geti 1 rfl) (by rw [List.length_take]; omega) fun tk₂ => ?_
    cases n with
    | zero =>
      rw [List.take_zero, if_neg (by simp)]
      rw [List.take_zero] at wd
      repeat walk_at "m"
      refine n_tupW wd (by simp) fun r h₃ _ _ wd => ?_
      rw [List.drop_zero] at hbb'
      refine hq r m fs' nf' ne' h₃ _ (fun b o h1 h2 e => wd.kept b o (hback b o h1 h2 e)) (wd.geti 2 rfl) (wd.geti 3 rfl) ⟨fun q hq => ?_, ?_⟩ (hbb' ▸ hkeysback hfs) hfm
      · have nd := wd.nd
        simp only [List.map_cons, List.map_nil, List.nodup_cons, List.mem_cons, List.not_mem_nil, or_false, not_or] at nd
        have fresh : ∀ x, x ≠ E → x ≠ F → H.get? x = none → h0.get? x = none := fun x h1 h2 h3 => by
          cases e : h0.get? x with
          | none => rfl
          | some o => rw [hback x o h1 h2 e] at h3; cases h3
        rcases List.mem_cons.mp hq with rfl | hq
        · exact ⟨fresh _ nd.1.2.1 nd.1.2.2 (wd.nw _ (.head _)).2.2, wd.geti 0 rfl⟩
        · rw [List.mem_singleton.mp hq]
          exact ⟨fresh _ nd.2.1.1 nd.2.1.2 (wd.nw _ (.tail _ (.head _))).2.2, wd.geti 1 rfl⟩
      · exact wd.nd.sublist (List.Sublist.cons_cons _ (List.Sublist.cons_cons _ (List.nil_sublist _)))
    | succ n =>
      have hlt : n < es.length := by omega
      have htk : es.take (n + 1) = es.take n ++ [es[n]] := by rw [List.take_add_one, List.getElem?_eq_getElem hlt]; rfl
      rw [if_pos (by cases es with | nil => simp at hlt | cons a r => simp)]
      obtain ⟨p, hp1, hp2⟩ := hks₀.get (List.getElem?_eq_getElem hlt)
      rw [htk] at wd
      repeat walk_at "m"
      walk_at "pop"
      repeat walk_at "m"
      refine ⟨(tyL (wd.geti 1 rfl)).1, (tyL (wd.geti 1 rfl)).2, ?_⟩
      repeat walk_at "m"
      refine f_pop 1 wd rfl (by rw [List.length_take]; omega) fun h₃ wd => ?_
      repeat walk_at "m"
      rename Wd _ _ _ _ _ => wd
      refine s_try ?_
      walk_at "m"
      walk_at "remove"
      repeat walk_at "m"
      refine ⟨(tyL (wd.geti 2 rfl)).1, (tyL (wd.geti 2 rfl)).2, ?_⟩
      repeat walk_at "m"
      have hdrop : ks.drop n = p :: ks.drop (n + 1) := by
        obtain ⟨hl2, hg⟩ := List.getElem?_eq_some_iff.mp hp1
        rw [List.drop_eq_getElem_cons hl2, hg]
      have hpm : p ∈ bb' := by
        rw [hbb']
        refine mem_foldl_erase _ _ (hsub p (List.mem_of_getElem? hp1)) fun q hq => ?_
        rw [List.mem_reverse] at hq
        have h3 : (ks.drop n).Nodup := hnd.sublist (List.drop_sublist _ _)
        rw [hdrop, List.nodup_cons] at h3
        rintro rfl; exact h3.1 hq
      refine f_remove 2 rm₁ wd wd.kept rfl hfs (hp2.keep wd.kept) hpm (by omega) fun fs₂ h₄ wd _ hfs₂ hm₂ => ⟨rfl, ?_⟩
      repeat walk_at "m"
      refine ⟨n, by omega, h₄, _, _, _, fs₂, _, rfl, by omega, wd.pick ["missing", "actual", "expected"], hfs₂, ?_, fun v hv => hfm v (hm₂ v hv), ?_⟩
      · rw [hfs₂.len]
        have := List.length_erase_le (a := p) (l := bb')
        have := hfs.len
        omega
      · rw [hdrop, List.reverse_cons, List.foldl_append, hbb']; rfl
end
section
local macro_rules | `(tactic| walk_at "extend") => `(tactic| ((with_reducible refine r_meth (T := "list") (id := "list.extend") PySem.F.plainAttrs_list PySem.F.slot_list_extend PySem.F.type_list_extend ?hb ?hf ?hl ?_); (case hb => walk_at "rf"); (case hf => walk_at "rf"); (case hl => walk_at "rf")))
abbrev Lay := Addr × Str × Tok × Addr
def layO (x : Lay) : List (Addr × Obj) := [(x.1, tO [.str x.2.1 x.2.2.1, .ref x.2.2.2] 0), (x.2.2.2, lO [] 0)]
theorem c_neS {prog : Program} {w : World} {A : Around} {g : Shared} {h : Heap} {tk : Nat} {a b : Str} {t u : Tok} {Q : Value → Shared → Prop} (hq : Q (.bool (a != b)) (At g h tk)) : wpAny (model prog w) A (compareOp .NotEq (.str a t) (.str b u)) Q NoE (At g h tk) := PyProof.Rows.ne_str (s := At g h tk) hq
theorem ch_dash (c : Nat) : (ch c == Str.ofString "-") = decide (c = 45) := by
  rw [show Str.ofString "-" = ch 45 from rfl, Bool.eq_iff_iff]
  simp only [beq_iff_eq, decide_eq_true_eq]
  constructor
  · intro hx; have := congrArg (fun s : Str => s.cps.toList) hx; simpa [ch] using this
  · intro hx; rw [hx]

theorem perm3 {α : Type} (a b c : α) (t o : List α) : (a :: b :: c :: (t ++ o)).Perm (o ++ a :: b :: c :: t) := by
  have := List.perm_append_comm (l₁ := a :: b :: c :: t) (l₂ := o)
  simpa using this
theorem kd_snoc (bs : List Nat) (p : Nat) : kd (bs ++ [p]) = kdStep (kd bs) p := by unfold kd; rw [List.foldl_append]; rfl
theorem cr_dashes {P : Nat → Value → Prop} {i : Nat} {res : List (Value × List (Addr × Obj))} (cr : CR P (fun _ _ => true) (fun _ _ y own => own = [] ∧ ∃ t, y = .str (ch 45) t) i res) : StrsAre (res.map (·.1)) ((List.range i).map fun _ => ch 45) ∧ res.flatMap (·.2) = [] := cr_strs (fun _ => ch 45) cr
theorem StrsAre.set {vs : List Value} {ys : List Str} {y : Str} {t : Tok} (h : StrsAre vs ys) : ∀ j, StrsAre (vs.set j (.str y t)) (ys.set j y) := by
  induction h with
  | nil => intro j; exact .nil
  | cons x u hr ih =>
    intro j
    cases j with
    | zero => exact .cons _ _ hr
    | succ j => exact .cons _ _ (ih j)
theorem bag_call {w : World} {A : Around} {g : Shared} {h0 : Heap} {tk k : Nat} {Q : Value → Shared → Prop} (bs : Bs (KK w) h0) (rm : Room A (k + 2)) {a : Addr} {vs : List Value} {e : Nat} {rows : List (List Nat)} (ho : h0.get? a = some (lO vs e)) (hv : StrsAre vs (rows.map mkS)) (hr : ∀ r ∈ rows, r.length = 10) (hsg : ∀ r ∈ rows, ∀ p, p < 10 → r.getD p 0 = 45 ∨ r.getD p 0 = sg0 p) (h6 : rows.length ≤ 6)
    (hq : ∀ (R Ly B : Addr) (lay : List Lay) (e1 e2 : Nat) (h' : Heap) (tk' : Nat), Kept h0 h' → NewIn h0 h' ((R, tO [.ref Ly, .ref B] 0) :: (Ly, lO (lay.map fun x => .ref x.1) e1) :: (B, lO [] e2) :: lay.flatMap layO) →
      lay.map (·.2.1) = ((List.range rows.length).map fun i => mkS ((List.range 10).map (layC rows (i + 1)))) → Q (.ref R) (At g h' tk')) :
    wpAny (model PySem.Challenge.rw_oc0086_01.row.prog w) A (call (.ref 121) [.ref a]) Q NoE (At g h0 tk) := by
  have hlen : vs.length = rows.length := by rw [StrsAre.len hv, List.length_map]
  refine callC' bs rm (by walk_at "rf") (by walk_at "rf") (BindsTo.of_eq (by walk_at "rf")) (by exact locs (by walk_at "rf")) (by walk_at "rf") (by walk_at "rf") (by walk_at "rf") (by decide) ?_
  intro L h₁ tk₁ cells wd hc rm₁
  replace wd : Wd h0 L [(Str.ofString "listing", .ref a)] cells h₁ := wd
  obtain ⟨oR, rfl, hoR⟩ := CellsAre.one (n := Str.ofString "row") (c := L + 1) hc
  generalize A.deeper _ = A₁ at rm₁ ⊢
  repeat walk_at "m"
  refine n_listW wd (by simp) fun B h₂ _ _ wd => ?_
  repeat walk_at "m"
  rename Wd _ _ _ _ _ => wd
  refine f_listIter (wd.old ho) wd fun I o h₃ _ wd hit X => ?_
  replace wd : Wd h0 L [(Str.ofString "bag", .ref B), (Str.ofString "listing", .ref a)] [(L + 1, oR), (I, o), (B, lO [] 0)] h₃ := wd.front 2 (by simp)
  replace wd : Wd h0 L [(Str.ofString "bag", .ref B), (Str.ofString "listing", .ref a)] [(I, o), (L + 1, oR), (B, lO [] 0)] h₃ := wd.front 1 (by simp)
  refine loopLC rm₁ (by walk_at "rf") (by walk_at "rf") (by walk_at "rf") (fun i l news => l = [(Str.ofString "bag", .ref B), (Str.ofString "listing", .ref a)] ∧ ∃ tups ee, news = (B, lO (tups.map fun q => .ref q.1) ee) :: tups ∧ TupsOk tups (bag0 (rows.take i))) ho wd hoR hit ⟨rfl, [], 0, rfl, .nil⟩ ?_ ?_
  · rintro i v o oR l news h tk hi ⟨rfl, tups, ee, rfl, htu⟩ hoR wd
    obtain ⟨r, tr, hri, rfl⟩ := rows_get hv hi
    have hrl := hr r (List.mem_of_getElem? hri)
    have hrs := hsg r (List.mem_of_getElem? hri)
    walk_at "m"
    walk_at "extend"
    repeat walk_at "m"
    refine ⟨(tyL (wd.geti 2 rfl)).1, (tyL (wd.geti 2 rfl)).2, ?_⟩
    repeat walk_at "m"
    refine r_comp wd (by walk_at "rf") (by decide) (by walk_at "rf") (by decide) (by walk_at "rf") (by intro _; walk_at "rf") ?_
    repeat walk_at "m"
    refine f_range1 wd fun rr h₅ tk₅ t₁ u₁ v₁ hr' _ wd => ?_
    refine f_rangeIt 10 wd hr' (by decide) (by decide) (by decide) (by decide) (.inl rfl) (by decide) fun I' o' h₆ _ wd hit => ?_
    have hit10 : ∀ j, j < 10 → r[j]? = some (r.getD j 0) := fun j hj => by rw [List.getD_eq_getElem?_getD, List.getElem?_eq_getElem (by omega)]; rfl
    refine compAtR rm₁ wd hit (by decide) (fun j _ => r.getD j 0 != 45) (fun j _ y own => ∃ d t1 t2, y = .ref d ∧ own = [(d, tO [.int (j : Nat) t1, .str (ch (sg0 j)) t2] 0)]) ?_ ?_ ?_
    · intro C j t h₇ tk₇ hj wdC
      have e3 : (0 + (j : Int) * 1) = ((j : Nat) : Int) := by omega
      rw [e3] at wdC
      refine wpAny_tests_one ?_
      repeat walk_at "m"
      refine r_cell (wdC.old (wd.hid (.tail _ (.head _)))) hoR (by walk_at "rf") (by walk_at "rf") (by walk_at "rf") (by decide) ?_
      repeat walk_at "m"
      refine b_str (by omega) (by rw [mkS_len, hrl]; omega) (by omega) (by walk_at "rf") (by intro _; walk_at "rf") fun t₅ tk₅ => ?_
      rw [item_mkS (hit10 j hj)]
      repeat walk_at "m"
      refine c_neS ?_
      repeat walk_at "m"
      refine ⟨?_, _, _, rfl, fun _ _ e => e⟩
      show (!(ch (r.getD j 0) == Str.ofString "-")) = (r.getD j 0 != 45)
      rw [ch_dash]
      generalize r.getD j 0 = c
      by_cases h45 : c = 45
      · subst h45; rfl
      · simp [h45]
    · intro C j tj h₇ tk₇ hj hpj wdC
      have e3 : (0 + (j : Int) * 1) = ((j : Nat) : Int) := by omega
      rw [e3] at wdC
      have hsj : r.getD j 0 = sg0 j := by
        rcases hrs j hj with h1 | h1
        · rw [h1] at hpj; simp at hpj
        · exact h1
      repeat walk_at "m"
      refine r_cell (wdC.old (wd.hid (.tail _ (.head _)))) hoR (by walk_at "rf") (by walk_at "rf") (by walk_at "rf") (by decide) ?_
      repeat walk_at "m"
      refine b_str (by omega) (by rw [mkS_len, hrl]; omega) (by omega) (by walk_at "rf") (by intro _; walk_at "rf") fun t₅ tk₅ => ?_
      rw [item_mkS (hit10 j hj), hsj]
      repeat walk_at "m"
      refine n_tup (by simp) fun d h₈ hk hn => ?_
      exact ⟨_, h₈, _, rfl, hk, hn, d, _, _, rfl, rfl⟩
    · intro D h₈ tk₈ res e₈ cr _ wd
      obtain ⟨hto, hmap⟩ := cr_tups (fun j => r.getD j 0 != 45) cr
      have hl1 := htu.len
      have hl2 := hto.len
      have hb1 : (bag0 (rows.take i)).length ≤ 60 := by have := len_bag0 (rows.take i); rw [List.length_take] at this; omega
      have hb2 : ((List.range 10).filter fun j => r.getD j 0 != 45).length ≤ 10 := by
        have := List.length_filter_le (fun j => r.getD j 0 != 45) (List.range 10)
        simpa using this
      replace wd : Wd h0 L [(Str.ofString "bag", .ref B), (Str.ofString "listing", .ref a)] ((D, lO (res.map (·.1)) e₈) :: (I, o) :: (L + 1, oR) :: (B, lO (tups.map fun q => .ref q.1) ee) :: (tups ++ res.flatMap (·.2))) h₈ := wd.perm (List.Perm.cons _ (perm3 _ _ _ _ _))
      repeat walk_at "m"
      refine f_extend 3 wd rfl (wd.geti 0 rfl) (by rw [hmap, List.length_map, List.length_map]; omega) fun ee' h₉ wd => ⟨rfl, ?_⟩
      repeat walk_at "m"
      refine ⟨_, _, oR, _, h₉, _, rfl, hoR, wd.sub (List.sublist_cons_self _ _), rfl, tups ++ res.flatMap (·.2), ee', ?_, ?_⟩
      · rw [List.map_append, ← hmap]; rfl
      · rw [List.take_add_one, hri]
        unfold bag0
        rw [List.flatMap_append]
        have := htu.app hto
        simpa [bag0, places] using this
  · rintro l news oR u h tk ⟨rfl, tups, ee, rfl, htu⟩ hoR wd
    rw [hlen, List.take_length] at htu
    have htl := htu.len
    have hb0 := len_bag0 rows
    repeat walk_at "m"
    refine n_listW wd (by simp) fun Ly h₂ _ _ wd => ?_
    repeat walk_at "m"
    rename Wd _ _ _ _ _ => wd
    refine f_len (wd.old ho) (by omega) fun _ _ => ?_
    rw [hlen]
    repeat walk_at "m"
    refine f_range1 wd fun rr h₅ tk₅ t₁ u₁ v₁ hr' _ wd => ?_
    refine f_rangeIt rows.length wd hr' (by decide) (by decide) (by omega) (by omega) (.inl rfl) (by rw [size_up]; omega) fun I o h₆ _ wd hi X => ?_
    replace wd := wd.pick ["layers", "bag", "listing"]
    replace wd : Wd h0 L [(Str.ofString "layers", .ref Ly), (Str.ofString "bag", .ref B), (Str.ofString "listing", .ref a)] ((I, o) :: (Ly, lO [] 0) :: (L + 1, oR) :: (B, lO (tups.map fun q => .ref q.1) ee) :: tups) h₆ := wd
    refine loopR rm₁ (by walk_at "rf") (by walk_at "rf") (fun t l news => l = [(Str.ofString "layers", .ref Ly), (Str.ofString "bag", .ref B), (Str.ofString "listing", .ref a)] ∧ ∃ (lay : List Lay) (e1 : Nat) (bv : List Value) (e2 : Nat), news = (Ly, lO (lay.map fun x => .ref x.1) e1) :: (L + 1, oR) :: (B, lO bv e2) :: (tups ++ lay.flatMap layO) ∧ KIns tups bv (bagAt rows t) ∧ lay.map (·.2.1) = ((List.range t).map fun i => mkS ((List.range 10).map (layC rows (i + 1))))) wd hi ⟨rfl, [], 0, _, ee, by rw [List.flatMap_nil, List.append_nil]; rfl, htu.ins, rfl⟩ ?_ ?_
    · rintro t tt o l news h tk hi ⟨rfl, lay, e1, bv, e2, rfl, hbv, hlay⟩ wd
      have hbl := hbv.len
      have hbb := len_bagAt rows t
      have hkl : (kd (bagAt rows t)).length ≤ 60 := by have := len_kd (bagAt rows t) []; unfold kd; simp at this; omega
      have hll : lay.length = t := by have := congrArg List.length hlay; simpa using this
      repeat walk_at "m"
      refine n_listW wd (by simp) fun Kd h₂ _ _ wd => ?_
      repeat walk_at "m"
      rename Wd _ _ _ _ _ => wd
      refine f_listIter (wd.geti 4 rfl) wd fun I' o' h₃ _ wd hit X' => ?_
      replace wd := wd.pick ["kinds", "layers", "bag", "listing"]
      replace wd : Wd h0 L [(Str.ofString "kinds", .ref Kd), (Str.ofString "layers", .ref Ly), (Str.ofString "bag", .ref B), (Str.ofString "listing", .ref a)] ((I', o') :: (Kd, lO [] 0) :: (I, o) :: (Ly, lO (lay.map fun x => .ref x.1) e1) :: (L + 1, oR) :: (B, lO bv e2) :: (tups ++ lay.flatMap layO)) h₃ := wd
      refine loopL rm₁ (by walk_at "rf") (by walk_at "rf") (fun j l news => l = [(Str.ofString "kinds", .ref Kd), (Str.ofString "layers", .ref Ly), (Str.ofString "bag", .ref B), (Str.ofString "listing", .ref a)] ∧ ∃ kv ek, news = (Kd, lO kv ek) :: (I, o) :: (Ly, lO (lay.map fun x => .ref x.1) e1) :: (L + 1, oR) :: (B, lO bv e2) :: (tups ++ lay.flatMap layO) ∧ KIns tups kv (kd ((bagAt rows t).take j))) (.inr ?_) (wd.geti 5 rfl) wd hit ⟨rfl, _, _, rfl, .nil⟩ ?_ ?_
      · rintro j l news ⟨_, kv, ek, rfl, _⟩
        exact .tail _ (.tail _ (.tail _ (.tail _ (.head _))))
      · rintro j v o'' l news h tk hj ⟨rfl, kv, ek, rfl, hkv⟩ wd _
        obtain ⟨p, hp1, hp2⟩ := hbv.get hj
        have hg : ∀ q ∈ tups, h.get? q.1 = some q.2 := fun q hq => wd.get (.tail _ (.tail _ (.tail _ (.tail _ (.tail _ (.tail _ (List.mem_append_left _ hq)))))))
        have hkz : kv.length < 100000 := by rw [hkv.len]; have := len_kd ((bagAt rows t).take j) []; unfold kd; rw [List.length_take] at this; simp at this; omega
        have hstep : (bagAt rows t).take (j + 1) = (bagAt rows t).take j ++ [p] := by rw [List.take_add_one, hp1]; rfl
        repeat walk_at "m"
        refine f_notIn rm₁ (wd.geti 1 rfl) (hkv.keys hg) (hp2.tup hg) ?_
        repeat walk_at "m"
        by_cases hin : p ∈ kd ((bagAt rows t).take j)
        · rw [if_neg (by simpa using hin)]
          repeat walk_at "m"
          refine ⟨_, _, h, _, rfl, wd.pick ["kinds", "layers", "bag", "listing"], rfl, kv, ek, rfl, ?_⟩
          rw [hstep, kd_snoc, kdStep, if_pos hin]
          exact hkv
        · rw [if_pos (by simpa using hin)]
          repeat walk_at "m"
          walk_at "append"
          repeat walk_at "m"
          refine ⟨(tyL (wd.geti 1 rfl)).1, (tyL (wd.geti 1 rfl)).2, ?_⟩
          repeat walk_at "m"
          refine app_at 1 wd rfl hkz fun h₅ wd => ⟨rfl, ?_⟩
          repeat walk_at "m"
          refine ⟨_, _, h₅, _, rfl, wd.pick ["kinds", "layers", "bag", "listing"], rfl, kv ++ [v], ek + 1, rfl, ?_⟩
          rw [hstep, kd_snoc, kdStep, if_neg hin]
          exact hkv.snoc hp2
      · rintro l news h tk ⟨rfl, kv, ek, rfl, hkv⟩ wd
        rw [hbl, List.take_length] at hkv
        walk_at "m"
        refine s_comp wd (by walk_at "rf") (by walk_at "rf") (by decide) (by walk_at "rf") (by decide) (by walk_at "rf") (by walk_at "rf") (by walk_at "rf") (by intro _; walk_at "rf") ?_
        repeat walk_at "m"
        refine f_range1 wd fun rr h₅ tk₅ t₁ u₁ v₁ hr' _ wd => ?_
        refine f_rangeIt 10 wd hr' (by decide) (by decide) (by decide) (by decide) (.inl rfl) (by decide) fun I'' o'' h₆ _ wd hit => ?_
        refine compAtR rm₁ wd hit (by decide) (fun _ _ => true) (fun _ _ y own => own = [] ∧ ∃ t, y = .str (ch 45) t) ?_ ?_ ?_
        · intro C j t h₇ tk₇ hj wdC
          exact wpAny_tests_nil ⟨rfl, _, _, rfl, fun _ _ e => e⟩
        · intro C j tj h₇ tk₇ hj _ wdC
          repeat walk_at "m"
          rename_i t6 _
          exact ⟨[], _, _, rfl, fun _ _ e => e, NewIn.nil, rfl, t6, rfl⟩
        intro Sg h₈ tk₈ res e₈ cr _ h₉ tk₉ wd
        obtain ⟨hds, hown⟩ := cr_dashes cr
        rw [hown] at wd
        replace wd : Wd h0 L [(Str.ofString "signs", .ref Sg), (Str.ofString "kinds", .ref Kd), (Str.ofString "layers", .ref Ly), (Str.ofString "bag", .ref B), (Str.ofString "listing", .ref a)] ((Sg, lO (res.map (·.1)) e₈) :: (Kd, lO kv ek) :: (I, o) :: (Ly, lO (lay.map fun x => .ref x.1) e1) :: (L + 1, oR) :: (B, lO bv e2) :: (tups ++ lay.flatMap layO)) h₉ := wd
        repeat walk_at "m"
        refine f_listIter (wd.geti 1 rfl) wd fun I3 o3 h₃ _ wd hit X' => ?_
        refine loopL2 (vs := kv) (e := ek) rm₁ (by walk_at "rf") (by walk_at "rf") (by walk_at "rf") (fun j l news => l = [(Str.ofString "signs", .ref Sg), (Str.ofString "kinds", .ref Kd), (Str.ofString "layers", .ref Ly), (Str.ofString "bag", .ref B), (Str.ofString "listing", .ref a)] ∧ ∃ sv es, news = (Sg, lO sv es) :: (Kd, lO kv ek) :: (I, o) :: (Ly, lO (lay.map fun x => .ref x.1) e1) :: (L + 1, oR) :: (B, lO bv e2) :: (tups ++ lay.flatMap layO) ∧ StrsAre sv ((List.range 10).map fun p => ch (if p ∈ (kd (bagAt rows t)).take j then sg0 p else 45))) ?_ ?_ wd hit ⟨rfl, _, _, rfl, ?_⟩ ?_ ?_
        · rintro j l news ⟨_, sv, es, rfl, _⟩
          exact .tail _ (.head _)
        · rintro j v l news h hj ⟨_, sv, es, rfl, _⟩ wd
          obtain ⟨p, _, T, t1, t2, rfl, hm⟩ := hkv.get hj
          exact ⟨T, _, _, 0, rfl, wd.get (.tail _ (.tail _ (.tail _ (.tail _ (.tail _ (.tail _ (List.mem_append_left _ hm)))))))⟩
        · simpa using hds
        · rintro j T v1 v2 n o4 l news h h₂ tk hj hT ⟨rfl, sv, es, rfl, hsv⟩ wd0 wd
          obtain ⟨p, hp1, T', t1, t2, hT1, hm⟩ := hkv.get hj
          cases hT1
          have hT2 := wd0.get (.tail _ (.tail _ (.tail _ (.tail _ (.tail _ (.tail _ (.tail _ (List.mem_append_left _ hm))))))))
          rw [hT] at hT2
          obtain ⟨rfl, rfl⟩ : v1 = .int (p : Nat) t1 ∧ v2 = .str (ch (sg0 p)) t2 := by
            simp at hT2; exact hT2.1
          have hp10 : p < 10 := mem_bagAt ((kd_mem _ _).mp (List.mem_of_getElem? hp1))
          have hsl : sv.length = 10 := by rw [StrsAre.len hsv]; simp
          refine s_asgSub (by walk_at "rf") ?_
          repeat walk_at "m"
          refine f_set 1 wd rfl (by omega) (by omega) (by omega) fun h₅ wd => ?_
          repeat walk_at "m"
          refine ⟨_, _, h₅, _, rfl, wd.pick ["signs", "kinds", "layers", "bag", "listing"], rfl, _, es, rfl, ?_⟩
          have := StrsAre.set (y := ch (sg0 p)) (t := t2) hsv p
          rw [show ((p : Nat) : Int).toNat = p from rfl]
          have e5 : (((List.range 10).map fun q => ch (if q ∈ (kd (bagAt rows t)).take j then sg0 q else 45)).set p (ch (sg0 p))) = (List.range 10).map fun q => ch (if q ∈ (kd (bagAt rows t)).take (j + 1) then sg0 q else 45) := by
            rw [List.take_add_one, hp1]
            refine List.ext_getElem? fun q => ?_
            rw [List.getElem?_set, List.getElem?_map, List.getElem?_map]
            by_cases hqp : p = q
            · subst hqp
              rw [if_pos rfl, if_pos (by simpa using hp10), List.getElem?_range hp10]
              simp
            · rw [if_neg hqp]
              have : ∀ z, z ≠ p → (z ∈ (kd (bagAt rows t)).take j ++ (some p).toList ↔ z ∈ (kd (bagAt rows t)).take j) := by
                intro z hz; simp [hz]
              by_cases hq10 : q < 10
              · rw [List.getElem?_range hq10]
                simp only [Option.map_some, this q (Ne.symm hqp)]
              · rw [List.getElem?_eq_none (by simp; omega)]; rfl
          rw [← e5]
          exact this
        · rintro l news h tk ⟨rfl, sv, es, rfl, hsv⟩ wd
          rw [hkv.len, List.take_length] at hsv
          have hsv' : StrsAre sv (((List.range 10).map (layC rows (t + 1))).map ch) := by
            rw [List.map_map]
            have : ((List.range 10).map fun p => ch (if p ∈ kd (bagAt rows t) then sg0 p else 45)) = (List.range 10).map (ch ∘ layC rows (t + 1)) := by
              refine List.map_congr_left fun p hp => ?_
              rw [kd_lay rows t (List.mem_range.mp hp)]; rfl
            rw [← this]; exact hsv
          have hg : ∀ q ∈ tups, h.get? q.1 = some q.2 := fun q hq => wd.get (.tail _ (.tail _ (.tail _ (.tail _ (.tail _ (.tail _ (List.mem_append_left _ hq)))))))
          walk_at "m"
          refine s_asgTup (by walk_at "rf") (by walk_at "rf") ?_
          repeat walk_at "m"
          refine r_glob (bs.keep wd.kept) (by walk_at "rf") (by walk_at "rf") (by walk_at "rf") (g_unord w) (by decide) ?_
          refine m_fn (bs.keep wd.kept) (k_unord w) (by walk_at "rf") (by walk_at "rf") ?_
          repeat walk_at "m"
          refine ⟨(bs.keep wd.kept).k, ?_⟩
          have ndL := wd.nd
          have hKB : Kd ≠ B := by
            simp only [List.map_cons, List.nodup_cons, List.mem_cons, not_or] at ndL
            exact ndL.2.1.2.2.2.1
          refine unord_call (bs.keep wd.kept) rm₁ (wd.geti 1 rfl) (wd.geti 5 rfl) hKB (hkv.keys hg) (hbv.keys hg) (kd_nodup _) (fun p hp => (kd_mem _ _).mp hp) (by rw [hkv.len]; omega) (by omega) fun r m fs' nf' ne' h₇ tk₇ hk hE' hF' hn hkeys hmem => ?_
          have wd1 : Wd h0 L [(Str.ofString "signs", .ref Sg), (Str.ofString "kinds", .ref Kd), (Str.ofString "layers", .ref Ly), (Str.ofString "bag", .ref B), (Str.ofString "listing", .ref a)] ((B, lO bv e2) :: (Sg, lO sv es) :: (Kd, lO kv ek) :: (I, o) :: (Ly, lO (lay.map fun x => .ref x.1) e1) :: (L + 1, oR) :: (tups ++ lay.flatMap layO)) h := wd.front 5 (by simp)
          replace wd1 : Wd h0 L [(Str.ofString "signs", .ref Sg), (Str.ofString "kinds", .ref Kd), (Str.ofString "layers", .ref Ly), (Str.ofString "bag", .ref B), (Str.ofString "listing", .ref a)] ((Kd, lO kv ek) :: (B, lO bv e2) :: (Sg, lO sv es) :: (I, o) :: (Ly, lO (lay.map fun x => .ref x.1) e1) :: (L + 1, oR) :: (tups ++ lay.flatMap layO)) h := wd1.front 2 (by simp)
          have wd2 := wd1.upd2 (h₁ := h₇) (fun b ob hb e => hk b ob (fun q => hb (by rw [q]; exact .head _)) (fun q => hb (by rw [q]; exact .tail _ (.head _))) e) hE' hF'
          have wd3 := wd1.add wd2 rfl hn
          have hbn : KIns tups fs' (bagAt rows (t + 1)) := KIns.back hkeys hmem hbv hg
          clear wd1 wd2 wd hk hE' hF' hn
          refine a_tup2 rm₁ wd3 (wd3.geti 0 rfl) (by walk_at "rf") (by walk_at "rf") (by walk_at "rf") fun h₈ tk₈ wd _ => ?_
          clear wd3
          walk_at "m"
          walk_at "append"
          repeat walk_at "m"
          refine ⟨(tyL (wd.geti 6 rfl)).1, (tyL (wd.geti 6 rfl)).2, ?_⟩
          repeat walk_at "m"
          walk_at "join"
          repeat walk_at "m"
          refine ⟨tyS.1, tyS.2, ?_⟩
          repeat walk_at "m"
          refine f_join (wd.geti 4 rfl) hsv' (by rw [chs_len]; simp) fun tj tk' => ?_
          rw [join_ch]
          repeat walk_at "m"
          refine n_tupW wd (by simp) fun T h₉ _ _ wd => ?_
          repeat walk_at "m"
          refine app_at 7 wd rfl (by rw [List.length_map, hll]; omega) fun h₁₀ wd => ⟨rfl, ?_⟩
          repeat walk_at "m"
          replace wd := wd.pick ["layers", "bag", "listing"]
          replace wd : Wd h0 L [(Str.ofString "layers", .ref Ly), (Str.ofString "bag", .ref B), (Str.ofString "listing", .ref a)] ((T, tO [.str (mkS ((List.range 10).map (layC rows (t + 1)))) tj, .ref m] 0) :: (r, tO [.ref m, .ref B] 0) :: (m, lO [] 0) :: (Kd, lO [] ne') :: (B, lO fs' nf') :: (Sg, lO sv es) :: (I, o) :: (Ly, lO ((lay.map fun x => .ref x.1) ++ [.ref T]) (e1 + 1)) :: (L + 1, oR) :: (tups ++ lay.flatMap layO)) h₁₀ := wd
          replace wd := wd.sub (List.Sublist.cons_cons _ (List.Sublist.cons _ (List.Sublist.cons_cons _ (List.Sublist.cons _ (List.Sublist.cons_cons _ (List.sublist_cons_self _ _))))))
          replace wd := wd.back
          replace wd : Wd h0 L [(Str.ofString "layers", .ref Ly), (Str.ofString "bag", .ref B), (Str.ofString "listing", .ref a)] ((B, lO fs' nf') :: (I, o) :: (Ly, lO ((lay.map fun x => .ref x.1) ++ [.ref T]) (e1 + 1)) :: (L + 1, oR) :: ((tups ++ lay.flatMap layO) ++ [(T, tO [.str (mkS ((List.range 10).map (layC rows (t + 1)))) tj, .ref m] 0)] ++ [(m, lO [] 0)])) h₁₀ := wd.back
          replace wd : Wd h0 L [(Str.ofString "layers", .ref Ly), (Str.ofString "bag", .ref B), (Str.ofString "listing", .ref a)] ((L + 1, oR) :: (B, lO fs' nf') :: (I, o) :: (Ly, lO ((lay.map fun x => .ref x.1) ++ [.ref T]) (e1 + 1)) :: ((tups ++ lay.flatMap layO) ++ [(T, tO [.str (mkS ((List.range 10).map (layC rows (t + 1)))) tj, .ref m] 0)] ++ [(m, lO [] 0)])) h₁₀ := wd.front 3 (by simp)
          replace wd : Wd h0 L [(Str.ofString "layers", .ref Ly), (Str.ofString "bag", .ref B), (Str.ofString "listing", .ref a)] ((Ly, lO ((lay.map fun x => .ref x.1) ++ [.ref T]) (e1 + 1)) :: (L + 1, oR) :: (B, lO fs' nf') :: (I, o) :: ((tups ++ lay.flatMap layO) ++ [(T, tO [.str (mkS ((List.range 10).map (layC rows (t + 1)))) tj, .ref m] 0)] ++ [(m, lO [] 0)])) h₁₀ := wd.front 3 (by simp)
          replace wd : Wd h0 L [(Str.ofString "layers", .ref Ly), (Str.ofString "bag", .ref B), (Str.ofString "listing", .ref a)] ((I, o) :: (Ly, lO ((lay.map fun x => .ref x.1) ++ [.ref T]) (e1 + 1)) :: (L + 1, oR) :: (B, lO fs' nf') :: ((tups ++ lay.flatMap layO) ++ [(T, tO [.str (mkS ((List.range 10).map (layC rows (t + 1)))) tj, .ref m] 0)] ++ [(m, lO [] 0)])) h₁₀ := wd.front 3 (by simp)
          refine ⟨_, _, h₁₀, _, rfl, wd, rfl, lay ++ [(T, mkS ((List.range 10).map (layC rows (t + 1))), tj, m)], e1 + 1, fs', nf', ?_, hbn, ?_⟩
          · rw [List.map_append, List.flatMap_append]
            simp [layO, List.append_assoc]
          · rw [List.map_append, hlay, List.range_succ (n := t), List.map_append]; rfl
    · rintro l news h tk ⟨rfl, lay, e1, bv, e2, rfl, hbv, hlay⟩ wd
      rw [bagAt_end] at hbv
      cases hbv
      repeat walk_at "m"
      refine n_tupW wd (by simp) fun R h₂ _ _ wd => ?_
      exact hq R Ly B lay e1 e2 h₂ _ wd.kept (wd.newIn (List.Sublist.cons_cons _ (List.Sublist.cons_cons _ (List.Sublist.cons _ (List.Sublist.cons_cons _ (List.sublist_append_right _ _)))))) hlay
end
section
theorem range_all {n : Nat} {p : Nat → Bool} (h : (List.range n).all p = true) {i : Nat} (hi : i < n) : p i = true := List.all_eq_true.mp h i (List.mem_range.mpr hi)
theorem fm_row_all : (List.range 512).all (fun f => fmC (32768 ||| f) == rowC f) = true := by decide +kernel
theorem fm_row {f : Nat} (h : f < 512) : fmC (32768 ||| f) = rowC f := beq_iff_eq.mp (range_all fm_row_all h)
theorem filesOf_lt (ns : List Int) : ∀ f ∈ filesOf ns, f < 512 := by
  intro f hf
  unfold filesOf at hf
  rcases List.mem_append.mp hf with h | h
  · obtain ⟨x, _, rfl⟩ := List.mem_map.mp h
    have h1 := Int.fmod_lt_of_pos x (show (0 : Int) < 512 by decide)
    have h0 := Int.fmod_nonneg_of_pos x (show (0 : Int) < 512 by decide)
    omega
  · simp at h; omega
theorem filesOf_len (ns : List Int) : 2 ≤ (filesOf ns).length ∧ (filesOf ns).length ≤ 6 := by
  unfold filesOf
  simp
  omega
theorem rowC_len (b : Nat) : (rowC b).length = 10 := by simp [rowC]
theorem rowC_get (b : Nat) {p : Nat} (hp : p < 10) : (rowC b).getD p 0 = if p = 0 then 45 else if b.testBit (9 - p) then sg0 p else 45 := by
  unfold rowC
  cases p with
  | zero => rfl
  | succ p =>
    rw [List.getD_eq_getElem?_getD, List.getElem?_cons_succ, List.getElem?_map, List.getElem?_range (by omega)]
    have e : 9 - (p + 1) = 8 - p := by omega
    have es : sg p = sg0 (p + 1) := by
      have : ∀ q, q < 9 → sg q = sg0 (q + 1) := by decide
      exact this p (by omega)
    simp [e, es]
theorem sg0_ne {p : Nat} (hp : p < 10) (h0 : p ≠ 0) : sg0 p ≠ 45 := by
  have : ∀ q, q < 10 → q ≠ 0 → sg0 q ≠ 45 := by decide
  exact this p hp h0
theorem rowC_sg (b : Nat) {p : Nat} (hp : p < 10) : (rowC b).getD p 0 = 45 ∨ (rowC b).getD p 0 = sg0 p := by
  rw [rowC_get b hp]
  by_cases h : p = 0
  · simp [h]
  · rw [if_neg h]
    by_cases hb : b.testBit (9 - p) = true
    · rw [if_pos hb]; exact .inr rfl
    · rw [if_neg hb]; exact .inl rfl
theorem rowC_bit (b : Nat) {p : Nat} (hp : p < 10) : ((rowC b).getD p 0 != 45) = (decide (p ≠ 0) && b.testBit (9 - p)) := by
  rw [rowC_get b hp]
  by_cases h : p = 0
  · simp [h]
  · rw [if_neg h]
    cases hb : b.testBit (9 - p)
    · simp
    · simp [h, sg0_ne hp h]
theorem lay_row (fs : List Nat) (i : Nat) : (List.range 10).map (layC (fs.map rowC) (i + 1)) = rowC (hl fs (i + 1) 9) := by
  apply List.ext_getElem
  · simp [rowC_len]
  · intro p h1 h2
    have hp : p < 10 := by simpa using h1
    have e2 : (rowC (hl fs (i + 1) 9))[p] = (rowC (hl fs (i + 1) 9)).getD p 0 := by
      rw [List.getD_eq_getElem?_getD, List.getElem?_eq_getElem h2]; rfl
    refine Eq.trans ?_ e2.symm
    rw [rowC_get _ hp, List.getElem_map, List.getElem_range]
    unfold layC
    rw [List.countP_map]
    have e3 : fs.countP ((fun r : List Nat => r.getD p 0 != 45) ∘ rowC) = fs.countP (fun b => decide (p ≠ 0) && b.testBit (9 - p)) :=
      List.countP_congr fun b _ => by
        show ((rowC b).getD p 0 != 45) = true ↔ _
        rw [rowC_bit b hp]
    rw [e3]
    by_cases h : p = 0
    · subst h
      simp
    · rw [if_neg h, hl_bit]
      have : decide (9 - p < 9) = true := by simp; omega
      rw [this]
      simp [h]
theorem rows_len (fs : List Nat) : ∀ r ∈ fs.map rowC, r.length = 10 := by
  intro r hr; obtain ⟨b, _, rfl⟩ := List.mem_map.mp hr; exact rowC_len b
theorem rows_sg (fs : List Nat) : ∀ r ∈ fs.map rowC, ∀ p, p < 10 → r.getD p 0 = 45 ∨ r.getD p 0 = sg0 p := by
  intro r hr p hp; obtain ⟨b, _, rfl⟩ := List.mem_map.mp hr; exact rowC_sg b hp
end
section
def IsFn (K : Frag) (f : Addr) (qual : Str) (body : List Stmt) (scope : Scope) : Prop := ∃ oc od osl name params dV kV doc pm an cdv ct, K.lookup f = some ⟨oc, od, .func (fnOf name qual params body scope dV kV doc pm an cdv ct), osl⟩
theorem isFn_of {K : Frag} {f : Addr} {oc od osl name params dV kV doc pm an cdv ct qual body scope} (ho : K.lookup f = some ⟨oc, od, .func (fnOf name qual params body scope dV kV doc pm an cdv ct), osl⟩) : IsFn K f qual body scope := ⟨_, _, _, _, _, _, _, _, _, _, _, _, ho⟩
theorem IsFn.same {K : Frag} {f : Addr} {q q' : Str} {b b' : List Stmt} {s s' : Scope} (x : IsFn K f q b s) (y : IsFn K f q' b' s') : q = q' ∧ b = b' ∧ s = s' := by
  obtain ⟨_, _, _, _, _, _, _, _, _, _, _, _, hx⟩ := x
  obtain ⟨_, _, _, _, _, _, _, _, _, _, _, _, hy⟩ := y
  rw [hx] at hy
  have := Option.some.inj hy
  injection this with _ _ h3 _
  injection h3 with h4
  injection h4 with _ h5 _ h6 h7 h8
  injection h6 with h6
  exact ⟨h5, h6, h7⟩
theorem NewIn.cat {h h1 h2 : Heap} {o1 o2 : List (Addr × Obj)} (k2 : Kept h1 h2) (k1 : Kept h h1) (x : NewIn h h1 o1) (y : NewIn h1 h2 o2) : NewIn h h2 (o2 ++ o1) := by
  have key : ∀ p ∈ o2, h.get? p.1 = none := fun p hp => by
    cases e : h.get? p.1 with
    | none => rfl
    | some o => have := k1 _ _ e; rw [(y.1 p hp).1] at this; cases this
  refine ⟨fun p hp => ?_, ?_⟩
  · rcases List.mem_append.mp hp with hp | hp
    · exact ⟨key p hp, (y.1 p hp).2⟩
    · exact ⟨(x.1 p hp).1, k2 _ _ (x.1 p hp).2⟩
  · rw [List.map_append]
    refine List.nodup_append.mpr ⟨y.2, x.2, fun a ha b hb hab => ?_⟩
    obtain ⟨p, hp, rfl⟩ := List.mem_map.mp ha
    obtain ⟨q, hq, rfl⟩ := List.mem_map.mp hb
    have h1 := (y.1 p hp).1
    rw [hab, (x.1 q hq).2] at h1
    cases h1
section
variable {prog : Program} {w : World} {A : Around} {g : Shared} {h : Heap} {tk k : Nat}
theorem strs_eqAt {A : Around} {s : Shared} {vs us : List Value} {ys : List Str} (hv : StrsAre vs ys) (hu : StrsAre us ys) : ∀ j (h1 : j < vs.toArray.size) (h2 : j < us.toArray.size), SeqAt.EqAt A s vs.toArray[j] us.toArray[j] true := by
  intro j h1 h2
  obtain ⟨y, t, e1, e2⟩ := StrsAre.get hv (i := j) (v := vs.toArray[j]) (by rw [List.size_toArray] at h1; simp [h1])
  obtain ⟨z, u, e3, e4⟩ := StrsAre.get hu (i := j) (v := us.toArray[j]) (by rw [List.size_toArray] at h2; simp [h2])
  rw [e1] at e3
  cases e3
  rw [e2, e4]
  have := (eqGives_str y y t u).at A s
  rwa [beq_self_eq_true] at this
theorem c_eqStrs {a b : Addr} {vs us : List Value} {n m : Nat} {ys : List Str} {Q : Value → Shared → Prop} (rm : Room A k) (ha : h.get? a = some (lO vs n)) (hb : h.get? b = some (lO us m)) (hv : StrsAre vs ys) (hu : StrsAre us ys)
    (hq : Q (.bool true) (At g h tk)) : wpAny (model prog w) A (compareOp .Eq (.ref a) (.ref b)) Q NoE (At g h tk) := by
  refine SeqAt.eq_listAt (s := At g h tk) (items := vs.toArray) (items2 := us.toArray) (e := fun _ => true) ⟨_, ha, rfl, n, rfl⟩ ⟨_, hb, rfl, m, rfl⟩ (by simp [StrsAre.len hv, StrsAre.len hu]) rm.units (strs_eqAt hv hu) ?_
  rw [show ((List.range vs.toArray.size).all fun _ => true) = true by simp]
  exact hq
theorem eq_empty {A : Around} {s : Shared} {a b : Addr} {n m : Nat} (hu : A.units < cLine) (ha : s.heap.get? a = some (lO [] n)) (hb : s.heap.get? b = some (lO [] m)) : SeqAt.EqAt A s (.ref a) (.ref b) true := by
  by_cases hne : a = b
  · subst hne; exact SeqAt.EqAt.same _
  · exact SeqAt.EqAt.of_refs hne (SeqAt.RcAt.lists (items := #[]) (items2 := #[]) (e := fun _ => true) ⟨_, ha, rfl, n, rfl⟩ ⟨_, hb, rfl, m, rfl⟩ rfl hu (fun j h1 _ => by simp at h1))
theorem eq_two {A : Around} {s : Shared} {a b : Addr} {x y x' y' : Value} {n m : Nat} (hu : A.units < cLine) (ha : s.heap.get? a = some (tO [x, y] n)) (hb : s.heap.get? b = some (tO [x', y'] m)) (h1 : SeqAt.EqAt A.in1 s x x' true) (h2 : SeqAt.EqAt A.in1 s y y' true) :
    SeqAt.RcAt A s (.ref a) (.ref b) true := by
  have key := SeqAt.RcAt.tuples (A := A) (s := s) (items := #[x, y]) (items2 := #[x', y']) (e := fun _ => true) (l := a) (b := b) ⟨_, ha, rfl, n, rfl⟩ ⟨_, hb, rfl, m, rfl⟩ hu (fun j j1 j2 => by
    have hj : j = 0 ∨ j = 1 := by simp at j1; omega
    rcases hj with rfl | rfl
    · exact h1
    · exact h2)
  exact key
theorem eq_two' {A : Around} {s : Shared} {a b : Addr} {x y x' y' : Value} {n m : Nat} (hu : A.units < cLine) (ha : s.heap.get? a = some (tO [x, y] n)) (hb : s.heap.get? b = some (tO [x', y'] m)) (h1 : SeqAt.EqAt A.in1 s x x' true) (h2 : SeqAt.EqAt A.in1 s y y' true) :
    SeqAt.EqAt A s (.ref a) (.ref b) true := by
  by_cases hne : a = b
  · subst hne; exact SeqAt.EqAt.same _
  · exact SeqAt.EqAt.of_refs hne (eq_two hu ha hb h1 h2)
theorem lay_at {lay : List Lay} {h : Heap} (hl : ∀ q ∈ lay.flatMap layO, h.get? q.1 = some q.2) {x : Lay} (hx : x ∈ lay) : h.get? x.1 = some (tO [.str x.2.1 x.2.2.1, .ref x.2.2.2] 0) ∧ h.get? x.2.2.2 = some (lO [] 0) :=
  ⟨hl (x.1, tO [.str x.2.1 x.2.2.1, .ref x.2.2.2] 0) (List.mem_flatMap.mpr ⟨x, hx, .head _⟩), hl (x.2.2.2, lO [] 0) (List.mem_flatMap.mpr ⟨x, hx, .tail _ (.head _)⟩)⟩
theorem eq_lays {A : Around} {s : Shared} {a b : Addr} {lay lay' : List Lay} {n m : Nat} (hu : A.units + 5 < cLine) (ha : s.heap.get? a = some (lO (lay.map fun x => .ref x.1) n)) (hb : s.heap.get? b = some (lO (lay'.map fun x => .ref x.1) m))
    (hl : ∀ q ∈ lay.flatMap layO, s.heap.get? q.1 = some q.2) (hl' : ∀ q ∈ lay'.flatMap layO, s.heap.get? q.1 = some q.2) (he : lay.map (·.2.1) = lay'.map (·.2.1)) : SeqAt.EqAt A s (.ref a) (.ref b) true := by
  by_cases hne : a = b
  · subst hne; exact SeqAt.EqAt.same _
  have hlen : lay.length = lay'.length := by simpa using congrArg List.length he
  have key := SeqAt.RcAt.lists (A := A) (s := s) (l := a) (b := b) (items := (lay.map fun x => Value.ref x.1).toArray) (items2 := (lay'.map fun x => Value.ref x.1).toArray) (e := fun _ => true) ⟨_, ha, rfl, n, rfl⟩ ⟨_, hb, rfl, m, rfl⟩ (by simp [hlen]) (by omega) (fun j j1 j2 => by
    have i1 : j < lay.length := by simpa using j1
    have i2 : j < lay'.length := by simpa using j2
    have e1 : (lay.map fun x => Value.ref x.1).toArray[j] = .ref lay[j].1 := by simp
    have e2 : (lay'.map fun x => Value.ref x.1).toArray[j] = .ref lay'[j].1 := by simp
    have es : lay[j].2.1 = lay'[j].2.1 := by
      have := congrArg (fun l : List Str => l[j]?) he
      simpa [i1, i2] using this
    rw [e1, e2]
    have p1 := lay_at hl (List.getElem_mem i1)
    have p2 := lay_at hl' (List.getElem_mem i2)
    refine eq_two' (by show A.units + 1 < cLine; omega) p1.1 p2.1 ?_ (eq_empty (by show A.units + 1 + 1 < cLine; omega) p1.2 p2.2)
    rw [es]
    have := (eqGives_str lay'[j].2.1 lay'[j].2.1 lay[j].2.2.1 lay'[j].2.2.1).at A.in1.in1 s
    rwa [beq_self_eq_true] at this)
  rw [show ((List.range (lay.map fun x => Value.ref x.1).toArray.size).all fun _ => true) = true by simp] at key
  exact SeqAt.EqAt.of_refs hne key
theorem c_eqBag {R Ly B R' Ly' B' : Addr} {lay lay' : List Lay} {e1 e2 e1' e2' : Nat} {Q : Value → Shared → Prop} (rm : Room A k) (hR : h.get? R = some (tO [.ref Ly, .ref B] 0)) (hLy : h.get? Ly = some (lO (lay.map fun x => .ref x.1) e1)) (hB : h.get? B = some (lO [] e2)) (hl : ∀ q ∈ lay.flatMap layO, h.get? q.1 = some q.2)
    (hR' : h.get? R' = some (tO [.ref Ly', .ref B'] 0)) (hLy' : h.get? Ly' = some (lO (lay'.map fun x => .ref x.1) e1')) (hB' : h.get? B' = some (lO [] e2')) (hl' : ∀ q ∈ lay'.flatMap layO, h.get? q.1 = some q.2)
    (he : lay.map (·.2.1) = lay'.map (·.2.1)) (hq : Q (.bool true) (At g h tk)) : wpAny (model prog w) A (compareOp .Eq (.ref R) (.ref R')) Q NoE (At g h tk) := by
  have hu := rm.hu
  exact eq_two (s := At g h tk) (A := A) rm.units hR hR' (eq_lays (by show A.units + 1 + 5 < cLine; omega) hLy hLy' hl hl' he) (eq_empty (by show A.units + 1 < cLine; omega) hB hB') prog w NoE Q hq
theorem r_and {e₁ e₂ : Expr} {rest : List Expr} {pos : Pos} {env : Env} {Q : Value → Shared → Prop}
    (hq : wpAny (model prog w) A (eval e₁ env) (fun v s₁ => wpAny (model prog w) A (truthy v) (fun c s₂ => if c then wpAny (model prog w) A (eval (.BoolOp .And (e₂ :: rest) pos) env) Q NoE s₂ else Q v s₂) NoE s₁) NoE (At g h tk)) :
    wpAny (model prog w) A (eval (.BoolOp .And (e₁ :: e₂ :: rest) pos) env) Q NoE (At g h tk) := PyProof.Rows.BoolOp_and hq
end
theorem cr_lays {P : Nat → Value → Prop} (f : Nat → Str) {i : Nat} {res : List (Value × List (Addr × Obj))} (cr : CR P (fun _ _ => true) (fun i _ y own => ∃ d t e, y = .ref d ∧ own = layO (d, f i, t, e)) i res) :
    ∃ lay : List Lay, res.map (·.1) = lay.map (fun x => .ref x.1) ∧ res.flatMap (·.2) = lay.flatMap layO ∧ lay.map (·.2.1) = (List.range i).map f := by
  induction cr with
  | zero => exact ⟨[], rfl, rfl, rfl⟩
  | skip _ _ hq => cases hq
  | @take i0 _ _ _ _ _ _ _ hG ih =>
    obtain ⟨d, t, e, rfl, rfl⟩ := hG
    obtain ⟨lay, i1, i2, i3⟩ := ih
    refine ⟨lay ++ [(d, f i0, t, e)], ?_, ?_, ?_⟩
    · rw [List.map_append, List.map_append, i1]; rfl
    · rw [List.flatMap_append, List.flatMap_append, i2]; simp
    · rw [List.map_append, List.range_succ, List.map_append, i3]; rfl
end
section
theorem law_go {w : World} {A : Around} {g : Shared} {h0 h₁ : Heap} {tk k : Nat} {Q : Flow → Shared → Prop} (bs : Bs (KK w) h0) (rm : Room A (k + 2)) {a : Addr} {vs : List Value} {ns : List Int} (hL : h0.IsList a vs.toArray) (hI : IntsAre vs ns) (hz : vs.length < 1000)
    {L f : Addr} {cdv : Value} {oF : Obj} {u : Option Value} (wd : Wd h0 L [(Str.ofString "script", .ref a)] [(L + 1, oF)] h₁) (hoF : oF.data = .cell u)
    {qual : Str} {body : List Stmt} {scope : Scope} (hf : IsFn (KK w) 126 qual body scope) (hq : ∀ h' tk' m, Fr h0 L h' m → Q (.ret (.bool true)) (At g h' tk')) :
    wpAny (model PySem.Challenge.rw_oc0086_01.row.prog w) A (execs body (envX qual scope L f cdv (cellsFrom (L + 1) scope.names []))) Q NoE (At g h₁ tk) := by
  have e := IsFn.same (isFn_of (by walk_at "rf")) hf
  obtain ⟨rfl, rfl, rfl⟩ := e
  clear hf
  have hlt := filesOf_lt ns
  have hln := filesOf_len ns
  generalize hfs : filesOf ns = fs at hlt hln
  have hrl : (fs.map rowC).length = fs.length := List.length_map _
  -- files
  repeat walk_at "m"
  refine r_glob (bs.keep wd.kept) (by walk_at "rf") (by walk_at "rf") (by walk_at "rf") (g_files w) (by decide) ?_
  refine m_fn (bs.keep wd.kept) (k_files w) (by walk_at "rf") (by walk_at "rf") ?_
  repeat walk_at "m"
  refine ⟨(bs.keep wd.kept).k, ?_⟩
  refine files_call (bs.keep wd.kept) rm (by obtain ⟨o, e, r⟩ := hL; exact ⟨o, wd.old e, r⟩) hI hz fun d fv ef h₂ tk₂ hk hn hfv => ?_
  rw [hfs] at hfv
  replace wd : Wd h0 L [(Str.ofString "script", .ref a)] [(d, lO fv ef), (L + 1, oF)] h₂ := wd.more hk hn
  clear hk hn
  have hfl : fv.length = fs.length := hfv.len
  refine st_cell 1 wd rfl hoF (by walk_at "rf") (by walk_at "rf") (by walk_at "rf") fun h₃ tk₃ oF hoF wd => ?_
  replace wd : Wd h0 L [(Str.ofString "script", .ref a)] [(d, lO fv ef), (L + 1, oF)] h₃ := wd
  -- listing
  refine s_comp wd (by walk_at "rf") (by walk_at "rf") (by decide) (by walk_at "rf") (by decide) (by walk_at "rf") (by walk_at "rf") (by walk_at "rf") (by intro _; walk_at "rf") ?_
  refine r_cell (wd.geti 1 rfl) hoF (by walk_at "rf") (by walk_at "rf") (by walk_at "rf") (by decide) ?_
  refine f_listIter (wd.geti 0 rfl) wd fun I o h₄ _ wd hit => ?_
  refine compAtL rm (wd.geti 1 rfl) wd hit (by omega) (fun _ _ => true) (fun j _ y own => own = [] ∧ ∃ t, y = .str (mkS (rowC (fs.getD j 0))) t) ?_ ?_ ?_
  · intro C j v h₆ tk₆ hj wdC
    exact wpAny_tests_nil ⟨rfl, _, _, rfl, fun _ _ e => e⟩
  · intro C j v h₆ tk₆ hj _ wdC
    obtain ⟨n, tn, hnj, rfl⟩ := hfv.get hj
    have bsI := bs.keep wd.hid0
    have hgd : fs.getD j 0 = n := by rw [List.getD_eq_getElem?_getD, hnj]; rfl
    have hn5 := hlt n (List.mem_of_getElem? hnj)
    repeat walk_at "m"
    refine r_glob (bsI.keep wdC.kept) (by walk_at "rf") (by walk_at "rf") (by walk_at "rf") (g_fmode w) (by decide) ?_
    refine m_fn (bsI.keep wdC.kept) (k_fmode w) (by walk_at "rf") (by walk_at "rf") ?_
    repeat walk_at "m"
    refine r_glob (bsI.keep wdC.kept) (by walk_at "rf") (by walk_at "rf") (by walk_at "rf") (g_IFREG w) (by decide) ?_
    repeat walk_at "m"
    refine ⟨(bsI.keep wdC.kept).k, ?_⟩
    rw [show Builtin.bitOr 32768 (n : Int) = ((32768 ||| n : Nat) : Int) from or_nat 32768 n]
    refine fmode_call (bsI.keep wdC.kept) rm _ _ fun t' h' tk' hk => ?_
    exact ⟨[], _, _, rfl, hk, NewIn.nil, rfl, t', by rw [fm_row hn5, hgd]⟩
  intro D _ _ res eL cr _ h₅ tk₅ wd
  obtain ⟨hls, hlo⟩ := cr_strs (fun j => mkS (rowC (fs.getD j 0))) cr
  rw [hlo] at wd
  replace wd : Wd h0 L [(Str.ofString "listing", .ref D), (Str.ofString "script", .ref a)] [(D, lO (res.map (·.1)) eL), (d, lO fv ef), (L + 1, oF)] h₅ := wd
  rw [hfl, range_getD fs 0 (fun x => mkS (rowC x))] at hls
  generalize res.map (·.1) = lv at wd hls
  replace hls : StrsAre lv ((fs.map rowC).map mkS) := by rw [List.map_map]; exact hls
  clear cr hlo
  -- due
  refine s_comp wd (by walk_at "rf") (by walk_at "rf") (by decide) (by walk_at "rf") (by decide) (by walk_at "rf") (by walk_at "rf") (by walk_at "rf") (by intro _; walk_at "rf") ?_
  repeat walk_at "m"
  refine r_cell (wd.geti 2 rfl) hoF (by walk_at "rf") (by walk_at "rf") (by walk_at "rf") (by decide) ?_
  repeat walk_at "m"
  refine f_len (wd.geti 1 rfl) (by omega) fun t1 _ => ?_
  repeat walk_at "m"
  refine f_range2 wd fun r h₆ tk₆ t₁ u₁ v₁ hr' _ wd => ?_
  refine f_rangeIt fs.length wd hr' (by decide) (by decide) (by omega) (by omega) (.inl rfl) (by unfold Builtin.Range.rangeSize; rw [hfl]; simp; omega) fun I o h₇ _ wd hit => ?_
  refine compAtR rm wd hit (by omega) (fun _ _ => true) (fun j _ y own => own = [] ∧ ∃ t, y = .str (mkS (rowC (hl fs (j + 1) 9))) t) ?_ ?_ ?_
  · intro C j t h₆ tk₆ hj wdC
    exact wpAny_tests_nil ⟨rfl, _, _, rfl, fun _ _ e => e⟩
  · intro C j t h₆ tk₆ hj _ wdC
    have bsI := bs.keep wd.hid0
    have e3 : (1 + (j : Int) * 1) = ((j + 1 : Nat) : Int) := by omega
    rw [e3] at wdC
    repeat walk_at "m"
    refine r_glob (bsI.keep wdC.kept) (by walk_at "rf") (by walk_at "rf") (by walk_at "rf") (g_row w) (by decide) ?_
    refine m_fn (bsI.keep wdC.kept) (k_row w) (by walk_at "rf") (by walk_at "rf") ?_
    repeat walk_at "m"
    refine r_glob (bsI.keep wdC.kept) (by walk_at "rf") (by walk_at "rf") (by walk_at "rf") (g_held w) (by decide) ?_
    refine m_fn (bsI.keep wdC.kept) (k_held w) (by walk_at "rf") (by walk_at "rf") ?_
    repeat walk_at "m"
    refine r_cell (wdC.old (wd.hid (.tail _ (.tail _ (.head _))))) hoF (by walk_at "rf") (by walk_at "rf") (by walk_at "rf") (by decide) ?_
    repeat walk_at "m"
    refine ⟨(bsI.keep wdC.kept).k, ?_⟩
    refine held_call (bsI.keep wdC.kept) rm (wdC.old (wd.hid (.tail _ (.head _)))) hfv (by omega) (j + 1) _ fun t' h' tk' hk => ?_
    have wdD := wdC.keep hk
    repeat walk_at "m"
    refine ⟨(bsI.keep wdD.kept).k, ?_⟩
    refine row_call (bsI.keep wdD.kept) rm _ _ fun t2 h2 tk2 hk2 => ?_
    exact ⟨[], _, _, rfl, fun b o e => hk2 b o (hk b o e), NewIn.nil, rfl, t2, rfl⟩
  intro U _ _ res eU cr _ h₈ tk₈ wd
  obtain ⟨hdu, hlo⟩ := cr_strs (fun j => mkS (rowC (hl fs (j + 1) 9))) cr
  rw [hlo] at wd
  replace wd : Wd h0 L [(Str.ofString "due", .ref U), (Str.ofString "listing", .ref D), (Str.ofString "script", .ref a)] [(U, lO (res.map (·.1)) eU), (D, lO lv eL), (d, lO fv ef), (L + 1, oF)] h₈ := wd
  generalize res.map (·.1) = uv at wd hdu
  clear cr hlo
  -- by_cuts
  repeat walk_at "m"
  refine r_glob (bs.keep wd.kept) (by walk_at "rf") (by walk_at "rf") (by walk_at "rf") (g_cuts w) (by decide) ?_
  refine m_fn (bs.keep wd.kept) (k_cuts w) (by walk_at "rf") (by walk_at "rf") ?_
  repeat walk_at "m"
  refine ⟨(bs.keep wd.kept).k, ?_⟩
  refine cuts_call (bs.keep wd.kept) rm (wd.geti 1 rfl) hls (rows_len fs) (by omega) (by omega) fun T cv eC h₉ tk₉ hk hn hcv => ?_
  rw [hrl] at hcv
  simp only [lay_row] at hcv
  replace wd : Wd h0 L [(Str.ofString "due", .ref U), (Str.ofString "listing", .ref D), (Str.ofString "script", .ref a)] [(T, lO cv eC), (U, lO uv eU), (D, lO lv eL), (d, lO fv ef), (L + 1, oF)] h₉ := wd.more hk hn
  clear hk hn
  walk_at "m"
  rename Wd _ _ _ _ _ => wd
  rename Heap => h₉
  -- by_masks
  refine s_comp wd (by walk_at "rf") (by walk_at "rf") (by decide) (by walk_at "rf") (by decide) (by walk_at "rf") (by walk_at "rf") (by walk_at "rf") (by intro _; walk_at "rf") ?_
  repeat walk_at "m"
  refine r_glob (bs.keep wd.kept) (by walk_at "rf") (by walk_at "rf") (by walk_at "rf") (g_common w) (by decide) ?_
  refine m_fn (bs.keep wd.kept) (k_common w) (by walk_at "rf") (by walk_at "rf") ?_
  repeat walk_at "m"
  refine r_cell (wd.geti 4 rfl) hoF (by walk_at "rf") (by walk_at "rf") (by walk_at "rf") (by decide) ?_
  repeat walk_at "m"
  refine ⟨(bs.keep wd.kept).k, ?_⟩
  refine common_call (bs.keep wd.kept) rm (wd.geti 3 rfl) hfv (by omega) fun M mv eM h₁₀ tk₁₀ hk hn hmv => ?_
  have hml : mv.length = fs.length := by rw [hmv.len]; simp
  replace wd : Wd h0 L [(Str.ofString "by_cuts", .ref T), (Str.ofString "due", .ref U), (Str.ofString "listing", .ref D), (Str.ofString "script", .ref a)] [(M, lO mv eM), (T, lO cv eC), (U, lO uv eU), (D, lO lv eL), (d, lO fv ef), (L + 1, oF)] h₁₀ := wd.more hk hn
  clear hk hn
  refine f_listIter (wd.geti 0 rfl) wd fun I o h₁₁ _ wd hit => ?_
  refine compAtL rm (wd.geti 1 rfl) wd hit (by omega) (fun _ _ => true) (fun j _ y own => own = [] ∧ ∃ t, y = .str (mkS (rowC (hl fs (j + 1) 9))) t) ?_ ?_ ?_
  · intro C j v h₆ tk₆ hj wdC
    exact wpAny_tests_nil ⟨rfl, _, _, rfl, fun _ _ e => e⟩
  · intro C j v h₆ tk₆ hj _ wdC
    obtain ⟨n, tn, hnj, rfl⟩ := hmv.get hj
    have bsI := bs.keep wd.hid0
    have hjl : j < fs.length := by have := (List.getElem?_eq_some_iff.mp hj).1; omega
    rw [List.getElem?_map, List.getElem?_range hjl] at hnj
    cases hnj
    have hn5 : hl fs (j + 1) 9 < 512 := hl_lt fs (j + 1) 9
    repeat walk_at "m"
    refine r_glob (bsI.keep wdC.kept) (by walk_at "rf") (by walk_at "rf") (by walk_at "rf") (g_fmode w) (by decide) ?_
    refine m_fn (bsI.keep wdC.kept) (k_fmode w) (by walk_at "rf") (by walk_at "rf") ?_
    repeat walk_at "m"
    refine r_glob (bsI.keep wdC.kept) (by walk_at "rf") (by walk_at "rf") (by walk_at "rf") (g_IFREG w) (by decide) ?_
    repeat walk_at "m"
    refine ⟨(bsI.keep wdC.kept).k, ?_⟩
    rw [show Builtin.bitOr 32768 ((hl fs (j + 1) 9 : Nat) : Int) = ((32768 ||| hl fs (j + 1) 9 : Nat) : Int) from or_nat 32768 _]
    refine fmode_call (bsI.keep wdC.kept) rm _ _ fun t' h' tk' hk => ?_
    exact ⟨[], _, _, rfl, hk, NewIn.nil, rfl, t', by rw [fm_row hn5]⟩
  intro N _ _ res eN cr _ h₁₂ tk₁₂ wd
  obtain ⟨hnv, hlo⟩ := cr_strs (fun j => mkS (rowC (hl fs (j + 1) 9))) cr
  rw [hlo] at wd
  replace wd : Wd h0 L [(Str.ofString "by_masks", .ref N), (Str.ofString "by_cuts", .ref T), (Str.ofString "due", .ref U), (Str.ofString "listing", .ref D), (Str.ofString "script", .ref a)] [(N, lO (res.map (·.1)) eN), (M, lO mv eM), (T, lO cv eC), (U, lO uv eU), (D, lO lv eL), (d, lO fv ef), (L + 1, oF)] h₁₂ := wd
  rw [hml] at hnv
  generalize res.map (·.1) = nv at wd hnv
  clear cr hlo
  -- by_bag
  repeat walk_at "m"
  refine r_glob (bs.keep wd.kept) (by walk_at "rf") (by walk_at "rf") (by walk_at "rf") (g_bag w) (by decide) ?_
  refine m_fn (bs.keep wd.kept) (k_bag w) (by walk_at "rf") (by walk_at "rf") ?_
  repeat walk_at "m"
  refine ⟨(bs.keep wd.kept).k, ?_⟩
  refine bag_call (bs.keep wd.kept) rm (wd.geti 4 rfl) hls (rows_len fs) (rows_sg fs) (by omega) fun R Ly B lay e1 e2 h₁₃ tk₁₃ hk hn hlay => ?_
  rw [hrl] at hlay
  simp only [lay_row] at hlay
  have wd' := wd.more hk hn
  replace wd : Wd h0 L [(Str.ofString "by_masks", .ref N), (Str.ofString "by_cuts", .ref T), (Str.ofString "due", .ref U), (Str.ofString "listing", .ref D), (Str.ofString "script", .ref a)] ([(R, tO [.ref Ly, .ref B] 0), (Ly, lO (lay.map fun x => .ref x.1) e1), (B, lO [] e2), (N, lO nv eN), (M, lO mv eM), (T, lO cv eC), (U, lO uv eU), (D, lO lv eL), (d, lO fv ef), (L + 1, oF)] ++ lay.flatMap layO) h₁₃ := wd'.perm (by
    show List.Perm ([(R, tO [.ref Ly, .ref B] 0), (Ly, lO (lay.map fun x => .ref x.1) e1), (B, lO [] e2)] ++ ([(N, lO nv eN), (M, lO mv eM), (T, lO cv eC), (U, lO uv eU), (D, lO lv eL), (d, lO fv ef), (L + 1, oF)] ++ lay.flatMap layO)) ([(R, tO [.ref Ly, .ref B] 0), (Ly, lO (lay.map fun x => .ref x.1) e1), (B, lO [] e2)] ++ (lay.flatMap layO ++ [(N, lO nv eN), (M, lO mv eM), (T, lO cv eC), (U, lO uv eU), (D, lO lv eL), (d, lO fv ef), (L + 1, oF)]))
    exact List.perm_append_comm.append_left _)
  clear wd' hk hn
  walk_at "m"
  rename Wd _ _ _ _ _ => wd
  rename Heap => h₁₃
  -- the answer
  walk_at "m"
  refine r_and ?_
  repeat walk_at "m"
  refine r_comp wd (by walk_at "rf") (by decide) (by walk_at "rf") (by decide) (by walk_at "rf") (by intro _; walk_at "rf") ?_
  refine r_cell (wd.geti 9 rfl) hoF (by walk_at "rf") (by walk_at "rf") (by walk_at "rf") (by decide) ?_
  refine f_listIter (wd.geti 8 rfl) wd fun I o h₁₄ _ wd hit => ?_
  refine compAtL rm (wd.geti 9 rfl) wd hit (by omega) (fun _ _ => true) (fun j _ y own => own = [] ∧ ∃ t, y = .str (mkS (rowC (fs.getD j 0))) t) ?_ ?_ ?_
  · intro C j v h₆ tk₆ hj wdC
    exact wpAny_tests_nil ⟨rfl, _, _, rfl, fun _ _ e => e⟩
  · intro C j v h₆ tk₆ hj _ wdC
    obtain ⟨n, tn, hnj, rfl⟩ := hfv.get hj
    have bsI := bs.keep wd.hid0
    have hgd : fs.getD j 0 = n := by rw [List.getD_eq_getElem?_getD, hnj]; rfl
    repeat walk_at "m"
    refine r_glob (bsI.keep wdC.kept) (by walk_at "rf") (by walk_at "rf") (by walk_at "rf") (g_row w) (by decide) ?_
    refine m_fn (bsI.keep wdC.kept) (k_row w) (by walk_at "rf") (by walk_at "rf") ?_
    repeat walk_at "m"
    refine ⟨(bsI.keep wdC.kept).k, ?_⟩
    refine row_call (bsI.keep wdC.kept) rm _ _ fun t' h' tk' hk => ?_
    exact ⟨[], _, _, rfl, hk, NewIn.nil, rfl, t', by rw [hgd]⟩
  intro X h₁₅ tk₁₅ res eX cr _ wd
  obtain ⟨hxv, hlo⟩ := cr_strs (fun j => mkS (rowC (fs.getD j 0))) cr
  rw [hlo] at wd
  rw [hfl, range_getD fs 0 (fun x => mkS (rowC x))] at hxv
  generalize res.map (·.1) = xv at wd hxv
  replace hxv : StrsAre xv ((fs.map rowC).map mkS) := by rw [List.map_map]; exact hxv
  clear cr hlo
  refine c_eqStrs rm (wd.geti 8 rfl) (wd.geti 0 rfl) hls hxv ?_
  walk_at "m"
  rw [if_pos rfl]
  refine r_and ?_
  repeat walk_at "m"
  refine c_eqStrs rm (wd.geti 6 rfl) (wd.geti 7 rfl) hcv hdu ?_
  walk_at "m"
  rw [if_pos rfl]
  refine r_and ?_
  repeat walk_at "m"
  refine c_eqStrs rm (wd.geti 4 rfl) (wd.geti 7 rfl) hnv hdu ?_
  walk_at "m"
  rw [if_pos rfl]
  refine PyProof.Rows.BoolOp_one ?_
  repeat walk_at "m"
  refine r_comp wd (by walk_at "rf") (by decide) (by walk_at "rf") (by decide) (by walk_at "rf") (by intro _; walk_at "rf") ?_
  repeat walk_at "m"
  refine f_listIter (wd.geti 7 rfl) wd fun I o h₁₆ _ wd hit => ?_
  have hul : uv.length = fs.length := by rw [StrsAre.len hdu]; simp
  refine compAtL rm (wd.geti 8 rfl) wd hit (by omega) (fun _ _ => true) (fun j _ y own => ∃ d t e, y = .ref d ∧ own = layO (d, mkS (rowC (hl fs (j + 1) 9)), t, e)) ?_ ?_ ?_
  · intro C j v h₆ tk₆ hj wdC
    exact wpAny_tests_nil ⟨rfl, _, _, rfl, fun _ _ e => e⟩
  · intro C j v h₆ tk₆ hj _ wdC
    obtain ⟨y, tn, hnj, rfl⟩ := StrsAre.get hdu hj
    have hjl : j < fs.length := by have := (List.getElem?_eq_some_iff.mp hj).1; omega
    rw [List.getElem?_map, List.getElem?_range hjl] at hnj
    cases hnj
    repeat walk_at "m"
    refine n_listW wdC (by simp) fun E h₁₇ hk1 hn1 wdC => ?_
    repeat walk_at "m"
    refine n_tupW wdC (by simp) fun Z h₁₈ hk2 hn2 wdC => ?_
    exact ⟨_, _, _, rfl, fun b o e => hk2 b o (hk1 b o e), NewIn.cat hk2 hk1 hn1 hn2, Z, tn, E, rfl, rfl⟩
  intro V h₁₉ tk₁₉ res eV cr _ wd
  obtain ⟨lay', hc1, hc2, hc3⟩ := cr_lays (fun j => mkS (rowC (hl fs (j + 1) 9))) cr
  rw [hc1, hc2] at wd
  rw [hul] at hc3
  clear cr hc1 hc2
  repeat walk_at "m"
  refine n_listW wd (by simp) fun B' h₂₀ _ _ wd => ?_
  repeat walk_at "m"
  refine n_tupW wd (by simp) fun R' h₂₁ _ _ wd => ?_
  have up : ∀ {q : Addr × Obj}, q ∈ [(R, tO [.ref Ly, .ref B] 0), (Ly, lO (lay.map fun x => .ref x.1) e1), (B, lO [] e2), (N, lO nv eN), (M, lO mv eM), (T, lO cv eC), (U, lO uv eU), (D, lO lv eL), (d, lO fv ef), (L + 1, oF)] ++ lay.flatMap layO → h₂₁.get? q.1 = some q.2 := fun {q} hm => wd.get (a := q.1) (o := q.2) (.tail _ (.tail _ (.tail _ (List.mem_append_right _ (.tail _ hm)))))
  exact c_eqBag (lay := lay) (lay' := lay') rm (up (q := (R, tO [.ref Ly, .ref B] 0)) (.head _)) (up (q := (Ly, lO (lay.map fun x => .ref x.1) e1)) (.tail _ (.head _))) (up (q := (B, lO [] e2)) (.tail _ (.tail _ (.head _)))) (fun q hm => up (List.mem_append_right _ hm))
    (wd.geti 0 rfl) (wd.geti 2 rfl) (wd.geti 1 rfl) (fun q hm => wd.get (a := q.1) (o := q.2) (.tail _ (.tail _ (.tail _ (List.mem_append_left _ hm))))) (hlay.trans hc3.symm) (let ⟨m, F, _⟩ := wd.fr; hq _ _ m F)
end
section
theorem law_top {w : World} {s₁ : Shared} {p : Program} {loose : List Str} {mean : ExcName → Option Value} {mg mb m : Str → Option Value} {h₁ : Heap} {tk : Nat} {qk : Flow → Shared → Prop} {ek : Value → Shared → Prop}
    {a f : Addr} {vs : List Value} {ns : List Int} {cdv : Value} {oF : Obj} {u : Option Value} {name : Str} {body : List Stmt} {scope : Scope}
    (T : Top p loose mean mg mb s₁.heap) (KX : (KK w).In s₁.heap) (hL : s₁.heap.IsList a vs.toArray) (hI : IntsAre vs ns) (hz : ¬ (63 : Int) < ns.length)
    (F : Fr s₁.heap s₁.heap.objs.size h₁ m) (hm : m (Str.ofString "script") = some (.ref a)) (N : News s₁.heap s₁.heap.objs.size h₁ [(s₁.heap.objs.size + 1, oF)]) (hoF : oF.data = .cell u)
    (hf : IsFn (KK w) 126 name body scope) (hq : ∀ h' tk' m', Fr s₁.heap s₁.heap.objs.size h' m' → qk (.ret (.bool true)) (At s₁ h' tk')) :
    wpAny (model PySem.Challenge.rw_oc0086_01.row.prog w) (callerA.deeper (envOfC name scope s₁.heap.objs.size f cdv)) (execs body (envOfC name scope s₁.heap.objs.size f cdv)) qk ek { heap := h₁, gens := s₁.gens, drawn := s₁.drawn, toks := tk, os := s₁.os } := by
  have hlen : vs.length = ns.length := ints_len hI
  have rm : Room callerA 3 := ⟨rfl, by decide, by decide⟩
  have wd : Wd s₁.heap s₁.heap.objs.size [(Str.ofString "script", .ref a)] [(s₁.heap.objs.size + 1, oF)] h₁ := ⟨⟨m, F, fun x v e => by
    rw [List.lookup_cons] at e
    by_cases hx : x = Str.ofString "script"
    · subst hx; simp at e; rw [hm, e]
    · rw [show (x == Str.ofString "script") = false by simpa using hx] at e; cases e⟩, N, by simp⟩
  exact wpAny_mono (law_go (g := s₁) (f := f) (cdv := cdv) ⟨KX, _, _, _, _, topRead_of T⟩ (rm.deeper _) hL hI (by omega) wd hoF hf hq) (fun _ _ x => x) fun _ _ x => x.elim
set_option maxHeartbeats 8000000
theorem tfinal : PySem.Challenge.rw_oc0086_01.Holds := Mine.hd (by
  k_go0
  (all_goals try k_fold)
  rename Top _ _ _ _ _ _ => T
  rename Frag.In _ _ => KX
  rename IntsAre _ _ => hI
  rename Fr _ _ _ _ => F
  rename News _ _ _ _ => N
  rename Obj.data _ = Data.cell _ => hoF
  rename Heap.IsList _ _ _ => hL
  rename ¬ _ < _ => hz
  rename _ = #[] => hg
  refine law_top T KX hL hI hz F (by walk_at "rf") N hoF (isFn_of (by walk_at "rf")) ?_
  intro h' tk' m' F'
  show GoodW _ _ _ _ _ (.ok (.ret (.bool _))) _
  refine goodW_bool F' hg (raisesW_false ?_) ?_
  · wrow_none_raised
  · wrow_post)
end
end Mine
theorem PySem.Challenge.cw_oc0086_01_holds : PySem.Challenge.rw_oc0086_01.Holds :=
  Mine.tfinal
