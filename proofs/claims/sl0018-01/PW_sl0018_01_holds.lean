import PyProof.Rows.All
import Wide.All
import OpenK.AllK
import Wide.FinOn
import PySem.Challenge.RW_sl0018_01
set_option Elab.async false
set_option maxRecDepth 100000
set_option maxHeartbeats 8000000
set_option autoImplicit false
set_option linter.all false
namespace Mine
theorem maw (h : True := by with_unfolding_all rfl) : True := h
theorem mai (h : True := by intro _; with_unfolding_all rfl) : True := h
theorem mar (h : True := by rfl) : True := h
theorem mad (h : True := by decide) : True := h
end Mine
namespace Mine
open PySem PySem.W PyProof.Rows
open_top hd for PySem.Challenge.rw_sl0018_01
end Mine
namespace Mine
open PySem PySem.Spec PySem.Calls PyProof.Rows PySem.W
noncomputable abbrev KK (w : World) : Frag := Mine.hd.heap_39 w.params
inductive AV where
  | none
  | bool (b : Bool)
  | int (i : Int)
  | float (x : UInt64)
  | str (s : Str)
  | bytes (b : Array UInt8)
  | ref (a : Addr)
  | other (v : Value)
noncomputable def er : Value → AV
  | .none => .none
  | .bool b => .bool b
  | .int i _ => .int i
  | .float x _ => .float x
  | .str s _ => .str s
  | .bytes b _ => .bytes b
  | .ref a => .ref a
  | v => .other v
inductive AF where
  | next
  | brk
  | cont
  | ret (a : AV)
noncomputable def erF : Flow → AF
  | .next => .next
  | .brk => .brk
  | .cont => .cont
  | .ret v => .ret (er v)
theorem er_int {v : Value} {i : Int} (h : er v = .int i) : ∃ t, v = .int i t := by
  cases v <;> simp only [er, AV.int.injEq, reduceCtorEq] at h; subst h; exact ⟨_, rfl⟩
theorem er_float {v : Value} {i : UInt64} (h : er v = .float i) : ∃ t, v = .float i t := by
  cases v <;> simp only [er, AV.float.injEq, reduceCtorEq] at h; subst h; exact ⟨_, rfl⟩
theorem er_str {v : Value} {i : Str} (h : er v = .str i) : ∃ t, v = .str i t := by
  cases v <;> simp only [er, AV.str.injEq, reduceCtorEq] at h; subst h; exact ⟨_, rfl⟩
theorem er_bytes {v : Value} {i : Array UInt8} (h : er v = .bytes i) : ∃ t, v = .bytes i t := by
  cases v <;> simp only [er, AV.bytes.injEq, reduceCtorEq] at h; subst h; exact ⟨_, rfl⟩
theorem er_ref {v : Value} {a : Addr} (h : er v = .ref a) : v = .ref a := by
  cases v <;> simp only [er, AV.ref.injEq, reduceCtorEq] at h; subst h; rfl
theorem er_none {v : Value} (h : er v = .none) : v = .none := by
  cases v <;> simp only [er, reduceCtorEq] at h; rfl
theorem er_bool {v : Value} {b : Bool} (h : er v = .bool b) : v = .bool b := by
  cases v <;> simp only [er, AV.bool.injEq, reduceCtorEq] at h; subst h; rfl
theorem er_other {v u : Value} (h : er v = .other u) : v = u := by
  cases v <;> simp only [er, AV.other.injEq, reduceCtorEq] at h <;> exact h
noncomputable def DE (P : Params) : List DictEntry → List (Str × AV) → Prop
  | [], [] => True
  | e :: r, (x, a) :: q => (∃ t, e.key = .str x t) ∧ e.hash = PyData.keyHash P x ∧ er e.val = a ∧ DE P r q
  | _, _ => False
inductive AO where
  | list (xs : List AV)
  | tuple (xs : List AV)
  | inst (C d : Addr)
  | dict (es : List (Str × AV))
  | cell (v : Option AV)
  | range (a b c : Int)
  | liter (l : Addr) (i : Nat)
  | riter (x left step : Int)
  | raw (o : Obj)
  | code (q : Str)
  | fn (fd : FuncData) (d : Option Addr)
  | meth (f self : Addr)
  | citer (f : Addr) (done : Bool)
noncomputable def AO.holds (P : Params) : AO → Obj → Prop
  | .list xs, o => ∃ (vs : List Value) (n : Nat), o = { cls := .type "list", data := .seq vs.toArray n } ∧ vs.map er = xs
  | .tuple xs, o => ∃ (vs : List Value) (n : Nat), o = { cls := .type "tuple", data := .seq vs.toArray n } ∧ vs.map er = xs
  | .inst C d, o => o = instObj C d
  | .dict es, o => ∃ des n, o = dictOf des n ∧ DE P des es
  | .cell v, o => ∃ v', o.data = .cell v' ∧ v'.map er = v
  | .range a b c, o => ∃ t u v, o = { cls := .type "range", dict := none, data := .fields #[.int a t, .int b u, .int c v], slots := #[] }
  | .liter l i, o => o.cls = .type "list_iterator" ∧ o.data = .fields #[.ref l, .int i 0]
  | .riter x left step, o => o = { cls := .type "range_iterator", dict := none, data := .fields #[rawInt x, rawInt left, rawInt step], slots := #[] }
  | .raw o', o => o = o'
  | .code q, o => ∃ vs t, o.data = .fields vs ∧ vs[1]? = some (.str q t)
  | .fn fd d, o => o.cls = .type "function" ∧ o.data = .func fd ∧ o.dict = d
  | .meth f self, o => o = methodObj (.ref f) (.ref self)
  | .citer f done, o => o.cls = .type "callable_iterator" ∧ ∃ t, o.data = if done then .fields #[.none, .none, .bool true] else .fields #[.ref f, .str (Str.ofString "") t, .bool false]
noncomputable abbrev Led := List (Addr × AO)
noncomputable abbrev Lo := List (Option AV)
noncomputable def look : List (Str × NameKind) → Lo → Str → Option AV
  | n :: ns, v :: vs, x => if x = n.1 then v else look ns vs x
  | _, _, _ => none
noncomputable def find : List (Str × NameKind) → Str → Option (Nat × NameKind)
  | [], _ => none
  | n :: ns, x => if x = n.1 then some (0, n.2) else (find ns x).map fun p => (p.1 + 1, p.2)
theorem find_lookup : ∀ {ns : List (Str × NameKind)} {x : Str} {i : Nat} {k : NameKind}, find ns x = some (i, k) → ns.lookup x = some k
  | n :: ns, x, i, k, h => by
    unfold find at h
    rw [List.lookup_cons]
    by_cases e : x = n.1
    · rw [if_pos e] at h; cases h; simp [e]
    · rw [if_neg e] at h
      have e' : (x == n.1) = false := beq_eq_false_iff_ne.mpr e
      rw [e']
      obtain ⟨p, hp, hq⟩ := Option.map_eq_some_iff.mp h
      cases hq
      exact find_lookup (i := p.1) hp
theorem look_get {ns : List (Str × NameKind)} : ∀ {lo : Lo} {x : Str} {i : Nat} {k : NameKind} {v : Option AV}, find ns x = some (i, k) → lo[i]? = some v → look ns lo x = v := by
  induction ns with
  | nil => intro lo x i k v h; exact nomatch (show none = some (i, k) from h)
  | cons n ns ih =>
    intro lo x i k v h hv
    cases lo with
    | nil => rw [List.getElem?_nil] at hv; cases hv
    | cons u lo =>
      unfold find at h
      unfold look
      by_cases e : x = n.1
      · rw [if_pos e] at h ⊢; cases h; exact Option.some.inj hv
      · rw [if_neg e] at h ⊢
        obtain ⟨p, hp, hq⟩ := Option.map_eq_some_iff.mp h
        cases hq
        exact ih (i := p.1) hp hv
theorem look_set {ns : List (Str × NameKind)} : ∀ {lo : Lo} {x : Str} {i : Nat} {k : NameKind} {v : Option AV}, find ns x = some (i, k) → i < lo.length → ∀ y, look ns (lo.set i v) y = if y = x then v else look ns lo y := by
  induction ns with
  | nil => intro lo x i k v h; exact nomatch (show none = some (i, k) from h)
  | cons n ns ih =>
    intro lo x i k v h hv y
    cases lo with
    | nil => exact nomatch hv
    | cons u lo =>
      unfold find at h
      by_cases e : x = n.1
      · rw [if_pos e] at h; cases h; rw [List.set_cons_zero]; unfold look; subst e; by_cases e2 : y = n.1
        · rw [if_pos e2, if_pos e2]
        · rw [if_neg e2, if_neg e2, if_neg e2]
      · rw [if_neg e] at h
        obtain ⟨p, hp, hq⟩ := Option.map_eq_some_iff.mp h
        cases hq
        rw [List.set_cons_succ]; unfold look
        have ih := ih (i := p.1) (lo := lo) (v := v) hp (Nat.lt_of_succ_lt_succ hv) y
        by_cases e2 : y = n.1
        · have e3 : ¬ y = x := fun q => e (q.symm.trans e2)
          rw [if_pos e2, if_neg e3, if_pos e2]
        · rw [if_neg e2, if_neg e2, ih]
structure Cx where
  base : Heap
  L : Addr
  A : Around
  env : Env
structure Rep (w : World) (c : Cx) (lo : Lo) (led : Led) (h : Heap) : Prop where
  ns : ∃ m, h.Ns c.L m ∧ ∀ x, (m x).map er = look c.env.scope.names lo x
  keep : ∀ b o, c.base.get? b = some o → h.get? b = some o
  above : c.base.objs.size ≤ c.L
  own : ∀ p ∈ led, p.1 ≠ c.L ∧ c.base.get? p.1 = none ∧ ∃ o, h.get? p.1 = some o ∧ p.2.holds w.params o
  nodup : (led.map (·.1)).Nodup
noncomputable def TopOk (h : Heap) : Prop := ∃ p loose mean mg mb, Top p loose mean mg mb h
theorem TopOk.keeps {h h' : Heap} (T : TopOk h) (k : ∀ b o, h.get? b = some o → h'.get? b = some o) : TopOk h' :=
  let ⟨p, l, m, g, b, t⟩ := T; ⟨p, l, m, g, b, t.keeps k⟩
structure Cx.Ok (w : World) (c : Cx) (n : Nat) : Prop where
  K : (KK w).In c.base
  top : TopOk c.base
  handled : c.A.handled = none
  depth : c.A.depth + n < recursionLimit
  units : c.A.units + 8 * n + 40 < cLine
  loc : c.env.locals = c.L
  glob : c.env.globals = mainGlobals
  blt : c.env.builtins = builtinsNs
  kind : c.env.scope.kind = .function
noncomputable def Wp (prog : Program) (w : World) (c : Cx) {α : Type} (t : Sem α) (R : α → Lo → Led → Prop) (lo : Lo) (led : Led) : Prop :=
  ∀ (fr : Led) (s : Shared) (Q : α → Shared → Prop) (E : Value → Shared → Prop), Rep w c lo (led ++ fr) s.heap →
    (∀ a lo' led' h' tk', R a lo' led' → Rep w c lo' (led' ++ fr) h' → Q a { s with heap := h', toks := tk' }) →
    wpAny (model prog w) c.A t Q E s
noncomputable abbrev WpV (prog : Program) (w : World) (c : Cx) (t : Sem Value) (R : AV → Lo → Led → Prop) (lo : Lo) (led : Led) : Prop :=
  Wp prog w c t (fun v => R (er v)) lo led
noncomputable abbrev WpS (prog : Program) (w : World) (c : Cx) (t : Sem Flow) (R : AF → Lo → Led → Prop) (lo : Lo) (led : Led) : Prop :=
  Wp prog w c t (fun f => R (erF f)) lo led
section
variable {prog : Program} {w : World} {c : Cx} {n : Nat} {α β : Type} {lo lo' : Lo} {led led' fr : Led} {h h' : Heap}
theorem Wp_pure {a : α} {R : α → Lo → Led → Prop} (h : R a lo led) : Wp prog w c (pure a) R lo led :=
  fun _ s _ _ rep k => wpAny_pure (k _ _ _ s.heap s.toks h rep)
theorem Wp_bind {t : Sem α} {f : α → Sem β} {R : β → Lo → Led → Prop} (h : Wp prog w c t (fun a lo' led' => Wp prog w c (f a) R lo' led') lo led) :
    Wp prog w c (t >>= f) R lo led :=
  fun fr s Q E rep k => wpAny_bind (h fr s _ _ rep fun _ _ _ _ _ hR rep' => hR fr _ Q E rep' k)
theorem Wp_mono {t : Sem α} {R R' : α → Lo → Led → Prop} (h : Wp prog w c t R lo led) (hR : ∀ a lo led, R a lo led → R' a lo led) : Wp prog w c t R' lo led :=
  fun fr s Q E rep k => h fr s Q E rep fun a lo' led' h' tk' x => k a lo' led' h' tk' (hR _ _ _ x)
theorem Wp_of {t t' : Sem α} {R : α → Lo → Led → Prop} (hw : ∀ s Q E, wpAny (model prog w) c.A t Q E s → wpAny (model prog w) c.A t' Q E s)
    (h : Wp prog w c t R lo led) : Wp prog w c t' R lo led := fun fr s Q E rep k => hw _ _ _ (h fr s Q E rep k)
theorem Wp_holding {vs : List Value} {t : Sem α} {R : α → Lo → Led → Prop} (h : Wp prog w c t R lo led) : Wp prog w c (holding vs t) R lo led :=
  Wp_of (fun _ _ _ => wpAny_holding) h
theorem Rep.perm (r : Rep w c lo led h) (p : led.Perm led') : Rep w c lo led' h :=
  ⟨r.ns, r.keep, r.above, fun q hq => r.own q (p.mem_iff.mpr hq), (p.map _).nodup_iff.mp r.nodup⟩
theorem Rep.sub (r : Rep w c lo led h) (p : led'.Sublist led) : Rep w c lo led' h :=
  ⟨r.ns, r.keep, r.above, fun q hq => r.own q (p.subset hq), r.nodup.sublist (p.map _)⟩
theorem Rep.ext (r : Rep w c lo led h) (k : ∀ b o, h.get? b = some o → h'.get? b = some o) : Rep w c lo led h' :=
  ⟨let ⟨m, a, b⟩ := r.ns; ⟨m, a.keeps k, b⟩, fun b o e => k b o (r.keep b o e), r.above, fun q hq => let ⟨a, b, o, e, x⟩ := r.own q hq; ⟨a, b, o, k _ _ e, x⟩, r.nodup⟩
theorem Rep.lt (r : Rep w c lo led h) : c.L < h.objs.size := let ⟨_, a, _⟩ := r.ns; a.lt
theorem Rep.push (r : Rep w c lo led h) (o : Obj) (ao : AO) (hh : ao.holds w.params o) (hf : autoParam (o.isFreed = false) mar._auto_1) : Rep w c lo ((h.objs.size, ao) :: led) (h.push o) := by
  have k : ∀ b ob, h.get? b = some ob → (h.push o).get? b = some ob := fun b ob e => Heap.get?_push_of_some _ e
  have r' := r.ext k
  refine ⟨r'.ns, r'.keep, r'.above, fun q hq => ?_, ?_⟩
  · rcases List.mem_cons.mp hq with rfl | hq
    · refine ⟨Nat.ne_of_gt r.lt, ?_, o, Heap.get?_push_size _ hf, hh⟩
      cases e : c.base.get? h.objs.size with
      | none => rfl
      | some x => exact absurd (Heap.lt_size (r.keep _ _ e)) (Nat.lt_irrefl _)
    · exact r'.own q hq
  · refine List.nodup_cons.mpr ⟨fun hm => ?_, r.nodup⟩
    obtain ⟨q, hq, e⟩ := List.mem_map.mp hm
    obtain ⟨_, _, ob, e2, _⟩ := r.own q hq
    exact absurd (Heap.lt_size e2) (by rw [show q.fst = h.objs.size from e]; exact Nat.lt_irrefl _)
inductive Up (a : Addr) (o o' : AO) : Led → Led → Prop
  | head {r} : Up a o o' ((a, o) :: r) ((a, o') :: r)
  | tail {p r r'} : Up a o o' r r' → Up a o o' (p :: r) (p :: r')
theorem Up.app {a : Addr} {o o' : AO} {l l' : Led} (u : Up a o o' l l') (fr : Led) : Up a o o' (l ++ fr) (l' ++ fr) := by
  induction u with
  | head => exact .head
  | tail _ ih => exact .tail ih
theorem Up.mem {a : Addr} {o o' : AO} {l l' : Led} (u : Up a o o' l l') : (a, o) ∈ l := by
  induction u with
  | head => exact .head _
  | tail _ ih => exact .tail _ ih
theorem Up.keys {a : Addr} {o o' : AO} {l l' : Led} (u : Up a o o' l l') : l'.map (·.1) = l.map (·.1) := by
  induction u with
  | head => rfl
  | tail _ ih => simp only [List.map_cons, ih]
theorem Up.mem' {a : Addr} {o o' : AO} {l l' : Led} (u : Up a o o' l l') : ∀ q ∈ l', q = (a, o') ∨ q ∈ l := by
  induction u with
  | head => intro q hq; rcases List.mem_cons.mp hq with h | h; exact .inl h; exact .inr (.tail _ h)
  | tail _ ih => intro q hq; rcases List.mem_cons.mp hq with h | h; exact .inr (h ▸ .head _); exact (ih q h).imp id fun x => .tail _ x
theorem Up.split {a : Addr} {o o' : AO} {l l' : Led} (u : Up a o o' l l') : ∃ p q, l = p ++ (a, o) :: q ∧ l' = p ++ (a, o') :: q := by
  induction u with
  | head => exact ⟨[], _, rfl, rfl⟩
  | @tail x _ _ _ ih => obtain ⟨p, q, e1, e2⟩ := ih; exact ⟨x :: p, q, by rw [e1]; rfl, by rw [e2]; rfl⟩
theorem Rep.up {a : Addr} {o o' : AO} {ob : Obj} (r : Rep w c lo led h) (u : Up a o o' led led') (hs : ∀ b, b ≠ a → ∀ x, h.get? b = some x → h'.get? b = some x) (ho : h'.get? a = some ob) (hh : o'.holds w.params ob) : Rep w c lo led' h' := by
  have ha := r.own _ u.mem
  have hL : c.L ≠ a := fun e => ha.1 e.symm
  have nk := r.nodup
  obtain ⟨p, q, rfl, rfl⟩ := u.split
  refine ⟨?_, fun b x e => hs b (fun e2 => ?_) x (r.keep b x e), r.above, fun y hy => ?_, by rw [u.keys]; exact nk⟩
  · obtain ⟨m, hm, e⟩ := r.ns
    obtain ⟨ol, es, ep, hl, rest⟩ := hm
    exact ⟨m, ⟨ol, es, ep, hs _ hL _ hl, rest⟩, e⟩
  · rw [e2, ha.2.1] at e; cases e
  · by_cases e : y.1 = a
    · have ey : y = (a, o') := by
        simp only [List.map_append, List.map_cons] at nk
        have n1 := List.nodup_append.mp nk
        rcases List.mem_append.mp hy with h1 | h1
        · exact absurd e (n1.2.2 _ (List.mem_map_of_mem h1) _ (.head _))
        · rcases List.mem_cons.mp h1 with h1 | h1
          · exact h1
          · exact absurd (e ▸ List.mem_map_of_mem (f := (·.1)) h1) (List.nodup_cons.mp n1.2.1).1
      subst ey
      exact ⟨ha.1, ha.2.1, ob, ho, hh⟩
    · have hm : y ∈ p ++ (a, o) :: q := by
        rcases u.mem' y hy with h1 | h1
        · rw [h1] at e; exact absurd rfl e
        · exact h1
      obtain ⟨x1, x2, x, x3, x4⟩ := r.own y hm
      exact ⟨x1, x2, x, hs _ e _ x3, x4⟩
theorem Rep.set {x : Str} {i : Nat} {k : NameKind} {v : Value} {m : Str → Option Value} (r : Rep w c lo led h) (hf : find c.env.scope.names x = some (i, k)) (hi : i < lo.length)
    (hm : ∀ x, (m x).map er = look c.env.scope.names lo x) (hn' : h'.Ns c.L (fun y => if y = x then some v else m y)) (hs : Heap.SameBut c.L h h') : Rep w c (lo.set i (some (er v))) led h' := by
  refine ⟨⟨_, hn', fun y => ?_⟩, fun b o e => (hs.2 b (Nat.ne_of_lt (Nat.lt_of_lt_of_le (Heap.lt_size e) r.above))).trans (r.keep b o e), r.above, fun q hq => ?_, r.nodup⟩
  · rw [look_set hf hi]
    by_cases e : y = x
    · simp [e]
    · simp only [if_neg e]; exact hm y
  · obtain ⟨a, b, o, e, x⟩ := r.own q hq
    exact ⟨a, b, o, (hs.2 _ a).trans e, x⟩
noncomputable def At (w : World) (c : Cx) (led : Led) (a : Addr) (o : AO) : Prop := (a, o) ∈ led ∨ ∃ ob, c.base.get? a = some ob ∧ o.holds w.params ob
theorem At.get {a : Addr} {o : AO} (x : At w c led a o) (r : Rep w c lo (led ++ fr) h) : ∃ ob, h.get? a = some ob ∧ o.holds w.params ob := by
  rcases x with x | ⟨ob, e, x⟩
  · obtain ⟨_, _, o, e, y⟩ := r.own _ (List.mem_append_left _ x); exact ⟨o, e, y⟩
  · exact ⟨ob, r.keep _ _ e, x⟩
theorem At.list {a : Addr} {xs : List AV} (x : At w c led a (.list xs)) (r : Rep w c lo (led ++ fr) h) : ∃ vs : List Value, h.IsList a vs.toArray ∧ vs.map er = xs := by
  obtain ⟨ob, e, vs, n, rfl, hm⟩ := x.get r
  exact ⟨vs, ⟨_, e, rfl, n, rfl⟩, hm⟩
noncomputable def IsL (w : World) (c : Cx) (led : Led) (a : Addr) (xs : List AV) : Prop := ∀ lo fr h, Rep w c lo (led ++ fr) h → ∃ vs : List Value, h.IsList a vs.toArray ∧ vs.map er = xs
theorem IsL.of {a : Addr} {xs : List AV} (x : At w c led a (.list xs)) : IsL w c led a xs := fun _ _ _ r => x.list r
theorem IsL.mem {a : Addr} {xs : List AV} (x : (a, AO.list xs) ∈ led) : IsL w c led a xs := fun _ _ _ r => At.list (.inl x) r
theorem IsL.base {a : Addr} {vs : List Value} (x : c.base.IsList a vs.toArray) : IsL w c led a (vs.map er) := fun _ _ _ r =>
  ⟨vs, let ⟨o, e, q⟩ := x; ⟨o, r.keep _ _ e, q⟩, rfl⟩
theorem Rep.fresh (r : Rep w c lo led h) : h.objs.size ∉ led.map (·.1) := fun hm => by
  obtain ⟨q, hq, e⟩ := List.mem_map.mp hm
  obtain ⟨_, _, ob, e2, _⟩ := r.own q hq
  exact absurd (Heap.lt_size e2) (by rw [show q.fst = h.objs.size from e]; exact Nat.lt_irrefl _)
theorem Rep.freshS (r : Rep w c lo led h) {k : Nat} : h.objs.size + k ∉ led.map (·.1) := fun hm => by
  obtain ⟨q, hq, e⟩ := List.mem_map.mp hm
  obtain ⟨_, _, ob, e2, _⟩ := r.own q hq
  have h1 : q.1 < h.objs.size := Heap.lt_size e2
  have h2 : q.1 = h.objs.size + k := e
  rw [h2] at h1
  exact absurd h1 (Nat.not_lt.mpr (Nat.le_add_right _ _))
noncomputable def Mat (P : Params) : Led → List (Addr × Obj) → Prop
  | [], [] => True
  | p :: l, q :: n => p.1 = q.1 ∧ p.2.holds P q.2 ∧ Mat P l n
  | _, _ => False
theorem Rep.toNews : ∀ {led : Led}, Rep w c lo led h → ∃ news, News c.base c.L h news ∧ Mat w.params led news
  | [], _ => ⟨[], News.nil, trivial⟩
  | p :: led, r => by
    obtain ⟨news, N, M⟩ := Rep.toNews (r.sub (List.sublist_cons_self p led))
    obtain ⟨h1, h2, o, h3, h4⟩ := r.own p (.head _)
    refine ⟨(p.1, o) :: news, fun q hq => ?_, rfl, h4, M⟩
    rcases List.mem_cons.mp hq with rfl | hq
    · exact ⟨h3, h1, h2⟩
    · exact N q hq
theorem Mat.own {P : Params} {base : Heap} {L : Addr} (led : Led) : ∀ (news : List (Addr × Obj)), Mat P led news → News base L h news → ∀ p ∈ led, p.1 ≠ L ∧ base.get? p.1 = none ∧ ∃ o, h.get? p.1 = some o ∧ p.2.holds P o := by
  induction led with
  | nil => intro _ _ _ p hp; exact nomatch hp
  | cons p l ih =>
    intro news M N x hx
    cases news with
    | nil => exact M.elim
    | cons q n =>
      obtain ⟨e, hh, M⟩ := M
      rcases List.mem_cons.mp hx with rfl | hx
      · obtain ⟨h1, h2, h3⟩ := N q (.head _)
        rw [← e] at h1 h2 h3
        exact ⟨h2, h3, _, h1, hh⟩
      · exact ih n M (fun y hy => N y (.tail _ hy)) x hx
theorem Rep.ofNews {m : Str → Option Value} {news : List (Addr × Obj)} (hm : ∀ x, (m x).map er = look c.env.scope.names lo x) (F : Fr c.base c.L h m) (N : News c.base c.L h news) (M : Mat w.params led news) (nd : (led.map (·.1)).Nodup) : Rep w c lo led h :=
  ⟨⟨m, F.ns, hm⟩, F.keep, F.above, M.own _ _ N, nd⟩
theorem AV_ints : ∀ {vs : List Value} {ns : List Int}, vs.map er = ns.map AV.int → IntsAre vs ns
  | [], [], _ => .nil
  | [], _ :: _, e => by simp at e
  | _ :: _, [], e => by simp at e
  | v :: vs, n :: ns, e => by
    simp only [List.map_cons, List.cons.injEq] at e
    obtain ⟨t, rfl⟩ := er_int e.1
    exact .cons _ _ (AV_ints e.2)
theorem ints_AV : ∀ {vs : List Value} {ns : List Int}, IntsAre vs ns → vs.map er = ns.map AV.int
  | _, _, .nil => rfl
  | _, _, .cons n t h => by simp only [List.map_cons, er, ints_AV h]
theorem Rep.toFr (r : Rep w c lo led h) : ∃ m, Fr c.base c.L h m ∧ ∀ x, (m x).map er = look c.env.scope.names lo x :=
  let ⟨m, a, b⟩ := r.ns; ⟨m, ⟨a, r.keep, r.above⟩, b⟩
end
end Mine
namespace Mine
open PySem PySem.Spec PySem.Calls PyProof.Rows PySem.W
section
variable {prog : Program} {w : World} {c : Cx} {n : Nat} {lo : Lo} {led : Led}
section
variable {R : AV → Lo → Led → Prop} {pos : Pos} {k : Nat}
theorem e_int {i : Int} (h : R (.int i) lo led) : WpV prog w c (eval (.Constant (.int i) k pos) c.env) R lo led :=
  fun _ _ _ _ rep kk => wpAny_Constant_int (kk _ _ _ _ _ h rep)
theorem e_str {i : Str} (h : R (.str i) lo led) : WpV prog w c (eval (.Constant (.str i) k pos) c.env) R lo led :=
  fun _ _ _ _ rep kk => Constant_str (kk _ _ _ _ _ h rep)
theorem e_float {i : UInt64} (h : R (.float i) lo led) : WpV prog w c (eval (.Constant (.float i) k pos) c.env) R lo led :=
  fun _ _ _ _ rep kk => AutoFloatOps.wpAny_Constant_float (kk _ _ _ _ _ h rep)
theorem e_local {x : Str} {i : Nat} {v : AV} (ok : c.Ok w n) (hf : find c.env.scope.names x = some (i, .local)) (hv : lo[i]? = some (some v)) (h : R v lo led)
    (hd : autoParam ((x == ("__debug__" : Str)) = false) mad._auto_1) : WpV prog w c (eval (.Name x pos) c.env) R lo led := by
  intro fr s Q E rep kk
  obtain ⟨m, hn, hm⟩ := rep.ns
  have e := hm x
  rw [look_get hf hv] at e
  obtain ⟨u, hu, rfl⟩ := Option.map_eq_some_iff.mp e
  exact wpAny_Name (wpAny_loadName_local ok.kind (find_lookup hf) (by rw [ok.loc]; exact hn) hu (kk _ _ _ s.heap s.toks h rep)) hd
theorem e_glob {x : Str} {i : Nat} {v : Value} (ok : c.Ok w n) (hf : find c.env.scope.names x = some (i, .globalImplicit)) (he : nsIn (KK w) mainGlobals x = some (some v)) (h : R (er v) lo led)
    (hd : autoParam ((x == ("__debug__" : Str)) = false) mad._auto_1) : WpV prog w c (eval (.Name x pos) c.env) R lo led := by
  intro fr s Q E rep kk
  obtain ⟨p, loose, mean, mg, mb, T⟩ := ok.top
  exact Name_function_global ok.kind (find_lookup hf) (loadGlobal_global (env := c.env) (by rw [ok.glob]; exact T.g.keeps rep.keep) (mg_of ok.K T.g he) (kk _ _ _ s.heap s.toks h rep)) hd
theorem e_blt {x : Str} {i : Nat} {v : Value} (ok : c.Ok w n) (hf : find c.env.scope.names x = some (i, .globalImplicit)) (he : nsIn (KK w) mainGlobals x = some none) (hv : bootBuiltins x = some v) (hn : x ≠ "__name__") (h : R (er v) lo led)
    (hd : autoParam ((x == ("__debug__" : Str)) = false) mad._auto_1) : WpV prog w c (eval (.Name x pos) c.env) R lo led := by
  intro fr s Q E rep kk
  obtain ⟨p, loose, mean, mg, mb, T⟩ := ok.top
  exact Name_function_global ok.kind (find_lookup hf) (loadGlobal_builtin (env := c.env) (by rw [ok.glob]; exact T.g.keeps rep.keep) (mg_none_of ok.K T.g he) (by rw [ok.blt]; exact T.b.keeps rep.keep) ((T.builtins x hn).trans hv) (kk _ _ _ s.heap s.toks h rep)) hd
theorem At.cell {fr : Led} {h : Heap} {a : Addr} {v : AV} (x : At w c led a (.cell (some v))) (r : Rep w c lo (led ++ fr) h) : ∃ u, h.IsCell a (some u) ∧ er u = v := by
  obtain ⟨ob, e, v', hd, hm⟩ := x.get r
  obtain ⟨u, rfl, hu⟩ := Option.map_eq_some_iff.mp hm
  exact ⟨u, ⟨ob, e, hd⟩, hu⟩
theorem e_cell {x : Str} {i : Nat} {a : Addr} {v : AV} (ok : c.Ok w n) (hf : find c.env.scope.names x = some (i, .cell)) (hc : c.env.cells.lookup x = some a) (hv : At w c led a (.cell (some v))) (h : R v lo led)
    (hd : autoParam ((x == ("__debug__" : Str)) = false) mad._auto_1) : WpV prog w c (eval (.Name x pos) c.env) R lo led := by
  intro fr s Q E rep kk
  obtain ⟨u, hu, rfl⟩ := hv.cell rep
  exact wpAny_Name (wpAny_loadName_cell ok.kind (find_lookup hf) hc hu (kk _ _ _ s.heap s.toks h rep)) hd
theorem e_free {x : Str} {i : Nat} {a : Addr} {v : AV} (ok : c.Ok w n) (hf : find c.env.scope.names x = some (i, .free)) (hc : c.env.cells.lookup x = some a) (hv : At w c led a (.cell (some v))) (h : R v lo led)
    (hd : autoParam ((x == ("__debug__" : Str)) = false) mad._auto_1) (hn : autoParam ((x == ("__classdict__" : Str)) = false) mad._auto_1) : WpV prog w c (eval (.Name x pos) c.env) R lo led := by
  intro fr s Q E rep kk
  obtain ⟨u, hu, rfl⟩ := hv.cell rep
  exact wpAny_Name (wpAny_loadName_free ok.kind (find_lookup hf) hc hu (kk _ _ _ s.heap s.toks h rep) hn) hd
noncomputable def Bop (prog : Program) (w : World) (c : Cx) (op : Operator) (a b : AV) (R : AV → Lo → Led → Prop) (lo : Lo) (led : Led) : Prop :=
  ∀ v u, er v = a → er u = b → WpV prog w c (binaryOp op v u) R lo led
noncomputable def Cop (prog : Program) (w : World) (c : Cx) (op : CmpOp) (a b : AV) (R : AV → Lo → Led → Prop) (lo : Lo) (led : Led) : Prop :=
  ∀ v u, er v = a → er u = b → WpV prog w c (compareOp op v u) R lo led
noncomputable def Iop (prog : Program) (w : World) (c : Cx) (op : Operator) (a b : AV) (R : AV → Lo → Led → Prop) (lo : Lo) (led : Led) : Prop :=
  ∀ v u, er v = a → er u = b → WpV prog w c (inplaceOp op v u) R lo led
noncomputable def Uop (prog : Program) (w : World) (c : Cx) (op : UnaryOp) (a : AV) (R : AV → Lo → Led → Prop) (lo : Lo) (led : Led) : Prop :=
  ∀ v, er v = a → WpV prog w c (unaryOp op v) R lo led
noncomputable def Tru (prog : Program) (w : World) (c : Cx) (a : AV) (R : Bool → Lo → Led → Prop) (lo : Lo) (led : Led) : Prop :=
  ∀ v, er v = a → Wp prog w c (truthy v) R lo led
noncomputable def Sub (prog : Program) (w : World) (c : Cx) (value slice : Expr) (a b : AV) (R : AV → Lo → Led → Prop) (lo : Lo) (led : Led) : Prop :=
  ∀ v u, er v = a → er u = b → WpV prog w c (subscriptTail value slice v u) R lo led
noncomputable def Att (prog : Program) (w : World) (c : Cx) (name : Str) (a : AV) (R : AV → Lo → Led → Prop) (lo : Lo) (led : Led) : Prop :=
  ∀ v, er v = a → WpV prog w c (getAttr v name true) R lo led
noncomputable def Call (prog : Program) (w : World) (c : Cx) (f : Value) (as : List AV) (R : AV → Lo → Led → Prop) (lo : Lo) (led : Led) : Prop :=
  ∀ vs, vs.map er = as → WpV prog w c (call f vs) R lo led
noncomputable def Args (prog : Program) (w : World) (c : Cx) (pos : Pos) (es : List Expr) (R : List AV → Lo → Led → Prop) (lo : Lo) (led : Led) : Prop :=
  Wp prog w c (spliced (backTo pos (starEach es c.env))) (fun vs => R (vs.map er)) lo led
theorem e_bin {l r : Expr} {op : Operator} (h : WpV prog w c (eval l c.env) (fun a lo₁ led₁ => WpV prog w c (eval r c.env) (fun b lo₂ led₂ => Bop prog w c op a b R lo₂ led₂) lo₁ led₁) lo led) :
    WpV prog w c (eval (.BinOp l op r pos) c.env) R lo led :=
  fun fr s Q E rep kk => wpAny_BinOp (h fr s _ E rep fun _ _ _ _ _ h₁ rep₁ => h₁ fr _ _ E rep₁ fun _ _ _ _ _ h₂ rep₂ => h₂ _ _ rfl rfl fr _ _ E rep₂ kk)
theorem e_cmp {l r : Expr} {op : CmpOp} (h : WpV prog w c (eval l c.env) (fun a lo₁ led₁ => WpV prog w c (eval r c.env) (fun b lo₂ led₂ => Cop prog w c op a b R lo₂ led₂) lo₁ led₁) lo led)
    (hm : autoParam (behindInMarks op r = false) maw._auto_1) : WpV prog w c (eval (.Compare l [op] [r] pos) c.env) R lo led :=
  fun fr s Q E rep kk => wpAny_Compare1 (h fr s _ E rep fun _ _ _ _ _ h₁ rep₁ => h₁ fr _ _ E rep₁ fun _ _ _ _ _ h₂ rep₂ => h₂ _ _ rfl rfl fr _ _ E rep₂ kk) hm
theorem e_un {x : Expr} {op : UnaryOp} (h : WpV prog w c (eval x c.env) (fun a lo₁ led₁ => Uop prog w c op a R lo₁ led₁) lo led) : WpV prog w c (eval (.UnaryOp op x pos) c.env) R lo led :=
  fun fr s Q E rep kk => UnaryOp_ (h fr s _ E rep fun _ _ _ _ _ h₁ rep₁ => h₁ _ rfl fr _ _ E rep₁ kk)
theorem e_ife {t b o : Expr} (h : Wp prog w c (isTrue t c.env (eval t c.env)) (fun x lo₁ led₁ => if x then WpV prog w c (eval b c.env) R lo₁ led₁ else WpV prog w c (eval o c.env) R lo₁ led₁) lo led) :
    WpV prog w c (eval (.IfExp t b o pos) c.env) R lo led :=
  fun fr s Q E rep kk => IfExp_ (h fr s _ E rep fun x _ _ _ _ h₁ rep₁ => by
    cases x
    · exact h₁ fr _ _ E rep₁ kk
    · exact h₁ fr _ _ E rep₁ kk)
theorem e_and {e₁ e₂ : Expr} {rest : List Expr} (h : WpV prog w c (eval e₁ c.env) (fun v lo₁ led₁ => Tru prog w c v (fun x lo₂ led₂ => if x then WpV prog w c (eval (.BoolOp .And (e₂ :: rest) pos) c.env) R lo₂ led₂ else R v lo₂ led₂) lo₁ led₁) lo led) :
    WpV prog w c (eval (.BoolOp .And (e₁ :: e₂ :: rest) pos) c.env) R lo led :=
  fun fr s Q E rep kk => BoolOp_and (h fr s _ E rep fun _ _ _ _ _ h₁ rep₁ => h₁ _ rfl fr _ _ E rep₁ fun x _ _ _ _ h₂ rep₂ => by
    cases x
    · exact kk _ _ _ _ _ h₂ rep₂
    · exact h₂ fr _ _ E rep₂ kk)
theorem e_or {e₁ e₂ : Expr} {rest : List Expr} (h : WpV prog w c (eval e₁ c.env) (fun v lo₁ led₁ => Tru prog w c v (fun x lo₂ led₂ => if x then R v lo₂ led₂ else WpV prog w c (eval (.BoolOp .Or (e₂ :: rest) pos) c.env) R lo₂ led₂) lo₁ led₁) lo led) :
    WpV prog w c (eval (.BoolOp .Or (e₁ :: e₂ :: rest) pos) c.env) R lo led :=
  fun fr s Q E rep kk => BoolOp_or (h fr s _ E rep fun _ _ _ _ _ h₁ rep₁ => h₁ _ rfl fr _ _ E rep₁ fun x _ _ _ _ h₂ rep₂ => by
    cases x
    · exact h₂ fr _ _ E rep₂ kk
    · exact kk _ _ _ _ _ h₂ rep₂)
theorem e_bo1 {e : Expr} {op : BoolOp} (h : WpV prog w c (eval e c.env) R lo led) : WpV prog w c (eval (.BoolOp op [e] pos) c.env) R lo led :=
  fun fr s Q E rep kk => BoolOp_one (h fr s Q E rep kk)
theorem e_sub {value slice : Expr} (h : WpV prog w c (eval value c.env) (fun a lo₁ led₁ => WpV prog w c (eval slice c.env) (fun b lo₂ led₂ => Sub prog w c value slice a b R lo₂ led₂) lo₁ led₁) lo led) :
    WpV prog w c (eval (.Subscript value slice pos) c.env) R lo led :=
  fun fr s Q E rep kk => Subscript_ (h fr s _ E rep fun _ _ _ _ _ h₁ rep₁ => h₁ fr _ _ E rep₁ fun _ _ _ _ _ h₂ rep₂ => h₂ _ _ rfl rfl fr _ _ E rep₂ kk)
theorem e_attr {x attr : Str} {xp : Pos} (h : WpV prog w c (eval (.Name x xp) c.env) (fun a lo₁ led₁ => Att prog w c attr a R lo₁ led₁) lo led) :
    WpV prog w c (eval (.Attribute (.Name x xp) attr pos) c.env) R lo led :=
  fun fr s Q E rep kk => Attribute_Name_ (h fr s _ E rep fun _ _ _ _ _ h₁ rep₁ => h₁ _ rfl fr _ _ E rep₁ kk)
theorem a_nil {R : List AV → Lo → Led → Prop} (h : R [] lo led) : Args prog w c pos [] R lo led :=
  fun _ s _ _ rep kk => args_nil (kk _ _ _ s.heap s.toks h rep)
theorem a_cons {R : List AV → Lo → Led → Prop} {e : Expr} {rest : List Expr} (h : WpV prog w c (eval e c.env) (fun v lo₁ led₁ => Args prog w c pos rest (fun vs => R (v :: vs)) lo₁ led₁) lo led)
    (he : autoParam (starEach (e :: rest) c.env = (false, eval e c.env) :: starEach rest c.env) maw._auto_1) : Args prog w c pos (e :: rest) R lo led :=
  fun fr s Q E rep kk => args_cons (h fr s _ E rep fun _ _ _ _ _ h₁ rep₁ => h₁ fr _ _ E rep₁ fun _ _ _ _ _ h₂ rep₂ => kk _ _ _ _ _ h₂ rep₂) he
theorem newSeq {vs : List Value} {fr : Led} {s : Shared} {lo' : Lo} {led' : Led} {Q : Value → Shared → Prop} {E : Value → Shared → Prop} (rep : Rep w c lo' (led' ++ fr) s.heap)
    (kk : ∀ a lo' led' h' tk', R (er a) lo' led' → Rep w c lo' (led' ++ fr) h' → Q a { s with heap := h', toks := tk' }) (hz : vs.length ≤ 1000)
    (h : ∀ a, R (.ref a) lo' ((a, .list (vs.map er)) :: led')) : wpAny (model prog w) c.A (newList vs) Q E s :=
  wpAny_newObj_type (kk (.ref s.heap.objs.size) lo' _ _ s.toks (h _) (rep.push _ _ ⟨vs, 0, rfl, rfl⟩))
    (by show vs.toArray.size ≤ sizeLine; rw [List.size_toArray]; exact Nat.le_trans hz (by decide))
theorem newTup {vs : List Value} {fr : Led} {s : Shared} {lo' : Lo} {led' : Led} {Q : Value → Shared → Prop} {E : Value → Shared → Prop} (rep : Rep w c lo' (led' ++ fr) s.heap)
    (kk : ∀ a lo' led' h' tk', R (er a) lo' led' → Rep w c lo' (led' ++ fr) h' → Q a { s with heap := h', toks := tk' }) (hz : vs.length ≤ 1000)
    (h : ∀ a, R (.ref a) lo' ((a, .tuple (vs.map er)) :: led')) : wpAny (model prog w) c.A (newTuple vs) Q E s :=
  wpAny_newObj_type (kk (.ref s.heap.objs.size) lo' _ _ s.toks (h _) (rep.push _ _ ⟨vs, 0, rfl, rfl⟩))
    (by show vs.toArray.size ≤ sizeLine; rw [List.size_toArray]; exact Nat.le_trans hz (by decide))
theorem e_tuple {es : List Expr} {k : Nat} (h : Args prog w c pos es (fun as lo₁ led₁ => as.length ≤ 1000 ∧ ∀ a, R (.ref a) lo₁ ((a, .tuple as) :: led₁)) lo led) : WpV prog w c (eval (.Tuple es k pos) c.env) R lo led :=
  fun fr s Q E rep kk => Tuple_ (h fr s _ E rep fun _ _ _ _ _ h₁ rep₁ => newTup rep₁ kk (by simpa using h₁.1) h₁.2)
theorem e_list {es : List Expr} (h : Args prog w c pos es (fun as lo₁ led₁ => as.length ≤ 1000 ∧ ∀ a, R (.ref a) lo₁ ((a, .list as) :: led₁)) lo led) : WpV prog w c (eval (.List es pos) c.env) R lo led :=
  fun fr s Q E rep kk => List_ (h fr s _ E rep fun _ _ _ _ _ h₁ rep₁ => newSeq rep₁ kk (by simpa using h₁.1) h₁.2)
noncomputable def CW (prog : Program) (w : World) (c : Cx) (pos : Pos) (f : AV) (first : List AV) (args : List Expr) (R : AV → Lo → Led → Prop) (lo : Lo) (led : Led) : Prop :=
  ∀ v fs, er v = f → fs.map er = first → WpV prog w c (callWith pos v fs (backTo pos (starEach args c.env)) []) R lo led
theorem evalArgs_all {M : Model} {A : Around} {E : Value → Shared → Prop} {s : Shared} {f : Value} {trees : List (Bool × Sem Value)} {Q : PySem.Args → Shared → Prop} (hp : trees.any (·.1) = false)
    (h : wpAny M A (spliced trees) (fun vs s' => Q ⟨vs, []⟩ s') E s) : wpAny M A (evalArgs f true trees []) Q E s := by
  cases trees with
  | nil =>
    unfold evalArgs
    show wpAny M A (spliced [] >>= _) Q E s
    refine wpAny_bind (wpAny_mono h (fun vs s' h' => ?_) fun _ _ x => x)
    refine wpAny_holding ?_
    exact wpAny_bind (wpAny_pure (wpAny_bind (wpAny_pure (wpAny_pure h'))))
  | cons x r =>
    obtain ⟨b, t⟩ := x
    simp only [List.any_cons, Bool.or_eq_false_iff] at hp
    obtain rfl : b = false := hp.1
    exact evalArgs_plain h
theorem cw_fn {a : Addr} {first : List AV} {args : List Expr} (ok : c.Ok w n) (hk : keepIn (KK w) (.ref a) = true) (h : Args prog w c pos args (fun as lo₁ led₁ => Call prog w c (.ref a) (first ++ as) R lo₁ led₁) lo led)
    (hplain : autoParam ((backTo pos (starEach args c.env)).any (·.1) = false) maw._auto_1) : CW prog w c pos (er (.ref a)) first args R lo led := by
  intro v fs hv hfs fr s Q E rep kk
  obtain rfl := er_ref hv
  refine callWith_of (P := fun h => (KK w).In h) (by rw [hplain]; rfl) (keeps_K hk) (evalArgs_all hplain (h fr s _ E rep fun vs _ _ _ _ h₁ rep₁ => ⟨ok.K.keeps rep₁.keep, ?_⟩))
  exact h₁ (fs ++ vs) (by rw [List.map_append, hfs]) fr _ _ E rep₁ kk
theorem cw_blt {id : String} {first : List AV} {args : List Expr} (h : Args prog w c pos args (fun as lo₁ led₁ => Call prog w c (.builtin id) (first ++ as) R lo₁ led₁) lo led)
    (hplain : autoParam ((backTo pos (starEach args c.env)).any (·.1) = false) maw._auto_1) : CW prog w c pos (er (.builtin id)) first args R lo led := by
  intro v fs hv hfs fr s Q E rep kk
  obtain rfl := er_other hv
  exact callWith_builtin hplain (evalArgs_all hplain (h fr s _ E rep fun vs _ _ _ _ h₁ rep₁ => h₁ (fs ++ vs) (by rw [List.map_append, hfs]) fr _ _ E rep₁ kk))
theorem cw_typ {T : String} {first : List AV} {args : List Expr} (h : Args prog w c pos args (fun as lo₁ led₁ => Call prog w c (.type T) (first ++ as) R lo₁ led₁) lo led)
    (hplain : autoParam ((backTo pos (starEach args c.env)).any (·.1) = false) maw._auto_1) : CW prog w c pos (er (.type T)) first args R lo led := by
  intro v fs hv hfs fr s Q E rep kk
  obtain rfl := er_other hv
  exact PyProof.Rows.callWith_type hplain (evalArgs_all hplain (h fr s _ E rep fun vs _ _ _ _ h₁ rep₁ => h₁ (fs ++ vs) (by rw [List.map_append, hfs]) fr _ _ E rep₁ kk))
theorem e_call {x : Str} {p : Pos} {args : List Expr} (h : WpV prog w c (eval (.Name x p) c.env) (fun f lo₁ led₁ => CW prog w c pos f [] args R lo₁ led₁) lo led) :
    WpV prog w c (eval (.Call (.Name x p) args [] pos) c.env) R lo led :=
  fun fr s Q E rep kk => Call_Name rfl (h fr s _ E rep fun _ _ _ _ _ h₁ rep₁ => h₁ _ [] rfl rfl fr _ _ E rep₁ kk)
noncomputable def Met (prog : Program) (w : World) (c : Cx) (pl : Sem Bool) (name : Str) (a : AV) (R : AV → List AV → Lo → Led → Prop) (lo : Lo) (led : Led) : Prop :=
  ∀ v, er v = a → Wp prog w c (getMethod v name pl) (fun fx => R (er fx.1) (fx.2.map er)) lo led
theorem e_meth {o : Expr} {name : Str} {apos : Pos} {args : List Expr} {pl : Sem Bool} (h : WpV prog w c (eval o c.env) (fun a lo₁ led₁ => Met prog w c pl name a (fun f first lo₂ led₂ => CW prog w c pos f first args R lo₂ led₂) lo₁ led₁) lo led)
    (he : eval (.Call (.Attribute o name apos) args [] pos) c.env = (do
      let ov ← eval o c.env
      standAt apos.atName
      let (f, first) ← holding [ov] (getMethod ov name pl)
      callWith pos f first (backTo pos (starEach args c.env)) []) := by with_unfolding_all rfl) :
    WpV prog w c (eval (.Call (.Attribute o name apos) args [] pos) c.env) R lo led :=
  fun fr s Q E rep kk => MethodCall_ (pl := pl) (h fr s _ E rep fun _ _ _ _ _ h₁ rep₁ => h₁ _ rfl fr _ _ E rep₁ fun _ _ _ _ _ h₂ rep₂ => h₂ _ _ rfl rfl fr _ _ E rep₂ kk) he
end
section
variable {R : Bool → Lo → Led → Prop} {pos : Pos}
theorem t_cmp {l r : Expr} {op : CmpOp} {whole : Sem Value} (h : WpV prog w c (eval l c.env) (fun a lo₁ led₁ => WpV prog w c (eval r c.env) (fun b lo₂ led₂ => Cop prog w c op a b (fun x lo₃ led₃ => Tru prog w c x R lo₃ led₃) lo₂ led₂) lo₁ led₁) lo led)
    (hm : autoParam (behindInMarks op r = false) maw._auto_1) : Wp prog w c (isTrue (.Compare l [op] [r] pos) c.env whole) R lo led :=
  fun fr s Q E rep kk => wpAny_isTrue_Compare1 (h fr s _ E rep fun _ _ _ _ _ h₁ rep₁ => h₁ fr _ _ E rep₁ fun _ _ _ _ _ h₂ rep₂ => h₂ _ _ rfl rfl fr _ _ E rep₂ fun _ _ _ _ _ h₃ rep₃ => h₃ _ rfl fr _ _ E rep₃ kk) hm
theorem t_plain {e : Expr} {whole : Sem Value} (h : WpV prog w c whole (fun a lo₁ led₁ => Tru prog w c a R lo₁ led₁) lo led)
    (he : autoParam (isTrue e c.env whole = (do let v ← whole; standAt e.pos; holding [v] (truthy v))) maw._auto_1) : Wp prog w c (isTrue e c.env whole) R lo led :=
  fun fr s Q E rep kk => isTrue_plain (h fr s _ E rep fun _ _ _ _ _ h₁ rep₁ => h₁ _ rfl fr _ _ E rep₁ kk) he
theorem t_bool {b : Bool} (h : R b lo led) : Tru prog w c (.bool b) R lo led := by
  intro v hv fr s Q E rep kk
  obtain rfl := er_bool hv
  exact wpAny_truthy_bool (kk _ _ _ s.heap s.toks h rep)
end
section
variable {R : AF → Lo → Led → Prop} {pos p' : Pos} {rest : List Stmt}
theorem s_nil (h : R .next lo led) : WpS prog w c (execs [] c.env) R lo led := fun _ s _ _ rep kk => wpAny_execs_nil (kk .next _ _ s.heap s.toks h rep)
noncomputable def Then (prog : Program) (w : World) (c : Cx) (rest : List Stmt) (R : AF → Lo → Led → Prop) : AF → Lo → Led → Prop
  | .next, lo, led => WpS prog w c (execs rest c.env) R lo led
  | f, lo, led => R f lo led
theorem s_cons {st : Stmt} (h : WpS prog w c (exec st c.env) (Then prog w c rest R) lo led) : WpS prog w c (execs (st :: rest) c.env) R lo led :=
  fun fr s Q E rep kk => wpAny_execs_cons (h fr s _ E rep fun f _ _ _ _ h₁ rep₁ => by
    cases f with
    | next => exact h₁ fr _ _ E rep₁ kk
    | brk => exact kk .brk _ _ _ _ h₁ rep₁
    | cont => exact kk .cont _ _ _ _ h₁ rep₁
    | ret v => exact kk (.ret v) _ _ _ _ h₁ rep₁)
theorem s_cont (h : R .cont lo led) : WpS prog w c (exec (.Continue pos) c.env) R lo led := fun _ s _ _ rep kk => wpAny_Continue (kk .cont _ _ s.heap s.toks h rep)
theorem s_ret {e : Expr} (h : WpV prog w c (eval e c.env) (fun v => R (.ret v)) lo led) : WpS prog w c (exec (.Return (some e) pos) c.env) R lo led :=
  fun fr s Q E rep kk => wpAny_Return_some (h fr s _ E rep fun v _ _ _ _ h₁ rep₁ => kk (.ret v) _ _ _ _ h₁ rep₁)
theorem s_retn (h : R (.ret .none) lo led) : WpS prog w c (exec (.Return none pos) c.env) R lo led := fun _ s _ _ rep kk => wpAny_Return_none (kk (.ret .none) _ _ s.heap s.toks h rep)
theorem s_if {t : Expr} {b o : List Stmt} (h : Wp prog w c (isTrue t c.env (eval t c.env)) (fun x lo₁ led₁ => if x then WpS prog w c (execs b c.env) R lo₁ led₁ else WpS prog w c (execs o c.env) R lo₁ led₁) lo led) :
    WpS prog w c (exec (.If t b o pos) c.env) R lo led :=
  fun fr s Q E rep kk => wpAny_If (h fr s _ E rep fun x _ _ _ _ h₁ rep₁ => by
    cases x
    · exact h₁ fr _ _ E rep₁ kk
    · exact h₁ fr _ _ E rep₁ kk)
theorem s_expr {e : Expr} (ok : c.Ok w n) (h : WpV prog w c (eval e c.env) (fun _ => R .next) lo led) (hs : autoParam (swapsWith e none pos.line c.env = pure false) maw._auto_1) : WpS prog w c (exec (.Expr e pos) c.env) R lo led :=
  fun fr s Q E rep kk => wpAny_Expr_any (h fr s _ E rep fun v _ _ _ _ h₁ rep₁ => kk .next _ _ _ _ h₁ rep₁) (by unfold interactive; rw [ok.kind]; rfl) hs
noncomputable def Sto (prog : Program) (w : World) (c : Cx) (x : Str) (a : AV) (R : Lo → Led → Prop) (lo : Lo) (led : Led) : Prop :=
  ∀ v, er v = a → Wp prog w c (storeName c.env x v) (fun _ => R) lo led
theorem st_local {R : Lo → Led → Prop} {x : Str} {i : Nat} {a : AV} (ok : c.Ok w n) (hf : find c.env.scope.names x = some (i, .local)) (hi : i < lo.length) (h : R (lo.set i (some a)) led) : Sto prog w c x a R lo led := by
  intro v hv fr s Q E rep kk
  obtain ⟨m, hn, hm⟩ := rep.ns
  subst hv
  refine wpAny_storeName_local (m := m) (find_lookup hf) (by rw [ok.loc]; exact hn) (fun h' hn' hs => ?_) (by rw [ok.kind]; rfl)
  rw [ok.loc] at hn' hs
  exact kk () _ _ _ _ h (rep.set hf hi hm hn' hs)
theorem st_cell {R : Lo → Led → Prop} {x : Str} {i : Nat} {a : AV} {v₀ : Option AV} {l : Addr} {led' : Led} (ok : c.Ok w n) (hf : find c.env.scope.names x = some (i, .cell)) (hc : c.env.cells.lookup x = some l) (hu : Up l (.cell v₀) (.cell (some a)) led led')
    (h : R lo led') : Sto prog w c x a R lo led := by
  intro v hv fr s Q E rep kk
  subst hv
  obtain ⟨_, _, o, ho, v', hd, _⟩ := rep.own _ (List.mem_append_left _ hu.mem)
  refine wpAny_storeName_cell ok.kind (find_lookup hf) hc ⟨o, ho, hd⟩ fun h' hv hs => ?_
  obtain ⟨o', ho', hd'⟩ := hv
  exact kk () _ _ _ s.toks h (rep.up (hu.app fr) (fun b hb x e => (hs.2 b hb).trans e) ho' ⟨_, hd', rfl⟩)
theorem s_asg {x : Str} {value : Expr} (h : WpV prog w c (eval value c.env) (fun a => Sto prog w c x a (R .next)) lo led) (hs : autoParam (swapsWith value (some (.Name x p')) pos.line c.env = pure false) maw._auto_1) :
    WpS prog w c (exec (.Assign [.Name x p'] value pos) c.env) R lo led :=
  fun fr s Q E rep kk => wpAny_Assign_Name (h fr s _ E rep fun v _ _ _ _ h₁ rep₁ => h₁ v rfl fr _ _ E rep₁ fun _ _ _ _ _ h₂ rep₂ => kk .next _ _ _ _ h₂ rep₂) hs
theorem s_aug {x : Str} {i : Nat} {a : AV} {value : Expr} {op : Operator} (ok : c.Ok w n) (hf : find c.env.scope.names x = some (i, .local)) (hv : lo[i]? = some (some a))
    (h : WpV prog w c (eval value c.env) (fun b lo₁ led₁ => Iop prog w c op a b (fun r => Sto prog w c x r (R .next)) lo₁ led₁) lo led) : WpS prog w c (exec (.AugAssign (.Name x p') op value pos) c.env) R lo led := by
  intro fr s Q E rep kk
  obtain ⟨m, hn, hm⟩ := rep.ns
  have e := hm x
  rw [look_get hf hv] at e
  obtain ⟨u, hu, rfl⟩ := Option.map_eq_some_iff.mp e
  exact wpAny_AugAssign_Name (wpAny_loadName_local ok.kind (find_lookup hf) (by rw [ok.loc]; exact hn) hu (h fr s _ E rep fun b _ _ _ _ h₁ rep₁ => h₁ u b rfl rfl fr _ _ E rep₁ fun r _ _ _ _ h₂ rep₂ => h₂ r rfl fr _ _ E rep₂ fun _ _ _ _ _ h₃ rep₃ => kk .next _ _ _ _ h₃ rep₃))
noncomputable def Sit (prog : Program) (w : World) (c : Cx) (o i a : AV) (R : Lo → Led → Prop) (lo : Lo) (led : Led) : Prop :=
  ∀ ov iv v, er ov = o → er iv = i → er v = a → Wp prog w c (setItem ov iv v) (fun _ => R) lo led
theorem s_asgi {o i value : Expr} (h : WpV prog w c (eval value c.env) (fun a lo₁ led₁ => WpV prog w c (eval o c.env) (fun oa lo₂ led₂ => WpV prog w c (eval i c.env) (fun ia => Sit prog w c oa ia a (R .next)) lo₂ led₂) lo₁ led₁) lo led)
    (hs : autoParam (swapsWith value (some (.Subscript o i p')) pos.line c.env = pure false) maw._auto_1) : WpS prog w c (exec (.Assign [.Subscript o i p'] value pos) c.env) R lo led :=
  fun fr s Q E rep kk => wpAny_Assign_Subscript (h fr s _ E rep fun v _ _ _ _ h₁ rep₁ => h₁ fr _ _ E rep₁ fun ov _ _ _ _ h₂ rep₂ => h₂ fr _ _ E rep₂ fun iv _ _ _ _ h₃ rep₃ => h₃ ov iv v rfl rfl rfl fr _ _ E rep₃ fun _ _ _ _ _ h₄ rep₄ => kk .next _ _ _ _ h₄ rep₄) hs
end
end
end Mine
namespace Mine
open PySem PySem.Spec PySem.Calls PyProof.Rows PySem.W
section
variable {prog : Program} {w : World} {c : Cx} {n : Nat} {lo : Lo} {led : Led}
structure Nexts (prog : Program) (w : World) (c : Cx) (it : Addr) (items : List AV) (St : Nat → AO) (side : Led → Prop) : Prop where
  some : ∀ (i : Nat) (v : AV) (lo : Lo) (led : Led), items[i]? = some v → side led →
    Wp prog w c (pyNext (.ref it)) (fun r lo' led' => ∃ u, r = Option.some u ∧ er u = v ∧ lo' = lo ∧ led' = (it, St (i + 1)) :: led) lo ((it, St i) :: led)
  none : ∀ (lo : Lo) (led : Led), side led →
    Wp prog w c (pyNext (.ref it)) (fun r lo' led' => r = Option.none ∧ lo' = lo ∧ led' = led) lo ((it, St items.length) :: led)
theorem Rep.rot {h : Heap} {lo : Lo} {p : Addr × AO} {led fr : Led} (r : Rep w c lo (p :: led ++ fr) h) : Rep w c lo (led ++ p :: fr) h :=
  r.perm List.perm_middle.symm
theorem Rep.tor {h : Heap} {lo : Lo} {p : Addr × AO} {led fr : Led} (r : Rep w c lo (led ++ p :: fr) h) : Rep w c lo (p :: led ++ fr) h :=
  r.perm List.perm_middle
theorem Rep.dropExt {h h' : Heap} {lo : Lo} {it : Addr} {o : AO} {led : Led} (rep : Rep w c lo ((it, o) :: led) h) (ex : Heap.ExtBut it h h') : Rep w c lo led h' := by
  have ne : ∀ q ∈ led, q.1 ≠ it := fun q hq e => (List.nodup_cons.mp rep.nodup).1 (by have := List.mem_map_of_mem (f := (·.1)) hq; rw [e] at this; exact this)
  have r2 := rep.sub (List.sublist_cons_self _ _)
  have hb := (rep.own _ (.head _)).2.1
  refine ⟨?_, fun b x e => ex b x (fun e2 => ?_) (rep.keep b x e), rep.above, fun q hq => ?_, r2.nodup⟩
  · obtain ⟨m, ⟨ol, es, ep, hl, rest⟩, e⟩ := rep.ns
    exact ⟨m, ⟨ol, es, ep, ex _ _ (fun e => (rep.own _ (.head _)).1 e.symm) hl, rest⟩, e⟩
  · rw [e2, hb] at e; cases e
  · obtain ⟨a, b, x, e, y⟩ := r2.own q hq
    exact ⟨a, b, x, ex _ _ (ne q hq) e, y⟩
noncomputable def rangeOf (k : Nat) : List AV := (List.range k).map fun (i : Nat) => .int (i : Int)
theorem rangeOf_len (k : Nat) : (rangeOf k).length = k := by simp [rangeOf]
theorem rangeOf_get {k i : Nat} {v : AV} (h : (rangeOf k)[i]? = some v) : i < k ∧ v = .int (i : Int) := by
  unfold rangeOf at h
  rw [List.getElem?_map] at h
  obtain ⟨a, h1, h2⟩ := Option.map_eq_some_iff.mp h
  obtain ⟨h3, h4⟩ := List.getElem?_eq_some_iff.mp h1
  rw [List.getElem_range] at h4
  subst h4
  exact ⟨by simpa using h3, h2.symm⟩
theorem for_core {x : Str} {px : Pos} {body : List Stmt} {R : AF → Lo → Led → Prop} {it : Addr} {items : List AV} {St : Nat → AO} {side : Led → Prop} (I : List AV → Lo → Led → Prop)
    (N : Nexts prog w c it items St side) (hs : ∀ pre post lo led, items = pre ++ post → I pre lo led → side led)
    (turn : ∀ pre v post lo led, items = pre ++ v :: post → I pre lo led → Sto prog w c x v (fun lo₁ led₁ => WpS prog w c (execs body c.env) (fun f lo₂ led₂ => match f with
      | .next | .cont => I (pre ++ [v]) lo₂ led₂
      | .brk => R .next lo₂ led₂
      | .ret a => R (.ret a) lo₂ led₂) lo₁ led₁) lo led)
    (done : ∀ lo led, I items lo led → R .next lo led) {fr : Led} {s : Shared} {Q : Flow → Shared → Prop} {E : Value → Shared → Prop}
    (h : I [] lo led) (rep : Rep w c lo ((it, St 0) :: led ++ fr) s.heap)
    (kk : ∀ a lo' led' h' tk', R (erF a) lo' led' → Rep w c lo' (led' ++ fr) h' → Q a { s with heap := h', toks := tk' }) :
    codeAny (model prog w) c.A (.forLoop (.Name x px) (.ref it) body [] c.env) (fun r s' => match r with | .ok f => Q f s' | .error e => cameBackBy (model prog w) c.A c.env E e s') s := by
  refine codeAny_forLoop (fun k s' => ∃ pre post lo' led' h' tk', items = pre ++ post ∧ post.length = k ∧ I pre lo' led' ∧ Rep w c lo' ((it, St pre.length) :: led' ++ fr) h' ∧ s' = { s with heap := h', toks := tk' }) ?_ items.length
    ⟨[], items, lo, led, s.heap, s.toks, rfl, rfl, h, rep, rfl⟩ (by intro _; rfl)
  rintro k s' ⟨pre, post, lo', led', h', tk', hi, hk, hI, rep', rfl⟩
  cases post with
  | nil =>
    rw [List.append_nil] at hi
    subst hi
    refine N.none lo' led' (hs items [] lo' led' (by simp) hI) fr _ _ _ rep' ?_
    rintro r lo₁ led₁ h₁ t₁ ⟨rfl, rfl, rfl⟩ rep₁
    exact wpAny_execs_nil (kk .next _ _ _ _ (done _ _ hI) rep₁)
  | cons v post =>
    refine N.some pre.length v lo' led' (by rw [hi]; simp) (hs pre (v :: post) lo' led' hi hI) fr _ _ _ rep' ?_
    rintro r lo₁ led₁ h₁ t₁ ⟨u, rfl, rfl, rfl, rfl⟩ rep₁
    refine wpAny_assign_Name (turn pre (er u) post _ _ hi hI u rfl ((it, St (pre.length + 1)) :: fr) _ _ _ rep₁.rot ?_)
    intro _ lo₂ led₂ h₂ t₂ hw rep₂
    refine hw ((it, St (pre.length + 1)) :: fr) _ _ _ rep₂ ?_
    intro f lo₃ led₃ h₃ t₃ hR rep₃
    have key : I (pre ++ [er u]) lo₃ led₃ → ∃ m, m < k ∧ ∃ pre' post' lo' led' h' tk', items = pre' ++ post' ∧ post'.length = m ∧ I pre' lo' led' ∧ Rep w c lo' ((it, St pre'.length) :: led' ++ fr) h' ∧ ({ s with heap := h₃, toks := t₃ } : Shared) = { s with heap := h', toks := tk' } := fun hI' =>
      ⟨post.length, by rw [← hk]; exact Nat.lt_succ_self _, pre ++ [er u], post, lo₃, led₃, h₃, t₃, by rw [hi]; simp, rfl, hI', by simpa using rep₃.tor, rfl⟩
    cases f with
    | next => exact key hR
    | cont => exact key hR
    | brk => exact kk .next _ _ _ _ hR (rep₃.sub (by simp))
    | ret a => exact kk (.ret a) _ _ _ _ hR (rep₃.sub (by simp))
theorem nexts_list {it l : Addr} {items : List AV} (hh : c.A.handled = none) : Nexts prog w c it items (fun i => .liter l i) (fun led => At w c led l (.list items)) where
  some i v lo led hv hs fr s Q E rep kk := by
    obtain ⟨_, _, o, ho, hc, hd⟩ := rep.own _ (.head _)
    have hs' : At w c ((it, .liter l i) :: led) l (.list items) := hs.imp (fun x => .tail _ x) id
    obtain ⟨vs, hl, hm⟩ := hs'.list rep
    subst hm
    obtain ⟨u, hu, rfl⟩ : ∃ u, vs[i]? = Option.some u ∧ er u = v := by simpa using hv
    refine wpAny_pyNext_list_item ⟨o, ho, hc, hd⟩ hl (by simpa using hu) fun h' hit sb => ?_
    obtain ⟨o', ho', hc', hd'⟩ := hit
    exact kk _ _ _ _ s.toks ⟨u, rfl, rfl, rfl, rfl⟩ (rep.up (.head) (fun b hb x e => (sb.2 b hb).trans e) ho' ⟨hc', hd'⟩)
  none lo led hs fr s Q E rep kk := by
    obtain ⟨_, hb, o, ho, hc, hd⟩ := rep.own _ (.head _)
    have hs' : At w c ((it, .liter l items.length) :: led) l (.list items) := hs.imp (fun x => .tail _ x) id
    obtain ⟨vs, hl, hm⟩ := hs'.list rep
    subst hm
    refine wpAny_pyNext_list_end hh ⟨o, ho, hc, by simpa using hd⟩ hl (by simp) fun h' ex => ?_
    refine kk Option.none lo led _ s.toks ⟨rfl, rfl, rfl⟩ ?_
    exact rep.dropExt ex
theorem nexts_range {it : Addr} {k : Nat} (hh : c.A.handled = none) : Nexts prog w c it (rangeOf k) (fun i => .riter i ((k : Int) - i) 1) (fun _ => True) where
  some i v lo led hv hs fr s Q E rep kk := by
    obtain ⟨_, _, o, ho, rfl⟩ := rep.own _ (.head _)
    have hi := rangeOf_get hv
    obtain ⟨hi, rfl⟩ := hi
    refine wpAny_pyNext_range_item ho (by omega) fun h' hit sb => ?_
    refine kk _ _ _ _ _ ⟨_, rfl, rfl, rfl, rfl⟩ (rep.up (.head) (fun b hb x e => (sb.2 b hb).trans e) hit ?_)
    show _ = _
    rw [show ((i + 1 : Nat) : Int) = (i : Int) + 1 by omega, show (k : Int) - ((i : Int) + 1) = (k : Int) - i - 1 by omega]
  none lo led hs fr s Q E rep kk := by
    obtain ⟨_, hb, o, ho, rfl⟩ := rep.own _ (.head _)
    refine wpAny_pyNext_range_end hh ho (by rw [rangeOf_len]; omega) fun h' ex => ?_
    refine kk Option.none lo led _ s.toks ⟨rfl, rfl, rfl⟩ ?_
    exact rep.dropExt ex
theorem s_for_list {x : Str} {px pos : Pos} {iter : Expr} {body : List Stmt} {R : AF → Lo → Led → Prop} (ok : c.Ok w n) (l : Addr) (items : List AV) (I : List AV → Lo → Led → Prop)
    (h : WpV prog w c (eval iter c.env) (fun a lo₁ led₁ => a = .ref l ∧ At w c led₁ l (.list items) ∧ I [] lo₁ led₁) lo led)
    (hs : ∀ pre post lo led, items = pre ++ post → I pre lo led → At w c led l (.list items))
    (turn : ∀ pre v post lo led, items = pre ++ v :: post → I pre lo led → Sto prog w c x v (fun lo₁ led₁ => WpS prog w c (execs body c.env) (fun f lo₂ led₂ => match f with
      | .next | .cont => I (pre ++ [v]) lo₂ led₂
      | .brk => R .next lo₂ led₂
      | .ret a => R (.ret a) lo₂ led₂) lo₁ led₁) lo led)
    (done : ∀ lo led, I items lo led → R .next lo led) (hf : autoParam (∀ x, foldedSetIterable iter c.env x = pure x) mai._auto_1) :
    WpS prog w c (exec (.For (.Name x px) iter body [] pos) c.env) R lo led := by
  intro fr s Q E rep kk
  refine wpAny_For (h fr s _ E rep ?_) hf
  rintro v lo₁ led₁ h₁ t₁ ⟨hv, hat, hI⟩ rep₁
  obtain rfl := er_ref hv
  obtain ⟨vs, hl, hm⟩ := hat.list rep₁
  refine wpAny_pyIter_list hl ?_
  refine for_core (it := h₁.objs.size) I (nexts_list ok.handled) hs turn done hI (rep₁.push _ _ ⟨rfl, rfl⟩) kk
theorem small_range {k : Nat} (hk : k ≤ 1000000) : Builtin.Range.small 0 k 1 = true ∧ Builtin.Range.rangeSize 0 k 1 = k := by
  have e : Builtin.Range.rangeSize 0 k 1 = k := by unfold Builtin.Range.rangeSize; simp; omega
  refine ⟨?_, e⟩
  unfold Builtin.Range.small
  rw [e]
  unfold Builtin.Range.rangeFitsLong
  simp
  omega
theorem s_for_range {x : Str} {px pos : Pos} {iter : Expr} {body : List Stmt} {R : AF → Lo → Led → Prop} (ok : c.Ok w n) (k : Nat) (hk : k ≤ 1000000) (I : List AV → Lo → Led → Prop)
    (h : WpV prog w c (eval iter c.env) (fun a lo₁ led₁ => ∃ r led₂, a = .ref r ∧ led₁ = (r, .range 0 k 1) :: led₂ ∧ I [] lo₁ led₂) lo led)
    (turn : ∀ pre v post lo led, rangeOf k = pre ++ v :: post → I pre lo led → Sto prog w c x v (fun lo₁ led₁ => WpS prog w c (execs body c.env) (fun f lo₂ led₂ => match f with
      | .next | .cont => I (pre ++ [v]) lo₂ led₂
      | .brk => R .next lo₂ led₂
      | .ret a => R (.ret a) lo₂ led₂) lo₁ led₁) lo led)
    (done : ∀ lo led, I (rangeOf k) lo led → R .next lo led) (hf : autoParam (∀ x, foldedSetIterable iter c.env x = pure x) mai._auto_1) :
    WpS prog w c (exec (.For (.Name x px) iter body [] pos) c.env) R lo led := by
  intro fr s Q E rep kk
  refine wpAny_For (h fr s _ E rep ?_) hf
  rintro v lo₁ led₁ h₁ t₁ ⟨r, led₂, hv, rfl, hI⟩ rep₁
  obtain rfl := er_ref hv
  obtain ⟨_, _, o, ho, t, u, v, rfl⟩ := rep₁.own _ (.head _)
  obtain ⟨hsm, hsz⟩ := small_range hk
  refine wpAny_pyIter_range ho hsm ?_
  rw [hsz]
  refine for_core (it := h₁.objs.size) I (nexts_range (k := k) ok.handled) (fun _ _ _ _ _ _ => trivial) turn done hI ?_ kk
  have := (rep₁.sub (led' := led₂ ++ fr) (List.sublist_cons_self _ _)).push { cls := .type "range_iterator", data := .fields #[rawInt 0, rawInt k, rawInt 1] } (.riter (0 : Nat) ((k : Int) - (0 : Nat)) 1) (by show _ = _; simp)
  exact this
end
end Mine
namespace Mine
open PySem PySem.Spec PySem.Calls PyProof.Rows PySem.W
noncomputable def erB (l : List (Str × Value)) : List (Str × AV) := l.map fun p => (p.1, er p.2)
theorem lookup_erB : ∀ (l : List (Str × Value)) (x : Str), (l.lookup x).map er = (erB l).lookup x
  | [], _ => rfl
  | (y, v) :: r, x => by
    simp only [erB, List.map_cons, List.lookup_cons]
    cases x == y
    · exact lookup_erB r x
    · rfl
theorem erB_rev (l : List (Str × Value)) : erB l.reverse = (erB l).reverse := by simp [erB]
theorem erB_zip : ∀ (ns : List Str) (vs : List Value), erB (ns.zip vs) = ns.zip (vs.map er)
  | [], _ => by simp [erB]
  | _ :: _, [] => by simp [erB]
  | n :: ns, v :: vs => by have := erB_zip ns vs; simp only [erB] at this ⊢; simp [this]
noncomputable def initLo (names : List (Str × NameKind)) (ab : List (Str × AV)) : Lo := names.map fun p => if p.2 = .local then ab.reverse.lookup p.1 else none
theorem look_init (ab : List (Str × AV)) (x : Str) : ∀ names : List (Str × NameKind), look names (initLo names ab) x = if names.lookup x = some .local then ab.reverse.lookup x else none
  | [] => by simp [look]
  | (y, k) :: r => by
    have ih := look_init ab x r
    simp only [initLo, List.map_cons, look, List.lookup_cons] at ih ⊢
    by_cases e : x = y
    · subst e; simp
    · have e' : (x == y) = false := beq_eq_false_iff_ne.mpr e
      simp only [if_neg e, e']; exact ih
theorem bindL_eq (kd : Str → Option NameKind) : ∀ (binds : List (Str × Value)) (m : Str → Option Value) (x : Str), bindL kd binds m x = if kd x = some .local then (binds.reverse.lookup x).or (m x) else m x
  | [], m, x => by simp [bindL]
  | (y, v) :: r, m, x => by
    rw [bindL, bindL_eq kd r]
    simp only [List.reverse_cons, List.lookup_append, List.lookup_cons, List.lookup_nil]
    by_cases h1 : kd x = some .local
    · simp only [if_pos h1]
      by_cases e : x = y
      · subst e; simp [h1]
      · have e' : (x == y) = false := beq_eq_false_iff_ne.mpr e
        by_cases h2 : kd y = some .local <;> simp [h2, e, e']
    · simp only [if_neg h1]
      by_cases e : x = y
      · subst e; simp [h1]
      · by_cases h2 : kd y = some .local <;> simp [h2, e]
theorem bindC_eq (kd : Str → Option NameKind) : ∀ (binds : List (Str × Value)) (m : Str → Option Value) (x : Str), bindC kd binds m x = if kd x = some .local then m x else (binds.reverse.lookup x).or (m x)
  | [], m, x => by simp [bindC]
  | (y, v) :: r, m, x => by
    rw [bindC, bindC_eq kd r]
    simp only [List.reverse_cons, List.lookup_append, List.lookup_cons, List.lookup_nil]
    by_cases h1 : kd x = some .local
    · simp only [if_pos h1]
      by_cases e : x = y
      · subst e; simp [h1]
      · by_cases h2 : kd y = some .local <;> simp [h2, e]
    · simp only [if_neg h1]
      by_cases e : x = y
      · subst e; simp [h1]
      · have e' : (x == y) = false := beq_eq_false_iff_ne.mpr e
        by_cases h2 : kd y = some .local <;> simp [h2, e, e']
noncomputable def cellLed (names : List (Str × NameKind)) (ab : List (Str × AV)) (L : Addr) : Led :=
  (cellsFrom (L + 1) names []).map fun p => (p.2, .cell (if names.lookup p.1 = some .local then none else ab.reverse.lookup p.1))
noncomputable def retOf : AF → AV
  | .ret a => a
  | _ => .none
section
variable {prog : Program} {w : World} {c : Cx} {n : Nat} {lo : Lo} {led : Led}
theorem Rep.back {c c' : Cx} {lo lo' : Lo} {led led' : Led} {h h' : Heap} (r : Rep w c lo led h) (hb : c'.base = hideAll h (led.map (·.1))) (r' : Rep w c' lo' led' h') : Rep w c lo led' h' := by
  have hL : c.L ∉ led.map (·.1) := fun q => by
    obtain ⟨p, hp, e⟩ := List.mem_map.mp q
    exact (r.own p hp).1 e
  have nm : ∀ b o, c.base.get? b = some o → c'.base.get? b = some o := fun b o e => by
    rw [hb]
    refine hideAll_get _ (r.keep b o e) fun q => ?_
    obtain ⟨p, hp, e2⟩ := List.mem_map.mp q
    have := (r.own p hp).2.1
    rw [show p.1 = b from e2, e] at this; cases this
  obtain ⟨m, ⟨oL, es, ep, hl, rest⟩, hm⟩ := r.ns
  have hLb : c'.base.get? c.L = some oL := by rw [hb]; exact hideAll_get _ hl hL
  refine ⟨⟨m, ⟨oL, es, ep, r'.keep _ _ hLb, rest⟩, hm⟩, fun b o e => r'.keep _ _ (nm b o e), r.above, fun q hq => ?_, r'.nodup⟩
  obtain ⟨a1, a2, o, a3, a4⟩ := r'.own q hq
  refine ⟨fun e => ?_, ?_, o, a3, a4⟩
  · rw [e, hLb] at a2; cases a2
  · cases e : c.base.get? q.1 with
    | none => rfl
    | some x => rw [nm _ _ e] at a2; cases a2
theorem Rep.base_ext {c c' : Cx} {lo : Lo} {led : Led} {h : Heap} (r : Rep w c lo led h) (hb : c'.base = hideAll h (led.map (·.1))) : ∀ b o, c.base.get? b = some o → c'.base.get? b = some o := fun b o e => by
  rw [hb]
  refine hideAll_get _ (r.keep b o e) fun q => ?_
  obtain ⟨p, hp, e2⟩ := List.mem_map.mp q
  have := (r.own p hp).2.1
  rw [show p.1 = b from e2, e] at this; cases this
theorem Rep.enter {c c' : Cx} {lo lo₀ : Lo} {led cells : Led} {h h₁ : Heap} (r : Rep w c lo led h) (hb : c'.base = hideAll h (led.map (·.1))) (hL : c'.L = h.objs.size)
    (keep : ∀ b o, h.get? b = some o → h₁.get? b = some o) (hn : ∃ m, h₁.Ns c'.L m ∧ ∀ x, (m x).map er = look c'.env.scope.names lo₀ x)
    (hc : ∀ p ∈ cells, c'.L < p.1 ∧ ∃ o, h₁.get? p.1 = some o ∧ p.2.holds w.params o) (hd : (cells.map (·.1)).Nodup) : Rep w c' lo₀ (cells ++ led) h₁ := by
  refine ⟨hn, fun b o e => keep b o (of_hideAll _ (hb ▸ e)), by rw [hb, hL, hideAll_size]; exact Nat.le_refl _, fun q hq => ?_, ?_⟩
  · rcases List.mem_append.mp hq with hq | hq
    · obtain ⟨h1, o, h2, h3⟩ := hc q hq
      refine ⟨Nat.ne_of_gt h1, ?_, o, h2, h3⟩
      cases e : c'.base.get? q.1 with
      | none => rfl
      | some x =>
        have := Heap.lt_size e
        rw [hb, hideAll_size, ← hL] at this
        exact absurd h1 (Nat.lt_asymm this)
    · obtain ⟨h1, h2, o, h3, h4⟩ := r.own q hq
      exact ⟨by rw [hL]; exact Nat.ne_of_lt (Heap.lt_size h3), by rw [hb]; exact hideAll_none _ (List.mem_map_of_mem hq), o, keep _ _ h3, h4⟩
  · rw [List.map_append]
    refine List.nodup_append.mpr ⟨hd, r.nodup, fun a ha b hb' e => ?_⟩
    obtain ⟨p, hp, rfl⟩ := List.mem_map.mp ha
    obtain ⟨q, hq, rfl⟩ := List.mem_map.mp hb'
    obtain ⟨_, _, o, h3, _⟩ := r.own q hq
    have h1 := (hc p hp).1
    have h2 := Heap.lt_size h3
    rw [hL] at h1
    rw [e] at h1
    exact absurd h1 (Nat.lt_asymm h2)
theorem cells_nodup : ∀ (names : List (Str × NameKind)) (n : Nat) (acc : List (Str × Addr)), (acc.map (·.2)).Nodup → (∀ p ∈ acc, p.2 < n) → ((cellsFrom n names acc).map (·.2)).Nodup
  | [], _, acc, h, _ => h
  | (x, k) :: r, n, acc, h, hlt => by
    unfold cellsFrom
    split
    · refine cells_nodup r (n + 1) _ ?_ ?_
      · refine List.nodup_cons.mpr ⟨fun hm => ?_, h⟩
        obtain ⟨p, hp, e⟩ := List.mem_map.mp hm
        exact absurd (hlt p hp) (by rw [show p.2 = n from e]; exact Nat.lt_irrefl _)
      · intro p hp
        rcases List.mem_cons.mp hp with rfl | hp
        · exact Nat.lt_succ_self _
        · exact Nat.lt_succ_of_lt (hlt p hp)
    · exact cells_nodup r n acc h hlt
noncomputable def CodeP (prog : Program) (w : World) (c : Cx) (f : Value) (as : List AV) (R : AV → Lo → Led → Prop) (lo : Lo) (led : Led) : Prop :=
  ∀ vs, vs.map er = as → ∀ (fr : Led) (s : Shared) (Rc : Result → Shared → Prop), Rep w c lo (led ++ fr) s.heap →
    (∀ a lo' led' h' tk', R (er a) lo' led' → Rep w c lo' (led' ++ fr) h' → Rc (.ok (.ret a)) { s with heap := h', toks := tk' }) → codeAny (model prog w) c.A (.call f ⟨vs, []⟩) Rc s
theorem CodeP.call {f : Value} {as : List AV} {R : AV → Lo → Led → Prop} (h : CodeP prog w c f as R lo led) : Call prog w c f as R lo led :=
  fun vs hvs fr s Q E rep kk => wpAny_call (h vs hvs fr s _ rep kk)
theorem code_fn {f : Addr} {fo : Obj} {fd : FuncData} {body : List Stmt} {as : List AV} {pn : List Str} {R : AV → Lo → Led → Prop} (lo₀ : Lo) (cl : Addr → Led)
    (ok : c.Ok w (n + 1)) (hK : (KK w).lookup f = some fo) (hd : fo.data = .func fd) (hcd : codeIn (KK w) fd.code fd.qualname = true) (hbody : fd.body = .stmts body) (hclo : fd.closure = [])
    (hgl : fd.globals = mainGlobals) (hbl : fd.builtins = builtinsNs)
    (hb : ∀ vs : List Value, vs.length = as.length → bindArgs fd ⟨vs, []⟩ = pure (pn.zip vs))
    (hkind : (pn.all fun y => fd.scope.names.lookup y == some .local || fd.scope.names.lookup y == some .cell) = true)
    (hnd : ((cellsFrom 0 fd.scope.names []).map (·.1)).Nodup)
    (hlo : initLo fd.scope.names (pn.zip as) = lo₀) (hcl : ∀ L, cellLed fd.scope.names (pn.zip as) L = cl L)
    (h : ∀ c' : Cx, c'.Ok w n → c'.env = callEnvC fd c'.L f → (∀ b o, c.base.get? b = some o → c'.base.get? b = some o) →
      WpS prog w c' (execs body c'.env) (fun fl _ led' => R (retOf fl) lo led') lo₀ (cl c'.L ++ led))
    (hco : autoParam (fd.scope.isCoroutine = false) maw._auto_1) (hgen : autoParam (fd.scope.isGenerator = false) maw._auto_1) (hk : autoParam (fd.scope.kind = .function) maw._auto_1) :
    CodeP prog w c (.ref f) as R lo led := by
  intro vs hvs fr s Rc rep kk
  have hlen : vs.length = as.length := by rw [← hvs, List.length_map]
  have XK := ok.K.keeps rep.keep
  obtain ⟨p, loose, mean, mg, mb, T⟩ := ok.top
  refine codeAny_call_cells (by have := ok.depth; omega) (XK _ _ hK) hd (T.nolimit.keeps rep.keep) (codeRec_of XK hcd) hbody (hb vs hlen) hclo ?_ ?_ hco hgen hk
  · intro x hx
    have hm : x.1 ∈ pn := (List.of_mem_zip (a := x.1) (b := x.2) hx).1
    have := List.all_eq_true.mp hkind x.1 hm
    rcases Bool.or_eq_true_iff.mp this with q | q
    · exact .inl (by simpa using q)
    · have q' : fd.scope.names.lookup x.1 = some .cell := by simpa using q
      exact .inr ⟨q', cellsFrom_some _ _ _ (.inl q')⟩
  · intro s₁ x
    obtain ⟨h₁, tk, rfl, hk₁⟩ := x.done
    let c' : Cx := ⟨hideAll s.heap ((led ++ fr).map (·.1)), s.heap.objs.size, c.A.deeper (callEnvC fd s.heap.objs.size f), callEnvC fd s.heap.objs.size f⟩
    have ext := rep.base_ext (c' := c') rfl
    have ok' : c'.Ok w n := by
      refine ⟨ok.K.keeps ext, ok.top.keeps ext, ok.handled, ?_, ?_, rfl, hgl, hbl, hk⟩
      · have := ok.depth; show c.A.depth + 1 + n < _; omega
      · have := ok.units; show c.A.units + 3 + 8 * n + 40 < _; omega
    have erz : erB (pn.zip vs) = pn.zip as := by rw [erB_zip, hvs]
    have rep' : Rep w c' lo₀ (cl c'.L ++ (led ++ fr)) h₁ := by
      refine rep.enter rfl rfl (fun b o e => hk₁ b o e) ⟨_, x.toInCall.ns, fun y => ?_⟩ ?_ ?_
      · rw [← hlo]
        show Option.map er (bindL (callEnvC fd s.heap.objs.size f).kindOf (pn.zip vs) (fun x => none) y) = look fd.scope.names (initLo fd.scope.names (pn.zip as)) y
        rw [look_init, bindL_eq]
        show Option.map er (if fd.scope.names.lookup y = some .local then _ else _) = if fd.scope.names.lookup y = some .local then _ else _
        split
        · rw [Option.or_none, lookup_erB, erB_rev, erz]
        · rfl
      · intro q hq
        rw [← hcl] at hq
        obtain ⟨⟨y, a⟩, hy, rfl⟩ := List.mem_map.mp hq
        have hl : (callEnvC fd s.heap.objs.size f).cells.lookup y = some a := lookup_of_mem_nodup (cellsFrom_names fd.scope.names 0 (s.heap.objs.size + 1) [] [] rfl ▸ hnd) hy
        obtain ⟨o, ho, hod⟩ := x.cell y a hl
        refine ⟨x.above y a hy, o, ho, _, hod, ?_⟩
        rw [bindC_eq]
        show Option.map er (if fd.scope.names.lookup y = some .local then _ else _) = if fd.scope.names.lookup y = some .local then _ else _
        split
        · rfl
        · rw [Option.or_none, lookup_erB, erB_rev, erz]
      · rw [← hcl]
        unfold cellLed
        rw [List.map_map]
        exact cells_nodup fd.scope.names _ [] List.nodup_nil (fun _ h => nomatch h)
    refine h c' ok' rfl ext fr { s with heap := h₁, toks := tk } _ _ (by rw [List.append_assoc]; exact rep') ?_
    intro fl lo' led' h' tk' hR repE
    exact kk _ lo led' h' tk' (by cases fl <;> exact hR) (rep.back rfl repE)
theorem call_fn {f : Addr} {fo : Obj} {fd : FuncData} {body : List Stmt} {as : List AV} {pn : List Str} {R : AV → Lo → Led → Prop} (lo₀ : Lo) (cl : Addr → Led)
    (ok : c.Ok w (n + 1)) (hK : (KK w).lookup f = some fo) (hd : fo.data = .func fd) (hcd : codeIn (KK w) fd.code fd.qualname = true) (hbody : fd.body = .stmts body) (hclo : fd.closure = [])
    (hgl : fd.globals = mainGlobals) (hbl : fd.builtins = builtinsNs)
    (hb : ∀ vs : List Value, vs.length = as.length → bindArgs fd ⟨vs, []⟩ = pure (pn.zip vs))
    (hkind : (pn.all fun y => fd.scope.names.lookup y == some .local || fd.scope.names.lookup y == some .cell) = true)
    (hnd : ((cellsFrom 0 fd.scope.names []).map (·.1)).Nodup)
    (hlo : initLo fd.scope.names (pn.zip as) = lo₀) (hcl : ∀ L, cellLed fd.scope.names (pn.zip as) L = cl L)
    (h : ∀ c' : Cx, c'.Ok w n → c'.env = callEnvC fd c'.L f → (∀ b o, c.base.get? b = some o → c'.base.get? b = some o) →
      WpS prog w c' (execs body c'.env) (fun fl _ led' => R (retOf fl) lo led') lo₀ (cl c'.L ++ led))
    (hco : autoParam (fd.scope.isCoroutine = false) maw._auto_1) (hgen : autoParam (fd.scope.isGenerator = false) maw._auto_1) (hk : autoParam (fd.scope.kind = .function) maw._auto_1) :
    Call prog w c (.ref f) as R lo led := (code_fn lo₀ cl ok hK hd hcd hbody hclo hgl hbl hb hkind hnd hlo hcl h hco hgen hk).call
theorem call_fn0 {f : Addr} {fo : Obj} {fd : FuncData} {body : List Stmt} {as : List AV} {pn : List Str} {R : AV → Lo → Led → Prop} (lo₀ : Lo)
    (ok : c.Ok w (n + 1)) (hK : (KK w).lookup f = some fo) (hd : fo.data = .func fd) (hcd : codeIn (KK w) fd.code fd.qualname = true) (hbody : fd.body = .stmts body) (hclo : fd.closure = [])
    (hgl : fd.globals = mainGlobals) (hbl : fd.builtins = builtinsNs)
    (hb : ∀ vs : List Value, vs.length = as.length → bindArgs fd ⟨vs, []⟩ = pure (pn.zip vs))
    (hkind : (pn.all fun y => fd.scope.names.lookup y == some .local || fd.scope.names.lookup y == some .cell) = true)
    (hnd : ((cellsFrom 0 fd.scope.names []).map (·.1)).Nodup)
    (hlo : initLo fd.scope.names (pn.zip as) = lo₀) (hcl : ∀ L, cellLed fd.scope.names (pn.zip as) L = [])
    (h : ∀ c' : Cx, c'.Ok w n → c'.env = callEnvC fd c'.L f → (∀ b o, c.base.get? b = some o → c'.base.get? b = some o) →
      WpS prog w c' (execs body c'.env) (fun fl _ led' => R (retOf fl) lo led') lo₀ led)
    (hco : autoParam (fd.scope.isCoroutine = false) mar._auto_1) (hgen : autoParam (fd.scope.isGenerator = false) mar._auto_1) (hk : autoParam (fd.scope.kind = .function) mar._auto_1) :
    Call prog w c (.ref f) as R lo led :=
  call_fn lo₀ (fun _ => []) ok hK hd hcd hbody hclo hgl hbl hb hkind hnd hlo hcl h hco hgen hk
end
end Mine
namespace Mine
open PySem PySem.Spec PySem.Calls PyProof.Rows PySem.W
section
variable {prog : Program} {w : World} {c : Cx} {n : Nat} {lo : Lo} {led led' : Led} {R : AV → Lo → Led → Prop}
theorem b_add {a b : Int} (h : R (.int (a + b)) lo led) : Bop prog w c .Add (.int a) (.int b) R lo led := by
  intro v u hv hu; obtain ⟨t, rfl⟩ := er_int hv; obtain ⟨t', rfl⟩ := er_int hu
  intro fr s Q E rep kk; with_reducible refine PyProof.Rows.add_int ?_
  exact kk _ _ _ _ _ h rep
theorem b_sub {a b : Int} (h : R (.int (a - b)) lo led) : Bop prog w c .Sub (.int a) (.int b) R lo led := by
  intro v u hv hu; obtain ⟨t, rfl⟩ := er_int hv; obtain ⟨t', rfl⟩ := er_int hu
  intro fr s Q E rep kk; with_reducible refine PyProof.Rows.sub_int ?_
  exact kk _ _ _ _ _ h rep
theorem b_mul {a b : Int} (h : R (.int (a * b)) lo led) (hm : IntMulOk a b) : Bop prog w c .Mult (.int a) (.int b) R lo led := by
  intro v u hv hu; obtain ⟨t, rfl⟩ := er_int hv; obtain ⟨t', rfl⟩ := er_int hu
  intro fr s Q E rep kk; with_reducible refine PyProof.Rows.mul_int ?_ hm
  exact kk _ _ _ _ _ h rep
theorem smallDiv {a b : Int} (hb : b.natAbs < 2 ^ 200) : Builtin.divisionGoesByPylong a b = false := by
  unfold Builtin.divisionGoesByPylong
  have h1 : (if (b == 0) = true then 0 else b.natAbs.log2 / 30 + 1) ≤ 300 := by
    split
    · exact Nat.zero_le _
    · rename_i h0
      have hne : b.natAbs ≠ 0 := by simpa using h0
      have := (Nat.log2_lt hne).mpr hb
      omega
  simp only [gt_iff_lt]
  rw [decide_eq_false (by omega)]
  rfl
theorem b_div {a b : Int} (hb : b ≠ 0) (hs : b.natAbs < 2 ^ 200) (h : R (.int (a.fdiv b)) lo led) : Bop prog w c .FloorDiv (.int a) (.int b) R lo led := by
  intro v u hv hu; obtain ⟨t, rfl⟩ := er_int hv; obtain ⟨t', rfl⟩ := er_int hu
  intro fr s Q E rep kk; with_reducible refine PyProof.Rows.floordiv_int hb ?_ (.inl (smallDiv hs))
  exact kk _ _ _ _ _ h rep
theorem b_mod {a b : Int} (hb : b ≠ 0) (h : R (.int (a.fmod b)) lo led) : Bop prog w c .Mod (.int a) (.int b) R lo led := by
  intro v u hv hu; obtain ⟨t, rfl⟩ := er_int hv; obtain ⟨t', rfl⟩ := er_int hu
  intro fr s Q E rep kk; with_reducible refine PyProof.Rows.mod_int' hb ?_
  exact kk _ _ _ _ _ h rep
theorem b_pow {a b : Int} (hb : 0 ≤ b) (hsz : (Builtin.Int.intBits a : Int) * b ≤ 2 ^ 27) (h : R (.int (a ^ b.toNat)) lo led) : Bop prog w c .Pow (.int a) (.int b) R lo led := by
  intro v u hv hu; obtain ⟨t, rfl⟩ := er_int hv; obtain ⟨t', rfl⟩ := er_int hu
  intro fr s Q E rep kk; with_reducible refine PyProof.Rows.pow_int hb hsz ?_
  exact kk _ _ _ _ _ h rep
theorem b_shr {a b : Int} (hb : 0 ≤ b) (h : R (.int (a.fdiv (2 ^ b.toNat))) lo led) : Bop prog w c .RShift (.int a) (.int b) R lo led := by
  intro v u hv hu; obtain ⟨t, rfl⟩ := er_int hv; obtain ⟨t', rfl⟩ := er_int hu
  intro fr s Q E rep kk; with_reducible refine PyProof.Rows.rshift_int hb ?_
  exact kk _ _ _ _ _ h rep
theorem b_xor {a b : Int} (h : R (.int (Builtin.bitXor a b)) lo led) : Bop prog w c .BitXor (.int a) (.int b) R lo led := by
  intro v u hv hu; obtain ⟨t, rfl⟩ := er_int hv; obtain ⟨t', rfl⟩ := er_int hu
  intro fr s Q E rep kk; with_reducible refine PyProof.Rows.xor_int ?_
  exact kk _ _ _ _ _ h rep
theorem b_divii {a b : Int} (hb : b ≠ 0) (hf : Float64.isInf (Float64.ofFrac (decide (a < 0) != decide (b < 0)) a.natAbs b.natAbs) = false)
    (h : R (.float (Float64.ofFrac (decide (a < 0) != decide (b < 0)) a.natAbs b.natAbs)) lo led) : Bop prog w c .Div (.int a) (.int b) R lo led := by
  intro v u hv hu; obtain ⟨t, rfl⟩ := er_int hv; obtain ⟨t', rfl⟩ := er_int hu
  intro fr s Q E rep kk; with_reducible refine AutoIntOps.truediv_2 (by simpa using hb) (by rw [hf]; exact Bool.false_ne_true) ?_
  exact kk _ _ _ _ _ h rep
theorem c_eq {a b : Int} (h : R (.bool (a == b)) lo led) : Cop prog w c .Eq (.int a) (.int b) R lo led := by
  intro v u hv hu; obtain ⟨t, rfl⟩ := er_int hv; obtain ⟨t', rfl⟩ := er_int hu
  intro fr s Q E rep kk; with_reducible refine PyProof.Rows.eq_int ?_
  exact kk _ _ _ _ _ h rep
theorem c_lt {a b : Int} (h : R (.bool (decide (a < b))) lo led) : Cop prog w c .Lt (.int a) (.int b) R lo led := by
  intro v u hv hu; obtain ⟨t, rfl⟩ := er_int hv; obtain ⟨t', rfl⟩ := er_int hu
  intro fr s Q E rep kk; with_reducible refine PyProof.Rows.lt_int ?_
  exact kk _ _ _ _ _ h rep
theorem c_gt {a b : Int} (h : R (.bool (decide (b < a))) lo led) : Cop prog w c .Gt (.int a) (.int b) R lo led := by
  intro v u hv hu; obtain ⟨t, rfl⟩ := er_int hv; obtain ⟨t', rfl⟩ := er_int hu
  intro fr s Q E rep kk; with_reducible refine PyProof.Rows.gt_int ?_
  exact kk _ _ _ _ _ h rep
theorem c_le {a b : Int} (h : R (.bool (decide (a ≤ b))) lo led) : Cop prog w c .LtE (.int a) (.int b) R lo led := by
  intro v u hv hu; obtain ⟨t, rfl⟩ := er_int hv; obtain ⟨t', rfl⟩ := er_int hu
  intro fr s Q E rep kk; with_reducible refine PyProof.Rows.le_int ?_
  exact kk _ _ _ _ _ h rep
theorem c_ne {a b : Int} (h : R (.bool (a != b)) lo led) : Cop prog w c .NotEq (.int a) (.int b) R lo led := by
  intro v u hv hu; obtain ⟨t, rfl⟩ := er_int hv; obtain ⟨t', rfl⟩ := er_int hu
  intro fr s Q E rep kk; with_reducible refine ne_int ?_
  exact kk _ _ _ _ _ h rep
theorem tr_int {a : Int} {R : Bool → Lo → Led → Prop} (h : R (a != 0) lo led) : Tru prog w c (.int a) R lo led := by
  intro v hv; obtain ⟨t, rfl⟩ := er_int hv
  intro fr s Q E rep kk; with_reducible refine PyProof.Rows.truthy_int ?_
  exact kk _ _ _ _ _ h rep
theorem f_add {a b : UInt64} (h : R (.float (Float64.add a b)) lo led) : Bop prog w c .Add (.float a) (.float b) R lo led := by
  intro v u hv hu; obtain ⟨t, rfl⟩ := er_float hv; obtain ⟨t', rfl⟩ := er_float hu
  intro fr s Q E rep kk; with_reducible refine AutoFloatOps.add_0 ?_
  exact kk _ _ _ _ _ h rep
theorem f_sub {a b : UInt64} (h : R (.float (Float64.sub a b)) lo led) : Bop prog w c .Sub (.float a) (.float b) R lo led := by
  intro v u hv hu; obtain ⟨t, rfl⟩ := er_float hv; obtain ⟨t', rfl⟩ := er_float hu
  intro fr s Q E rep kk; with_reducible refine AutoFloatOps.sub_0 ?_
  exact kk _ _ _ _ _ h rep
theorem f_mul {a b : UInt64} (h : R (.float (Float64.mul a b)) lo led) : Bop prog w c .Mult (.float a) (.float b) R lo led := by
  intro v u hv hu; obtain ⟨t, rfl⟩ := er_float hv; obtain ⟨t', rfl⟩ := er_float hu
  intro fr s Q E rep kk; with_reducible refine AutoFloatOps.mul_0 ?_
  exact kk _ _ _ _ _ h rep
theorem f_div {a b : UInt64} (hz : Float64.isZero b = false) (h : R (.float (Float64.div a b)) lo led) : Bop prog w c .Div (.float a) (.float b) R lo led := by
  intro v u hv hu; obtain ⟨t, rfl⟩ := er_float hv; obtain ⟨t', rfl⟩ := er_float hu
  intro fr s Q E rep kk; with_reducible refine AutoFloatOps.truediv_1 (by rw [hz]; exact Bool.false_ne_true) ?_
  exact kk _ _ _ _ _ h rep
theorem f_mod {a b : UInt64} (hz : Float64.isZero b = false) (h : R (.float (Float64.divmod a b).2) lo led) : Bop prog w c .Mod (.float a) (.float b) R lo led := by
  intro v u hv hu; obtain ⟨t, rfl⟩ := er_float hv; obtain ⟨t', rfl⟩ := er_float hu
  intro fr s Q E rep kk; with_reducible refine AutoFloatOps.mod_1 (by rw [hz]; exact Bool.false_ne_true) ?_
  exact kk _ _ _ _ _ h rep
theorem f_subi {a : UInt64} {b : Int} (hi : Float64.isInf (Float64.ofInt b) = false) (h : R (.float (Float64.sub a (Float64.ofInt b))) lo led) : Bop prog w c .Sub (.float a) (.int b) R lo led := by
  intro v u hv hu; obtain ⟨t, rfl⟩ := er_float hv; obtain ⟨t', rfl⟩ := er_int hu
  intro fr s Q E rep kk; with_reducible refine AutoFloatOps.sub_fi_1 (by rw [hi]; exact Bool.false_ne_true) ?_
  exact kk _ _ _ _ _ h rep
theorem f_muli {a : UInt64} {b : Int} (hi : Float64.isInf (Float64.ofInt b) = false) (h : R (.float (Float64.mul a (Float64.ofInt b))) lo led) : Bop prog w c .Mult (.float a) (.int b) R lo led := by
  intro v u hv hu; obtain ⟨t, rfl⟩ := er_float hv; obtain ⟨t', rfl⟩ := er_int hu
  intro fr s Q E rep kk; with_reducible refine AutoFloatOps.mul_fi_1 (by rw [hi]; exact Bool.false_ne_true) ?_
  exact kk _ _ _ _ _ h rep
theorem f_divi {a : UInt64} {b : Int} (hi : Float64.isInf (Float64.ofInt b) = false) (hz : Float64.isZero (Float64.ofInt b) = false) (h : R (.float (Float64.div a (Float64.ofInt b))) lo led) : Bop prog w c .Div (.float a) (.int b) R lo led := by
  intro v u hv hu; obtain ⟨t, rfl⟩ := er_float hv; obtain ⟨t', rfl⟩ := er_int hu
  intro fr s Q E rep kk; with_reducible refine AutoFloatOps.truediv_fi_2 (by rw [hi]; exact Bool.false_ne_true) (by rw [hz]; exact Bool.false_ne_true) ?_
  exact kk _ _ _ _ _ h rep
theorem f_eq {a b : UInt64} (h : R (.bool (Float64.cmp a b == some Ordering.eq)) lo led) : Cop prog w c .Eq (.float a) (.float b) R lo led := by
  intro v u hv hu; obtain ⟨t, rfl⟩ := er_float hv; obtain ⟨t', rfl⟩ := er_float hu
  intro fr s Q E rep kk; with_reducible refine AutoFloatOps.eq_0 ?_
  exact kk _ _ _ _ _ h rep
theorem k_intf {a : UInt64} {sg : Bool} {m : Nat} {e : Int} (hd : Float64.decode a = .fin sg m e) (h : R (.int (Float64.truncOf sg m e)) lo led) : Call prog w c (.type "int") [.float a] R lo led := by
  intro vs hvs
  obtain ⟨v, rfl, hv⟩ : ∃ v, vs = [v] ∧ er v = .float a := by
    cases vs with
    | nil => cases hvs
    | cons v r => cases r with
      | nil => exact ⟨v, rfl, by simpa using hvs⟩
      | cons _ _ => simp at hvs
  obtain ⟨t, rfl⟩ := er_float hv
  intro fr s Q E rep kk; with_reducible refine PySem.call_int_float hd ?_
  exact kk _ _ _ _ _ h rep
theorem one_of {vs : List Value} {a : AV} (h : vs.map er = [a]) : ∃ v, vs = [v] ∧ er v = a := by
  cases vs with
  | nil => cases h
  | cons v r => cases r with
    | nil => exact ⟨v, rfl, by simpa using h⟩
    | cons _ _ => simp at h
theorem two_of {vs : List Value} {a b : AV} (h : vs.map er = [a, b]) : ∃ v u, vs = [v, u] ∧ er v = a ∧ er u = b := by
  cases vs with
  | nil => cases h
  | cons v r =>
    simp only [List.map_cons, List.cons.injEq] at h
    obtain ⟨u, rfl, h2⟩ := one_of h.2
    exact ⟨v, u, rfl, h.1, h2⟩
theorem three_of {vs : List Value} {a b d : AV} (h : vs.map er = [a, b, d]) : ∃ v u x, vs = [v, u, x] ∧ er v = a ∧ er u = b ∧ er x = d := by
  cases vs with
  | nil => cases h
  | cons v r =>
    simp only [List.map_cons, List.cons.injEq] at h
    obtain ⟨u, x, rfl, h2, h3⟩ := two_of h.2
    exact ⟨v, u, x, rfl, h.1, h2, h3⟩
theorem k_round {a : UInt64} (ok : c.Ok w n) (hf : Float64.isNaN a = false) (hi : Float64.isInf a = false) (h : R (.int (Flt.toInt Float64.nearestOf a)) lo led) : Call prog w c (.builtin "round") [.float a] R lo led := by
  intro vs hvs
  obtain ⟨v, rfl, hv⟩ := one_of hvs
  obtain ⟨t, rfl⟩ := er_float hv
  intro fr s Q E rep kk
  with_reducible refine Flt.call_round_float ok.handled (fun e => by rw [hf] at e; cases e) (fun e => by rw [hi] at e; cases e) fun _ => ?_
  exact kk _ _ _ _ _ h rep
theorem IsL.of_up {a : Addr} {xs : List AV} {o : AO} (u : Up a (.list xs) o led led') : IsL w c led a xs := .mem u.mem
theorem g_list {value slice : Expr} {l : Addr} {xs : List AV} {k : Int} {x : AV} (hl : IsL w c led l xs) (h0 : 0 ≤ k) (h1 : k < 2 ^ 63) (hx : xs[k.toNat]? = some x) (h : R x lo led)
    (hs : autoParam (∀ u, subscripted slice false (.ref l) (.int k u) = operate [.ref l, .int k u] (getItem (.ref l) (.int k u))) mai._auto_1)
    (hg : autoParam (∀ r, letTemporaryGo value (.ref l) r = pure ()) mai._auto_1) : Sub prog w c value slice (.ref l) (.int k) R lo led := by
  intro v u hv hu; obtain rfl := er_ref hv; obtain ⟨t', rfl⟩ := er_int hu
  intro fr s Q E rep kk
  obtain ⟨vs, hl', rfl⟩ := hl _ _ _ rep
  obtain ⟨y, hy, rfl⟩ : ∃ y, vs[k.toNat]? = some y ∧ er y = x := by
    rw [List.getElem?_map] at hx; exact Option.map_eq_some_iff.mp hx
  with_reducible refine item_listL hl' h0 h1 hy ?_ (hs _) hg
  exact kk _ _ _ _ s.toks h rep
theorem set_list {l : Addr} {xs : List AV} {k : Int} {x : AV} {R : Lo → Led → Prop} (u : Up l (.list xs) (.list (xs.set k.toNat x)) led led') (h0 : 0 ≤ k) (h1 : k.toNat < xs.length) (h2 : xs.length < 2 ^ 62) (h : R lo led') :
    Sit prog w c (.ref l) (.int k) x R lo led := by
  intro ov iv v ho hi hv; obtain rfl := er_ref ho; obtain ⟨t', rfl⟩ := er_int hi; subst hv
  intro fr s Q E rep kk
  obtain ⟨_, _, o, ho, vs, m, rfl, rfl⟩ := rep.own _ (List.mem_append_left _ u.mem)
  simp only [List.length_map] at h1 h2
  with_reducible refine ki_setAt (items := vs.toArray) (n := m) ho h0 (by omega) (by rw [List.size_toArray]; omega) ?_
  refine kk () _ _ _ s.toks h (rep.up (u.app fr) (fun b hb x e => ?_) (Heap.get?_update_self _ ho rfl) ⟨vs.set k.toNat v, m, by simp [Obj.mapSeq], by simp⟩)
  rw [Heap.get?_update_other _ _ (Ne.symm hb)]; exact e
end
end Mine
namespace Mine
open PySem PySem.Spec PySem.Calls PyProof.Rows PySem.W
section
variable {prog : Program} {w : World} {c : Cx} {n : Nat} {lo : Lo} {led led' : Led} {R : AV → Lo → Led → Prop}
theorem Rep.newsPush {fr : Led} {h h' : Heap} {news : List (Addr × Obj)} {a : Addr} {ao : AO} {ob : Obj} {m : Str → Option Value} (rep : Rep w c lo (led ++ fr) h) (hm : ∀ x, (m x).map er = look c.env.scope.names lo x)
    (M : Mat w.params (led ++ fr) news) (F : Fr c.base c.L h' m) (N : News c.base c.L h' ((a, ob) :: news)) (ho : ao.holds w.params ob) (hf : a ∉ (led ++ fr).map (·.1)) : Rep w c lo ((a, ao) :: led ++ fr) h' :=
  Rep.ofNews hm F N ⟨rfl, ho, M⟩ (List.nodup_cons.mpr ⟨hf, rep.nodup⟩)
theorem Mat.get {P : Params} : ∀ {led : Led} {news : List (Addr × Obj)} {a : Addr} {ao : AO}, Mat P led news → (a, ao) ∈ led → ∃ ob, (a, ob) ∈ news ∧ ao.holds P ob
  | [], _, _, _, _, h => nomatch h
  | p :: l, [], _, _, m, _ => m.elim
  | p :: l, q :: n, a, ao, ⟨e, hh, m⟩, h => by
    rcases List.mem_cons.mp h with h | h
    · subst h; exact ⟨q.2, by rw [show a = q.1 from e]; exact .head _, hh⟩
    · obtain ⟨ob, h1, h2⟩ := m.get h; exact ⟨ob, .tail _ h1, h2⟩
theorem foldl_append_flatten {α : Type} (l : List (Array α)) (acc : Array α) : (l.foldl (· ++ ·) acc).toList = acc.toList ++ (l.map Array.toList).flatten := by
  induction l generalizing acc with
  | nil => simp
  | cons a r ih => rw [List.foldl_cons, ih]; simp
theorem b_rep1 {l : Addr} {x : AV} {k : Int} (hl : (l, .list [x]) ∈ led) (h0 : -(2 ^ 63) ≤ k) (h1 : k.toNat ≤ 2 ^ 20) (h : ∀ a, R (.ref a) lo ((a, .list (List.replicate k.toNat x)) :: led)) :
    Bop prog w c .Mult (.ref l) (.int k) R lo led := by
  intro v u hv hu; obtain rfl := er_ref hv; obtain ⟨t', rfl⟩ := er_int hu
  intro fr s Q E rep kk
  obtain ⟨news, N, M⟩ := rep.toNews
  obtain ⟨m, F, hm⟩ := rep.toFr
  obtain ⟨_, _, o, ho, vs, mm, rfl, hvs⟩ := rep.own _ (List.mem_append_left _ hl)
  obtain ⟨y, rfl, hy⟩ := one_of hvs
  with_reducible refine mul_list F N ho h0 (by omega) (by simp; omega) fun h' F' N' => ?_
  refine kk _ _ _ _ s.toks (h s.heap.objs.size) (rep.newsPush hm M F' N' ⟨List.replicate k.toNat y, 0, ?_, by rw [List.map_replicate, hy]⟩ rep.fresh)
  congr 2
  apply Array.ext'
  rw [foldl_append_flatten]
  simp
theorem k_len {l : Addr} {xs : List AV} (hl : IsL w c led l xs) (hx : xs.length < 2 ^ 62) (h : R (.int xs.length) lo led) : Call prog w c (.builtin "len") [.ref l] R lo led := by
  intro vs hvs
  obtain ⟨v, rfl, hv⟩ := one_of hvs; obtain rfl := er_ref hv
  intro fr s Q E rep kk
  obtain ⟨us, hl', rfl⟩ := hl _ _ _ rep
  simp only [List.length_map] at hx h
  with_reducible refine PyProof.Rows.len_list hl' (by rw [List.size_toArray]; omega) ?_
  rw [List.size_toArray]
  exact kk _ _ _ _ _ h rep
theorem k_lens {x : Str} (hx : x.length < 2 ^ 62) (h : R (.int x.length) lo led) : Call prog w c (.builtin "len") [.str x] R lo led := by
  intro vs hvs
  obtain ⟨v, rfl, hv⟩ := one_of hvs; obtain ⟨t, rfl⟩ := er_str hv
  intro fr s Q E rep kk
  with_reducible refine PyProof.Rows.len_str (by omega) ?_
  exact kk _ _ _ _ _ h rep
theorem k_range {k : Int} (h : ∀ a, R (.ref a) lo ((a, .range 0 k 1) :: led)) : Call prog w c (.type "range") [.int k] R lo led := by
  intro vs hvs
  obtain ⟨v, rfl, hv⟩ := one_of hvs; obtain ⟨t, rfl⟩ := er_int hv
  intro fr s Q E rep kk
  obtain ⟨m, F, hm⟩ := rep.toFr
  obtain ⟨news, N, M⟩ := rep.toNews
  with_reducible refine range1_rows F N fun h' tk t₁ u₁ v₁ hr F' N' hk => ?_
  refine kk _ _ _ _ _ (h s.heap.objs.size) (rep.newsPush hm M F' (fun p hp => ?_) ⟨t₁, u₁, v₁, rfl⟩ rep.fresh)
  rcases List.mem_cons.mp hp with rfl | hp
  · exact ⟨hr, Nat.ne_of_gt rep.lt, by
      cases e : c.base.get? s.heap.objs.size with
      | none => rfl
      | some x => exact absurd (Heap.lt_size (rep.keep _ _ e)) (Nat.lt_irrefl _)⟩
  · exact N' _ hp
theorem k_append {l : Addr} {xs : List AV} {x : AV} (u : Up l (.list xs) (.list (xs ++ [x])) led led') (hx : xs.length ≤ 2 ^ 20) (h : R .none lo led') : Call prog w c (.builtin "list.append") [.ref l, x] R lo led := by
  intro vs hvs
  obtain ⟨v, y, rfl, hv, rfl⟩ := two_of hvs; obtain rfl := er_ref hv
  intro fr s Q E rep kk
  obtain ⟨_, _, o, ho, us, m, rfl, rfl⟩ := rep.own _ (List.mem_append_left _ u.mem)
  simp only [List.length_map] at hx
  have hP : s.heap.PlainList l us.toArray := ⟨_, ho⟩
  with_reducible refine wpAny_list_append_plain hP (fun h' hp hs => ?_) (by rw [List.size_toArray]; exact Nat.le_trans hx (by decide))
  obtain ⟨m', hp⟩ := hp
  exact kk _ _ _ _ s.toks h (rep.up (u.app fr) (fun b hb x e => (hs.2 b hb).trans e) hp ⟨us ++ [y], m', by simp, by simp⟩)
theorem c_notin {l : Addr} {ns : List Int} {k : Int} (hl : IsL w c led l (ns.map AV.int)) (h : R (.bool (!ns.contains k)) lo led) : Cop prog w c .NotIn (.int k) (.ref l) R lo led := by
  intro v u hv hu; obtain ⟨t, rfl⟩ := er_int hv; obtain rfl := er_ref hu
  intro fr s Q E rep kk
  obtain ⟨us, hl', he⟩ := hl _ _ _ rep
  with_reducible refine notin_list_ints hl' (AV_ints he) ?_
  refine kk _ _ _ _ s.toks ?_ rep
  rw [show (ns.any fun x => x == k) = ns.contains k from by rw [List.contains_eq_any_beq]; congr 1; funext x; exact Bool.beq_comm]
  exact h
theorem c_in {l : Addr} {ns : List Int} {k : Int} (hl : IsL w c led l (ns.map AV.int)) (h : R (.bool (ns.contains k)) lo led) : Cop prog w c .In (.int k) (.ref l) R lo led := by
  intro v u hv hu; obtain ⟨t, rfl⟩ := er_int hv; obtain rfl := er_ref hu
  intro fr s Q E rep kk
  obtain ⟨us, hl', he⟩ := hl _ _ _ rep
  with_reducible refine in_list_ints hl' (AV_ints he) ?_
  refine kk _ _ _ _ s.toks ?_ rep
  rw [show (ns.any fun x => x == k) = ns.contains k from by rw [List.contains_eq_any_beq]; congr 1; funext x; exact Bool.beq_comm]
  exact h
theorem c_eqints {a b : Addr} {ns ms : List Int} (ok : c.Ok w n) (hn : 4 ≤ n) (ha : IsL w c led a (ns.map AV.int)) (hb : IsL w c led b (ms.map AV.int)) (h : R (.bool (decide (ns = ms))) lo led) : Cop prog w c .Eq (.ref a) (.ref b) R lo led := by
  intro v u hv hu; obtain rfl := er_ref hv; obtain rfl := er_ref hu
  intro fr s Q E rep kk
  obtain ⟨us, hl', he⟩ := ha _ _ _ rep
  obtain ⟨us2, hl2, he2⟩ := hb _ _ _ rep
  with_reducible refine ke_eq_ints hl' hl2 (AV_ints he) (AV_ints he2) (by have := ok.units; omega) ?_
  exact kk _ _ _ _ s.toks h rep
theorem k_sorted {l : Addr} {ns : List Int} (hl : IsL w c led l (ns.map AV.int)) (hn : ns.length < 64) (h : ∀ (a : Addr) (ms : List Int), ms.Perm ns → ms.Pairwise (· ≤ ·) → R (.ref a) lo ((a, .list (ms.map AV.int)) :: led)) : Call prog w c (.builtin "sorted") [.ref l] R lo led := by
  intro vs hvs
  obtain ⟨v, rfl, hv⟩ := one_of hvs; obtain rfl := er_ref hv
  intro fr s Q E rep kk
  obtain ⟨us, hl', he⟩ := hl _ _ _ rep
  obtain ⟨m, F, hm⟩ := rep.toFr
  obtain ⟨news, N, M⟩ := rep.toNews
  have hlen : us.length = ns.length := by simpa using congrArg List.length he
  with_reducible refine sorted_N F N hl' (AV_ints he) (by omega) fun h' vs' ns' e F' N' hI hp hs => ?_
  exact kk _ _ _ _ _ (h _ _ hp hs) (rep.newsPush hm M F' N' ⟨vs', e, rfl, ints_AV hI⟩ (rep.freshS (k := 1)))
theorem m_list {pl : Sem Bool} {l : Addr} {name : Str} {id : String} {xs : List AV} {R : AV → List AV → Lo → Led → Prop} (hs : Slot "list" name id) (hd : typeOf (.builtin id) = pure (.type "method_descriptor")) (hl : (l, .list xs) ∈ led) (h : R (er (.builtin id)) [.ref l] lo led) : Met prog w c pl name (.ref l) R lo led := by
  intro v hv; obtain rfl := er_ref hv
  intro fr s Q E rep kk
  obtain ⟨_, _, o, ho, us, m, rfl, rfl⟩ := rep.own _ (List.mem_append_left _ hl)
  have hL : s.heap.IsList l us.toArray := ⟨_, ho, rfl, _, rfl⟩
  have hN : s.heap.NoDictAt (.ref l) := ⟨_, ho, rfl⟩
  with_reducible refine getMethod_list_of hs hd hL hN ?_
  exact kk (.builtin id, [.ref l]) lo led s.heap s.toks h rep
end
end Mine
namespace Mine
open PySem PySem.Spec PySem.Calls PyProof.Rows PySem.W
section
variable {prog : Program} {w : World} {c : Cx} {n : Nat} {lo : Lo} {led led' : Led} {R : AV → Lo → Led → Prop}
noncomputable def NL (ns : List (Str × NameKind)) (x : Str) (i : Nat) (k : NameKind) : Prop := find ns x = some (i, k) ∧ (x == ("__debug__" : Str)) = false ∧ (x == ("__classdict__" : Str)) = false
noncomputable def fdOf (a : Addr) (w : World) : FuncData := match (KK w).lookup a with
  | some o => match o.data with | .func fd => fd | _ => default
  | none => default
noncomputable abbrev nmOf (a : Addr) (w : World) : List (Str × NameKind) := (fdOf a w).scope.names
theorem n_loc {ns : List (Str × NameKind)} {x : Str} {i : Nat} {v : AV} {pos : Pos} (ok : c.Ok w n) (hN : c.env.scope.names = ns) (hf : NL ns x i .local) (hv : lo[i]? = some (some v)) (h : R v lo led) :
    WpV prog w c (eval (.Name x pos) c.env) R lo led := e_local ok (hN ▸ hf.1) hv h hf.2.1
theorem n_cell {ns : List (Str × NameKind)} {x : Str} {i : Nat} {a : Addr} {v : AV} {pos : Pos} (ok : c.Ok w n) (hN : c.env.scope.names = ns) (hf : NL ns x i .cell) (hc : c.env.cells.lookup x = some a) (hv : At w c led a (.cell (some v))) (h : R v lo led) :
    WpV prog w c (eval (.Name x pos) c.env) R lo led := e_cell ok (hN ▸ hf.1) hc hv h hf.2.1
theorem n_free {ns : List (Str × NameKind)} {x : Str} {i : Nat} {a : Addr} {v : AV} {pos : Pos} (ok : c.Ok w n) (hN : c.env.scope.names = ns) (hf : NL ns x i .free) (hc : c.env.cells.lookup x = some a) (hv : At w c led a (.cell (some v))) (h : R v lo led) :
    WpV prog w c (eval (.Name x pos) c.env) R lo led := e_free ok (hN ▸ hf.1) hc hv h hf.2.1 hf.2.2
theorem n_glob {ns : List (Str × NameKind)} {x : Str} {i : Nat} {v : Value} {pos : Pos} (ok : c.Ok w n) (hN : c.env.scope.names = ns) (hf : NL ns x i .globalImplicit) (he : nsIn (KK w) mainGlobals x = some (some v)) (h : R (er v) lo led) :
    WpV prog w c (eval (.Name x pos) c.env) R lo led := e_glob ok (hN ▸ hf.1) he h hf.2.1
noncomputable def BL (w : World) (x : Str) (v : Value) : Prop := nsIn (KK w) mainGlobals x = some none ∧ bootBuiltins x = some v ∧ x ≠ "__name__"
theorem n_blt {ns : List (Str × NameKind)} {x : Str} {i : Nat} {v : Value} {pos : Pos} (ok : c.Ok w n) (hN : c.env.scope.names = ns) (hf : NL ns x i .globalImplicit) (he : BL w x v) (h : R (er v) lo led) :
    WpV prog w c (eval (.Name x pos) c.env) R lo led := e_blt ok (hN ▸ hf.1) he.1 he.2.1 he.2.2 h hf.2.1
theorem n_sto {ns : List (Str × NameKind)} {R : Lo → Led → Prop} {x : Str} {i : Nat} {a : AV} {lo' : Lo} (ok : c.Ok w n) (hN : c.env.scope.names = ns) (hf : NL ns x i .local) (hi : i < lo.length) (hs : lo.set i (some a) = lo') (h : R lo' led) : Sto prog w c x a R lo led :=
  st_local ok (hN ▸ hf.1) hi (hs ▸ h)
theorem n_stoc {ns : List (Str × NameKind)} {R : Lo → Led → Prop} {x : Str} {i : Nat} {a : AV} {l : Addr} {v₀ : Option AV} (ok : c.Ok w n) (hN : c.env.scope.names = ns) (hf : NL ns x i .cell) (hc : c.env.cells.lookup x = some l) (hu : Up l (.cell v₀) (.cell (some a)) led led') (h : R lo led') : Sto prog w c x a R lo led :=
  st_cell ok (hN ▸ hf.1) hc hu h
theorem n_aug {ns : List (Str × NameKind)} {R : AF → Lo → Led → Prop} {pos p' : Pos} {x : Str} {i : Nat} {a : AV} {value : Expr} {op : Operator} (ok : c.Ok w n) (hN : c.env.scope.names = ns) (hf : NL ns x i .local) (hv : lo[i]? = some (some a))
    (h : WpV prog w c (eval value c.env) (fun b lo₁ led₁ => Iop prog w c op a b (fun r => Sto prog w c x r (R .next)) lo₁ led₁) lo led) : WpS prog w c (exec (.AugAssign (.Name x p') op value pos) c.env) R lo led := s_aug ok (hN ▸ hf.1) hv h
section
variable {pos : Pos} {args : List Expr} {id T : String} {a : Addr} {x : AV}
theorem cw0_blt (h : Args prog w c pos args (fun as lo₁ led₁ => Call prog w c (.builtin id) as R lo₁ led₁) lo led) (hplain : autoParam ((backTo pos (starEach args c.env)).any (·.1) = false) maw._auto_1) : CW prog w c pos (er (.builtin id)) [] args R lo led := cw_blt h hplain
theorem cw1_blt (h : Args prog w c pos args (fun as lo₁ led₁ => Call prog w c (.builtin id) (x :: as) R lo₁ led₁) lo led) (hplain : autoParam ((backTo pos (starEach args c.env)).any (·.1) = false) maw._auto_1) : CW prog w c pos (er (.builtin id)) [x] args R lo led := cw_blt h hplain
theorem cw0_typ (h : Args prog w c pos args (fun as lo₁ led₁ => Call prog w c (.type T) as R lo₁ led₁) lo led) (hplain : autoParam ((backTo pos (starEach args c.env)).any (·.1) = false) maw._auto_1) : CW prog w c pos (er (.type T)) [] args R lo led := cw_typ h hplain
theorem cw0_fn (ok : c.Ok w n) (hk : keepIn (KK w) (.ref a) = true) (h : Args prog w c pos args (fun as lo₁ led₁ => Call prog w c (.ref a) as R lo₁ led₁) lo led) (hplain : autoParam ((backTo pos (starEach args c.env)).any (·.1) = false) maw._auto_1) : CW prog w c pos (er (.ref a)) [] args R lo led := cw_fn ok hk h hplain
theorem cw1_fn (ok : c.Ok w n) (hk : keepIn (KK w) (.ref a) = true) (h : Args prog w c pos args (fun as lo₁ led₁ => Call prog w c (.ref a) (x :: as) R lo₁ led₁) lo led) (hplain : autoParam ((backTo pos (starEach args c.env)).any (·.1) = false) maw._auto_1) : CW prog w c pos (er (.ref a)) [x] args R lo led := cw_fn ok hk h hplain
end
theorem then_next {rest : List Stmt} {R : AF → Lo → Led → Prop} (h : WpS prog w c (execs rest c.env) R lo led) : Then prog w c rest R .next lo led := h
theorem then_ret {rest : List Stmt} {R : AF → Lo → Led → Prop} {a : AV} (h : R (.ret a) lo led) : Then prog w c rest R (.ret a) lo led := h
theorem ite_t {α : Prop} {P Q : Prop} [Decidable α] (ha : α) (h : P) : if α then P else Q := by rw [if_pos ha]; exact h
theorem ite_f {α : Prop} {P Q : Prop} [Decidable α] (ha : ¬ α) (h : Q) : if α then P else Q := by rw [if_neg ha]; exact h
theorem iteT {P Q : Prop} (h : P) : if (true = true) then P else Q := h
theorem iteF {P Q : Prop} (h : Q) : if (false = true) then P else Q := h
theorem len1 {α : Type} {vs : List α} (h : vs.length = 1) : ∃ a, vs = [a] := by match vs, h with | [a], _ => exact ⟨a, rfl⟩
theorem len2 {α : Type} {vs : List α} (h : vs.length = 2) : ∃ a b, vs = [a, b] := by match vs, h with | [a, b], _ => exact ⟨a, b, rfl⟩
theorem len3 {α : Type} {vs : List α} (h : vs.length = 3) : ∃ a b c, vs = [a, b, c] := by match vs, h with | [a, b, c], _ => exact ⟨a, b, c, rfl⟩
theorem len4 {α : Type} {vs : List α} (h : vs.length = 4) : ∃ a b c d, vs = [a, b, c, d] := by
  rcases vs with _ | ⟨a, _ | ⟨b, _ | ⟨c, _ | ⟨d, _ | _⟩⟩⟩⟩
  case cons.cons.cons.cons.nil => exact ⟨a, b, c, d, rfl⟩
  all_goals simp at h
end
end Mine
namespace Mine
open PySem PySem.Spec PySem.Calls PyProof.Rows PySem.W
section
variable (w : World)
theorem nm_div2n1n_a : NL (nmOf 38 w) (Str.ofString "a") 0 .local := ⟨by kernel_rfl, by kernel_rfl, by kernel_rfl⟩
theorem nm_div2n1n_b : NL (nmOf 38 w) (Str.ofString "b") 1 .local := ⟨by kernel_rfl, by kernel_rfl, by kernel_rfl⟩
theorem nm_div2n1n_n : NL (nmOf 38 w) (Str.ofString "n") 2 .local := ⟨by kernel_rfl, by kernel_rfl, by kernel_rfl⟩
theorem nm_div2n1n_DIV_LIMIT : NL (nmOf 38 w) (Str.ofString "_DIV_LIMIT") 11 .globalImplicit := ⟨by kernel_rfl, by kernel_rfl, by kernel_rfl⟩
theorem nm_div2n1n_divmod : NL (nmOf 38 w) (Str.ofString "divmod") 12 .globalImplicit := ⟨by kernel_rfl, by kernel_rfl, by kernel_rfl⟩
theorem nm_int2digits_a : NL (nmOf 52 w) (Str.ofString "a") 0 .local := ⟨by kernel_rfl, by kernel_rfl, by kernel_rfl⟩
theorem nm_int2digits_n : NL (nmOf 52 w) (Str.ofString "n") 1 .cell := ⟨by kernel_rfl, by kernel_rfl, by kernel_rfl⟩
theorem nm_int2digits_a_digits : NL (nmOf 52 w) (Str.ofString "a_digits") 2 .cell := ⟨by kernel_rfl, by kernel_rfl, by kernel_rfl⟩
theorem nm_int2digits_inner : NL (nmOf 52 w) (Str.ofString "inner") 3 .cell := ⟨by kernel_rfl, by kernel_rfl, by kernel_rfl⟩
theorem nm_int2digits_len : NL (nmOf 52 w) (Str.ofString "len") 4 .globalImplicit := ⟨by kernel_rfl, by kernel_rfl, by kernel_rfl⟩
theorem nm_digits2int_digits : NL (nmOf 59 w) (Str.ofString "digits") 0 .cell := ⟨by kernel_rfl, by kernel_rfl, by kernel_rfl⟩
theorem nm_digits2int_inner : NL (nmOf 59 w) (Str.ofString "inner") 2 .cell := ⟨by kernel_rfl, by kernel_rfl, by kernel_rfl⟩
theorem nm_digits2int_len : NL (nmOf 59 w) (Str.ofString "len") 3 .globalImplicit := ⟨by kernel_rfl, by kernel_rfl, by kernel_rfl⟩
theorem nm_rgb_to_hls_r : NL (nmOf 66 w) (Str.ofString "r") 0 .local := ⟨by kernel_rfl, by kernel_rfl, by kernel_rfl⟩
theorem nm_rgb_to_hls_g : NL (nmOf 66 w) (Str.ofString "g") 1 .local := ⟨by kernel_rfl, by kernel_rfl, by kernel_rfl⟩
theorem nm_rgb_to_hls_b : NL (nmOf 66 w) (Str.ofString "b") 2 .local := ⟨by kernel_rfl, by kernel_rfl, by kernel_rfl⟩
theorem nm_rgb_to_hls_maxc : NL (nmOf 66 w) (Str.ofString "maxc") 3 .local := ⟨by kernel_rfl, by kernel_rfl, by kernel_rfl⟩
theorem nm_rgb_to_hls_minc : NL (nmOf 66 w) (Str.ofString "minc") 4 .local := ⟨by kernel_rfl, by kernel_rfl, by kernel_rfl⟩
theorem nm_rgb_to_hls_sumc : NL (nmOf 66 w) (Str.ofString "sumc") 5 .local := ⟨by kernel_rfl, by kernel_rfl, by kernel_rfl⟩
theorem nm_rgb_to_hls_rangec : NL (nmOf 66 w) (Str.ofString "rangec") 6 .local := ⟨by kernel_rfl, by kernel_rfl, by kernel_rfl⟩
theorem nm_rgb_to_hls_l : NL (nmOf 66 w) (Str.ofString "l") 7 .local := ⟨by kernel_rfl, by kernel_rfl, by kernel_rfl⟩
theorem nm_rgb_to_hls_max : NL (nmOf 66 w) (Str.ofString "max") 13 .globalImplicit := ⟨by kernel_rfl, by kernel_rfl, by kernel_rfl⟩
theorem nm_rgb_to_hls_min : NL (nmOf 66 w) (Str.ofString "min") 14 .globalImplicit := ⟨by kernel_rfl, by kernel_rfl, by kernel_rfl⟩
theorem nm_rgb_to_hsv_r : NL (nmOf 73 w) (Str.ofString "r") 0 .local := ⟨by kernel_rfl, by kernel_rfl, by kernel_rfl⟩
theorem nm_rgb_to_hsv_g : NL (nmOf 73 w) (Str.ofString "g") 1 .local := ⟨by kernel_rfl, by kernel_rfl, by kernel_rfl⟩
theorem nm_rgb_to_hsv_b : NL (nmOf 73 w) (Str.ofString "b") 2 .local := ⟨by kernel_rfl, by kernel_rfl, by kernel_rfl⟩
theorem nm_rgb_to_hsv_maxc : NL (nmOf 73 w) (Str.ofString "maxc") 3 .local := ⟨by kernel_rfl, by kernel_rfl, by kernel_rfl⟩
theorem nm_rgb_to_hsv_minc : NL (nmOf 73 w) (Str.ofString "minc") 4 .local := ⟨by kernel_rfl, by kernel_rfl, by kernel_rfl⟩
theorem nm_rgb_to_hsv_rangec : NL (nmOf 73 w) (Str.ofString "rangec") 5 .local := ⟨by kernel_rfl, by kernel_rfl, by kernel_rfl⟩
theorem nm_rgb_to_hsv_v : NL (nmOf 73 w) (Str.ofString "v") 6 .local := ⟨by kernel_rfl, by kernel_rfl, by kernel_rfl⟩
theorem nm_rgb_to_hsv_s : NL (nmOf 73 w) (Str.ofString "s") 7 .local := ⟨by kernel_rfl, by kernel_rfl, by kernel_rfl⟩
theorem nm_rgb_to_hsv_rc : NL (nmOf 73 w) (Str.ofString "rc") 8 .local := ⟨by kernel_rfl, by kernel_rfl, by kernel_rfl⟩
theorem nm_rgb_to_hsv_gc : NL (nmOf 73 w) (Str.ofString "gc") 9 .local := ⟨by kernel_rfl, by kernel_rfl, by kernel_rfl⟩
theorem nm_rgb_to_hsv_bc : NL (nmOf 73 w) (Str.ofString "bc") 10 .local := ⟨by kernel_rfl, by kernel_rfl, by kernel_rfl⟩
theorem nm_rgb_to_hsv_h : NL (nmOf 73 w) (Str.ofString "h") 11 .local := ⟨by kernel_rfl, by kernel_rfl, by kernel_rfl⟩
theorem nm_rgb_to_hsv_max : NL (nmOf 73 w) (Str.ofString "max") 12 .globalImplicit := ⟨by kernel_rfl, by kernel_rfl, by kernel_rfl⟩
theorem nm_rgb_to_hsv_min : NL (nmOf 73 w) (Str.ofString "min") 13 .globalImplicit := ⟨by kernel_rfl, by kernel_rfl, by kernel_rfl⟩
theorem nm_hsv_to_rgb_h : NL (nmOf 80 w) (Str.ofString "h") 0 .local := ⟨by kernel_rfl, by kernel_rfl, by kernel_rfl⟩
theorem nm_hsv_to_rgb_s : NL (nmOf 80 w) (Str.ofString "s") 1 .local := ⟨by kernel_rfl, by kernel_rfl, by kernel_rfl⟩
theorem nm_hsv_to_rgb_v : NL (nmOf 80 w) (Str.ofString "v") 2 .local := ⟨by kernel_rfl, by kernel_rfl, by kernel_rfl⟩
theorem nm_hsv_to_rgb_i : NL (nmOf 80 w) (Str.ofString "i") 3 .local := ⟨by kernel_rfl, by kernel_rfl, by kernel_rfl⟩
theorem nm_hsv_to_rgb_f : NL (nmOf 80 w) (Str.ofString "f") 4 .local := ⟨by kernel_rfl, by kernel_rfl, by kernel_rfl⟩
theorem nm_hsv_to_rgb_p : NL (nmOf 80 w) (Str.ofString "p") 5 .local := ⟨by kernel_rfl, by kernel_rfl, by kernel_rfl⟩
theorem nm_hsv_to_rgb_q : NL (nmOf 80 w) (Str.ofString "q") 6 .local := ⟨by kernel_rfl, by kernel_rfl, by kernel_rfl⟩
theorem nm_hsv_to_rgb_t : NL (nmOf 80 w) (Str.ofString "t") 7 .local := ⟨by kernel_rfl, by kernel_rfl, by kernel_rfl⟩
theorem nm_hsv_to_rgb_int : NL (nmOf 80 w) (Str.ofString "int") 8 .globalImplicit := ⟨by kernel_rfl, by kernel_rfl, by kernel_rfl⟩
theorem nm_init_self : NL (nmOf 94 w) (Str.ofString "self") 0 .local := ⟨by kernel_rfl, by kernel_rfl, by kernel_rfl⟩
theorem nm_init_fp : NL (nmOf 94 w) (Str.ofString "fp") 1 .local := ⟨by kernel_rfl, by kernel_rfl, by kernel_rfl⟩
theorem nm_read_char_self : NL (nmOf 101 w) (Str.ofString "self") 0 .local := ⟨by kernel_rfl, by kernel_rfl, by kernel_rfl⟩
theorem nm_read_char_ch : NL (nmOf 101 w) (Str.ofString "ch") 1 .local := ⟨by kernel_rfl, by kernel_rfl, by kernel_rfl⟩
theorem nm_get_token_self : NL (nmOf 108 w) (Str.ofString "self") 0 .local := ⟨by kernel_rfl, by kernel_rfl, by kernel_rfl⟩
theorem nm_get_token_token : NL (nmOf 108 w) (Str.ofString "token") 1 .local := ⟨by kernel_rfl, by kernel_rfl, by kernel_rfl⟩
theorem nm_get_token_fiter : NL (nmOf 108 w) (Str.ofString "fiter") 2 .local := ⟨by kernel_rfl, by kernel_rfl, by kernel_rfl⟩
theorem nm_get_token_ch : NL (nmOf 108 w) (Str.ofString "ch") 3 .local := ⟨by kernel_rfl, by kernel_rfl, by kernel_rfl⟩
theorem nm_get_token_iter : NL (nmOf 108 w) (Str.ofString "iter") 4 .globalImplicit := ⟨by kernel_rfl, by kernel_rfl, by kernel_rfl⟩
theorem nm_push_token_self : NL (nmOf 115 w) (Str.ofString "self") 0 .local := ⟨by kernel_rfl, by kernel_rfl, by kernel_rfl⟩
theorem nm_push_token_token : NL (nmOf 115 w) (Str.ofString "token") 1 .local := ⟨by kernel_rfl, by kernel_rfl, by kernel_rfl⟩
theorem nm_quote_periods_bindata : NL (nmOf 139 w) (Str.ofString "bindata") 0 .local := ⟨by kernel_rfl, by kernel_rfl, by kernel_rfl⟩
theorem nm_quote_periods_twin_re_1 : NL (nmOf 139 w) (Str.ofString "_twin_re_1") 1 .globalImplicit := ⟨by kernel_rfl, by kernel_rfl, by kernel_rfl⟩
theorem nm_fix_eols_data : NL (nmOf 146 w) (Str.ofString "data") 0 .local := ⟨by kernel_rfl, by kernel_rfl, by kernel_rfl⟩
theorem nm_fix_eols_twin_re_2 : NL (nmOf 146 w) (Str.ofString "_twin_re_2") 1 .globalImplicit := ⟨by kernel_rfl, by kernel_rfl, by kernel_rfl⟩
theorem nm_fix_eols_CRLF : NL (nmOf 146 w) (Str.ofString "CRLF") 2 .globalImplicit := ⟨by kernel_rfl, by kernel_rfl, by kernel_rfl⟩
theorem nm_l_cells_script : NL (nmOf 153 w) (Str.ofString "script") 0 .local := ⟨by kernel_rfl, by kernel_rfl, by kernel_rfl⟩
theorem nm_l_cells_cells : NL (nmOf 153 w) (Str.ofString "cells") 1 .local := ⟨by kernel_rfl, by kernel_rfl, by kernel_rfl⟩
theorem nm_l_cells_drawn : NL (nmOf 153 w) (Str.ofString "drawn") 2 .local := ⟨by kernel_rfl, by kernel_rfl, by kernel_rfl⟩
theorem nm_l_cells_k : NL (nmOf 153 w) (Str.ofString "k") 3 .local := ⟨by kernel_rfl, by kernel_rfl, by kernel_rfl⟩
theorem nm_l_cells_range : NL (nmOf 153 w) (Str.ofString "range") 4 .globalImplicit := ⟨by kernel_rfl, by kernel_rfl, by kernel_rfl⟩
theorem nm_l_cells_len : NL (nmOf 153 w) (Str.ofString "len") 5 .globalImplicit := ⟨by kernel_rfl, by kernel_rfl, by kernel_rfl⟩
theorem nm_l_places_cells : NL (nmOf 160 w) (Str.ofString "cells") 0 .local := ⟨by kernel_rfl, by kernel_rfl, by kernel_rfl⟩
theorem nm_l_places_size : NL (nmOf 160 w) (Str.ofString "size") 1 .local := ⟨by kernel_rfl, by kernel_rfl, by kernel_rfl⟩
theorem nm_l_places_got : NL (nmOf 160 w) (Str.ofString "got") 2 .local := ⟨by kernel_rfl, by kernel_rfl, by kernel_rfl⟩
theorem nm_l_places_cell : NL (nmOf 160 w) (Str.ofString "cell") 3 .local := ⟨by kernel_rfl, by kernel_rfl, by kernel_rfl⟩
theorem nm_l_places_sorted : NL (nmOf 160 w) (Str.ofString "sorted") 4 .globalImplicit := ⟨by kernel_rfl, by kernel_rfl, by kernel_rfl⟩
theorem nm_l_machine_law_read_on : NL (nmOf 167 w) (Str.ofString "_law_read_on") 1 .local := ⟨by kernel_rfl, by kernel_rfl, by kernel_rfl⟩
theorem nm_l_machine_stream : NL (nmOf 167 w) (Str.ofString "stream") 2 .local := ⟨by kernel_rfl, by kernel_rfl, by kernel_rfl⟩
theorem nm_l_machine_at : NL (nmOf 167 w) (Str.ofString "at") 3 .cell := ⟨by kernel_rfl, by kernel_rfl, by kernel_rfl⟩
theorem nm_l_machine_netrclex : NL (nmOf 167 w) (Str.ofString "_netrclex") 4 .globalImplicit := ⟨by kernel_rfl, by kernel_rfl, by kernel_rfl⟩
theorem nm_l_file_ones : NL (nmOf 174 w) (Str.ofString "ones") 0 .local := ⟨by kernel_rfl, by kernel_rfl, by kernel_rfl⟩
theorem nm_l_file_spelled : NL (nmOf 174 w) (Str.ofString "spelled") 1 .local := ⟨by kernel_rfl, by kernel_rfl, by kernel_rfl⟩
theorem nm_l_file_written : NL (nmOf 174 w) (Str.ofString "written") 2 .local := ⟨by kernel_rfl, by kernel_rfl, by kernel_rfl⟩
theorem nm_l_file_k : NL (nmOf 174 w) (Str.ofString "k") 3 .local := ⟨by kernel_rfl, by kernel_rfl, by kernel_rfl⟩
theorem nm_l_file_word : NL (nmOf 174 w) (Str.ofString "word") 4 .local := ⟨by kernel_rfl, by kernel_rfl, by kernel_rfl⟩
theorem nm_l_file_kind : NL (nmOf 174 w) (Str.ofString "kind") 5 .local := ⟨by kernel_rfl, by kernel_rfl, by kernel_rfl⟩
theorem nm_l_file_range : NL (nmOf 174 w) (Str.ofString "range") 6 .globalImplicit := ⟨by kernel_rfl, by kernel_rfl, by kernel_rfl⟩
theorem nm_l_file_len : NL (nmOf 174 w) (Str.ofString "len") 7 .globalImplicit := ⟨by kernel_rfl, by kernel_rfl, by kernel_rfl⟩
theorem nm_l_by_sending_ones : NL (nmOf 179 w) (Str.ofString "ones") 0 .local := ⟨by kernel_rfl, by kernel_rfl, by kernel_rfl⟩
theorem nm_l_by_sending_others : NL (nmOf 179 w) (Str.ofString "others") 1 .local := ⟨by kernel_rfl, by kernel_rfl, by kernel_rfl⟩
theorem nm_l_by_sending_size : NL (nmOf 179 w) (Str.ofString "size") 2 .local := ⟨by kernel_rfl, by kernel_rfl, by kernel_rfl⟩
theorem nm_l_by_sending_spelled : NL (nmOf 179 w) (Str.ofString "spelled") 3 .local := ⟨by kernel_rfl, by kernel_rfl, by kernel_rfl⟩
theorem nm_l_by_sending_machine : NL (nmOf 179 w) (Str.ofString "machine") 4 .cell := ⟨by kernel_rfl, by kernel_rfl, by kernel_rfl⟩
theorem nm_l_by_sending_heard : NL (nmOf 179 w) (Str.ofString "heard") 5 .local := ⟨by kernel_rfl, by kernel_rfl, by kernel_rfl⟩
theorem nm_l_by_sending_word : NL (nmOf 179 w) (Str.ofString "word") 6 .local := ⟨by kernel_rfl, by kernel_rfl, by kernel_rfl⟩
theorem nm_l_by_sending_gap : NL (nmOf 179 w) (Str.ofString "gap") 7 .local := ⟨by kernel_rfl, by kernel_rfl, by kernel_rfl⟩
theorem nm_l_by_sending_often : NL (nmOf 179 w) (Str.ofString "often") 8 .local := ⟨by kernel_rfl, by kernel_rfl, by kernel_rfl⟩
theorem nm_l_by_sending_over : NL (nmOf 179 w) (Str.ofString "over") 9 .local := ⟨by kernel_rfl, by kernel_rfl, by kernel_rfl⟩
theorem nm_l_by_sending_sendings : NL (nmOf 179 w) (Str.ofString "sendings") 10 .local := ⟨by kernel_rfl, by kernel_rfl, by kernel_rfl⟩
theorem nm_l_by_sending_red : NL (nmOf 179 w) (Str.ofString "red") 11 .local := ⟨by kernel_rfl, by kernel_rfl, by kernel_rfl⟩
theorem nm_l_by_sending_green : NL (nmOf 179 w) (Str.ofString "green") 12 .local := ⟨by kernel_rfl, by kernel_rfl, by kernel_rfl⟩
theorem nm_l_by_sending_blue : NL (nmOf 179 w) (Str.ofString "blue") 13 .local := ⟨by kernel_rfl, by kernel_rfl, by kernel_rfl⟩
theorem nm_l_by_sending_place : NL (nmOf 179 w) (Str.ofString "place") 14 .local := ⟨by kernel_rfl, by kernel_rfl, by kernel_rfl⟩
theorem nm_l_by_sending_sent : NL (nmOf 179 w) (Str.ofString "sent") 15 .local := ⟨by kernel_rfl, by kernel_rfl, by kernel_rfl⟩
theorem nm_l_by_sending_row : NL (nmOf 179 w) (Str.ofString "row") 16 .local := ⟨by kernel_rfl, by kernel_rfl, by kernel_rfl⟩
theorem nm_l_by_sending_law_machine : NL (nmOf 179 w) (Str.ofString "_law_machine") 17 .globalImplicit := ⟨by kernel_rfl, by kernel_rfl, by kernel_rfl⟩
theorem nm_l_by_sending_law_file : NL (nmOf 179 w) (Str.ofString "_law_file") 18 .globalImplicit := ⟨by kernel_rfl, by kernel_rfl, by kernel_rfl⟩
theorem nm_l_by_sending_range : NL (nmOf 179 w) (Str.ofString "range") 19 .globalImplicit := ⟨by kernel_rfl, by kernel_rfl, by kernel_rfl⟩
theorem nm_l_by_sending_hsv_to_rgb : NL (nmOf 179 w) (Str.ofString "hsv_to_rgb") 20 .globalImplicit := ⟨by kernel_rfl, by kernel_rfl, by kernel_rfl⟩
theorem nm_l_by_sending_len : NL (nmOf 179 w) (Str.ofString "len") 21 .globalImplicit := ⟨by kernel_rfl, by kernel_rfl, by kernel_rfl⟩
theorem nm_l_by_sending_round : NL (nmOf 179 w) (Str.ofString "round") 22 .globalImplicit := ⟨by kernel_rfl, by kernel_rfl, by kernel_rfl⟩
theorem nm_l_by_sending_rgb_to_hsv : NL (nmOf 179 w) (Str.ofString "rgb_to_hsv") 23 .globalImplicit := ⟨by kernel_rfl, by kernel_rfl, by kernel_rfl⟩
theorem nm_l_by_sending_quote_periods : NL (nmOf 179 w) (Str.ofString "_quote_periods") 24 .globalImplicit := ⟨by kernel_rfl, by kernel_rfl, by kernel_rfl⟩
theorem nm_l_by_sending_fix_eols : NL (nmOf 179 w) (Str.ofString "_fix_eols") 25 .globalImplicit := ⟨by kernel_rfl, by kernel_rfl, by kernel_rfl⟩
theorem nm_l_by_division_size : NL (nmOf 184 w) (Str.ofString "size") 2 .local := ⟨by kernel_rfl, by kernel_rfl, by kernel_rfl⟩
theorem nm_l_by_division_width : NL (nmOf 184 w) (Str.ofString "width") 3 .local := ⟨by kernel_rfl, by kernel_rfl, by kernel_rfl⟩
theorem nm_l_by_division_one : NL (nmOf 184 w) (Str.ofString "one") 4 .local := ⟨by kernel_rfl, by kernel_rfl, by kernel_rfl⟩
theorem nm_l_by_division_other : NL (nmOf 184 w) (Str.ofString "other") 5 .local := ⟨by kernel_rfl, by kernel_rfl, by kernel_rfl⟩
theorem nm_l_by_division_quotient : NL (nmOf 184 w) (Str.ofString "quotient") 6 .local := ⟨by kernel_rfl, by kernel_rfl, by kernel_rfl⟩
theorem nm_l_by_division_left : NL (nmOf 184 w) (Str.ofString "left") 7 .local := ⟨by kernel_rfl, by kernel_rfl, by kernel_rfl⟩
theorem nm_l_by_division_often : NL (nmOf 184 w) (Str.ofString "often") 8 .local := ⟨by kernel_rfl, by kernel_rfl, by kernel_rfl⟩
theorem nm_l_by_division_over : NL (nmOf 184 w) (Str.ofString "over") 9 .local := ⟨by kernel_rfl, by kernel_rfl, by kernel_rfl⟩
theorem nm_l_by_division_digits2int : NL (nmOf 184 w) (Str.ofString "_digits2int") 10 .globalImplicit := ⟨by kernel_rfl, by kernel_rfl, by kernel_rfl⟩
theorem nm_l_by_division_range : NL (nmOf 184 w) (Str.ofString "range") 11 .globalImplicit := ⟨by kernel_rfl, by kernel_rfl, by kernel_rfl⟩
theorem nm_l_by_division_div2n1n : NL (nmOf 184 w) (Str.ofString "_div2n1n") 12 .globalImplicit := ⟨by kernel_rfl, by kernel_rfl, by kernel_rfl⟩
theorem nm_l_by_division_int2digits : NL (nmOf 184 w) (Str.ofString "_int2digits") 13 .globalImplicit := ⟨by kernel_rfl, by kernel_rfl, by kernel_rfl⟩
theorem nm_l_by_division_len : NL (nmOf 184 w) (Str.ofString "len") 14 .globalImplicit := ⟨by kernel_rfl, by kernel_rfl, by kernel_rfl⟩
theorem nm_l_by_pairs_ones : NL (nmOf 191 w) (Str.ofString "ones") 0 .local := ⟨by kernel_rfl, by kernel_rfl, by kernel_rfl⟩
theorem nm_l_by_pairs_others : NL (nmOf 191 w) (Str.ofString "others") 1 .local := ⟨by kernel_rfl, by kernel_rfl, by kernel_rfl⟩
theorem nm_l_by_pairs_size : NL (nmOf 191 w) (Str.ofString "size") 2 .local := ⟨by kernel_rfl, by kernel_rfl, by kernel_rfl⟩
theorem nm_l_by_pairs_often : NL (nmOf 191 w) (Str.ofString "often") 3 .local := ⟨by kernel_rfl, by kernel_rfl, by kernel_rfl⟩
theorem nm_l_by_pairs_over : NL (nmOf 191 w) (Str.ofString "over") 4 .local := ⟨by kernel_rfl, by kernel_rfl, by kernel_rfl⟩
theorem nm_l_by_pairs_a : NL (nmOf 191 w) (Str.ofString "a") 5 .local := ⟨by kernel_rfl, by kernel_rfl, by kernel_rfl⟩
theorem nm_l_by_pairs_b : NL (nmOf 191 w) (Str.ofString "b") 6 .local := ⟨by kernel_rfl, by kernel_rfl, by kernel_rfl⟩
theorem nm_l_widened_size : NL (nmOf 196 w) (Str.ofString "size") 2 .cell := ⟨by kernel_rfl, by kernel_rfl, by kernel_rfl⟩
theorem nm_l_widened_len : NL (nmOf 196 w) (Str.ofString "len") 3 .globalImplicit := ⟨by kernel_rfl, by kernel_rfl, by kernel_rfl⟩
theorem nm_l_widened_range : NL (nmOf 196 w) (Str.ofString "range") 4 .globalImplicit := ⟨by kernel_rfl, by kernel_rfl, by kernel_rfl⟩
theorem nm_l_grey_sums : NL (nmOf 203 w) (Str.ofString "sums") 0 .local := ⟨by kernel_rfl, by kernel_rfl, by kernel_rfl⟩
theorem nm_l_grey_size : NL (nmOf 203 w) (Str.ofString "size") 1 .local := ⟨by kernel_rfl, by kernel_rfl, by kernel_rfl⟩
theorem nm_l_grey_reds : NL (nmOf 203 w) (Str.ofString "reds") 2 .local := ⟨by kernel_rfl, by kernel_rfl, by kernel_rfl⟩
theorem nm_l_grey_greens : NL (nmOf 203 w) (Str.ofString "greens") 3 .local := ⟨by kernel_rfl, by kernel_rfl, by kernel_rfl⟩
theorem nm_l_grey_blues : NL (nmOf 203 w) (Str.ofString "blues") 4 .local := ⟨by kernel_rfl, by kernel_rfl, by kernel_rfl⟩
theorem nm_l_grey_k : NL (nmOf 203 w) (Str.ofString "k") 5 .local := ⟨by kernel_rfl, by kernel_rfl, by kernel_rfl⟩
theorem nm_l_grey_red : NL (nmOf 203 w) (Str.ofString "red") 6 .local := ⟨by kernel_rfl, by kernel_rfl, by kernel_rfl⟩
theorem nm_l_grey_green : NL (nmOf 203 w) (Str.ofString "green") 7 .local := ⟨by kernel_rfl, by kernel_rfl, by kernel_rfl⟩
theorem nm_l_grey_blue : NL (nmOf 203 w) (Str.ofString "blue") 8 .local := ⟨by kernel_rfl, by kernel_rfl, by kernel_rfl⟩
theorem nm_l_grey_hsv_to_rgb : NL (nmOf 203 w) (Str.ofString "hsv_to_rgb") 9 .globalImplicit := ⟨by kernel_rfl, by kernel_rfl, by kernel_rfl⟩
theorem nm_l_grey_rgb_to_hls : NL (nmOf 203 w) (Str.ofString "rgb_to_hls") 10 .globalImplicit := ⟨by kernel_rfl, by kernel_rfl, by kernel_rfl⟩
theorem nm_l_kneser_ones : NL (nmOf 208 w) (Str.ofString "ones") 1 .local := ⟨by kernel_rfl, by kernel_rfl, by kernel_rfl⟩
theorem nm_l_kneser_others : NL (nmOf 208 w) (Str.ofString "others") 2 .local := ⟨by kernel_rfl, by kernel_rfl, by kernel_rfl⟩
theorem nm_l_kneser_size : NL (nmOf 208 w) (Str.ofString "size") 3 .cell := ⟨by kernel_rfl, by kernel_rfl, by kernel_rfl⟩
theorem nm_l_kneser_sums : NL (nmOf 208 w) (Str.ofString "sums") 4 .cell := ⟨by kernel_rfl, by kernel_rfl, by kernel_rfl⟩
theorem nm_l_kneser_turns : NL (nmOf 208 w) (Str.ofString "turns") 5 .local := ⟨by kernel_rfl, by kernel_rfl, by kernel_rfl⟩
theorem nm_l_kneser_least : NL (nmOf 208 w) (Str.ofString "least") 6 .local := ⟨by kernel_rfl, by kernel_rfl, by kernel_rfl⟩
theorem nm_l_kneser_range : NL (nmOf 208 w) (Str.ofString "range") 7 .globalImplicit := ⟨by kernel_rfl, by kernel_rfl, by kernel_rfl⟩
theorem nm_l_kneser_law_widened : NL (nmOf 208 w) (Str.ofString "_law_widened") 8 .globalImplicit := ⟨by kernel_rfl, by kernel_rfl, by kernel_rfl⟩
theorem nm_l_kneser_len : NL (nmOf 208 w) (Str.ofString "len") 9 .globalImplicit := ⟨by kernel_rfl, by kernel_rfl, by kernel_rfl⟩
theorem nm_l_kneser_law_grey : NL (nmOf 208 w) (Str.ofString "_law_grey") 10 .globalImplicit := ⟨by kernel_rfl, by kernel_rfl, by kernel_rfl⟩
theorem nm_law_script : NL (nmOf 215 w) (Str.ofString "script") 0 .local := ⟨by kernel_rfl, by kernel_rfl, by kernel_rfl⟩
theorem nm_law_cells : NL (nmOf 215 w) (Str.ofString "cells") 1 .local := ⟨by kernel_rfl, by kernel_rfl, by kernel_rfl⟩
theorem nm_law_size : NL (nmOf 215 w) (Str.ofString "size") 2 .local := ⟨by kernel_rfl, by kernel_rfl, by kernel_rfl⟩
theorem nm_law_spelled : NL (nmOf 215 w) (Str.ofString "spelled") 3 .local := ⟨by kernel_rfl, by kernel_rfl, by kernel_rfl⟩
theorem nm_law_ones : NL (nmOf 215 w) (Str.ofString "ones") 4 .local := ⟨by kernel_rfl, by kernel_rfl, by kernel_rfl⟩
theorem nm_law_others : NL (nmOf 215 w) (Str.ofString "others") 5 .local := ⟨by kernel_rfl, by kernel_rfl, by kernel_rfl⟩
theorem nm_law_told : NL (nmOf 215 w) (Str.ofString "told") 6 .local := ⟨by kernel_rfl, by kernel_rfl, by kernel_rfl⟩
theorem nm_law_divided : NL (nmOf 215 w) (Str.ofString "divided") 7 .local := ⟨by kernel_rfl, by kernel_rfl, by kernel_rfl⟩
theorem nm_law_due : NL (nmOf 215 w) (Str.ofString "due") 8 .local := ⟨by kernel_rfl, by kernel_rfl, by kernel_rfl⟩
theorem nm_law_law_cells : NL (nmOf 215 w) (Str.ofString "_law_cells") 9 .globalImplicit := ⟨by kernel_rfl, by kernel_rfl, by kernel_rfl⟩
theorem nm_law_law_places : NL (nmOf 215 w) (Str.ofString "_law_places") 10 .globalImplicit := ⟨by kernel_rfl, by kernel_rfl, by kernel_rfl⟩
theorem nm_law_law_by_sending : NL (nmOf 215 w) (Str.ofString "_law_by_sending") 11 .globalImplicit := ⟨by kernel_rfl, by kernel_rfl, by kernel_rfl⟩
theorem nm_law_law_by_division : NL (nmOf 215 w) (Str.ofString "_law_by_division") 12 .globalImplicit := ⟨by kernel_rfl, by kernel_rfl, by kernel_rfl⟩
theorem nm_law_law_by_pairs : NL (nmOf 215 w) (Str.ofString "_law_by_pairs") 13 .globalImplicit := ⟨by kernel_rfl, by kernel_rfl, by kernel_rfl⟩
theorem nm_law_law_kneser : NL (nmOf 215 w) (Str.ofString "_law_kneser") 14 .globalImplicit := ⟨by kernel_rfl, by kernel_rfl, by kernel_rfl⟩
theorem gl_DIV_LIMIT : nsIn (KK w) mainGlobals (Str.ofString "_DIV_LIMIT") = some (some (.int 4000 284)) := by kernel_rfl
theorem gl_digits2int : nsIn (KK w) mainGlobals (Str.ofString "_digits2int") = some (some (.ref 59)) := by kernel_rfl
theorem gl_div2n1n : nsIn (KK w) mainGlobals (Str.ofString "_div2n1n") = some (some (.ref 38)) := by kernel_rfl
theorem gl_fix_eols : nsIn (KK w) mainGlobals (Str.ofString "_fix_eols") = some (some (.ref 146)) := by kernel_rfl
theorem gl_int2digits : nsIn (KK w) mainGlobals (Str.ofString "_int2digits") = some (some (.ref 52)) := by kernel_rfl
theorem gl_law_by_division : nsIn (KK w) mainGlobals (Str.ofString "_law_by_division") = some (some (.ref 184)) := by kernel_rfl
theorem gl_law_by_pairs : nsIn (KK w) mainGlobals (Str.ofString "_law_by_pairs") = some (some (.ref 191)) := by kernel_rfl
theorem gl_law_by_sending : nsIn (KK w) mainGlobals (Str.ofString "_law_by_sending") = some (some (.ref 179)) := by kernel_rfl
theorem gl_law_cells : nsIn (KK w) mainGlobals (Str.ofString "_law_cells") = some (some (.ref 153)) := by kernel_rfl
theorem gl_law_file : nsIn (KK w) mainGlobals (Str.ofString "_law_file") = some (some (.ref 174)) := by kernel_rfl
theorem gl_law_grey : nsIn (KK w) mainGlobals (Str.ofString "_law_grey") = some (some (.ref 203)) := by kernel_rfl
theorem gl_law_kneser : nsIn (KK w) mainGlobals (Str.ofString "_law_kneser") = some (some (.ref 208)) := by kernel_rfl
theorem gl_law_machine : nsIn (KK w) mainGlobals (Str.ofString "_law_machine") = some (some (.ref 167)) := by kernel_rfl
theorem gl_law_places : nsIn (KK w) mainGlobals (Str.ofString "_law_places") = some (some (.ref 160)) := by kernel_rfl
theorem gl_law_widened : nsIn (KK w) mainGlobals (Str.ofString "_law_widened") = some (some (.ref 196)) := by kernel_rfl
theorem gl_netrclex : nsIn (KK w) mainGlobals (Str.ofString "_netrclex") = some (some (.ref 118)) := by kernel_rfl
theorem gl_quote_periods : nsIn (KK w) mainGlobals (Str.ofString "_quote_periods") = some (some (.ref 139)) := by kernel_rfl
theorem gl_twin_re_1 : nsIn (KK w) mainGlobals (Str.ofString "_twin_re_1") = some (some (.ref 127)) := by kernel_rfl
theorem gl_twin_re_2 : nsIn (KK w) mainGlobals (Str.ofString "_twin_re_2") = some (some (.ref 132)) := by kernel_rfl
theorem bl_divmod : BL w (Str.ofString "divmod") (.builtin "divmod") := ⟨by kernel_rfl, by kernel_rfl, by decide⟩
theorem gl_hsv_to_rgb : nsIn (KK w) mainGlobals (Str.ofString "hsv_to_rgb") = some (some (.ref 80)) := by kernel_rfl
theorem bl_int : BL w (Str.ofString "int") (.type "int") := ⟨by kernel_rfl, by kernel_rfl, by decide⟩
theorem bl_iter : BL w (Str.ofString "iter") (.builtin "iter") := ⟨by kernel_rfl, by kernel_rfl, by decide⟩
theorem bl_len : BL w (Str.ofString "len") (.builtin "len") := ⟨by kernel_rfl, by kernel_rfl, by decide⟩
theorem bl_max : BL w (Str.ofString "max") (.builtin "max") := ⟨by kernel_rfl, by kernel_rfl, by decide⟩
theorem bl_min : BL w (Str.ofString "min") (.builtin "min") := ⟨by kernel_rfl, by kernel_rfl, by decide⟩
theorem bl_range : BL w (Str.ofString "range") (.type "range") := ⟨by kernel_rfl, by kernel_rfl, by decide⟩
theorem gl_rgb_to_hls : nsIn (KK w) mainGlobals (Str.ofString "rgb_to_hls") = some (some (.ref 66)) := by kernel_rfl
theorem gl_rgb_to_hsv : nsIn (KK w) mainGlobals (Str.ofString "rgb_to_hsv") = some (some (.ref 73)) := by kernel_rfl
theorem bl_round : BL w (Str.ofString "round") (.builtin "round") := ⟨by kernel_rfl, by kernel_rfl, by decide⟩
theorem bl_sorted : BL w (Str.ofString "sorted") (.builtin "sorted") := ⟨by kernel_rfl, by kernel_rfl, by decide⟩
theorem keep_digits2int : keepIn (KK w) (.ref 59) = true := by kernel_rfl
theorem keep_div2n1n : keepIn (KK w) (.ref 38) = true := by kernel_rfl
theorem keep_fix_eols : keepIn (KK w) (.ref 146) = true := by kernel_rfl
theorem keep_int2digits : keepIn (KK w) (.ref 52) = true := by kernel_rfl
theorem keep_law_by_division : keepIn (KK w) (.ref 184) = true := by kernel_rfl
theorem keep_law_by_pairs : keepIn (KK w) (.ref 191) = true := by kernel_rfl
theorem keep_law_by_sending : keepIn (KK w) (.ref 179) = true := by kernel_rfl
theorem keep_law_cells : keepIn (KK w) (.ref 153) = true := by kernel_rfl
theorem keep_law_file : keepIn (KK w) (.ref 174) = true := by kernel_rfl
theorem keep_law_grey : keepIn (KK w) (.ref 203) = true := by kernel_rfl
theorem keep_law_kneser : keepIn (KK w) (.ref 208) = true := by kernel_rfl
theorem keep_law_machine : keepIn (KK w) (.ref 167) = true := by kernel_rfl
theorem keep_law_places : keepIn (KK w) (.ref 160) = true := by kernel_rfl
theorem keep_law_widened : keepIn (KK w) (.ref 196) = true := by kernel_rfl
theorem keep_netrclex : keepIn (KK w) (.ref 118) = true := by kernel_rfl
theorem keep_quote_periods : keepIn (KK w) (.ref 139) = true := by kernel_rfl
theorem keep_hsv_to_rgb : keepIn (KK w) (.ref 80) = true := by kernel_rfl
theorem keep_rgb_to_hls : keepIn (KK w) (.ref 66) = true := by kernel_rfl
theorem keep_rgb_to_hsv : keepIn (KK w) (.ref 73) = true := by kernel_rfl
end
end Mine
namespace Mine
open PySem PySem.Spec PySem.Calls PyProof.Rows PySem.W
noncomputable abbrev intsO (ns : List Int) : AO := .list (ns.map AV.int)
section
variable {prog : Program} {w : World} {c : Cx} {n : Nat} {lo : Lo} {led led' : Led} {R : AV → Lo → Led → Prop}
theorem IsL.up {a : Addr} {xs : List AV} {o : AO} (u : Up a (.list xs) o led led') : IsL w c led a xs := .mem u.mem
theorem g_ints {value slice : Expr} {l : Addr} {ns : List Int} {k : Int} (hl : IsL w c led l (ns.map AV.int)) (h0 : 0 ≤ k) (h1 : k.toNat < ns.length) (h2 : ns.length < 2 ^ 62) (h : R (.int (ns.getD k.toNat 0)) lo led)
    (hs : autoParam (∀ u, subscripted slice false (.ref l) (.int k u) = operate [.ref l, .int k u] (getItem (.ref l) (.int k u))) mai._auto_1)
    (hg : autoParam (∀ r, letTemporaryGo value (.ref l) r = pure ()) mai._auto_1) : Sub prog w c value slice (.ref l) (.int k) R lo led :=
  g_list hl h0 (by omega) (by rw [List.getElem?_map, List.getElem?_eq_getElem h1, Option.map_some, List.getD_eq_getElem?_getD, List.getElem?_eq_getElem h1]; rfl) h hs hg
theorem set_ints {l : Addr} {ns : List Int} {k v : Int} {R : Lo → Led → Prop} (u : Up l (intsO ns) (intsO (ns.set k.toNat v)) led led') (h0 : 0 ≤ k) (h1 : k.toNat < ns.length) (h2 : ns.length < 2 ^ 62) (h : R lo led') :
    Sit prog w c (.ref l) (.int k) (.int v) R lo led :=
  set_list (xs := ns.map AV.int) (by rw [← List.map_set]; exact u) h0 (by simpa using h1) (by simpa using h2) h
theorem b_repi {l : Addr} {x : Int} {k : Int} (hl : (l, .list [.int x]) ∈ led) (h0 : 0 ≤ k) (h1 : k.toNat ≤ 2 ^ 20) (h : ∀ a, R (.ref a) lo ((a, intsO (List.replicate k.toNat x)) :: led)) :
    Bop prog w c .Mult (.ref l) (.int k) R lo led :=
  b_rep1 hl (by omega) h1 fun a => by rw [← List.map_replicate]; exact h a
theorem k_leni {l : Addr} {ns : List Int} (hl : IsL w c led l (ns.map AV.int)) (hx : ns.length < 2 ^ 62) (h : R (.int ns.length) lo led) : Call prog w c (.builtin "len") [.ref l] R lo led :=
  k_len hl (by simpa using hx) (by simpa using h)
theorem k_appendi {l : Addr} {ns : List Int} {x : Int} (u : Up l (intsO ns) (intsO (ns ++ [x])) led led') (hx : ns.length ≤ 2 ^ 20) (h : R .none lo led') : Call prog w c (.builtin "list.append") [.ref l, .int x] R lo led :=
  k_append (xs := ns.map AV.int) (by simpa [intsO] using u) (by simpa using hx) h
noncomputable abbrev natsO (xs : List Nat) : AO := .list (xs.map fun (x : Nat) => .int x)
theorem g_nats {value slice : Expr} {l : Addr} {xs : List Nat} {k : Int} (hl : IsL w c led l (xs.map fun (x : Nat) => AV.int x)) (h0 : 0 ≤ k) (h1 : k.toNat < xs.length) (h2 : xs.length < 2 ^ 62) (h : R (.int (xs.getD k.toNat 0 : Nat)) lo led)
    (hs : autoParam (∀ u, subscripted slice false (.ref l) (.int k u) = operate [.ref l, .int k u] (getItem (.ref l) (.int k u))) mai._auto_1)
    (hg : autoParam (∀ r, letTemporaryGo value (.ref l) r = pure ()) mai._auto_1) : Sub prog w c value slice (.ref l) (.int k) R lo led :=
  g_list hl h0 (by omega) (by rw [List.getElem?_map, List.getElem?_eq_getElem h1, Option.map_some, List.getD_eq_getElem?_getD, List.getElem?_eq_getElem h1]; rfl) h hs hg
theorem k_lenn {l : Addr} {xs : List Nat} (hl : IsL w c led l (xs.map fun (x : Nat) => AV.int x)) (hx : xs.length < 2 ^ 62) (h : R (.int xs.length) lo led) : Call prog w c (.builtin "len") [.ref l] R lo led :=
  k_len hl (by simpa using hx) (by simpa using h)
theorem Wp_drop {α : Type} {t : Sem α} {R : α → Lo → Led → Prop} (h : Wp prog w c t (fun a lo led => ∃ l, l.Sublist led ∧ R a lo l) lo led) : Wp prog w c t R lo led :=
  fun fr s Q E rep kk => h fr s Q E rep fun a lo' led' h' tk' ⟨l, hl, hR⟩ rep' => kk a lo' l h' tk' hR (rep'.sub (hl.append_right fr))
theorem Wp_pre {α : Type} {t : Sem α} {R : α → Lo → Led → Prop} (p : led'.Sublist led) (h : Wp prog w c t R lo led') : Wp prog w c t R lo led :=
  fun fr s Q E rep kk => h fr s Q E (rep.sub (p.append_right fr)) kk
theorem Wp_perm {α : Type} {t : Sem α} {R : α → Lo → Led → Prop} (p : led.Perm led') (h : Wp prog w c t R lo led') : Wp prog w c t R lo led :=
  fun fr s Q E rep kk => h fr s Q E (rep.perm (p.append_right fr)) kk
theorem WpS_pre {t : Sem Flow} {R : AF → Lo → Led → Prop} (led' : Led) (p : led'.Sublist led) (h : WpS prog w c t R lo led') : WpS prog w c t R lo led := Wp_pre p h
theorem WpS_perm {t : Sem Flow} {R : AF → Lo → Led → Prop} (led' : Led) (p : led.Perm led') (h : WpS prog w c t R lo led') : WpS prog w c t R lo led := Wp_perm p h
theorem WpV_perm {t : Sem Value} {R : AV → Lo → Led → Prop} (led' : Led) (p : led.Perm led') (h : WpV prog w c t R lo led') : WpV prog w c t R lo led := Wp_perm p h
theorem Call_drop {f : Value} {as : List AV} (h : Call prog w c f as (fun a lo led => ∃ l, l.Sublist led ∧ R a lo l) lo led) : Call prog w c f as R lo led := fun vs hv => Wp_drop (h vs hv)
theorem Call_perm {f : Value} {as : List AV} (led' : Led) (p : led.Perm led') (h : Call prog w c f as R lo led') : Call prog w c f as R lo led := fun vs hv => Wp_perm p (h vs hv)
theorem take_succ' {α : Type} {l : List α} {i : Nat} {v : α} (h : l[i]? = some v) : l.take (i + 1) = l.take i ++ [v] := by
  rw [List.take_add_one, h]; rfl
theorem split_at {α : Type} {items pre post : List α} {v : α} (e : items = pre ++ v :: post) : items[pre.length]? = some v := by rw [e]; simp
theorem s_forn_list {x : Str} {px pos : Pos} {iter : Expr} {body : List Stmt} {R : AF → Lo → Led → Prop} (ok : c.Ok w n) (l : Addr) (items : List AV) (I : Nat → Lo → Led → Prop)
    (h : WpV prog w c (eval iter c.env) (fun a lo₁ led₁ => a = .ref l ∧ At w c led₁ l (.list items) ∧ I 0 lo₁ led₁) lo led)
    (hs : ∀ i lo led, i ≤ items.length → I i lo led → At w c led l (.list items))
    (turn : ∀ i v lo led, items[i]? = some v → I i lo led → Sto prog w c x v (fun lo₁ led₁ => WpS prog w c (execs body c.env) (fun f lo₂ led₂ => match f with
      | .next | .cont => I (i + 1) lo₂ led₂
      | .brk => R .next lo₂ led₂
      | .ret a => R (.ret a) lo₂ led₂) lo₁ led₁) lo led)
    (done : ∀ lo led, I items.length lo led → R .next lo led) (hf : autoParam (∀ x, foldedSetIterable iter c.env x = pure x) mai._auto_1) :
    WpS prog w c (exec (.For (.Name x px) iter body [] pos) c.env) R lo led := by
  refine s_for_list ok l items (fun pre => I pre.length) h (fun pre post lo led e => hs _ lo led (by rw [e]; simp)) ?_ done hf
  intro pre v post lo led e hI v' hv'
  have := turn pre.length v lo led (split_at e) hI v' hv'
  simp only [List.length_append, List.length_cons, List.length_nil, Nat.zero_add]
  exact this
theorem s_forn_range {x : Str} {px pos : Pos} {iter : Expr} {body : List Stmt} {R : AF → Lo → Led → Prop} (ok : c.Ok w n) (k : Nat) (hk : k ≤ 1000000) (I : Nat → Lo → Led → Prop)
    (h : WpV prog w c (eval iter c.env) (fun a lo₁ led₁ => ∃ r led₂, a = .ref r ∧ led₁ = (r, .range 0 k 1) :: led₂ ∧ I 0 lo₁ led₂) lo led)
    (turn : ∀ (i : Nat) lo led, i < k → I i lo led → Sto prog w c x (.int i) (fun lo₁ led₁ => WpS prog w c (execs body c.env) (fun f lo₂ led₂ => match f with
      | .next | .cont => I (i + 1) lo₂ led₂
      | .brk => R .next lo₂ led₂
      | .ret a => R (.ret a) lo₂ led₂) lo₁ led₁) lo led)
    (done : ∀ lo led, I k lo led → R .next lo led) (hf : autoParam (∀ x, foldedSetIterable iter c.env x = pure x) mai._auto_1) :
    WpS prog w c (exec (.For (.Name x px) iter body [] pos) c.env) R lo led := by
  refine s_for_range ok k hk (fun pre => I pre.length) h ?_ (fun lo led hI => done lo led (by rw [rangeOf_len] at hI; exact hI)) hf
  intro pre v post lo led e hI v' hv'
  obtain ⟨hi, rfl⟩ := rangeOf_get (split_at e)
  have := turn pre.length lo led hi hI v' hv'
  simp only [List.length_append, List.length_cons, List.length_nil, Nat.zero_add]
  exact this
end
end Mine
namespace Mine
open PySem PySem.Spec PySem.Calls PyProof.Rows PySem.W
section
variable {prog : Program} {w : World} {c : Cx} {n : Nat} {led led' : Led} {R : AV → Lo → Led → Prop} {ns : List (Str × NameKind)} {x : Str} {v a : AV} {pos p' : Pos} {r : Lo}
theorem n_loc_0 (ok : c.Ok w n) (hN : c.env.scope.names = ns) (hf : NL ns x 0 .local) (h : R v (some v :: r) led) : WpV prog w c (eval (.Name x pos) c.env) R (some v :: r) led := n_loc ok hN hf rfl h
theorem n_loc_1 {a0 : Option AV} (ok : c.Ok w n) (hN : c.env.scope.names = ns) (hf : NL ns x 1 .local) (h : R v (a0 :: some v :: r) led) : WpV prog w c (eval (.Name x pos) c.env) R (a0 :: some v :: r) led := n_loc ok hN hf rfl h
theorem n_sto_1 {a0 : Option AV} {u : Option AV} {R : Lo → Led → Prop} (ok : c.Ok w n) (hN : c.env.scope.names = ns) (hf : NL ns x 1 .local) (h : R (a0 :: some a :: r) led) : Sto prog w c x a R (a0 :: u :: r) led := n_sto ok hN hf (Nat.succ_lt_succ (Nat.succ_pos _)) rfl h
theorem n_aug_1 {a0 : Option AV} {R : AF → Lo → Led → Prop} {value : Expr} {op : Operator} (ok : c.Ok w n) (hN : c.env.scope.names = ns) (hf : NL ns x 1 .local) (h : WpV prog w c (eval value c.env) (fun b lo₁ led₁ => Iop prog w c op a b (fun r => Sto prog w c x r (R .next)) lo₁ led₁) (a0 :: some a :: r) led) : WpS prog w c (exec (.AugAssign (.Name x p') op value pos) c.env) R (a0 :: some a :: r) led := n_aug ok hN hf rfl h
theorem n_loc_2 {a0 a1 : Option AV} (ok : c.Ok w n) (hN : c.env.scope.names = ns) (hf : NL ns x 2 .local) (h : R v (a0 :: a1 :: some v :: r) led) : WpV prog w c (eval (.Name x pos) c.env) R (a0 :: a1 :: some v :: r) led := n_loc ok hN hf rfl h
theorem n_sto_2 {a0 a1 : Option AV} {u : Option AV} {R : Lo → Led → Prop} (ok : c.Ok w n) (hN : c.env.scope.names = ns) (hf : NL ns x 2 .local) (h : R (a0 :: a1 :: some a :: r) led) : Sto prog w c x a R (a0 :: a1 :: u :: r) led := n_sto ok hN hf (Nat.succ_lt_succ (Nat.succ_lt_succ (Nat.succ_pos _))) rfl h
theorem n_loc_3 {a0 a1 a2 : Option AV} (ok : c.Ok w n) (hN : c.env.scope.names = ns) (hf : NL ns x 3 .local) (h : R v (a0 :: a1 :: a2 :: some v :: r) led) : WpV prog w c (eval (.Name x pos) c.env) R (a0 :: a1 :: a2 :: some v :: r) led := n_loc ok hN hf rfl h
theorem n_sto_3 {a0 a1 a2 : Option AV} {u : Option AV} {R : Lo → Led → Prop} (ok : c.Ok w n) (hN : c.env.scope.names = ns) (hf : NL ns x 3 .local) (h : R (a0 :: a1 :: a2 :: some a :: r) led) : Sto prog w c x a R (a0 :: a1 :: a2 :: u :: r) led := n_sto ok hN hf (Nat.succ_lt_succ (Nat.succ_lt_succ (Nat.succ_lt_succ (Nat.succ_pos _)))) rfl h
theorem n_loc_4 {a0 a1 a2 a3 : Option AV} (ok : c.Ok w n) (hN : c.env.scope.names = ns) (hf : NL ns x 4 .local) (h : R v (a0 :: a1 :: a2 :: a3 :: some v :: r) led) : WpV prog w c (eval (.Name x pos) c.env) R (a0 :: a1 :: a2 :: a3 :: some v :: r) led := n_loc ok hN hf rfl h
theorem n_sto_4 {a0 a1 a2 a3 : Option AV} {u : Option AV} {R : Lo → Led → Prop} (ok : c.Ok w n) (hN : c.env.scope.names = ns) (hf : NL ns x 4 .local) (h : R (a0 :: a1 :: a2 :: a3 :: some a :: r) led) : Sto prog w c x a R (a0 :: a1 :: a2 :: a3 :: u :: r) led := n_sto ok hN hf (Nat.succ_lt_succ (Nat.succ_lt_succ (Nat.succ_lt_succ (Nat.succ_lt_succ (Nat.succ_pos _))))) rfl h
theorem n_loc_5 {a0 a1 a2 a3 a4 : Option AV} (ok : c.Ok w n) (hN : c.env.scope.names = ns) (hf : NL ns x 5 .local) (h : R v (a0 :: a1 :: a2 :: a3 :: a4 :: some v :: r) led) : WpV prog w c (eval (.Name x pos) c.env) R (a0 :: a1 :: a2 :: a3 :: a4 :: some v :: r) led := n_loc ok hN hf rfl h
theorem n_sto_5 {a0 a1 a2 a3 a4 : Option AV} {u : Option AV} {R : Lo → Led → Prop} (ok : c.Ok w n) (hN : c.env.scope.names = ns) (hf : NL ns x 5 .local) (h : R (a0 :: a1 :: a2 :: a3 :: a4 :: some a :: r) led) : Sto prog w c x a R (a0 :: a1 :: a2 :: a3 :: a4 :: u :: r) led := n_sto ok hN hf (Nat.succ_lt_succ (Nat.succ_lt_succ (Nat.succ_lt_succ (Nat.succ_lt_succ (Nat.succ_lt_succ (Nat.succ_pos _)))))) rfl h
theorem n_loc_6 {a0 a1 a2 a3 a4 a5 : Option AV} (ok : c.Ok w n) (hN : c.env.scope.names = ns) (hf : NL ns x 6 .local) (h : R v (a0 :: a1 :: a2 :: a3 :: a4 :: a5 :: some v :: r) led) : WpV prog w c (eval (.Name x pos) c.env) R (a0 :: a1 :: a2 :: a3 :: a4 :: a5 :: some v :: r) led := n_loc ok hN hf rfl h
theorem n_sto_6 {a0 a1 a2 a3 a4 a5 : Option AV} {u : Option AV} {R : Lo → Led → Prop} (ok : c.Ok w n) (hN : c.env.scope.names = ns) (hf : NL ns x 6 .local) (h : R (a0 :: a1 :: a2 :: a3 :: a4 :: a5 :: some a :: r) led) : Sto prog w c x a R (a0 :: a1 :: a2 :: a3 :: a4 :: a5 :: u :: r) led := n_sto ok hN hf (Nat.succ_lt_succ (Nat.succ_lt_succ (Nat.succ_lt_succ (Nat.succ_lt_succ (Nat.succ_lt_succ (Nat.succ_lt_succ (Nat.succ_pos _))))))) rfl h
theorem n_loc_7 {a0 a1 a2 a3 a4 a5 a6 : Option AV} (ok : c.Ok w n) (hN : c.env.scope.names = ns) (hf : NL ns x 7 .local) (h : R v (a0 :: a1 :: a2 :: a3 :: a4 :: a5 :: a6 :: some v :: r) led) : WpV prog w c (eval (.Name x pos) c.env) R (a0 :: a1 :: a2 :: a3 :: a4 :: a5 :: a6 :: some v :: r) led := n_loc ok hN hf rfl h
theorem n_sto_7 {a0 a1 a2 a3 a4 a5 a6 : Option AV} {u : Option AV} {R : Lo → Led → Prop} (ok : c.Ok w n) (hN : c.env.scope.names = ns) (hf : NL ns x 7 .local) (h : R (a0 :: a1 :: a2 :: a3 :: a4 :: a5 :: a6 :: some a :: r) led) : Sto prog w c x a R (a0 :: a1 :: a2 :: a3 :: a4 :: a5 :: a6 :: u :: r) led := n_sto ok hN hf (Nat.succ_lt_succ (Nat.succ_lt_succ (Nat.succ_lt_succ (Nat.succ_lt_succ (Nat.succ_lt_succ (Nat.succ_lt_succ (Nat.succ_lt_succ (Nat.succ_pos _)))))))) rfl h
theorem n_loc_8 {a0 a1 a2 a3 a4 a5 a6 a7 : Option AV} (ok : c.Ok w n) (hN : c.env.scope.names = ns) (hf : NL ns x 8 .local) (h : R v (a0 :: a1 :: a2 :: a3 :: a4 :: a5 :: a6 :: a7 :: some v :: r) led) : WpV prog w c (eval (.Name x pos) c.env) R (a0 :: a1 :: a2 :: a3 :: a4 :: a5 :: a6 :: a7 :: some v :: r) led := n_loc ok hN hf rfl h
theorem n_sto_8 {a0 a1 a2 a3 a4 a5 a6 a7 : Option AV} {u : Option AV} {R : Lo → Led → Prop} (ok : c.Ok w n) (hN : c.env.scope.names = ns) (hf : NL ns x 8 .local) (h : R (a0 :: a1 :: a2 :: a3 :: a4 :: a5 :: a6 :: a7 :: some a :: r) led) : Sto prog w c x a R (a0 :: a1 :: a2 :: a3 :: a4 :: a5 :: a6 :: a7 :: u :: r) led := n_sto ok hN hf (Nat.succ_lt_succ (Nat.succ_lt_succ (Nat.succ_lt_succ (Nat.succ_lt_succ (Nat.succ_lt_succ (Nat.succ_lt_succ (Nat.succ_lt_succ (Nat.succ_lt_succ (Nat.succ_pos _))))))))) rfl h
theorem n_loc_9 {a0 a1 a2 a3 a4 a5 a6 a7 a8 : Option AV} (ok : c.Ok w n) (hN : c.env.scope.names = ns) (hf : NL ns x 9 .local) (h : R v (a0 :: a1 :: a2 :: a3 :: a4 :: a5 :: a6 :: a7 :: a8 :: some v :: r) led) : WpV prog w c (eval (.Name x pos) c.env) R (a0 :: a1 :: a2 :: a3 :: a4 :: a5 :: a6 :: a7 :: a8 :: some v :: r) led := n_loc ok hN hf rfl h
theorem n_sto_9 {a0 a1 a2 a3 a4 a5 a6 a7 a8 : Option AV} {u : Option AV} {R : Lo → Led → Prop} (ok : c.Ok w n) (hN : c.env.scope.names = ns) (hf : NL ns x 9 .local) (h : R (a0 :: a1 :: a2 :: a3 :: a4 :: a5 :: a6 :: a7 :: a8 :: some a :: r) led) : Sto prog w c x a R (a0 :: a1 :: a2 :: a3 :: a4 :: a5 :: a6 :: a7 :: a8 :: u :: r) led := n_sto ok hN hf (Nat.succ_lt_succ (Nat.succ_lt_succ (Nat.succ_lt_succ (Nat.succ_lt_succ (Nat.succ_lt_succ (Nat.succ_lt_succ (Nat.succ_lt_succ (Nat.succ_lt_succ (Nat.succ_lt_succ (Nat.succ_pos _)))))))))) rfl h
theorem n_loc_10 {a0 a1 a2 a3 a4 a5 a6 a7 a8 a9 : Option AV} (ok : c.Ok w n) (hN : c.env.scope.names = ns) (hf : NL ns x 10 .local) (h : R v (a0 :: a1 :: a2 :: a3 :: a4 :: a5 :: a6 :: a7 :: a8 :: a9 :: some v :: r) led) : WpV prog w c (eval (.Name x pos) c.env) R (a0 :: a1 :: a2 :: a3 :: a4 :: a5 :: a6 :: a7 :: a8 :: a9 :: some v :: r) led := n_loc ok hN hf rfl h
theorem n_sto_10 {a0 a1 a2 a3 a4 a5 a6 a7 a8 a9 : Option AV} {u : Option AV} {R : Lo → Led → Prop} (ok : c.Ok w n) (hN : c.env.scope.names = ns) (hf : NL ns x 10 .local) (h : R (a0 :: a1 :: a2 :: a3 :: a4 :: a5 :: a6 :: a7 :: a8 :: a9 :: some a :: r) led) : Sto prog w c x a R (a0 :: a1 :: a2 :: a3 :: a4 :: a5 :: a6 :: a7 :: a8 :: a9 :: u :: r) led := n_sto ok hN hf (Nat.succ_lt_succ (Nat.succ_lt_succ (Nat.succ_lt_succ (Nat.succ_lt_succ (Nat.succ_lt_succ (Nat.succ_lt_succ (Nat.succ_lt_succ (Nat.succ_lt_succ (Nat.succ_lt_succ (Nat.succ_lt_succ (Nat.succ_pos _))))))))))) rfl h
theorem n_loc_11 {a0 a1 a2 a3 a4 a5 a6 a7 a8 a9 a10 : Option AV} (ok : c.Ok w n) (hN : c.env.scope.names = ns) (hf : NL ns x 11 .local) (h : R v (a0 :: a1 :: a2 :: a3 :: a4 :: a5 :: a6 :: a7 :: a8 :: a9 :: a10 :: some v :: r) led) : WpV prog w c (eval (.Name x pos) c.env) R (a0 :: a1 :: a2 :: a3 :: a4 :: a5 :: a6 :: a7 :: a8 :: a9 :: a10 :: some v :: r) led := n_loc ok hN hf rfl h
theorem n_sto_11 {a0 a1 a2 a3 a4 a5 a6 a7 a8 a9 a10 : Option AV} {u : Option AV} {R : Lo → Led → Prop} (ok : c.Ok w n) (hN : c.env.scope.names = ns) (hf : NL ns x 11 .local) (h : R (a0 :: a1 :: a2 :: a3 :: a4 :: a5 :: a6 :: a7 :: a8 :: a9 :: a10 :: some a :: r) led) : Sto prog w c x a R (a0 :: a1 :: a2 :: a3 :: a4 :: a5 :: a6 :: a7 :: a8 :: a9 :: a10 :: u :: r) led := n_sto ok hN hf (Nat.succ_lt_succ (Nat.succ_lt_succ (Nat.succ_lt_succ (Nat.succ_lt_succ (Nat.succ_lt_succ (Nat.succ_lt_succ (Nat.succ_lt_succ (Nat.succ_lt_succ (Nat.succ_lt_succ (Nat.succ_lt_succ (Nat.succ_lt_succ (Nat.succ_pos _)))))))))))) rfl h
theorem n_loc_12 {a0 a1 a2 a3 a4 a5 a6 a7 a8 a9 a10 a11 : Option AV} (ok : c.Ok w n) (hN : c.env.scope.names = ns) (hf : NL ns x 12 .local) (h : R v (a0 :: a1 :: a2 :: a3 :: a4 :: a5 :: a6 :: a7 :: a8 :: a9 :: a10 :: a11 :: some v :: r) led) : WpV prog w c (eval (.Name x pos) c.env) R (a0 :: a1 :: a2 :: a3 :: a4 :: a5 :: a6 :: a7 :: a8 :: a9 :: a10 :: a11 :: some v :: r) led := n_loc ok hN hf rfl h
theorem n_sto_12 {a0 a1 a2 a3 a4 a5 a6 a7 a8 a9 a10 a11 : Option AV} {u : Option AV} {R : Lo → Led → Prop} (ok : c.Ok w n) (hN : c.env.scope.names = ns) (hf : NL ns x 12 .local) (h : R (a0 :: a1 :: a2 :: a3 :: a4 :: a5 :: a6 :: a7 :: a8 :: a9 :: a10 :: a11 :: some a :: r) led) : Sto prog w c x a R (a0 :: a1 :: a2 :: a3 :: a4 :: a5 :: a6 :: a7 :: a8 :: a9 :: a10 :: a11 :: u :: r) led := n_sto ok hN hf (Nat.succ_lt_succ (Nat.succ_lt_succ (Nat.succ_lt_succ (Nat.succ_lt_succ (Nat.succ_lt_succ (Nat.succ_lt_succ (Nat.succ_lt_succ (Nat.succ_lt_succ (Nat.succ_lt_succ (Nat.succ_lt_succ (Nat.succ_lt_succ (Nat.succ_lt_succ (Nat.succ_pos _))))))))))))) rfl h
theorem n_loc_13 {a0 a1 a2 a3 a4 a5 a6 a7 a8 a9 a10 a11 a12 : Option AV} (ok : c.Ok w n) (hN : c.env.scope.names = ns) (hf : NL ns x 13 .local) (h : R v (a0 :: a1 :: a2 :: a3 :: a4 :: a5 :: a6 :: a7 :: a8 :: a9 :: a10 :: a11 :: a12 :: some v :: r) led) : WpV prog w c (eval (.Name x pos) c.env) R (a0 :: a1 :: a2 :: a3 :: a4 :: a5 :: a6 :: a7 :: a8 :: a9 :: a10 :: a11 :: a12 :: some v :: r) led := n_loc ok hN hf rfl h
theorem n_sto_13 {a0 a1 a2 a3 a4 a5 a6 a7 a8 a9 a10 a11 a12 : Option AV} {u : Option AV} {R : Lo → Led → Prop} (ok : c.Ok w n) (hN : c.env.scope.names = ns) (hf : NL ns x 13 .local) (h : R (a0 :: a1 :: a2 :: a3 :: a4 :: a5 :: a6 :: a7 :: a8 :: a9 :: a10 :: a11 :: a12 :: some a :: r) led) : Sto prog w c x a R (a0 :: a1 :: a2 :: a3 :: a4 :: a5 :: a6 :: a7 :: a8 :: a9 :: a10 :: a11 :: a12 :: u :: r) led := n_sto ok hN hf (Nat.succ_lt_succ (Nat.succ_lt_succ (Nat.succ_lt_succ (Nat.succ_lt_succ (Nat.succ_lt_succ (Nat.succ_lt_succ (Nat.succ_lt_succ (Nat.succ_lt_succ (Nat.succ_lt_succ (Nat.succ_lt_succ (Nat.succ_lt_succ (Nat.succ_lt_succ (Nat.succ_lt_succ (Nat.succ_pos _)))))))))))))) rfl h
theorem n_loc_14 {a0 a1 a2 a3 a4 a5 a6 a7 a8 a9 a10 a11 a12 a13 : Option AV} (ok : c.Ok w n) (hN : c.env.scope.names = ns) (hf : NL ns x 14 .local) (h : R v (a0 :: a1 :: a2 :: a3 :: a4 :: a5 :: a6 :: a7 :: a8 :: a9 :: a10 :: a11 :: a12 :: a13 :: some v :: r) led) : WpV prog w c (eval (.Name x pos) c.env) R (a0 :: a1 :: a2 :: a3 :: a4 :: a5 :: a6 :: a7 :: a8 :: a9 :: a10 :: a11 :: a12 :: a13 :: some v :: r) led := n_loc ok hN hf rfl h
theorem n_sto_14 {a0 a1 a2 a3 a4 a5 a6 a7 a8 a9 a10 a11 a12 a13 : Option AV} {u : Option AV} {R : Lo → Led → Prop} (ok : c.Ok w n) (hN : c.env.scope.names = ns) (hf : NL ns x 14 .local) (h : R (a0 :: a1 :: a2 :: a3 :: a4 :: a5 :: a6 :: a7 :: a8 :: a9 :: a10 :: a11 :: a12 :: a13 :: some a :: r) led) : Sto prog w c x a R (a0 :: a1 :: a2 :: a3 :: a4 :: a5 :: a6 :: a7 :: a8 :: a9 :: a10 :: a11 :: a12 :: a13 :: u :: r) led := n_sto ok hN hf (Nat.succ_lt_succ (Nat.succ_lt_succ (Nat.succ_lt_succ (Nat.succ_lt_succ (Nat.succ_lt_succ (Nat.succ_lt_succ (Nat.succ_lt_succ (Nat.succ_lt_succ (Nat.succ_lt_succ (Nat.succ_lt_succ (Nat.succ_lt_succ (Nat.succ_lt_succ (Nat.succ_lt_succ (Nat.succ_lt_succ (Nat.succ_pos _))))))))))))))) rfl h
theorem n_loc_15 {a0 a1 a2 a3 a4 a5 a6 a7 a8 a9 a10 a11 a12 a13 a14 : Option AV} (ok : c.Ok w n) (hN : c.env.scope.names = ns) (hf : NL ns x 15 .local) (h : R v (a0 :: a1 :: a2 :: a3 :: a4 :: a5 :: a6 :: a7 :: a8 :: a9 :: a10 :: a11 :: a12 :: a13 :: a14 :: some v :: r) led) : WpV prog w c (eval (.Name x pos) c.env) R (a0 :: a1 :: a2 :: a3 :: a4 :: a5 :: a6 :: a7 :: a8 :: a9 :: a10 :: a11 :: a12 :: a13 :: a14 :: some v :: r) led := n_loc ok hN hf rfl h
theorem n_sto_15 {a0 a1 a2 a3 a4 a5 a6 a7 a8 a9 a10 a11 a12 a13 a14 : Option AV} {u : Option AV} {R : Lo → Led → Prop} (ok : c.Ok w n) (hN : c.env.scope.names = ns) (hf : NL ns x 15 .local) (h : R (a0 :: a1 :: a2 :: a3 :: a4 :: a5 :: a6 :: a7 :: a8 :: a9 :: a10 :: a11 :: a12 :: a13 :: a14 :: some a :: r) led) : Sto prog w c x a R (a0 :: a1 :: a2 :: a3 :: a4 :: a5 :: a6 :: a7 :: a8 :: a9 :: a10 :: a11 :: a12 :: a13 :: a14 :: u :: r) led := n_sto ok hN hf (Nat.succ_lt_succ (Nat.succ_lt_succ (Nat.succ_lt_succ (Nat.succ_lt_succ (Nat.succ_lt_succ (Nat.succ_lt_succ (Nat.succ_lt_succ (Nat.succ_lt_succ (Nat.succ_lt_succ (Nat.succ_lt_succ (Nat.succ_lt_succ (Nat.succ_lt_succ (Nat.succ_lt_succ (Nat.succ_lt_succ (Nat.succ_lt_succ (Nat.succ_pos _)))))))))))))))) rfl h
theorem n_loc_16 {a0 a1 a2 a3 a4 a5 a6 a7 a8 a9 a10 a11 a12 a13 a14 a15 : Option AV} (ok : c.Ok w n) (hN : c.env.scope.names = ns) (hf : NL ns x 16 .local) (h : R v (a0 :: a1 :: a2 :: a3 :: a4 :: a5 :: a6 :: a7 :: a8 :: a9 :: a10 :: a11 :: a12 :: a13 :: a14 :: a15 :: some v :: r) led) : WpV prog w c (eval (.Name x pos) c.env) R (a0 :: a1 :: a2 :: a3 :: a4 :: a5 :: a6 :: a7 :: a8 :: a9 :: a10 :: a11 :: a12 :: a13 :: a14 :: a15 :: some v :: r) led := n_loc ok hN hf rfl h
theorem n_sto_16 {a0 a1 a2 a3 a4 a5 a6 a7 a8 a9 a10 a11 a12 a13 a14 a15 : Option AV} {u : Option AV} {R : Lo → Led → Prop} (ok : c.Ok w n) (hN : c.env.scope.names = ns) (hf : NL ns x 16 .local) (h : R (a0 :: a1 :: a2 :: a3 :: a4 :: a5 :: a6 :: a7 :: a8 :: a9 :: a10 :: a11 :: a12 :: a13 :: a14 :: a15 :: some a :: r) led) : Sto prog w c x a R (a0 :: a1 :: a2 :: a3 :: a4 :: a5 :: a6 :: a7 :: a8 :: a9 :: a10 :: a11 :: a12 :: a13 :: a14 :: a15 :: u :: r) led := n_sto ok hN hf (Nat.succ_lt_succ (Nat.succ_lt_succ (Nat.succ_lt_succ (Nat.succ_lt_succ (Nat.succ_lt_succ (Nat.succ_lt_succ (Nat.succ_lt_succ (Nat.succ_lt_succ (Nat.succ_lt_succ (Nat.succ_lt_succ (Nat.succ_lt_succ (Nat.succ_lt_succ (Nat.succ_lt_succ (Nat.succ_lt_succ (Nat.succ_lt_succ (Nat.succ_lt_succ (Nat.succ_pos _))))))))))))))))) rfl h
end
end Mine
namespace Mine
open PySem PySem.Spec PySem.Calls PyProof.Rows PySem.W PySem.Builtin.Str
section
variable {prog : Program} {w : World} {c : Cx} {n : Nat} {lo : Lo} {led led' : Led} {R : AV → Lo → Led → Prop}
noncomputable def Part (prog : Program) (w : World) (c : Cx) (e : Option Expr) (R : Option Int → Lo → Led → Prop) (lo : Lo) (led : Led) : Prop :=
  Wp prog w c (evalPart e c.env) (fun v lo led => ∃ i, IsPart v i ∧ R i lo led) lo led
theorem o_none {R : Option Int → Lo → Led → Prop} (h : R none lo led) : Part prog w c none R lo led :=
  fun fr s Q E rep kk => wpAny_pure (kk .none lo led s.heap s.toks ⟨none, .none, h⟩ rep)
theorem o_some {R : Option Int → Lo → Led → Prop} {e : Expr} (h : WpV prog w c (eval e c.env) (fun a lo₁ led₁ => ∃ i, a = .int i ∧ R (some i) lo₁ led₁) lo led) : Part prog w c (some e) R lo led := by
  intro fr s Q E rep kk
  refine h fr s Q E rep ?_
  rintro a lo' led' h' tk' ⟨i, hi, hR⟩ rep'
  obtain ⟨t, rfl⟩ := er_int hi
  exact kk _ _ _ _ _ ⟨some i, .int i t, hR⟩ rep'
theorem pick_nat (items : Array Value) {lo hi : Option Int} {a b : Nat} (e : sliceBounds lo hi none items.size = ((a : Int), (b : Int), 1)) : slicePick items lo hi none = ((items.toList.drop a).take (b - a)).toArray := kmk_pick_nat items e
theorem e_slicel {value : Expr} {lower upper : Option Expr} {p pos : Pos} (l : Addr) (xs : List AV)
    (h : WpV prog w c (eval value c.env) (fun o lo₁ led₁ => o = .ref l ∧ Part prog w c lower (fun i lo₂ led₂ => Part prog w c upper (fun j lo₃ led₃ => IsL w c led₃ l xs ∧ xs.length ≤ 2 ^ 20 ∧ ∃ a b : Nat,
      sliceBounds i j none xs.length = ((a : Int), (b : Int), 1) ∧ ∀ D, R (.ref D) lo₃ ((D, .list ((xs.drop a).take (b - a))) :: led₃)) lo₂ led₂) lo₁ led₁) lo led)
    (hg : ∀ o r, letTemporaryGo value o r = pure () := by intro _ _; with_unfolding_all rfl) :
    WpV prog w c (eval (.Subscript value (.Slice lower upper none p) pos) c.env) R lo led := by
  intro fr s Q E rep kk
  refine wpAny_Subscript_list_slice (h fr s _ E rep ?_) hg
  rintro o lo₁ led₁ h₁ t₁ ⟨ho, h₁'⟩ rep₁
  obtain rfl := er_ref ho
  refine h₁' fr _ _ E rep₁ ?_
  rintro vl lo₂ led₂ h₂ t₂ ⟨i, hi, h₂'⟩ rep₂
  refine h₂' fr _ _ E rep₂ ?_
  rintro vu lo₃ led₃ h₃ t₃ ⟨j, hj, hl, hx, a, b, hb, hR⟩ rep₃
  obtain ⟨vs, hl', rfl⟩ := hl _ _ _ rep₃
  simp only [List.length_map] at hx hb
  refine ⟨l, vs.toArray, i, j, rfl, hl', by rw [List.size_toArray]; exact Nat.le_trans hx (by decide), hi, hj, ?_⟩
  rw [pick_nat _ (by rw [List.size_toArray]; exact hb)]
  refine kk _ _ _ _ _ (hR (h₃.objs.size + 1)) ?_
  have r1 := rep₃.ext (h' := h₃.push { cls := .type "slice", data := .fields #[vl, vu, .none] }) fun b o e => Heap.get?_push_of_some _ e
  have r2 := r1.push { cls := .type "list", data := .seq ((vs.drop a).take (b - a)).toArray 0 } (.list (((vs.map er).drop a).take (b - a))) ⟨_, 0, rfl, by rw [List.map_take, List.map_drop]⟩
  rw [Heap.size_push] at r2
  exact r2
theorem clip_hi (i len : Nat) (h : i ≤ len) : strSliceIndices (some (i : Int)) (some ((i : Int) + 1)) 1 len = (List.range (min (i + 1) len - i)).map (fun k => i + k) := by
  rcases Nat.lt_or_eq_of_le h with h | rfl
  · rw [Nat.min_eq_left h]
    exact StrLaws.strSliceIndices_plain (Nat.le_succ i) h
  · rw [Nat.min_eq_right (Nat.le_succ i), ← StrLaws.strSliceIndices_plain (Nat.le_refl i) (Nat.le_refl i)]
    unfold strSliceIndices
    have h1 : ¬ ((i : Int) + 1 < 0) := Int.not_lt.mpr (Int.natCast_nonneg (i + 1))
    have h2 : ¬ ((i : Int) < 0) := Int.not_lt.mpr (Int.natCast_nonneg i)
    simp only [if_neg h1, if_neg h2, if_pos (show (1 : Int) > 0 by decide), Int.min_eq_right (Int.le_of_lt (Int.lt_succ (i : Int))), Int.min_self]
noncomputable def signAt (x : Str) (i : Nat) : Str := ⟨(x.cps.toList.drop i |>.take 1).toArray⟩
theorem range_filterMap (x : Array Nat) (i m : Nat) (h : i + m ≤ x.size) : ((List.range m).map (fun k => i + k)).filterMap (x[·]?) = (x.toList.drop i).take m := by
  induction m with
  | zero => simp
  | succ m ih =>
    rw [List.range_succ, List.map_append, List.filterMap_append, ih (by omega), List.take_add_one]
    simp [show i + m < x.size by omega]
theorem slice_er {x : Str} {t : Tok} {i : Nat} (ti tj : Tok) (h : i ≤ x.length) (hx : x.length ≤ 2 ^ 20) {Q : Value → Shared → Prop} {s : Shared} (hQ : ∀ v tk, er v = .str (signAt x i) → Q v { s with toks := tk }) :
    (sliceMade x t (some ((i : Int), ti)) (some ((i : Int) + 1, tj)) none).post Q s := by
  have hp : slicePicked x (some ((i : Int), ti)) (some ((i : Int) + 1, tj)) none = (List.range (min (i + 1) x.length - i)).map (fun k => i + k) := clip_hi i x.length h
  have hs : x.length = x.cps.size := rfl
  have hf : ((slicePicked x (some ((i : Int), ti)) (some ((i : Int) + 1, tj)) none).filterMap (x.cps[·]?)) = (x.cps.toList.drop i).take 1 := by
    rw [hp, range_filterMap _ _ _ (by omega)]
    by_cases hi : i < x.length
    · rw [show min (i + 1) x.length - i = 1 by omega]
    · rw [show min (i + 1) x.length - i = 0 by omega, List.drop_eq_nil_of_le (by rw [Array.length_toList]; omega)]; rfl
  unfold sliceMade
  split
  · rename_i hc
    refine hQ _ s.toks ?_
    show AV.str x = _
    simp only [Bool.and_eq_true, beq_iff_eq, hp, List.length_map, List.length_range] at hc
    congr 1
    obtain ⟨cps⟩ := x
    unfold signAt
    congr 1
    have hs' : (Str.mk cps).length = cps.size := rfl
    rw [hs'] at hc h hx
    apply Array.ext'
    show cps.toList = ((cps.toList.drop i).take 1)
    have hi : i = 0 ∨ cps.size = 0 := by omega
    rcases hi with rfl | hi
    · rw [List.drop_zero, List.take_of_length_le]; rw [Array.length_toList]; omega
    · have : cps.toList = [] := List.eq_nil_of_length_eq_zero (by rw [Array.length_toList]; exact hi)
      rw [this]; simp
  · show _ ∧ _
    rw [hf]
    refine ⟨?_, hQ _ _ rfl⟩
    show ((x.cps.toList.drop i).take 1).toArray.size ≤ sizeLine
    rw [List.size_toArray, List.length_take]
    exact Nat.le_trans (Nat.min_le_left _ _) (by decide)
theorem e_slices {value : Expr} {lower upper : Option Expr} {p pos : Pos} (x : Str)
    (h : WpV prog w c (eval value c.env) (fun o lo₁ led₁ => o = .str x ∧ Part prog w c lower (fun i lo₂ led₂ => Part prog w c upper (fun j lo₃ led₃ => x.length ≤ 2 ^ 20 ∧ ∃ a : Nat, i = some (a : Int) ∧ j = some ((a : Int) + 1) ∧
      a ≤ x.length ∧ R (.str (signAt x a)) lo₃ led₃) lo₂ led₂) lo₁ led₁) lo led)
    (hg : ∀ o r, letTemporaryGo value o r = pure () := by intro _ _; with_unfolding_all rfl) :
    WpV prog w c (eval (.Subscript value (.Slice lower upper none p) pos) c.env) R lo led := by
  intro fr s Q E rep kk
  refine wpAny_Subscript_str_slice (h fr s _ E rep ?_) hg
  rintro o lo₁ led₁ h₁ t₁ ⟨ho, h₁'⟩ rep₁
  obtain ⟨t, rfl⟩ := er_str ho
  refine h₁' fr _ _ E rep₁ ?_
  rintro vl lo₂ led₂ h₂ t₂ ⟨i, hi, h₂'⟩ rep₂
  refine h₂' fr _ _ E rep₂ ?_
  rintro vu lo₃ led₃ h₃ t₃ ⟨j, hj, hx, a, rfl, rfl, ha, hR⟩ rep₃
  cases hi with
  | int _ ti =>
  cases hj with
  | int _ tj =>
  refine ⟨x, t, some (_, ti), some (_, tj), rfl, rfl, rfl, ?_⟩
  refine slice_er ti tj ha hx fun v tk hv => ?_
  exact kk v lo₃ led₃ _ tk (by show R (er v) _ _; rw [hv]; exact hR) (rep₃.ext fun b o e => Heap.get?_push_of_some _ e)
end
end Mine
namespace Mine
open PySem PySem.Spec PySem.Calls PyProof.Rows PySem.W
noncomputable def S (l : List Nat) : Str := ⟨l.toArray⟩
theorem S_len (l : List Nat) : (S l).length = l.length := by show l.toArray.size = _; simp
theorem S_inj {a b : List Nat} : S a = S b ↔ a = b := by
  constructor
  · intro h; have := congrArg (fun x : Str => x.cps.toList) h; simpa [S] using this
  · rintro rfl; rfl
theorem S_app (a b : List Nat) : S a ++ S b = S (a ++ b) := by
  show (⟨a.toArray ++ b.toArray⟩ : Str) = ⟨(a ++ b).toArray⟩
  simp
theorem S_cps (l : List Nat) : (S l).cps.toList = l := by simp [S]
theorem S_beq (a b : List Nat) : (S a == S b) = decide (a = b) := by
  by_cases h : a = b
  · subst h; simp
  · have : S a ≠ S b := fun e => h (S_inj.mp e)
    rw [decide_eq_false h]; simpa using this
theorem lit_dot : Str.ofString "." = S [46] := by decide +kernel
theorem lit_quote : Str.ofString "\"" = S [34] := by decide +kernel
theorem lit_back : Str.ofString "\\" = S [92] := by decide +kernel
theorem lit_nl : Str.ofString "\n" = S [10] := by decide +kernel
theorem lit_cr : Str.ofString "\r" = S [13] := by decide +kernel
theorem lit_crlf : Str.ofString "\r\n" = S [13, 10] := by decide +kernel
theorem lit_empty : Str.ofString "" = S [] := by decide +kernel
theorem lit_white : Str.ofString "\n\t\r " = S [10, 9, 13, 32] := by decide +kernel
theorem smd_join : typeOf (.builtin "str.join") = pure (.type "method_descriptor") := by rfl
theorem lmd_append : typeOf (.builtin "list.append") = pure (.type "method_descriptor") := by rfl
theorem lmd_pop : typeOf (.builtin "list.pop") = pure (.type "method_descriptor") := by rfl
noncomputable def joinL (g : List Nat) : List (List Nat) → List Nat
  | [] => []
  | [a] => a
  | a :: b :: r => a ++ g ++ joinL g (b :: r)
theorem glued_foldl (g : List Nat) : ∀ (r : List (List Nat)) (acc : Array Nat), ((r.map S).foldl (fun acc p => acc ++ (S g).cps ++ p.cps) acc).toList = acc.toList ++ (r.map fun p => g ++ p).flatten
  | [], acc => by simp
  | a :: r, acc => by
    rw [List.map_cons, List.foldl_cons, glued_foldl g r]
    simp [S]
theorem joinL_cons (g a : List Nat) (r : List (List Nat)) : joinL g (a :: r) = a ++ (r.map fun p => g ++ p).flatten := by
  induction r generalizing a with
  | nil => simp [joinL]
  | cons b r ih => rw [joinL, ih]; simp
theorem join_S (g : List Nat) (ws : List (List Nat)) : Txt.join (S g) (ws.map S) = S (joinL g ws) := by
  cases ws with
  | nil => rfl
  | cons a r =>
    show (⟨_⟩ : Str) = ⟨_⟩
    congr 1
    apply Array.ext'
    rw [joinL_cons]
    have := glued_foldl g r (S a).cps
    simp only [List.map_cons, List.drop_succ_cons, List.drop_zero, List.headD_cons]
    rw [this]
    simp [S]
noncomputable abbrev wordsO (ws : List (List Nat)) : AO := .list (ws.map fun x => AV.str (S x))
section
variable {prog : Program} {w : World} {c : Cx} {n : Nat} {lo : Lo} {led led' : Led} {R : AV → Lo → Led → Prop}
theorem AV_strs : ∀ {vs : List Value} {ws : List (List Nat)}, vs.map er = ws.map (fun x => AV.str (S x)) → StrsAre vs (ws.map S)
  | [], [], _ => .nil
  | [], _ :: _, e => by simp at e
  | _ :: _, [], e => by simp at e
  | v :: vs, x :: ws, e => by
    simp only [List.map_cons, List.cons.injEq] at e
    obtain ⟨t, rfl⟩ := er_str e.1
    exact .cons _ _ (AV_strs e.2)
theorem strs_AV : ∀ {vs : List Value} {ys : List Str}, StrsAre vs ys → vs.map er = ys.map AV.str
  | _, _, .nil => rfl
  | _, _, .cons y t h => by simp only [List.map_cons, er, strs_AV h]
theorem b_smul {x : Str} {a : Nat} {k : Int} (hx : x = S [a]) (h0 : 1 ≤ k) (h1 : k ≤ 1000) (h : R (.str (S (List.replicate k.toNat a))) lo led) : Bop prog w c .Mult (.str x) (.int k) R lo led := by
  intro v u hv hu; obtain ⟨t, rfl⟩ := er_str hv; obtain ⟨t', rfl⟩ := er_int hu
  intro fr s Q E rep kk
  subst hx
  have hl : (S [a]).length = 1 := S_len _
  have hm : Txt.mul (S [a]) k = S (List.replicate k.toNat a) := by
    unfold Txt.mul
    rw [if_neg (by omega)]
    split
    · rename_i hk
      rw [hl] at hk
      have : k = 1 := by simpa using hk
      subst this; rfl
    · show (⟨_⟩ : Str) = ⟨_⟩
      congr 1
      apply Array.ext'
      rw [foldl_append_flatten]
      simp [S]
  have ok : MulOk (S [a]) k := by
    refine ⟨by simp; omega, fun _ _ => ?_, fun _ _ => ?_⟩
    · rw [hl]
      have h3 : (2 : Int) ^ 53 ≤ (2 ^ 63 - 1) / k := by
        refine (Int.le_ediv_iff_mul_le (by omega)).mpr ?_
        omega
      omega
    · rw [hl]
      unfold PySem.Builtin.Str.tooLong
      simp [sizeLine]
      omega
  with_reducible refine SB.mul ok fun t' tk => ?_
  rw [hm]
  exact kk _ _ _ _ _ h rep
theorem b_sadd {x y : Str} {a b : List Nat} (hx : x = S a) (hy : y = S b) (hz : a.length + b.length ≤ 2 ^ 20) (h : R (.str (S (a ++ b))) lo led) : Bop prog w c .Add (.str x) (.str y) R lo led := by
  intro v u hv hu; obtain ⟨t, rfl⟩ := er_str hv; obtain ⟨t', rfl⟩ := er_str hu
  subst hx; subst hy
  intro fr s Q E rep kk
  with_reducible refine PyProof.Rows.add_str (fun t' tk => ?_) (by rw [S_len, S_len]; exact Nat.le_trans hz (by decide))
  rw [S_app]
  exact kk _ _ _ _ _ h rep
theorem c_seq {x y : Str} {a b : List Nat} (hx : x = S a) (hy : y = S b) (h : R (.bool (decide (a = b))) lo led) : Cop prog w c .Eq (.str x) (.str y) R lo led := by
  intro v u hv hu; obtain ⟨t, rfl⟩ := er_str hv; obtain ⟨t', rfl⟩ := er_str hu
  subst hx; subst hy
  intro fr s Q E rep kk
  with_reducible refine PyProof.Rows.eq_str ?_
  rw [S_beq]
  exact kk _ _ _ _ s.toks h rep
theorem m_str {pl : Sem Bool} {x : Str} {name : Str} {id : String} {R : AV → List AV → Lo → Led → Prop} (hs : Slot "str" name id) (hd : typeOf (.builtin id) = pure (.type "method_descriptor")) (h : R (er (.builtin id)) [.str x] lo led) : Met prog w c pl name (.str x) R lo led := by
  intro v hv; obtain ⟨t, rfl⟩ := er_str hv
  intro fr s Q E rep kk
  refine GM.of (.str x t) (typeIs_str s x t) hs hd (fun a e => by cases e) ?_
  exact kk (.builtin id, [.str x t]) lo led s.heap s.toks h rep
theorem k_join {x : Str} {g : List Nat} {l : Addr} {ws : List (List Nat)} (hx : x = S g) (hl : IsL w c led l (ws.map fun x => AV.str (S x))) (hg : g.length ≤ 16) (hz : (ws.map List.length).sum + ws.length ≤ 1048576) (h : R (.str (S (joinL g ws))) lo led) :
    Call prog w c (.builtin "str.join") [.str x, .ref l] R lo led := by
  intro vs hvs
  obtain ⟨v, u, rfl, hv, hu⟩ := two_of hvs; obtain ⟨t, rfl⟩ := er_str hv; obtain rfl := er_ref hu
  subst hx
  intro fr s Q E rep kk
  obtain ⟨us, hl', he⟩ := hl _ _ _ rep
  have hS := AV_strs he
  refine join_listW (ys := ws.map S) hl' hS (by rw [S_len]; exact hg) ?_ fun t' tk => ?_
  · rw [List.map_map, List.length_map]
    rw [show (fun x => Str.length x) ∘ S = List.length from funext S_len]
    exact hz
  · rw [join_S]
    exact kk _ _ _ _ _ h rep
theorem k_lenS {x : Str} {a : List Nat} (hx : x = S a) (hz : a.length < 2 ^ 62) (h : R (.int a.length) lo led) : Call prog w c (.builtin "len") [.str x] R lo led := by
  subst hx
  exact k_lens (by rw [S_len]; exact hz) (by rw [S_len]; exact h)
theorem k_appends {l : Addr} {ws : List (List Nat)} {x : Str} {a : List Nat} (hx : x = S a) (u : Up l (wordsO ws) (wordsO (ws ++ [a])) led led') (hz : ws.length ≤ 2 ^ 20) (h : R .none lo led') : Call prog w c (.builtin "list.append") [.ref l, .str x] R lo led := by
  subst hx
  exact k_append (xs := ws.map fun x => AV.str (S x)) (by simpa [wordsO] using u) (by simpa using hz) h
end
end Mine
namespace Mine
open PySem PySem.Spec PySem.Calls PyProof.Rows PySem.W
section
variable {prog : Program} {w : World} {c : Cx} {n : Nat} {lo : Lo} {led led' : Led} {R : AV → Lo → Led → Prop}
noncomputable def gtF (a b : UInt64) : Bool := Float64.cmp a b == some Ordering.gt
noncomputable def ltF (a b : UInt64) : Bool := Float64.cmp a b == some Ordering.lt
noncomputable def eqF (a b : UInt64) : Bool := Float64.cmp a b == some Ordering.eq
noncomputable def max3 (a b d : UInt64) : UInt64 := if gtF b a then (if gtF d b then d else b) else (if gtF d a then d else a)
noncomputable def min3 (a b d : UInt64) : UInt64 := if ltF b a then (if ltF d b then d else b) else (if ltF d a then d else a)
noncomputable def fl3 (a b d : UInt64) (t u x : Tok) : Array Value := #[.float a t, .float b u, .float d x]
noncomputable def at3 (a b d : UInt64) (i : Nat) : UInt64 := if i = 0 then a else if i = 1 then b else d
theorem fl3_at {a b d : UInt64} {t u x : Tok} {i : Nat} {v : Value} (h : (fl3 a b d t u x)[i]? = some v) : ∃ t, v = .float (at3 a b d i) t := by
  have hi : i < 3 := by
    obtain ⟨h, _⟩ := Array.getElem?_eq_some_iff.mp h
    simpa [fl3] using h
  match i, hi with
  | 0, _ => exact ⟨t, by simpa [fl3, at3] using h.symm⟩
  | 1, _ => exact ⟨u, by simpa [fl3, at3] using h.symm⟩
  | 2, _ => exact ⟨x, by simpa [fl3, at3] using h.symm⟩
theorem cmp_gt {A : Around} {a b d : UInt64} {t u x : Tok} : CmpOf prog w A .Gt (fun i v => (fl3 a b d t u x)[i]? = some v) (fun i j => gtF (at3 a b d i) (at3 a b d j)) := by
  intro i j vi vj s Q E hi hj h
  obtain ⟨t, rfl⟩ := fl3_at hi
  obtain ⟨u, rfl⟩ := fl3_at hj
  exact AutoFloatOps.gt_0 (Q := Q) h
theorem cmp_lt {A : Around} {a b d : UInt64} {t u x : Tok} : CmpOf prog w A .Lt (fun i v => (fl3 a b d t u x)[i]? = some v) (fun i j => ltF (at3 a b d i) (at3 a b d j)) := by
  intro i j vi vj s Q E hi hj h
  obtain ⟨t, rfl⟩ := fl3_at hi
  obtain ⟨u, rfl⟩ := fl3_at hj
  exact AutoFloatOps.lt_0 (Q := Q) h
theorem arg3 {f : UInt64 → UInt64 → Bool} {a b d : UInt64} : at3 a b d (argBest (fun i j => f (at3 a b d i) (at3 a b d j)) 2) = if f b a then (if f d b then d else b) else (if f d a then d else a) := by
  simp only [argBest]
  have e0 : at3 a b d 0 = a := rfl
  have e1 : at3 a b d 1 = b := rfl
  have e2 : at3 a b d 2 = d := rfl
  simp only [Nat.zero_add, Nat.reduceAdd]
  rw [e1, e0, e2]
  by_cases h1 : f b a = true
  · simp only [if_pos h1, e1]
    by_cases h2 : f d b = true
    · simp only [if_pos h2, e2]
    · simp only [if_neg h2, e1]
  · simp only [if_neg h1, e0]
    by_cases h2 : f d a = true
    · simp only [if_pos h2, e2]
    · simp only [if_neg h2, e0]
theorem three_walk {A : Around} {s : Shared} {a b d : UInt64} {t u x : Tok} {op : CmpOp} {bt : Nat → Nat → Bool} {Q : Value → Shared → Prop} {E : Value → Shared → Prop} (hh : A.handled = none)
    (hc : CmpOf prog w A.in1 op (fun i v => (fl3 a b d t u x)[i]? = some v) bt)
    (h : ∀ v h' tk, (∃ t, v = .float (at3 a b d (argBest bt 2)) t) → (∀ e o, s.heap.get? e = some o → h'.get? e = some o) → Q v { s with heap := h', toks := tk }) :
    wpAny (model prog w) A.in1 (pyIter (.ref s.heap.objs.size)) (fun it s₂ => ∃ I fp wr n P St bt, it = .ref I ∧ Walks prog w A.in1 I fp wr n P St ∧ St 0 s₂.heap ∧ (∀ b ∈ fp, b < s₂.heap.objs.size) ∧ 0 < n ∧ CmpOf prog w A.in1 op P bt ∧
      ∀ v h' tk, P (argBest bt (n - 1)) v → (∀ b o, b ∉ wr → s₂.heap.get? b = some o → h'.get? b = some o) → Q v { s₂ with heap := h', toks := tk }) E
      { s with heap := s.heap.push { cls := .type "tuple", data := .seq #[.float a t, .float b u, .float d x] } } := by
  have hT : (s.heap.push { cls := .type "tuple", data := .seq #[.float a t, .float b u, .float d x] }).IsTuple s.heap.objs.size (fl3 a b d t u x) := ⟨_, Heap.get?_push_size _ rfl, rfl, 0, rfl⟩
  refine wpAny_pyIter_tuple hT ?_
  have hsz : (s.heap.push { cls := .type "tuple", data := .seq #[.float a t, .float b u, .float d x] }).objs.size = s.heap.objs.size + 1 := Heap.size_push ..
  refine ⟨_, [_, s.heap.objs.size], [_], _, _, _, bt, rfl, Walks.tuple (A := A.in1) hh _ s.heap.objs.size (by rw [hsz]; exact Nat.ne_of_lt (Nat.lt_succ_self _)) (fl3 a b d t u x),
    ⟨⟨_, Heap.get?_push_size _ rfl, rfl, rfl⟩, hT.push _⟩, fun e he => ?_, by simp [fl3], hc, fun v h' tk hP hk => ?_⟩
  · show e < ((s.heap.push _).push _).objs.size
    rw [Heap.size_push, hsz]
    rcases List.mem_cons.mp he with rfl | he
    · rw [hsz]; exact Nat.lt_succ_self _
    · rcases List.mem_cons.mp he with rfl | he
      · exact Nat.lt_succ_of_lt (Nat.lt_succ_self _)
      · cases he
  · refine h v h' tk (fl3_at hP) fun e o he => ?_
    refine hk e o (fun hm => ?_) (Heap.get?_push_of_some _ (Heap.get?_push_of_some _ he))
    rcases List.mem_cons.mp hm with e1 | hm
    · have := Heap.lt_size he; rw [e1, hsz] at this; exact Nat.lt_irrefl _ (Nat.lt_of_succ_lt this)
    · cases hm
theorem k_max {a b d : UInt64} (ok : c.Ok w n) (h : R (.float (max3 a b d)) lo led) : Call prog w c (.builtin "max") [.float a, .float b, .float d] R lo led := by
  intro vs hvs
  obtain ⟨v1, v2, v3, rfl, h1, h2, h3⟩ := three_of hvs
  obtain ⟨t, rfl⟩ := er_float h1; obtain ⟨u, rfl⟩ := er_float h2; obtain ⟨x, rfl⟩ := er_float h3
  intro fr s Q E rep kk
  refine call_max_three (three_walk (Q := Q) ok.handled cmp_gt ?_)
  rintro v h' tk ⟨t', rfl⟩ hk
  rw [arg3]
  exact kk _ _ _ _ _ h (rep.ext hk)
theorem k_min {a b d : UInt64} (ok : c.Ok w n) (h : R (.float (min3 a b d)) lo led) : Call prog w c (.builtin "min") [.float a, .float b, .float d] R lo led := by
  intro vs hvs
  obtain ⟨v1, v2, v3, rfl, h1, h2, h3⟩ := three_of hvs
  obtain ⟨t, rfl⟩ := er_float h1; obtain ⟨u, rfl⟩ := er_float h2; obtain ⟨x, rfl⟩ := er_float h3
  intro fr s Q E rep kk
  refine call_min_three (three_walk (Q := Q) ok.handled cmp_lt ?_)
  rintro v h' tk ⟨t', rfl⟩ hk
  rw [arg3]
  exact kk _ _ _ _ _ h (rep.ext hk)
end
end Mine
namespace Mine
open PySem PySem.Spec PySem.Calls PyProof.Rows PySem.W
theorem in_nil (h : Heap) : Frag.In [] h := fun _ _ e => nomatch e
theorem fnt_ga : findIn [] (.type "function") "__getattribute__" = some (some (.builtin "object.__getattribute__")) := by kernel_rfl
theorem fnt_gt : findIn [] (.type "function") "__getattr__" = some none := by kernel_rfl
theorem fnt_read : findIn [] (.type "function") "read" = some none := by kernel_rfl
theorem fnt_sub : subIn [] (.type "function") (.type "object") = some true := by kernel_rfl
theorem oga_kind : builtinKind "object.__getattribute__" = some .slot := by decide +kernel
theorem oga_split : splitId "object.__getattribute__" = some ("object", "__getattribute__") := by decide +kernel
theorem oga_plain : plainId "object.__getattribute__" = true := by decide +kernel
theorem oga_args (a b : Value) : argsOk "object.__getattribute__" ⟨[a, b], []⟩ := by unfold argsOk; kernel_rfl
theorem oga_bind (self : Value) : bindSpecial (.builtin "object.__getattribute__") self = pure (.builtin "object.__getattribute__", [self]) := by kernel_rfl
section
variable {prog : Program} {w : World} {A : Around} {E : Value → Shared → Prop} {h : Heap} {g : Array GenState} {d : Drawn} {t : Nat} {os : OsState} {f sd : Addr} {o od : Obj} {fd : FuncData} {name : Str} {v : Value}
theorem fn_find {M : Model} (ho : h.get? f = some o) (hd : o.data = .func fd) (hc : o.cls = .type "function") (hdict : o.dict = some sd) (hm : findIn [] (.type "function") name = some none)
    (hg : Looks M h (nsGet sd name) (some v)) : Looks M h (Builtin.ObjectAttr.find (.ref f) (.type "function") name) (.value v) := by
  refine (looks_findIn (in_nil h) hm).andThen ?_
  refine Looks.now.andThen ?_
  refine Looks.now.andThen ?_
  refine Looks.andThen (a := some v) ?_ (Looks.tag .now)
  refine Looks.andThen (a := some sd) ?_ hg
  refine (Looks.ld ho).andThen ?_
  rw [hd]
  refine (Looks.ld ho).andThen ?_
  rw [hc, hdict]
  exact .now
theorem fn_typeOf {M : Model} (ho : h.get? f = some o) (hc : o.cls = .type "function") : Looks M h (typeOf (.ref f)) (.type "function") := hc ▸ (Looks.ld ho).andThen .now
theorem fn_getattr {expr : Bool} {Q : Value → Shared → Prop} (ho : h.get? f = some o) (hd : o.data = .func fd) (hc : o.cls = .type "function") (hdict : o.dict = some sd) (hm : findIn [] (.type "function") name = some none)
    (hg : Looks (model prog w) h (nsGet sd name) (some v)) (hh : handedIn v = true) (hQ : Q v ⟨h, g, d, t + 1, os⟩) : wpAny (model prog w) A (getAttr (.ref f) name expr) Q E ⟨h, g, d, t, os⟩ := by
  have L0 := fn_typeOf (M := model prog w) ho hc
  have L1 := looks_findIn (M := model prog w) (in_nil h) fnt_ga
  unfold getAttr getAttrBy
  refine wpAny_bind (wpAny_mkText (wpAny_holding (wpAny_bind (L0.at (wpAny_bind (L1.at ?_))))))
  show wpAny _ _ (getAttrByItsOwn _ _ _ _ _ _) _ _ _
  unfold getAttrByItsOwn
  with_reducible refine wpAny_bind ?_
  with_reducible refine wpAny_of_eq (a := none) rfl ?_
  with_reducible refine wpAny_bind ?_
  with_reducible refine wpAny_attempt ?_
  with_reducible refine wpAny_holding ?_
  unfold callGetattribute
  rw [show (expr && onTheHeap (Value.builtin "object.__getattribute__")) = false from by cases expr <;> rfl, if_neg Bool.false_ne_true]
  unfold boundAndCalled
  rw [oga_bind]
  with_reducible refine wpAny_bind ?_
  with_reducible refine wpAny_pure ?_
  show wpAny _ _ (call (.builtin "object.__getattribute__") [.ref f, .str name t]) _ _ _
  with_reducible refine wpAny_call ?_
  with_reducible refine codeAny_call_builtin oga_plain F.entry_object_getattribute ?_
  with_reducible refine check_slot oga_kind oga_split ?_ (oga_args _ _) ?_
  · exact L0.andThen (looks_subIn (in_nil h) fnt_sub)
  · unfold Builtin.«object.__getattribute__»
    with_reducible refine wpAny_bind ?_
    with_reducible refine wpAny_of_eq (a := (Value.ref f, [Value.str name t])) rfl ?_
    with_reducible refine wpAny_bind ?_
    with_reducible refine wpAny_of_eq (a := name) rfl ?_
    with_reducible refine wpAny_bind ?_
    refine L0.at ?_
    with_reducible refine wpAny_bind ?_
    refine (fn_find ho hd hc hdict hm hg).at ?_
    show wpAny _ _ (ret v) _ _ _
    with_reducible refine wpAny_of_eq (a := Fin.done (.ret v)) rfl ?_
    show wpAny _ _ (handedOut v) _ _ _
    rw [handedOut_of hh]
    with_reducible refine wpAny_pure ?_
    exact hQ
theorem fn_method {pl : Sem Bool} {Q : Value × List Value → Shared → Prop} (ho : h.get? f = some o) (hd : o.data = .func fd) (hc : o.cls = .type "function") (hdict : o.dict = some sd) (hm : findIn [] (.type "function") name = some none)
    (hg : Looks (model prog w) h (nsGet sd name) (some v)) (hh : handedIn v = true) (hQ : Q (v, []) ⟨h, g, d, t + 1, os⟩) : wpAny (model prog w) A (getMethod (.ref f) name pl) Q E ⟨h, g, d, t, os⟩ := by
  have L0 := fn_typeOf (M := model prog w) ho hc
  unfold getMethod specialOf
  with_reducible refine wpAny_bind ?_
  with_reducible refine wpAny_bind ?_
  refine L0.at ?_
  refine (looks_findIn (in_nil h) fnt_ga).at ?_
  dsimp only
  rw [F.canon_object_ga, if_neg Bool.false_ne_true]
  with_reducible refine wpAny_bind ?_
  with_reducible refine wpAny_bind ?_
  refine L0.at ?_
  refine (looks_findIn (in_nil h) fnt_gt).at ?_
  rw [show (Option.isSome (α := Value) none) = false from rfl, if_neg Bool.false_ne_true]
  with_reducible refine wpAny_bind ?_
  with_reducible refine wpAny_bind ?_
  refine L0.at ?_
  refine (looks_findIn (in_nil h) hm).at ?_
  dsimp only
  with_reducible refine wpAny_bind ?_
  with_reducible refine fn_getattr ho hd hc hdict hm hg hh ?_
  with_reducible refine wpAny_pure ?_
  exact hQ
theorem slot_fn_setattr : Slot "function" "__setattr__" "object.__setattr__" :=
  .of (owner := "object") (n := "__setattr__") (by rw [typeLookup_type, builtinLookup_eq_fast]; kernel_rfl) (by decide +kernel) (by decide +kernel) (by decide +kernel)
    (by first | exact .inl (by decide +kernel) | exact .inr (by decide +kernel)) (by rw [isSubtype_type]; kernel_rfl)
theorem fn_instdict {Q : Option Addr → Shared → Prop} (ho : h.get? f = some o) (hd : o.data = .func fd) (hc : o.cls = .type "function") (hdict : o.dict = none)
    (hQ : Q (some h.objs.size) ⟨(h.push { cls := .type "dict", data := .dict #[] }).update f (fun o => { o with dict := some h.objs.size }), g, d, t, os⟩) : wpAny (model prog w) A (instanceDict f true) Q E ⟨h, g, d, t, os⟩ := by
  obtain ⟨oc, od, oda, osl⟩ := o
  dsimp only at hd hc hdict
  subst hd hc hdict
  unfold instanceDict
  with_reducible refine wpAny_bind ?_
  with_reducible refine wpAny_loadPart ho ?_
  dsimp only
  rw [show (!true || !typeHasDict (.type "function")) = false from by decide +kernel, if_neg Bool.false_ne_true]
  with_reducible refine wpAny_bind ?_
  with_reducible refine wpAny_alloc ?_
  with_reducible refine wpAny_bind ?_
  with_reducible refine wpAny_update (o := ⟨.type "function", none, .func fd, osl⟩) (Heap.get?_push_of_some _ ho) ?_
  unfold dictMade
  dsimp only
  rw [show finalisedInACycleAlone "function" = false from by decide +kernel, if_neg Bool.false_ne_true]
  with_reducible refine wpAny_pure ?_
  exact hQ
theorem fn_setattr {Q : Unit → Shared → Prop} (ho : h.get? f = some o) (hd : o.data = .func fd) (hc : o.cls = .type "function") (hdict : o.dict = none) (hm : findIn [] (.type "function") name = some none)
    (hQ : ∀ h', (∀ b x, b ≠ f → h.get? b = some x → h'.get? b = some x) → h'.get? f = some { o with dict := some h.objs.size } →
      h'.get? h.objs.size = some (dictOf [⟨PyData.keyHash w.params name, .str name (t + 1), v⟩] 1) → Q () ⟨h', g, d, t + 1 + 1, os⟩) :
    wpAny (model prog w) A (setAttr (.ref f) name v) Q E ⟨h, g, d, t, os⟩ := by
  have L0 := fn_typeOf (M := model prog w) ho hc
  have hT : (⟨h, g, d, t + 1, os⟩ : Shared).TypeIs (.ref f) "function" := ⟨_, ho, hc⟩
  have hfs : f < h.objs.size := Heap.lt_size ho
  unfold setAttr
  with_reducible refine wpAny_bind ?_
  with_reducible refine wpAny_mkText ?_
  with_reducible refine wpAny_bind ?_
  with_reducible refine wpAny_callSpecial?_slot hT slot_fn_setattr ?_
  with_reducible refine wpAny_call ?_
  with_reducible refine codeAny_call_builtin slot_fn_setattr.plain PySem.F.store_object.entry ?_
  refine slot_fn_setattr.check _ _ _ _ _ _ _ _ hT (PySem.F.store_object.args _ _ _) ?_
  rw [osa_eq]
  with_reducible refine wpAny_bind ?_
  rw [refuse_eq]
  with_reducible refine wpAny_bind ?_
  refine L0.at ?_
  with_reducible refine wpAny_bind ?_
  refine wpAny_of_eq (a := [.type "function", .type "object"]) (by with_unfolding_all kernel_rfl) ?_
  refine wpAny_of_eq (a := ()) (by kernel_rfl) ?_
  with_reducible refine wpAny_bind ?_
  refine L0.at ?_
  with_reducible refine wpAny_bind ?_
  refine (looks_findIn (in_nil h) hm).at ?_
  with_reducible refine wpAny_bind ?_
  refine wpAny_of_eq (a := none) rfl ?_
  dsimp only
  unfold Builtin.ObjectAttr.storeInOwnDict
  with_reducible refine wpAny_bind ?_
  refine wpAny_of_eq (a := ()) (by with_unfolding_all kernel_rfl) ?_
  rw [show (Value.type "function" == Value.type "module") = false from by decide +kernel, if_neg Bool.false_ne_true]
  with_reducible refine wpAny_bind ?_
  show wpAny _ _ (instanceDict f true) _ _ _
  refine fn_instdict ho hd hc hdict ?_
  dsimp only
  have ho1 := Heap.get?_push_of_some (h := h) { cls := .type "dict", data := .dict #[] } ho
  have hd1 : ((h.push { cls := .type "dict", data := .dict #[] }).update f (fun o => { o with dict := some h.objs.size })).get? h.objs.size = some (dictOf [] 0) := by
    rw [Heap.get?_update_other _ _ (Nat.ne_of_lt hfs)]
    exact Heap.get?_push_size _ rfl
  unfold Builtin.ObjectAttr.storeInDict
  with_reducible refine wpAny_bind ?_
  refine wpAny_of_eq (a := ()) rfl ?_
  with_reducible refine wpAny_bind ?_
  unfold nsSet
  with_reducible refine wpAny_bind ?_
  refine wpAny_bind (wpAny_askSetting (wpAny_pure ?_))
  with_reducible refine wpAny_bind ?_
  with_reducible refine wpAny_mkText ?_
  with_reducible refine wpAny_bind ?_
  with_reducible refine wpAny_loadPart hd1 ?_
  dsimp only [dictOf]
  rw [aRefKeyMayBeTheName_at, show (!(([] : List DictEntry).toArray.any (·.key.isStr name)) && ([] : List DictEntry).toArray.any (·.refKey)) = false from by simp, if_neg Bool.false_ne_true]
  with_reducible refine wpAny_updatePart hd1 ?_
  have e1 : Obj.putName name (PyData.keyHash w.params name) (.str name (t + 1)) v (dictOf [] 0) = dictOf [⟨PyData.keyHash w.params name, .str name (t + 1), v⟩] 1 := putName_dict _ _ _ _ _ _
  have hd2 := Heap.get?_update_self (Obj.putName name (PyData.keyHash w.params name) (.str name (t + 1)) v) hd1 (by rw [e1]; rfl)
  rw [e1] at hd2
  with_reducible refine wpAny_bind ?_
  refine wpAny_lookBehind (o := dictOf [⟨PyData.keyHash w.params name, .str name (t + 1), v⟩] 1) hd2 (pastItsLine_dict (by simp)) ?_
  show wpAny _ _ (ret .none) _ _ _
  with_reducible refine wpAny_of_eq (a := Fin.done (.ret .none)) rfl ?_
  show wpAny _ _ (pure ()) _ _ _
  with_reducible refine wpAny_pure ?_
  have hne : h.objs.size ≠ f := Nat.ne_of_gt hfs
  refine hQ _ (fun b x hb e => ?_) ?_ hd2
  · have hb2 : b ≠ h.objs.size := Nat.ne_of_lt (Heap.lt_size e)
    rw [Heap.get?_update_other _ _ hb2.symm, Heap.get?_update_other _ _ hb.symm]
    exact Heap.get?_push_of_some _ e
  · rw [Heap.get?_update_other _ _ hne]
    exact Heap.get?_update_self _ ho1 (by obtain ⟨oc, od, oda, osl⟩ := o; dsimp only at hd; subst hd; rfl)
end
end Mine
namespace Mine
open PySem PySem.Spec PySem.Calls PyProof.Rows PySem.W
section
variable {prog : Program} {w : World} {c : Cx} {n : Nat} {lo : Lo} {led led' : Led} {R : AV → Lo → Led → Prop}
theorem code_clo {f cc : Addr} {fd : FuncData} {d : Option Addr} {body : List Stmt} {as : List AV} {pn : List Str} (lo₀ : Lo)
    (ok : c.Ok w (n + 1)) (hf : At w c led f (.fn fd d)) (hcode : fd.code = .ref cc) (hcc : At w c led cc (.code fd.qualname)) (hbody : fd.body = .stmts body)
    (hgl : fd.globals = mainGlobals) (hbl : fd.builtins = builtinsNs)
    (hb : ∀ vs : List Value, vs.length = as.length → bindArgs fd ⟨vs, []⟩ = pure (pn.zip vs))
    (hkind : (pn.all fun y => fd.scope.names.lookup y == some .local) = true)
    (hcell : ∀ x ∈ fd.scope.names, x.2 ≠ .cell)
    (hlo : initLo fd.scope.names (pn.zip as) = lo₀)
    (h : ∀ c' : Cx, c'.Ok w n → c'.env = callEnv fd c'.L f → (∀ b o, c.base.get? b = some o → c'.base.get? b = some o) →
      WpS prog w c' (execs body c'.env) (fun fl _ led' => R (retOf fl) lo led') lo₀ led)
    (hco : fd.scope.isCoroutine = false) (hgen : fd.scope.isGenerator = false) (hk : fd.scope.kind = .function) :
    CodeP prog w c (.ref f) as R lo led := by
  intro vs hvs fr s Rc rep kk
  have hlen : vs.length = as.length := by rw [← hvs, List.length_map]
  have XK := ok.K.keeps rep.keep
  obtain ⟨p, loose, mean, mg, mb, T⟩ := ok.top
  obtain ⟨fo, hfo, hcls, hdat, hdict⟩ := hf.get rep
  obtain ⟨co, hco', cvs, ct, hcd, hc1⟩ := hcc.get rep
  have hrec : s.heap.CodeRec fd.code fd.qualname := ⟨cc, co, cvs, ct, hcode, hco', hcd, hc1⟩
  have hmem : ∀ x ∈ pn.zip vs, fd.scope.names.lookup x.1 = some .local := by
    intro x hx
    have hm : x.1 ∈ pn := (List.of_mem_zip (a := x.1) (b := x.2) hx).1
    simpa using List.all_eq_true.mp hkind x.1 hm
  refine codeAny_call_def (by have := ok.depth; omega) hfo hdat (T.nolimit.keeps rep.keep) hrec hbody (BindsTo.of_eq (hb vs hlen)) hcell hmem (fun h₁ hns hk₁ => ?_) hco hgen hk
  let c' : Cx := ⟨hideAll s.heap ((led ++ fr).map (·.1)), s.heap.objs.size, c.A.deeper (callEnv fd s.heap.objs.size f), callEnv fd s.heap.objs.size f⟩
  have ext := rep.base_ext (c' := c') rfl
  have ok' : c'.Ok w n := by
    refine ⟨ok.K.keeps ext, TopOk.keeps ⟨p, loose, mean, mg, mb, T⟩ ext, ok.handled, ?_, ?_, rfl, hgl, hbl, hk⟩
    · have := ok.depth; show c.A.depth + 1 + n < _; omega
    · have := ok.units; show c.A.units + 3 + 8 * n + 40 < _; omega
  have erz : erB (pn.zip vs) = pn.zip as := by rw [erB_zip, hvs]
  have rep' : Rep w c' lo₀ ([] ++ (led ++ fr)) h₁ := by
    refine rep.enter rfl rfl hk₁ ⟨_, hns, fun y => ?_⟩ (fun q hq => nomatch hq) List.nodup_nil
    rw [← hlo]
    show _ = look fd.scope.names (initLo fd.scope.names (pn.zip as)) y
    rw [look_init, lookup_erB, erB_rev, erz]
    split
    · rfl
    · rename_i hne
      cases e : (pn.zip as).reverse.lookup y with
      | none => rfl
      | some v =>
        exfalso
        have e2 : ((pn.zip vs).reverse.lookup y).map er = some v := by rw [lookup_erB, erB_rev, erz]; exact e
        obtain ⟨u, hu, _⟩ := Option.map_eq_some_iff.mp e2
        exact hne (hmem (y, u) (by simpa using mem_of_lookup hu))
  rw [List.nil_append] at rep'
  refine h c' ok' rfl ext fr { s with heap := h₁, toks := s.toks + (pn.zip vs).length } _ _ rep' ?_
  intro fl lo' led' h' tk' hR repE
  exact kk _ lo led' h' tk' (by cases fl <;> exact hR) (rep.back rfl repE)
theorem for_gen {x : Str} {px : Pos} {body : List Stmt} {R : AF → Lo → Led → Prop} {it : Addr} (I : Nat → Lo → Led → Prop)
    (turn : ∀ k lo led, I k lo led → Wp prog w c (pyNext (.ref it)) (fun r lo₁ led₁ => match r with
      | none => R .next lo₁ led₁
      | some u => Sto prog w c x (er u) (fun lo₂ led₂ => WpS prog w c (execs body c.env) (fun f lo₃ led₃ => match f with
        | .next | .cont => ∃ m, m < k ∧ I m lo₃ led₃
        | .brk => R .next lo₃ led₃
        | .ret a => R (.ret a) lo₃ led₃) lo₂ led₂) lo₁ led₁) lo led)
    {fr : Led} {s : Shared} {Q : Flow → Shared → Prop} {E : Value → Shared → Prop} (k : Nat)
    (h : I k lo led) (rep : Rep w c lo (led ++ fr) s.heap)
    (kk : ∀ a lo' led' h' tk', R (erF a) lo' led' → Rep w c lo' (led' ++ fr) h' → Q a { s with heap := h', toks := tk' }) :
    codeAny (model prog w) c.A (.forLoop (.Name x px) (.ref it) body [] c.env) (fun r s' => match r with | .ok f => Q f s' | .error e => cameBackBy (model prog w) c.A c.env E e s') s := by
  refine codeAny_forLoop (fun k s' => ∃ lo' led' h' tk', I k lo' led' ∧ Rep w c lo' (led' ++ fr) h' ∧ s' = { s with heap := h', toks := tk' }) ?_ k
    ⟨lo, led, s.heap, s.toks, h, rep, rfl⟩ (by intro _; rfl)
  rintro k s' ⟨lo', led', h', tk', hI, rep', rfl⟩
  refine turn k lo' led' hI fr _ _ _ rep' ?_
  rintro r lo₁ led₁ h₁ t₁ hR rep₁
  cases r with
  | none => exact wpAny_execs_nil (kk .next _ _ _ _ hR rep₁)
  | some u =>
    refine wpAny_assign_Name (hR u rfl fr _ _ _ rep₁ ?_)
    intro _ lo₂ led₂ h₂ t₂ hw rep₂
    refine hw fr _ _ _ rep₂ ?_
    intro f lo₃ led₃ h₃ t₃ hR rep₃
    cases f with
    | next => obtain ⟨m, hm, hI⟩ := hR; exact ⟨m, hm, lo₃, led₃, h₃, t₃, hI, rep₃, rfl⟩
    | cont => obtain ⟨m, hm, hI⟩ := hR; exact ⟨m, hm, lo₃, led₃, h₃, t₃, hI, rep₃, rfl⟩
    | brk => exact kk .next _ _ _ _ hR rep₃
    | ret a => exact kk (.ret a) _ _ _ _ hR rep₃
end
end Mine
namespace Mine
open PySem PySem.Spec PySem.Calls PyProof.Rows PySem.W
noncomputable def putA (x : Str) (a : AV) : List (Str × AV) → List (Str × AV)
  | [] => [(x, a)]
  | p :: r => if p.1 == x then (p.1, a) :: r else p :: putA x a r
theorem DE.find {P : Params} {x : Str} : ∀ {des : List DictEntry} {es : List (Str × AV)}, DE P des es → (des.find? (·.key.isStr x)).map (fun e => er e.val) = es.lookup x
  | [], [], _ => rfl
  | [], _ :: _, h => h.elim
  | e :: r, [], h => by unfold DE at h; exact h.elim
  | e :: r, (y, a) :: q, h => by
    obtain ⟨⟨t, hk⟩, _, hv, hr⟩ := h
    have ih := DE.find (x := x) hr
    rw [List.find?_cons, List.lookup_cons]
    have hi : e.key.isStr x = (y == x) := by rw [hk]; rfl
    rw [hi]
    by_cases hyx : y = x
    · subst hyx; simp [hv]
    · have h1 : (y == x) = false := beq_eq_false_iff_ne.mpr hyx
      have h2 : (x == y) = false := beq_eq_false_iff_ne.mpr (Ne.symm hyx)
      rw [h1, h2]; exact ih
theorem DE.noRef {P : Params} : ∀ {des : List DictEntry} {es : List (Str × AV)}, DE P des es → des.any (·.refKey) = false
  | [], _, _ => rfl
  | e :: r, [], h => by unfold DE at h; exact h.elim
  | e :: r, (y, a) :: q, h => by
    obtain ⟨⟨t, hk⟩, _, _, hr⟩ := h
    rw [List.any_cons, DE.noRef hr, Bool.or_false]
    unfold DictEntry.refKey; rw [hk]
theorem DE.get {P : Params} {x : Str} {a : AV} {des : List DictEntry} {es : List (Str × AV)} (h : DE P des es) (e : es.lookup x = some a) : ∃ v, getL x des = some (some v) ∧ er v = a := by
  have := h.find (x := x)
  rw [e] at this
  obtain ⟨d, hd, rfl⟩ := Option.map_eq_some_iff.mp this
  exact ⟨d.val, by unfold getL; rw [hd], rfl⟩
theorem DE.miss {P : Params} {x : Str} {des : List DictEntry} {es : List (Str × AV)} (h : DE P des es) (e : es.lookup x = none) : getL x des = some none := by
  have := h.find (x := x)
  rw [e] at this
  have := Option.map_eq_none_iff.mp this
  unfold getL
  rw [this, h.noRef]
  rfl
theorem DE.some {P : Params} {x : Str} {des : List DictEntry} {es : List (Str × AV)} (h : DE P des es) : (getL x des).isSome = true := by
  cases e : es.lookup x with
  | none => rw [h.miss e]; rfl
  | some a => obtain ⟨v, hv, _⟩ := h.get e; rw [hv]; rfl
theorem DE.put {P : Params} {x : Str} {v : Value} {t : Tok} : ∀ {des : List DictEntry} {es : List (Str × AV)}, DE P des es → DE P (putL x (PyData.keyHash P x) (.str x t) v des) (putA x (er v) es)
  | [], [], _ => ⟨⟨t, rfl⟩, rfl, rfl, trivial⟩
  | [], _ :: _, h => h.elim
  | e :: r, [], h => by unfold DE at h; exact h.elim
  | e :: r, (y, a) :: q, h => by
    have h' := h
    obtain ⟨⟨t', hk⟩, hh, hv, hr⟩ := h
    have hi : e.key.isStr x = (y == x) := by rw [hk]; rfl
    unfold putL putA
    rw [hi]
    cases (y == x)
    · exact ⟨⟨t', hk⟩, hh, hv, DE.put hr⟩
    · exact ⟨⟨t', hk⟩, hh, rfl, hr⟩
theorem DE.len {P : Params} : ∀ {des : List DictEntry} {es : List (Str × AV)}, DE P des es → des.length = es.length
  | [], [], _ => rfl
  | [], _ :: _, h => h.elim
  | e :: r, [], h => by unfold DE at h; exact h.elim
  | e :: r, (y, a) :: q, h => by simp only [List.length_cons]; rw [DE.len h.2.2.2]
section
variable {prog : Program} {w : World} {c : Cx} {n : Nat} {lo : Lo} {led led' : Led} {R : AV → Lo → Led → Prop}
theorem instAt {fr : Led} {h : Heap} {m d C : Addr} {es : List (Str × AV)} (rep : Rep w c lo (led ++ fr) h) (hm : (m, .inst C d) ∈ led) (hd : (d, .dict es) ∈ led) :
    ∃ des k, W.InstAt h m (instObj C d) C (some (dictOf des k)) ∧ DE w.params des es := by
  obtain ⟨_, _, o, ho, rfl⟩ := rep.own _ (List.mem_append_left _ hm)
  obtain ⟨_, _, o, hod, des, k, rfl, hde⟩ := rep.own _ (List.mem_append_left _ hd)
  exact ⟨des, k, ⟨ho, rfl, rfl, hod⟩, hde⟩
noncomputable def handA : AV → Bool
  | .other _ => false
  | _ => true
theorem handedIn_of {v : Value} (h : handA (er v) = true) : handedIn v = true := by
  cases v <;> first | rfl | cases h
theorem att_inst {m d C : Addr} {es : List (Str × AV)} {x : Str} {a : AV} (ok : c.Ok w n) (hm : (m, .inst C d) ∈ led) (hd : (d, .dict es) ∈ led)
    (hg : plainGet (KK w) C x = true) (hh : hasDictIn (KK w) C = true) (hf : findIn (KK w) (.ref C) x = some none) (hl : es.lookup x = some a) (ha : handA a = true) (h : R a lo led) : Att prog w c x (.ref m) R lo led := by
  intro v hv; obtain rfl := er_ref hv
  intro fr s Q E rep kk
  obtain ⟨des, k, I, hde⟩ := instAt rep hm hd
  obtain ⟨u, hu, rfl⟩ := hde.get hl
  obtain ⟨mm, F, hmm⟩ := rep.toFr
  with_reducible refine get_own F ok.K I hg hh hf rfl hu (handedIn_of ha) ?_
  exact kk _ _ _ _ _ h rep
theorem met_inst {pl : Sem Bool} {m d C f : Addr} {es : List (Str × AV)} {x : Str} {R : AV → List AV → Lo → Led → Prop} (ok : c.Ok w n) (hm : (m, .inst C d) ∈ led) (hd : (d, .dict es) ∈ led)
    (hg : plainGet (KK w) C x = true) (hf : findIn (KK w) (.ref C) x = some (some (.ref f))) (ht : isFn (KK w) (.ref f) = true) (hl : es.lookup x = none) (h : R (er (.ref f)) [.ref m] lo led) : Met prog w c pl x (.ref m) R lo led := by
  intro v hv; obtain rfl := er_ref hv
  intro fr s Q E rep kk
  obtain ⟨des, k, I, hde⟩ := instAt rep hm hd
  obtain ⟨mm, F, hmm⟩ := rep.toFr
  with_reducible refine method_inst F ok.K I hg hf ht (hde.miss hl) ?_
  exact kk (.ref f, [.ref m]) lo led s.heap s.toks h rep
theorem att_bound {m d C f : Addr} {es : List (Str × AV)} {x : Str} (ok : c.Ok w n) (hm : (m, .inst C d) ∈ led) (hd : (d, .dict es) ∈ led)
    (hg : plainGet (KK w) C x = true) (hh : hasDictIn (KK w) C = true) (hf : findIn (KK w) (.ref C) x = some (some (.ref f))) (ht : isFn (KK w) (.ref f) = true)
    (hs : specialIn (KK w) (.ref f) (Str.ofString "__get__") = some (some (.builtin "function.__get__"))) (htk : takesIn (KK w) (.ref f) = some false) (hcp : copiedNames.contains x = false) (hl : es.lookup x = none)
    (h : ∀ q, R (.ref q) lo ((q, .meth f m) :: led)) : Att prog w c x (.ref m) R lo led := by
  intro v hv; obtain rfl := er_ref hv
  intro fr s Q E rep kk
  obtain ⟨des, k, I, hde⟩ := instAt rep hm hd
  obtain ⟨mm, F, hmm⟩ := rep.toFr
  obtain ⟨news, N, M⟩ := rep.toNews
  with_reducible refine kbm_bound F ok.K N I hg hh hf ht hs htk hcp (hde.miss hl) fun q h' F' N' hq => ?_
  refine kk _ _ _ _ _ (h q) (rep.newsPush hmm M F' N' rfl ?_)
  intro hmem
  obtain ⟨p, hp, e⟩ := List.mem_map.mp hmem
  obtain ⟨ob, ho, _⟩ := M.get (a := p.1) (ao := p.2) (by exact hp)
  have := hq _ ho
  rw [show p.1 = q from e] at this
  exact absurd this (Nat.lt_irrefl _)
noncomputable def Sat (prog : Program) (w : World) (c : Cx) (x : Str) (o a : AV) (R : Lo → Led → Prop) (lo : Lo) (led : Led) : Prop :=
  ∀ ov v, er ov = o → er v = a → Wp prog w c (setAttr ov x v) (fun _ => R) lo led
theorem s_asga {x : Str} {o value : Expr} {R : AF → Lo → Led → Prop} {pos p' : Pos} (h : WpV prog w c (eval value c.env) (fun a lo₁ led₁ => WpV prog w c (eval o c.env) (fun oa => Sat prog w c x oa a (R .next)) lo₁ led₁) lo led)
    (hs : autoParam (swapsWith value (some (.Attribute o x p')) pos.line c.env = pure false) maw._auto_1) : WpS prog w c (exec (.Assign [.Attribute o x p'] value pos) c.env) R lo led :=
  fun fr s Q E rep kk => plainObj_wpAny_Assign_Attribute (h fr s _ E rep fun v _ _ _ _ h₁ rep₁ => h₁ fr _ _ E rep₁ fun ov _ _ _ _ h₂ rep₂ => h₂ ov v rfl rfl fr _ _ E rep₂ fun _ _ _ _ _ h₃ rep₃ => kk .next _ _ _ _ h₃ rep₃) hs
theorem sat_inst {m d C : Addr} {es : List (Str × AV)} {x : Str} {a : AV} {R : Lo → Led → Prop} (ok : c.Ok w n) (hm : (m, .inst C d) ∈ led) (hu : Up d (.dict es) (.dict (putA x a es)) led led')
    (hs : findIn (KK w) (.ref C) (Str.ofString "__setattr__") = some (some (.builtin "object.__setattr__"))) (hp : plainOver (KK w) C = true) (ht : takerIn (KK w) C x = some none) (hh : hasDictIn (KK w) C = true)
    (hz : es.length ≤ 900) (h : R lo led') : Sat prog w c x (.ref m) a R lo led := by
  intro ov v ho hv; obtain rfl := er_ref ho; subst hv
  intro fr s Q E rep kk
  obtain ⟨mm, F, hmm⟩ := rep.toFr
  obtain ⟨p, q, rfl, rfl⟩ := hu.split
  have perm : (p ++ (d, AO.dict es) :: q ++ fr).Perm ((d, .dict es) :: (p ++ q ++ fr)) := by
    rw [List.append_assoc, List.cons_append]
    refine List.perm_middle.trans ?_
    rw [List.append_assoc]
  have rep1 := rep.perm perm
  obtain ⟨des, k, I, hde⟩ := instAt rep hm hu.mem
  obtain ⟨_, _, o1, ho1, des', k', rfl, hde'⟩ := rep1.own _ (.head _)
  obtain ⟨news, N, M⟩ := (rep1.sub (List.sublist_cons_self _ _)).toNews
  have nd := List.nodup_cons.mp rep1.nodup
  have N1 : News c.base c.L s.heap ((d, dictOf des' k') :: news) := by
    intro y hy
    rcases List.mem_cons.mp hy with rfl | hy
    · exact ⟨ho1, (rep1.own _ (.head _)).1, (rep1.own _ (.head _)).2.1⟩
    · exact N y hy
  have I' : W.InstAt s.heap m (instObj C d) C (some (dictOf des' k')) := ⟨I.at_, I.cls, I.no, ho1⟩
  have U : W.Upd d (dictOf des' k') (dictOf (putL x (PyData.keyHash w.params x) (.str x (s.toks + 1)) v des') (putN x des' k')) ((d, dictOf des' k') :: news) ((d, dictOf (putL x (PyData.keyHash w.params x) (.str x (s.toks + 1)) v des') (putN x des' k')) :: news) := by
    refine .head fun y hy e => nd.1 ?_
    have mk : ∀ {l : Led} {nn : List (Addr × Obj)}, Mat w.params l nn → nn.map (·.1) = l.map (·.1) := by
      intro l
      induction l with
      | nil => intro nn M; cases nn with | nil => rfl | cons _ _ => exact M.elim
      | cons a l ih => intro nn M; cases nn with | nil => exact M.elim | cons b nn => simp only [List.map_cons]; rw [ih M.2.2, M.1]
    rw [← mk M, ← e]
    exact List.mem_map_of_mem hy
  have hlen : (putL x (PyData.keyHash w.params x) (.str x (s.toks + 1)) v des').length ≤ 1000 := by
    have h1 := (hde'.put (x := x) (v := v) (t := s.toks + 1)).len
    have h2 : ∀ (l : List (Str × AV)), (putA x (er v) l).length ≤ l.length + 1 := by
      intro l; induction l with
      | nil => simp [putA]
      | cons a l ih => unfold putA; split <;> simp only [List.length_cons] <;> omega
    have := h2 es; omega
  with_reducible refine set_dict F ok.K N1 I' rfl hs hp ht hh hde'.some rfl U hlen fun h' F' N' => ?_
  have rep' : Rep w c lo ((d, .dict (putA x (er v) es)) :: (p ++ q ++ fr)) h' :=
    Rep.ofNews hmm F' N' ⟨rfl, ⟨_, _, rfl, hde'.put⟩, M⟩ (by simpa using rep1.nodup)
  refine kk () _ _ _ _ h (rep'.perm ?_)
  rw [List.append_assoc, List.append_assoc, List.cons_append]
  exact List.perm_middle.symm
end
end Mine
namespace Mine
open PySem PySem.Spec PySem.Calls PyProof.Rows PySem.W
section
variable {prog : Program} {w : World} {c : Cx} {n : Nat} {lo : Lo} {led led' : Led} {R : AV → Lo → Led → Prop}
theorem TopOk.built {P : Addr} {h h' : Heap} {ps : Array Value} (T : TopOk h) (k : ∀ b o, h.get? b = some o → h'.get? b = some o) (hP : h'.get? P = some (tabObj ps)) :
    ∃ mg, h'.Ns mainGlobals mg ∧ mainGlobals ≠ P ∧ h'.BuiltinsAt mg P := by
  obtain ⟨p, loose, mean, mg, mb, T⟩ := T
  have hgs := T.g.keeps k
  obtain ⟨bm, ob, b1, b2, b3, b4, b5, b6⟩ := T.bmain
  have hgP : mainGlobals ≠ P := fun q => by
    obtain ⟨o, es, ep, e, hd, _⟩ := hgs
    rw [q, hP] at e; cases e; cases hd
  have hbP : bm ≠ P := fun q => by
    have e := k _ _ b3
    rw [q, hP] at e; cases e; cases b4
  have hbG : bm ≠ mainGlobals := fun q => by
    obtain ⟨o, es, ep, e, hd, _⟩ := T.g
    rw [q, e] at b3; cases b3; rw [hd] at b6; cases b6
  exact ⟨mg, hgs, hgP, bm, ob, b1, b2, hbG, hbP, k _ _ b3, b4, b5, b6⟩
theorem Rep.drop1 {h : Heap} {p : Addr × AO} (r : Rep w c lo (p :: led) h) : Rep w c lo led h := r.sub (List.sublist_cons_self _ _)
theorem Rep.made {h h' : Heap} {P cc : Addr} {ps ps' : Array Value} {oc fo : Obj} {aoc ao : AO} {fr : Led} (rep : Rep w c lo ((P, .raw (tabObj ps)) :: led ++ fr) h) (hx : Heap.ExtBut P h h') (hc : h.objs.size ≤ cc) (hc' : h'.get? cc = some oc) (hlt : cc < h'.objs.size)
    (hP : h'.get? P = some (tabObj ps')) (hoc : aoc.holds w.params oc) (hfo : ao.holds w.params fo) (hf : fo.isFreed = false) :
    Rep w c lo ((h'.objs.size, ao) :: (cc, aoc) :: (P, .raw (tabObj ps')) :: led ++ fr) (h'.push fo) := by
  have r1 : Rep w c lo ((P, .raw (tabObj ps')) :: led ++ fr) h' := rep.up (.head) (fun b hb x e => hx b x hb e) hP rfl
  have hcf : cc ∉ ((P, AO.raw (tabObj ps')) :: led ++ fr).map (·.1) := fun hm => by
    obtain ⟨q, hq, e⟩ := List.mem_map.mp hm
    have : ∃ ao, (q.1, ao) ∈ ((P, AO.raw (tabObj ps)) :: led ++ fr) := by
      rcases List.mem_cons.mp hq with h1 | h1
      · rw [h1]; exact ⟨_, .head _⟩
      · exact ⟨q.2, .tail _ h1⟩
    obtain ⟨ao', hq'⟩ := this
    obtain ⟨_, _, o, ho, _⟩ := rep.own _ hq'
    have := Heap.lt_size ho
    rw [show q.1 = cc from e] at this
    exact absurd (Nat.lt_of_lt_of_le this hc) (Nat.lt_irrefl _)
  have r2 : Rep w c lo ((cc, aoc) :: (P, .raw (tabObj ps')) :: led ++ fr) h' := by
    refine ⟨r1.ns, r1.keep, r1.above, fun q hq => ?_, List.nodup_cons.mpr ⟨hcf, r1.nodup⟩⟩
    rcases List.mem_cons.mp hq with rfl | hq
    · refine ⟨Nat.ne_of_gt (Nat.lt_of_lt_of_le rep.lt hc), ?_, oc, hc', hoc⟩
      cases e : c.base.get? cc with
      | none => rfl
      | some x => exact absurd (Nat.lt_of_lt_of_le (Heap.lt_size (rep.keep _ _ e)) hc) (Nat.lt_irrefl _)
    · exact r1.own q hq
  exact r2.push fo ao hfo hf
theorem s_def {name : Str} {params : Arguments} {body : List Stmt} {scope : Scope} {pos : Pos} {cc P : Addr} {ps : Array Value} {clos : List (Str × Addr)} {R : AF → Lo → Led → Prop} (ok : c.Ok w n)
    (hcode : c.env.code = .ref cc) (hK : codeHdIn (KK w) cc P = true) (ht : TriplesOk ps.toList) (hnf : codeAmong pos ps.toList = none) (hcl : closureFor scope c.env = pure clos)
    (hd0 : params.defaults = []) (hk0 : params.kw_defaults = []) (ha : annTrees params none c.env = [])
    (h : ∀ f c' doc pm ctv, Sto prog w c name (.ref f) (R .next) lo ((f, .fn (fnX name (qualnameIn c.env name name) params body scope clos .none .none doc pm none (.ref c') ctv) none) :: (c', .code (qualnameIn c.env name name)) ::
      (P, .raw (tabObj (ps ++ #[rawInt pos.line, rawInt pos.col, .ref c']))) :: led)) :
    WpS prog w c (exec (.FunctionDef name params body [] none [] scope none name pos) c.env) R lo ((P, .raw (tabObj ps)) :: led) := by
  intro fr s Q E rep kk
  obtain ⟨_, _, o, hP, rfl⟩ := rep.own _ (.head _)
  obtain ⟨mg, hg, hgP, hb⟩ := ok.top.built rep.keep hP
  with_reducible refine nestDef_K hd0 hk0 ha ?_
  with_reducible refine makeFunction_K (mg := mg) hcl ok.glob hg hcode ((codeHd_of_K ok.K hK).keeps rep.keep) hP ht hnf hgP hb fun c' ctv doc h' tk hx hge hlt hrec htb => ?_
  obtain ⟨c₂, oc, vs, t, e2, hoc, hd, hv⟩ := hrec
  cases e2
  refine h h'.objs.size c' doc ((mg "__name__").getD .none) ctv (.ref h'.objs.size) rfl fr _ _ E (rep.made hx hge hoc hlt htb ⟨vs, t, hd, hv⟩ ⟨rfl, rfl, rfl⟩ rfl) ?_
  intro _ lo' led' h'' tk' hR rep'
  exact kk .next lo' led' h'' tk' hR rep'
theorem s_def_hit {name : Str} {params : Arguments} {body : List Stmt} {scope : Scope} {pos : Pos} {cc P c' : Addr} {ps : Array Value} {clos : List (Str × Addr)} {R : AF → Lo → Led → Prop} (ok : c.Ok w n)
    (hcode : c.env.code = .ref cc) (hK : codeHdIn (KK w) cc P = true) (ht : TriplesOk ps.toList) (hnf : codeAmong pos ps.toList = some (.ref c')) (hcl : closureFor scope c.env = pure clos)
    (hd0 : params.defaults = []) (hk0 : params.kw_defaults = []) (ha : annTrees params none c.env = []) (hm : (P, .raw (tabObj ps)) ∈ led)
    (h : ∀ f doc pm ctv, Sto prog w c name (.ref f) (R .next) lo ((f, .fn (fnX name (qualnameIn c.env name name) params body scope clos .none .none doc pm none (.ref c') ctv) none) :: led)) :
    WpS prog w c (exec (.FunctionDef name params body [] none [] scope none name pos) c.env) R lo led := by
  intro fr s Q E rep kk
  obtain ⟨_, _, o, hP, rfl⟩ := rep.own _ (List.mem_append_left _ hm)
  obtain ⟨mg, hg, hgP, hb⟩ := ok.top.built rep.keep hP
  with_reducible refine nestDef_K hd0 hk0 ha ?_
  with_reducible refine makeFunction_hit (mg := mg) hcl ok.glob hg hcode ((codeHd_of_K ok.K hK).keeps rep.keep) hP ht hnf hb fun ctv doc h' tk hk hsz => ?_
  refine h h'.objs.size doc ((mg "__name__").getD .none) ctv (.ref h'.objs.size) rfl fr _ _ E ((rep.ext hk).push _ _ ⟨rfl, rfl, rfl⟩ rfl) ?_
  intro _ lo' led' h'' tk' hR rep'
  exact kk .next lo' led' h'' tk' hR rep'
theorem e_lam {params : Arguments} {body : Expr} {scope : Scope} {pos : Pos} {cc P : Addr} {ps : Array Value} {clos : List (Str × Addr)} (ok : c.Ok w n)
    (hcode : c.env.code = .ref cc) (hK : codeHdIn (KK w) cc P = true) (ht : TriplesOk ps.toList) (hnf : codeAmong pos ps.toList = none) (hcl : closureFor scope c.env = pure clos)
    (hd0 : defaultsOf params c.env = ([], []))
    (h : ∀ f c' fd q, R (.ref f) lo ((f, .fn fd none) :: (c', .code q) :: (P, .raw (tabObj (ps ++ #[rawInt pos.line, rawInt pos.col, .ref c']))) :: led)) :
    WpV prog w c (eval (.Lambda params body scope pos) c.env) R lo ((P, .raw (tabObj ps)) :: led) := by
  intro fr s Q E rep kk
  obtain ⟨_, _, o, hP, rfl⟩ := rep.own _ (.head _)
  obtain ⟨mg, hg, hgP, hb⟩ := ok.top.built rep.keep hP
  with_reducible refine kla_eval hd0 ?_
  with_reducible refine kla_makeFunction (mg := mg) hcl ok.glob hg hcode ((codeHd_of_K ok.K hK).keeps rep.keep) hP ht hnf hgP hb fun c' ctv h' tk hx hge hlt hrec htb => ?_
  obtain ⟨c₂, oc, vs, t, e2, hoc, hd, hv⟩ := hrec
  cases e2
  exact kk (.ref h'.objs.size) _ _ _ _ (h h'.objs.size c' _ _) (rep.made hx hge hoc hlt htb ⟨vs, t, hd, hv⟩ ⟨rfl, rfl, rfl⟩ rfl)
theorem Rep.castA {h : Heap} {A : Around} (r : Rep w c lo led h) : Rep w { c with A := A } lo led h := ⟨r.ns, r.keep, r.above, r.own, r.nodup⟩
theorem Rep.castB {h : Heap} {A : Around} (r : Rep w { c with A := A } lo led h) : Rep w c lo led h := ⟨r.ns, r.keep, r.above, r.own, r.nodup⟩
theorem code_cls {C fI : Addr} {as : List AV} (ok : c.Ok w (n + 2)) (hm : makesIn (KK w) C = true) (hi : findIn (KK w) (.ref C) (Str.ofString "__init__") = some (some (.ref fI))) (hf : typeIn (KK w) (.ref fI) = some (.type "function"))
    (h : ∀ x dx (c1 : Cx), c1.Ok w n → c1.base = c.base → CodeP prog w c1 (.ref fI) (.ref x :: as) (fun a lo' led' => a = .none ∧ R (.ref x) lo' led') lo ((x, .inst C dx) :: (dx, .dict []) :: led)) : CodeP prog w c (.ref C) as R lo led := by
  intro vs hvs fr s Rc rep kk
  obtain ⟨mm, F, hmm⟩ := rep.toFr
  obtain ⟨news, N, M⟩ := rep.toNews
  refine W.make_K F N (ok.K.keeps rep.keep) hm hi hf fun x dx h' F' N' hlt hxd => ?_
  have fresh : ∀ y, (∀ p ∈ news, p.1 < y) → y ∉ (led ++ fr).map (·.1) := fun y hy hmem => by
    obtain ⟨p, hp, e⟩ := List.mem_map.mp hmem
    obtain ⟨ob, ho, _⟩ := M.get (a := p.1) (ao := p.2) (by exact hp)
    have := hy _ ho
    rw [show p.1 = y from e] at this
    exact absurd this (Nat.lt_irrefl _)
  have rep' : Rep w c lo ((x, .inst C dx) :: (dx, .dict []) :: led ++ fr) h' := by
    refine Rep.ofNews hmm F' N' ⟨rfl, rfl, rfl, ⟨[], 0, rfl, trivial⟩, M⟩ ?_
    refine List.nodup_cons.mpr ⟨?_, List.nodup_cons.mpr ⟨fresh dx hlt, rep.nodup⟩⟩
    intro hmem
    rcases List.mem_cons.mp hmem with e | hmem
    · exact absurd hxd (by rw [show x = dx from e]; exact Nat.lt_irrefl _)
    · exact fresh x (fun p hp => Nat.lt_trans (hlt p hp) hxd) hmem
  have ok1 : Cx.Ok w { c with A := c.A.under (.builtin "type.__call__" ⟨.ref C :: vs, []⟩) } n :=
    ⟨ok.K, ok.top, ok.handled, by have := ok.depth; show c.A.depth + 1 + n < _; omega, by have := ok.units; show c.A.units + 1 + 8 * n + 40 < _; omega, ok.loc, ok.glob, ok.blt, ok.kind⟩
  refine h x dx _ ok1 rfl (.ref x :: vs) (by simp [er, hvs]) fr { s with heap := h' } _ rep'.castA ?_
  rintro a lo' led' h'' tk' ⟨ha, hR⟩ rep''
  obtain rfl := er_none ha
  exact ⟨rfl, kk (.ref x) lo' led' h'' tk' hR rep''.castB⟩
end
end Mine
namespace Mine
open PySem PySem.Spec PySem.Calls PyProof.Rows PySem.W
theorem it_kind : builtinKind "iter" = none := by decide +kernel
theorem it_plain : plainId "iter" = true := by decide +kernel
theorem it_entry : entryFor table "iter" = some Builtin.«iter» := entryFor_of_tree (by kernel_rfl)
theorem it_args (a b : Value) : argsOk "iter" ⟨[a, b], []⟩ := by unfold argsOk; kernel_rfl
theorem meth_call : findIn [] (.type "method") "__call__" = some (some (.builtin "method.__call__")) := by kernel_rfl
theorem slot_ci_next : Slot "callable_iterator" "__next__" "callable_iterator.__next__" :=
  .of (owner := "callable_iterator") (n := "__next__") (by rw [typeLookup_type, builtinLookup_eq_fast]; kernel_rfl) (by decide +kernel) (by decide +kernel) (by decide +kernel)
    (by first | exact .inl (by decide +kernel) | exact .inr (by decide +kernel)) (by rw [isSubtype_type]; kernel_rfl)
theorem slot_ci_iter : Slot "callable_iterator" "__iter__" "callable_iterator.__iter__" :=
  .of (owner := "callable_iterator") (n := "__iter__") (by rw [typeLookup_type, builtinLookup_eq_fast]; kernel_rfl) (by decide +kernel) (by decide +kernel) (by decide +kernel)
    (by first | exact .inl (by decide +kernel) | exact .inr (by decide +kernel)) (by rw [isSubtype_type]; kernel_rfl)
theorem ci_next_entry : entryFor table "callable_iterator.__next__" = some Builtin.«callable_iterator.__next__» := entryFor_of_tree (by kernel_rfl)
theorem ci_next_args (a : Value) : argsOk "callable_iterator.__next__" ⟨[a], []⟩ := by unfold argsOk; kernel_rfl
section
variable {M : Model} {A : Around} {E : Value → Shared → Prop} {s : Shared}
theorem wpAny_callBorrowed {f : Value} {Q : Value → Shared → Prop}
    (hc : codeAny M A (.call f ⟨[], []⟩) (fun r s' => match r with | .ok (.ret v) => Q v s' | .ok _ => False | .error e => E e s') s) : wpAny M A (callBorrowed f []) Q E s := by
  intro Γ p hΓ
  unfold callBorrowed
  rw [Sem.wp_call]
  refine wpCode_mono ?_ (hc (Γ.enter (.call f ⟨[], []⟩) none p) p rfl (hΓ.enter _ none p (by intro x; cases x)))
  intro r s' h
  cases r with
  | error e => exact h
  | ok fl => cases fl <;> first | exact h | exact h.elim
theorem wpAny_stop {α : Type} {A : Around} {s : Shared} {Q : α → Shared → Prop} {E : Value → Shared → Prop} (hh : A.handled = none)
    (h : ∀ e h', (∀ b o, s.heap.get? b = some o → h'.get? b = some o) → (∃ o, h'.get? e = some o ∧ o.cls = .type "StopIteration") → E (.ref e) { s with heap := h' }) :
    wpAny M A (Builtin.SmallTypes.stopIteration : Sem α) Q E s := by
  unfold Builtin.SmallTypes.stopIteration
  show wpAny _ _ (newExc (.type "StopIteration") [] >>= _) _ _ _
  refine wpAny_bind ?_
  simp only [newExc, newTuple]
  refine wpAny_bind (wpAny_newObj_type ?_ (by size_fits))
  refine wpAny_bind (m := firstArgMember _ _) (wpAny_of_eq (a := Value.none) (by first | rfl | (simp only [firstArgMember]; rfl)) ?_)
  refine wpAny_newObj_type ?_ (by size_fits)
  simp only [raiseNew]
  refine wpAny_bind (wpAny_handled ?_)
  rw [hh]
  refine wpAny_bind (wpAny_pure (wpAny_throw ?_))
  refine h _ _ (fun b o e => Heap.get?_push_of_some _ (Heap.get?_push_of_some _ e)) ⟨_, Heap.get?_push_size _ rfl, rfl⟩
end
section
variable {prog : Program} {w : World} {c : Cx} {n : Nat} {lo : Lo} {led led' : Led} {R : AV → Lo → Led → Prop}
theorem k_iter2 {q f m : Addr} {e : Str} (he : e = Str.ofString "") (hq : (q, .meth f m) ∈ led) (h : ∀ i, R (.ref i) lo ((i, .citer q false) :: led)) : Call prog w c (.builtin "iter") [.ref q, .str e] R lo led := by
  intro vs hvs
  obtain ⟨v, u, rfl, hv, hu⟩ := two_of hvs; obtain rfl := er_ref hv; obtain ⟨t, rfl⟩ := er_str hu
  subst he
  intro fr s Q E rep kk
  obtain ⟨_, _, o, ho, rfl⟩ := rep.own _ (List.mem_append_left _ hq)
  have L0 : Looks (model prog w) s.heap (typeOf (.ref q)) (.type "method") := (Looks.ld ho).andThen .now
  with_reducible refine Calls.call_function_entry it_kind it_plain it_entry (it_args _ _) ?_
  unfold Builtin.«iter»
  with_reducible refine wpAny_bind ?_
  refine wpAny_of_eq (a := [Value.ref q, Value.str (Str.ofString "") t]) (by rfl) ?_
  dsimp only
  with_reducible refine wpAny_bind ?_
  unfold specialOf
  with_reducible refine wpAny_bind ?_
  refine L0.here ?_
  refine (looks_findIn (in_nil s.heap) meth_call).here ?_
  rw [show (Option.isNone (some (Value.builtin "method.__call__"))) = false from rfl, if_neg Bool.false_ne_true]
  with_reducible refine wpAny_bind ?_
  with_reducible refine wpAny_rule ?_
  with_reducible refine wpAny_bind ?_
  unfold newFields
  with_reducible refine wpAny_newObj_type ?_ (by size_fits)
  show wpAny _ _ (ret _) _ _ _
  refine wpAny_of_eq (a := Fin.done (.ret (.ref s.heap.objs.size))) rfl ?_
  exact ⟨_, rfl, kk (.ref s.heap.objs.size) _ _ _ s.toks (h s.heap.objs.size) (rep.push _ _ ⟨rfl, t, rfl⟩)⟩
theorem ci_iter_entry : entryFor table "callable_iterator.__iter__" = some Builtin.«dict_keyiterator.__iter__» :=
  entryFor_alias (id' := "dict_keyiterator.__iter__") (by kernel_rfl) (by first | rfl | decide +kernel) (by decide +kernel) (by kernel_rfl)
theorem ci_iter_args (a : Value) : argsOk "callable_iterator.__iter__" ⟨[a], []⟩ := by unfold argsOk; kernel_rfl
theorem iter_citer {A : Around} {s : Shared} {it q : Addr} {b : Bool} {fr : Led} {Q : Value → Shared → Prop} {E : Value → Shared → Prop} (rep : Rep w c lo (led ++ fr) s.heap) (hi : (it, .citer q b) ∈ led) (h : Q (.ref it) s) : wpAny (model prog w) A (pyIter (.ref it)) Q E s := by
  obtain ⟨_, _, o, ho, hc, t, hd⟩ := rep.own _ (List.mem_append_left _ hi)
  have hT : s.TypeIs (.ref it) "callable_iterator" := ⟨o, ho, hc⟩
  refine wpAny_pyIter_slot hT slot_ci_iter ?_
  refine wpAny_call_entry slot_ci_iter hT ci_iter_entry ?_ (ci_iter_args _)
  refine wpAny_of_eq (a := Fin.done (.ret (.ref it))) (by rfl) ?_
  exact ⟨_, rfl, "callable_iterator", _, hT, slot_ci_next.lookup, h⟩
theorem next_done {it q : Addr} (hh : c.A.handled = none) (hi : (it, .citer q true) ∈ led) (R : Option Value → Lo → Led → Prop) (h : R none lo led) : Wp prog w c (pyNext (.ref it)) R lo led := by
  intro fr s Q E rep kk
  obtain ⟨_, _, o, ho, hc, t, hd⟩ := rep.own _ (List.mem_append_left _ hi)
  rw [if_pos rfl] at hd
  have hT : s.TypeIs (.ref it) "callable_iterator" := ⟨o, ho, hc⟩
  unfold pyNext
  refine wpAny_bind (wpAny_attempt (wpAny_callSpecial?_slot hT slot_ci_next (wpAny_call_entry slot_ci_next hT ci_next_entry ?_ (ci_next_args _))))
  show wpAny _ _ (field (.ref it) 2 >>= _) _ _ s
  refine wpAny_bind (wpAny_field ho hd (x := .bool true) rfl ?_)
  rw [show (Value.bool true == Value.bool true) = true from by decide, if_pos rfl]
  refine wpAny_bind (wpAny_rule ?_)
  refine wpAny_bind (wpAny_stop hh fun e h' hk ht => ?_)
  obtain ⟨oe, hoe, hce⟩ := ht
  refine wpAny_bind (wpAny_isInstance (T := "StopIteration") (b := true) ⟨oe, hoe, hce⟩ isSubtype_stop ?_)
  exact wpAny_pure (kk none lo led h' s.toks h (rep.ext hk))
end
end Mine
namespace Mine
open PySem PySem.Spec PySem.Calls PyProof.Rows PySem.W
section
variable {prog : Program} {w : World} {c : Cx} {n : Nat} {lo : Lo} {led led' : Led} {R : AV → Lo → Led → Prop}
theorem S_nil : Str.ofString "" = S [] := by decide +kernel
theorem borrows {M : Model} {h : Heap} {q f m : Addr} {fo : Obj} {fd : FuncData} (hq : h.get? q = some (methodObj (.ref f) (.ref m))) (hf : h.get? f = some fo) (hd : fo.data = .func fd) : Looks M h (borrowsExactly (.ref q)) true := by
  unfold borrowsExactly
  intro A Q E s k hQ
  refine wpAny_bind (wpAny_load (k _ _ hq) ?_)
  dsimp only
  rw [show (Value.type "method" == Value.type "method") = true from by decide, if_pos rfl]
  show wpAny _ _ (load f >>= _) _ _ _
  refine wpAny_bind (wpAny_load (k _ _ hf) ?_)
  rw [hd]
  exact wpAny_pure hQ
noncomputable def endObj (o : Obj) : Obj := Obj.mapFields (fun x => x.setIfInBounds 2 (.bool true)) (Obj.mapFields (fun x => x.setIfInBounds 1 .none) (Obj.mapFields (fun x => x.setIfInBounds 0 .none) o))
theorem next_citer {it q f m : Addr} {fo : Obj} {fd : FuncData} {led₁ : Led} {Rn : List Nat → Lo → Led → Prop} (ok : c.Ok w (n + 1)) (hK : (KK w).lookup f = some fo) (hd : fo.data = .func fd)
    (hcall : ∀ c1 : Cx, c1.Ok w n → c1.base = c.base → CodeP prog w c1 (.ref f) [.ref m] (fun a lo' led' => ∃ x, a = .str (S x) ∧ Rn x lo' led') lo led₁)
    (R : Option Value → Lo → Led → Prop)
    (h1 : ∀ u x lo' led', Rn x lo' led' → x ≠ [] → er u = .str (S x) → R (some u) lo' ((it, .citer q false) :: (q, .meth f m) :: led'))
    (h2 : ∀ lo' led', Rn [] lo' led' → R none lo' ((it, .citer q true) :: (q, .meth f m) :: led')) :
    Wp prog w c (pyNext (.ref it)) R lo ((it, .citer q false) :: (q, .meth f m) :: led₁) := by
  intro fr s Q E rep kk
  obtain ⟨_, _, o, ho, hc, t, hdat⟩ := rep.own _ (.head _)
  obtain ⟨_, _, o2, ho2, rfl⟩ := rep.own _ (.tail _ (.head _))
  rw [if_neg Bool.false_ne_true] at hdat
  have hT : s.TypeIs (.ref it) "callable_iterator" := ⟨o, ho, hc⟩
  have hf := ok.K.keeps rep.keep _ _ hK
  unfold pyNext
  refine wpAny_bind (wpAny_attempt (wpAny_callSpecial?_slot hT slot_ci_next (wpAny_call_entry slot_ci_next hT ci_next_entry ?_ (ci_next_args _))))
  show wpAny _ _ (field (.ref it) 2 >>= _) _ _ s
  refine wpAny_bind (wpAny_field ho hdat (x := .bool false) rfl ?_)
  rw [show (Value.bool false == Value.bool true) = false from by decide, if_neg Bool.false_ne_true]
  show wpAny _ _ (field (.ref it) 0 >>= _) _ _ s
  refine wpAny_bind (wpAny_field ho hdat (x := .ref q) rfl ?_)
  with_reducible refine wpAny_bind ?_
  with_reducible refine wpAny_attempt ?_
  unfold callOutOfASlot
  with_reducible refine wpAny_bind ?_
  refine (borrows ho2 hf hd).here ?_
  rw [if_pos rfl]
  with_reducible refine wpAny_callBorrowed ?_
  with_reducible refine method_call ho2 ?_
  have ok1 : Cx.Ok w { c with A := c.A.in1 } n :=
    ⟨ok.K, ok.top, ok.handled, by have := ok.depth; show c.A.depth + n < _; omega, by have := ok.units; show c.A.units + 1 + 8 * n + 40 < _; omega, ok.loc, ok.glob, ok.blt, ok.kind⟩
  have repm : Rep w { c with A := c.A.in1 } lo (led₁ ++ ((it, .citer q false) :: (q, .meth f m) :: fr)) s.heap := by
    refine Rep.castA (rep.perm ?_)
    show ((it, AO.citer q false) :: (q, .meth f m) :: (led₁ ++ fr)).Perm _
    exact (List.perm_append_comm_assoc [(it, AO.citer q false), (q, .meth f m)] led₁ fr)
  refine hcall _ ok1 rfl [.ref m] rfl _ s _ repm ?_
  rintro a lo' led' h' tk' ⟨x, ha, hR⟩ rep'
  obtain ⟨t', rfl⟩ := er_str ha
  have rep2 : Rep w c lo' ((it, .citer q false) :: (q, .meth f m) :: (led' ++ fr)) h' :=
    rep'.castB.perm (List.perm_append_comm_assoc [(it, AO.citer q false), (q, .meth f m)] led' fr).symm
  obtain ⟨_, _, o', ho', hc', t2, hdat'⟩ := rep2.own _ (.head _)
  obtain ⟨_, _, o2', ho2', rfl⟩ := rep2.own _ (.tail _ (.head _))
  rw [if_neg Bool.false_ne_true] at hdat'
  have hf' := ok.K.keeps rep2.keep _ _ hK
  show wpAny _ _ (field (.ref it) 2 >>= _) _ _ _
  refine wpAny_bind (wpAny_field ho' hdat' (x := .bool false) rfl ?_)
  rw [show (Value.bool false == Value.bool true) = false from by decide, if_neg Bool.false_ne_true]
  show wpAny _ _ (field (.ref it) 1 >>= _) _ _ _
  refine wpAny_bind (wpAny_field ho' hdat' (x := .str (Str.ofString "") t2) rfl ?_)
  with_reducible refine wpAny_bind ?_
  with_reducible refine wpAny_holding ?_
  with_reducible refine wpAny_eqBool_str ?_
  rw [S_nil]
  by_cases hx : x = []
  · subst hx
    rw [decide_eq_true rfl]
    rw [show (!true) = false from rfl, if_neg Bool.false_ne_true]
    with_reducible refine wpAny_bind ?_
    with_reducible refine wpAny_rule ?_
    with_reducible refine wpAny_bind ?_
    show wpAny _ _ (field (.ref it) 0 >>= _) _ _ _
    refine wpAny_bind (wpAny_field ho' hdat' (x := .ref q) rfl ?_)
    with_reducible refine wpAny_bind ?_
    unfold slotLetsGo
    dsimp only
    with_reducible refine wpAny_bind ?_
    refine (borrows ho2' hf' hd).here ?_
    rw [if_pos rfl]
    with_reducible refine wpAny_pure ?_
    have fr1 : ∀ {o : Obj} {vs : Array Value}, o.data = .fields vs → ∀ g, (Obj.mapFields g o).isFreed = false := fun h g => Obj.isFreed_of_fields (Obj.data_mapFields h _)
    with_reducible refine wpAny_bind ?_
    refine wpAny_setField ho' hdat' (by simp) ?_
    have ho3 := Heap.get?_update_self (h := h') (Obj.mapFields fun x => x.setIfInBounds 0 Value.none) ho' (fr1 hdat' _)
    have hd3 := Obj.data_mapFields hdat' (fun x => x.setIfInBounds 0 Value.none)
    with_reducible refine wpAny_bind ?_
    refine wpAny_setField ho3 hd3 (by simp) ?_
    have ho4 := Heap.get?_update_self (Obj.mapFields fun x => x.setIfInBounds 1 Value.none) ho3 (fr1 hd3 _)
    have hd4 := Obj.data_mapFields hd3 (fun x => x.setIfInBounds 1 Value.none)
    refine wpAny_setField ho4 hd4 (by simp) ?_
    have ho5 := Heap.get?_update_self (Obj.mapFields fun x => x.setIfInBounds 2 (Value.bool true)) ho4 (fr1 hd4 _)
    have hd5 := Obj.data_mapFields hd4 (fun x => x.setIfInBounds 2 (Value.bool true))
    refine wpAny_stop ok.handled fun e h'' hk ht => ?_
    obtain ⟨oe, hoe, hce⟩ := ht
    refine wpAny_bind (wpAny_isInstance (T := "StopIteration") (b := true) ⟨oe, hoe, hce⟩ isSubtype_stop ?_)
    refine wpAny_pure (kk none lo' _ h'' tk' (h2 lo' led' hR) ?_)
    refine Rep.ext ?_ hk
    refine rep2.up (Up.head) (fun b hb x e => ?_) ho5 ⟨?_, t2, ?_⟩
    · rw [Heap.get?_update_other _ _ hb.symm, Heap.get?_update_other _ _ hb.symm, Heap.get?_update_other _ _ hb.symm]; exact e
    · rw [Obj.cls_mapFields, Obj.cls_mapFields, Obj.cls_mapFields]; exact hc'
    · rw [hd5]; rfl
  · have hne : ¬ S [] = S x := fun e => hx (S_inj.mp e).symm
    rw [decide_eq_false hne]
    rw [show (!false) = true from rfl, if_pos rfl]
    show wpAny _ _ (ret _) _ _ _
    refine wpAny_of_eq (a := Fin.done (.ret (.str (S x) t'))) rfl ?_
    exact ⟨_, rfl, wpAny_pure (kk _ _ _ _ _ (h1 (.str (S x) t') x lo' led' hR hx rfl) rep2)⟩
end
end Mine
namespace Mine
open PySem PySem.Spec PySem.Calls PyProof.Rows PySem.W
section
variable {prog : Program} {w : World} {c : Cx} {n : Nat} {lo : Lo} {led led' : Led} {R : AV → Lo → Led → Prop}
theorem At.mem {a : Addr} {o : AO} (h : (a, o) ∈ led) : At w c led a o := .inl h
theorem looks_dict {M : Model} {h : Heap} {sd : Addr} {des : List DictEntry} {k : Nat} {x : Str} {v : Option Value} (hs : h.get? sd = some (dictOf des k)) (hl : getL x des = some v) : Looks M h (nsGet sd x) v := by
  have K : Frag.In [(sd, dictOf des k)] h := by
    intro a o e
    rw [List.lookup_cons] at e
    split at e
    · rename_i q; cases e; rw [beq_iff_eq.mp q]; exact hs
    · cases e
  refine looks_nsIn K ?_
  unfold nsIn
  rw [List.lookup_cons, beq_self_eq_true]
  unfold getL at hl
  exact hl
theorem met_fn {pl : Sem Bool} {f sd g : Addr} {fd : FuncData} {es : List (Str × AV)} {x : Str} {R : AV → List AV → Lo → Led → Prop} (hf : (f, .fn fd (some sd)) ∈ led) (hs : (sd, .dict es) ∈ led) (hl : es.lookup x = some (.ref g))
    (hm : findIn [] (.type "function") x = some none) (h : R (.ref g) [] lo led) : Met prog w c pl x (.ref f) R lo led := by
  intro v hv; obtain rfl := er_ref hv
  intro fr s Q E rep kk
  obtain ⟨_, _, o, ho, hc, hd, hdict⟩ := rep.own _ (List.mem_append_left _ hf)
  obtain ⟨_, _, o2, ho2, des, k, rfl, hde⟩ := rep.own _ (List.mem_append_left _ hs)
  obtain ⟨u, hu, hue⟩ := hde.get hl
  obtain rfl := er_ref hue
  obtain ⟨hh, gg, dd, tt, os⟩ := s
  with_reducible refine fn_method ho hd hc hdict hm (looks_dict ho2 hu) rfl ?_
  exact kk (.ref g, []) lo led hh _ h rep
theorem sat_fn {f : Addr} {fd : FuncData} {x : Str} {a : AV} {R : Lo → Led → Prop} (hm : findIn [] (.type "function") x = some none) (h : ∀ sd, R lo ((sd, .dict [(x, a)]) :: (f, .fn fd (some sd)) :: led)) : Sat prog w c x (.ref f) a R lo ((f, .fn fd none) :: led) := by
  intro ov v ho hv; obtain rfl := er_ref ho; subst hv
  intro fr s Q E rep kk
  obtain ⟨_, _, o, ho, hc, hd, hdict⟩ := rep.own _ (.head _)
  obtain ⟨hh, gg, dd, tt, os⟩ := s
  with_reducible refine fn_setattr ho hd hc hdict hm fun h' hk hf' hsd => ?_
  refine kk () lo _ h' _ (h hh.objs.size) ?_
  have r1 : Rep w c lo ((f, .fn fd (some hh.objs.size)) :: led ++ fr) h' := rep.up (.head) (fun b hb x e => hk b x hb e) hf' ⟨hc, hd, rfl⟩
  refine ⟨r1.ns, r1.keep, r1.above, fun q hq => ?_, List.nodup_cons.mpr ⟨?_, r1.nodup⟩⟩
  · rcases List.mem_cons.mp hq with rfl | hq
    · refine ⟨Nat.ne_of_gt rep.lt, ?_, _, hsd, ⟨_, 1, rfl, ⟨⟨_, rfl⟩, rfl, rfl, trivial⟩⟩⟩
      cases e : c.base.get? hh.objs.size with
      | none => rfl
      | some x => exact absurd (Heap.lt_size (rep.keep _ _ e)) (Nat.lt_irrefl _)
    · exact r1.own q hq
  · exact rep.fresh
theorem cw0_clo {pos : Pos} {a : Addr} {args : List Expr} (h : Args prog w c pos args (fun as lo₁ led₁ => ∃ fd d, At w c led₁ a (.fn fd d) ∧ Call prog w c (.ref a) as R lo₁ led₁) lo led)
    (hplain : autoParam ((backTo pos (starEach args c.env)).any (·.1) = false) maw._auto_1) : CW prog w c pos (.ref a) [] args R lo led := by
  intro v fs hv hfs fr s Q E rep kk
  obtain rfl := er_ref hv
  refine callWith_of (P := fun h => ∃ o fd, h.get? a = some o ∧ o.data = .func fd) (by rw [hplain]; rfl) (fun h hx => ⟨.frame, .inl rfl, ?_⟩) (evalArgs_all hplain (h fr s _ E rep fun vs _ _ _ _ h₁ rep₁ => ⟨?_, ?_⟩))
  · obtain ⟨o, fd, hx, ho⟩ := hx
    refine (Looks.ld (part := none) hx).andThen ?_
    rw [ho]; exact .now
  · obtain ⟨fd, d, h₁, _⟩ := h₁
    obtain ⟨ob, e, _, hd, _⟩ := h₁.get rep₁; exact ⟨ob, fd, e, hd⟩
  · obtain ⟨fd, d, _, h₂⟩ := h₁
    exact h₂ (fs ++ vs) (by rw [List.map_append, hfs]; rfl) fr _ _ E rep₁ kk
theorem code_fn0 {f : Addr} {fo : Obj} {fd : FuncData} {body : List Stmt} {as : List AV} {pn : List Str} {R : AV → Lo → Led → Prop} (lo₀ : Lo)
    (ok : c.Ok w (n + 1)) (hK : (KK w).lookup f = some fo) (hd : fo.data = .func fd) (hcd : codeIn (KK w) fd.code fd.qualname = true) (hbody : fd.body = .stmts body) (hclo : fd.closure = [])
    (hgl : fd.globals = mainGlobals) (hbl : fd.builtins = builtinsNs)
    (hb : ∀ vs : List Value, vs.length = as.length → bindArgs fd ⟨vs, []⟩ = pure (pn.zip vs))
    (hkind : (pn.all fun y => fd.scope.names.lookup y == some .local || fd.scope.names.lookup y == some .cell) = true)
    (hnd : ((cellsFrom 0 fd.scope.names []).map (·.1)).Nodup)
    (hlo : initLo fd.scope.names (pn.zip as) = lo₀) (hcl : ∀ L, cellLed fd.scope.names (pn.zip as) L = [])
    (h : ∀ c' : Cx, c'.Ok w n → c'.env = callEnvC fd c'.L f → (∀ b o, c.base.get? b = some o → c'.base.get? b = some o) →
      WpS prog w c' (execs body c'.env) (fun fl _ led' => R (retOf fl) lo led') lo₀ led)
    (hco : autoParam (fd.scope.isCoroutine = false) mar._auto_1) (hgen : autoParam (fd.scope.isGenerator = false) mar._auto_1) (hk : autoParam (fd.scope.kind = .function) mar._auto_1) :
    CodeP prog w c (.ref f) as R lo led :=
  code_fn lo₀ (fun _ => []) ok hK hd hcd hbody hclo hgl hbl hb hkind hnd hlo hcl h hco hgen hk
theorem use_eq {P : Prop} {α : Type} {o : Option α} {x : α} (e : o = some x) (h : o = some x → P) : P := h e
noncomputable def innerDef (a : Addr) (k : Nat) (w : World) : Option (Str × Arguments × List Stmt × Scope × Pos) :=
  match (fdOf a w).body with
  | .stmts b => match b[k]? with
    | some (.FunctionDef name params body _ _ _ scope _ _ pos) => some (name, params, body, scope, pos)
    | _ => none
  | _ => none
noncomputable def IsInner (w : World) (a : Addr) (k : Nat) (clos : List (Str × Addr)) (cc : Addr) (fd : FuncData) : Prop :=
  ∃ name qual params body scope pos doc pm ctv, innerDef a k w = some (name, params, body, scope, pos) ∧ fd = fnX name qual params body scope clos .none .none doc pm none (.ref cc) ctv
end
end Mine
namespace Mine
open PySem PySem.Spec PySem.Calls PyProof.Rows PySem.W
section
variable (w : World)
theorem mc_pg (x : Str) : plainGet (KK w) 118 x = true := by kernel_rfl
theorem mc_hd : hasDictIn (KK w) 118 = true := by kernel_rfl
theorem mc_lineno : findIn (KK w) (.ref 118) "lineno" = some none := by kernel_rfl
theorem mc_instream : findIn (KK w) (.ref 118) "instream" = some none := by kernel_rfl
theorem mc_whitespace : findIn (KK w) (.ref 118) "whitespace" = some none := by kernel_rfl
theorem mc_pushback : findIn (KK w) (.ref 118) "pushback" = some none := by kernel_rfl
theorem mc_read : findIn (KK w) (.ref 118) "_read_char" = some (some (.ref 101)) := by kernel_rfl
theorem mc_get : findIn (KK w) (.ref 118) "get_token" = some (some (.ref 108)) := by kernel_rfl
theorem mc_push : findIn (KK w) (.ref 118) "push_token" = some (some (.ref 115)) := by kernel_rfl
theorem mc_fn101 : isFn (KK w) (.ref 101) = true := by kernel_rfl
theorem mc_fn108 : isFn (KK w) (.ref 108) = true := by kernel_rfl
theorem mc_fn115 : isFn (KK w) (.ref 115) = true := by kernel_rfl
theorem mc_get101 : specialIn (KK w) (.ref 101) (Str.ofString "__get__") = some (some (.builtin "function.__get__")) := by kernel_rfl
theorem mc_takes101 : takesIn (KK w) (.ref 101) = some false := by kernel_rfl
theorem mc_copied : copiedNames.contains (Str.ofString "_read_char") = false := by kernel_rfl
theorem mc_sa : findIn (KK w) (.ref 118) (Str.ofString "__setattr__") = some (some (.builtin "object.__setattr__")) := by kernel_rfl
theorem mc_po : plainOver (KK w) 118 = true := by kernel_rfl
theorem mc_tk_lineno : takerIn (KK w) 118 "lineno" = some none := by kernel_rfl
theorem mc_tk_instream : takerIn (KK w) 118 "instream" = some none := by kernel_rfl
theorem mc_tk_whitespace : takerIn (KK w) 118 "whitespace" = some none := by kernel_rfl
theorem mc_tk_pushback : takerIn (KK w) 118 "pushback" = some none := by kernel_rfl
theorem keep_101 : keepIn (KK w) (.ref 101) = true := by kernel_rfl
theorem keep_108 : keepIn (KK w) (.ref 108) = true := by kernel_rfl
theorem keep_115 : keepIn (KK w) (.ref 115) = true := by kernel_rfl
end
noncomputable abbrev ND (ln : Int) (sf pb : Addr) : List (Str × AV) := [("lineno", .int ln), ("instream", .ref sf), ("whitespace", .str "\n\t\r "), ("pushback", .ref pb)]
theorem nd_lineno {ln : Int} {sf pb : Addr} : (ND ln sf pb).lookup (Str.ofString "lineno") = some (AV.int ln) := by
  show List.lookup _ _ = _
  rw [List.lookup_cons, show (Str.ofString "lineno" == Str.ofString "lineno") = true from by decide +kernel]
theorem nd_instream {ln : Int} {sf pb : Addr} : (ND ln sf pb).lookup (Str.ofString "instream") = some (AV.ref sf) := by
  show List.lookup _ _ = _
  rw [List.lookup_cons, show (Str.ofString "instream" == Str.ofString "lineno") = false from by decide +kernel, List.lookup_cons, show (Str.ofString "instream" == Str.ofString "instream") = true from by decide +kernel]
theorem nd_whitespace {ln : Int} {sf pb : Addr} : (ND ln sf pb).lookup (Str.ofString "whitespace") = some (AV.str "\n\t\r ") := by
  show List.lookup _ _ = _
  rw [List.lookup_cons, show (Str.ofString "whitespace" == Str.ofString "lineno") = false from by decide +kernel, List.lookup_cons, show (Str.ofString "whitespace" == Str.ofString "instream") = false from by decide +kernel, List.lookup_cons, show (Str.ofString "whitespace" == Str.ofString "whitespace") = true from by decide +kernel]
theorem nd_pushback {ln : Int} {sf pb : Addr} : (ND ln sf pb).lookup (Str.ofString "pushback") = some (AV.ref pb) := by
  show List.lookup _ _ = _
  rw [List.lookup_cons, show (Str.ofString "pushback" == Str.ofString "lineno") = false from by decide +kernel, List.lookup_cons, show (Str.ofString "pushback" == Str.ofString "instream") = false from by decide +kernel, List.lookup_cons, show (Str.ofString "pushback" == Str.ofString "whitespace") = false from by decide +kernel, List.lookup_cons, show (Str.ofString "pushback" == Str.ofString "pushback") = true from by decide +kernel]
theorem nd_miss {ln : Int} {sf pb : Addr} {x : Str} (h1 : (x == Str.ofString "lineno") = false) (h2 : (x == Str.ofString "instream") = false) (h3 : (x == Str.ofString "whitespace") = false) (h4 : (x == Str.ofString "pushback") = false) : (ND ln sf pb).lookup x = none := by
  show List.lookup _ _ = _
  rw [List.lookup_cons, h1, List.lookup_cons, h2, List.lookup_cons, h3, List.lookup_cons, h4]; rfl
theorem nd_read {ln : Int} {sf pb : Addr} : (ND ln sf pb).lookup (Str.ofString "_read_char") = none := nd_miss (by decide +kernel) (by decide +kernel) (by decide +kernel) (by decide +kernel)
theorem nd_get {ln : Int} {sf pb : Addr} : (ND ln sf pb).lookup (Str.ofString "get_token") = none := nd_miss (by decide +kernel) (by decide +kernel) (by decide +kernel) (by decide +kernel)
theorem nd_push {ln : Int} {sf pb : Addr} : (ND ln sf pb).lookup (Str.ofString "push_token") = none := nd_miss (by decide +kernel) (by decide +kernel) (by decide +kernel) (by decide +kernel)
theorem nd_put_lineno {ln ln' : Int} {sf pb : Addr} : putA "lineno" (.int ln') (ND ln sf pb) = ND ln' sf pb := by
  show putA _ _ (_ :: _) = _
  unfold putA
  rw [show ((Str.ofString "lineno" : Str) == Str.ofString "lineno") = true from by decide +kernel, if_pos rfl]
theorem putA_ne {x y : Str} {a b : AV} {r : List (Str × AV)} (h : (y == x) = false) : putA x a ((y, b) :: r) = (y, b) :: putA x a r := by
  rw [putA, h, if_neg Bool.false_ne_true]
section
variable {prog : Program} {w : World} {c : Cx} {n : Nat} {lo : Lo} {led led' : Led} {R : AV → Lo → Led → Prop}
theorem s_auga {attr : Str} {o value : Expr} {op : Operator} {tpos pos : Pos} {R : AF → Lo → Led → Prop} (h : WpV prog w c (eval o c.env) (fun oa lo₁ led₁ => Att prog w c attr oa (fun a lo₂ led₂ => WpV prog w c (eval value c.env) (fun b lo₃ led₃ =>
    Iop prog w c op a b (fun r => Sat prog w c attr oa r (R .next)) lo₃ led₃) lo₂ led₂) lo₁ led₁) lo led) : WpS prog w c (exec (.AugAssign (.Attribute o attr tpos) op value pos) c.env) R lo led :=
  fun fr s Q E rep kk => PySem.wpAny_AugAssign_AttributeAny (h fr s _ E rep fun ov _ _ _ _ h₁ rep₁ => h₁ ov rfl fr _ _ E rep₁ fun old _ _ _ _ h₂ rep₂ => h₂ fr _ _ E rep₂ fun v _ _ _ _ h₃ rep₃ =>
    h₃ old v rfl rfl fr _ _ E rep₃ fun r _ _ _ _ h₄ rep₄ => h₄ ov r rfl rfl fr _ _ E rep₄ fun _ _ _ _ _ h₅ rep₅ => kk .next _ _ _ _ h₅ rep₅)
theorem i_add {a b : Int} (h : R (.int (a + b)) lo led) : Iop prog w c .Add (.int a) (.int b) R lo led := by
  intro v u hv hu; obtain ⟨t, rfl⟩ := er_int hv; obtain ⟨t', rfl⟩ := er_int hu
  intro fr s Q E rep kk
  with_reducible refine PyProof.Rows.iadd_int ?_
  exact kk _ _ _ _ _ h rep
theorem i_sadd {x y : Str} {a b : List Nat} (hx : x = S a) (hy : y = S b) (hz : a.length + b.length ≤ 2 ^ 20) (h : R (.str (S (a ++ b))) lo led) : Iop prog w c .Add (.str x) (.str y) R lo led := by
  intro v u hv hu; obtain ⟨t, rfl⟩ := er_str hv; obtain ⟨t', rfl⟩ := er_str hu
  subst hx; subst hy
  intro fr s Q E rep kk
  with_reducible refine PyProof.Rows.iadd_str (fun t' tk => ?_) (by rw [S_len, S_len]; exact Nat.le_trans hz (by decide))
  rw [S_app]
  exact kk _ _ _ _ _ h rep
theorem c_instr {x y : Str} (h : R (.bool (Txt.contains y x)) lo led) : Cop prog w c .In (.str x) (.str y) R lo led := by
  intro v u hv hu; obtain ⟨t, rfl⟩ := er_str hv; obtain ⟨t', rfl⟩ := er_str hu
  intro fr s Q E rep kk
  with_reducible refine SB.contains ?_
  exact kk _ _ _ _ s.toks h rep
theorem Rep.front {h : Heap} {d : Addr} {o o' : AO} {fr : Led} (rep : Rep w c lo (led ++ fr) h) (u : Up d o o' led led') : ∃ ob news, o.holds w.params ob ∧ h.get? d = some ob ∧ News c.base c.L h ((d, ob) :: news) ∧ (∀ p ∈ news, p.1 ≠ d) ∧
    ∀ h' ob' m, (∀ x, (m x).map er = look c.env.scope.names lo x) → Fr c.base c.L h' m → News c.base c.L h' ((d, ob') :: news) → o'.holds w.params ob' → Rep w c lo (led' ++ fr) h' := by
  obtain ⟨p, q, rfl, rfl⟩ := u.split
  have perm : (p ++ (d, o) :: q ++ fr).Perm ((d, o) :: (p ++ q ++ fr)) := by
    rw [List.append_assoc, List.cons_append]
    refine List.perm_middle.trans ?_
    rw [List.append_assoc]
  have rep1 := rep.perm perm
  obtain ⟨g1, g2, ob, ho1, hob⟩ := rep1.own _ (.head _)
  obtain ⟨news, N, M⟩ := (rep1.sub (List.sublist_cons_self _ _)).toNews
  have nd := List.nodup_cons.mp rep1.nodup
  have mk : ∀ {l : Led} {nn : List (Addr × Obj)}, Mat w.params l nn → nn.map (·.1) = l.map (·.1) := by
    intro l
    induction l with
    | nil => intro nn M; cases nn with | nil => rfl | cons _ _ => exact M.elim
    | cons a l ih => intro nn M; cases nn with | nil => exact M.elim | cons b nn => simp only [List.map_cons]; rw [ih M.2.2, M.1]
  refine ⟨ob, news, hob, ho1, ?_, ?_, fun h' ob' m hm F' N' hob' => ?_⟩
  · intro y hy
    rcases List.mem_cons.mp hy with rfl | hy
    · exact ⟨ho1, g1, g2⟩
    · exact N y hy
  · intro y hy e
    refine nd.1 ?_
    rw [← mk M, ← e]
    exact List.mem_map_of_mem hy
  · have rep' : Rep w c lo ((d, o') :: (p ++ q ++ fr)) h' := Rep.ofNews hm F' N' ⟨rfl, hob', M⟩ (by simpa using rep1.nodup)
    refine rep'.perm ?_
    rw [List.append_assoc, List.append_assoc, List.cons_append]
    exact List.perm_middle.symm
theorem tr_list {l : Addr} {xs : List AV} {R : Bool → Lo → Led → Prop} (hl : (l, .list xs) ∈ led) (hz : xs.length ≤ 1000) (h : R (!xs.isEmpty) lo led) : Tru prog w c (.ref l) R lo led := by
  intro v hv; obtain rfl := er_ref hv
  intro fr s Q E rep kk
  obtain ⟨_, _, o, ho, vs, m, rfl, rfl⟩ := rep.own _ (List.mem_append_left _ hl)
  have hL : s.heap.IsList l vs.toArray := ⟨_, ho, rfl, _, rfl⟩
  rw [List.length_map] at hz
  refine wpAny_truthy_list hL (by rw [List.size_toArray]; omega) ?_
  refine kk _ lo led s.heap _ ?_ rep
  rw [show (!vs.toArray.isEmpty) = !(vs.map er).isEmpty from by cases vs <;> rfl]
  exact h
theorem k_pop0 {l : Addr} {x : AV} {xs : List AV} (u : Up l (.list (x :: xs)) (.list xs) led led') (hz : xs.length ≤ 1000) (h : R x lo led') : Call prog w c (.builtin "list.pop") [.ref l, .int 0] R lo led := by
  intro vs hvs
  obtain ⟨v, i, rfl, hv, hi⟩ := two_of hvs; obtain rfl := er_ref hv; obtain ⟨t, rfl⟩ := er_int hi
  intro fr s Q E rep kk
  obtain ⟨mm, F, hmm⟩ := rep.toFr
  obtain ⟨ob, news, ⟨us, k, rfl, hus⟩, ho, N, hne, back⟩ := rep.front u
  obtain ⟨y, r, rfl, rfl, rfl⟩ : ∃ y r, us = y :: r ∧ er y = x ∧ r.map er = xs := by
    cases us with
    | nil => cases hus
    | cons y r => simp only [List.map_cons, List.cons.injEq] at hus; exact ⟨y, r, rfl, hus.1, hus.2⟩
  rw [List.length_map] at hz
  refine kl_popAt (its := (y :: r).toArray) (n := k) (p := []) (q := r) (k := 0) F N (by decide) (by unfold seqIndex?; simp) (by unfold kl_cut; rfl) (.head hne) (by simp [sizeLine]; omega) fun h' F' N' => ?_
  exact kk y lo _ h' s.toks h (back h' _ mm hmm F' N' ⟨r, k + 1, rfl, rfl⟩)
end
end Mine
namespace Mine
open PySem PySem.Spec PySem.Calls PyProof.Rows PySem.W
theorem ne_li : (Str.ofString "lineno" == Str.ofString "instream") = false := by decide +kernel
theorem ne_lw : (Str.ofString "lineno" == Str.ofString "whitespace") = false := by decide +kernel
theorem ne_iw : (Str.ofString "instream" == Str.ofString "whitespace") = false := by decide +kernel
theorem ne_lp : (Str.ofString "lineno" == Str.ofString "pushback") = false := by decide +kernel
theorem ne_ip : (Str.ofString "instream" == Str.ofString "pushback") = false := by decide +kernel
theorem ne_wp : (Str.ofString "whitespace" == Str.ofString "pushback") = false := by decide +kernel
section
variable {prog : Program} {w : World} {c : Cx} {n : Nat} {lo : Lo} {led led' : Led} {R : AV → Lo → Led → Prop} {m d sf pb : Addr} {ln ln' : Int}
theorem at_lineno (ok : c.Ok w n) (hm : (m, .inst 118 d) ∈ led) (hd : (d, .dict (ND ln sf pb)) ∈ led) (h : R (.int ln) lo led) : Att prog w c "lineno" (.ref m) R lo led := att_inst ok hm hd (mc_pg _ _) (mc_hd _) (mc_lineno _) nd_lineno rfl h
theorem at_instream (ok : c.Ok w n) (hm : (m, .inst 118 d) ∈ led) (hd : (d, .dict (ND ln sf pb)) ∈ led) (h : R (.ref sf) lo led) : Att prog w c "instream" (.ref m) R lo led := att_inst ok hm hd (mc_pg _ _) (mc_hd _) (mc_instream _) nd_instream rfl h
theorem at_whitespace (ok : c.Ok w n) (hm : (m, .inst 118 d) ∈ led) (hd : (d, .dict (ND ln sf pb)) ∈ led) (h : R (.str (Str.ofString "\n\t\r ")) lo led) : Att prog w c "whitespace" (.ref m) R lo led := att_inst ok hm hd (mc_pg _ _) (mc_hd _) (mc_whitespace _) nd_whitespace rfl h
theorem at_pushback (ok : c.Ok w n) (hm : (m, .inst 118 d) ∈ led) (hd : (d, .dict (ND ln sf pb)) ∈ led) (h : R (.ref pb) lo led) : Att prog w c "pushback" (.ref m) R lo led := att_inst ok hm hd (mc_pg _ _) (mc_hd _) (mc_pushback _) nd_pushback rfl h
theorem at_readchar (ok : c.Ok w n) (hm : (m, .inst 118 d) ∈ led) (hd : (d, .dict (ND ln sf pb)) ∈ led) (h : ∀ q, R (.ref q) lo ((q, .meth 101 m) :: led)) : Att prog w c "_read_char" (.ref m) R lo led :=
  att_bound ok hm hd (mc_pg _ _) (mc_hd _) (mc_read _) (mc_fn101 _) (mc_get101 _) (mc_takes101 _) mc_copied nd_read h
theorem st_lineno (ok : c.Ok w n) {R : Lo → Led → Prop} (hm : (m, .inst 118 d) ∈ led) (u : Up d (.dict (ND ln sf pb)) (.dict (ND ln' sf pb)) led led') (h : R lo led') : Sat prog w c "lineno" (.ref m) (.int ln') R lo led :=
  sat_inst ok hm (by rw [nd_put_lineno]; exact u) (mc_sa _) (mc_po _) (mc_tk_lineno _) (mc_hd _) (by simp) h
section
variable {pl : Sem Bool} {R : AV → List AV → Lo → Led → Prop}
theorem mt_readchar (ok : c.Ok w n) (hm : (m, .inst 118 d) ∈ led) (hd : (d, .dict (ND ln sf pb)) ∈ led) (h : R (er (.ref 101)) [.ref m] lo led) : Met prog w c pl "_read_char" (.ref m) R lo led := met_inst ok hm hd (mc_pg _ _) (mc_read _) (mc_fn101 _) nd_read h
theorem mt_get (ok : c.Ok w n) (hm : (m, .inst 118 d) ∈ led) (hd : (d, .dict (ND ln sf pb)) ∈ led) (h : R (er (.ref 108)) [.ref m] lo led) : Met prog w c pl "get_token" (.ref m) R lo led := met_inst ok hm hd (mc_pg _ _) (mc_get _) (mc_fn108 _) nd_get h
theorem mt_push (ok : c.Ok w n) (hm : (m, .inst 118 d) ∈ led) (hd : (d, .dict (ND ln sf pb)) ∈ led) (h : R (er (.ref 115)) [.ref m] lo led) : Met prog w c pl "push_token" (.ref m) R lo led := met_inst ok hm hd (mc_pg _ _) (mc_push _) (mc_fn115 _) nd_push h
theorem mt_read {rf sd : Addr} {fd : FuncData} (hf : (sf, .fn fd (some sd)) ∈ led) (hs : (sd, .dict [("read", .ref rf)]) ∈ led) (h : R (.ref rf) [] lo led) : Met prog w c pl "read" (.ref sf) R lo led :=
  met_fn hf hs (by rw [List.lookup_cons, show (Str.ofString "read" == Str.ofString "read") = true from by decide +kernel]) fnt_read h
end
theorem st_init1 (ok : c.Ok w n) {R : Lo → Led → Prop} (hm : (m, .inst 118 d) ∈ led) (u : Up d (.dict []) (.dict [("lineno", .int 1)]) led led') (h : R lo led') : Sat prog w c "lineno" (.ref m) (.int 1) R lo led :=
  sat_inst ok hm u (mc_sa _) (mc_po _) (mc_tk_lineno _) (mc_hd _) (by decide) h
theorem st_init2 (ok : c.Ok w n) {R : Lo → Led → Prop} (hm : (m, .inst 118 d) ∈ led) (u : Up d (.dict [("lineno", .int 1)]) (.dict [("lineno", .int 1), ("instream", .ref sf)]) led led') (h : R lo led') : Sat prog w c "instream" (.ref m) (.ref sf) R lo led :=
  sat_inst ok hm (by rw [putA_ne ne_li]; exact u) (mc_sa _) (mc_po _) (mc_tk_instream _) (mc_hd _) (by simp) h
theorem st_init3 (ok : c.Ok w n) {R : Lo → Led → Prop} (hm : (m, .inst 118 d) ∈ led) (u : Up d (.dict [("lineno", .int 1), ("instream", .ref sf)]) (.dict [("lineno", .int 1), ("instream", .ref sf), ("whitespace", .str "\n\t\r ")]) led led') (h : R lo led') : Sat prog w c "whitespace" (.ref m) (.str (Str.ofString "\n\t\r ")) R lo led :=
  sat_inst ok hm (by rw [putA_ne ne_lw, putA_ne ne_iw]; exact u) (mc_sa _) (mc_po _) (mc_tk_whitespace _) (mc_hd _) (by simp) h
theorem st_init4 (ok : c.Ok w n) {R : Lo → Led → Prop} (hm : (m, .inst 118 d) ∈ led) (u : Up d (.dict [("lineno", .int 1), ("instream", .ref sf), ("whitespace", .str "\n\t\r ")]) (.dict (ND 1 sf pb)) led led') (h : R lo led') : Sat prog w c "pushback" (.ref m) (.ref pb) R lo led :=
  sat_inst ok hm (by rw [putA_ne ne_lp, putA_ne ne_ip, putA_ne ne_wp]; exact u) (mc_sa _) (mc_po _) (mc_tk_pushback _) (mc_hd _) (by simp) h
end
end Mine
namespace Mine
open PySem PySem.Spec PySem.Calls PyProof.Rows PySem.W
noncomputable abbrev ns_int2digits_inner : List (Str × NameKind) := [(Str.ofString "x", .local), (Str.ofString "L", .local), (Str.ofString "R", .local), (Str.ofString "mid", .local), (Str.ofString "shift", .local), (Str.ofString "upper", .local), (Str.ofString "lower", .local), (Str.ofString "a_digits", .free), (Str.ofString "inner", .free), (Str.ofString "n", .free)]
theorem nm_int2digits_inner_x : NL ns_int2digits_inner (Str.ofString "x") 0 .local := ⟨by kernel_rfl, by kernel_rfl, by kernel_rfl⟩
theorem nm_int2digits_inner_L : NL ns_int2digits_inner (Str.ofString "L") 1 .local := ⟨by kernel_rfl, by kernel_rfl, by kernel_rfl⟩
theorem nm_int2digits_inner_R : NL ns_int2digits_inner (Str.ofString "R") 2 .local := ⟨by kernel_rfl, by kernel_rfl, by kernel_rfl⟩
theorem nm_int2digits_inner_mid : NL ns_int2digits_inner (Str.ofString "mid") 3 .local := ⟨by kernel_rfl, by kernel_rfl, by kernel_rfl⟩
theorem nm_int2digits_inner_shift : NL ns_int2digits_inner (Str.ofString "shift") 4 .local := ⟨by kernel_rfl, by kernel_rfl, by kernel_rfl⟩
theorem nm_int2digits_inner_upper : NL ns_int2digits_inner (Str.ofString "upper") 5 .local := ⟨by kernel_rfl, by kernel_rfl, by kernel_rfl⟩
theorem nm_int2digits_inner_lower : NL ns_int2digits_inner (Str.ofString "lower") 6 .local := ⟨by kernel_rfl, by kernel_rfl, by kernel_rfl⟩
theorem nm_int2digits_inner_a_digits : NL ns_int2digits_inner (Str.ofString "a_digits") 7 .free := ⟨by kernel_rfl, by kernel_rfl, by kernel_rfl⟩
theorem nm_int2digits_inner_inner : NL ns_int2digits_inner (Str.ofString "inner") 8 .free := ⟨by kernel_rfl, by kernel_rfl, by kernel_rfl⟩
theorem nm_int2digits_inner_n : NL ns_int2digits_inner (Str.ofString "n") 9 .free := ⟨by kernel_rfl, by kernel_rfl, by kernel_rfl⟩
noncomputable abbrev ns_digits2int_inner : List (Str × NameKind) := [(Str.ofString "L", .local), (Str.ofString "R", .local), (Str.ofString "mid", .local), (Str.ofString "shift", .local), (Str.ofString "digits", .free), (Str.ofString "inner", .free), (Str.ofString "n", .free)]
theorem nm_digits2int_inner_L : NL ns_digits2int_inner (Str.ofString "L") 0 .local := ⟨by kernel_rfl, by kernel_rfl, by kernel_rfl⟩
theorem nm_digits2int_inner_R : NL ns_digits2int_inner (Str.ofString "R") 1 .local := ⟨by kernel_rfl, by kernel_rfl, by kernel_rfl⟩
theorem nm_digits2int_inner_mid : NL ns_digits2int_inner (Str.ofString "mid") 2 .local := ⟨by kernel_rfl, by kernel_rfl, by kernel_rfl⟩
theorem nm_digits2int_inner_shift : NL ns_digits2int_inner (Str.ofString "shift") 3 .local := ⟨by kernel_rfl, by kernel_rfl, by kernel_rfl⟩
theorem nm_digits2int_inner_digits : NL ns_digits2int_inner (Str.ofString "digits") 4 .free := ⟨by kernel_rfl, by kernel_rfl, by kernel_rfl⟩
theorem nm_digits2int_inner_inner : NL ns_digits2int_inner (Str.ofString "inner") 5 .free := ⟨by kernel_rfl, by kernel_rfl, by kernel_rfl⟩
theorem nm_digits2int_inner_n : NL ns_digits2int_inner (Str.ofString "n") 6 .free := ⟨by kernel_rfl, by kernel_rfl, by kernel_rfl⟩
noncomputable abbrev ns_l_machine__l_read_on : List (Str × NameKind) := [(Str.ofString "size", .local), (Str.ofString "sign", .local), (Str.ofString "at", .free), (Str.ofString "text", .free), (Str.ofString "len", .globalImplicit)]
theorem nm_l_machine__l_read_on_size : NL ns_l_machine__l_read_on (Str.ofString "size") 0 .local := ⟨by kernel_rfl, by kernel_rfl, by kernel_rfl⟩
theorem nm_l_machine__l_read_on_sign : NL ns_l_machine__l_read_on (Str.ofString "sign") 1 .local := ⟨by kernel_rfl, by kernel_rfl, by kernel_rfl⟩
theorem nm_l_machine__l_read_on_at : NL ns_l_machine__l_read_on (Str.ofString "at") 2 .free := ⟨by kernel_rfl, by kernel_rfl, by kernel_rfl⟩
theorem nm_l_machine__l_read_on_text : NL ns_l_machine__l_read_on (Str.ofString "text") 3 .free := ⟨by kernel_rfl, by kernel_rfl, by kernel_rfl⟩
theorem nm_l_machine__l_read_on_len : NL ns_l_machine__l_read_on (Str.ofString "len") 4 .globalImplicit := ⟨by kernel_rfl, by kernel_rfl, by kernel_rfl⟩
end Mine
namespace Mine
open PySem PySem.Sre PySem.Sre.M
noncomputable abbrev pat1 : Array Nat := #[14, 4, 0, 1, 1, 6, 1, 16, 46, 1]
noncomputable def st1 (t : Array Nat) (s : Nat) (first : Bool) (sn : Seen) : M :=
  { code := pat1, text := t, lim := t.size, start := s, lastStart := t.size, pc := 5, pos := s, handed := s, outermost := first, marks := #[], frames := [{ wait := .nextStart, pc := 5, pos := s, outermost := first }], weight := 1, seen := sn }
noncomputable def lineAt (t : Array Nat) (p : Nat) : Bool := p == 0 || t.getD (p - 1) 0 == 10
theorem st1_no {t : Array Nat} {s : Nat} {first : Bool} {sn : Seen} (h : lineAt t s = false) : ∃ sn', step (st1 t s first sn) = { st1 t s first sn with answer := some false, seen := sn' } := by
  have e : step (st1 t s first sn) = match (.ok (lineAt t s) : Except String Bool) with
    | .error why => { st1 t s first sn with seen := sn.add 6 }.stick why
    | .ok yes => let m := { st1 t s first sn with seen := (sn.add 6).add 44 }; if yes then { m with pc := 7 } else m.say false := rfl
  rw [e, h]
  exact ⟨_, rfl⟩
theorem st1_next {t : Array Nat} {s : Nat} {first : Bool} {sn sn' : Seen} (h : s < t.size) : step { st1 t s first sn with answer := some false, seen := sn' } = st1 t (s + 1) false sn' := by
  have e : step { st1 t s first sn with answer := some false, seen := sn' } = if s < t.size then st1 t (s + 1) false sn' else ({ st1 t s first sn with answer := none, seen := sn', frames := [], weight := 0 } : M).say false := rfl
  rw [e, if_pos h]
theorem st1_stop {t : Array Nat} {s : Nat} {first : Bool} {sn sn' : Seen} (h : ¬ s < t.size) : (step (step { st1 t s first sn with answer := some false, seen := sn' })).outcome = some .failed := by
  have e : step { st1 t s first sn with answer := some false, seen := sn' } = if s < t.size then st1 t (s + 1) false sn' else ({ st1 t s first sn with answer := none, seen := sn', frames := [], weight := 0 } : M).say false := rfl
  rw [e, if_neg h]
  rfl
theorem st1_hit {t : Array Nat} {s : Nat} {first : Bool} {sn : Seen} (h : lineAt t s = true) (hs : s < t.size) (hc : t.getD s 0 = 46) :
    ∃ m', step (step (step (step (step (st1 t s first sn))))) = m' ∧ m'.outcome = some .matched ∧ m'.start = s ∧ m'.handed = s + 1 := by
  have e1 : step (st1 t s first sn) = match (.ok (lineAt t s) : Except String Bool) with
    | .error why => { st1 t s first sn with seen := sn.add 6 }.stick why
    | .ok yes => let m := { st1 t s first sn with seen := (sn.add 6).add 44 }; if yes then { m with pc := 7 } else m.say false := rfl
  rw [e1, h]
  have e2 : step { st1 t s first sn with seen := (sn.add 6).add 44, pc := 7 } = if s ≥ t.size then { st1 t s first sn with seen := ((sn.add 6).add 44).add 16, pc := 7 }.say false else
      match (.ok (t.getD s 0 == 46, ((sn.add 6).add 44).add 16) : Except String (Bool × Seen)) with
      | .error why => { st1 t s first sn with seen := ((sn.add 6).add 44).add 16, pc := 7 }.stick why
      | .ok (false, seen) => { st1 t s first sn with seen, pc := 7 }.say false
      | .ok (true, seen) => { st1 t s first sn with seen, pc := 9, pos := s + 1 } := rfl
  have hb : (t.getD s 0 == 46) = true := by rw [hc]; rfl
  show ∃ m', step (step (step (step { st1 t s first sn with seen := (sn.add 6).add 44, pc := 7 }))) = m' ∧ _
  rw [e2, if_neg (by omega), hb]
  generalize ((sn.add 6).add 44).add 16 = sn2
  cases first <;> exact ⟨_, rfl, rfl, rfl, rfl⟩
noncomputable def stepsN : Nat → M → M
  | 0, m => m
  | n + 1, m => stepsN n m.step
theorem stepsN_add (a b : Nat) (m : M) : stepsN (a + b) m = stepsN b (stepsN a m) := by
  induction a generalizing m with
  | zero => rw [Nat.zero_add]; rfl
  | succ a ih => rw [Nat.succ_add]; exact ih m.step
noncomputable def Finds (m : M) (p q : Nat) : Prop := ∃ k m', k ≤ 100000 ∧ stepsN k m = m' ∧ m'.outcome = some .matched ∧ m'.start = p ∧ m'.handed = q
noncomputable def Fails (m : M) : Prop := ∃ k, k ≤ 100000 ∧ (stepsN k m).outcome = some .failed
theorem st1_run {t : Array Nat} (d : Nat) : ∀ (s : Nat) (first : Bool) (sn : Seen), s + d < t.size → (∀ i, s ≤ i → i < s + d → lineAt t i = false) → ∃ first' sn', stepsN (2 * d) (st1 t s first sn) = st1 t (s + d) first' sn' := by
  induction d with
  | zero => intro s first sn h1 h2; exact ⟨first, sn, rfl⟩
  | succ d ih =>
    intro s first sn h1 h2
    obtain ⟨sn', e⟩ := st1_no (first := first) (sn := sn) (h2 s (Nat.le_refl _) (by omega))
    obtain ⟨f', sn'', e2⟩ := ih (s + 1) false sn' (by omega) (fun i h h' => h2 i (by omega) (by omega))
    refine ⟨f', sn'', ?_⟩
    rw [show 2 * (d + 1) = 2 + 2 * d by omega, stepsN_add]
    show stepsN (2 * d) (step (step (st1 t s first sn))) = _
    rw [e, st1_next (by omega), e2, show s + 1 + d = s + (d + 1) by omega]
theorem st1_finds {t : Array Nat} {s p : Nat} {first : Bool} {sn : Seen} (hsp : s ≤ p) (hp : p < t.size) (hz : t.size ≤ 10000) (hno : ∀ i, s ≤ i → i < p → lineAt t i = false) (h : lineAt t p = true) (hc : t.getD p 0 = 46) : Finds (st1 t s first sn) p (p + 1) := by
  obtain ⟨f', sn', e⟩ := st1_run (p - s) s first sn (by omega) (fun i h1 h2 => hno i h1 (by omega))
  rw [show s + (p - s) = p by omega] at e
  obtain ⟨m', e2, h1, h2, h3⟩ := st1_hit (first := f') (sn := sn') h hp hc
  exact ⟨2 * (p - s) + 5, m', by omega, by rw [stepsN_add, e]; exact e2, h1, h2, h3⟩
theorem st1_fails {t : Array Nat} {s : Nat} {first : Bool} {sn : Seen} (hs : s ≤ t.size) (hz : t.size ≤ 10000) (hno : ∀ i, s ≤ i → i ≤ t.size → lineAt t i = false) : Fails (st1 t s first sn) := by
  have key : ∀ d s first sn, s + d = t.size → (∀ i, s ≤ i → i ≤ t.size → lineAt t i = false) → (stepsN (2 * d + 3) (st1 t s first sn)).outcome = some .failed := by
    intro d
    induction d with
    | zero =>
      intro s first sn h1 h2
      obtain ⟨sn', e⟩ := st1_no (first := first) (sn := sn) (h2 s (Nat.le_refl _) (by omega))
      show (step (step (step (st1 t s first sn)))).outcome = _
      rw [e]; exact st1_stop (by omega)
    | succ d ih =>
      intro s first sn h1 h2
      obtain ⟨sn', e⟩ := st1_no (first := first) (sn := sn) (h2 s (Nat.le_refl _) (by omega))
      rw [show 2 * (d + 1) + 3 = 2 + (2 * d + 3) by omega, stepsN_add]
      show (stepsN (2 * d + 3) (step (step (st1 t s first sn)))).outcome = _
      rw [e, st1_next (by omega)]
      exact ih (s + 1) false sn' (by omega) (fun i h h' => h2 i (by omega) h')
  exact ⟨2 * (t.size - s) + 3, by omega, key (t.size - s) s first sn (by omega) hno⟩
theorem search1 {t : Array Nat} {s : Nat} (hs : s < t.size) : forSearch pat1 t 0 s t.size false = st1 t s true (({} : Seen).add 14) := by
  refine Eq.trans (if_neg (c := (decide (s > t.size) || decide (t.size - s < 1)) = true) ?_) ?_
  · simp; omega
  · rfl
theorem search1_end {t : Array Nat} {s : Nat} (hs : t.size ≤ s) : Fails (forSearch pat1 t 0 s t.size false) := by
  refine ⟨1, by omega, ?_⟩
  have e : forSearch pat1 t 0 s t.size false = _ := if_pos (c := (decide (s > t.size) || decide (t.size - s < 1)) = true) (by simp; omega)
  rw [e]
  rfl
end Mine
namespace Mine
open PySem PySem.Sre PySem.Sre.M
noncomputable abbrev pat2 : Array Nat := #[14, 9, 4, 1, 2, 16, 10, 16, 13, 0, 7, 7, 16, 13, 16, 10, 15, 18, 5, 16, 10, 15, 13, 11, 16, 13, 5, 5, 0, 16, 10, 1, 15, 2, 0, 1]
noncomputable def Z (t : Array Nat) (p pc pos hd : Nat) (om : Bool) (fr : List Sre.Frame) (wt : Nat) (sn : Seen) (ans : Option Bool) : M :=
  { code := pat2, text := t, lim := t.size, start := p, lastStart := t.size, pc := pc, pos := pos, handed := hd, outermost := om, marks := #[], frames := fr, weight := wt, seen := sn, answer := ans }
noncomputable def F0 (p : Nat) : Sre.Frame := { wait := .nextStart, pc := 10, pos := p, outermost := true }
noncomputable def FB (p pc : Nat) : Sre.Frame := { wait := .nextBranch, pc := pc, pos := p, outermost := true, kept := { lastmark := -1, lastindex := -1, whole := false, marks := #[] } }
noncomputable def FL (pos : Nat) : Sre.Frame := { wait := .lookNot, pc := 26, pos := pos, outermost := true, kept := { lastmark := -1, lastindex := -1, whole := false, marks := #[] } }
section
variable {t : Array Nat} {p pos hd wt : Nat} {om : Bool} {fr : List Sre.Frame} {sn : Seen}
theorem z_lit12 : step (Z t p 12 pos hd om fr wt sn none) = if pos ≥ t.size then Z t p 12 pos hd om fr wt (sn.add 16) (some false) else
    match (.ok (t.getD pos 0 == 13, sn.add 16) : Except String (Bool × Seen)) with
    | .error why => (Z t p 12 pos hd om fr wt (sn.add 16) none).stick why
    | .ok (false, seen) => Z t p 12 pos hd om fr wt seen (some false)
    | .ok (true, seen) => Z t p 14 (pos + 1) hd om fr wt seen none := rfl
theorem z_yes12 (hp : pos < t.size) (hc : t.getD pos 0 = 13) : step (Z t p 12 pos hd om fr wt sn none) = Z t p 14 (pos + 1) hd om fr wt (sn.add 16) none := by
  rw [z_lit12, if_neg (by omega), show (t.getD pos 0 == 13) = true by rw [hc]; rfl]
theorem z_no12 (hc : t.getD pos 0 ≠ 13) : step (Z t p 12 pos hd om fr wt sn none) = Z t p 12 pos hd om fr wt (sn.add 16) (some false) := by
  rw [z_lit12, show (t.getD pos 0 == 13) = false from beq_eq_false_iff_ne.mpr hc]
  split <;> rfl
theorem z_lit14 : step (Z t p 14 pos hd om fr wt sn none) = if pos ≥ t.size then Z t p 14 pos hd om fr wt (sn.add 16) (some false) else
    match (.ok (t.getD pos 0 == 10, sn.add 16) : Except String (Bool × Seen)) with
    | .error why => (Z t p 14 pos hd om fr wt (sn.add 16) none).stick why
    | .ok (false, seen) => Z t p 14 pos hd om fr wt seen (some false)
    | .ok (true, seen) => Z t p 16 (pos + 1) hd om fr wt seen none := rfl
theorem z_yes14 (hp : pos < t.size) (hc : t.getD pos 0 = 10) : step (Z t p 14 pos hd om fr wt sn none) = Z t p 16 (pos + 1) hd om fr wt (sn.add 16) none := by
  rw [z_lit14, if_neg (by omega), show (t.getD pos 0 == 10) = true by rw [hc]; rfl]
theorem z_no14 (hc : t.getD pos 0 ≠ 10) : step (Z t p 14 pos hd om fr wt sn none) = Z t p 14 pos hd om fr wt (sn.add 16) (some false) := by
  rw [z_lit14, show (t.getD pos 0 == 10) = false from beq_eq_false_iff_ne.mpr hc]
  split <;> rfl
theorem z_lit19 : step (Z t p 19 pos hd om fr wt sn none) = if pos ≥ t.size then Z t p 19 pos hd om fr wt (sn.add 16) (some false) else
    match (.ok (t.getD pos 0 == 10, sn.add 16) : Except String (Bool × Seen)) with
    | .error why => (Z t p 19 pos hd om fr wt (sn.add 16) none).stick why
    | .ok (false, seen) => Z t p 19 pos hd om fr wt seen (some false)
    | .ok (true, seen) => Z t p 21 (pos + 1) hd om fr wt seen none := rfl
theorem z_yes19 (hp : pos < t.size) (hc : t.getD pos 0 = 10) : step (Z t p 19 pos hd om fr wt sn none) = Z t p 21 (pos + 1) hd om fr wt (sn.add 16) none := by
  rw [z_lit19, if_neg (by omega), show (t.getD pos 0 == 10) = true by rw [hc]; rfl]
theorem z_no19 (hc : t.getD pos 0 ≠ 10) : step (Z t p 19 pos hd om fr wt sn none) = Z t p 19 pos hd om fr wt (sn.add 16) (some false) := by
  rw [z_lit19, show (t.getD pos 0 == 10) = false from beq_eq_false_iff_ne.mpr hc]
  split <;> rfl
theorem z_lit24 : step (Z t p 24 pos hd om fr wt sn none) = if pos ≥ t.size then Z t p 24 pos hd om fr wt (sn.add 16) (some false) else
    match (.ok (t.getD pos 0 == 13, sn.add 16) : Except String (Bool × Seen)) with
    | .error why => (Z t p 24 pos hd om fr wt (sn.add 16) none).stick why
    | .ok (false, seen) => Z t p 24 pos hd om fr wt seen (some false)
    | .ok (true, seen) => Z t p 26 (pos + 1) hd om fr wt seen none := rfl
theorem z_yes24 (hp : pos < t.size) (hc : t.getD pos 0 = 13) : step (Z t p 24 pos hd om fr wt sn none) = Z t p 26 (pos + 1) hd om fr wt (sn.add 16) none := by
  rw [z_lit24, if_neg (by omega), show (t.getD pos 0 == 13) = true by rw [hc]; rfl]
theorem z_lit29 : step (Z t p 29 pos hd om fr wt sn none) = if pos ≥ t.size then Z t p 29 pos hd om fr wt (sn.add 16) (some false) else
    match (.ok (t.getD pos 0 == 10, sn.add 16) : Except String (Bool × Seen)) with
    | .error why => (Z t p 29 pos hd om fr wt (sn.add 16) none).stick why
    | .ok (false, seen) => Z t p 29 pos hd om fr wt seen (some false)
    | .ok (true, seen) => Z t p 31 (pos + 1) hd om fr wt seen none := rfl
theorem z_no29 (hc : t.getD pos 0 ≠ 10) : step (Z t p 29 pos hd om fr wt sn none) = Z t p 29 pos hd om fr wt (sn.add 16) (some false) := by
  rw [z_lit29, show (t.getD pos 0 == 10) = false from beq_eq_false_iff_ne.mpr hc]
  split <;> rfl
theorem z10 : step (Z t p 10 p hd true [F0 p] 1 sn none) = Z t p 12 p p true [FB p 11, F0 p] 2 (sn.add 7) none := rfl
theorem z_alt2 : step (Z t p 12 pos hd om [FB p 11, F0 p] 2 sn (some false)) = Z t p 19 p p true [FB p 18, F0 p] 2 sn none := rfl
theorem z_alt2' : step (Z t p 14 pos hd om [FB p 11, F0 p] 2 sn (some false)) = Z t p 19 p p true [FB p 18, F0 p] 2 sn none := rfl
theorem z_alt3 : step (Z t p 19 pos hd om [FB p 18, F0 p] 2 sn (some false)) = Z t p 24 p p true [FB p 23, F0 p] 2 sn none := rfl
theorem z26 : step (Z t p 26 pos hd true [FB p 23, F0 p] 2 sn none) = Z t p 29 pos pos false [FL pos, FB p 23, F0 p] 3 (sn.add 5) none := rfl
theorem z_look {pos' : Nat} : step (Z t p 29 pos' hd om [FL pos, FB p 23, F0 p] 3 sn (some false)) = Z t p 32 pos hd true [FB p 23, F0 p] 2 sn none := rfl
theorem z_jump16 : step (Z t p 16 pos hd om fr wt sn none) = Z t p 35 pos hd om fr wt (sn.add 15) none := rfl
theorem z_jump21 : step (Z t p 21 pos hd om fr wt sn none) = Z t p 35 pos hd om fr wt (sn.add 15) none := rfl
theorem z_jump32 : step (Z t p 32 pos hd om fr wt sn none) = Z t p 35 pos hd om fr wt (sn.add 15) none := rfl
theorem z_end {k : Nat} : ∃ m', step (step (step (step (Z t p 35 pos hd true [FB p k, F0 p] 2 sn none)))) = m' ∧ m'.outcome = some .matched ∧ m'.start = p ∧ m'.handed = pos := ⟨_, rfl, rfl, rfl, rfl⟩
theorem z_lf (hp : p < t.size) (hc : t.getD p 0 = 10) : Finds (Z t p 10 p hd true [F0 p] 1 sn none) p (p + 1) := by
  obtain ⟨m', e, h⟩ := z_end (t := t) (p := p) (pos := p + 1) (hd := p) (k := 18) (sn := (((sn.add 7).add 16).add 16).add 15)
  refine ⟨9, m', by omega, ?_, h⟩
  show step (step (step (step (step (step (step (step (step _)))))))) = m'
  rw [z10, z_no12 (by omega), z_alt2, z_yes19 hp hc, z_jump21]
  exact e
theorem z_crlf (hp : p + 1 < t.size) (hc : t.getD p 0 = 13) (hc' : t.getD (p + 1) 0 = 10) : Finds (Z t p 10 p hd true [F0 p] 1 sn none) p (p + 2) := by
  obtain ⟨m', e, h⟩ := z_end (t := t) (p := p) (pos := p + 2) (hd := p) (k := 11) (sn := (((sn.add 7).add 16).add 16).add 15)
  refine ⟨8, m', by omega, ?_, h⟩
  show step (step (step (step (step (step (step (step _))))))) = m'
  rw [z10, z_yes12 (by omega) hc, z_yes14 hp hc', z_jump16]
  exact e
theorem z_cr (hp : p < t.size) (hc : t.getD p 0 = 13) (hc' : t.getD (p + 1) 0 ≠ 10) : Finds (Z t p 10 p hd true [F0 p] 1 sn none) p (p + 1) := by
  obtain ⟨m', e, h⟩ := z_end (t := t) (p := p) (pos := p + 1) (hd := p + 1) (k := 23) (sn := (((((((sn.add 7).add 16).add 16).add 16).add 16).add 5).add 16).add 15)
  refine ⟨15, m', by omega, ?_, h⟩
  show step (step (step (step (step (step (step (step (step (step (step (step (step (step (step _)))))))))))))) = m'
  rw [z10, z_yes12 hp hc, z_no14 hc', z_alt2', z_no19 (by omega), z_alt3, z_yes24 hp hc, z26, z_no29 hc', z_look, z_jump32]
  exact e
theorem in_set (c : Nat) : inSet pat2 c 36 5 true sn = if (c == 10) = true then .ok (true, sn.add 16) else if (c == 13) = true then .ok (true, (sn.add 16).add 16) else .ok (false, ((sn.add 16).add 16).add 0) := rfl
theorem adm_hit {m : M} (hm : m.code = pat2) (ht : m.text = t) (hl : m.lim = t.size) (d : Nat) : ∀ (s f : Nat) (sn : Seen), d < f → s + d < t.size → (∀ i, s ≤ i → i < s + d → t.getD i 0 = 46) → (t.getD (s + d) 0 = 10 ∨ t.getD (s + d) 0 = 13) → ∃ sn', admitted m f s sn = .ok (some (s + d), sn') := by
  induction d with
  | zero =>
    intro s f sn hf hs _ hc
    match f, hf with
    | f + 1, _ =>
    unfold admitted
    rw [hl, if_neg (by omega), hm, ht]
    rw [show (pat2.size) = 36 from rfl, in_set]
    rcases hc with hc | hc
    · rw [Nat.add_zero] at hc; rw [hc]; exact ⟨_, rfl⟩
    · rw [Nat.add_zero] at hc; rw [hc]; exact ⟨_, rfl⟩
  | succ d ih =>
    intro s f sn hf hs hno hc
    match f, hf with
    | f + 1, hf =>
    unfold admitted
    rw [hl, if_neg (by omega), hm, ht]
    rw [show (pat2.size) = 36 from rfl, in_set, hno s (by omega) (by omega)]
    obtain ⟨sn', e⟩ := ih (s + 1) f (((sn.add 16).add 16).add 0) (by omega) (by omega) (fun i h h' => hno i (by omega) (by omega)) (by rw [show s + 1 + d = s + (d + 1) by omega]; exact hc)
    exact ⟨sn', by rw [show s + (d + 1) = s + 1 + d by omega]; exact e⟩
theorem adm_none {m : M} (hm : m.code = pat2) (ht : m.text = t) (hl : m.lim = t.size) (f : Nat) : ∀ (s : Nat) (sn : Seen), (∀ i, s ≤ i → i < t.size → t.getD i 0 = 46) → ∃ sn', admitted m f s sn = .ok (none, sn') := by
  induction f with
  | zero => intro s sn _; exact ⟨sn, rfl⟩
  | succ f ih =>
    intro s sn hno
    unfold admitted
    rw [hl]
    by_cases h : s ≥ t.size
    · rw [if_pos h]; exact ⟨_, rfl⟩
    · rw [if_neg h, hm, ht, show (pat2.size) = 36 from rfl, in_set, hno s (by omega) (by omega)]
      exact ih (s + 1) _ fun i h1 h2 => hno i (by omega) h2
theorem search2 {s : Nat} (hsp : s ≤ p) (hp : p < t.size) (hno : ∀ i, s ≤ i → i < p → t.getD i 0 = 46) (hc : t.getD p 0 = 10 ∨ t.getD p 0 = 13) : ∃ sn, forSearch pat2 t 0 s t.size false = Z t p 10 p p true [F0 p] 1 sn none := by
  obtain ⟨sn', e⟩ := adm_hit (t := t) (m := Z t s 10 s s true [] 0 (({} : Seen).add 14) none) rfl rfl rfl (p - s) s (t.size + 1 - s) (({} : Seen).add 14) (by omega) (by omega) (fun i h h' => hno i h (by omega)) (by rw [show s + (p - s) = p by omega]; exact hc)
  rw [show s + (p - s) = p by omega] at e
  refine ⟨sn', ?_⟩
  refine Eq.trans (if_neg (c := (decide (s > t.size) || decide (t.size - s < 1)) = true) ?_) ?_
  · simp; omega
  · show (match admitted (Z t s 10 s s true [] 0 (({} : Seen).add 14) none) (t.size + 1 - s) s (({} : Seen).add 14) with
      | .ok (some s', seen) => ({ Z t s 10 s s true [] 0 (({} : Seen).add 14) none with mustAdvance := false, seen } : M).attemptAt s' true
      | .ok (none, seen) => ({ Z t s 10 s s true [] 0 (({} : Seen).add 14) none with seen } : M).say false
      | .error why => (Z t s 10 s s true [] 0 (({} : Seen).add 14) none).stick why) = _
    rw [e]
    rfl
theorem search2_none {s : Nat} (hno : ∀ i, s ≤ i → i < t.size → t.getD i 0 = 46) : Fails (forSearch pat2 t 0 s t.size false) := by
  refine ⟨1, by omega, ?_⟩
  by_cases h : t.size ≤ s
  · have e : forSearch pat2 t 0 s t.size false = _ := if_pos (c := (decide (s > t.size) || decide (t.size - s < 1)) = true) (by simp; omega)
    rw [e]
    rfl
  · obtain ⟨sn', e'⟩ := adm_none (t := t) (m := Z t s 10 s s true [] 0 (({} : Seen).add 14) none) rfl rfl rfl (t.size + 1 - s) s (({} : Seen).add 14) hno
    have e : forSearch pat2 t 0 s t.size false = ({ Z t s 10 s s true [] 0 (({} : Seen).add 14) none with seen := sn' } : M).say false := by
      refine Eq.trans (if_neg (c := (decide (s > t.size) || decide (t.size - s < 1)) = true) ?_) ?_
      · simp; omega
      · show (match admitted (Z t s 10 s s true [] 0 (({} : Seen).add 14) none) (t.size + 1 - s) s (({} : Seen).add 14) with
          | .ok (some s', seen) => ({ Z t s 10 s s true [] 0 (({} : Seen).add 14) none with mustAdvance := false, seen } : M).attemptAt s' true
          | .ok (none, seen) => ({ Z t s 10 s s true [] 0 (({} : Seen).add 14) none with seen } : M).say false
          | .error why => (Z t s 10 s s true [] 0 (({} : Seen).add 14) none).stick why) = _
        rw [e']
    rw [e]
    rfl
theorem search2_lf {s : Nat} (hsp : s ≤ p) (hp : p < t.size) (hno : ∀ i, s ≤ i → i < p → t.getD i 0 = 46) (hc : t.getD p 0 = 10) : Finds (forSearch pat2 t 0 s t.size false) p (p + 1) := by
  obtain ⟨sn, e⟩ := search2 hsp hp hno (.inl hc); rw [e]; exact z_lf hp hc
theorem search2_cr {s : Nat} (hsp : s ≤ p) (hp : p < t.size) (hno : ∀ i, s ≤ i → i < p → t.getD i 0 = 46) (hc : t.getD p 0 = 13) (hc' : t.getD (p + 1) 0 ≠ 10) : Finds (forSearch pat2 t 0 s t.size false) p (p + 1) := by
  obtain ⟨sn, e⟩ := search2 hsp hp hno (.inr hc); rw [e]; exact z_cr hp hc hc'
theorem search2_crlf {s : Nat} (hsp : s ≤ p) (hp : p + 1 < t.size) (hno : ∀ i, s ≤ i → i < p → t.getD i 0 = 46) (hc : t.getD p 0 = 13) (hc' : t.getD (p + 1) 0 = 10) : Finds (forSearch pat2 t 0 s t.size false) p (p + 2) := by
  obtain ⟨sn, e⟩ := search2 hsp (by omega) hno (.inr hc); rw [e]; exact z_crlf hp hc hc'
end
end Mine
namespace Mine
open PySem PySem.Spec PySem.Calls PyProof.Rows PySem.W PySem.Builtin PySem.Builtin.Re
section
variable {M : Model} {A : Around} {E : Value → Shared → Prop} {s : Shared}
theorem run4 : ∀ (n : Nat) (m : Sre.M), m.runFor n = stepsN n m
  | 0, _ => rfl
  | n + 1, m => by
    show (if m.outcome.isSome = true then m else Sre.M.runFor n m.step) = stepsN n m.step
    split
    · rename_i h
      have e : m.step = m := by unfold Sre.M.step; rw [if_pos h]
      rw [e]
      have : ∀ k, stepsN k m = m := by
        intro k
        induction k with
        | zero => rfl
        | succ k ih => show stepsN k m.step = m; rw [e]; exact ih
      exact (this n).symm
    · exact run4 n m.step
theorem steps_stay (m : Sre.M) (h : m.outcome.isSome = true) (k : Nat) : stepsN k m = m := by
  have e : m.step = m := by unfold Sre.M.step; rw [if_pos h]
  induction k with
  | zero => rfl
  | succ k ih => show stepsN k m.step = m; rw [e]; exact ih
theorem wp_drive {m' : Sre.M} (ho : m'.outcome.isSome = true) {Q : Sre.M → Shared → Prop} (hQ : Q m' s) : ∀ (T k : Nat) (m : Sre.M), k ≤ 4 * T → stepsN k m = m' → wpAny M A (reDrive (T + 1) m) Q E s
  | T, k, m, hk, e => by
    show wpAny M A (if (m.runFor 4).outcome.isSome = true then pure (m.runFor 4) else rule "sre.turn" >>= fun _ => reDrive T (m.runFor 4)) Q E s
    by_cases h4 : k ≤ 4
    · have e4 : m.runFor 4 = m' := by
        rw [run4, show 4 = k + (4 - k) by omega, stepsN_add, e]
        exact steps_stay m' ho _
      rw [e4, if_pos ho]
      exact wpAny_pure hQ
    · split
      · rename_i hh
        have e4 : m.runFor 4 = m' := by
          have e' := e
          rw [show k = 4 + (k - 4) by omega, stepsN_add, ← run4 4 m, steps_stay _ hh] at e'
          exact e'
        rw [e4]
        exact wpAny_pure hQ
      · match T, hk with
        | 0, hk => omega
        | T + 1, hk =>
        refine wpAny_bind (wpAny_rule ?_)
        exact wp_drive ho hQ T (k - 4) (m.runFor 4) (by omega) (by rw [run4, ← stepsN_add, show 4 + (k - 4) = k by omega]; exact e)
theorem wp_rules {c : Nat → Bool} {f : Nat → String} {Q : PUnit → Shared → Prop} (hQ : Q PUnit.unit s) : ∀ l : List Nat, wpAny M A (forIn l PUnit.unit fun i r => do
    if c i = true then do
      rule (f i)
      pure (ForInStep.yield PUnit.unit)
    else pure (ForInStep.yield PUnit.unit)) Q E s
  | [] => wpAny_pure hQ
  | i :: l => by
    rw [List.forIn_cons]
    refine wpAny_bind ?_
    split
    · refine wpAny_bind (wpAny_rule (wpAny_pure ?_))
      exact wp_rules hQ l
    · exact wpAny_pure (wp_rules hQ l)
theorem wp_found {m : Sre.M} {p q : Nat} (h : Finds m p q) {Q : Option Sre.M → Shared → Prop} (hQ : ∀ m', m'.start = p → m'.handed = q → Q (some m') s) : wpAny M A (reRunToEnd m) Q E s := by
  obtain ⟨k, m', hk, e, ho, h1, h2⟩ := h
  unfold reRunToEnd
  refine wpAny_bind ?_
  rw [show 2 ^ 64 = (2 ^ 64 - 1) + 1 from rfl]
  refine wp_drive (m' := m') (by rw [ho]; rfl) ?_ _ k m (by omega) e
  refine wpAny_bind (wp_rules ?_ _)
  rw [ho]
  exact wpAny_pure (hQ m' h1 h2)
theorem wp_unfound {m : Sre.M} (h : Fails m) {Q : Option Sre.M → Shared → Prop} (hQ : Q none s) : wpAny M A (reRunToEnd m) Q E s := by
  obtain ⟨k, hk, ho⟩ := h
  unfold reRunToEnd
  refine wpAny_bind ?_
  rw [show 2 ^ 64 = (2 ^ 64 - 1) + 1 from rfl]
  refine wp_drive (m' := stepsN k m) (by rw [ho]; rfl) ?_ _ k m (by omega) rfl
  refine wpAny_bind (wp_rules ?_ _)
  rw [ho]
  exact wpAny_pure hQ
theorem text_bytes {b : Array UInt8} {t : Tok} : reTextOf (.bytes b t) = pure (b.map (·.toNat), 1) := by
  unfold reTextOf
  show (asStr? (.bytes b t) >>= _) = _
  rw [show asStr? (.bytes b t) = pure none from rfl]
  simp only [pure_bind]
  rw [KBy.quiet_eq]
  rfl
end
end Mine
namespace Mine
open PySem PySem.Spec PySem.Calls PyProof.Rows PySem.W PySem.Builtin PySem.Builtin.Re
noncomputable def PatAt (h : Heap) (pa : Addr) (code : Array Nat) (kind : Nat) : Prop :=
  ∃ (po : Obj) (vs : Array Value) (ca : Addr) (co : Obj) (cvs : Array Value) (n : Nat), h.get? pa = some po ∧ po.data = .fields vs ∧ reRawNat (vs.getD 2 .none) = 0 ∧ vs.getD 5 .none = .ref ca ∧ reRawNat (vs.getD 6 .none) = kind ∧
    h.get? ca = some co ∧ co.data = .seq cvs n ∧ (cvs.map reRawOf).map (·.toNat) = code ∧ po.cls = .type "re.Pattern" ∧ po.dict = none
structure Kd (rv tv : Value) (t : Array Nat) (kind : Nat) (sl : Nat → Nat → AV) : Prop where
  text : reTextOf tv = pure (t, kind)
  lit : reLiteralCannotBeTurned rv = pure ()
  none : (rv != Value.none) = true
  coll : reNoCollectionInside tv kind = pure ()
  k01 : kind = 0 ∨ kind = 1
  slice : ∀ {M : Model} {A : Around} {E : Value → Shared → Prop} {s : Shared} (b e : Nat) {Q : Value → Shared → Prop}, (∀ v tk, er v = sl b e → Q v { s with toks := tk }) → wpAny M A (reSlice t kind b e) Q E s
section
variable {prog : Program} {w : World} {c : Cx} {A : Around} {lo : Lo} {led : Led} {s : Shared} {E : Value → Shared → Prop}
theorem wp_target {pa : Addr} {code : Array Nat} {kind : Nat} {rv tv : Value} {t : Array Nat} {sl : Nat → Nat → AV} (kd : Kd rv tv t kind sl) (hp : PatAt s.heap pa code kind) {Q : ReTarget → Shared → Prop}
    (hQ : Q { pattern := .ref pa, string := tv, code := code, text := t, kind := kind, groups := 0, pos := 0, lim := t.size } s) : wpAny (model prog w) A (reWholeTarget (.ref pa) tv) Q E s := by
  obtain ⟨po, vs, ca, co, cvs, n, h1, h2, h3, h4, h5, h6, h7, h8, h9⟩ := hp
  unfold reWholeTarget
  refine wpAny_bind (wpAny_fieldsOf h1 h2 ?_)
  rw [kd.text, h5]
  simp only [pure_bind]
  have k1 : (kind == 0 && kind == 1) = false := by rcases kd.k01 with e | e <;> rw [e] <;> rfl
  have k2 : (kind == 1 && kind == 0) = false := by rcases kd.k01 with e | e <;> rw [e] <;> rfl
  rw [k1, k2]
  simp only [Bool.false_eq_true, if_false, kd.coll, pure_bind]
  rw [h4]
  unfold reRawItems
  simp only [bind_assoc]
  refine wpAny_bind (wpAny_seqItems h6 h7 ?_)
  simp only [pure_bind, Option.getD_some]
  refine wpAny_pure ?_
  rw [h8, h3]
  exact hQ
theorem seq_grow (us : List Value) (v : Value) (m : Nat) : ∃ n', Obj.mapSeq (fun x => x.push v) { cls := .type "list", data := .seq us.toArray m } = { cls := .type "list", data := .seq (us ++ [v]).toArray n' } := by
  rw [show (us ++ [v]).toArray = us.toArray.push v by simp]
  exact ⟨_, rfl⟩
theorem wp_pushSeq {P : Addr} {avs : List AV} {rest : Led} {v : Value} {Q : Unit → Shared → Prop} (rep : Rep w c lo ((P, .list avs) :: rest) s.heap) (hz : avs.length ≤ 100000)
    (h : ∀ h', Rep w c lo ((P, .list (avs ++ [er v])) :: rest) h' → (∀ b, b ≠ P → ∀ x, s.heap.get? b = some x → h'.get? b = some x) → Q () { s with heap := h' }) : wpAny (model prog w) A (updateSeq P (·.push v)) Q E s := by
  obtain ⟨_, _, o, ho, us, m, rfl, rfl⟩ := rep.own _ (.head _)
  simp only [List.length_map] at hz
  have hs : Heap.SameBut P s.heap (s.heap.update P (Obj.mapSeq (·.push v))) := Heap.SameBut.update ..
  obtain ⟨n', eg⟩ := seq_grow us v m
  refine wpAny_updateSeq ho rfl (h _ ?_ ?_) ?_ ?_
  · exact rep.up .head (fun b hb x e => (hs.2 b hb).trans e) (Heap.get?_update_self _ ho rfl) ⟨us ++ [v], n', eg, by simp⟩
  · exact fun b hb x e => (hs.2 b hb).trans e
  · rw [List.size_toArray]; exact Nat.le_trans hz (by decide)
  · rw [Array.size_push, List.size_toArray]; exact Nat.le_trans (Nat.succ_le_succ hz) (by decide)
inductive Subs (code t : Array Nat) : Nat → List (Nat × Nat) → Prop
  | nil {start : Nat} : start ≤ t.size → Fails (Sre.forSearch code t 0 start t.size false) → Subs code t start []
  | cons {start p q : Nat} {rest : List (Nat × Nat)} : Finds (Sre.forSearch code t 0 start t.size false) p q → start ≤ p → p < q → Subs code t q rest → Subs code t start ((p, q) :: rest)
noncomputable def pieces (size : Nat) (sl : Nat → Nat → AV) (rp : AV) : Nat → List (Nat × Nat) → List AV
  | start, [] => if start < size then [sl start size] else []
  | start, (p, q) :: rest => (if start < p then [sl start p] else []) ++ rp :: pieces size sl rp q rest
theorem entry_loop : entryFor table "re.Pattern.sub.loop" = some «re.Pattern.sub.loop» := entryFor_of_tree (by kernel_rfl)
theorem quiet_loop {x : PySem.Args} : (Code.builtin "re.Pattern.sub.loop" x).quiet = true := by
  show Code.quiet _ = true
  kernel_rfl
theorem PatAt.keeps {h h' : Heap} {pa : Addr} {code : Array Nat} {kind : Nat} (hp : PatAt h pa code kind) (k : ∀ b o, h.get? b = some o → h'.get? b = some o) : PatAt h' pa code kind := by
  obtain ⟨po, vs, ca, co, cvs, n, h1, h2, h3, h4, h5, h6, h7, h8, h9⟩ := hp
  exact ⟨po, vs, ca, co, cvs, n, k _ _ h1, h2, h3, h4, h5, k _ _ h6, h7, h8, h9⟩
theorem iteW {α : Type} {M : Model} {p : Prop} [Decidable p] {a b : Sem α} {Q : α → Shared → Prop} (h1 : p → wpAny M A a Q E s) (h2 : ¬ p → wpAny M A b Q E s) : wpAny M A (if p then a else b) Q E s := by
  split
  · exact h1 ‹_›
  · exact h2 ‹_›
theorem plain_loop : plainId "re.Pattern.sub.loop" = true := by decide +kernel
theorem loop_code {pa P : Addr} {code : Array Nat} {kind : Nat} {rv tv : Value} {t : Array Nat} {sl : Nat → Nat → AV} {rest : Led} {Rc : Result → Shared → Prop} (kd : Kd rv tv t kind sl) (hp : PatAt c.base pa code kind) (hrv : ∀ a, rv ≠ .ref a) :
    ∀ (ms : List (Nat × Nat)) (start : Nat) (avs : List AV) (n : Int) (s : Shared), Subs code t start ms → Rep w c lo ((P, .list avs) :: rest) s.heap → avs.length + 2 * ms.length + 1 ≤ 100000 →
      (∀ h' tk v, Rep w c lo ((P, .list (avs ++ pieces t.size sl (er rv) start ms)) :: rest) h' → er v = sl 0 0 →
        wpAny (model prog w) A.in1 (call (.builtin (if kind == 0 then "str.join" else "bytes.join")) [v, .ref P]) (fun r s' => Rc (.ok (.ret r)) s') (fun e s' => Rc (.error e) s') { s with heap := h', toks := tk }) →
      avs ++ pieces t.size sl (er rv) start ms ≠ [] →
      codeAny (model prog w) A (.builtin "re.Pattern.sub.loop" ⟨[.ref pa, tv, rv, rawInt 0, rawInt 0, rawInt n, rawInt start, rawInt start, .bool false, .ref P, .bool false], []⟩) Rc s := by
  intro ms
  induction ms with
  | nil =>
    intro start avs n s hs rep hz fin hne
    cases hs with
    | nil hst hf =>
    refine codeAny_builtin entry_loop ?_
    rw [Around.under_plainId plain_loop _]
    show wpAny _ A.in1 (reWholeTarget (.ref pa) tv >>= _) _ _ s
    refine wpAny_bind (wp_target kd (hp.keeps rep.keep) ?_)
    show wpAny _ A.in1 (reLiteralCannotBeTurned rv >>= _) _ _ s
    rw [kd.lit, pure_bind]
    show wpAny _ A.in1 (reNextFound _ start false >>= _) _ _ s
    refine wpAny_bind (wp_unfound hf ?_)
    refine iteW (fun hlt => ?_) (fun hlt => ?_)
    · rw [Int.toNat_natCast] at hlt
      have hlt' : start < t.size := hlt
      have ep : pieces t.size sl (er rv) start [] = [sl start t.size] := if_pos hlt'
      rw [ep] at fin hne
      refine wpAny_bind (kd.slice _ _ fun v tk hv => ?_)
      refine wpAny_bind (wp_pushSeq (s := { s with toks := tk }) rep (by omega) fun h' rep' _ => ?_)
      rw [hv, Int.toNat_natCast] at rep'
      refine wpAny_bind (kd.slice 0 0 fun j tk hj => ?_)
      obtain ⟨_, _, o, ho, us, m, rfl, eus⟩ := rep'.own _ (.head _)
      refine wpAny_bind (wpAny_seqItems ho rfl ?_)
      refine iteW (fun hh => ?_) (fun _ => ?_)
      · exfalso
        have : us = [] := by simpa using hh
        rw [this] at eus
        exact hne eus.symm
      · refine wpAny_bind (wpAny_mono (fin _ tk j rep' hj) ?_ ?_)
        · intro r s' h; exact wpAny_pure h
        · intro e s' h; exact h
    · rw [Int.toNat_natCast] at hlt
      have ep : pieces t.size sl (er rv) start [] = [] := if_neg hlt
      rw [ep, List.append_nil] at fin hne
      refine wpAny_bind (kd.slice 0 0 fun j tk hj => ?_)
      obtain ⟨_, _, o, ho, us, m, rfl, eus⟩ := rep.own _ (.head _)
      refine wpAny_bind (wpAny_seqItems ho rfl ?_)
      refine iteW (fun hh => ?_) (fun _ => ?_)
      · exfalso
        have : us = [] := by simpa using hh
        rw [this] at eus
        exact hne eus.symm
      · refine wpAny_bind (wpAny_mono (fin _ tk j rep hj) ?_ ?_)
        · intro r s' h; exact wpAny_pure h
        · intro e s' h; exact h
  | cons m ms ih =>
    obtain ⟨p, q⟩ := m
    intro start avs n s hs rep hz fin hne
    cases hs with
    | cons hf hsp hpq hrest =>
    refine codeAny_builtin entry_loop ?_
    rw [Around.under_plainId plain_loop _]
    show wpAny _ A.in1 (reWholeTarget (.ref pa) tv >>= _) _ _ s
    refine wpAny_bind (wp_target kd (hp.keeps rep.keep) ?_)
    show wpAny _ A.in1 (reLiteralCannotBeTurned rv >>= _) _ _ s
    rw [kd.lit, pure_bind]
    show wpAny _ A.in1 (reNextFound _ start false >>= _) _ _ s
    refine wpAny_bind (wp_found hf fun m' e1 e2 => ?_)
    have next : ∀ (h' : Heap) (tk : Nat), Rep w c lo ((P, .list (avs ++ if start < p then [sl start p] else [])) :: rest) h' →
        wpAny (model prog w) A.in1 (updateSeq P (fun x => x.push rv) >>= fun _ => again (Code.builtin "re.Pattern.sub.loop" ⟨[.ref pa, tv, rv, rawInt 0, rawInt 0, rawInt (n + 1), rawInt m'.handed, rawInt m'.handed, .bool (m'.handed == m'.start), .ref P, .bool false], []⟩))
          (fun fin s' => match fin with
            | .done f => Rc (.ok f) s'
            | .again c' => c'.quiet = true ∧ codeAny (model prog w) A c' Rc s') (fun e s' => Rc (.error e) s') { s with heap := h', toks := tk } := by
      intro h' tk rep1
      have hz1 : (avs ++ if start < p then [sl start p] else []).length ≤ avs.length + 1 := by rw [List.length_append]; split <;> simp
      simp only [List.length_cons] at hz
      refine wpAny_bind (wp_pushSeq (s := { s with heap := h', toks := tk }) rep1 (by omega) fun h2 rep2 _ => ?_)
      refine wpAny_pure ⟨quiet_loop, ?_⟩
      rw [e1, e2, show (q == p) = false from by simp; omega]
      have ep : avs ++ pieces t.size sl (er rv) start ((p, q) :: ms) = ((avs ++ if start < p then [sl start p] else []) ++ [er rv]) ++ pieces t.size sl (er rv) q ms := by
        show avs ++ ((if start < p then [sl start p] else []) ++ er rv :: pieces t.size sl (er rv) q ms) = _
        simp
      rw [ep] at fin hne
      refine ih q _ (n + 1) { s with heap := h2, toks := tk } hrest rep2 ?_ fin hne
      rw [List.length_append, List.length_singleton]
      omega
    refine iteW (fun hlt => ?_) (fun hlt => ?_)
    · rw [Int.toNat_natCast, e1] at hlt
      refine wpAny_bind (kd.slice _ _ fun v tk hv => ?_)
      refine wpAny_bind (wp_pushSeq (s := { s with toks := tk }) rep (by omega) fun h' rep' _ => ?_)
      rw [hv, Int.toNat_natCast, e1] at rep'
      refine iteW (fun _ => ?_) (fun hn => absurd rfl hn)
      refine wpAny_bind (wpAny_pure ?_)
      refine iteW (fun _ => ?_) (fun hn => absurd kd.none hn)
      exact next _ _ (by rw [if_pos hlt]; exact rep')
    · rw [Int.toNat_natCast, e1] at hlt
      refine iteW (fun _ => ?_) (fun hn => absurd rfl hn)
      refine wpAny_bind (wpAny_pure ?_)
      refine iteW (fun _ => ?_) (fun hn => absurd kd.none hn)
      exact next _ _ (by rw [if_neg hlt, List.append_nil]; exact rep)
end
end Mine
namespace Mine
open PySem PySem.Spec PySem.Calls PyProof.Rows PySem.W PySem.Builtin PySem.Builtin.Re
theorem named_sub {a b : Value} : reNamed "re.Pattern.sub" "sub" ["repl", "string", "count"] 2 [a, b] [] = pure [some a, some b, none] := by rfl
theorem nocall_str {x : Str} {t : Tok} : specialOf (.str x t) "__call__" = pure none := by
  have e : specialOf (.str x t) "__call__" = typeLookup (.type "str") "__call__" := rfl
  rw [e, typeLookup_type, builtinLookup_eq_fast]; kernel_rfl
theorem nocall_bytes {x : Array UInt8} {t : Tok} : specialOf (.bytes x t) "__call__" = pure none := by
  have e : specialOf (.bytes x t) "__call__" = typeLookup (.type "bytes") "__call__" := rfl
  rw [e, typeLookup_type, builtinLookup_eq_fast]; kernel_rfl
theorem kd_str {r x : Str} {t' u : Tok} (hz : x.cps.size ≤ 2 ^ 20) : Kd (.str r t') (.str x u) x.cps 0 (fun b e => .str ⟨x.cps.extract b e⟩) where
  text := rfl
  lit := rfl
  none := by rfl
  coll := rfl
  k01 := .inl rfl
  slice := fun b e Q h => by
    refine wpAny_mkStr (h _ _ rfl) ?_
    show (x.cps.extract b e).size ≤ _
    rw [Array.size_extract]
    exact Nat.le_trans (by omega) (Nat.le_trans hz (by decide))
theorem kd_bytes {r x : Array UInt8} {t' u : Tok} (hz : x.size ≤ 2 ^ 20) : Kd (.bytes r t') (.bytes x u) (x.map (·.toNat)) 1 (fun b e => .bytes (((x.map (·.toNat)).extract b e).map (·.toUInt8))) where
  text := text_bytes
  lit := by
    unfold reLiteralCannotBeTurned
    rw [show asStr? (.bytes r t') = pure none from rfl, KBy.isInstance_eq]
    rfl
  none := by rfl
  coll := by
    unfold reNoCollectionInside
    rw [KBy.isInstance_eq]
    rfl
  k01 := .inr rfl
  slice := fun b e Q h => by
    refine wpAny_mkBytes (h _ _ rfl) ?_
    rw [Array.size_map, Array.size_extract, Array.size_map]
    exact Nat.le_trans (by omega) (Nat.le_trans hz (by decide))
theorem slot_sub : Slot "re.Pattern" "sub" "re.Pattern.sub" :=
  .of (owner := "re.Pattern") (n := "sub") (by rw [typeLookup_type, builtinLookup_eq_fast]; kernel_rfl) (by decide +kernel) (by decide +kernel) (by decide +kernel)
    (by first | exact .inl (by decide +kernel) | exact .inr (by decide +kernel)) (by rw [isSubtype_type]; kernel_rfl)
theorem plain_pat : PlainAttrs "re.Pattern" :=
  ⟨⟨"object.__getattribute__", by rw [typeLookup_type, builtinLookup_eq_fast]; kernel_rfl, by decide +kernel⟩, by rw [typeLookup_type, builtinLookup_eq_fast]; kernel_rfl⟩
theorem sub_md : typeOf (.builtin "re.Pattern.sub") = pure (.type "method_descriptor") := by show builtinType _ = _; rw [builtinType_eq_fast]; kernel_rfl
theorem sub_entry : entryFor table "re.Pattern.sub" = some «re.Pattern.sub» := entryFor_of_tree (by kernel_rfl)
theorem sub_args (a b d : Value) : argsOk "re.Pattern.sub" ⟨[a, b, d], []⟩ := by unfold argsOk; kernel_rfl
section
variable {prog : Program} {w : World} {c : Cx} {A : Around} {lo : Lo} {led fr : Led} {s : Shared} {E : Value → Shared → Prop}
theorem PatAt.typeIs {h : Heap} {g : Array GenState} {d : Drawn} {t : Nat} {os : OsState} {pa : Addr} {code : Array Nat} {kind : Nat} (hp : PatAt h pa code kind) : Shared.TypeIs ⟨h, g, d, t, os⟩ (.ref pa) "re.Pattern" := by
  obtain ⟨po, vs, ca, co, cvs, n, h1, h2, h3, h4, h5, h6, h7, h8, h9, _⟩ := hp
  exact ⟨po, h1, h9⟩
theorem m_sub {pl : Sem Bool} {pa : Addr} {code : Array Nat} {kind : Nat} {R : AV → List AV → Lo → Led → Prop} (hp : PatAt c.base pa code kind) (h : R (er (.builtin "re.Pattern.sub")) [.ref pa] lo led) : Met prog w c pl "sub" (.ref pa) R lo led := by
  intro v hv; obtain rfl := er_ref hv
  intro fr s Q E rep kk
  have hp' := hp.keeps rep.keep
  obtain ⟨po, vs, ca, co, cvs, n, h1, h2, h3, h4, h5, h6, h7, h8, h9, h10⟩ := hp.keeps rep.keep
  refine getMethod_builtin hp'.typeIs plain_pat slot_sub sub_md (fun a e => by cases e; exact ⟨_, h1, h10⟩) ?_
  exact kk (.builtin "re.Pattern.sub", [.ref pa]) lo led s.heap s.toks h rep
theorem sub_code {pa : Addr} {code : Array Nat} {kind : Nat} {rv tv : Value} {t : Array Nat} {sl : Nat → Nat → AV} {Q : Value → Shared → Prop} (kd : Kd rv tv t kind sl) (hp : PatAt c.base pa code kind)
    (hcall : specialOf rv "__call__" = pure none) (hrv : ∀ a, rv ≠ .ref a) (hlit : (∃ x u, rv = .str x u ∧ x.cps.contains 92 = false) ∨ (∃ x u, rv = .bytes x u ∧ x.contains 92 = false)) (rep : Rep w c lo led s.heap) {ms : List (Nat × Nat)} (hs : Subs code t 0 ms) (hz : ms.length ≤ 1000) (hne : pieces t.size sl (er rv) 0 ms ≠ [])
    (fin : ∀ P h' tk v, Rep w c lo ((P, .list (pieces t.size sl (er rv) 0 ms)) :: led) h' → er v = sl 0 0 →
        wpAny (model prog w) A.in1 (call (.builtin (if kind == 0 then "str.join" else "bytes.join")) [v, .ref P]) Q E { s with heap := h', toks := tk }) :
    wpAny (model prog w) A (call (.builtin "re.Pattern.sub") [.ref pa, rv, tv]) Q E s := by
  have hT : s.TypeIs (.ref pa) "re.Pattern" := (hp.keeps rep.keep).typeIs
  refine wpAny_call (codeAny_call_builtin slot_sub.plain sub_entry (slot_sub.check _ _ _ _ _ _ _ _ hT (sub_args _ _ _) ?_))
  show wpAny _ A.in1 (reNamed "re.Pattern.sub" "sub" ["repl", "string", "count"] 2 [rv, tv] [] >>= _) _ _ s
  rw [named_sub, pure_bind]
  show wpAny _ A.in1 ((pure 0 : Sem Int) >>= _) _ _ s
  rw [pure_bind]
  show wpAny _ A.in1 (specialOf rv "__call__" >>= _) _ _ s
  rw [hcall, pure_bind]
  refine iteW (fun h => nomatch h) (fun _ => ?_)
  have go : wpAny (model prog w) A.in1 (holding [rv] (reWholeTarget (.ref pa) tv) >>= fun _ => newList [] >>= fun l => again (Code.builtin "re.Pattern.sub.loop" ⟨[.ref pa, tv, rv, rawInt 0, rawInt 0, rawInt 0, rawInt 0, rawInt 0, .bool false, l, .bool false], []⟩))
      (fun fin s' => match fin with
        | .done f => (match (Except.ok f : Result) with | .ok (.ret v) => Q v s' | .ok _ => False | .error e => E e s')
        | .again c' => c'.quiet = true ∧ codeAny (model prog w) A c' (fun r s' => match r with | .ok (.ret v) => Q v s' | .ok _ => False | .error e => E e s') s')
      (fun e s' => match (Except.error e : Result) with | .ok (.ret v) => Q v s' | .ok _ => False | .error e => E e s') s := by
    refine wpAny_bind (wpAny_holding (wp_target kd (hp.keeps rep.keep) ?_))
    refine wpAny_bind (wpAny_newList ?_ (by decide))
    refine wpAny_pure ⟨quiet_loop, ?_⟩
    have rep1 := rep.push { cls := .type "list", data := .seq #[] } (.list []) ⟨[], 0, rfl, rfl⟩
    exact loop_code kd hp hrv ms 0 [] 0 { s with heap := s.heap.push _ } hs rep1 (by simp; omega) (fun h' tk v rp hv => fin _ h' tk v rp hv) hne
  rcases hlit with ⟨x, u, rfl, hx⟩ | ⟨x, u, rfl, hx⟩
  · refine wpAny_bind (wpAny_of_eq (a := some x) rfl ?_)
    refine wpAny_bind (wpAny_pure ?_)
    rw [hx]
    refine iteW (fun h => nomatch h) (fun _ => ?_)
    refine iteW (fun _ => ?_) (fun hn => absurd rfl hn)
    exact go
  · refine wpAny_bind (wpAny_of_eq (a := none) rfl ?_)
    refine wpAny_bind (wpAny_of_eq (a := some x) KBy.quiet_eq ?_)
    refine wpAny_bind (wpAny_pure ?_)
    rw [hx]
    refine iteW (fun h => nomatch h) (fun _ => ?_)
    refine iteW (fun _ => ?_) (fun hn => absurd rfl hn)
    exact go
end
end Mine
namespace Mine
open PySem PySem.Spec PySem.Calls PyProof.Rows PySem.W PySem.Builtin PySem.Builtin.Re
noncomputable def pieceL (l rp : List Nat) : Nat → List (Nat × Nat) → List (List Nat)
  | start, [] => if start < l.length then [(l.drop start).take (l.length - start)] else []
  | start, (p, q) :: rest => (if start < p then [(l.drop start).take (p - start)] else []) ++ rp :: pieceL l rp q rest
theorem ext_S (l : List Nat) (b e : Nat) : (⟨l.toArray.extract b e⟩ : Str) = S ((l.drop b).take (e - b)) := by
  unfold S; rw [List.extract_toArray]
theorem pieces_S (l rp : List Nat) : ∀ (ms : List (Nat × Nat)) (start : Nat), pieces l.length (fun b e => .str ⟨l.toArray.extract b e⟩) (.str (S rp)) start ms = (pieceL l rp start ms).map fun x => AV.str (S x)
  | [], start => by
    unfold pieces pieceL
    split <;> simp [S]
  | (p, q) :: ms, start => by
    unfold pieces pieceL
    rw [pieces_S l rp ms q]
    split <;> simp [S]
theorem pieceL_ne {l rp : List Nat} {ms : List (Nat × Nat)} (h : 0 < l.length) : pieceL l rp 0 ms ≠ [] := by
  cases ms with
  | nil => unfold pieceL; rw [if_pos h]; simp
  | cons m ms => obtain ⟨p, q⟩ := m; unfold pieceL; simp
theorem joinL_nil (ws : List (List Nat)) : joinL [] ws = ws.flatten := by
  induction ws with
  | nil => rfl
  | cons a r ih =>
    cases r with
    | nil => simp [joinL]
    | cons b r => rw [show joinL [] (a :: b :: r) = a ++ [] ++ joinL [] (b :: r) from rfl, ih]; simp
section
variable {prog : Program} {w : World} {c : Cx} {lo : Lo} {led : Led} {R : AV → Lo → Led → Prop}
theorem k_sub_str {pa : Addr} {code : Array Nat} {rp l : List Nat} {x r : Str} (hx : x = S l) (hr : r = S rp) (hp : PatAt c.base pa code 0) (h92 : rp.contains 92 = false) {ms : List (Nat × Nat)} (hs : Subs code l.toArray 0 ms) (hm : ms.length ≤ 1000)
    (hl : 0 < l.length) (hz : l.length ≤ 10000) (hj : ((pieceL l rp 0 ms).map List.length).sum + (pieceL l rp 0 ms).length ≤ 1048576) (h : R (.str (S (pieceL l rp 0 ms).flatten)) lo led) : Call prog w c (.builtin "re.Pattern.sub") [.ref pa, .str r, .str x] R lo led := by
  subst hx; subst hr
  intro vs hvs
  obtain ⟨a, b, d, rfl⟩ : ∃ a b d, vs = [a, b, d] := by
    have := congrArg List.length hvs
    simp at this
    match vs, this with
    | [a, b, d], _ => exact ⟨a, b, d, rfl⟩
  injection hvs with e1 e2
  injection e2 with e2 e3
  injection e3 with e3 _
  obtain rfl := er_ref e1; obtain ⟨u, rfl⟩ := er_str e2; obtain ⟨t, rfl⟩ := er_str e3
  intro fr s Q E rep kk
  have hS : (S l).cps.size = l.length := by simp [S]
  have e0 : pieces (S l).cps.size (fun b e => .str ⟨(S l).cps.extract b e⟩) (er (.str (S rp) u)) 0 ms = (pieceL l rp 0 ms).map fun x => AV.str (S x) := by rw [hS]; exact pieces_S l rp ms 0
  refine sub_code (kd_str (by rw [hS]; omega)) hp nocall_str (fun a e => nomatch e) (.inl ⟨_, _, rfl, ?_⟩) rep hs hm ?_ (fun P h' tk v rp' hv => ?_)
  · show rp.toArray.contains 92 = false
    simpa using h92
  · rw [e0]
    intro e
    exact pieceL_ne hl (List.map_eq_nil_iff.mp e)
  · rw [e0] at rp'
    obtain ⟨tv, rfl⟩ := er_str hv
    have r1 : Rep w { c with A := c.A.in1 } lo ((P, .list ((pieceL l rp 0 ms).map fun x => AV.str (S x))) :: led ++ fr) h' := rp'.castA
    have := k_join (prog := prog) (w := w) (c := { c with A := c.A.in1 }) (lo := lo) (led := (P, .list ((pieceL l rp 0 ms).map fun x => AV.str (S x))) :: led) (g := []) (x := ⟨(S l).cps.extract 0 0⟩) (R := fun a lo' led' => a = .str (S (pieceL l rp 0 ms).flatten) ∧ lo' = lo ∧ led' = (P, .list ((pieceL l rp 0 ms).map fun x => AV.str (S x))) :: led) (by rw [show (S l).cps = l.toArray from rfl, ext_S]; simp) (IsL.mem (.head _)) (by simp) hj ⟨by rw [joinL_nil], rfl, rfl⟩
    refine this [_, _] rfl fr { s with heap := h', toks := tk } Q E r1 ?_
    rintro a lo' led' h2 tk2 ⟨ha, rfl, rfl⟩ rep2
    refine kk a lo' led h2 tk2 (by show R (er a) lo' led; rw [ha]; exact h) ?_
    exact (rep2.castB).sub (List.sublist_cons_self _ _)
end
end Mine
namespace Mine
open PySem PySem.Spec PySem.Calls PyProof.Rows PySem.W PySem.Builtin PySem.Builtin.Re
theorem buffer_eq2 {b : Array UInt8} {t : Tok} {id : String} {full : Bool} : Bytes.buffer? id (.bytes b t) full = pure (some b) := by
  unfold Bytes.buffer?
  rw [KBy.special_eq KBy.look_buffer, KBy.own_buffer, KBy.own_release]
  kernel_rfl
theorem take_eq {id : String} {b : Array UInt8} {t : Tok} : Bytes.takeBufferQuiet? id (.bytes b t) 0 = pure (some (b, none)) := by
  unfold Bytes.takeBufferQuiet? Bytes.takeBuffer?
  rw [KBy.special_eq KBy.look_buffer, KBy.own_buffer]
  simp only [buffer_eq2]
  kernel_rfl
theorem slot_bjoin : Slot "bytes" "join" "bytes.join" :=
  .of (owner := "bytes") (n := "join") (by rw [typeLookup_type, builtinLookup_eq_fast]; kernel_rfl) (by decide +kernel) (by decide +kernel) (by decide +kernel)
    (by first | exact .inl (by decide +kernel) | exact .inr (by decide +kernel)) (by rw [isSubtype_type]; kernel_rfl)
theorem bjoin_entry : entryFor table "bytes.join" = some «bytes.join» := entryFor_of_tree (by kernel_rfl)
theorem bjoin_args (a b : Value) : argsOk "bytes.join" ⟨[a, b], []⟩ := by unfold argsOk; kernel_rfl
section
variable {prog : Program} {w : World} {A : Around} {s : Shared} {E : Value → Shared → Prop} {Q : Value → Shared → Prop}
theorem wp_range {β : Type} {M : Model} {s : Shared} {E : Value → Shared → Prop} {f : Nat → β → Sem (ForInStep β)} {Q : β → Shared → Prop} (I : Nat → β → Prop) (n : Nat) (step : ∀ i b, i < n → I i b → wpAny M A (f i b) (fun r s' => s' = s ∧ ∃ b', r = .yield b' ∧ I (i + 1) b') E s) {b : β} (h : I 0 b)
    (fin : ∀ b, I n b → Q b s) : wpAny M A (forIn [:n] b f) Q E s := by
  rw [Std.Legacy.Range.forIn_eq_forIn_range']
  have hsz : ([:n] : Std.Legacy.Range).size = n := by simp [Std.Legacy.Range.size]
  show wpAny M A (forIn (List.range' 0 ([:n] : Std.Legacy.Range).size 1) b f) Q E s
  rw [hsz]
  have key : ∀ (k i : Nat) (b : β), i + k = n → I i b → wpAny M A (forIn (List.range' i k 1) b f) Q E s := by
    intro k
    induction k with
    | zero => intro i b e hI; exact wpAny_pure (fin b (by rw [← e]; exact hI))
    | succ k ih =>
      intro i b e hI
      rw [List.range'_succ, List.forIn_cons]
      refine wpAny_bind (wpAny_mono (step i b (by omega) hI) ?_ (fun _ _ h => h))
      rintro r s' ⟨rfl, b', rfl, hI'⟩
      exact ih (i + 1) b' (by omega) hI'
  exact key n 0 b (by omega) h
theorem wp_joinLetGo {M : Model} {s : Shared} {E : Value → Shared → Prop} {keep : List Value} : ∀ (taken : List (Value × Option Value)), (∀ x ∈ taken, x.2 = none) → ∀ {Q : Unit → Shared → Prop}, Q () s → wpAny M A (Bytes.joinLetGo taken keep) Q E s
  | [], _, _, h => wpAny_pure h
  | (x, o) :: rest, ht, Q, h => by
    have ho : o = none := ht (x, o) (.head _)
    subst ho
    unfold Bytes.joinLetGo
    refine wpAny_bind (wpAny_letGo ?_)
    exact wp_joinLetGo rest (fun y hy => ht y (.tail _ hy)) h
theorem joined_nil (ps : List (Array UInt8)) : (Bytes.joined #[] ps).toList = (ps.map Array.toList).flatten := by
  have key : ∀ (l : List (Array UInt8 × Nat)) (acc : Array UInt8), (l.foldl (fun out (p : Array UInt8 × Nat) => (if p.2 > 0 then out ++ #[] else out) ++ p.1) acc).toList = acc.toList ++ ((l.map (·.1)).map Array.toList).flatten := by
    intro l
    induction l with
    | nil => intro acc; simp
    | cons p l ih => intro acc; rw [List.foldl_cons, ih]; split <;> simp
  have := key ps.zipIdx #[]
  rw [List.zipIdx_map_fst] at this
  refine Eq.trans this ?_
  simp
theorem bjoin {t : Tok} {P : Addr} {o : Obj} {vs : Array Value} {n : Nat} (ho : s.heap.get? P = some o) (hc : o.cls = .type "list") (hd : o.data = .seq vs n) {bs : List (Array UInt8)} (hb : vs.toList.map er = bs.map AV.bytes) (hz : (bs.map Array.size).sum ≤ 1000000)
    (hQ : ∀ b tk, b.toList = (bs.map Array.toList).flatten → ∀ t', Q (.bytes b t') { s with toks := tk }) :
    wpAny (model prog w) A (call (.builtin "bytes.join") [.bytes #[] t, .ref P]) Q E s := by
  have hT : s.TypeIs (.bytes #[] t) "bytes" := by exact typeIs_bytes _ _ _
  have hTP : s.TypeIs (.ref P) "list" := ⟨o, ho, hc⟩
  have hat : ∀ i, i < bs.length → ∃ b u, bs[i]? = some b ∧ vs.getD i .none = .bytes b u := by
    intro i hi
    have e := congrArg (fun l => l[i]?) hb
    simp only [List.getElem?_map, Array.getElem?_toList] at e
    rw [List.getElem?_eq_getElem hi] at e
    cases hv : vs[i]? with
    | none => rw [hv] at e; cases e
    | some v =>
      rw [hv] at e
      simp only [Option.map_some, Option.some.injEq] at e
      cases v <;> first | cases e; done | skip
      have e' := AV.bytes.inj e
      exact ⟨_, _, List.getElem?_eq_getElem hi, by rw [Array.getD_eq_getD_getElem?, hv, ← e']; rfl⟩
  have hlen : vs.size = bs.length := by simpa using congrArg List.length hb
  refine wpAny_call_entry slot_bjoin hT bjoin_entry ?_ (bjoin_args _ _)
  unfold «bytes.join» Bytes.joinM
  refine wpAny_bind (wpAny_of_eq (a := (.bytes #[] t, .ref P)) rfl ?_)
  refine iteW (fun _ => ?_) (fun h => absurd rfl h)
  refine wpAny_bind ?_
  unfold Bytes.joinItems
  refine wpAny_bind (wpAny_typeOf hTP ?_)
  refine iteW (fun _ => ?_) (fun h => absurd (by decide +kernel) h)
  refine wpAny_pure ?_
  refine wpAny_bind (wpAny_seqItems ho hd ?_)
  refine iteW (fun _ => ?_) (fun h => absurd rfl h)
  obtain ⟨l⟩ := vs
  rcases l with _ | ⟨x, _ | ⟨y, l⟩⟩
  case cons.nil =>
    obtain ⟨b, u, h1, hx⟩ := hat 0 (by rw [← hlen]; exact Nat.zero_lt_one)
    have hx' : x = .bytes b u := hx
    subst hx'
    refine wpAny_bind (wpAny_typeOf (typeIs_bytes _ _ _) ?_)
    refine iteW (fun _ => ?_) (fun h => absurd (by decide +kernel) h)
    refine wpAny_bind (wpAny_rule (wpAny_pure ⟨_, rfl, ?_⟩))
    obtain ⟨b', rfl⟩ := List.length_eq_one_iff.mp hlen.symm
    have : [b'] = [b] := by rw [Option.some.inj h1]
    exact hQ b s.toks (by rw [this]; simp) u
  all_goals
    refine wpAny_bind (wp_range (s := s) (fun i (st : Array (Array UInt8) × List (Value × Option Value)) => st.1.toList = bs.take i ∧ ∀ x ∈ st.2, x.2 = none ∧ x.1.onHeap = false) _ ?_ ⟨rfl, fun x hx => nomatch hx⟩ ?_)
    · rintro i ⟨parts, taken⟩ hi ⟨e1, e2⟩
      refine wpAny_bind (wpAny_seqItems ho hd ?_)
      obtain ⟨b, u, h1, h2⟩ := hat i (by omega)
      have ht : (taken.any fun x => x.1.onHeap) = false := by
        rw [List.any_eq_false]
        intro x hx
        rw [(e2 x hx).2]
        simp
      have hk : (Bytes.Kind.bytes == Bytes.Kind.bytearray || taken.any fun x => x.fst.onHeap) = false := by rw [ht]; rfl
      refine iteW (fun h => absurd (hk.symm.trans h) (by decide)) (fun _ => ?_)
      rw [h2]
      refine wpAny_bind (wpAny_holding (wpAny_of_eq (a := some (b, none)) take_eq ?_))
      refine wpAny_bind (wpAny_seqItems ho hd ?_)
      refine iteW (fun h => absurd h (by simp)) (fun _ => ?_)
      refine wpAny_pure ⟨rfl, _, rfl, ?_, ?_⟩
      · show (parts.push b).toList = _
        rw [Array.toList_push, e1, take_succ' h1]
      · intro x hx
        rcases List.mem_append.mp hx with hx | hx
        · exact e2 x hx
        · rw [List.mem_singleton.mp hx]; exact ⟨rfl, rfl⟩
    · rintro ⟨parts, taken⟩ ⟨e1, e2⟩
      rw [hlen, List.take_length] at e1
      refine wpAny_bind (wpAny_of_eq (a := #[]) rfl ?_)
      have hsum : Array.foldl (fun x1 (x2 : Array UInt8) => x1 + x2.size) ((#[] : Array UInt8).size * (parts.size - 1)) parts = (bs.map Array.size).sum := by
        rw [← Array.foldl_toList, e1]
        have : ∀ (l : List (Array UInt8)) (k : Nat), l.foldl (fun x1 (x2 : Array UInt8) => x1 + x2.size) k = k + (l.map Array.size).sum := by
          intro l
          induction l with
          | nil => intro k; simp
          | cons a l ih => intro k; rw [List.foldl_cons, ih]; simp; omega
        rw [this]; simp
      refine iteW (fun h => ?_) (fun _ => ?_)
      · rw [hsum, KBy.tooLong_not (by omega)] at h
        cases h
      · refine wpAny_bind (wpAny_mkBytes ?_ ?_)
        · refine wpAny_bind (wpAny_holding (wpAny_point ?_))
          refine wpAny_bind (wp_joinLetGo taken (fun x hx => (e2 x hx).1) ?_)
          exact wpAny_pure ⟨_, rfl, hQ _ _ (by rw [e1]; exact joined_nil bs) _⟩
        · have := congrArg List.length (joined_nil bs)
          rw [e1]
          rw [← Array.length_toList, this, List.length_flatten, List.map_map]
          exact Nat.le_trans (show (bs.map (List.length ∘ Array.toList)).sum ≤ 1000000 from hz) (by decide)
end
end Mine
namespace Mine
open PySem PySem.Spec PySem.Calls PyProof.Rows PySem.W PySem.Builtin PySem.Builtin.Re
theorem er_bytes' {v : Value} {x : Array UInt8} (h : er v = .bytes x) : ∃ t, v = .bytes x t := by
  cases v <;> first | cases h; done | skip
  exact ⟨_, by rw [AV.bytes.inj h]⟩
noncomputable def Bn (l : List Nat) : Array UInt8 := (l.map Nat.toUInt8).toArray
theorem Bn_nat {l : List Nat} (h : ∀ x ∈ l, x < 256) : (Bn l).map (·.toNat) = l.toArray := by
  unfold Bn
  rw [List.map_toArray, List.map_map]
  congr 1
  refine List.map_congr_left (g := _root_.id) (fun x hx => ?_) |>.trans (List.map_id l)
  show x.toUInt8.toNat = x
  rw [UInt8.toNat_ofNat']
  exact Nat.mod_eq_of_lt (h x hx)
theorem ext_B (l : List Nat) (b e : Nat) : (l.toArray.extract b e).map (·.toUInt8) = Bn ((l.drop b).take (e - b)) := by
  unfold Bn; rw [List.extract_toArray, List.map_toArray]
theorem pieces_B (l rp : List Nat) : ∀ (ms : List (Nat × Nat)) (start : Nat), pieces l.length (fun b e => .bytes ((l.toArray.extract b e).map (·.toUInt8))) (.bytes (Bn rp)) start ms = (pieceL l rp start ms).map fun x => AV.bytes (Bn x)
  | [], start => by
    unfold pieces pieceL
    split <;> simp only [ext_B, List.map_cons, List.map_nil]
  | (p, q) :: ms, start => by
    unfold pieces pieceL
    rw [pieces_B l rp ms q]
    split <;> simp only [ext_B, List.map_cons, List.map_nil, List.map_append]
theorem Bn_flat (ws : List (List Nat)) : ((ws.map Bn).map Array.toList).flatten = (Bn ws.flatten).toList := by
  unfold Bn
  induction ws with
  | nil => rfl
  | cons a r ih => simp only [List.map_cons, List.flatten_cons, ih, List.map_append]
section
variable {prog : Program} {w : World} {c : Cx} {lo : Lo} {led : Led} {R : AV → Lo → Led → Prop}
theorem k_sub_bytes {pa : Addr} {code : Array Nat} {rp l : List Nat} (hp : PatAt c.base pa code 1) (h92 : (Bn rp).contains 92 = false) (h256 : ∀ x ∈ l, x < 256) {ms : List (Nat × Nat)} (hs : Subs code l.toArray 0 ms) (hm : ms.length ≤ 1000)
    (hl : 0 < l.length) (hz : l.length ≤ 10000) (hj : ((pieceL l rp 0 ms).map List.length).sum ≤ 1000000) (h : R (.bytes (Bn (pieceL l rp 0 ms).flatten)) lo led) : Call prog w c (.builtin "re.Pattern.sub") [.ref pa, .bytes (Bn rp), .bytes (Bn l)] R lo led := by
  intro vs hvs
  obtain ⟨a, b, d, rfl, e1, e2, e3⟩ := three_of hvs
  obtain rfl := er_ref e1
  obtain ⟨u, rfl⟩ := er_bytes' e2; obtain ⟨t, rfl⟩ := er_bytes' e3
  intro fr s Q E rep kk
  have hS : ((Bn l).map (·.toNat)) = l.toArray := Bn_nat h256
  have hsz : (Bn l).size = l.length := by unfold Bn; simp
  have kd : Kd (.bytes (Bn rp) u) (.bytes (Bn l) t) l.toArray 1 (fun b e => .bytes ((l.toArray.extract b e).map (·.toUInt8))) := by
    have := kd_bytes (r := Bn rp) (x := Bn l) (t' := u) (u := t) (by rw [hsz]; omega)
    rw [hS] at this
    exact this
  have e0 : pieces l.toArray.size (fun b e => .bytes ((l.toArray.extract b e).map (·.toUInt8))) (er (.bytes (Bn rp) u)) 0 ms = (pieceL l rp 0 ms).map fun x => AV.bytes (Bn x) := pieces_B l rp ms 0
  refine sub_code kd hp nocall_bytes (fun a e => nomatch e) (.inr ⟨_, _, rfl, h92⟩) rep hs hm ?_ (fun P h' tk v rp' hv => ?_)
  · rw [e0]
    intro e
    exact pieceL_ne hl (List.map_eq_nil_iff.mp e)
  · rw [e0] at rp'
    obtain ⟨tv, rfl⟩ := er_bytes' (hv.trans (show _ = AV.bytes #[] by simp))
    obtain ⟨_, _, o, ho, us, m, rfl, eus⟩ := rp'.own _ (.head _)
    refine bjoin (bs := (pieceL l rp 0 ms).map Bn) (s := { s with heap := h', toks := tk }) ho rfl rfl ?_ ?_ (fun b tk2 hb t' => ?_)
    · rw [List.map_map]; exact eus
    · rw [List.map_map]
      refine Nat.le_trans (Nat.le_of_eq ?_) hj
      congr 1
      refine List.map_congr_left fun x _ => ?_
      show (Bn x).size = _
      unfold Bn; simp
    · rw [Bn_flat] at hb
      have hb' : b = Bn (pieceL l rp 0 ms).flatten := Array.toList_inj.mp hb
      subst hb'
      exact kk (.bytes _ t') lo led h' tk2 h (rp'.sub (List.sublist_cons_self _ _))
end
end Mine
namespace Mine
noncomputable abbrev dots (k : Nat) : List Nat := List.replicate k 46
theorem at_drop (l : List Nat) (o j : Nat) : l.toArray.getD (o + j) 0 = ((l.drop o)[j]?).getD 0 := by
  rw [List.getElem?_drop, Array.getD_eq_getD_getElem?, List.getElem?_toArray]
theorem at_dots {l r : List Nat} {o k j : Nat} (h : l.drop o = dots k ++ r) (hj : j < k) : l.toArray.getD (o + j) 0 = 46 := by
  rw [at_drop, h, List.getElem?_append_left (by simpa using hj), List.getElem?_replicate, if_pos hj]; rfl
theorem at_dots' {l r : List Nat} {o k i : Nat} (h : l.drop o = dots k ++ r) (h1 : o ≤ i) (h2 : i < o + k) : l.toArray.getD i 0 = 46 := by
  have := at_dots h (j := i - o) (by omega)
  rwa [show o + (i - o) = i by omega] at this
theorem at_after {l r : List Nat} {o k : Nat} {a : Nat} (h : l.drop o = dots k ++ a :: r) : l.toArray.getD (o + k) 0 = a := by
  rw [at_drop, h, List.getElem?_append_right (by simp)]
  simp
theorem at_after1 {l r : List Nat} {o k : Nat} {a b : Nat} (h : l.drop o = dots k ++ a :: b :: r) : l.toArray.getD (o + k + 1) 0 = b := by
  rw [show o + k + 1 = o + (k + 1) by omega, at_drop, h, List.getElem?_append_right (by simp)]
  simp
theorem len_drop {l r : List Nat} {o : Nat} (ho : o ≤ l.length) (h : l.drop o = r) : l.length = o + r.length := by
  have := congrArg List.length h
  rw [List.length_drop] at this
  omega
theorem drop_more {l a r : List Nat} {o n : Nat} (h : l.drop o = a ++ r) (hn : n = a.length) : l.drop (o + n) = r := by
  rw [← List.drop_drop, h, hn, List.drop_left]
noncomputable def msE (g : Nat) : Nat → List Nat → List (Nat × Nat)
  | _, [] => []
  | _, [_] => []
  | o, k :: k' :: r => (o + k, o + k + g) :: msE g (o + k + g) (k' :: r)
theorem join_head (g : List Nat) {k : Nat} {r : List Nat} (hk : 1 ≤ k) : ∃ t, joinL g ((k :: r).map dots) = 46 :: t := by
  obtain ⟨k, rfl⟩ : ∃ m, k = m + 1 := ⟨k - 1, by omega⟩
  cases r with
  | nil => exact ⟨_, List.replicate_succ⟩
  | cons a r => exact ⟨dots k ++ g ++ joinL g ((a :: r).map dots), by show List.replicate (k + 1) 46 ++ g ++ _ = _; rw [List.replicate_succ]; rfl⟩
theorem subs_eol {g : List Nat} (hg : g = [10] ∨ g = [13] ∨ g = [13, 10]) {l : List Nat} (hz : l.length ≤ 10000) : ∀ (ks : List Nat) (o : Nat), (∀ k ∈ ks, 1 ≤ k) → o ≤ l.length → l.drop o = joinL g (ks.map dots) → Subs pat2 l.toArray o (msE g.length o ks)
  | [], o, _, ho, h => by
    refine .nil (by simpa using ho) (search2_none fun i h1 h2 => ?_)
    have := len_drop ho h
    simp [joinL] at this h2
    omega
  | [k], o, _, ho, h => by
    refine .nil (by simpa using ho) (search2_none fun i h1 h2 => ?_)
    have e := len_drop ho h
    have h' : l.drop o = dots k ++ [] := by rw [h]; simp [joinL]
    simp [joinL] at e h2
    exact at_dots' h' h1 (by omega)
  | k :: k' :: r, o, hk, ho, h => by
    have h' : l.drop o = dots k ++ (g ++ joinL g ((k' :: r).map dots)) := by rw [h]; exact List.append_assoc (dots k) g _
    obtain ⟨t, ht⟩ := join_head g (k := k') (r := r) (hk k' (by simp))
    have e := len_drop ho h'
    have hno : ∀ i, o ≤ i → i < o + k → l.toArray.getD i 0 = 46 := fun i h1 h2 => at_dots' h' h1 h2
    have hnext : l.drop (o + k + g.length) = joinL g ((k' :: r).map dots) := by
      have h2 : l.drop (o + k) = g ++ joinL g ((k' :: r).map dots) := drop_more h' (by simp)
      exact drop_more h2 rfl
    have ho' : o + k + g.length ≤ l.length := by
      simp only [List.length_append, List.length_replicate] at e
      omega
    have ih := subs_eol hg hz (k' :: r) (o + k + g.length) (fun k hk' => hk k (List.mem_cons_of_mem _ hk')) ho' hnext
    have hgl : 0 < g.length := by rcases hg with rfl | rfl | rfl <;> simp
    refine .cons ?_ (by omega) (by omega) ih
    rw [ht] at h'
    rcases hg with rfl | rfl | rfl
    · exact search2_lf (by omega) (by simp at ho' ⊢; omega) hno (at_after h')
    · exact search2_cr (by omega) (by simp at ho' ⊢; omega) hno (at_after h') (by rw [at_after1 (r := t) h']; decide)
    · exact search2_crlf (by omega) (by simp at ho' ⊢; omega) hno (at_after h') (at_after1 h')
theorem flat_eol {g : List Nat} {l : List Nat} : ∀ (ks : List Nat) (o : Nat), ks ≠ [] → (∀ k ∈ ks, 1 ≤ k) → o ≤ l.length → l.drop o = joinL g (ks.map dots) → (pieceL l [13, 10] o (msE g.length o ks)).flatten = joinL [13, 10] (ks.map dots)
  | [], o, hne, _, _, _ => absurd rfl hne
  | [k], o, _, hk, ho, h => by
    have e := len_drop ho h
    have hk1 := hk k (by simp)
    simp [joinL] at e
    have : msE g.length o [k] = [] := rfl
    rw [this]
    unfold pieceL
    rw [if_pos (by omega), h]
    show (List.take (l.length - o) (dots k) ++ []) = dots k
    rw [List.append_nil, List.take_of_length_le (by simp; omega)]
  | k :: k' :: r, o, _, hk, ho, h => by
    have h' : l.drop o = dots k ++ (g ++ joinL g ((k' :: r).map dots)) := by rw [h]; exact List.append_assoc (dots k) g _
    have e := len_drop ho h'
    have hk1 := hk k (by simp)
    have hnext : l.drop (o + k + g.length) = joinL g ((k' :: r).map dots) := by
      have h2 : l.drop (o + k) = g ++ joinL g ((k' :: r).map dots) := drop_more h' (by simp)
      exact drop_more h2 rfl
    have ho' : o + k + g.length ≤ l.length := by
      simp only [List.length_append, List.length_replicate] at e
      omega
    have ih := flat_eol (k' :: r) (o + k + g.length) (by simp) (fun k hk' => hk k (List.mem_cons_of_mem _ hk')) ho' hnext
    have : msE g.length o (k :: k' :: r) = (o + k, o + k + g.length) :: msE g.length (o + k + g.length) (k' :: r) := rfl
    rw [this]
    unfold pieceL
    rw [if_pos (by omega), List.flatten_append, List.flatten_cons, List.flatten_cons, ih, h']
    show (List.take (o + k - o) (dots k ++ _) ++ []) ++ ([13, 10] ++ _) = dots k ++ [13, 10] ++ joinL [13, 10] ((k' :: r).map dots)
    rw [List.append_nil, show o + k - o = (dots k).length by simp, List.take_left, List.append_assoc]
noncomputable def msQ : Nat → List Nat → List (Nat × Nat)
  | _, [] => []
  | o, [_] => [(o, o + 1)]
  | o, k :: k' :: r => (o, o + 1) :: msQ (o + k + 2) (k' :: r)
theorem find1 {t : Array Nat} {s p : Nat} (hsp : s ≤ p) (hp : p < t.size) (hz : t.size ≤ 10000) (hno : ∀ i, s ≤ i → i < p → lineAt t i = false) (h : lineAt t p = true) (hc : t.getD p 0 = 46) : Finds (PySem.Sre.forSearch pat1 t 0 s t.size false) p (p + 1) := by
  rw [search1 (by omega)]; exact st1_finds hsp hp hz hno h hc
theorem line_no {t : Array Nat} {i a : Nat} (h : t.getD i 0 = a) (ha : a ≠ 10) : lineAt t (i + 1) = false := by
  unfold lineAt
  rw [show i + 1 - 1 = i by omega, h]
  have : (a == 10) = false := beq_eq_false_iff_ne.mpr ha
  rw [this]
  simp
theorem line_yes {t : Array Nat} {i : Nat} (h : t.getD i 0 = 10) : lineAt t (i + 1) = true := by
  unfold lineAt
  rw [show i + 1 - 1 = i by omega, h]
  simp
theorem subs_q {l : List Nat} (hz : l.length ≤ 10000) : ∀ (ks : List Nat) (s o : Nat), ks ≠ [] → (∀ k ∈ ks, 1 ≤ k) → o ≤ l.length → l.drop o = joinL [13, 10] (ks.map dots) → s ≤ o → (∀ i, s ≤ i → i < o → lineAt l.toArray i = false) → lineAt l.toArray o = true → Subs pat1 l.toArray s (msQ o ks)
  | [], s, o, hne, _, _, _, _, _, _ => absurd rfl hne
  | [k], s, o, _, hk, ho, h, hso, hno, hy => by
    have h' : l.drop o = dots k ++ [] := by rw [h]; simp [joinL]
    have e := len_drop ho h'
    have hk1 := hk k (by simp)
    simp at e
    refine .cons (find1 hso (by simp; omega) (by simpa using hz) hno hy (at_dots' h' (Nat.le_refl _) (by omega))) hso (by omega) (.nil (by simp; omega) ?_)
    by_cases hlt : o + 1 < l.length
    · rw [search1 (by simpa using hlt)]
      refine st1_fails (by simp; omega) (by simpa using hz) fun i h1 h2 => ?_
      have h2' : i ≤ l.length := by simpa using h2
      obtain ⟨j, rfl⟩ : ∃ j, i = j + 1 := ⟨i - 1, by omega⟩
      exact line_no (at_dots' h' (by omega) (by omega)) (by decide)
    · exact search1_end (by simp; omega)
  | k :: k' :: r, s, o, _, hk, ho, h, hso, hno, hy => by
    have h' : l.drop o = dots k ++ 13 :: 10 :: joinL [13, 10] ((k' :: r).map dots) := by rw [h]; exact List.append_assoc (dots k) [13, 10] _
    have e := len_drop ho h'
    have hk1 := hk k (by simp)
    simp only [List.length_append, List.length_replicate, List.length_cons] at e
    have hnext : l.drop (o + k + 2) = joinL [13, 10] ((k' :: r).map dots) := by
      have h2 : l.drop (o + k) = [13, 10] ++ joinL [13, 10] ((k' :: r).map dots) := drop_more h' (by simp)
      exact drop_more h2 rfl
    refine .cons (find1 hso (by simp; omega) (by simpa using hz) hno hy (at_dots' h' (Nat.le_refl _) (by omega))) hso (by omega) ?_
    refine subs_q hz (k' :: r) (o + 1) (o + k + 2) (by simp) (fun k hk' => hk k (List.mem_cons_of_mem _ hk')) (by omega) hnext (by omega) (fun i h1 h2 => ?_) ?_
    · obtain ⟨j, rfl⟩ : ∃ j, i = j + 1 := ⟨i - 1, by omega⟩
      by_cases hj : j < o + k
      · exact line_no (at_dots' h' (by omega) hj) (by decide)
      · have : j = o + k := by omega
        subst this
        exact line_no (at_after h') (by decide)
    · exact line_yes (at_after1 h')
theorem flat_q {l : List Nat} : ∀ (ks : List Nat) (s o : Nat), ks ≠ [] → (∀ k ∈ ks, 1 ≤ k) → o ≤ l.length → l.drop o = joinL [13, 10] (ks.map dots) → s ≤ o → (pieceL l [46, 46] s (msQ o ks)).flatten = (l.drop s).take (o - s) ++ joinL [13, 10] (ks.map fun k => dots (k + 1))
  | [], s, o, hne, _, _, _, _ => absurd rfl hne
  | [k], s, o, _, hk, ho, h, hso => by
    have h' : l.drop o = dots k ++ [] := by rw [h]; simp [joinL]
    have e := len_drop ho h'
    have hk1 := hk k (by simp)
    simp only [List.length_append, List.length_replicate, List.length_nil] at e
    obtain ⟨k, rfl⟩ : ∃ m, k = m + 1 := ⟨k - 1, by omega⟩
    have h1 : l.drop (o + 1) = dots k := by
      have : l.drop o = [46] ++ dots k := by rw [h', List.append_nil]; exact List.replicate_succ
      exact drop_more this rfl
    have e1 : (if s < o then [(l.drop s).take (o - s)] else []).flatten = (l.drop s).take (o - s) := by
      split
      · simp
      · rw [show o - s = 0 by omega]; simp
    show ((if s < o then [(l.drop s).take (o - s)] else []) ++ [46, 46] :: (if o + 1 < l.length then [(l.drop (o + 1)).take (l.length - (o + 1))] else [])).flatten = _
    rw [List.flatten_append, e1, List.flatten_cons, h1]
    congr 1
    show [46, 46] ++ _ = dots (k + 1 + 1)
    have e2 : (if o + 1 < l.length then [(dots k).take (l.length - (o + 1))] else []).flatten = dots k := by
      split
      · rw [List.flatten_cons, List.flatten_nil, List.append_nil, List.take_of_length_le (by simp; omega)]
      · have : k = 0 := by omega
        subst this; rfl
    rw [e2]
    rw [show dots (k + 1 + 1) = 46 :: 46 :: dots k by simp only [dots, List.replicate_succ]]
    rfl
  | k :: k' :: r, s, o, _, hk, ho, h, hso => by
    have h' : l.drop o = dots k ++ 13 :: 10 :: joinL [13, 10] ((k' :: r).map dots) := by rw [h]; exact List.append_assoc (dots k) [13, 10] _
    have e := len_drop ho h'
    have hk1 := hk k (by simp)
    simp only [List.length_append, List.length_replicate, List.length_cons] at e
    have hnext : l.drop (o + k + 2) = joinL [13, 10] ((k' :: r).map dots) := by
      have h2 : l.drop (o + k) = [13, 10] ++ joinL [13, 10] ((k' :: r).map dots) := drop_more h' (by simp)
      exact drop_more h2 rfl
    have ih := flat_q (k' :: r) (o + 1) (o + k + 2) (by simp) (fun k hk' => hk k (List.mem_cons_of_mem _ hk')) (by omega) hnext (by omega)
    obtain ⟨k, rfl⟩ : ∃ m, k = m + 1 := ⟨k - 1, by omega⟩
    have h1 : l.drop (o + 1) = dots k ++ [13, 10] ++ joinL [13, 10] ((k' :: r).map dots) := by
      have : l.drop o = [46] ++ (dots k ++ [13, 10] ++ joinL [13, 10] ((k' :: r).map dots)) := by
        rw [h', show dots (k + 1) = 46 :: dots k from List.replicate_succ]; simp
      exact drop_more this rfl
    have e1 : (if s < o then [(l.drop s).take (o - s)] else []).flatten = (l.drop s).take (o - s) := by
      split
      · simp
      · rw [show o - s = 0 by omega]; simp
    show ((if s < o then [(l.drop s).take (o - s)] else []) ++ [46, 46] :: pieceL l [46, 46] (o + 1) (msQ (o + (k + 1) + 2) (k' :: r))).flatten = _
    rw [List.flatten_append, e1, List.flatten_cons, ih, h1]
    congr 1
    rw [show o + (k + 1) + 2 - (o + 1) = (dots k ++ [13, 10]).length by simp; omega, List.take_left]
    show _ = dots (k + 1 + 1) ++ [13, 10] ++ joinL [13, 10] ((k' :: r).map fun k => dots (k + 1))
    rw [show dots (k + 1 + 1) = [46, 46] ++ dots k by simp only [dots, List.replicate_succ]; rfl]
    simp only [List.append_assoc]
end Mine
namespace Mine
open PySem PySem.Spec PySem.Calls PyProof.Rows PySem.W PySem.Builtin
section
variable {prog : Program} {w : World} {A : Around} {s : Shared} {E : Value → Shared → Prop}
theorem dec_entry {b : UInt8} {bs : List UInt8} {t u : Tok} : «bytes.decode» ⟨[.bytes (b :: bs).toArray t, .str (Str.ofString "ascii") u], []⟩ = (mkStr (Str.ofString "utf-8") >>= fun _ => mkStr (Str.ofString "ascii") >>= fun e => mkStr (Str.ofString "bytes.decode") >>= fun d =>
    call (.builtin "_codecs.decode.text") [.bytes (b :: bs).toArray t, e, .none, d] >>= fun v => ret v) := by kernel_rfl
theorem road_ascii {id : String} {b : Array UInt8} : _codecs.decodeRoad id b (Str.ofString "ascii") none [] = (_codecs.runDecoder id _codecs.asciiDecoder none true b 0 [] >>= fun r => mkStr ⟨r.1⟩) := by kernel_rfl
theorem enc_road {id : String} {v : Value} {x : Str} : _codecs.encodeRoad id v x (Str.ofString "ascii") none = (_codecs.encodeNarrow id _codecs.asciiCodec none v x >>= fun r => mkBytes r) := by kernel_rfl
theorem enc_entry {x : Str} {t u : Tok} : «str.encode» ⟨[.str x t, .str (Str.ofString "ascii") u], []⟩ = (_codecs.encodeRoad "str.encode" (.str x t) x (Str.ofString "ascii") none >>= fun v => ret v) := by kernel_rfl
theorem run_ascii {id : String} {l : List Nat} (hz : l.length ≤ 100000) (h : ∀ x ∈ l, x < 128) {Q : Array Nat × Nat → Shared → Prop} (hQ : ∀ n, Q (l.toArray, n) s) : wpAny (model prog w) A (_codecs.runDecoder id _codecs.asciiDecoder none true (Bn l) 0 []) Q E s := by
  unfold _codecs.runDecoder
  dsimp only
  have hB : (Bn l).size = l.length := by unfold Bn; simp
  have hf : ∀ i (hi : i < l.length), _codecs.asciiDecoder.find true (Bn l) i = .text [l[i]] (i + 1) := by
    intro i hi
    have e : ((Bn l).getD i 0).toNat = l[i] := by
      unfold Bn
      rw [Array.getD_eq_getD_getElem?, List.getElem?_toArray, List.getElem?_map, List.getElem?_eq_getElem hi]
      show (l[i]).toUInt8.toNat = l[i]
      rw [UInt8.toNat_ofNat']
      exact Nat.mod_eq_of_lt (Nat.lt_trans (h _ (List.getElem_mem hi)) (by decide))
    show (if ((Bn l).getD i 0).toNat < 128 then _ else _) = _
    rw [e, if_pos (h _ (List.getElem_mem hi))]
    rfl
  refine wpAny_bind (wp_range (fun i st => st.1 = i ∧ st.2.1.toList = l.take i) _ ?_ ⟨rfl, rfl⟩ ?_)
  · rintro i ⟨p, out, st⟩ hi ⟨e1, e2⟩
    rw [hB] at hi
    have e1' : p = i := e1
    subst e1'
    have e2' : out.toList = l.take p := e2
    have ho : out.size ≤ 100000 := by
      have := congrArg List.length e2'
      rw [List.length_take, Array.length_toList] at this
      omega
    refine iteW (fun hh => absurd hh (Nat.not_lt_of_le (Nat.le_trans ho (by decide)))) (fun _ => ?_)
    refine iteW (fun hh => absurd hh (by rw [hB]; exact Nat.not_le_of_lt hi)) (fun _ => ?_)
    dsimp only
    rw [hf p hi]
    refine wpAny_pure ⟨rfl, _, rfl, rfl, ?_⟩
    show (out ++ [l[p]].toArray).toList = _
    rw [Array.toList_append, e2', take_succ' (List.getElem?_eq_getElem hi)]
  · rintro ⟨p, out, st⟩ ⟨e1, e2⟩
    refine wpAny_pure ?_
    have e2' : out.toList = l := by
      have : out.toList = l.take (Bn l).size := e2
      rw [this, hB, List.take_length]
    have : out = l.toArray := Array.toList_inj.mp e2'
    show Q (out, p) s
    rw [this]
    exact hQ p
theorem run_enc {id : String} {v : Value} {l : List Nat} (hz : l.length ≤ 100000) (h : ∀ x ∈ l, x < 128) (hl : 0 < l.length) {Q : Array UInt8 → Shared → Prop} (hQ : Q (Bn l) s) : wpAny (model prog w) A (_codecs.encodeNarrow id _codecs.asciiCodec none v (S l)) Q E s := by
  obtain ⟨n, hn⟩ : ∃ n, l.length = n + 1 := ⟨l.length - 1, by omega⟩
  have hbad : ∀ x ∈ l, _codecs.asciiCodec.bad x = false := fun x hx => decide_eq_false (Nat.not_le_of_lt (h x hx))
  have h0 : (S l).cps[0]? = some (l[0]'hl) := by
    show l.toArray[0]? = _
    rw [List.getElem?_toArray, List.getElem?_eq_getElem hl]
  have hex : (S l).cps.extract 0 (S l).cps.size = l.toArray := by show l.toArray.extract 0 l.toArray.size = _; simp
  have hfind : (Array.findIdx? _codecs.asciiCodec.bad ((S l).cps.extract 0 (S l).cps.size)).getD ((S l).cps.extract 0 (S l).cps.size).size = l.length := by
    rw [hex]
    have : Array.findIdx? _codecs.asciiCodec.bad l.toArray = none := by
      rw [Array.findIdx?_eq_none_iff]
      intro x hx
      exact hbad x (by simpa using hx)
    rw [this]
    simp
  have hfold : Array.foldl (fun acc y => acc ++ (_codecs.asciiCodec.bytesOf y).toArray) #[] (((S l).cps.extract 0 (S l).cps.size).extract 0 l.length) = Bn l := by
    rw [hex]
    have e : l.toArray.extract 0 l.length = l.toArray := by simp
    rw [e, ← Array.foldl_toList]
    have key : ∀ (r : List Nat) (acc : Array UInt8), r.foldl (fun acc y => acc ++ (_codecs.asciiCodec.bytesOf y).toArray) acc = acc ++ Bn r := by
      intro r
      induction r with
      | nil => intro acc; simp [Bn]
      | cons a r ih =>
        intro acc
        rw [List.foldl_cons, ih, Array.append_assoc]
        congr 1
        show [a.toUInt8].toArray ++ Bn r = Bn (a :: r)
        unfold Bn
        simp
    rw [key]; simp
  have hend : (S l).cps[0 + l.length]? = none := by
    rw [Nat.zero_add]
    show l.toArray[l.length]? = _
    rw [List.getElem?_toArray, List.getElem?_eq_none (Nat.le_refl _)]
  have hsz : ([:(S l).length] : Std.Legacy.Range).size = n + 1 := by rw [S_len, hn]; simp [Std.Legacy.Range.size]
  have hBs : (Bn l).size ≤ sizeLine := by
    unfold Bn
    rw [List.size_toArray, List.length_map]
    exact Nat.le_trans hz (by decide)
  unfold _codecs.encodeNarrow
  dsimp only
  refine wpAny_bind ?_
  rw [Std.Legacy.Range.forIn_eq_forIn_range', hsz]
  show wpAny _ _ (forIn (List.range' 0 (n + 1) 1) _ _) _ _ _
  rw [List.range'_succ, List.forIn_cons]
  refine wpAny_bind ?_
  refine iteW (fun hh => absurd hh (by simp)) (fun _ => ?_)
  dsimp only
  rw [h0]
  refine iteW (fun _ => ?_) (fun hh => absurd (by rw [hbad _ (List.getElem_mem hl)]; rfl) hh)
  refine wpAny_pure ?_
  dsimp only
  rw [hfind, hfold]
  cases n with
  | zero => exact wpAny_pure (wpAny_pure hQ)
  | succ n =>
    rw [List.range'_succ, List.forIn_cons]
    refine wpAny_bind ?_
    refine iteW (fun hh => absurd hh (Nat.not_lt_of_le hBs)) (fun _ => ?_)
    dsimp only
    rw [hend]
    exact wpAny_pure (wpAny_pure (wpAny_pure hQ))
theorem slot_enc : Slot "str" "encode" "str.encode" :=
  .of (owner := "str") (n := "encode") (by rw [typeLookup_type, builtinLookup_eq_fast]; kernel_rfl) (by decide +kernel) (by decide +kernel) (by decide +kernel)
    (by first | exact .inl (by decide +kernel) | exact .inr (by decide +kernel)) (by rw [isSubtype_type]; kernel_rfl)
theorem enc_md : typeOf (.builtin "str.encode") = pure (.type "method_descriptor") := by show builtinType _ = _; rw [builtinType_eq_fast]; kernel_rfl
theorem enc_tab : entryFor table "str.encode" = some «str.encode» := entryFor_of_tree (by kernel_rfl)
theorem enc_args (a b : Value) : argsOk "str.encode" ⟨[a, b], []⟩ := by unfold argsOk; kernel_rfl
theorem dec_args (a b : Value) : argsOk "bytes.decode" ⟨[a, b], []⟩ := by unfold argsOk; kernel_rfl
theorem encode_ascii {l : List Nat} {t u : Tok} (hz : l.length ≤ 100000) (h : ∀ x ∈ l, x < 128) (hl : 0 < l.length) {Q : Value → Shared → Prop} (hQ : ∀ t' k, Q (.bytes (Bn l) t') { s with toks := k }) :
    wpAny (model prog w) A (call (.builtin "str.encode") [.str (S l) t, .str (Str.ofString "ascii") u]) Q E s := by
  refine wpAny_call_entry slot_enc (typeIs_str _ _ _) enc_tab ?_ (enc_args _ _)
  rw [enc_entry, enc_road]
  refine wpAny_bind (wpAny_bind (run_enc hz h hl ?_))
  refine wpAny_mkBytes (wpAny_pure ⟨_, rfl, hQ _ _⟩) ?_
  unfold Bn
  rw [List.size_toArray, List.length_map]
  exact Nat.le_trans hz (by decide)
theorem decode_ascii {l : List Nat} {t u : Tok} (hz : l.length ≤ 100000) (h : ∀ x ∈ l, x < 128) (hl : 0 < l.length) {Q : Value → Shared → Prop} (hQ : ∀ t' k, Q (.str (S l) t') { s with toks := k }) :
    wpAny (model prog w) A (call (.builtin "bytes.decode") [.bytes (Bn l) t, .str (Str.ofString "ascii") u]) Q E s := by
  refine wpAny_call_entry FB.slot_bytes_decode (typeIs_bytes _ _ _) FB.entry_bytes_decode ?_ (dec_args _ _)
  match l, hl, hz, h, hQ with
  | a :: r, hl, hz, h, hQ =>
  show wpAny _ _ («bytes.decode» ⟨[.bytes (a.toUInt8 :: r.map Nat.toUInt8).toArray t, .str (Str.ofString "ascii") u], []⟩) _ _ _
  rw [dec_entry]
  refine wpAny_bind (wpAny_mkStr ?_ (by decide))
  refine wpAny_bind (wpAny_mkStr ?_ (by decide))
  refine wpAny_bind (wpAny_mkStr ?_ (by decide))
  refine wpAny_bind (call_function_entry KBd.kind_text KBd.plain_text KBd.entry_text (KBd.args_text _ _ _ _) ?_)
  show wpAny _ _ (Bytes.bytesLike _ (.bytes (Bn (a :: r)) t) >>= fun r => _) _ _ _
  refine wpAny_bind (wpAny_of_eq KBd.like_eq ?_)
  refine wpAny_bind (wpAny_of_eq KBd.held_eq ?_)
  show wpAny _ _ (_codecs.decodeRoad _ (Bn (a :: r)) (Str.ofString "ascii") none [] >>= fun v => _) _ _ _
  rw [road_ascii]
  refine wpAny_bind (wpAny_bind (run_ascii hz h fun n => ?_))
  refine wpAny_mkStr (wpAny_pure ⟨_, rfl, ?_⟩) ?_
  · exact wpAny_pure ⟨_, rfl, hQ _ _⟩
  · show (a :: r).toArray.size ≤ _
    rw [List.size_toArray]
    exact Nat.le_trans hz (by decide)
end
end Mine
namespace Mine
open PySem PySem.Spec PySem.Calls PyProof.Rows PySem.W
section
variable {prog : Program} {w : World} {c : Cx} {lo : Lo} {led : Led} {R : AV → Lo → Led → Prop}
theorem k_encode {x e : Str} {l : List Nat} (hx : x = S l) (he : e = Str.ofString "ascii") (hz : l.length ≤ 100000) (h128 : ∀ x ∈ l, x < 128) (hl : 0 < l.length) (h : R (.bytes (Bn l)) lo led) : Call prog w c (.builtin "str.encode") [.str x, .str e] R lo led := by
  subst hx; subst he
  intro vs hvs
  obtain ⟨v, u, rfl, hv, hu⟩ := two_of hvs; obtain ⟨t, rfl⟩ := er_str hv; obtain ⟨t', rfl⟩ := er_str hu
  intro fr s Q E rep kk
  exact encode_ascii hz h128 hl fun t'' k => kk (.bytes (Bn l) t'') lo led s.heap k h rep
theorem k_decode {e : Str} {l : List Nat} (he : e = Str.ofString "ascii") (hz : l.length ≤ 100000) (h128 : ∀ x ∈ l, x < 128) (hl : 0 < l.length) (h : R (.str (S l)) lo led) : Call prog w c (.builtin "bytes.decode") [.bytes (Bn l), .str e] R lo led := by
  subst he
  intro vs hvs
  obtain ⟨v, u, rfl, hv, hu⟩ := two_of hvs; obtain ⟨t, rfl⟩ := er_bytes hv; obtain ⟨t', rfl⟩ := er_str hu
  intro fr s Q E rep kk
  exact decode_ascii hz h128 hl fun t'' k => kk (.str (S l) t'') lo led s.heap k h rep
theorem m_encode {pl : Sem Bool} {x : Str} {R : AV → List AV → Lo → Led → Prop} (h : R (er (.builtin "str.encode")) [.str x] lo led) : Met prog w c pl "encode" (.str x) R lo led := m_str slot_enc enc_md h
theorem m_decode {pl : Sem Bool} {b : Array UInt8} {R : AV → List AV → Lo → Led → Prop} (h : R (er (.builtin "bytes.decode")) [.bytes b] lo led) : Met prog w c pl "decode" (.bytes b) R lo led := by
  intro v hv; obtain ⟨t, rfl⟩ := er_bytes hv
  intro fr s Q E rep kk
  refine KBd.method ?_
  exact kk (.builtin "bytes.decode", [.bytes b t]) lo led s.heap s.toks h rep
theorem m_split {pl : Sem Bool} {x : Str} {R : AV → List AV → Lo → Led → Prop} (h : R (er (.builtin "str.split")) [.str x] lo led) : Met prog w c pl "split" (.str x) R lo led := m_str PySem.F.slot_str_split PySem.F.type_str_split h
end
end Mine
namespace Mine
open PySem PySem.Spec PySem.Calls PyProof.Rows PySem.W PySem.Builtin.Str
noncomputable def cuts : Nat → List Nat → List Nat
  | _, [] => []
  | _, [_] => []
  | o, k :: k' :: r => (o + k) :: cuts (o + k + 2) (k' :: r)
theorem ext_take (l : List Nat) (i j : Nat) : strSub (S l) i j = S ((l.drop i).take (j - i)) := by
  show (⟨l.toArray.extract i j⟩ : Str) = _
  exact ext_S l i j
theorem parts_go {l : List Nat} : ∀ (ks : List Nat) (o : Nat), ks ≠ [] → o ≤ l.length → l.drop o = joinL [13, 10] (ks.map dots) → ((o :: (cuts o ks).map (· + 2)).zip (cuts o ks ++ [l.length])).map (fun p => strSub (S l) p.1 p.2) = ks.map fun k => S (dots k)
  | [], o, hne, _, _ => absurd rfl hne
  | [k], o, _, ho, h => by
    have h' : l.drop o = dots k := h
    have e := len_drop ho h'
    show [strSub (S l) o l.length] = [S (dots k)]
    rw [ext_take, h', List.take_of_length_le (by simp at e ⊢; omega)]
  | k :: k' :: r, o, _, ho, h => by
    have h' : l.drop o = dots k ++ 13 :: 10 :: joinL [13, 10] ((k' :: r).map dots) := by rw [h]; exact List.append_assoc (dots k) [13, 10] _
    have e := len_drop ho h'
    simp only [List.length_append, List.length_replicate, List.length_cons] at e
    have hnext : l.drop (o + k + 2) = joinL [13, 10] ((k' :: r).map dots) := by
      have h2 : l.drop (o + k) = [13, 10] ++ joinL [13, 10] ((k' :: r).map dots) := drop_more h' (by simp)
      exact drop_more h2 rfl
    have ih := parts_go (k' :: r) (o + k + 2) (by simp) (by omega) hnext
    show strSub (S l) o (o + k) :: (((o + k + 2) :: (cuts (o + k + 2) (k' :: r)).map (· + 2)).zip (cuts (o + k + 2) (k' :: r) ++ [l.length])).map (fun p => strSub (S l) p.1 p.2) = S (dots k) :: ((k' :: r).map fun k => S (dots k))
    rw [ih, ext_take, h', show o + k - o = (dots k).length by simp, List.take_left]
theorem sub_no {l : List Nat} {i a : Nat} (h : l.toArray.getD i 0 = a) (ha : a ≠ 13) : subAt (S l) (S [13, 10]) i = false := by
  unfold subAt
  refine Bool.eq_false_iff.mpr fun hh => ha ?_
  have e := eq_of_beq hh
  have e2 : (l.toArray.extract i (i + 2)).toList = [13, 10] := congrArg Array.toList e
  rw [List.extract_toArray] at e2
  have e3 : (l.drop i).take 2 = [13, 10] := by
    have : (i + 2 - i) = 2 := by omega
    rw [List.extract_eq_take_drop, this] at e2
    exact e2
  have e4 : l[i]? = some 13 := by
    have := congrArg (fun x => x[0]?) e3
    simp at this
    exact this
  rw [← h, Array.getD_eq_getD_getElem?, List.getElem?_toArray, e4]
  rfl
theorem sub_yes {l r : List Nat} {i : Nat} (h : l.drop i = 13 :: 10 :: r) : subAt (S l) (S [13, 10]) i = true := by
  unfold subAt
  show (l.toArray.extract i (i + 2) == [13, 10].toArray) = true
  rw [List.extract_toArray, List.extract_eq_take_drop, show i + 2 - i = 2 by omega, h]
  rfl
open PySem.StrLaws in
theorem occ_skip {x y : Str} {hi limit : Nat} : ∀ (d a e : Nat) (st : Array Nat × Nat), (∀ i, a ≤ i → i < a + d → i + y.length ≤ hi → subAt x y i = false) → (forIn (List.range' a (d + e)) st (occBody x y hi limit)).run = (forIn (List.range' (a + d) e) st (occBody x y hi limit)).run
  | 0, a, e, st, _ => by rw [Nat.zero_add, Nat.add_zero]
  | d + 1, a, e, st, h => by
    rw [show d + 1 + e = (d + e) + 1 by omega, List.range'_succ, List.forIn_cons]
    unfold occBody
    rw [if_neg]
    · have := occ_skip (x := x) (y := y) (hi := hi) (limit := limit) d (a + 1) e st (fun i h1 h2 => h i (by omega) (by omega))
      rw [show a + 1 + d = a + (d + 1) by omega] at this
      exact this
    · rintro ⟨⟨_, h2⟩, h3⟩
      rw [h a (Nat.le_refl _) (by omega) h2] at h3
      cases h3
theorem sub_at {n o k : Nat} (h : o + k ≤ n) : n - o = k + (n - (o + k)) := by omega
open PySem.StrLaws in
theorem occ_go {l : List Nat} {limit : Nat} : ∀ (ks : List Nat) (o free : Nat) (found : Array Nat), ks ≠ [] → o ≤ l.length → l.drop o = joinL [13, 10] (ks.map dots) → free ≤ o → found.size + ks.length ≤ limit →
    (forIn (List.range' o (l.length + 1 - o)) (found, free) (occBody (S l) (S [13, 10]) l.length limit)).run.1.toList = found.toList ++ cuts o ks
  | [], o, free, found, hne, _, _, _, _ => absurd rfl hne
  | [k], o, free, found, _, ho, h, hf, hl => by
    have h' : l.drop o = dots k ++ [] := by rw [h]; simp [joinL]
    have e := len_drop ho h'
    simp only [List.length_append, List.length_replicate, List.length_nil] at e
    have := occ_skip (x := S l) (y := S [13, 10]) (hi := l.length) (limit := limit) (k + 1) o 0 (found, free) (fun i h1 h2 h3 => by
      rw [S_len] at h3
      exact sub_no (at_dots' h' h1 (by simp at h3; omega)) (by decide))
    rw [show l.length + 1 - o = k + 1 + 0 by omega, this]
    show found.toList = found.toList ++ []
    rw [List.append_nil]
  | k :: k' :: r, o, free, found, _, ho, h, hf, hl => by
    have h' : l.drop o = dots k ++ 13 :: 10 :: joinL [13, 10] ((k' :: r).map dots) := by rw [h]; exact List.append_assoc (dots k) [13, 10] _
    have e := len_drop ho h'
    simp only [List.length_append, List.length_replicate, List.length_cons] at e hl
    have hcut : l.drop (o + k) = 13 :: 10 :: joinL [13, 10] ((k' :: r).map dots) := drop_more h' (by simp)
    have hnext : l.drop (o + k + 2) = joinL [13, 10] ((k' :: r).map dots) := drop_more (a := [13, 10]) hcut rfl
    have e1 := occ_skip (x := S l) (y := S [13, 10]) (hi := l.length) (limit := limit) k o (l.length + 1 - (o + k)) (found, free) (fun i h1 h2 h3 => sub_no (at_dots' h' h1 h2) (by decide))
    have hle : o + k + 2 ≤ l.length := by omega
    have hle1 : o + k + 2 ≤ l.length + 1 := Nat.le_succ_of_le hle
    rw [sub_at (Nat.le_of_add_right_le hle1), e1, sub_at (n := l.length + 1) (o := o + k) (k := 1) (Nat.le_of_succ_le hle1), Nat.add_comm 1, List.range'_succ, List.forIn_cons]
    have e2 : occBody (S l) (S [13, 10]) l.length limit (o + k) (found, free) = pure (ForInStep.yield (found.push (o + k), o + k + 2)) := by
      unfold occBody
      rw [if_pos ⟨⟨⟨by show found.size < limit; omega, by show free ≤ o + k; omega⟩, by rw [S_len]; simp; omega⟩, sub_yes hcut⟩]
      rfl
    rw [e2]
    show (forIn (List.range' (o + k + 1) (l.length + 1 - (o + k + 1))) (found.push (o + k), o + k + 2) (occBody (S l) (S [13, 10]) l.length limit)).run.1.toList = _
    have e3 := occ_skip (x := S l) (y := S [13, 10]) (hi := l.length) (limit := limit) 1 (o + k + 1) (l.length + 1 - (o + k + 2)) (found.push (o + k), o + k + 2) (fun i h1 h2 h3 => by
      have : i = o + k + 1 := by omega
      subst this
      exact sub_no (at_after1 h') (by decide))
    rw [sub_at (n := l.length + 1) (o := o + k + 1) (k := 1) hle1, e3]
    rw [show o + k + 1 + 1 = o + k + 2 from rfl, occ_go (k' :: r) (o + k + 2) (o + k + 2) (found.push (o + k)) (by simp) hle hnext (Nat.le_refl _) (by simp; omega)]
    rw [Array.toList_push, List.append_assoc]
    rfl
theorem join256 : ∀ ks : List Nat, ∀ x ∈ joinL [13, 10] (ks.map dots), x < 128
  | [], x, hx => by cases hx
  | [k], x, hx => by
    have := List.eq_of_mem_replicate (show x ∈ List.replicate k 46 from hx)
    omega
  | k :: k' :: r, x, hx => by
    have hx' : x ∈ dots k ++ [13, 10] ++ joinL [13, 10] ((k' :: r).map dots) := hx
    rcases List.mem_append.mp hx' with hx1 | hx1
    · rcases List.mem_append.mp hx1 with hx2 | hx2
      · have := List.eq_of_mem_replicate hx2; omega
      · simp at hx2; omega
    · exact join256 (k' :: r) x hx1
theorem kind1 {l : List Nat} (h : ∀ x ∈ l, x < 128) : Builtin.Str.strKind (S l) = 1 := by
  unfold Builtin.Str.strKind
  rw [if_pos]
  show l.toArray.all _ = true
  rw [List.all_toArray, List.all_eq_true]
  intro x hx
  exact decide_eq_true (Nat.lt_trans (h x hx) (by decide))
open PySem.StrLaws in
theorem split_rows {ks : List Nat} (hne : ks ≠ []) : Txt.split (S (joinL [13, 10] (ks.map dots))) (S [13, 10]) = ks.map fun k => S (dots k) := by
  have hocc : ks.length ≤ (joinL [13, 10] (ks.map dots)).length + 1 → occurrences (S (joinL [13, 10] (ks.map dots))) (S [13, 10]) 0 (S (joinL [13, 10] (ks.map dots))).length ((S (joinL [13, 10] (ks.map dots))).length + 1) = cuts 0 ks := by
    intro hk
    rw [occ_eq, S_len]
    have := occ_go (l := joinL [13, 10] (ks.map dots)) (limit := (joinL [13, 10] (ks.map dots)).length + 1) ks 0 0 #[] hne (Nat.zero_le _) rfl (Nat.le_refl _) (by simpa using hk)
    exact this
  unfold Txt.split
  match ks, hne, hocc with
  | [k], _, hocc =>
    have e := hocc (by simp [joinL])
    rw [e]
    split
    · rfl
    · rfl
  | k :: k' :: r, _, hocc =>
    have hlen : (k :: k' :: r).length ≤ (joinL [13, 10] ((k :: k' :: r).map dots)).length + 1 := by
      have : ∀ (r : List Nat) (k : Nat), (k :: r).length ≤ (joinL [13, 10] ((k :: r).map dots)).length + 1 := by
        intro r
        induction r with
        | nil => intro k; simp [joinL]
        | cons a r ih =>
          intro k
          have h1 := ih a
          show _ ≤ (dots k ++ [13, 10] ++ joinL [13, 10] ((a :: r).map dots)).length + 1
          simp only [List.length_append, List.length_cons, List.length_replicate, List.length_nil] at h1 ⊢
          omega
      exact this _ _
    have h2 : 2 ≤ (joinL [13, 10] ((k :: k' :: r).map dots)).length := by
      show 2 ≤ (dots k ++ [13, 10] ++ joinL [13, 10] ((k' :: r).map dots)).length
      simp only [List.length_append, List.length_cons, List.length_nil]
      omega
    rw [if_neg, hocc hlen, if_neg]
    · have := parts_go (l := joinL [13, 10] ((k :: k' :: r).map dots)) (k :: k' :: r) 0 (by simp) (Nat.zero_le _) rfl
      unfold partsBetween
      rw [S_len]
      exact this
    · simp [cuts]
    · rw [S_len, S_len, kind1 (join256 _), kind1 (by intro x hx; simp at hx; omega)]
      simp
      simp at h2
      omega
section
variable {prog : Program} {w : World} {c : Cx} {lo : Lo} {led : Led} {R : AV → Lo → Led → Prop}
theorem k_split {x y : Str} {ks : List Nat} (hne : ks ≠ []) (hx : x = S (joinL [13, 10] (ks.map dots))) (hy : y = S [13, 10]) (hz : (joinL [13, 10] (ks.map dots)).length ≤ 100000) (h : ∀ a, R (.ref a) lo ((a, wordsO (ks.map dots)) :: led)) : Call prog w c (.builtin "str.split") [.str x, .str y] R lo led := by
  subst hx; subst hy
  intro vs hvs
  obtain ⟨v, u, rfl, hv, hu⟩ := two_of hvs; obtain ⟨t, rfl⟩ := er_str hv; obtain ⟨t', rfl⟩ := er_str hu
  intro fr s Q E rep kk
  obtain ⟨m, F, hm⟩ := rep.toFr
  obtain ⟨news, N, M⟩ := rep.toNews
  refine splitN1A F N (by rw [S_len]; rfl) (fun l h' k e1 hA _ hL F' N' => ?_) ?_
  · have e2 : (strValues l).map er = (ks.map dots).map fun x => AV.str (S x) := by
      rw [strs_AV hA, e1, split_rows hne, List.map_map, List.map_map]
      rfl
    exact kk _ _ _ _ _ (h _) (rep.newsPush hm M F' N' ⟨strValues l, 0, rfl, e2⟩ (rep.freshS (k := 0)))
  · rw [S_len]
    exact Nat.le_trans (Nat.add_le_add_right hz 2) (by decide)
end
end Mine
namespace Mine
open PySem PySem.Spec PySem.Calls PyProof.Rows PySem.W
section
variable {prog : Program} {w : World} {c : Cx} {n : Nat} {lo : Lo} {led led' : Led} {R : AV → Lo → Led → Prop}
theorem Rep.sameBut {c' : Cx} {lo' : Lo} {h h' h'' : Heap} {c : Cx} {lo : Lo} {led led' : Led} (r : Rep w c lo led h) (hb : c'.base = hideAll h (led.map (·.1))) (hL : c'.L = h.objs.size) (r' : Rep w c' lo' led' h') (hs : Heap.SameBut c'.L h' h'') : Rep w c lo led' h'' := by
  have rb := r.back hb r'
  have keep : ∀ b, b ≠ c'.L → ∀ x, h'.get? b = some x → h''.get? b = some x := fun b hne x e => (hs.2 b hne).trans e
  have hlt : c.L < c'.L := by rw [hL]; exact r.lt
  have hbs : ∀ b o, c.base.get? b = some o → b ≠ c'.L := fun b o e => by
    rw [hL]; exact Nat.ne_of_lt (Heap.lt_size (r.keep b o e))
  obtain ⟨m, ⟨oL, es, ep, hl, rest⟩, hm⟩ := rb.ns
  refine ⟨⟨m, ⟨oL, es, ep, keep _ (Nat.ne_of_lt hlt) _ hl, rest⟩, hm⟩, fun b o e => keep b (hbs b o e) _ (rb.keep b o e), rb.above, fun q hq => ?_, rb.nodup⟩
  obtain ⟨a1, a2, o, a3, a4⟩ := rb.own q hq
  exact ⟨a1, a2, o, keep _ (fun e => (r'.own q hq).1 e) _ a3, a4⟩
end
end Mine
namespace Mine
open PySem PySem.Spec PySem.Calls PyProof.Rows PySem.W
section
variable {prog : Program} {w : World} {c : Cx} {n : Nat} {lo : Lo} {led led' : Led} {R : AV → Lo → Led → Prop}
theorem b_shl {a b : Int} (hb : 0 ≤ b) (hsz : (Builtin.Int.intBits a : Int) + b ≤ 2 ^ 27) (h : R (.int (a * 2 ^ b.toNat)) lo led) : Bop prog w c .LShift (.int a) (.int b) R lo led := by
  intro v u hv hu; obtain ⟨t, rfl⟩ := er_int hv; obtain ⟨t', rfl⟩ := er_int hu
  intro fr s Q E rep kk; with_reducible refine PyProof.Rows.lshift_int hb hsz ?_
  exact kk _ _ _ _ _ h rep
theorem u_neg {a : Int} (h : R (.int (-a)) lo led) : Uop prog w c .USub (.int a) R lo led := by
  intro v hv; obtain ⟨t, rfl⟩ := er_int hv
  intro fr s Q E rep kk; with_reducible refine PyProof.Rows.neg_int ?_
  exact kk _ _ _ _ _ h rep
theorem g_tup {value slice : Expr} {l : Addr} {xs : List AV} {k : Int} {x : AV} (hl : (l, .tuple xs) ∈ led) (h0 : 0 ≤ k) (h1 : k < 2 ^ 63) (hx : xs[k.toNat]? = some x) (h : R x lo led)
    (hs : autoParam (∀ u, subscripted slice false (.ref l) (.int k u) = operate [.ref l, .int k u] (getItem (.ref l) (.int k u))) mai._auto_1) : Sub prog w c value slice (.ref l) (.int k) R lo led := by
  intro v u hv hu; obtain rfl := er_ref hv; obtain ⟨t', rfl⟩ := er_int hu
  intro fr s Q E rep kk
  obtain ⟨_, _, o, ho, vs, m, rfl, rfl⟩ := rep.own _ (List.mem_append_left _ hl)
  obtain ⟨y, hy, rfl⟩ : ∃ y, vs[k.toNat]? = some y ∧ er y = x := by
    rw [List.getElem?_map] at hx; exact Option.map_eq_some_iff.mp hx
  have hlt : k.toNat < vs.length := (List.getElem?_eq_some_iff.mp hy).1
  have hj : seqIndex? k vs.length = some k.toNat := by
    unfold seqIndex?
    have e : ¬ (k < 0) := by omega
    simp only [e, if_false]
    rw [if_pos (by simp only [Bool.and_eq_true, decide_eq_true_eq]; omega)]
  have hT : IsTup s.heap l vs.toArray := ⟨_, ho, rfl, _, rfl⟩
  refine kba_turn (value' := .Name (Str.ofString "_") ⟨0, 0, 0, 0⟩) (fun _ => rfl) ?_
  with_reducible refine item_tupleL (l := vs) hT (by omega) h1 hj hy ?_ (hs _) (fun _ => by with_unfolding_all rfl)
  exact kk _ _ _ _ s.toks h rep
theorem g_last {value slice : Expr} {l : Addr} {xs : List AV} {k : Int} {x : AV} (hl : IsL w c led l xs) (hk : k = -1) (hx : xs.getLast? = some x) (h : R x lo led)
    (hs : autoParam (∀ u, subscripted slice false (.ref l) (.int (-1) u) = operate [.ref l, .int (-1) u] (getItem (.ref l) (.int (-1) u))) mai._auto_1)
    (hg : autoParam (∀ r, letTemporaryGo value (.ref l) r = pure ()) mai._auto_1) : Sub prog w c value slice (.ref l) (.int k) R lo led := by
  subst hk
  intro v u hv hu; obtain rfl := er_ref hv; obtain ⟨t', rfl⟩ := er_int hu
  intro fr s Q E rep kk
  obtain ⟨vs, hl', rfl⟩ := hl _ _ _ rep
  have hne : vs ≠ [] := by rintro rfl; simp at hx
  have hp : 0 < vs.length := List.length_pos_iff.mpr hne
  have hx' : er (vs.getLast hne) = x := by
    rw [List.getLast?_map, List.getLast?_eq_some_getLast hne] at hx
    simpa using hx
  subst hx'
  have hi : vs.toArray[((-1 : Int) + (vs.toArray.size : Int)).toNat]? = some (vs.getLast hne) := by
    rw [List.size_toArray, List.getElem?_toArray, List.getLast_eq_getElem, List.getElem?_eq_getElem (by omega)]
    congr 2
    omega
  refine subscriptTail_builtin hl'.typeIs slot_list_getitem.lookup (wpAny_getItem_list_neg hl' (by decide) (by rw [List.size_toArray]; omega) (by decide) hi ?_) (hs _) hg
  exact kk _ _ _ _ s.toks h rep
theorem b_cati {a b : Addr} {xs ys : List Int} (ha : IsL w c led a (xs.map AV.int)) (hb : IsL w c led b (ys.map AV.int)) (hz : xs.length + ys.length ≤ 1000) (h : ∀ d, R (.ref d) lo ((d, intsO (xs ++ ys)) :: led)) :
    Bop prog w c .Add (.ref a) (.ref b) R lo led := by
  intro v u hv hu; obtain rfl := er_ref hv; obtain rfl := er_ref hu
  intro fr s Q E rep kk
  obtain ⟨vs, ha', e1⟩ := ha _ _ _ rep
  obtain ⟨us, hb', e2⟩ := hb _ _ _ rep
  obtain ⟨m, F, hm⟩ := rep.toFr
  obtain ⟨news, N, M⟩ := rep.toNews
  with_reducible refine add_lists_ints F N ha' hb' (AV_ints e1) (AV_ints e2) (fun h' F' N' hI => ?_) (Nat.le_trans hz (by decide))
  exact kk _ _ _ _ s.toks (h _) (rep.newsPush hm M F' N' ⟨vs ++ us, 0, rfl, ints_AV hI⟩ (rep.freshS (k := 0)))
theorem nats_ints (xs : List Nat) : (xs.map fun (x : Nat) => AV.int x) = (xs.map fun (x : Nat) => (x : Int)).map AV.int := by rw [List.map_map]; rfl
theorem IsL.nats {a : Addr} {xs : List Nat} (h : IsL w c led a (xs.map fun (x : Nat) => AV.int x)) : IsL w c led a ((xs.map fun (x : Nat) => (x : Int)).map AV.int) := nats_ints xs ▸ h
theorem contains_nats (xs : List Nat) (j : Nat) : (xs.map fun (x : Nat) => (x : Int)).contains (j : Int) = xs.contains j := by
  induction xs with
  | nil => rfl
  | cons a r ih =>
    rw [List.map_cons, List.contains_cons, List.contains_cons, ih]
    congr 1
    by_cases e : j = a
    · subst e; simp
    · have e' : ¬ (j : Int) = (a : Int) := by omega
      rw [beq_eq_false_iff_ne.mpr e, beq_eq_false_iff_ne.mpr e']
theorem c_inn {l : Addr} {xs : List Nat} {j : Nat} {k : Int} (hl : IsL w c led l (xs.map fun (x : Nat) => AV.int x)) (hk : k = j) (h : R (.bool (xs.contains j)) lo led) : Cop prog w c .In (.int k) (.ref l) R lo led := by
  subst hk; exact c_in hl.nats (by rw [contains_nats]; exact h)
theorem c_notinn {l : Addr} {xs : List Nat} {j : Nat} {k : Int} (hl : IsL w c led l (xs.map fun (x : Nat) => AV.int x)) (hk : k = j) (h : R (.bool (!xs.contains j)) lo led) : Cop prog w c .NotIn (.int k) (.ref l) R lo led := by
  subst hk; exact c_notin hl.nats (by rw [contains_nats]; exact h)
theorem c_eqnil {a b : Addr} {xs : List Nat} (ok : c.Ok w n) (hn : 4 ≤ n) (ha : IsL w c led a (xs.map fun (x : Nat) => AV.int x)) (hb : IsL w c led b []) (h : R (.bool (decide (xs = []))) lo led) : Cop prog w c .Eq (.ref a) (.ref b) R lo led :=
  c_eqints (ms := []) ok hn ha.nats hb (by simpa using h)
theorem c_nenil {a b : Addr} {xs : List Nat} (ok : c.Ok w n) (hn : 4 ≤ n) (ha : IsL w c led a (xs.map fun (x : Nat) => AV.int x)) (hb : IsL w c led b []) (h : R (.bool (!decide (xs = []))) lo led) : Cop prog w c .NotEq (.ref a) (.ref b) R lo led := by
  intro v u hv hu; obtain rfl := er_ref hv; obtain rfl := er_ref hu
  intro fr s Q E rep kk
  obtain ⟨us, hl', he⟩ := ha.nats _ _ _ rep
  obtain ⟨us2, hl2, he2⟩ := hb _ _ _ rep
  have he3 := AV_ints (ns := []) he2
  with_reducible refine ke_ne_ints (ms := []) hl' hl2 (AV_ints he) he3 (by have := ok.units; omega) ?_
  refine kk _ _ _ _ s.toks ?_ rep
  have e : decide ((xs.map fun (x : Nat) => (x : Int)) = []) = decide (xs = []) := by simp
  show R (.bool (!decide ((xs.map fun (x : Nat) => (x : Int)) = []))) lo led
  rw [e]; exact h
theorem c_eqpair {a b a1 a2 b1 b2 : Addr} {p q x y : List Int} (ok : c.Ok w n) (hn : 9 ≤ n) (ha : IsL w c led a [.ref a1, .ref a2]) (hb : IsL w c led b [.ref b1, .ref b2]) (h1 : IsL w c led a1 (p.map AV.int)) (h2 : IsL w c led a2 (q.map AV.int))
    (h3 : IsL w c led b1 (x.map AV.int)) (h4 : IsL w c led b2 (y.map AV.int)) (h : R (.bool (decide (p = x) && decide (q = y))) lo led) : Cop prog w c .Eq (.ref a) (.ref b) R lo led := by
  intro v u hv hu; obtain rfl := er_ref hv; obtain rfl := er_ref hu
  intro fr s Q E rep kk
  obtain ⟨us, hl, he⟩ := ha _ _ _ rep
  obtain ⟨us', hl', he'⟩ := hb _ _ _ rep
  obtain ⟨v1, v2, rfl, e1, e2⟩ := two_of he
  obtain ⟨v3, v4, rfl, e3, e4⟩ := two_of he'
  obtain rfl := er_ref e1; obtain rfl := er_ref e2; obtain rfl := er_ref e3; obtain rfl := er_ref e4
  obtain ⟨w1, g1, f1⟩ := h1 _ _ _ rep
  obtain ⟨w2, g2, f2⟩ := h2 _ _ _ rep
  obtain ⟨w3, g3, f3⟩ := h3 _ _ _ rep
  obtain ⟨w4, g4, f4⟩ := h4 _ _ _ rep
  have hu : c.A.in1.units + 64 < cLine := by have := ok.units; show c.A.units + 1 + 64 < cLine; omega
  refine SeqAt.eq_listAt (e := fun j => if j = 0 then decide (p = x) else decide (q = y)) hl hl' rfl (by have := ok.units; omega) ?_ ?_
  · intro j k1 k2
    match j, k1, k2 with
    | 0, _, _ => exact keq_ints g1 (AV_ints f1) g3 (AV_ints f3) hu
    | 1, _, _ => exact keq_ints g2 (AV_ints f2) g4 (AV_ints f4) hu
  · refine kk _ _ _ _ s.toks ?_ rep
    have e : ((List.range (#[Value.ref a1, Value.ref a2] : Array Value).size).all fun j => if j = 0 then decide (p = x) else decide (q = y)) = (decide (p = x) && decide (q = y)) := by
      show (([0, 1] : List Nat).all _) = _
      simp
    show R (.bool ((List.range (#[Value.ref a1, Value.ref a2] : Array Value).size).all fun j => if j = 0 then decide (p = x) else decide (q = y))) lo led
    rw [e]; exact h
theorem asgt_core {elts : List Expr} {k : Nat} {tpos pos : Pos} {value : Expr} {m : Nat} {R : AF → Lo → Led → Prop} (ok : c.Ok w n) (ts : List (Value → Sem Unit))
    (h : WpV prog w c (eval value c.env) (fun a lo₁ led₁ => ∃ t vs, a = .ref t ∧ (t, .tuple vs) ∈ led₁ ∧ vs.length = ts.length ∧ ∀ us : List Value, us.map er = vs → Wp prog w c (assignInOrder ts us) (fun _ => R .next) lo₁ led₁) lo led)
    (he : (assignEach elts c.env).map (·.2) = ts) (hstar : (assignEach elts c.env).findIdx? (·.1) = none)
    (hs : swapsWithSole [.Tuple elts k tpos] value pos.line c.env = pure false)
    (hw : swappedStores [.Tuple elts k tpos] value c.env = pure none) :
    WpS prog w c (exec (.Assign [.Tuple elts k tpos] value pos) c.env) R lo led := by
  intro fr s Q E rep kk
  refine Assign_Tuple (h fr s _ E rep ?_) hs hw
  rintro a lo₁ led₁ h₁ t₁ ⟨t, vs, ha, hm, hlen, hk⟩ rep₁
  obtain rfl := er_ref ha
  obtain ⟨_, _, o, ho, us, q, rfl, rfl⟩ := rep₁.own _ (List.mem_append_left _ hm)
  have hT : IsTup h₁ t us.toArray := ⟨_, ho, rfl, _, rfl⟩
  have hl : (assignEach elts c.env).length = us.toArray.size := by
    rw [List.size_toArray, ← List.length_map (f := (·.2)), he, ← hlen, List.length_map]
  refine assign_Tuple_tuple ok.handled hT hl hstar fun h' hk' => ?_
  rw [he]
  have rep' : Rep w c lo₁ (led₁ ++ fr) h' := rep₁.ext fun b o e => hk' b o (Nat.ne_of_lt (Heap.lt_size e)) e
  refine hk us rfl fr _ _ E rep' ?_
  intro _ lo₂ led₂ h₂ t₂ hR rep₂
  exact kk .next _ _ _ _ hR rep₂
theorem sto_assign {x : Str} {px : Pos} {v : Value} {R : Lo → Led → Prop} (h : Sto prog w c x (er v) R lo led) : Wp prog w c (assign (.Name x px) c.env v) (fun _ => R) lo led :=
  fun fr s Q E rep kk => PyProof.Rows.assign_Name (h v rfl fr s Q E rep kk)
theorem s_asgt2 {x y : Str} {px py tpos pos : Pos} {k : Nat} {value : Expr} {R : AF → Lo → Led → Prop} (ok : c.Ok w n)
    (h : WpV prog w c (eval value c.env) (fun a lo₁ led₁ => ∃ t u v, a = .ref t ∧ (t, .tuple [u, v]) ∈ led₁ ∧ Sto prog w c x u (Sto prog w c y v (R .next)) lo₁ led₁) lo led)
    (hs : autoParam (swapsWithSole [.Tuple [.Name x px, .Name y py] k tpos] value pos.line c.env = pure false) maw._auto_1)
    (hw : autoParam (swappedStores [.Tuple [.Name x px, .Name y py] k tpos] value c.env = pure none) maw._auto_1) :
    WpS prog w c (exec (.Assign [.Tuple [.Name x px, .Name y py] k tpos] value pos) c.env) R lo led := by
  refine asgt_core (m := 2) ok [assign (.Name x px) c.env, assign (.Name y py) c.env] (Wp_mono h ?_) (by with_unfolding_all rfl) (by with_unfolding_all rfl) hs hw
  rintro a lo₁ led₁ ⟨t, u, v, ha, hm, hk⟩
  refine ⟨t, _, ha, hm, rfl, fun us hu => ?_⟩
  obtain ⟨v1, v2, rfl, rfl, rfl⟩ := two_of hu
  refine Wp_bind (t := holding [v2] (assign (.Name x px) c.env v1)) (Wp_holding (Wp_mono (sto_assign hk) fun _ lo₂ led₂ h₂ => ?_))
  refine Wp_bind (t := holding [] (assign (.Name y py) c.env v2)) (Wp_holding (Wp_mono (sto_assign h₂) fun _ lo₃ led₃ h₃ => ?_))
  exact Wp_pure (a := ()) h₃
theorem s_asgt3 {x y z : Str} {px py pz tpos pos : Pos} {k : Nat} {value : Expr} {R : AF → Lo → Led → Prop} (ok : c.Ok w n)
    (h : WpV prog w c (eval value c.env) (fun a lo₁ led₁ => ∃ t u v q, a = .ref t ∧ (t, .tuple [u, v, q]) ∈ led₁ ∧ Sto prog w c x u (Sto prog w c y v (Sto prog w c z q (R .next))) lo₁ led₁) lo led)
    (hs : autoParam (swapsWithSole [.Tuple [.Name x px, .Name y py, .Name z pz] k tpos] value pos.line c.env = pure false) maw._auto_1)
    (hw : autoParam (swappedStores [.Tuple [.Name x px, .Name y py, .Name z pz] k tpos] value c.env = pure none) maw._auto_1) :
    WpS prog w c (exec (.Assign [.Tuple [.Name x px, .Name y py, .Name z pz] k tpos] value pos) c.env) R lo led := by
  refine asgt_core (m := 3) ok [assign (.Name x px) c.env, assign (.Name y py) c.env, assign (.Name z pz) c.env] (Wp_mono h ?_) (by with_unfolding_all rfl) (by with_unfolding_all rfl) hs hw
  rintro a lo₁ led₁ ⟨t, u, v, q, ha, hm, hk⟩
  refine ⟨t, _, ha, hm, rfl, fun us hu => ?_⟩
  obtain ⟨v1, v2, v3, rfl, rfl, rfl, rfl⟩ := three_of hu
  refine Wp_bind (t := holding [v2, v3] (assign (.Name x px) c.env v1)) (Wp_holding (Wp_mono (sto_assign hk) fun _ lo₂ led₂ h₂ => ?_))
  refine Wp_bind (t := holding [v3] (assign (.Name y py) c.env v2)) (Wp_holding (Wp_mono (sto_assign h₂) fun _ lo₃ led₃ h₃ => ?_))
  refine Wp_bind (t := holding [] (assign (.Name z pz) c.env v3)) (Wp_holding (Wp_mono (sto_assign h₃) fun _ lo₄ led₄ h₄ => ?_))
  exact Wp_pure (a := ()) h₄
end
end Mine
namespace Mine
open PySem PySem.Spec PySem.Calls PyProof.Rows PySem.W
theorem cellsFrom_app : ∀ (names : List (Str × NameKind)) (n : Nat) (acc : List (Str × Addr)), cellsFrom n names acc = cellsFrom n names [] ++ acc
  | [], _, _ => rfl
  | (x, k) :: r, n, acc => by
    unfold cellsFrom
    split
    · rw [cellsFrom_app r (n + 1) ((x, n) :: acc), cellsFrom_app r (n + 1) [(x, n)], List.append_assoc]; rfl
    · exact cellsFrom_app r n acc
theorem look_none {ns : List (Str × NameKind)} {lo : Lo} (h : ∀ v ∈ lo, v = none) {x : Str} : look ns lo x = none := by
  induction ns generalizing lo with
  | nil => cases lo <;> rfl
  | cons a r ih =>
    cases lo with
    | nil => rfl
    | cons v q =>
      unfold look
      split
      · exact h v (.head _)
      · exact ih fun u hu => h u (.tail _ hu)
theorem names_ok {l : List (Str × NameKind)} (h : (l.all fun y => y.2 != .local || l.lookup y.1 == some .local) = true) : ∀ y ∈ l, y.2 = .local → l.lookup y.1 = some .local := fun y hy e => by
  have := List.all_eq_true.mp h y hy
  rw [e] at this
  simpa using this
noncomputable def cellLed0 (names : List (Str × NameKind)) (L : Addr) : Led := (cellsFrom (L + 1) names []).map fun p => (p.2, .cell none)
section
variable {M : Model} {A : Around} {E : Value → Shared → Prop} {s : Shared}
theorem wpAny_newCompEnv {scope : Scope} {globals builtins : Addr} {cl : List (Str × Addr)} {qual : Str} {code : Value} {env : Env} {Q : Env → Shared → Prop}
    (hQ : ∀ h', h'.Ns s.heap.objs.size (fun _ => none) → (∀ b o, s.heap.get? b = some o → h'.get? b = some o) → (∀ p ∈ cellsFrom (s.heap.objs.size + 1) scope.names [], h'.IsCell p.2 none ∧ s.heap.objs.size < p.2) →
      Q (newEnv scope s.heap.objs.size globals (cellsFrom (s.heap.objs.size + 1) scope.names cl) qual none code (some env) builtins) { s with heap := h' }) :
    wpAny M A (newFunctionEnv scope globals cl [] qual none code (some env) builtins) Q E s := by
  simp only [newFunctionEnv, Option.isSome_some, if_true]
  refine wpAny_bind (wpAny_alloc ?_)
  refine wpAny_bind (wpAny_layCells _ (fun name kind cells => by cases hkc : kind == NameKind.cell <;> simp) _ _ _ _ ?_)
  have ok := cellsFrom_ok scope.names (s.heap.push { cls := .type "dict", data := .dict #[] }) (s.heap.objs.size + 1) [] ⟨fun _ _ hm => (nomatch hm), List.Pairwise.nil⟩ (by rw [Heap.size_push]; exact Nat.le_refl _)
  rw [Heap.size_push] at ok
  rw [show ({ s with heap := s.heap.push { cls := .type "dict", data := .dict #[] } } : Shared).heap.objs.size = s.heap.objs.size + 1 from Heap.size_push ..]
  refine wpAny_bind (wpAny_pure (wpAny_pure ?_))
  refine hQ _ ((Heap.Ns.new s.heap (.type "dict")).keeps (pushCells_keeps _ _)) (fun b o e => pushCells_keeps _ _ b o (Heap.get?_push_of_some _ e)) fun p hp => ?_
  exact ok.empty p.1 p.2 hp
end
section
variable {prog : Program} {w : World} {c : Cx} {n : Nat} {lo : Lo} {led led' : Led} {R : AV → Lo → Led → Prop}
noncomputable def testsOf (ifs : List Expr) (env : Env) : Sem Bool := forIn ifs true fun c r => if r = true then do let ok ← isTrue c env (eval c env); pure (ForInStep.yield ok) else pure (ForInStep.yield r)
theorem Wp_tests_nil {c : Cx} {lo : Lo} {led : Led} {env : Env} {R : Bool → Lo → Led → Prop} (h : R true lo led) : Wp prog w c (testsOf [] env) R lo led := by
  unfold testsOf; rw [List.forIn_nil]; exact Wp_pure h
theorem Wp_tests_one {c : Cx} {lo : Lo} {led : Led} {tst : Expr} {R : Bool → Lo → Led → Prop} (h : Wp prog w c (isTrue tst c.env (eval tst c.env)) R lo led) : Wp prog w c (testsOf [tst] c.env) R lo led :=
  fun fr s Q E rep kk => wpAny_tests_one (h fr s Q E rep kk)
noncomputable def CompBody (prog : Program) (w : World) (c : Cx) (n : Nat) (elt : Expr) (ifs : List Expr) (x : Str) (scope : Scope) (cl : List (Str × Addr)) (it : Addr) (lo₀ : Lo) (led : Led) (P : Addr → Led → Prop) : Prop :=
  ∀ (acc : Addr) (c' : Cx), c'.Ok w n → c'.env = compEnvC scope (cellsFrom (c'.L + 1) scope.names cl) c'.L c.env → (∀ b o, c.base.get? b = some o → c'.base.get? b = some o) →
      ∃ (I : Nat → Lo → Led → Prop) (k : Nat), I k lo₀ (cellLed0 scope.names c'.L ++ ((acc, .list []) :: led)) ∧ ∀ k lo₁ led₁, I k lo₁ led₁ → Wp prog w c' (pyNext (.ref it)) (fun r lo₂ led₂ => match r with
        | none => P acc led₂
        | some u => Sto prog w c' x (er u) (fun lo₃ led₃ => Wp prog w c' (testsOf ifs c'.env) (fun (b : Bool) lo₃ led₃ => if b = true then WpV prog w c' (eval elt c'.env) (fun v lo₄ led₄ => Call prog w c' (.builtin "list.append") [.ref acc, v] (fun _ lo₅ led₅ => ∃ m, m < k ∧ I m lo₅ led₅) lo₄ led₄) lo₃ led₃ else ∃ m, m < k ∧ I m lo₃ led₃) lo₃ led₃) lo₂ led₂) lo₁ led₁
theorem comp_coreG {elt iter : Expr} {ifs : List Expr} {x : Str} {px pos : Pos} {scope : Scope} {cl : List (Str × Addr)} {it : Addr} {fr : Led} {s : Shared} {P : Addr → Led → Prop} {RR : Value → Addr → Result → Shared → Prop} {E : Value → Shared → Prop} (ok : c.Ok w n)
    (hkind : scope.kind = .function) (lo₀ : Lo) (hlo : ∀ y, look (relabel scope c.env).names lo₀ y = none)
    (body : CompBody prog w c n elt ifs x scope cl it lo₀ led P)
    (hself : ∀ {A : Around} {Q : Value → Shared → Prop} {E : Value → Shared → Prop} {h : Heap} {tk : Nat}, (∀ b o, s.heap.get? b = some o → h.get? b = some o) → Q (.ref it) { s with heap := h, toks := tk } → wpAny (model prog w) A (pyIter (.ref it)) Q E { s with heap := h, toks := tk })
    (rep : Rep w c lo (led ++ fr) s.heap)
    (fin : ∀ (acc : Addr) (H : Heap) (c' : Cx) lo₂ led₂ h2 tk2, Rep w c lo ((acc, .list []) :: (led ++ fr)) H → c'.base = hideAll H (((acc, AO.list []) :: (led ++ fr)).map (·.1)) → c'.L = H.objs.size → P acc led₂ → Rep w c' lo₂ (led₂ ++ fr) h2 → RR (.ref acc) c'.L (.ok .next) { s with heap := h2, toks := tk2 }) :
    wpAny (model prog w) c.A (newList []) (fun acc s₃ => wpAny (model prog w) c.A (newFunctionEnv scope c.env.globals cl [] c.env.qual none .none (some c.env)) (fun cenv s₄ =>
      codeAny (model prog w) c.A (.compStart (.ListComp elt [⟨.Name x px, iter, ifs, 0⟩] scope pos) 0 (.ref it) acc { cenv with scope := relabel scope c.env }) (RR acc cenv.locals) s₄) E s₃) E s := by
  refine wpAny_newList ?_ (by decide)
  have rep1 : Rep w c lo ((s.heap.objs.size, .list []) :: (led ++ fr)) _ := rep.push { cls := .type "list", data := .seq #[] } (.list []) ⟨[], 0, rfl, rfl⟩
  generalize hH : s.heap.push { cls := Value.type "list", data := Data.seq #[] } = H at rep1
  have hk0 : ∀ b o, s.heap.get? b = some o → H.get? b = some o := fun b o e => hH ▸ Heap.get?_push_of_some _ e
  generalize s.heap.objs.size = acc at rep1 hH ⊢
  refine wpAny_newCompEnv (fun h₁ hns hk1 hcells => ?_)
  let c' : Cx := ⟨hideAll H (((acc, AO.list []) :: (led ++ fr)).map (·.1)), H.objs.size, c.A, compEnvC scope (cellsFrom (H.objs.size + 1) scope.names cl) H.objs.size c.env⟩
  have ext := rep1.base_ext (c' := c') rfl
  have ok' : c'.Ok w n := ⟨ok.K.keeps ext, ok.top.keeps ext, ok.handled, ok.depth, ok.units, rfl, ok.glob, ok.blt, hkind⟩
  have rep2 : Rep w c' lo₀ (cellLed0 scope.names H.objs.size ++ ((acc, .list []) :: (led ++ fr))) h₁ := by
    refine rep1.enter rfl rfl hk1 ⟨_, hns, fun y => ?_⟩ (fun q hq => ?_) ?_
    · show none = look (relabel scope c.env).names lo₀ y
      rw [hlo]
    · obtain ⟨p, hp, rfl⟩ := List.mem_map.mp hq
      obtain ⟨⟨o, ho, hd⟩, hlt⟩ := hcells p hp
      exact ⟨hlt, o, ho, none, hd, rfl⟩
    · unfold cellLed0
      rw [List.map_map]
      exact cells_nodup scope.names _ [] List.nodup_nil (fun _ h => nomatch h)
  obtain ⟨I, k, hI, turn⟩ := body acc c' ok' rfl ext
  have loop : ∀ s₃ : Shared, s₃ = { s with heap := h₁ } →
      codeAny (model prog w) c.A (.compLoop (.ListComp elt [⟨.Name x px, iter, ifs, 0⟩] scope pos) 0 (.ref it) (.ref acc) (compEnvC scope (cellsFrom (H.objs.size + 1) scope.names cl) H.objs.size c.env)) (RR (.ref acc) H.objs.size) s₃ := by
    rintro s₃ rfl
    refine codeAny_compLoop_tests (fun k s' => ∃ lo₁ led₁ h' tk', s' = { s with heap := h', toks := tk' } ∧ I k lo₁ led₁ ∧ Rep w c' lo₁ (led₁ ++ fr) h') ?_ k ⟨_, _, _, _, rfl, hI, by rw [List.append_assoc]; exact rep2⟩ (by intro v; rfl)
    rintro k s' ⟨lo₁, led₁, h', tk', rfl, hI', rep3⟩
    refine turn k lo₁ led₁ hI' fr { s with heap := h', toks := tk' } _ _ rep3 ?_
    rintro r lo₂ led₂ h2 tk2 hr rep4
    cases r with
    | none => exact fin acc H c' lo₂ led₂ h2 tk2 rep1 rfl rfl hr rep4
    | some u =>
      refine wpAny_assign_Name (hr u rfl fr _ _ _ rep4 ?_)
      rintro _ lo₃ led₃ h3 tk3 h₃ rep5
      refine h₃ fr _ _ _ rep5 ?_
      rintro tb lo₃' led₃' h3' tk3' h₃' rep5'
      cases tb with
      | false =>
        obtain ⟨m, hm, hI5⟩ := h₃'
        exact ⟨m, hm, _, _, _, _, rfl, hI5, rep5'⟩
      | true =>
      refine h₃' fr _ _ _ rep5' ?_
      rintro v lo₄ led₄ h4 tk4 h₄ rep6
      refine h₄ [.ref acc, v] rfl fr _ _ _ rep6 ?_
      rintro _ lo₅ led₅ h5 tk5 ⟨m, hm, hI5⟩ rep7
      exact ⟨m, hm, _, _, _, _, rfl, hI5, rep7⟩
  exact codeAny_compStart_list (loop _ rfl) (hself (fun b o e => hk1 b o (hk0 b o e)) (loop _ rfl))
noncomputable def Itr (prog : Program) (w : World) (c : Cx) (a : AV) (led led' : Led) (o₀ : AO) : Prop :=
  ∀ (v : Value) (lo : Lo) (fr : Led) (s : Shared) (Q : Value → Shared → Prop) (E : Value → Shared → Prop), er v = a → Rep w c lo (led ++ fr) s.heap →
    (∀ it h', Rep w c lo ((it, o₀) :: led' ++ fr) h' → (∀ {A : Around} {Q : Value → Shared → Prop} {E : Value → Shared → Prop} {h : Heap} {tk : Nat}, (∀ b o, h'.get? b = some o → h.get? b = some o) → Q (.ref it) { s with heap := h, toks := tk } → wpAny (model prog w) A (pyIter (.ref it)) Q E { s with heap := h, toks := tk }) → Q (.ref it) { s with heap := h' }) →
    wpAny (model prog w) c.A (pyIter v) Q E s
theorem itr_list {l : Addr} {items : List AV} (hat : At w c led l (.list items)) : Itr prog w c (.ref l) led led (.liter l 0) := by
  intro v lo fr s Q E hv rep kk
  obtain rfl := er_ref hv
  obtain ⟨vs, hl, hm⟩ := hat.list rep
  refine wpAny_pyIter_list hl ?_
  refine kk _ _ (rep.push { cls := .type "list_iterator", data := .fields #[.ref l, .int 0 0] } (.liter l 0) ⟨rfl, rfl⟩) ?_
  intro A' Q' E' hh tk hk hQ
  exact wpAny_pyIter_listiter (l := l) (i := 0) ⟨_, hk _ _ (Heap.get?_push_size _ rfl), rfl, rfl⟩ hQ
theorem itr_range {r : Addr} {k : Nat} (hz : k ≤ 1000) : Itr prog w c (.ref r) ((r, .range 0 k 1) :: led) led (.riter ((0 : Nat) : Int) ((k : Int) - (0 : Nat)) 1) := by
  intro v lo fr s Q E hv rep kk
  obtain rfl := er_ref hv
  obtain ⟨_, _, o, ho, t, u, v, rfl⟩ := rep.own _ (.head _)
  obtain ⟨hsm, hsz⟩ := small_range (k := k) (by omega)
  refine wpAny_pyIter_range ho hsm ?_
  rw [hsz]
  have rep₂ : Rep w c lo ((s.heap.objs.size, .riter ((0 : Nat) : Int) ((k : Int) - (0 : Nat)) 1) :: (led ++ fr)) _ := (rep.sub (List.sublist_cons_self _ _)).push { cls := .type "range_iterator", data := .fields #[rawInt 0, rawInt k, rawInt 1] } _ (by show _ = _; simp)
  refine kk _ _ rep₂ ?_
  intro A' Q' E' hh tk hk hQ
  exact wpAny_pyIter_rangeiter (hk _ _ (Heap.get?_push_size _ rfl)) hQ
theorem e_compE {elt iter : Expr} {ifs : List Expr} {x : Str} {px pos : Pos} {scope : Scope} {cl : List (Str × Addr)} (lo₀ : Lo) (ok : c.Ok w n) (hclos : closureFor scope c.env = pure cl)
    (hkind : scope.kind = .function) (hlo : ∀ y, look (relabel scope c.env).names lo₀ y = none) (hnames : ∀ y ∈ scope.names, y.2 = .local → scope.names.lookup y.1 = some .local)
    (h : WpV prog w c (eval iter c.env) (fun a lo₁ led₁ => ∃ led₂ o₀, Itr prog w c a led₁ led₂ o₀ ∧ ∀ it, CompBody prog w c n elt ifs x scope cl it lo₀ ((it, o₀) :: led₂) (fun acc led₃ => R (.ref acc) lo₁ led₃)) lo led)
    (hs : autoParam (∀ x, foldedSetIterable iter c.env x = pure x) mai._auto_1) :
    WpV prog w c (eval (.ListComp elt [⟨.Name x px, iter, ifs, 0⟩] scope pos) c.env) R lo led := by
  intro fr s Q E rep kk
  rw [eval_ListComp]
  refine wpAny_comprehension_free (use := none) rfl hs hclos hkind hnames (h fr s _ E rep ?_)
  rintro xv lo₁ led₁ h₁ t₁ ⟨led₂, o₀, hit, body⟩ rep₁
  refine hit xv lo₁ fr _ _ E rfl rep₁ fun it h' rep' hself => ?_
  refine comp_coreG (RR := fun acc C => compPost (model prog w) c.A E none Q acc C) ok hkind lo₀ hlo (body it) hself rep' ?_
  intro acc H c' lo₂ led₃ h2 tk2 rep1 hb hL hP rep4
  obtain ⟨m, hm, _⟩ := rep4.ns
  exact ⟨m, hm, fun h3 hs3 => kk (.ref acc) lo₁ led₃ h3 tk2 hP (rep1.sameBut hb hL rep4 hs3)⟩
theorem s_compU {elt iter : Expr} {ifs : List Expr} {x y : Str} {px py pos spos : Pos} {scope : Scope} {cl : List (Str × Addr)} {R : AF → Lo → Led → Prop} (lo₀ : Lo) (ok : c.Ok w n)
    (hsw : swapsWith (.ListComp elt [⟨.Name x px, iter, ifs, 0⟩] scope pos) (some (.Name y py)) spos.line c.env = pure true) (hclos : closureFor scope c.env = pure cl)
    (hkind : scope.kind = .function) (hlo : ∀ y, look (relabel scope c.env).names lo₀ y = none) (hnames : ∀ y ∈ scope.names, y.2 = .local → scope.names.lookup y.1 = some .local)
    (h : WpV prog w c (eval iter c.env) (fun a lo₁ led₁ => ∃ led₂ o₀, Itr prog w c a led₁ led₂ o₀ ∧ ∀ it, CompBody prog w c n elt ifs x scope cl it lo₀ ((it, o₀) :: led₂) (fun acc led₃ => Sto prog w c y (.ref acc) (R .next) lo₁ led₃)) lo led)
    (hs : autoParam (∀ x, foldedSetIterable iter c.env x = pure x) mai._auto_1) :
    WpS prog w c (exec (.Assign [.Name y py] (.ListComp elt [⟨.Name x px, iter, ifs, 0⟩] scope pos) spos) c.env) R lo led := by
  intro fr s Q E rep kk
  rw [exec_Assign_Name_used _ _ _ _ hsw]
  refine wpAny_bind (wpAny_standAt (wpAny_bind ?_))
  show wpAny _ c.A (do let _ ← comprehension (.ListComp elt [⟨.Name x px, iter, ifs, 0⟩] scope pos) scope c.env _ (newList []) false (eval iter c.env) (some (assign (.Name y py) c.env))) _ _ s
  refine wpAny_bind (wpAny_mono (wpAny_comprehension_free (use := some (assign (.Name y py) c.env)) (Q := fun _ s' => Q .next s') rfl hs hclos hkind hnames (h fr s _ E rep ?_))
    (fun _ s' hq => wpAny_pure (wpAny_pure hq)) fun _ _ e => e)
  rintro xv lo₁ led₁ h₁ t₁ ⟨led₂, o₀, hit, body⟩ rep₁
  refine hit xv lo₁ fr _ _ E rfl rep₁ fun it h' rep' hself => ?_
  refine comp_coreG (RR := fun acc C => compPost (model prog w) c.A E (some (assign (.Name y py) c.env)) (fun _ s' => Q .next s') acc C) ok hkind lo₀ hlo (body it) hself rep' ?_
  intro acc H c' lo₂ led₃ h2 tk2 rep1 hb hL hP rep4
  have rb := rep1.back hb rep4
  obtain ⟨m, ⟨oC, es, ep, hl, rest⟩, hm⟩ := rep4.ns
  have hlt : c.L < c'.L := by rw [hL]; exact rep1.lt
  have rbC : Rep w c lo₁ ((c'.L, .raw oC) :: (led₃ ++ fr)) h2 := by
    refine ⟨rb.ns, rb.keep, rb.above, fun q hq => ?_, List.nodup_cons.mpr ⟨fun hm => ?_, rb.nodup⟩⟩
    · rcases List.mem_cons.mp hq with rfl | hq
      · refine ⟨Nat.ne_of_gt hlt, ?_, oC, hl, rfl⟩
        cases e : c.base.get? c'.L with
        | none => rfl
        | some x => exact absurd (Heap.lt_size (rep1.keep _ _ e)) (by rw [hL]; exact Nat.lt_irrefl _)
      · exact rb.own q hq
    · obtain ⟨q, hq, e⟩ := List.mem_map.mp hm
      exact (rep4.own q hq).1 e
  show wpAny _ c.A (assign (.Name y py) c.env (.ref acc)) _ _ _
  refine wpAny_assign_Name (hP (.ref acc) rfl ((c'.L, .raw oC) :: fr) _ _ E (rbC.perm List.perm_middle.symm) ?_)
  intro _ lo' led' h3 tk3 hR rep5
  have rep6 := rep5.perm (led' := (c'.L, .raw oC) :: (led' ++ fr)) List.perm_middle
  obtain ⟨_, _, o, ho, rfl⟩ := rep6.own _ (.head _)
  exact ⟨m, ⟨_, es, ep, ho, rest⟩, fun h4 hs4 => kk .next lo' led' h4 tk3 hR (rep6.dropExt hs4.extBut)⟩
theorem Sto_perm {x : Str} {a : AV} {R : Lo → Led → Prop} (led' : Led) (p : led.Perm led') (h : Sto prog w c x a R lo led') : Sto prog w c x a R lo led := fun v hv => Wp_perm p (h v hv)
theorem Sto_mono {x : Str} {a : AV} {R R' : Lo → Led → Prop} (h : Sto prog w c x a R lo led) (hR : ∀ lo led, R lo led → R' lo led) : Sto prog w c x a R' lo led := fun v hv => Wp_mono (h v hv) fun _ lo led => hR lo led
structure Own (own : Option AV → Led → Led) (names : List (Str × NameKind)) (L : Addr) : Prop where
  mid : ∀ v a b l, (own v (a :: b :: l)).Perm (b :: own v (a :: l))
  midA : ∀ v a l, (own v (a :: l)).Perm (a :: own v l)
  sub : ∀ v (l : Led), l.Sublist (own v l)
  cells : ∀ l, cellLed0 names L ++ l = own none l
  up : ∀ v a x y l, Up a x y (own v ((a, x) :: l)) (own v ((a, y) :: l))
theorem Own.none {names : List (Str × NameKind)} {L : Addr} (h : cellLed0 names L = []) : Own (fun _ l => l) names L :=
  ⟨fun _ _ _ _ => List.Perm.swap _ _ _, fun _ _ _ => List.Perm.refl _, fun _ _ => List.Sublist.refl _, fun _ => by rw [h]; rfl, fun _ _ _ _ _ => .head⟩
theorem Own.one {names : List (Str × NameKind)} {L : Addr} {a : Addr} (h : cellLed0 names L = [(a, .cell Option.none)]) : Own (fun v l => (a, .cell v) :: l) names L :=
  ⟨fun v a b l => (List.Perm.cons _ (List.Perm.swap _ _ _)).trans (List.Perm.swap _ _ _), fun v a l => List.Perm.swap _ _ _, fun _ _ => List.sublist_cons_self _ _, fun _ => by rw [h]; rfl, fun _ _ _ _ _ => .tail .head⟩
theorem body_sieve {elt tst : Expr} {x' : Str} {scope : Scope} {cl : List (Str × Addr)} {it : Addr} {lo₀ : Lo} {led₁ : Led} {P : Addr → Led → Prop} (items : List Nat) {St : Nat → AO} (N : ∀ c' : Cx, c'.Ok w n → (∀ b o, c.base.get? b = some o → c'.base.get? b = some o) → Nexts prog w c' it (items.map fun (x : Nat) => AV.int x) St (fun led => led₁.Sublist led)) (p : Nat → Bool) (LO : Lo → Prop) (own : Addr → Option AV → Led → Led)
    (hown : ∀ L, Own (own L) scope.names L) (hz : items.length ≤ 1000) (hlo₀ : LO lo₀)
    (hturn : ∀ (acc : Addr) (c' : Cx), c'.Ok w n → c'.env = compEnvC scope (cellsFrom (c'.L + 1) scope.names cl) c'.L c.env → (∀ b o, c.base.get? b = some o → c'.base.get? b = some o) →
      ∀ (o : AO) (y : Nat) (v : Option AV) (ys : List Nat) (lo : Lo), y ∈ items → LO lo → Sto prog w c' x' (.int y) (fun lo₁ led₃ => Wp prog w c' (isTrue tst c'.env (eval tst c'.env)) (fun b lo₂ led₃ => b = p y ∧ LO lo₂ ∧ ∃ v', (own c'.L v' ((acc, natsO ys) :: (it, o) :: led₁)).Sublist led₃ ∧
        (p y = true → WpV prog w c' (eval elt c'.env) (fun a lo₃ led₄ => a = .int y ∧ LO lo₃ ∧ led₄ = own c'.L v' ((acc, natsO ys) :: (it, o) :: led₁)) lo₂ (own c'.L v' ((acc, natsO ys) :: (it, o) :: led₁)))) lo₁ led₃) lo (own c'.L v ((acc, natsO ys) :: (it, o) :: led₁)))
    (done : ∀ acc, P acc ((acc, natsO (items.filter p)) :: led₁)) (hP : ∀ acc l l', l.Sublist l' → P acc l → P acc l') :
    CompBody prog w c n elt [tst] x' scope cl it lo₀ ((it, St 0) :: led₁) P := by
  intro acc c' ok' he hx'
  have ho := hown c'.L
  refine ⟨fun k lo led => LO lo ∧ ∃ i v, k = items.length - i ∧ i ≤ items.length ∧ led = own c'.L v ((acc, natsO ((items.take i).filter p)) :: (it, St i) :: led₁), items.length, ⟨hlo₀, 0, none, by omega, by omega, ?_⟩, ?_⟩
  · rw [ho.cells]; rfl
  rintro k lo₁ led' ⟨hL, i, v, rfl, hi, rfl⟩
  have hsd : ∀ v ys, led₁.Sublist (own c'.L v ((acc, natsO ys) :: led₁)) := fun v ys => (List.sublist_cons_self _ _).trans (ho.sub _ _)
  by_cases e : i < items.length
  · have hx := List.getElem?_eq_getElem e
    refine Wp_perm (ho.mid v _ _ _) ?_
    refine Wp_mono ((N c' ok' hx').some i (.int (items[i] : Nat)) lo₁ _ (by rw [List.getElem?_map, hx]; rfl) (hsd _ _)) ?_
    rintro r lo₂ led₂ ⟨u, rfl, hu, rfl, rfl⟩
    dsimp only
    rw [hu]
    refine Sto_perm _ (ho.mid v _ _ _).symm ?_
    refine Sto_mono (hturn acc c' ok' he hx' _ _ v _ lo₂ (List.mem_of_getElem? hx) hL) fun lo₃ led₃ h₃ => ?_
    refine Wp_tests_one (Wp_drop (Wp_mono h₃ ?_))
    rintro b lo₄ led₄ ⟨rfl, hL₄, v', hs, hb⟩
    refine ⟨_, hs, ?_⟩
    cases hp : p items[i] with
    | false =>
      rw [if_neg Bool.false_ne_true]
      refine ⟨items.length - (i + 1), by omega, hL₄, i + 1, v', rfl, by omega, ?_⟩
      rw [take_succ' hx, List.filter_append, List.filter_cons, hp]
      simp
    | true =>
      rw [if_pos rfl]
      refine Wp_mono (hb hp) ?_
      rintro a lo₅ led₅ ⟨ha, hL₅, rfl⟩
      rw [ha]
      have e2 : ((items.take i).filter p).length ≤ 1000 := Nat.le_trans (List.length_filter_le _ _) (Nat.le_trans (List.length_take_le' _ _) hz)
      refine k_append (xs := ((items.take i).filter p).map fun (x : Nat) => AV.int x) (led' := own c'.L v' ((acc, natsO ((items.take i).filter p ++ [items[i]])) :: (it, St (i + 1)) :: led₁)) ?_ (by rw [List.length_map]; omega) ?_
      · have := ho.up v' acc (natsO ((items.take i).filter p)) (natsO ((items.take i).filter p ++ [items[i]])) ((it, St (i + 1)) :: led₁)
        simpa [natsO] using this
      · refine ⟨items.length - (i + 1), by omega, hL₅, i + 1, v', rfl, by omega, ?_⟩
        rw [take_succ' hx, List.filter_append, List.filter_cons, hp]
        rfl
  · obtain rfl : i = items.length := by omega
    refine Wp_perm (ho.mid v _ _ _) ?_
    have hn := (N c' ok' hx').none lo₁ (own c'.L v ((acc, natsO ((items.take items.length).filter p)) :: led₁)) (hsd _ _)
    rw [List.length_map] at hn
    refine Wp_mono hn ?_
    rintro r lo₂ led₂ ⟨rfl, rfl, rfl⟩
    refine hP _ _ _ (ho.sub _ _) ?_
    rw [List.take_length]
    exact done acc
theorem nexts_mono {it : Addr} {items : List AV} {St : Nat → AO} {side side' : Led → Prop} (N : Nexts prog w c it items St side) (h : ∀ led, side' led → side led) : Nexts prog w c it items St side' :=
  ⟨fun i v lo led hi hs => N.some i v lo led hi (h _ hs), fun lo led hs => N.none lo led (h _ hs)⟩
theorem nx_range {it : Addr} {k : Nat} {led₁ : Led} (c' : Cx) (ok' : c'.Ok w n) : Nexts prog w c' it ((List.range k).map fun (x : Nat) => AV.int x) (fun i => .riter i ((k : Int) - i) 1) (fun led => led₁.Sublist led) :=
  nexts_mono (nexts_range (k := k) ok'.handled) fun _ _ => trivial
theorem nx_list {it l : Addr} {items : List AV} {led₁ : Led} (hat : At w c led₁ l (.list items)) (c' : Cx) (ok' : c'.Ok w n) (hx : ∀ b o, c.base.get? b = some o → c'.base.get? b = some o) : Nexts prog w c' it items (fun i => .liter l i) (fun led => led₁.Sublist led) :=
  nexts_mono (nexts_list ok'.handled) fun led hs => by
    rcases hat with h1 | ⟨ob, h1, h2⟩
    · exact .inl (hs.subset h1)
    · exact .inr ⟨ob, hx _ _ h1, h2⟩
theorem body_gather {elt : Expr} {x' : Str} {scope : Scope} {cl : List (Str × Addr)} {it : Addr} {lo₀ : Lo} {led₁ : Led} {P : Addr → Led → Prop} (items : List AV) {St : Nat → AO} {side : Led → Prop} (N : ∀ c' : Cx, c'.Ok w n → (∀ b o, c.base.get? b = some o → c'.base.get? b = some o) → Nexts prog w c' it items St side) (J : Nat → Lo → List AV → Led → Prop)
    (hcell : ∀ L, cellLed0 scope.names L = []) (hz : items.length ≤ 1000) (h0 : J 0 lo₀ [] led₁) (hside : ∀ i lo ys led a, J i lo ys led → side (a :: led)) (hlen : ∀ i lo ys led, J i lo ys led → ys.length ≤ i)
    (hturn : ∀ (acc : Addr) (c' : Cx), c'.Ok w n → c'.env = compEnvC scope (cellsFrom (c'.L + 1) scope.names cl) c'.L c.env → (∀ b o, c.base.get? b = some o → c'.base.get? b = some o) →
      ∀ (o : AO) (i : Nat) (v : AV) (ys : List AV) (lo : Lo) (led : Led), items[i]? = some v → J i lo ys led → Sto prog w c' x' v (fun lo₁ led₁ => WpV prog w c' (eval elt c'.env) (fun a lo₂ led₂ => ∃ l, ((acc, .list ys) :: (it, o) :: l).Sublist led₂ ∧ J (i + 1) lo₂ (ys ++ [a]) l) lo₁ led₁) lo ((acc, .list ys) :: (it, o) :: led))
    (done : ∀ acc lo ys led, J items.length lo ys led → P acc ((acc, .list ys) :: led)) :
    CompBody prog w c n elt [] x' scope cl it lo₀ ((it, St 0) :: led₁) P := by
  intro acc c' ok' he hx'
  refine ⟨fun k lo led => ∃ i ys l, k = items.length - i ∧ i ≤ items.length ∧ J i lo ys l ∧ led = (acc, .list ys) :: (it, St i) :: l, items.length, ⟨0, [], led₁, by omega, by omega, h0, ?_⟩, ?_⟩
  · rw [hcell]; rfl
  rintro k lo₁ led' ⟨i, ys, l, rfl, hi, hJ, rfl⟩
  by_cases e : i < items.length
  · have hx := List.getElem?_eq_getElem e
    refine Wp_perm (List.Perm.swap _ _ _) ?_
    refine Wp_mono ((N c' ok' hx').some i items[i] lo₁ _ hx (hside _ _ _ _ _ hJ)) ?_
    rintro r lo₂ led₂ ⟨u, rfl, hu, rfl, rfl⟩
    dsimp only
    rw [hu]
    refine Sto_perm _ (List.Perm.swap _ _ _) ?_
    refine Sto_mono (hturn acc c' ok' he hx' _ i _ _ lo₂ _ hx hJ) fun lo₃ led₃ h₃ => ?_
    refine Wp_tests_nil ?_
    rw [if_pos rfl]
    refine Wp_drop (Wp_mono h₃ ?_)
    rintro a lo₄ led₄ ⟨l', hs, hJ'⟩
    refine ⟨_, hs, ?_⟩
    refine k_append (led' := (acc, .list (ys ++ [er a])) :: (it, St (i + 1)) :: l') .head (by have := hlen _ _ _ _ hJ; omega) ?_
    exact ⟨items.length - (i + 1), by omega, i + 1, _, l', rfl, by omega, hJ', rfl⟩
  · obtain rfl : i = items.length := by omega
    refine Wp_perm (List.Perm.swap _ _ _) ?_
    refine Wp_mono ((N c' ok' hx').none lo₁ _ (hside _ _ _ _ _ hJ)) ?_
    rintro r lo₂ led₂ ⟨rfl, rfl, rfl⟩
    exact done acc _ _ _ hJ
theorem e_sieve_range {elt iter tst : Expr} {x : Str} {px pos : Pos} {scope : Scope} {cl : List (Str × Addr)} (k₀ : Nat) (p : Nat → Bool) (LO : Lo → Prop) (own : Addr → Option AV → Led → Led) (lo₀ : Lo) (ok : c.Ok w n) (hclos : closureFor scope c.env = pure cl)
    (hkind : scope.kind = .function) (hlo : ∀ y, look (relabel scope c.env).names lo₀ y = none) (hnames : ∀ y ∈ scope.names, y.2 = .local → scope.names.lookup y.1 = some .local)
    (hown : ∀ L, Own (own L) scope.names L) (hz : k₀ ≤ 1000) (hlo₀ : LO lo₀)
    (h : WpV prog w c (eval iter c.env) (fun a lo₁ led₁ => ∃ r led₂, a = .ref r ∧ led₁ = (r, .range 0 (k₀ : Nat) 1) :: led₂ ∧
      (∀ (it acc : Addr) (c' : Cx), c'.Ok w n → c'.env = compEnvC scope (cellsFrom (c'.L + 1) scope.names cl) c'.L c.env → (∀ b o, c.base.get? b = some o → c'.base.get? b = some o) →
        ∀ (o : AO) (y : Nat) (v : Option AV) (ys : List Nat) (lo : Lo), y < k₀ → LO lo → Sto prog w c' x (.int y) (fun lo₁ led₃ => Wp prog w c' (isTrue tst c'.env (eval tst c'.env)) (fun b lo₂ led₃ => b = p y ∧ LO lo₂ ∧ ∃ v', (own c'.L v' ((acc, natsO ys) :: (it, o) :: led₂)).Sublist led₃ ∧
          (p y = true → WpV prog w c' (eval elt c'.env) (fun a lo₃ led₄ => a = .int y ∧ LO lo₃ ∧ led₄ = own c'.L v' ((acc, natsO ys) :: (it, o) :: led₂)) lo₂ (own c'.L v' ((acc, natsO ys) :: (it, o) :: led₂)))) lo₁ led₃) lo (own c'.L v ((acc, natsO ys) :: (it, o) :: led₂))) ∧
      ∀ acc, R (.ref acc) lo₁ ((acc, natsO ((List.range k₀).filter p)) :: led₂)) lo led)
    (hs : autoParam (∀ x, foldedSetIterable iter c.env x = pure x) mai._auto_1) :
    WpV prog w c (eval (.ListComp elt [⟨.Name x px, iter, [tst], 0⟩] scope pos) c.env) R lo led := by
  refine Wp_drop (e_compE (R := fun a lo led => ∃ l, l.Sublist led ∧ R a lo l) lo₀ ok hclos hkind hlo hnames (Wp_mono h ?_) hs)
  rintro a lo₁ led₁ ⟨r, led₂, ha, rfl, hturn, hdone⟩
  refine ⟨led₂, _, ha ▸ itr_range hz, fun it => ?_⟩
  refine body_sieve (List.range k₀) (St := fun i => .riter i ((k₀ : Int) - i) 1) (fun c' ok' _ => nx_range c' ok') p LO own hown (by rw [List.length_range]; exact hz) hlo₀ (fun acc c' ok' he hx o y v ys lo hy hL => hturn it acc c' ok' he hx o y v ys lo (List.mem_range.mp hy) hL) (fun acc => ⟨_, List.Sublist.refl _, hdone acc⟩) ?_
  rintro acc l l' hl ⟨q, hq, hR⟩
  exact ⟨q, hq.trans hl, hR⟩
theorem s_sieve_range {elt iter tst : Expr} {x y : Str} {px py pos spos : Pos} {scope : Scope} {cl : List (Str × Addr)} {R : AF → Lo → Led → Prop} (k₀ : Nat) (p : Nat → Bool) (LO : Lo → Prop) (own : Addr → Option AV → Led → Led) (lo₀ : Lo) (ok : c.Ok w n) (hsw : swapsWith (.ListComp elt [⟨.Name x px, iter, [tst], 0⟩] scope pos) (some (.Name y py)) spos.line c.env = pure true) (hclos : closureFor scope c.env = pure cl)
    (hkind : scope.kind = .function) (hlo : ∀ y, look (relabel scope c.env).names lo₀ y = none) (hnames : ∀ y ∈ scope.names, y.2 = .local → scope.names.lookup y.1 = some .local)
    (hown : ∀ L, Own (own L) scope.names L) (hz : k₀ ≤ 1000) (hlo₀ : LO lo₀)
    (h : WpV prog w c (eval iter c.env) (fun a lo₁ led₁ => ∃ r led₂, a = .ref r ∧ led₁ = (r, .range 0 (k₀ : Nat) 1) :: led₂ ∧
      (∀ (it acc : Addr) (c' : Cx), c'.Ok w n → c'.env = compEnvC scope (cellsFrom (c'.L + 1) scope.names cl) c'.L c.env → (∀ b o, c.base.get? b = some o → c'.base.get? b = some o) →
        ∀ (o : AO) (y : Nat) (v : Option AV) (ys : List Nat) (lo : Lo), y < k₀ → LO lo → Sto prog w c' x (.int y) (fun lo₁ led₃ => Wp prog w c' (isTrue tst c'.env (eval tst c'.env)) (fun b lo₂ led₃ => b = p y ∧ LO lo₂ ∧ ∃ v', (own c'.L v' ((acc, natsO ys) :: (it, o) :: led₂)).Sublist led₃ ∧
          (p y = true → WpV prog w c' (eval elt c'.env) (fun a lo₃ led₄ => a = .int y ∧ LO lo₃ ∧ led₄ = own c'.L v' ((acc, natsO ys) :: (it, o) :: led₂)) lo₂ (own c'.L v' ((acc, natsO ys) :: (it, o) :: led₂)))) lo₁ led₃) lo (own c'.L v ((acc, natsO ys) :: (it, o) :: led₂))) ∧
      ∀ acc, Sto prog w c y (.ref acc) (R .next) lo₁ ((acc, natsO ((List.range k₀).filter p)) :: led₂)) lo led)
    (hs : autoParam (∀ x, foldedSetIterable iter c.env x = pure x) mai._auto_1) :
    WpS prog w c (exec (.Assign [.Name y py] (.ListComp elt [⟨.Name x px, iter, [tst], 0⟩] scope pos) spos) c.env) R lo led := by
  refine s_compU lo₀ ok hsw hclos hkind hlo hnames (Wp_mono h ?_) hs
  rintro a lo₁ led₁ ⟨r, led₂, ha, rfl, hturn, hdone⟩
  refine ⟨led₂, _, ha ▸ itr_range hz, fun it => ?_⟩
  refine body_sieve (List.range k₀) (St := fun i => .riter i ((k₀ : Int) - i) 1) (fun c' ok' _ => nx_range c' ok') p LO own hown (by rw [List.length_range]; exact hz) hlo₀ (fun acc c' ok' he hx o y v ys lo hy hL => hturn it acc c' ok' he hx o y v ys lo (List.mem_range.mp hy) hL) hdone ?_
  exact fun acc l l' hl hR v hv => Wp_pre hl (hR v hv)
theorem e_sieve_list {elt iter tst : Expr} {x : Str} {px pos : Pos} {scope : Scope} {cl : List (Str × Addr)} (items : List Nat) (p : Nat → Bool) (LO : Lo → Prop) (own : Addr → Option AV → Led → Led) (lo₀ : Lo) (ok : c.Ok w n) (hclos : closureFor scope c.env = pure cl)
    (hkind : scope.kind = .function) (hlo : ∀ y, look (relabel scope c.env).names lo₀ y = none) (hnames : ∀ y ∈ scope.names, y.2 = .local → scope.names.lookup y.1 = some .local)
    (hown : ∀ L, Own (own L) scope.names L) (hz : items.length ≤ 1000) (hlo₀ : LO lo₀)
    (h : WpV prog w c (eval iter c.env) (fun a lo₁ led₁ => ∃ l, a = .ref l ∧ At w c led₁ l (natsO items) ∧
      (∀ (it acc : Addr) (c' : Cx), c'.Ok w n → c'.env = compEnvC scope (cellsFrom (c'.L + 1) scope.names cl) c'.L c.env → (∀ b o, c.base.get? b = some o → c'.base.get? b = some o) →
        ∀ (o : AO) (y : Nat) (v : Option AV) (ys : List Nat) (lo : Lo), y ∈ items → LO lo → Sto prog w c' x (.int y) (fun lo₁ led₃ => Wp prog w c' (isTrue tst c'.env (eval tst c'.env)) (fun b lo₂ led₃ => b = p y ∧ LO lo₂ ∧ ∃ v', (own c'.L v' ((acc, natsO ys) :: (it, o) :: led₁)).Sublist led₃ ∧
          (p y = true → WpV prog w c' (eval elt c'.env) (fun a lo₃ led₄ => a = .int y ∧ LO lo₃ ∧ led₄ = own c'.L v' ((acc, natsO ys) :: (it, o) :: led₁)) lo₂ (own c'.L v' ((acc, natsO ys) :: (it, o) :: led₁)))) lo₁ led₃) lo (own c'.L v ((acc, natsO ys) :: (it, o) :: led₁))) ∧
      ∀ acc, R (.ref acc) lo₁ ((acc, natsO (items.filter p)) :: led₁)) lo led)
    (hs : autoParam (∀ x, foldedSetIterable iter c.env x = pure x) mai._auto_1) :
    WpV prog w c (eval (.ListComp elt [⟨.Name x px, iter, [tst], 0⟩] scope pos) c.env) R lo led := by
  refine Wp_drop (e_compE (R := fun a lo led => ∃ l, l.Sublist led ∧ R a lo l) lo₀ ok hclos hkind hlo hnames (Wp_mono h ?_) hs)
  rintro a lo₁ led₁ ⟨l, ha, hat, hturn, hdone⟩
  refine ⟨led₁, _, ha ▸ itr_list hat, fun it => ?_⟩
  refine body_sieve items (St := fun i => .liter l i) (fun c' ok' hx => nx_list hat c' ok' hx) p LO own hown hz hlo₀ (fun acc c' ok' he hx o y v ys lo hy hL => hturn it acc c' ok' he hx o y v ys lo hy hL) (fun acc => ⟨_, List.Sublist.refl _, hdone acc⟩) ?_
  rintro acc l l' hl ⟨q, hq, hR⟩
  exact ⟨q, hq.trans hl, hR⟩
theorem e_map_range {elt iter : Expr} {x : Str} {px pos : Pos} {scope : Scope} {cl : List (Str × Addr)} (k₀ : Nat) (f : Nat → AV) (LO : Lo → Prop) (lo₀ : Lo) (ok : c.Ok w n) (hclos : closureFor scope c.env = pure cl)
    (hkind : scope.kind = .function) (hlo : ∀ y, look (relabel scope c.env).names lo₀ y = none) (hnames : ∀ y ∈ scope.names, y.2 = .local → scope.names.lookup y.1 = some .local)
    (hcell : ∀ L, cellLed0 scope.names L = []) (hz : k₀ ≤ 1000) (hlo₀ : LO lo₀)
    (h : WpV prog w c (eval iter c.env) (fun a lo₁ led₁ => ∃ r led₂, a = .ref r ∧ led₁ = (r, .range 0 (k₀ : Nat) 1) :: led₂ ∧
      (∀ (it acc : Addr) (c' : Cx), c'.Ok w n → c'.env = compEnvC scope (cellsFrom (c'.L + 1) scope.names cl) c'.L c.env → (∀ b o, c.base.get? b = some o → c'.base.get? b = some o) →
        ∀ (o : AO) (y : Nat) (ys : List AV) (lo : Lo), y < k₀ → LO lo → Sto prog w c' x (.int y) (fun lo₁ led₃ => WpV prog w c' (eval elt c'.env) (fun a lo₂ led₄ => a = f y ∧ LO lo₂ ∧ ((acc, .list ys) :: (it, o) :: led₂).Sublist led₄) lo₁ led₃) lo ((acc, .list ys) :: (it, o) :: led₂)) ∧
      ∀ acc, R (.ref acc) lo₁ ((acc, .list ((List.range k₀).map f)) :: led₂)) lo led)
    (hs : autoParam (∀ x, foldedSetIterable iter c.env x = pure x) mai._auto_1) :
    WpV prog w c (eval (.ListComp elt [⟨.Name x px, iter, [], 0⟩] scope pos) c.env) R lo led := by
  refine e_compE lo₀ ok hclos hkind hlo hnames (Wp_mono h ?_) hs
  rintro a lo₁ led₁ ⟨r, led₂, ha, rfl, hturn, hdone⟩
  refine ⟨led₂, _, ha ▸ itr_range hz, fun it => ?_⟩
  refine body_gather (rangeOf k₀) (St := fun i => .riter i ((k₀ : Int) - i) 1) (side := fun _ => True) (fun c' ok' _ => nexts_range (k := k₀) ok'.handled) (fun i lo ys led => LO lo ∧ ys = (List.range i).map f ∧ led = led₂) hcell (by rw [rangeOf_len]; exact hz) ⟨hlo₀, rfl, rfl⟩ (fun _ _ _ _ _ _ => trivial) (fun i lo ys led hJ => by rw [hJ.2.1]; simp) ?_ ?_
  · rintro acc c' ok' he hx o i v ys lo led hi ⟨hL, rfl, rfl⟩
    obtain ⟨hi2, rfl⟩ := rangeOf_get hi
    refine Sto_mono (hturn it acc c' ok' he hx o i _ lo hi2 hL) fun lo₃ led₃ h₃ => Wp_mono h₃ ?_
    rintro a lo₄ led₄ ⟨ha, hL4, hs⟩
    exact ⟨led, hs, hL4, by rw [ha, List.range_succ, List.map_append]; rfl, rfl⟩
  · rintro acc lo ys led ⟨_, rfl, rfl⟩
    rw [rangeOf_len]
    exact hdone acc
end
end Mine
namespace Mine
open PySem PySem.Spec PySem.Calls PyProof.Rows PySem.W
noncomputable abbrev ns_l_by_sending_c : List (Str × NameKind) := [(Str.ofString ".0", .local), (Str.ofString "a", .local), (Str.ofString "machine", .cell)]
theorem nm_l_by_sending_c_a : NL ns_l_by_sending_c (Str.ofString "a") 1 .local := ⟨by kernel_rfl, by kernel_rfl, by kernel_rfl⟩
theorem nm_l_by_sending_c_machine : NL ns_l_by_sending_c (Str.ofString "machine") 2 .cell := ⟨by kernel_rfl, by kernel_rfl, by kernel_rfl⟩
noncomputable abbrev ns_l_by_division_c0 : List (Str × NameKind) := [(Str.ofString ".0", .local), (Str.ofString "k", .local), (Str.ofString "ones", .cell)]
theorem nm_l_by_division_c0_k : NL ns_l_by_division_c0 (Str.ofString "k") 1 .local := ⟨by kernel_rfl, by kernel_rfl, by kernel_rfl⟩
theorem nm_l_by_division_c0_ones : NL ns_l_by_division_c0 (Str.ofString "ones") 2 .cell := ⟨by kernel_rfl, by kernel_rfl, by kernel_rfl⟩
noncomputable abbrev ns_l_by_division_c1 : List (Str × NameKind) := [(Str.ofString ".0", .local), (Str.ofString "k", .local), (Str.ofString "others", .cell)]
theorem nm_l_by_division_c1_k : NL ns_l_by_division_c1 (Str.ofString "k") 1 .local := ⟨by kernel_rfl, by kernel_rfl, by kernel_rfl⟩
theorem nm_l_by_division_c1_others : NL ns_l_by_division_c1 (Str.ofString "others") 2 .cell := ⟨by kernel_rfl, by kernel_rfl, by kernel_rfl⟩
noncomputable abbrev ns_l_widened_c0 : List (Str × NameKind) := [(Str.ofString ".0", .local), (Str.ofString "k", .cell), (Str.ofString "size", .cell), (Str.ofString "some", .cell), (Str.ofString "turns", .cell)]
theorem nm_l_widened_c0_k : NL ns_l_widened_c0 (Str.ofString "k") 1 .cell := ⟨by kernel_rfl, by kernel_rfl, by kernel_rfl⟩
theorem nm_l_widened_c0_turns : NL ns_l_widened_c0 (Str.ofString "turns") 4 .cell := ⟨by kernel_rfl, by kernel_rfl, by kernel_rfl⟩
noncomputable abbrev ns_l_widened_c1 : List (Str × NameKind) := [(Str.ofString ".0", .local), (Str.ofString "t", .local), (Str.ofString "k", .cell), (Str.ofString "size", .cell), (Str.ofString "some", .cell)]
theorem nm_l_widened_c1_t : NL ns_l_widened_c1 (Str.ofString "t") 1 .local := ⟨by kernel_rfl, by kernel_rfl, by kernel_rfl⟩
theorem nm_l_widened_c1_k : NL ns_l_widened_c1 (Str.ofString "k") 2 .cell := ⟨by kernel_rfl, by kernel_rfl, by kernel_rfl⟩
theorem nm_l_widened_c1_size : NL ns_l_widened_c1 (Str.ofString "size") 3 .cell := ⟨by kernel_rfl, by kernel_rfl, by kernel_rfl⟩
theorem nm_l_widened_c1_some : NL ns_l_widened_c1 (Str.ofString "some") 4 .cell := ⟨by kernel_rfl, by kernel_rfl, by kernel_rfl⟩
noncomputable abbrev ns_l_kneser_c0 : List (Str × NameKind) := [(Str.ofString ".0", .local), (Str.ofString "k", .local), (Str.ofString "often", .cell)]
theorem nm_l_kneser_c0_k : NL ns_l_kneser_c0 (Str.ofString "k") 1 .local := ⟨by kernel_rfl, by kernel_rfl, by kernel_rfl⟩
theorem nm_l_kneser_c0_often : NL ns_l_kneser_c0 (Str.ofString "often") 2 .cell := ⟨by kernel_rfl, by kernel_rfl, by kernel_rfl⟩
noncomputable abbrev ns_l_kneser_c1 : List (Str × NameKind) := [(Str.ofString ".0", .local), (Str.ofString "t", .cell), (Str.ofString "size", .cell), (Str.ofString "sums", .cell)]
theorem nm_l_kneser_c1_t : NL ns_l_kneser_c1 (Str.ofString "t") 1 .cell := ⟨by kernel_rfl, by kernel_rfl, by kernel_rfl⟩
theorem nm_l_kneser_c1_sums : NL ns_l_kneser_c1 (Str.ofString "sums") 3 .cell := ⟨by kernel_rfl, by kernel_rfl, by kernel_rfl⟩
noncomputable abbrev ns_l_kneser_c2 : List (Str × NameKind) := [(Str.ofString ".0", .local), (Str.ofString "k", .local), (Str.ofString "size", .cell), (Str.ofString "sums", .cell), (Str.ofString "t", .cell)]
theorem nm_l_kneser_c2_k : NL ns_l_kneser_c2 (Str.ofString "k") 1 .local := ⟨by kernel_rfl, by kernel_rfl, by kernel_rfl⟩
theorem nm_l_kneser_c2_size : NL ns_l_kneser_c2 (Str.ofString "size") 2 .cell := ⟨by kernel_rfl, by kernel_rfl, by kernel_rfl⟩
theorem nm_l_kneser_c2_sums : NL ns_l_kneser_c2 (Str.ofString "sums") 3 .cell := ⟨by kernel_rfl, by kernel_rfl, by kernel_rfl⟩
theorem nm_l_kneser_c2_t : NL ns_l_kneser_c2 (Str.ofString "t") 4 .cell := ⟨by kernel_rfl, by kernel_rfl, by kernel_rfl⟩
end Mine
namespace Mine
open PySem PySem.Spec PySem.Calls PyProof.Rows PySem.W
section
variable {prog : Program} {w : World} {c : Cx} {lo : Lo} {led : Led} {R : AV → Lo → Led → Prop}
theorem k_divmod {a b : Int} (hb : b ≠ 0) (hp : Builtin.divisionGoesByPylong a b = false) (h : ∀ d, R (.ref d) lo ((d, .tuple [.int (a.fdiv b), .int (a.fmod b)]) :: led)) : Call prog w c (.builtin "divmod") [.int a, .int b] R lo led := by
  intro vs hvs
  obtain ⟨v, u, rfl, hv, hu⟩ := two_of hvs; obtain ⟨t, rfl⟩ := er_int hv; obtain ⟨t', rfl⟩ := er_int hu
  intro fr s Q E rep kk
  obtain ⟨m, F, hm⟩ := rep.toFr
  obtain ⟨news, N, M⟩ := rep.toNews
  refine divmod_N F N hb (fun h' F' N' => ?_) (.inl hp)
  exact kk _ _ _ _ _ (h _) (rep.newsPush hm M F' N' ⟨[_, _], 0, rfl, rfl⟩ (rep.freshS (k := 0)))
theorem k_bits {a : Int} (h : R (.int (Builtin.Int.intBits a)) lo led) : Call prog w c (.builtin "int.bit_length") [.int a] R lo led := by
  intro vs hvs
  have hlen : vs.length = 1 := by simpa using congrArg List.length hvs
  obtain ⟨v, rfl⟩ := len1 hlen
  injection hvs with e1 _
  obtain ⟨t, rfl⟩ := er_int e1
  intro fr s Q E rep kk
  exact call_int_bit_length (kk _ _ _ _ _ h rep)
theorem m_bits {pl : Sem Bool} {a : Int} {R : AV → List AV → Lo → Led → Prop} (h : R (er (.builtin "int.bit_length")) [.int a] lo led) : Met prog w c pl "bit_length" (.int a) R lo led := by
  intro v hv; obtain ⟨t, rfl⟩ := er_int hv
  intro fr s Q E rep kk
  refine getMethod_int_bit_length ?_
  exact kk (.builtin "int.bit_length", [.int a t]) lo led s.heap s.toks h rep
end
end Mine
namespace Mine
open PySem PySem.W PyProof.Rows
noncomputable def dval (n : Nat) : List Nat → Nat
  | [] => 0
  | d :: r => d + 2 ^ n * dval n r
theorem dval_app (n : Nat) : ∀ a b : List Nat, dval n (a ++ b) = dval n a + 2 ^ (n * a.length) * dval n b
  | [], b => by simp [dval]
  | d :: r, b => by
    rw [List.cons_append, dval, dval, dval_app n r b, List.length_cons, Nat.mul_succ, Nat.pow_add, Nat.mul_add, ← Nat.mul_assoc, Nat.mul_comm (2 ^ n) (2 ^ (n * r.length)), Nat.add_assoc]
theorem dval_lt (n : Nat) : ∀ a : List Nat, (∀ d ∈ a, d < 2 ^ n) → dval n a < 2 ^ (n * a.length)
  | [], _ => by simp [dval]
  | d :: r, h => by
    have h1 := dval_lt n r fun x hx => h x (.tail _ hx)
    have h2 := h d (.head _)
    rw [dval, List.length_cons, Nat.mul_succ, Nat.pow_add, Nat.mul_comm (2 ^ (n * r.length))]
    have h3 : 2 ^ n * dval n r + 2 ^ n ≤ 2 ^ n * 2 ^ (n * r.length) := by
      rw [← Nat.mul_succ]; exact Nat.mul_le_mul_left _ h1
    omega
theorem dval_one (n : Nat) {ds : List Nat} {L : Nat} (h : L < ds.length) : dval n ((ds.drop L).take 1) = ds.getD L 0 := by
  rw [List.drop_eq_getElem_cons h, List.take_succ_cons, List.take_zero, List.getD_eq_getElem?_getD, List.getElem?_eq_getElem h]
  show ds[L] + 2 ^ n * 0 = _
  rw [Nat.mul_zero]; rfl
noncomputable def digs (n : Nat) : Nat → Nat → List Nat
  | 0, _ => []
  | k + 1, x => x % 2 ^ n :: digs n k (x / 2 ^ n)
theorem digs_len (n : Nat) : ∀ k x, (digs n k x).length = k
  | 0, _ => rfl
  | k + 1, x => by rw [digs, List.length_cons, digs_len n k]
theorem digs_app (n : Nat) : ∀ k j x, digs n (k + j) x = digs n k (x % 2 ^ (n * k)) ++ digs n j (x / 2 ^ (n * k))
  | 0, j, x => by simp [digs]
  | k + 1, j, x => by
    rw [show k + 1 + j = (k + j) + 1 by omega, digs, digs_app n k j, digs, List.cons_append]
    have e1 : x % 2 ^ (n * (k + 1)) % 2 ^ n = x % 2 ^ n := Nat.mod_mod_of_dvd _ (Nat.pow_dvd_pow 2 (by rw [Nat.mul_succ]; omega))
    have e2 : x / 2 ^ n / 2 ^ (n * k) = x / 2 ^ (n * (k + 1)) := by
      rw [Nat.div_div_eq_div_mul, ← Nat.pow_add, Nat.mul_succ, Nat.add_comm]
    have e3 : x / 2 ^ n % 2 ^ (n * k) = x % 2 ^ (n * (k + 1)) / 2 ^ n := by
      rw [Nat.mul_succ, Nat.pow_add, Nat.mul_comm (2 ^ (n * k)), Nat.mod_mul_right_div_self]
    rw [e1, e2, e3]
theorem digs_zero (n : Nat) : ∀ k, digs n k 0 = List.replicate k 0
  | 0 => rfl
  | k + 1 => by rw [digs, Nat.zero_mod, Nat.zero_div, digs_zero n k]; rfl
theorem digs_dval (n : Nat) : ∀ a : List Nat, (∀ d ∈ a, d < 2 ^ n) → digs n a.length (dval n a) = a
  | [], _ => rfl
  | d :: r, h => by
    have h2 := h d (.head _)
    rw [List.length_cons, digs, dval, Nat.add_mul_mod_self_left, Nat.mod_eq_of_lt h2, Nat.add_mul_div_left _ _ (Nat.two_pow_pos n), Nat.div_eq_of_lt h2, Nat.zero_add, digs_dval n r fun x hx => h x (.tail _ hx)]
theorem and_upper (x s : Nat) : x &&& (x / 2 ^ s * 2 ^ s) = x / 2 ^ s * 2 ^ s := by
  rw [← Nat.shiftRight_eq_div_pow, ← Nat.shiftLeft_eq]
  refine Nat.eq_of_testBit_eq fun i => ?_
  rw [Nat.testBit_and, Nat.testBit_shiftLeft, Nat.testBit_shiftRight]
  by_cases h : s ≤ i
  · rw [show s + (i - s) = i by omega]
    simp [h]
  · simp [h]
theorem bitXor_upper (x s : Nat) : Builtin.bitXor (x : Int) (((x / 2 ^ s : Nat) : Int) * 2 ^ s) = ((x % 2 ^ s : Nat) : Int) := by
  have e : ((x / 2 ^ s : Nat) : Int) * 2 ^ s = ((x / 2 ^ s * 2 ^ s : Nat) : Int) := by
    rw [Int.natCast_mul, Int.natCast_pow]; rfl
  rw [e, bitXor_and]
  have e2 : Builtin.bitAnd ((x : Nat) : Int) ((x / 2 ^ s * 2 ^ s : Nat) : Int) = ((x / 2 ^ s * 2 ^ s : Nat) : Int) := by
    have h : ∀ a b : Nat, Builtin.bitAnd (a : Int) (b : Int) = ((a &&& b : Nat) : Int) := fun a b => by
      unfold Builtin.bitAnd
      rw [decide_eq_true (Int.natCast_nonneg a), decide_eq_true (Int.natCast_nonneg b)]
      rfl
    rw [h, and_upper]
  rw [e2]
  have h1 := Nat.div_add_mod x (2 ^ s)
  have h2 : x / 2 ^ s * 2 ^ s = 2 ^ s * (x / 2 ^ s) := Nat.mul_comm _ _
  omega
end Mine
namespace Mine
open PySem PySem.Spec PySem.Calls PyProof.Rows PySem.W
section
variable {prog : Program} {w : World} {c : Cx} {n : Nat} {lo : Lo} {led : Led} {pos p' p : Pos} {rest : List Stmt} {RF : AF → Lo → Led → Prop} {R : AV → Lo → Led → Prop} {RA : List AV → Lo → Led → Prop} {ns : List (Str × NameKind)} {i : Nat} {x : Str}
theorem s_ca {value : Expr} (h : WpV prog w c (eval value c.env) (fun a => Sto prog w c x a (fun lo led => WpS prog w c (execs rest c.env) RF lo led)) lo led) (hs : autoParam (swapsWith value (some (.Name x p')) pos.line c.env = pure false) maw._auto_1) :
    WpS prog w c (execs (.Assign [.Name x p'] value pos :: rest) c.env) RF lo led := s_cons (s_asg h hs)
theorem s_cai {o j value : Expr} (h : WpV prog w c (eval value c.env) (fun a lo₁ led₁ => WpV prog w c (eval o c.env) (fun oa lo₂ led₂ => WpV prog w c (eval j c.env) (fun ia => Sit prog w c oa ia a (fun lo led => WpS prog w c (execs rest c.env) RF lo led)) lo₂ led₂) lo₁ led₁) lo led)
    (hs : autoParam (swapsWith value (some (.Subscript o j p')) pos.line c.env = pure false) maw._auto_1) : WpS prog w c (execs (.Assign [.Subscript o j p'] value pos :: rest) c.env) RF lo led := s_cons (s_asgi h hs)
theorem s_cx {e : Expr} (ok : c.Ok w n) (h : WpV prog w c (eval e c.env) (fun _ lo led => WpS prog w c (execs rest c.env) RF lo led) lo led) (hs : autoParam (swapsWith e none pos.line c.env = pure false) maw._auto_1) :
    WpS prog w c (execs (.Expr e pos :: rest) c.env) RF lo led := s_cons (s_expr ok h hs)
theorem s_cr {e : Expr} (h : WpV prog w c (eval e c.env) (fun v => RF (.ret v)) lo led) : WpS prog w c (execs (.Return (some e) pos :: rest) c.env) RF lo led := s_cons (s_ret h)
theorem s_cif {t : Expr} {b o : List Stmt} (h : Wp prog w c (isTrue t c.env (eval t c.env)) (fun x lo₁ led₁ => if x then WpS prog w c (execs b c.env) (Then prog w c rest RF) lo₁ led₁ else WpS prog w c (execs o c.env) (Then prog w c rest RF) lo₁ led₁) lo led) :
    WpS prog w c (execs (.If t b o pos :: rest) c.env) RF lo led := s_cons (s_if h)
theorem s_end (h : WpS prog w c (execs rest c.env) RF lo led) : WpS prog w c (execs [] c.env) (Then prog w c rest RF) lo led := s_nil (then_next h)
theorem a_1 {e : Expr} (h : WpV prog w c (eval e c.env) (fun v => RA [v]) lo led) (he : autoParam (starEach [e] c.env = (false, eval e c.env) :: starEach [] c.env) maw._auto_1) : Args prog w c pos [e] RA lo led :=
  a_cons (Wp_mono h fun _ _ _ h => a_nil h) he
theorem a_2 {e f : Expr} (h : WpV prog w c (eval e c.env) (fun v lo₁ led₁ => WpV prog w c (eval f c.env) (fun u => RA [v, u]) lo₁ led₁) lo led) (he : autoParam (starEach [e, f] c.env = (false, eval e c.env) :: starEach [f] c.env) maw._auto_1) (hf : autoParam (starEach [f] c.env = (false, eval f c.env) :: starEach [] c.env) maw._auto_1) : Args prog w c pos [e, f] RA lo led :=
  a_cons (Wp_mono h fun _ _ _ h => a_1 h hf) he
theorem a_3 {e f g : Expr} (h : WpV prog w c (eval e c.env) (fun v lo₁ led₁ => WpV prog w c (eval f c.env) (fun u lo₂ led₂ => WpV prog w c (eval g c.env) (fun t => RA [v, u, t]) lo₂ led₂) lo₁ led₁) lo led) (he : autoParam (starEach [e, f, g] c.env = (false, eval e c.env) :: starEach [f, g] c.env) maw._auto_1) (hf : autoParam (starEach [f, g] c.env = (false, eval f c.env) :: starEach [g] c.env) maw._auto_1) (hg : autoParam (starEach [g] c.env = (false, eval g c.env) :: starEach [] c.env) maw._auto_1) : Args prog w c pos [e, f, g] RA lo led :=
  a_cons (Wp_mono h fun _ _ _ h => a_2 h hf hg) he
theorem e_cg {a : Addr} {args : List Expr} (ok : c.Ok w n) (hN : c.env.scope.names = ns) (hf : NL ns x i .globalImplicit) (he : nsIn (KK w) mainGlobals x = some (some (.ref a))) (hk : keepIn (KK w) (.ref a) = true)
    (h : Args prog w c pos args (fun as lo₁ led₁ => Call prog w c (.ref a) as R lo₁ led₁) lo led) (hplain : autoParam ((backTo pos (starEach args c.env)).any (·.1) = false) maw._auto_1) : WpV prog w c (eval (.Call (.Name x p) args [] pos) c.env) R lo led :=
  e_call (n_glob ok hN hf he (cw0_fn ok hk h hplain))
theorem e_cb {id : String} {args : List Expr} (ok : c.Ok w n) (hN : c.env.scope.names = ns) (hf : NL ns x i .globalImplicit) (he : BL w x (.builtin id))
    (h : Args prog w c pos args (fun as lo₁ led₁ => Call prog w c (.builtin id) as R lo₁ led₁) lo led) (hplain : autoParam ((backTo pos (starEach args c.env)).any (·.1) = false) maw._auto_1) : WpV prog w c (eval (.Call (.Name x p) args [] pos) c.env) R lo led :=
  e_call (n_blt ok hN hf he (cw0_blt h hplain))
theorem e_ct {T : String} {args : List Expr} (ok : c.Ok w n) (hN : c.env.scope.names = ns) (hf : NL ns x i .globalImplicit) (he : BL w x (.type T))
    (h : Args prog w c pos args (fun as lo₁ led₁ => Call prog w c (.type T) as R lo₁ led₁) lo led) (hplain : autoParam ((backTo pos (starEach args c.env)).any (·.1) = false) maw._auto_1) : WpV prog w c (eval (.Call (.Name x p) args [] pos) c.env) R lo led :=
  e_call (n_blt ok hN hf he (cw0_typ h hplain))
end
end Mine
namespace Mine
open PySem PySem.Spec PySem.Calls PyProof.Rows PySem.W
section
variable {prog : Program} {w : World} {c : Cx} {n : Nat} {lo : Lo} {led led' : Led} {R : AV → Lo → Led → Prop}
theorem fmod_nonneg' (a : Int) {b : Int} (h : 0 < b) : 0 ≤ a.fmod b := by rw [Int.fmod_eq_emod_of_nonneg _ (by omega)]; exact Int.emod_nonneg _ (by omega)
theorem fmod_lt' (a : Int) {b : Int} (h : 0 < b) : a.fmod b < b := by rw [Int.fmod_eq_emod_of_nonneg _ (by omega)]; exact Int.emod_lt_of_pos _ h
theorem getD_mem' {ms : List Int} {k : Nat} (h : k < ms.length) : ms.getD k 0 ∈ ms := by
  rw [List.getD_eq_getElem?_getD, List.getElem?_eq_getElem h]; exact List.getElem_mem h
set_option linter.unusedVariables false in
theorem min18 (n : Nat) : max 0 (min 18 (n : Int)) = ((min 18 n : Nat) : Int) := by
  rw [Int.max_eq_right (Int.le_min.mpr ⟨by decide, Int.natCast_nonneg _⟩)]
  rcases Nat.le_total 18 n with h | h
  · rw [Nat.min_eq_left h]; exact Int.min_eq_left (Int.ofNat_le.mpr h)
  · rw [Nat.min_eq_right h]; exact Int.min_eq_right (Int.ofNat_le.mpr h)
theorem f_cells {la : Addr} {ns : List Int} (ok : c.Ok w (n + 5)) (hn : ns.length ≤ 63) (hl : ∀ c' : Cx, (∀ b o, c.base.get? b = some o → c'.base.get? b = some o) → ∀ led, IsL w c' led la (ns.map AV.int))
    (h : ∀ a ms, ms.length = 9 → (∀ x ∈ ms, 0 ≤ x) → R (.ref a) lo ((a, intsO ms) :: led)) :
    Call prog w c (.ref 153) [.ref la] R lo led := by
  refine Call_drop ?_
  refine call_fn0 (fd := ?fd) (fo := ?fo) (body := ?bd) (n := n + 4) (pn := ["script"]) [some (.ref la), none, none, none, none, none] ok ?hK ?hd ?hcd ?hbody ?hclo ?hgl ?hbl ?hb ?hkind ?hnd ?hlo ?hcl ?main ?e1 ?e2 ?e3
  (case hK | hd | hbody | hcd | hclo | hgl | hbl | hkind => with_unfolding_all rfl); (case hnd => with_unfolding_all decide); (case hlo => with_unfolding_all rfl); (case hcl => intro L; with_unfolding_all rfl); (case e1 | e2 | e3 => with_unfolding_all rfl)
  case hb => intro vs hl; obtain ⟨a, rfl⟩ := len1 hl; with_unfolding_all rfl
  case main =>
  intro c' ok' he hx
  have hN : c'.env.scope.names = nmOf 153 w := by rw [he]; with_unfolding_all rfl
  clear he
  have hla : ∀ led, IsL w c' led la (ns.map AV.int) := hl c' hx
  with_reducible refine s_ca ?_; refine e_list ?_; refine a_cons ?_; refine e_int ?_; refine a_cons ?_; refine e_int ?_; refine a_cons ?_; refine e_int ?_; refine a_cons ?_; refine e_int ?_; refine a_cons ?_; refine e_int ?_; refine a_cons ?_; refine e_int ?_; refine a_cons ?_; refine e_int ?_; refine a_cons ?_; refine e_int ?_; refine a_cons ?_; refine e_int ?_; refine a_nil ?_
  refine ⟨by (first | assumption | decide | omega | (simp; done) | (simp; omega)), fun (ad1 : Addr) => ?_⟩
  with_reducible refine n_sto_1 ok' hN (nm_l_cells_cells _) ?_; refine s_ca ?_
  refine e_slicel la (ns.map AV.int) ?_
  with_reducible refine n_loc_0 ok' hN (nm_l_cells_script _) ?_
  refine ⟨rfl, ?_⟩
  with_reducible refine o_none ?_; refine o_some ?_; refine e_int ?_
  refine ⟨_, rfl, ?_⟩
  refine ⟨hla _, by rw [List.length_map]; omega, 0, min 18 ns.length, ?_, fun (dr : Addr) => ?_⟩
  · simp only [sliceBounds, List.length_map]; simp; exact min18 _
  rw [List.drop_zero, Nat.sub_zero, ← List.map_take]
  with_reducible refine n_sto_2 ok' hN (nm_l_cells_drawn _) ?_
  have hlen : (ns.take (min 18 ns.length)).length = min 18 ns.length := by simp
  with_reducible refine s_cons ?_
  refine s_forn_range ok' (min 18 ns.length) (by omega) (fun i lo led' => ∃ ms kv, ms.length = 9 ∧ (∀ x ∈ ms, (0 : Int) ≤ x) ∧ lo = [some (.ref la), some (.ref ad1), some (.ref dr), kv, none, none] ∧
    led' = (dr, intsO (ns.take (min 18 ns.length))) :: (ad1, intsO ms) :: led) ?_ ?_ ?_
  · with_reducible refine e_ct ok' hN (nm_l_cells_range _) (bl_range _) ?_
    with_reducible refine a_1 ?_; refine e_cb ok' hN (nm_l_cells_len _) (bl_len _) ?_; refine a_1 ?_; refine n_loc_2 ok' hN (nm_l_cells_drawn _) ?_
    (first | with_reducible refine k_lenS (by (first | exact rfl | exact lit_dot | exact lit_quote | exact lit_back | exact lit_nl | exact lit_cr | exact lit_crlf | exact lit_empty | exact lit_white)) (by (first | assumption | decide | omega | (simp; done) | (simp; omega))) ?_ | with_reducible refine k_lenn (by (first | assumption | (refine IsL.mem ?_; (repeat (first | assumption | exact List.mem_cons_self | refine List.mem_cons_of_mem _ ?_))))) (by (first | assumption | decide | omega | (simp; done) | (simp; omega))) ?_ | with_reducible refine k_leni (by (first | assumption | (refine IsL.mem ?_; (repeat (first | assumption | exact List.mem_cons_self | refine List.mem_cons_of_mem _ ?_))))) (by (first | assumption | decide | omega | (simp; done) | (simp; omega))) ?_ | ((with_reducible refine k_lens ?h2 ?_); (case h2 => (first | assumption | decide | omega | (simp; done) | (simp; omega))))| with_reducible refine k_len (by (first | assumption | (refine IsL.mem ?_; (repeat (first | assumption | exact List.mem_cons_self | refine List.mem_cons_of_mem _ ?_))))) (by (first | assumption | decide | omega | (simp; done) | (simp; omega))) ?_)
    (with_reducible refine k_range (fun _ => ?_))
    rw [hlen]
    exact ⟨_, _, rfl, rfl, [0, 0, 3, 0, 3, 0, 1, 3, 4], none, by decide, by decide, rfl, rfl⟩
  · rintro i lo led' hi ⟨ms, kv, hm, h0, rfl, rfl⟩
    have e1 := fmod_nonneg' (i : Int) (b := 9) (by omega)
    have e2 := fmod_lt' (i : Int) (b := 9) (by omega)
    have e3 : (((i : Int).fmod 9)).toNat < ms.length := by omega
    with_reducible refine n_sto_3 ok' hN (nm_l_cells_k _) ?_; refine s_cai ?_; refine e_bin ?_; refine e_sub ?_; refine n_loc_1 ok' hN (nm_l_cells_cells _) ?_; refine e_bin ?_; refine n_loc_3 ok' hN (nm_l_cells_k _) ?_; refine e_int ?_
    (first | with_reducible refine b_mod (by (first | assumption | decide | omega | (simp; done) | (simp; omega))) ?_ | with_reducible refine f_mod (by (first | assumption | decide | omega | (simp; done) | (simp; omega))) ?_)
    (first | with_reducible refine g_nats (by (first | assumption | (refine IsL.mem ?_; (repeat (first | assumption | exact List.mem_cons_self | refine List.mem_cons_of_mem _ ?_))))) (by (first | assumption | decide | omega | (simp; done) | (simp; omega))) (by (first | assumption | decide | omega | (simp; done) | (simp; omega))) (by (first | assumption | decide | omega | (simp; done) | (simp; omega))) ?_ | with_reducible refine g_ints (by (first | assumption | (refine IsL.mem ?_; (repeat (first | assumption | exact List.mem_cons_self | refine List.mem_cons_of_mem _ ?_))))) (by (first | assumption | decide | omega | (simp; done) | (simp; omega))) (by (first | assumption | decide | omega | (simp; done) | (simp; omega))) (by (first | assumption | decide | omega | (simp; done) | (simp; omega))) ?_ | refine g_tup (by (repeat (first | assumption | exact List.mem_cons_self | refine List.mem_cons_of_mem _ ?_))) (by (first | assumption | decide | omega | (simp; done) | (simp; omega))) (by (first | assumption | decide | omega | (simp; done) | (simp; omega))) rfl ?_)
    with_reducible refine e_bin ?_; refine e_sub ?_; refine n_loc_2 ok' hN (nm_l_cells_drawn _) ?_; refine n_loc_3 ok' hN (nm_l_cells_k _) ?_
    (first | with_reducible refine g_nats (by (first | assumption | (refine IsL.mem ?_; (repeat (first | assumption | exact List.mem_cons_self | refine List.mem_cons_of_mem _ ?_))))) (by (first | assumption | decide | omega | (simp; done) | (simp; omega))) (by (first | assumption | decide | omega | (simp; done) | (simp; omega))) (by (first | assumption | decide | omega | (simp; done) | (simp; omega))) ?_ | with_reducible refine g_ints (by (first | assumption | (refine IsL.mem ?_; (repeat (first | assumption | exact List.mem_cons_self | refine List.mem_cons_of_mem _ ?_))))) (by (first | assumption | decide | omega | (simp; done) | (simp; omega))) (by (first | assumption | decide | omega | (simp; done) | (simp; omega))) (by (first | assumption | decide | omega | (simp; done) | (simp; omega))) ?_ | refine g_tup (by (repeat (first | assumption | exact List.mem_cons_self | refine List.mem_cons_of_mem _ ?_))) (by (first | assumption | decide | omega | (simp; done) | (simp; omega))) (by (first | assumption | decide | omega | (simp; done) | (simp; omega))) rfl ?_)
    with_reducible refine e_bin ?_; refine e_int ?_; refine e_int ?_
    (with_reducible refine b_pow (by (first | assumption | decide | omega | (simp; done) | (simp; omega))) (by (first | assumption | decide | omega | (simp; done) | (simp; omega))) ?_)
    (first | with_reducible refine b_mod (by (first | assumption | decide | omega | (simp; done) | (simp; omega))) ?_ | with_reducible refine f_mod (by (first | assumption | decide | omega | (simp; done) | (simp; omega))) ?_)
    (first | with_reducible refine b_add ?_ | with_reducible refine f_add ?_ | with_reducible refine b_sadd (by (first | exact rfl | exact lit_dot | exact lit_quote | exact lit_back | exact lit_nl | exact lit_cr | exact lit_crlf | exact lit_empty | exact lit_white)) (by (first | exact rfl | exact lit_dot | exact lit_quote | exact lit_back | exact lit_nl | exact lit_cr | exact lit_crlf | exact lit_empty | exact lit_white)) (by (first | assumption | decide | omega | (simp; done) | (simp; omega))) ?_)
    with_reducible refine n_loc_1 ok' hN (nm_l_cells_cells _) ?_; refine e_bin ?_; refine n_loc_3 ok' hN (nm_l_cells_k _) ?_; refine e_int ?_
    (first | with_reducible refine b_mod (by (first | assumption | decide | omega | (simp; done) | (simp; omega))) ?_ | with_reducible refine f_mod (by (first | assumption | decide | omega | (simp; done) | (simp; omega))) ?_)
    (first | with_reducible refine set_ints (by (first | assumption | exact .head | exact .tail .head | exact .tail (.tail .head) | exact .tail (.tail (.tail .head)) | exact .tail (.tail (.tail (.tail .head))) | exact .tail (.tail (.tail (.tail (.tail .head)))) | exact .tail (.tail (.tail (.tail (.tail (.tail .head))))) | exact .tail (.tail (.tail (.tail (.tail (.tail (.tail .head)))))) | exact .tail (.tail (.tail (.tail (.tail (.tail (.tail (.tail .head))))))) | exact .tail (.tail (.tail (.tail (.tail (.tail (.tail (.tail (.tail .head)))))))) | exact .tail (.tail (.tail (.tail (.tail (.tail (.tail (.tail (.tail (.tail .head))))))))) | exact .tail (.tail (.tail (.tail (.tail (.tail (.tail (.tail (.tail (.tail (.tail .head)))))))))) | exact .tail (.tail (.tail (.tail (.tail (.tail (.tail (.tail (.tail (.tail (.tail (.tail .head))))))))))) | exact .tail (.tail (.tail (.tail (.tail (.tail (.tail (.tail (.tail (.tail (.tail (.tail (.tail .head)))))))))))))) (by (first | assumption | decide | omega | (simp; done) | (simp; omega))) (by (first | assumption | decide | omega | (simp; done) | (simp; omega))) (by (first | assumption | decide | omega | (simp; done) | (simp; omega))) ?_)
    with_reducible refine s_nil ?_
    refine ⟨_, _, ?_, ?_, rfl, rfl⟩
    · rw [List.length_set]; exact hm
    · intro x hx
      rcases List.mem_or_eq_of_mem_set hx with h1 | h1
      · exact h0 x h1
      · have := h0 _ (getD_mem' e3)
        have := fmod_nonneg' ((ns.take (min 18 ns.length)).getD (i : Int).toNat 0) (b := 10 ^ (6 : Int).toNat) (by decide)
        omega
  · rintro lo led' ⟨ms, kv, hm, h0, rfl, rfl⟩
    refine then_next ?_
    with_reducible refine s_cr ?_; refine n_loc_1 ok' hN (nm_l_cells_cells _) ?_
    exact ⟨_, by simp, h ad1 ms hm h0⟩
end
section
variable {prog : Program} {w : World} {c : Cx} {n : Nat} {lo : Lo} {led led' : Led} {R : AV → Lo → Led → Prop}
noncomputable def addAt (xs : List Int) (i : Nat) (d : Int) : List Int := xs.set i (xs.getD i 0 + d)
theorem addAt_len (xs : List Int) (i : Nat) (d : Int) : (addAt xs i d).length = xs.length := by simp [addAt]
noncomputable def pairStep (size a : Nat) (s : List Int × List Int) (b : Nat) : List Int × List Int := (addAt s.1 ((a + b) % size) 1, addAt s.2 ((a + b) % size) (((a + b) / size : Nat) : Int))
noncomputable def pairRow (size : Nat) (ys : List Nat) (s : List Int × List Int) (a : Nat) : List Int × List Int := ys.foldl (pairStep size a) s
noncomputable def pairAll (size : Nat) (xs ys : List Nat) : List Int × List Int := xs.foldl (pairRow size ys) (List.replicate size 0, List.replicate size 0)
theorem pairStep_len {size a b : Nat} {s : List Int × List Int} (h : s.1.length = size ∧ s.2.length = size) : (pairStep size a s b).1.length = size ∧ (pairStep size a s b).2.length = size := by
  simp [pairStep, addAt_len, h]
theorem foldl_inv {α β : Type} (P : β → Prop) (f : β → α → β) (hf : ∀ b a, P b → P (f b a)) : ∀ (l : List α) (b : β), P b → P (l.foldl f b)
  | [], _, h => h
  | a :: l, b, h => foldl_inv P f hf l _ (hf b a h)
theorem pairRow_len {size a : Nat} {ys : List Nat} {s : List Int × List Int} (h : s.1.length = size ∧ s.2.length = size) : (pairRow size ys s a).1.length = size ∧ (pairRow size ys s a).2.length = size :=
  foldl_inv (fun (s : List Int × List Int) => s.1.length = size ∧ s.2.length = size) _ (fun _ _ h => pairStep_len h) ys s h
theorem pairAll_len {size : Nat} {xs ys : List Nat} : (pairAll size xs ys).1.length = size ∧ (pairAll size xs ys).2.length = size :=
  foldl_inv (fun (s : List Int × List Int) => s.1.length = size ∧ s.2.length = size) _ (fun _ _ h => pairRow_len h) xs _ (by simp)
theorem fmod_nat (a b s : Nat) : ((a : Int) + (b : Int)).fmod (s : Int) = (((a + b) % s : Nat) : Int) := by
  rw [Int.fmod_eq_emod_of_nonneg _ (Int.natCast_nonneg _), ← Int.natCast_add, ← Int.natCast_emod]
theorem fdiv_nat (a b s : Nat) : ((a : Int) + (b : Int)).fdiv (s : Int) = (((a + b) / s : Nat) : Int) := by
  rw [Int.fdiv_eq_ediv_of_nonneg _ (Int.natCast_nonneg _), ← Int.natCast_add, ← Int.natCast_ediv]
theorem f_pairs {la lb : Addr} {xs ys : List Nat} {size : Nat} (ok : c.Ok w (n + 5)) (hs : 0 < size) (hs2 : size ≤ 12)
    (ha : (la, natsO xs) ∈ led) (hb : (lb, natsO ys) ∈ led)
    (h : ∀ a l₁ l₂, R (.ref a) lo ((a, .list [.ref l₁, .ref l₂]) :: (l₂, intsO (pairAll size xs ys).2) :: (l₁, intsO (pairAll size xs ys).1) :: led)) :
    Call prog w c (.ref 191) [.ref la, .ref lb, .int size] R lo led := by
  refine call_fn0 (fd := ?fd) (fo := ?fo) (body := ?bd) (n := n + 4) (pn := ["ones", "others", "size"]) [some (.ref la), some (.ref lb), some (.int size), none, none, none, none] ok ?hK ?hd ?hcd ?hbody ?hclo ?hgl ?hbl ?hb ?hkind ?hnd ?hlo ?hcl ?main ?e1 ?e2 ?e3
  (case hK | hd | hbody | hcd | hclo | hgl | hbl | hkind => with_unfolding_all rfl); (case hnd => with_unfolding_all decide); (case hlo => with_unfolding_all rfl); (case hcl => intro L; with_unfolding_all rfl); (case e1 | e2 | e3 => with_unfolding_all rfl)
  case hb => intro vs hl; obtain ⟨a, b, d, rfl⟩ := len3 hl; with_unfolding_all rfl
  case main =>
  intro c' ok' he hx
  have hN : c'.env.scope.names = nmOf 191 w := by rw [he]; with_unfolding_all rfl
  clear he
  with_reducible refine s_ca ?_; refine e_bin ?_; refine e_list ?_; refine a_1 ?_; refine e_int ?_
  refine ⟨by (first | assumption | decide | omega | (simp; done) | (simp; omega)), fun (ad1 : Addr) => ?_⟩
  with_reducible refine n_loc_2 ok' hN (nm_l_by_pairs_size _) ?_
  (first | with_reducible refine f_mul ?_ | with_reducible refine b_repi (by (repeat (first | assumption | exact List.mem_cons_self | refine List.mem_cons_of_mem _ ?_))) (by (first | assumption | decide | omega | (simp; done) | (simp; omega))) (by (first | assumption | decide | omega | (simp; done) | (simp; omega))) (fun _ => ?_) | with_reducible refine f_muli (by (first | assumption | decide | omega | (simp; done) | (simp; omega))) ?_ | with_reducible refine b_mul ?_ (by (first | assumption | decide | omega | (simp; done) | (simp; omega))) | with_reducible refine b_smul (by (first | exact rfl | exact lit_dot | exact lit_quote | exact lit_back | exact lit_nl | exact lit_cr | exact lit_crlf | exact lit_empty | exact lit_white)) (by (first | assumption | decide | omega | (simp; done) | (simp; omega))) (by (first | assumption | decide | omega | (simp; done) | (simp; omega))) ?_)
  with_reducible refine n_sto_3 ok' hN (nm_l_by_pairs_often _) ?_; refine s_ca ?_; refine e_bin ?_; refine e_list ?_; refine a_1 ?_; refine e_int ?_
  refine ⟨by (first | assumption | decide | omega | (simp; done) | (simp; omega)), fun (ad2 : Addr) => ?_⟩
  with_reducible refine n_loc_2 ok' hN (nm_l_by_pairs_size _) ?_
  (first | with_reducible refine f_mul ?_ | with_reducible refine b_repi (by (repeat (first | assumption | exact List.mem_cons_self | refine List.mem_cons_of_mem _ ?_))) (by (first | assumption | decide | omega | (simp; done) | (simp; omega))) (by (first | assumption | decide | omega | (simp; done) | (simp; omega))) (fun _ => ?_) | with_reducible refine f_muli (by (first | assumption | decide | omega | (simp; done) | (simp; omega))) ?_ | with_reducible refine b_mul ?_ (by (first | assumption | decide | omega | (simp; done) | (simp; omega))) | with_reducible refine b_smul (by (first | exact rfl | exact lit_dot | exact lit_quote | exact lit_back | exact lit_nl | exact lit_cr | exact lit_crlf | exact lit_empty | exact lit_white)) (by (first | assumption | decide | omega | (simp; done) | (simp; omega))) (by (first | assumption | decide | omega | (simp; done) | (simp; omega))) ?_)
  with_reducible refine n_sto_4 ok' hN (nm_l_by_pairs_over _) ?_
  rename_i lof lov
  with_reducible refine s_cons ?_
  refine Wp_pre (led' := (lov, intsO (List.replicate (size : Int).toNat 0)) :: (lof, intsO (List.replicate (size : Int).toNat 0)) :: led) ?hsub ?_
  case hsub => simp
  refine s_forn_list ok' la (xs.map fun (x : Nat) => .int x) (fun i lo led' => ∃ av bv, lo = [some (.ref la), some (.ref lb), some (.int size), some (.ref lof), some (.ref lov), av, bv] ∧
    led' = (lov, intsO ((xs.take i).foldl (pairRow size ys) (List.replicate size 0, List.replicate size 0)).2) :: (lof, intsO ((xs.take i).foldl (pairRow size ys) (List.replicate size 0, List.replicate size 0)).1) :: led) ?_ ?_ ?_ ?_
  · with_reducible refine n_loc_0 ok' hN (nm_l_by_pairs_ones _) ?_
    refine ⟨rfl, .inl ?_, none, none, rfl, by simp⟩
    (repeat (first | assumption | exact List.mem_cons_self | refine List.mem_cons_of_mem _ ?_))
  · rintro i lo led' hi ⟨av, bv, rfl, rfl⟩
    refine .inl ?_
    (repeat (first | assumption | exact List.mem_cons_self | refine List.mem_cons_of_mem _ ?_))
  · rintro i v lo led' hv ⟨av, bv, rfl, rfl⟩
    obtain ⟨a, ha', rfl⟩ : ∃ a, xs[i]? = some a ∧ AV.int ((a : Nat) : Int) = v := by
      rw [List.getElem?_map] at hv; exact Option.map_eq_some_iff.mp hv
    rw [take_succ' ha']
    simp only [List.foldl_append, List.foldl_cons, List.foldl_nil]
    have hL : ((xs.take i).foldl (pairRow size ys) (List.replicate size 0, List.replicate size 0)).1.length = size ∧ ((xs.take i).foldl (pairRow size ys) (List.replicate size 0, List.replicate size 0)).2.length = size :=
      foldl_inv (fun (s : List Int × List Int) => s.1.length = size ∧ s.2.length = size) _ (fun _ _ h => pairRow_len h) _ _ (by simp)
    generalize ((xs.take i).foldl (pairRow size ys) (List.replicate size 0, List.replicate size 0)) = st at hL ⊢
    with_reducible refine n_sto_5 ok' hN (nm_l_by_pairs_a _) ?_; refine s_cons ?_
    refine s_forn_list ok' lb (ys.map fun (x : Nat) => .int x) (fun j lo led' => ∃ bv, lo = [some (.ref la), some (.ref lb), some (.int size), some (.ref lof), some (.ref lov), some (.int a), bv] ∧
      led' = (lov, intsO ((ys.take j).foldl (pairStep size a) st).2) :: (lof, intsO ((ys.take j).foldl (pairStep size a) st).1) :: led) ?_ ?_ ?_ ?_
    · with_reducible refine n_loc_1 ok' hN (nm_l_by_pairs_others _) ?_
      refine ⟨rfl, .inl ?_, bv, rfl, by simp⟩
      (repeat (first | assumption | exact List.mem_cons_self | refine List.mem_cons_of_mem _ ?_))
    · rintro j lo led' hi ⟨bv, rfl, rfl⟩
      refine .inl ?_
      (repeat (first | assumption | exact List.mem_cons_self | refine List.mem_cons_of_mem _ ?_))
    · rintro j v lo led' hv ⟨bv, rfl, rfl⟩
      obtain ⟨b, hb', rfl⟩ : ∃ b, ys[j]? = some b ∧ AV.int ((b : Nat) : Int) = v := by
        rw [List.getElem?_map] at hv; exact Option.map_eq_some_iff.mp hv
      rw [take_succ' hb']
      simp only [List.foldl_append, List.foldl_cons, List.foldl_nil]
      have hL' : ((ys.take j).foldl (pairStep size a) st).1.length = size ∧ ((ys.take j).foldl (pairStep size a) st).2.length = size :=
        foldl_inv (fun (s : List Int × List Int) => s.1.length = size ∧ s.2.length = size) _ (fun _ _ h => pairStep_len h) _ _ hL
      generalize ((ys.take j).foldl (pairStep size a) st) = st' at hL' ⊢
      obtain ⟨s1, s2⟩ := st'
      simp only [] at hL' ⊢
      obtain ⟨h1, h2⟩ := hL'
      have e1 := fmod_nat a b size
      have e2 := fdiv_nat a b size
      have e3 : (a + b) % size < size := Nat.mod_lt _ hs
      have e4 : 0 ≤ ((a : Int) + (b : Int)).fmod (size : Int) := by omega
      have e5 : (((a : Int) + (b : Int)).fmod (size : Int)).toNat < size := by omega
      with_reducible refine n_sto_6 ok' hN (nm_l_by_pairs_b _) ?_; refine s_cai ?_; refine e_bin ?_; refine e_sub ?_; refine n_loc_3 ok' hN (nm_l_by_pairs_often _) ?_; refine e_bin ?_; refine e_bin ?_; refine n_loc_5 ok' hN (nm_l_by_pairs_a _) ?_; refine n_loc_6 ok' hN (nm_l_by_pairs_b _) ?_
      (first | with_reducible refine b_add ?_ | with_reducible refine f_add ?_ | with_reducible refine b_sadd (by (first | exact rfl | exact lit_dot | exact lit_quote | exact lit_back | exact lit_nl | exact lit_cr | exact lit_crlf | exact lit_empty | exact lit_white)) (by (first | exact rfl | exact lit_dot | exact lit_quote | exact lit_back | exact lit_nl | exact lit_cr | exact lit_crlf | exact lit_empty | exact lit_white)) (by (first | assumption | decide | omega | (simp; done) | (simp; omega))) ?_)
      with_reducible refine n_loc_2 ok' hN (nm_l_by_pairs_size _) ?_
      (first | with_reducible refine b_mod (by (first | assumption | decide | omega | (simp; done) | (simp; omega))) ?_ | with_reducible refine f_mod (by (first | assumption | decide | omega | (simp; done) | (simp; omega))) ?_)
      (first | with_reducible refine g_nats (by (first | assumption | (refine IsL.mem ?_; (repeat (first | assumption | exact List.mem_cons_self | refine List.mem_cons_of_mem _ ?_))))) (by (first | assumption | decide | omega | (simp; done) | (simp; omega))) (by (first | assumption | decide | omega | (simp; done) | (simp; omega))) (by (first | assumption | decide | omega | (simp; done) | (simp; omega))) ?_ | with_reducible refine g_ints (by (first | assumption | (refine IsL.mem ?_; (repeat (first | assumption | exact List.mem_cons_self | refine List.mem_cons_of_mem _ ?_))))) (by (first | assumption | decide | omega | (simp; done) | (simp; omega))) (by (first | assumption | decide | omega | (simp; done) | (simp; omega))) (by (first | assumption | decide | omega | (simp; done) | (simp; omega))) ?_ | refine g_tup (by (repeat (first | assumption | exact List.mem_cons_self | refine List.mem_cons_of_mem _ ?_))) (by (first | assumption | decide | omega | (simp; done) | (simp; omega))) (by (first | assumption | decide | omega | (simp; done) | (simp; omega))) rfl ?_)
      with_reducible refine e_int ?_
      (first | with_reducible refine b_add ?_ | with_reducible refine f_add ?_ | with_reducible refine b_sadd (by (first | exact rfl | exact lit_dot | exact lit_quote | exact lit_back | exact lit_nl | exact lit_cr | exact lit_crlf | exact lit_empty | exact lit_white)) (by (first | exact rfl | exact lit_dot | exact lit_quote | exact lit_back | exact lit_nl | exact lit_cr | exact lit_crlf | exact lit_empty | exact lit_white)) (by (first | assumption | decide | omega | (simp; done) | (simp; omega))) ?_)
      with_reducible refine n_loc_3 ok' hN (nm_l_by_pairs_often _) ?_; refine e_bin ?_; refine e_bin ?_; refine n_loc_5 ok' hN (nm_l_by_pairs_a _) ?_; refine n_loc_6 ok' hN (nm_l_by_pairs_b _) ?_
      (first | with_reducible refine b_add ?_ | with_reducible refine f_add ?_ | with_reducible refine b_sadd (by (first | exact rfl | exact lit_dot | exact lit_quote | exact lit_back | exact lit_nl | exact lit_cr | exact lit_crlf | exact lit_empty | exact lit_white)) (by (first | exact rfl | exact lit_dot | exact lit_quote | exact lit_back | exact lit_nl | exact lit_cr | exact lit_crlf | exact lit_empty | exact lit_white)) (by (first | assumption | decide | omega | (simp; done) | (simp; omega))) ?_)
      with_reducible refine n_loc_2 ok' hN (nm_l_by_pairs_size _) ?_
      (first | with_reducible refine b_mod (by (first | assumption | decide | omega | (simp; done) | (simp; omega))) ?_ | with_reducible refine f_mod (by (first | assumption | decide | omega | (simp; done) | (simp; omega))) ?_)
      (first | with_reducible refine set_ints (by (first | assumption | exact .head | exact .tail .head | exact .tail (.tail .head) | exact .tail (.tail (.tail .head)) | exact .tail (.tail (.tail (.tail .head))) | exact .tail (.tail (.tail (.tail (.tail .head)))) | exact .tail (.tail (.tail (.tail (.tail (.tail .head))))) | exact .tail (.tail (.tail (.tail (.tail (.tail (.tail .head)))))) | exact .tail (.tail (.tail (.tail (.tail (.tail (.tail (.tail .head))))))) | exact .tail (.tail (.tail (.tail (.tail (.tail (.tail (.tail (.tail .head)))))))) | exact .tail (.tail (.tail (.tail (.tail (.tail (.tail (.tail (.tail (.tail .head))))))))) | exact .tail (.tail (.tail (.tail (.tail (.tail (.tail (.tail (.tail (.tail (.tail .head)))))))))) | exact .tail (.tail (.tail (.tail (.tail (.tail (.tail (.tail (.tail (.tail (.tail (.tail .head))))))))))) | exact .tail (.tail (.tail (.tail (.tail (.tail (.tail (.tail (.tail (.tail (.tail (.tail (.tail .head)))))))))))))) (by (first | assumption | decide | omega | (simp; done) | (simp; omega))) (by (first | assumption | decide | omega | (simp; done) | (simp; omega))) (by (first | assumption | decide | omega | (simp; done) | (simp; omega))) ?_)
      with_reducible refine s_cai ?_; refine e_bin ?_; refine e_sub ?_; refine n_loc_4 ok' hN (nm_l_by_pairs_over _) ?_; refine e_bin ?_; refine e_bin ?_; refine n_loc_5 ok' hN (nm_l_by_pairs_a _) ?_; refine n_loc_6 ok' hN (nm_l_by_pairs_b _) ?_
      (first | with_reducible refine b_add ?_ | with_reducible refine f_add ?_ | with_reducible refine b_sadd (by (first | exact rfl | exact lit_dot | exact lit_quote | exact lit_back | exact lit_nl | exact lit_cr | exact lit_crlf | exact lit_empty | exact lit_white)) (by (first | exact rfl | exact lit_dot | exact lit_quote | exact lit_back | exact lit_nl | exact lit_cr | exact lit_crlf | exact lit_empty | exact lit_white)) (by (first | assumption | decide | omega | (simp; done) | (simp; omega))) ?_)
      with_reducible refine n_loc_2 ok' hN (nm_l_by_pairs_size _) ?_
      (first | with_reducible refine b_mod (by (first | assumption | decide | omega | (simp; done) | (simp; omega))) ?_ | with_reducible refine f_mod (by (first | assumption | decide | omega | (simp; done) | (simp; omega))) ?_)
      (first | with_reducible refine g_nats (by (first | assumption | (refine IsL.mem ?_; (repeat (first | assumption | exact List.mem_cons_self | refine List.mem_cons_of_mem _ ?_))))) (by (first | assumption | decide | omega | (simp; done) | (simp; omega))) (by (first | assumption | decide | omega | (simp; done) | (simp; omega))) (by (first | assumption | decide | omega | (simp; done) | (simp; omega))) ?_ | with_reducible refine g_ints (by (first | assumption | (refine IsL.mem ?_; (repeat (first | assumption | exact List.mem_cons_self | refine List.mem_cons_of_mem _ ?_))))) (by (first | assumption | decide | omega | (simp; done) | (simp; omega))) (by (first | assumption | decide | omega | (simp; done) | (simp; omega))) (by (first | assumption | decide | omega | (simp; done) | (simp; omega))) ?_ | refine g_tup (by (repeat (first | assumption | exact List.mem_cons_self | refine List.mem_cons_of_mem _ ?_))) (by (first | assumption | decide | omega | (simp; done) | (simp; omega))) (by (first | assumption | decide | omega | (simp; done) | (simp; omega))) rfl ?_)
      with_reducible refine e_bin ?_; refine e_bin ?_; refine n_loc_5 ok' hN (nm_l_by_pairs_a _) ?_; refine n_loc_6 ok' hN (nm_l_by_pairs_b _) ?_
      (first | with_reducible refine b_add ?_ | with_reducible refine f_add ?_ | with_reducible refine b_sadd (by (first | exact rfl | exact lit_dot | exact lit_quote | exact lit_back | exact lit_nl | exact lit_cr | exact lit_crlf | exact lit_empty | exact lit_white)) (by (first | exact rfl | exact lit_dot | exact lit_quote | exact lit_back | exact lit_nl | exact lit_cr | exact lit_crlf | exact lit_empty | exact lit_white)) (by (first | assumption | decide | omega | (simp; done) | (simp; omega))) ?_)
      with_reducible refine n_loc_2 ok' hN (nm_l_by_pairs_size _) ?_
      (first | with_reducible refine b_div (by (first | assumption | decide | omega | (simp; done) | (simp; omega))) (by (first | assumption | decide | omega | (simp; done) | (simp; omega))) ?_)
      (first | with_reducible refine b_add ?_ | with_reducible refine f_add ?_ | with_reducible refine b_sadd (by (first | exact rfl | exact lit_dot | exact lit_quote | exact lit_back | exact lit_nl | exact lit_cr | exact lit_crlf | exact lit_empty | exact lit_white)) (by (first | exact rfl | exact lit_dot | exact lit_quote | exact lit_back | exact lit_nl | exact lit_cr | exact lit_crlf | exact lit_empty | exact lit_white)) (by (first | assumption | decide | omega | (simp; done) | (simp; omega))) ?_)
      with_reducible refine n_loc_4 ok' hN (nm_l_by_pairs_over _) ?_; refine e_bin ?_; refine e_bin ?_; refine n_loc_5 ok' hN (nm_l_by_pairs_a _) ?_; refine n_loc_6 ok' hN (nm_l_by_pairs_b _) ?_
      (first | with_reducible refine b_add ?_ | with_reducible refine f_add ?_ | with_reducible refine b_sadd (by (first | exact rfl | exact lit_dot | exact lit_quote | exact lit_back | exact lit_nl | exact lit_cr | exact lit_crlf | exact lit_empty | exact lit_white)) (by (first | exact rfl | exact lit_dot | exact lit_quote | exact lit_back | exact lit_nl | exact lit_cr | exact lit_crlf | exact lit_empty | exact lit_white)) (by (first | assumption | decide | omega | (simp; done) | (simp; omega))) ?_)
      with_reducible refine n_loc_2 ok' hN (nm_l_by_pairs_size _) ?_
      (first | with_reducible refine b_mod (by (first | assumption | decide | omega | (simp; done) | (simp; omega))) ?_ | with_reducible refine f_mod (by (first | assumption | decide | omega | (simp; done) | (simp; omega))) ?_)
      (first | with_reducible refine set_ints (by (first | assumption | exact .head | exact .tail .head | exact .tail (.tail .head) | exact .tail (.tail (.tail .head)) | exact .tail (.tail (.tail (.tail .head))) | exact .tail (.tail (.tail (.tail (.tail .head)))) | exact .tail (.tail (.tail (.tail (.tail (.tail .head))))) | exact .tail (.tail (.tail (.tail (.tail (.tail (.tail .head)))))) | exact .tail (.tail (.tail (.tail (.tail (.tail (.tail (.tail .head))))))) | exact .tail (.tail (.tail (.tail (.tail (.tail (.tail (.tail (.tail .head)))))))) | exact .tail (.tail (.tail (.tail (.tail (.tail (.tail (.tail (.tail (.tail .head))))))))) | exact .tail (.tail (.tail (.tail (.tail (.tail (.tail (.tail (.tail (.tail (.tail .head)))))))))) | exact .tail (.tail (.tail (.tail (.tail (.tail (.tail (.tail (.tail (.tail (.tail (.tail .head))))))))))) | exact .tail (.tail (.tail (.tail (.tail (.tail (.tail (.tail (.tail (.tail (.tail (.tail (.tail .head)))))))))))))) (by (first | assumption | decide | omega | (simp; done) | (simp; omega))) (by (first | assumption | decide | omega | (simp; done) | (simp; omega))) (by (first | assumption | decide | omega | (simp; done) | (simp; omega))) ?_)
      with_reducible refine s_nil ?_
      refine ⟨_, rfl, ?_⟩
      rw [e1, e2]
      simp only [pairStep, addAt, Int.toNat_natCast]
    · rintro lo led' ⟨bv, rfl, rfl⟩
      refine then_next ?_
      with_reducible refine s_nil ?_
      refine ⟨_, _, rfl, ?_⟩
      simp [pairRow]
  · rintro lo led' ⟨av, bv, rfl, rfl⟩
    refine then_next ?_
    with_reducible refine s_cr ?_; refine e_list ?_; refine a_2 ?_; refine n_loc_3 ok' hN (nm_l_by_pairs_often _) ?_; refine n_loc_4 ok' hN (nm_l_by_pairs_over _) ?_
    refine ⟨by (first | assumption | decide | omega | (simp; done) | (simp; omega)), fun (ad3 : Addr) => ?_⟩
    simp only [List.length_map, List.take_length]
    exact h _ _ _
end
section
variable {prog : Program} {w : World} {c : Cx} {n : Nat} {lo : Lo} {led led' : Led} {R : AV → Lo → Led → Prop}
noncomputable abbrev f0 : UInt64 := 0
noncomputable abbrev f1 : UInt64 := 4607182418800017408
noncomputable abbrev f2 : UInt64 := 4611686018427387904
noncomputable abbrev f4 : UInt64 := 4616189618054758400
noncomputable abbrev f6 : UInt64 := 4618441417868443648
noncomputable abbrev fh : UInt64 := 4602678819172646912
noncomputable def hsvOut (h : UInt64) (i : Int) : UInt64 × UInt64 × UInt64 :=
  let f := Float64.sub (Float64.mul h f6) (Float64.ofInt i)
  let p := Float64.mul f1 (Float64.sub f1 f1)
  let q := Float64.mul f1 (Float64.sub f1 (Float64.mul f1 f))
  let t := Float64.mul f1 (Float64.sub f1 (Float64.mul f1 (Float64.sub f1 f)))
  if i.fmod 6 = 0 then (f1, t, p) else if i.fmod 6 = 1 then (q, f1, p) else if i.fmod 6 = 2 then (p, f1, t) else if i.fmod 6 = 3 then (p, q, f1) else if i.fmod 6 = 4 then (t, p, f1) else (f1, p, q)
theorem hsv_if {a b : Int} {P Q : Prop} (h1 : a = b → P) (h2 : a ≠ b → Q) : if (a == b) = true then P else Q := by
  by_cases e : a = b
  · rw [if_pos (by simpa using e)]; exact h1 e
  · rw [if_neg (by simpa using e)]; exact h2 e
theorem hsv_end {x : UInt64 × UInt64 × UInt64} {a b d : UInt64} {ad : Addr} (e : x = (a, b, d)) (h : R (.ref ad) lo ((ad, .tuple [.float x.1, .float x.2.1, .float x.2.2]) :: led)) : R (.ref ad) lo ((ad, .tuple [.float a, .float b, .float d]) :: led) := by
  subst e; exact h
theorem f_hsv {h : UInt64} {sg : Bool} {m : Nat} {e : Int} (ok : c.Ok w (n + 5)) (hd : Float64.decode (Float64.mul h f6) = .fin sg m e) (hi : Float64.isInf (Float64.ofInt (Float64.truncOf sg m e)) = false)
    (hR : ∀ a, R (.ref a) lo ((a, .tuple [.float (hsvOut h (Float64.truncOf sg m e)).1, .float (hsvOut h (Float64.truncOf sg m e)).2.1, .float (hsvOut h (Float64.truncOf sg m e)).2.2]) :: led)) :
    Call prog w c (.ref 80) [.float h, .float f1, .float f1] R lo led := by
  refine call_fn0 (fd := ?fd) (fo := ?fo) (body := ?bd) (n := n + 4) (pn := ["h", "s", "v"]) [some (.float h), some (.float f1), some (.float f1), none, none, none, none, none, none] ok ?hK ?hd ?hcd ?hbody ?hclo ?hgl ?hbl ?hb ?hkind ?hnd ?hlo ?hcl ?main ?e1 ?e2 ?e3
  (case hK | hd | hbody | hcd | hclo | hgl | hbl | hkind => with_unfolding_all rfl); (case hnd => with_unfolding_all decide); (case hlo => with_unfolding_all rfl); (case hcl => intro L; with_unfolding_all rfl); (case e1 | e2 | e3 => with_unfolding_all rfl)
  case hb => intro vs hl; obtain ⟨a, b, d, rfl⟩ := len3 hl; with_unfolding_all rfl
  case main =>
  intro c' ok' he hx
  have hN : c'.env.scope.names = nmOf 80 w := by rw [he]; with_unfolding_all rfl
  clear he
  with_reducible refine s_cif ?_; refine t_cmp ?_; refine n_loc_1 ok' hN (nm_hsv_to_rgb_s _) ?_; refine e_float ?_
  (first | with_reducible refine c_eq ?_ | with_reducible refine f_eq ?_ | with_reducible refine c_seq (by (first | exact rfl | exact lit_dot | exact lit_quote | exact lit_back | exact lit_nl | exact lit_cr | exact lit_crlf | exact lit_empty | exact lit_white)) (by (first | exact rfl | exact lit_dot | exact lit_quote | exact lit_back | exact lit_nl | exact lit_cr | exact lit_crlf | exact lit_empty | exact lit_white)) ?_)
  with_reducible refine t_bool ?_
  refine ite_f (by decide +kernel) ?_
  refine s_end ?_
  with_reducible refine s_ca ?_; refine e_ct ok' hN (nm_hsv_to_rgb_int _) (bl_int _) ?_; refine a_1 ?_; refine e_bin ?_; refine n_loc_0 ok' hN (nm_hsv_to_rgb_h _) ?_; refine e_float ?_
  (first | with_reducible refine f_mul ?_ | with_reducible refine b_repi (by (repeat (first | assumption | exact List.mem_cons_self | refine List.mem_cons_of_mem _ ?_))) (by (first | assumption | decide | omega | (simp; done) | (simp; omega))) (by (first | assumption | decide | omega | (simp; done) | (simp; omega))) (fun _ => ?_) | with_reducible refine f_muli (by (first | assumption | decide | omega | (simp; done) | (simp; omega))) ?_ | with_reducible refine b_mul ?_ (by (first | assumption | decide | omega | (simp; done) | (simp; omega))) | with_reducible refine b_smul (by (first | exact rfl | exact lit_dot | exact lit_quote | exact lit_back | exact lit_nl | exact lit_cr | exact lit_crlf | exact lit_empty | exact lit_white)) (by (first | assumption | decide | omega | (simp; done) | (simp; omega))) (by (first | assumption | decide | omega | (simp; done) | (simp; omega))) ?_)
  (with_reducible refine k_intf (by assumption) ?_)
  with_reducible refine n_sto_3 ok' hN (nm_hsv_to_rgb_i _) ?_
  have hi0 := fmod_nonneg' (Float64.truncOf sg m e) (b := 6) (by omega)
  have hi6 := fmod_lt' (Float64.truncOf sg m e) (b := 6) (by omega)
  with_reducible refine s_ca ?_; refine e_bin ?_; refine e_bin ?_; refine n_loc_0 ok' hN (nm_hsv_to_rgb_h _) ?_; refine e_float ?_
  (first | with_reducible refine f_mul ?_ | with_reducible refine b_repi (by (repeat (first | assumption | exact List.mem_cons_self | refine List.mem_cons_of_mem _ ?_))) (by (first | assumption | decide | omega | (simp; done) | (simp; omega))) (by (first | assumption | decide | omega | (simp; done) | (simp; omega))) (fun _ => ?_) | with_reducible refine f_muli (by (first | assumption | decide | omega | (simp; done) | (simp; omega))) ?_ | with_reducible refine b_mul ?_ (by (first | assumption | decide | omega | (simp; done) | (simp; omega))) | with_reducible refine b_smul (by (first | exact rfl | exact lit_dot | exact lit_quote | exact lit_back | exact lit_nl | exact lit_cr | exact lit_crlf | exact lit_empty | exact lit_white)) (by (first | assumption | decide | omega | (simp; done) | (simp; omega))) (by (first | assumption | decide | omega | (simp; done) | (simp; omega))) ?_)
  with_reducible refine n_loc_3 ok' hN (nm_hsv_to_rgb_i _) ?_
  (first | with_reducible refine b_sub ?_ | with_reducible refine f_sub ?_ | with_reducible refine f_subi (by (first | assumption | decide | omega | (simp; done) | (simp; omega))) ?_)
  with_reducible refine n_sto_4 ok' hN (nm_hsv_to_rgb_f _) ?_; refine s_ca ?_; refine e_bin ?_; refine n_loc_2 ok' hN (nm_hsv_to_rgb_v _) ?_; refine e_bin ?_; refine e_float ?_; refine n_loc_1 ok' hN (nm_hsv_to_rgb_s _) ?_
  (first | with_reducible refine b_sub ?_ | with_reducible refine f_sub ?_ | with_reducible refine f_subi (by (first | assumption | decide | omega | (simp; done) | (simp; omega))) ?_)
  (first | with_reducible refine f_mul ?_ | with_reducible refine b_repi (by (repeat (first | assumption | exact List.mem_cons_self | refine List.mem_cons_of_mem _ ?_))) (by (first | assumption | decide | omega | (simp; done) | (simp; omega))) (by (first | assumption | decide | omega | (simp; done) | (simp; omega))) (fun _ => ?_) | with_reducible refine f_muli (by (first | assumption | decide | omega | (simp; done) | (simp; omega))) ?_ | with_reducible refine b_mul ?_ (by (first | assumption | decide | omega | (simp; done) | (simp; omega))) | with_reducible refine b_smul (by (first | exact rfl | exact lit_dot | exact lit_quote | exact lit_back | exact lit_nl | exact lit_cr | exact lit_crlf | exact lit_empty | exact lit_white)) (by (first | assumption | decide | omega | (simp; done) | (simp; omega))) (by (first | assumption | decide | omega | (simp; done) | (simp; omega))) ?_)
  with_reducible refine n_sto_5 ok' hN (nm_hsv_to_rgb_p _) ?_; refine s_ca ?_; refine e_bin ?_; refine n_loc_2 ok' hN (nm_hsv_to_rgb_v _) ?_; refine e_bin ?_; refine e_float ?_; refine e_bin ?_; refine n_loc_1 ok' hN (nm_hsv_to_rgb_s _) ?_; refine n_loc_4 ok' hN (nm_hsv_to_rgb_f _) ?_
  (first | with_reducible refine f_mul ?_ | with_reducible refine b_repi (by (repeat (first | assumption | exact List.mem_cons_self | refine List.mem_cons_of_mem _ ?_))) (by (first | assumption | decide | omega | (simp; done) | (simp; omega))) (by (first | assumption | decide | omega | (simp; done) | (simp; omega))) (fun _ => ?_) | with_reducible refine f_muli (by (first | assumption | decide | omega | (simp; done) | (simp; omega))) ?_ | with_reducible refine b_mul ?_ (by (first | assumption | decide | omega | (simp; done) | (simp; omega))) | with_reducible refine b_smul (by (first | exact rfl | exact lit_dot | exact lit_quote | exact lit_back | exact lit_nl | exact lit_cr | exact lit_crlf | exact lit_empty | exact lit_white)) (by (first | assumption | decide | omega | (simp; done) | (simp; omega))) (by (first | assumption | decide | omega | (simp; done) | (simp; omega))) ?_)
  (first | with_reducible refine b_sub ?_ | with_reducible refine f_sub ?_ | with_reducible refine f_subi (by (first | assumption | decide | omega | (simp; done) | (simp; omega))) ?_)
  (first | with_reducible refine f_mul ?_ | with_reducible refine b_repi (by (repeat (first | assumption | exact List.mem_cons_self | refine List.mem_cons_of_mem _ ?_))) (by (first | assumption | decide | omega | (simp; done) | (simp; omega))) (by (first | assumption | decide | omega | (simp; done) | (simp; omega))) (fun _ => ?_) | with_reducible refine f_muli (by (first | assumption | decide | omega | (simp; done) | (simp; omega))) ?_ | with_reducible refine b_mul ?_ (by (first | assumption | decide | omega | (simp; done) | (simp; omega))) | with_reducible refine b_smul (by (first | exact rfl | exact lit_dot | exact lit_quote | exact lit_back | exact lit_nl | exact lit_cr | exact lit_crlf | exact lit_empty | exact lit_white)) (by (first | assumption | decide | omega | (simp; done) | (simp; omega))) (by (first | assumption | decide | omega | (simp; done) | (simp; omega))) ?_)
  with_reducible refine n_sto_6 ok' hN (nm_hsv_to_rgb_q _) ?_; refine s_ca ?_; refine e_bin ?_; refine n_loc_2 ok' hN (nm_hsv_to_rgb_v _) ?_; refine e_bin ?_; refine e_float ?_; refine e_bin ?_; refine n_loc_1 ok' hN (nm_hsv_to_rgb_s _) ?_; refine e_bin ?_; refine e_float ?_; refine n_loc_4 ok' hN (nm_hsv_to_rgb_f _) ?_
  (first | with_reducible refine b_sub ?_ | with_reducible refine f_sub ?_ | with_reducible refine f_subi (by (first | assumption | decide | omega | (simp; done) | (simp; omega))) ?_)
  (first | with_reducible refine f_mul ?_ | with_reducible refine b_repi (by (repeat (first | assumption | exact List.mem_cons_self | refine List.mem_cons_of_mem _ ?_))) (by (first | assumption | decide | omega | (simp; done) | (simp; omega))) (by (first | assumption | decide | omega | (simp; done) | (simp; omega))) (fun _ => ?_) | with_reducible refine f_muli (by (first | assumption | decide | omega | (simp; done) | (simp; omega))) ?_ | with_reducible refine b_mul ?_ (by (first | assumption | decide | omega | (simp; done) | (simp; omega))) | with_reducible refine b_smul (by (first | exact rfl | exact lit_dot | exact lit_quote | exact lit_back | exact lit_nl | exact lit_cr | exact lit_crlf | exact lit_empty | exact lit_white)) (by (first | assumption | decide | omega | (simp; done) | (simp; omega))) (by (first | assumption | decide | omega | (simp; done) | (simp; omega))) ?_)
  (first | with_reducible refine b_sub ?_ | with_reducible refine f_sub ?_ | with_reducible refine f_subi (by (first | assumption | decide | omega | (simp; done) | (simp; omega))) ?_)
  (first | with_reducible refine f_mul ?_ | with_reducible refine b_repi (by (repeat (first | assumption | exact List.mem_cons_self | refine List.mem_cons_of_mem _ ?_))) (by (first | assumption | decide | omega | (simp; done) | (simp; omega))) (by (first | assumption | decide | omega | (simp; done) | (simp; omega))) (fun _ => ?_) | with_reducible refine f_muli (by (first | assumption | decide | omega | (simp; done) | (simp; omega))) ?_ | with_reducible refine b_mul ?_ (by (first | assumption | decide | omega | (simp; done) | (simp; omega))) | with_reducible refine b_smul (by (first | exact rfl | exact lit_dot | exact lit_quote | exact lit_back | exact lit_nl | exact lit_cr | exact lit_crlf | exact lit_empty | exact lit_white)) (by (first | assumption | decide | omega | (simp; done) | (simp; omega))) (by (first | assumption | decide | omega | (simp; done) | (simp; omega))) ?_)
  with_reducible refine n_sto_7 ok' hN (nm_hsv_to_rgb_t _) ?_; refine s_ca ?_; refine e_bin ?_; refine n_loc_3 ok' hN (nm_hsv_to_rgb_i _) ?_; refine e_int ?_
  (first | with_reducible refine b_mod (by (first | assumption | decide | omega | (simp; done) | (simp; omega))) ?_ | with_reducible refine f_mod (by (first | assumption | decide | omega | (simp; done) | (simp; omega))) ?_)
  with_reducible refine n_sto_3 ok' hN (nm_hsv_to_rgb_i _) ?_; refine s_cif ?_; refine t_cmp ?_; refine n_loc_3 ok' hN (nm_hsv_to_rgb_i _) ?_; refine e_int ?_
  (first | with_reducible refine c_eq ?_ | with_reducible refine f_eq ?_ | with_reducible refine c_seq (by (first | exact rfl | exact lit_dot | exact lit_quote | exact lit_back | exact lit_nl | exact lit_cr | exact lit_crlf | exact lit_empty | exact lit_white)) (by (first | exact rfl | exact lit_dot | exact lit_quote | exact lit_back | exact lit_nl | exact lit_cr | exact lit_crlf | exact lit_empty | exact lit_white)) ?_)
  with_reducible refine t_bool ?_
  refine hsv_if (fun e0 => ?_) fun e0 => ?_
  · with_reducible refine s_cr ?_
    with_reducible refine e_tuple ?_; refine a_3 ?_; refine n_loc_2 ok' hN (nm_hsv_to_rgb_v _) ?_; refine n_loc_7 ok' hN (nm_hsv_to_rgb_t _) ?_; refine n_loc_5 ok' hN (nm_hsv_to_rgb_p _) ?_
    refine ⟨by (first | assumption | decide | omega | (simp; done) | (simp; omega)), fun (ad1 : Addr) => ?_⟩
    exact hsv_end (by unfold hsvOut; simp only [e0, if_true]) (hR _)
  refine s_end ?_
  with_reducible refine s_cif ?_; refine t_cmp ?_; refine n_loc_3 ok' hN (nm_hsv_to_rgb_i _) ?_; refine e_int ?_
  (first | with_reducible refine c_eq ?_ | with_reducible refine f_eq ?_ | with_reducible refine c_seq (by (first | exact rfl | exact lit_dot | exact lit_quote | exact lit_back | exact lit_nl | exact lit_cr | exact lit_crlf | exact lit_empty | exact lit_white)) (by (first | exact rfl | exact lit_dot | exact lit_quote | exact lit_back | exact lit_nl | exact lit_cr | exact lit_crlf | exact lit_empty | exact lit_white)) ?_)
  with_reducible refine t_bool ?_
  refine hsv_if (fun e1 => ?_) fun e1 => ?_
  · with_reducible refine s_cr ?_
    with_reducible refine e_tuple ?_; refine a_3 ?_; refine n_loc_6 ok' hN (nm_hsv_to_rgb_q _) ?_; refine n_loc_2 ok' hN (nm_hsv_to_rgb_v _) ?_; refine n_loc_5 ok' hN (nm_hsv_to_rgb_p _) ?_
    refine ⟨by (first | assumption | decide | omega | (simp; done) | (simp; omega)), fun (ad2 : Addr) => ?_⟩
    exact hsv_end (by unfold hsvOut; simp only [e1]; rfl) (hR _)
  refine s_end ?_
  with_reducible refine s_cif ?_; refine t_cmp ?_; refine n_loc_3 ok' hN (nm_hsv_to_rgb_i _) ?_; refine e_int ?_
  (first | with_reducible refine c_eq ?_ | with_reducible refine f_eq ?_ | with_reducible refine c_seq (by (first | exact rfl | exact lit_dot | exact lit_quote | exact lit_back | exact lit_nl | exact lit_cr | exact lit_crlf | exact lit_empty | exact lit_white)) (by (first | exact rfl | exact lit_dot | exact lit_quote | exact lit_back | exact lit_nl | exact lit_cr | exact lit_crlf | exact lit_empty | exact lit_white)) ?_)
  with_reducible refine t_bool ?_
  refine hsv_if (fun e2 => ?_) fun e2 => ?_
  · with_reducible refine s_cr ?_
    with_reducible refine e_tuple ?_; refine a_3 ?_; refine n_loc_5 ok' hN (nm_hsv_to_rgb_p _) ?_; refine n_loc_2 ok' hN (nm_hsv_to_rgb_v _) ?_; refine n_loc_7 ok' hN (nm_hsv_to_rgb_t _) ?_
    refine ⟨by (first | assumption | decide | omega | (simp; done) | (simp; omega)), fun (ad3 : Addr) => ?_⟩
    exact hsv_end (by unfold hsvOut; simp only [e2]; rfl) (hR _)
  refine s_end ?_
  with_reducible refine s_cif ?_; refine t_cmp ?_; refine n_loc_3 ok' hN (nm_hsv_to_rgb_i _) ?_; refine e_int ?_
  (first | with_reducible refine c_eq ?_ | with_reducible refine f_eq ?_ | with_reducible refine c_seq (by (first | exact rfl | exact lit_dot | exact lit_quote | exact lit_back | exact lit_nl | exact lit_cr | exact lit_crlf | exact lit_empty | exact lit_white)) (by (first | exact rfl | exact lit_dot | exact lit_quote | exact lit_back | exact lit_nl | exact lit_cr | exact lit_crlf | exact lit_empty | exact lit_white)) ?_)
  with_reducible refine t_bool ?_
  refine hsv_if (fun e3 => ?_) fun e3 => ?_
  · with_reducible refine s_cr ?_
    with_reducible refine e_tuple ?_; refine a_3 ?_; refine n_loc_5 ok' hN (nm_hsv_to_rgb_p _) ?_; refine n_loc_6 ok' hN (nm_hsv_to_rgb_q _) ?_; refine n_loc_2 ok' hN (nm_hsv_to_rgb_v _) ?_
    refine ⟨by (first | assumption | decide | omega | (simp; done) | (simp; omega)), fun (ad4 : Addr) => ?_⟩
    exact hsv_end (by unfold hsvOut; simp only [e3]; rfl) (hR _)
  refine s_end ?_
  with_reducible refine s_cif ?_; refine t_cmp ?_; refine n_loc_3 ok' hN (nm_hsv_to_rgb_i _) ?_; refine e_int ?_
  (first | with_reducible refine c_eq ?_ | with_reducible refine f_eq ?_ | with_reducible refine c_seq (by (first | exact rfl | exact lit_dot | exact lit_quote | exact lit_back | exact lit_nl | exact lit_cr | exact lit_crlf | exact lit_empty | exact lit_white)) (by (first | exact rfl | exact lit_dot | exact lit_quote | exact lit_back | exact lit_nl | exact lit_cr | exact lit_crlf | exact lit_empty | exact lit_white)) ?_)
  with_reducible refine t_bool ?_
  refine hsv_if (fun e4 => ?_) fun e4 => ?_
  · with_reducible refine s_cr ?_
    with_reducible refine e_tuple ?_; refine a_3 ?_; refine n_loc_7 ok' hN (nm_hsv_to_rgb_t _) ?_; refine n_loc_5 ok' hN (nm_hsv_to_rgb_p _) ?_; refine n_loc_2 ok' hN (nm_hsv_to_rgb_v _) ?_
    refine ⟨by (first | assumption | decide | omega | (simp; done) | (simp; omega)), fun (ad5 : Addr) => ?_⟩
    exact hsv_end (by unfold hsvOut; simp only [e4]; rfl) (hR _)
  refine s_end ?_
  with_reducible refine s_cif ?_; refine t_cmp ?_; refine n_loc_3 ok' hN (nm_hsv_to_rgb_i _) ?_; refine e_int ?_
  (first | with_reducible refine c_eq ?_ | with_reducible refine f_eq ?_ | with_reducible refine c_seq (by (first | exact rfl | exact lit_dot | exact lit_quote | exact lit_back | exact lit_nl | exact lit_cr | exact lit_crlf | exact lit_empty | exact lit_white)) (by (first | exact rfl | exact lit_dot | exact lit_quote | exact lit_back | exact lit_nl | exact lit_cr | exact lit_crlf | exact lit_empty | exact lit_white)) ?_)
  with_reducible refine t_bool ?_
  refine hsv_if (fun e5 => ?_) fun e5 => ?_
  · with_reducible refine s_cr ?_
    with_reducible refine e_tuple ?_; refine a_3 ?_; refine n_loc_2 ok' hN (nm_hsv_to_rgb_v _) ?_; refine n_loc_5 ok' hN (nm_hsv_to_rgb_p _) ?_; refine n_loc_6 ok' hN (nm_hsv_to_rgb_q _) ?_
    refine ⟨by (first | assumption | decide | omega | (simp; done) | (simp; omega)), fun (ad6 : Addr) => ?_⟩
    exact hsv_end (by unfold hsvOut; simp only [e5]; rfl) (hR _)
  exact absurd hi6 (by omega)
noncomputable def hueOf (r g b : UInt64) : UInt64 × UInt64 × UInt64 :=
  let M := max3 r g b
  let d := Float64.sub M (min3 r g b)
  if eqF (min3 r g b) M = true then (f0, f0, M) else
  let rc := Float64.div (Float64.sub M r) d
  let gc := Float64.div (Float64.sub M g) d
  let bc := Float64.div (Float64.sub M b) d
  let h := if eqF r M = true then Float64.sub bc gc else if eqF g M = true then Float64.sub (Float64.add f2 rc) bc else Float64.sub (Float64.add f4 gc) rc
  ((Float64.divmod (Float64.div h f6) f1).2, Float64.div d M, M)
theorem isZero6 : Float64.isZero f6 = false := by decide +kernel
theorem isZero1 : Float64.isZero f1 = false := by decide +kernel
theorem isZero2 : Float64.isZero f2 = false := by decide +kernel
theorem b_if {x : Bool} {P Q : Prop} (h1 : x = true → P) (h2 : x = false → Q) : if x = true then P else Q := by
  cases x
  · exact h2 rfl
  · exact h1 rfl
theorem f_hue {r g b : UInt64} (ok : c.Ok w (n + 5)) (hz : eqF (min3 r g b) (max3 r g b) = false → Float64.isZero (max3 r g b) = false ∧ Float64.isZero (Float64.sub (max3 r g b) (min3 r g b)) = false)
    (hR : ∀ a, R (.ref a) lo ((a, .tuple [.float (hueOf r g b).1, .float (hueOf r g b).2.1, .float (hueOf r g b).2.2]) :: led)) :
    Call prog w c (.ref 73) [.float r, .float g, .float b] R lo led := by
  refine call_fn0 (fd := ?fd) (fo := ?fo) (body := ?bd) (n := n + 4) (pn := ["r", "g", "b"]) [some (.float r), some (.float g), some (.float b), none, none, none, none, none, none, none, none, none, none, none] ok ?hK ?hd ?hcd ?hbody ?hclo ?hgl ?hbl ?hb ?hkind ?hnd ?hlo ?hcl ?main ?e1 ?e2 ?e3
  (case hK | hd | hbody | hcd | hclo | hgl | hbl | hkind => with_unfolding_all rfl); (case hnd => with_unfolding_all decide); (case hlo => with_unfolding_all rfl); (case hcl => intro L; with_unfolding_all rfl); (case e1 | e2 | e3 => with_unfolding_all rfl)
  case hb => intro vs hl; obtain ⟨a, b, d, rfl⟩ := len3 hl; with_unfolding_all rfl
  case main =>
  intro c' ok' he hx
  have hN : c'.env.scope.names = nmOf 73 w := by rw [he]; with_unfolding_all rfl
  clear he
  have z6 := isZero6
  have z1 := isZero1
  with_reducible refine s_ca ?_; refine e_cb ok' hN (nm_rgb_to_hsv_max _) (bl_max _) ?_; refine a_3 ?_; refine n_loc_0 ok' hN (nm_rgb_to_hsv_r _) ?_; refine n_loc_1 ok' hN (nm_rgb_to_hsv_g _) ?_; refine n_loc_2 ok' hN (nm_rgb_to_hsv_b _) ?_
  (with_reducible refine k_max (by assumption) ?_)
  with_reducible refine n_sto_3 ok' hN (nm_rgb_to_hsv_maxc _) ?_; refine s_ca ?_; refine e_cb ok' hN (nm_rgb_to_hsv_min _) (bl_min _) ?_; refine a_3 ?_; refine n_loc_0 ok' hN (nm_rgb_to_hsv_r _) ?_; refine n_loc_1 ok' hN (nm_rgb_to_hsv_g _) ?_; refine n_loc_2 ok' hN (nm_rgb_to_hsv_b _) ?_
  (with_reducible refine k_min (by assumption) ?_)
  with_reducible refine n_sto_4 ok' hN (nm_rgb_to_hsv_minc _) ?_; refine s_ca ?_; refine e_bin ?_; refine n_loc_3 ok' hN (nm_rgb_to_hsv_maxc _) ?_; refine n_loc_4 ok' hN (nm_rgb_to_hsv_minc _) ?_
  (first | with_reducible refine b_sub ?_ | with_reducible refine f_sub ?_ | with_reducible refine f_subi (by (first | assumption | decide | omega | (simp; done) | (simp; omega))) ?_)
  with_reducible refine n_sto_5 ok' hN (nm_rgb_to_hsv_rangec _) ?_; refine s_ca ?_; refine n_loc_3 ok' hN (nm_rgb_to_hsv_maxc _) ?_; refine n_sto_6 ok' hN (nm_rgb_to_hsv_v _) ?_; refine s_cif ?_; refine t_cmp ?_; refine n_loc_4 ok' hN (nm_rgb_to_hsv_minc _) ?_; refine n_loc_3 ok' hN (nm_rgb_to_hsv_maxc _) ?_
  (first | with_reducible refine c_eq ?_ | with_reducible refine f_eq ?_ | with_reducible refine c_seq (by (first | exact rfl | exact lit_dot | exact lit_quote | exact lit_back | exact lit_nl | exact lit_cr | exact lit_crlf | exact lit_empty | exact lit_white)) (by (first | exact rfl | exact lit_dot | exact lit_quote | exact lit_back | exact lit_nl | exact lit_cr | exact lit_crlf | exact lit_empty | exact lit_white)) ?_)
  with_reducible refine t_bool ?_
  refine b_if (fun e0 => ?_) fun e0 => ?_
  · with_reducible refine s_cr ?_
    with_reducible refine e_tuple ?_; refine a_3 ?_; refine e_float ?_; refine e_float ?_; refine n_loc_6 ok' hN (nm_rgb_to_hsv_v _) ?_
    refine ⟨by (first | assumption | decide | omega | (simp; done) | (simp; omega)), fun (ad1 : Addr) => ?_⟩
    exact hsv_end (by unfold hueOf; simp only [eqF, e0, if_true]) (hR _)
  refine s_end ?_
  obtain ⟨hz1, hz2⟩ := hz e0
  with_reducible refine s_ca ?_; refine e_bin ?_; refine n_loc_5 ok' hN (nm_rgb_to_hsv_rangec _) ?_; refine n_loc_3 ok' hN (nm_rgb_to_hsv_maxc _) ?_
  (first | with_reducible refine f_div (by (first | assumption | decide | omega | (simp; done) | (simp; omega))) ?_ | with_reducible refine f_divi (by (first | assumption | decide | omega | (simp; done) | (simp; omega))) (by (first | assumption | decide | omega | (simp; done) | (simp; omega))) ?_ | with_reducible refine b_divii (by (first | assumption | decide | omega | (simp; done) | (simp; omega))) (by (first | assumption | decide | omega | (simp; done) | (simp; omega))) ?_)
  with_reducible refine n_sto_7 ok' hN (nm_rgb_to_hsv_s _) ?_; refine s_ca ?_; refine e_bin ?_; refine e_bin ?_; refine n_loc_3 ok' hN (nm_rgb_to_hsv_maxc _) ?_; refine n_loc_0 ok' hN (nm_rgb_to_hsv_r _) ?_
  (first | with_reducible refine b_sub ?_ | with_reducible refine f_sub ?_ | with_reducible refine f_subi (by (first | assumption | decide | omega | (simp; done) | (simp; omega))) ?_)
  with_reducible refine n_loc_5 ok' hN (nm_rgb_to_hsv_rangec _) ?_
  (first | with_reducible refine f_div (by (first | assumption | decide | omega | (simp; done) | (simp; omega))) ?_ | with_reducible refine f_divi (by (first | assumption | decide | omega | (simp; done) | (simp; omega))) (by (first | assumption | decide | omega | (simp; done) | (simp; omega))) ?_ | with_reducible refine b_divii (by (first | assumption | decide | omega | (simp; done) | (simp; omega))) (by (first | assumption | decide | omega | (simp; done) | (simp; omega))) ?_)
  with_reducible refine n_sto_8 ok' hN (nm_rgb_to_hsv_rc _) ?_; refine s_ca ?_; refine e_bin ?_; refine e_bin ?_; refine n_loc_3 ok' hN (nm_rgb_to_hsv_maxc _) ?_; refine n_loc_1 ok' hN (nm_rgb_to_hsv_g _) ?_
  (first | with_reducible refine b_sub ?_ | with_reducible refine f_sub ?_ | with_reducible refine f_subi (by (first | assumption | decide | omega | (simp; done) | (simp; omega))) ?_)
  with_reducible refine n_loc_5 ok' hN (nm_rgb_to_hsv_rangec _) ?_
  (first | with_reducible refine f_div (by (first | assumption | decide | omega | (simp; done) | (simp; omega))) ?_ | with_reducible refine f_divi (by (first | assumption | decide | omega | (simp; done) | (simp; omega))) (by (first | assumption | decide | omega | (simp; done) | (simp; omega))) ?_ | with_reducible refine b_divii (by (first | assumption | decide | omega | (simp; done) | (simp; omega))) (by (first | assumption | decide | omega | (simp; done) | (simp; omega))) ?_)
  with_reducible refine n_sto_9 ok' hN (nm_rgb_to_hsv_gc _) ?_; refine s_ca ?_; refine e_bin ?_; refine e_bin ?_; refine n_loc_3 ok' hN (nm_rgb_to_hsv_maxc _) ?_; refine n_loc_2 ok' hN (nm_rgb_to_hsv_b _) ?_
  (first | with_reducible refine b_sub ?_ | with_reducible refine f_sub ?_ | with_reducible refine f_subi (by (first | assumption | decide | omega | (simp; done) | (simp; omega))) ?_)
  with_reducible refine n_loc_5 ok' hN (nm_rgb_to_hsv_rangec _) ?_
  (first | with_reducible refine f_div (by (first | assumption | decide | omega | (simp; done) | (simp; omega))) ?_ | with_reducible refine f_divi (by (first | assumption | decide | omega | (simp; done) | (simp; omega))) (by (first | assumption | decide | omega | (simp; done) | (simp; omega))) ?_ | with_reducible refine b_divii (by (first | assumption | decide | omega | (simp; done) | (simp; omega))) (by (first | assumption | decide | omega | (simp; done) | (simp; omega))) ?_)
  with_reducible refine n_sto_10 ok' hN (nm_rgb_to_hsv_bc _) ?_; refine s_cif ?_; refine t_cmp ?_; refine n_loc_0 ok' hN (nm_rgb_to_hsv_r _) ?_; refine n_loc_3 ok' hN (nm_rgb_to_hsv_maxc _) ?_
  (first | with_reducible refine c_eq ?_ | with_reducible refine f_eq ?_ | with_reducible refine c_seq (by (first | exact rfl | exact lit_dot | exact lit_quote | exact lit_back | exact lit_nl | exact lit_cr | exact lit_crlf | exact lit_empty | exact lit_white)) (by (first | exact rfl | exact lit_dot | exact lit_quote | exact lit_back | exact lit_nl | exact lit_cr | exact lit_crlf | exact lit_empty | exact lit_white)) ?_)
  with_reducible refine t_bool ?_
  refine b_if (fun e1 => ?_) fun e1 => ?_
  · with_reducible refine s_ca ?_
    with_reducible refine e_bin ?_; refine n_loc_10 ok' hN (nm_rgb_to_hsv_bc _) ?_; refine n_loc_9 ok' hN (nm_rgb_to_hsv_gc _) ?_
    (first | with_reducible refine b_sub ?_ | with_reducible refine f_sub ?_ | with_reducible refine f_subi (by (first | assumption | decide | omega | (simp; done) | (simp; omega))) ?_)
    with_reducible refine n_sto_11 ok' hN (nm_rgb_to_hsv_h _) ?_; refine s_nil ?_
    refine then_next ?_
    with_reducible refine s_ca ?_; refine e_bin ?_; refine e_bin ?_; refine n_loc_11 ok' hN (nm_rgb_to_hsv_h _) ?_; refine e_float ?_
    (first | with_reducible refine f_div (by (first | assumption | decide | omega | (simp; done) | (simp; omega))) ?_ | with_reducible refine f_divi (by (first | assumption | decide | omega | (simp; done) | (simp; omega))) (by (first | assumption | decide | omega | (simp; done) | (simp; omega))) ?_ | with_reducible refine b_divii (by (first | assumption | decide | omega | (simp; done) | (simp; omega))) (by (first | assumption | decide | omega | (simp; done) | (simp; omega))) ?_)
    with_reducible refine e_float ?_
    (first | with_reducible refine b_mod (by (first | assumption | decide | omega | (simp; done) | (simp; omega))) ?_ | with_reducible refine f_mod (by (first | assumption | decide | omega | (simp; done) | (simp; omega))) ?_)
    with_reducible refine n_sto_11 ok' hN (nm_rgb_to_hsv_h _) ?_; refine s_cr ?_; refine e_tuple ?_; refine a_3 ?_; refine n_loc_11 ok' hN (nm_rgb_to_hsv_h _) ?_; refine n_loc_7 ok' hN (nm_rgb_to_hsv_s _) ?_; refine n_loc_6 ok' hN (nm_rgb_to_hsv_v _) ?_
    refine ⟨by (first | assumption | decide | omega | (simp; done) | (simp; omega)), fun (ad2 : Addr) => ?_⟩
    exact hsv_end (by unfold hueOf; simp only [eqF, e0, e1, if_true]; rfl) (hR _)
  · with_reducible refine s_cif ?_
    with_reducible refine t_cmp ?_; refine n_loc_1 ok' hN (nm_rgb_to_hsv_g _) ?_; refine n_loc_3 ok' hN (nm_rgb_to_hsv_maxc _) ?_
    (first | with_reducible refine c_eq ?_ | with_reducible refine f_eq ?_ | with_reducible refine c_seq (by (first | exact rfl | exact lit_dot | exact lit_quote | exact lit_back | exact lit_nl | exact lit_cr | exact lit_crlf | exact lit_empty | exact lit_white)) (by (first | exact rfl | exact lit_dot | exact lit_quote | exact lit_back | exact lit_nl | exact lit_cr | exact lit_crlf | exact lit_empty | exact lit_white)) ?_)
    with_reducible refine t_bool ?_
    refine b_if (fun e2 => ?_) fun e2 => ?_
    · with_reducible refine s_ca ?_
      with_reducible refine e_bin ?_; refine e_bin ?_; refine e_float ?_; refine n_loc_8 ok' hN (nm_rgb_to_hsv_rc _) ?_
      (first | with_reducible refine b_add ?_ | with_reducible refine f_add ?_ | with_reducible refine b_sadd (by (first | exact rfl | exact lit_dot | exact lit_quote | exact lit_back | exact lit_nl | exact lit_cr | exact lit_crlf | exact lit_empty | exact lit_white)) (by (first | exact rfl | exact lit_dot | exact lit_quote | exact lit_back | exact lit_nl | exact lit_cr | exact lit_crlf | exact lit_empty | exact lit_white)) (by (first | assumption | decide | omega | (simp; done) | (simp; omega))) ?_)
      with_reducible refine n_loc_10 ok' hN (nm_rgb_to_hsv_bc _) ?_
      (first | with_reducible refine b_sub ?_ | with_reducible refine f_sub ?_ | with_reducible refine f_subi (by (first | assumption | decide | omega | (simp; done) | (simp; omega))) ?_)
      with_reducible refine n_sto_11 ok' hN (nm_rgb_to_hsv_h _) ?_; refine s_nil ?_
      refine then_next ?_
      refine s_end ?_
      with_reducible refine s_ca ?_; refine e_bin ?_; refine e_bin ?_; refine n_loc_11 ok' hN (nm_rgb_to_hsv_h _) ?_; refine e_float ?_
      (first | with_reducible refine f_div (by (first | assumption | decide | omega | (simp; done) | (simp; omega))) ?_ | with_reducible refine f_divi (by (first | assumption | decide | omega | (simp; done) | (simp; omega))) (by (first | assumption | decide | omega | (simp; done) | (simp; omega))) ?_ | with_reducible refine b_divii (by (first | assumption | decide | omega | (simp; done) | (simp; omega))) (by (first | assumption | decide | omega | (simp; done) | (simp; omega))) ?_)
      with_reducible refine e_float ?_
      (first | with_reducible refine b_mod (by (first | assumption | decide | omega | (simp; done) | (simp; omega))) ?_ | with_reducible refine f_mod (by (first | assumption | decide | omega | (simp; done) | (simp; omega))) ?_)
      with_reducible refine n_sto_11 ok' hN (nm_rgb_to_hsv_h _) ?_; refine s_cr ?_; refine e_tuple ?_; refine a_3 ?_; refine n_loc_11 ok' hN (nm_rgb_to_hsv_h _) ?_; refine n_loc_7 ok' hN (nm_rgb_to_hsv_s _) ?_; refine n_loc_6 ok' hN (nm_rgb_to_hsv_v _) ?_
      refine ⟨by (first | assumption | decide | omega | (simp; done) | (simp; omega)), fun (ad3 : Addr) => ?_⟩
      exact hsv_end (by unfold hueOf; simp only [eqF, e0, e1, e2, if_true]; rfl) (hR _)
    · with_reducible refine s_ca ?_
      with_reducible refine e_bin ?_; refine e_bin ?_; refine e_float ?_; refine n_loc_9 ok' hN (nm_rgb_to_hsv_gc _) ?_
      (first | with_reducible refine b_add ?_ | with_reducible refine f_add ?_ | with_reducible refine b_sadd (by (first | exact rfl | exact lit_dot | exact lit_quote | exact lit_back | exact lit_nl | exact lit_cr | exact lit_crlf | exact lit_empty | exact lit_white)) (by (first | exact rfl | exact lit_dot | exact lit_quote | exact lit_back | exact lit_nl | exact lit_cr | exact lit_crlf | exact lit_empty | exact lit_white)) (by (first | assumption | decide | omega | (simp; done) | (simp; omega))) ?_)
      with_reducible refine n_loc_8 ok' hN (nm_rgb_to_hsv_rc _) ?_
      (first | with_reducible refine b_sub ?_ | with_reducible refine f_sub ?_ | with_reducible refine f_subi (by (first | assumption | decide | omega | (simp; done) | (simp; omega))) ?_)
      with_reducible refine n_sto_11 ok' hN (nm_rgb_to_hsv_h _) ?_; refine s_nil ?_
      refine then_next ?_
      refine s_end ?_
      with_reducible refine s_ca ?_; refine e_bin ?_; refine e_bin ?_; refine n_loc_11 ok' hN (nm_rgb_to_hsv_h _) ?_; refine e_float ?_
      (first | with_reducible refine f_div (by (first | assumption | decide | omega | (simp; done) | (simp; omega))) ?_ | with_reducible refine f_divi (by (first | assumption | decide | omega | (simp; done) | (simp; omega))) (by (first | assumption | decide | omega | (simp; done) | (simp; omega))) ?_ | with_reducible refine b_divii (by (first | assumption | decide | omega | (simp; done) | (simp; omega))) (by (first | assumption | decide | omega | (simp; done) | (simp; omega))) ?_)
      with_reducible refine e_float ?_
      (first | with_reducible refine b_mod (by (first | assumption | decide | omega | (simp; done) | (simp; omega))) ?_ | with_reducible refine f_mod (by (first | assumption | decide | omega | (simp; done) | (simp; omega))) ?_)
      with_reducible refine n_sto_11 ok' hN (nm_rgb_to_hsv_h _) ?_; refine s_cr ?_; refine e_tuple ?_; refine a_3 ?_; refine n_loc_11 ok' hN (nm_rgb_to_hsv_h _) ?_; refine n_loc_7 ok' hN (nm_rgb_to_hsv_s _) ?_; refine n_loc_6 ok' hN (nm_rgb_to_hsv_v _) ?_
      refine ⟨by (first | assumption | decide | omega | (simp; done) | (simp; omega)), fun (ad4 : Addr) => ?_⟩
      exact hsv_end (by unfold hueOf; simp only [eqF, e0, e1, e2]; rfl) (hR _)
theorem f_hls {r g b : UInt64} (ok : c.Ok w (n + 5)) (hz : eqF (min3 r g b) (max3 r g b) = true) (hR : ∀ a x, R (.ref a) lo ((a, .tuple [.float f0, .float x, .float f0]) :: led)) :
    Call prog w c (.ref 66) [.float r, .float g, .float b] R lo led := by
  refine call_fn0 (fd := ?fd) (fo := ?fo) (body := ?bd) (n := n + 4) (pn := ["r", "g", "b"]) [some (.float r), some (.float g), some (.float b), none, none, none, none, none, none, none, none, none, none, none, none] ok ?hK ?hd ?hcd ?hbody ?hclo ?hgl ?hbl ?hb ?hkind ?hnd ?hlo ?hcl ?main ?e1 ?e2 ?e3
  (case hK | hd | hbody | hcd | hclo | hgl | hbl | hkind => with_unfolding_all rfl); (case hnd => with_unfolding_all decide); (case hlo => with_unfolding_all rfl); (case hcl => intro L; with_unfolding_all rfl); (case e1 | e2 | e3 => with_unfolding_all rfl)
  case hb => intro vs hl; obtain ⟨a, b, d, rfl⟩ := len3 hl; with_unfolding_all rfl
  case main =>
  intro c' ok' he hx
  have hN : c'.env.scope.names = nmOf 66 w := by rw [he]; with_unfolding_all rfl
  clear he
  have z2 := isZero2
  with_reducible refine s_ca ?_; refine e_cb ok' hN (nm_rgb_to_hls_max _) (bl_max _) ?_; refine a_3 ?_; refine n_loc_0 ok' hN (nm_rgb_to_hls_r _) ?_; refine n_loc_1 ok' hN (nm_rgb_to_hls_g _) ?_; refine n_loc_2 ok' hN (nm_rgb_to_hls_b _) ?_
  (with_reducible refine k_max (by assumption) ?_)
  with_reducible refine n_sto_3 ok' hN (nm_rgb_to_hls_maxc _) ?_; refine s_ca ?_; refine e_cb ok' hN (nm_rgb_to_hls_min _) (bl_min _) ?_; refine a_3 ?_; refine n_loc_0 ok' hN (nm_rgb_to_hls_r _) ?_; refine n_loc_1 ok' hN (nm_rgb_to_hls_g _) ?_; refine n_loc_2 ok' hN (nm_rgb_to_hls_b _) ?_
  (with_reducible refine k_min (by assumption) ?_)
  with_reducible refine n_sto_4 ok' hN (nm_rgb_to_hls_minc _) ?_; refine s_ca ?_; refine e_bin ?_; refine n_loc_3 ok' hN (nm_rgb_to_hls_maxc _) ?_; refine n_loc_4 ok' hN (nm_rgb_to_hls_minc _) ?_
  (first | with_reducible refine b_add ?_ | with_reducible refine f_add ?_ | with_reducible refine b_sadd (by (first | exact rfl | exact lit_dot | exact lit_quote | exact lit_back | exact lit_nl | exact lit_cr | exact lit_crlf | exact lit_empty | exact lit_white)) (by (first | exact rfl | exact lit_dot | exact lit_quote | exact lit_back | exact lit_nl | exact lit_cr | exact lit_crlf | exact lit_empty | exact lit_white)) (by (first | assumption | decide | omega | (simp; done) | (simp; omega))) ?_)
  with_reducible refine n_sto_5 ok' hN (nm_rgb_to_hls_sumc _) ?_; refine s_ca ?_; refine e_bin ?_; refine n_loc_3 ok' hN (nm_rgb_to_hls_maxc _) ?_; refine n_loc_4 ok' hN (nm_rgb_to_hls_minc _) ?_
  (first | with_reducible refine b_sub ?_ | with_reducible refine f_sub ?_ | with_reducible refine f_subi (by (first | assumption | decide | omega | (simp; done) | (simp; omega))) ?_)
  with_reducible refine n_sto_6 ok' hN (nm_rgb_to_hls_rangec _) ?_; refine s_ca ?_; refine e_bin ?_; refine n_loc_5 ok' hN (nm_rgb_to_hls_sumc _) ?_; refine e_float ?_
  (first | with_reducible refine f_div (by (first | assumption | decide | omega | (simp; done) | (simp; omega))) ?_ | with_reducible refine f_divi (by (first | assumption | decide | omega | (simp; done) | (simp; omega))) (by (first | assumption | decide | omega | (simp; done) | (simp; omega))) ?_ | with_reducible refine b_divii (by (first | assumption | decide | omega | (simp; done) | (simp; omega))) (by (first | assumption | decide | omega | (simp; done) | (simp; omega))) ?_)
  with_reducible refine n_sto_7 ok' hN (nm_rgb_to_hls_l _) ?_; refine s_cif ?_; refine t_cmp ?_; refine n_loc_4 ok' hN (nm_rgb_to_hls_minc _) ?_; refine n_loc_3 ok' hN (nm_rgb_to_hls_maxc _) ?_
  (first | with_reducible refine c_eq ?_ | with_reducible refine f_eq ?_ | with_reducible refine c_seq (by (first | exact rfl | exact lit_dot | exact lit_quote | exact lit_back | exact lit_nl | exact lit_cr | exact lit_crlf | exact lit_empty | exact lit_white)) (by (first | exact rfl | exact lit_dot | exact lit_quote | exact lit_back | exact lit_nl | exact lit_cr | exact lit_crlf | exact lit_empty | exact lit_white)) ?_)
  with_reducible refine t_bool ?_
  refine b_if (fun e0 => ?_) fun e0 => ?_
  · with_reducible refine s_cr ?_
    with_reducible refine e_tuple ?_; refine a_3 ?_; refine e_float ?_; refine n_loc_7 ok' hN (nm_rgb_to_hls_l _) ?_; refine e_float ?_
    refine ⟨by (first | assumption | decide | omega | (simp; done) | (simp; omega)), fun (ad1 : Addr) => ?_⟩
    exact hR _ _
  · exact absurd (e0.symm.trans hz) Bool.false_ne_true
end
section
variable {prog : Program} {w : World} {c : Cx} {n : Nat} {lo : Lo} {led led' : Led} {R : AV → Lo → Led → Prop}
noncomputable def placesStep (size : Nat) (got : List Int) (x : Int) : List Int := if got.contains (x.fmod size) then got else got ++ [x.fmod size]
theorem f_places {la : Addr} {ns : List Int} {size : Nat} (ok : c.Ok w (n + 5)) (hs : 0 < size) (hn : ns.length = 4) (hl : (la, intsO ns) ∈ led)
    (h : ∀ a (ms : List Nat), ms ≠ [] → ms.length ≤ 4 → ms.Pairwise (· < ·) → (∀ x ∈ ms, x < size) → R (.ref a) lo ((a, natsO ms) :: led)) :
    Call prog w c (.ref 160) [.ref la, .int size] R lo led := by
  refine Call_drop ?_
  refine call_fn0 (fd := ?fd) (fo := ?fo) (body := ?bd) (n := n + 4) (pn := ["cells", "size"]) [some (.ref la), some (.int size), none, none, none] ok ?hK ?hd ?hcd ?hbody ?hclo ?hgl ?hbl ?hb ?hkind ?hnd ?hlo ?hcl ?main ?e1 ?e2 ?e3
  (case hK | hd | hbody | hcd | hclo | hgl | hbl | hkind => with_unfolding_all rfl); (case hnd => with_unfolding_all decide); (case hlo => with_unfolding_all rfl); (case hcl => intro L; with_unfolding_all rfl); (case e1 | e2 | e3 => with_unfolding_all rfl)
  case hb => intro vs hl; obtain ⟨a, b, rfl⟩ := len2 hl; with_unfolding_all rfl
  case main =>
  intro c' ok' he hx
  have hN : c'.env.scope.names = nmOf 160 w := by rw [he]; with_unfolding_all rfl
  clear he
  with_reducible refine s_ca ?_; refine e_list ?_; refine a_nil ?_
  refine ⟨by (first | assumption | decide | omega | (simp; done) | (simp; omega)), fun (ad1 : Addr) => ?_⟩
  with_reducible refine n_sto_2 ok' hN (nm_l_places_got _) ?_; refine s_cons ?_
  refine s_forn_list ok' la (ns.map AV.int) (fun i lo led' => ∃ cv, (∃ got : List Int, got.length ≤ i ∧ (0 < i → got ≠ []) ∧ got.Nodup ∧ (∀ x ∈ got, 0 ≤ x ∧ x < size) ∧ lo = [some (.ref la), some (.int size), some (.ref ad1), cv, none] ∧
    led' = (ad1, intsO got) :: led)) ?_ ?_ ?_ ?_
  · with_reducible refine n_loc_0 ok' hN (nm_l_places_cells _) ?_
    refine ⟨rfl, .inl ?_, none, [], by simp, by simp, by simp, by simp, rfl, rfl⟩
    (repeat (first | assumption | exact List.mem_cons_self | refine List.mem_cons_of_mem _ ?_))
  · rintro i lo led' hi ⟨cv, got, h1, h2, h3, h4, rfl, rfl⟩
    refine .inl ?_
    (repeat (first | assumption | exact List.mem_cons_self | refine List.mem_cons_of_mem _ ?_))
  · rintro i v lo led' hv ⟨cv, got, h1, h2, h3, h4, rfl, rfl⟩
    have hi : i < 4 := by
      obtain ⟨h, _⟩ := List.getElem?_eq_some_iff.mp hv
      rw [List.length_map] at h; omega
    obtain ⟨x, hx', rfl⟩ : ∃ x, ns[i]? = some x ∧ AV.int x = v := by
      rw [List.getElem?_map] at hv; exact Option.map_eq_some_iff.mp hv
    have e1 := fmod_nonneg' x (b := size) (by omega)
    have e2 := fmod_lt' x (b := size) (by omega)
    with_reducible refine n_sto_3 ok' hN (nm_l_places_cell _) ?_; refine s_cif ?_; refine t_cmp ?_; refine e_bin ?_; refine n_loc_3 ok' hN (nm_l_places_cell _) ?_; refine n_loc_1 ok' hN (nm_l_places_size _) ?_
    (first | with_reducible refine b_mod (by (first | assumption | decide | omega | (simp; done) | (simp; omega))) ?_ | with_reducible refine f_mod (by (first | assumption | decide | omega | (simp; done) | (simp; omega))) ?_)
    with_reducible refine n_loc_2 ok' hN (nm_l_places_got _) ?_
    (first | with_reducible refine c_notinn (by (first | assumption | (refine IsL.mem ?_; (repeat (first | assumption | exact List.mem_cons_self | refine List.mem_cons_of_mem _ ?_))))) rfl ?_ | with_reducible refine c_notin (by (first | assumption | (refine IsL.mem ?_; (repeat (first | assumption | exact List.mem_cons_self | refine List.mem_cons_of_mem _ ?_))))) ?_)
    with_reducible refine t_bool ?_
    split
    · rename_i hc
      have hni : x.fmod size ∉ got := by simpa using hc
      with_reducible refine s_cx ok' ?_; refine e_meth ?_; refine n_loc_2 ok' hN (nm_l_places_got _) ?_
      (((with_reducible refine m_list slot_list_append lmd_append (by (repeat (first | assumption | exact List.mem_cons_self | refine List.mem_cons_of_mem _ ?_))) ?_); with_reducible refine cw1_blt ?_))
      with_reducible refine a_1 ?_; refine e_bin ?_; refine n_loc_3 ok' hN (nm_l_places_cell _) ?_; refine n_loc_1 ok' hN (nm_l_places_size _) ?_
      (first | with_reducible refine b_mod (by (first | assumption | decide | omega | (simp; done) | (simp; omega))) ?_ | with_reducible refine f_mod (by (first | assumption | decide | omega | (simp; done) | (simp; omega))) ?_)
      (first | with_reducible refine k_appends (by (first | exact rfl | exact lit_dot | exact lit_quote | exact lit_back | exact lit_nl | exact lit_cr | exact lit_crlf | exact lit_empty | exact lit_white)) (by (first | assumption | exact .head | exact .tail .head | exact .tail (.tail .head) | exact .tail (.tail (.tail .head)) | exact .tail (.tail (.tail (.tail .head))) | exact .tail (.tail (.tail (.tail (.tail .head)))) | exact .tail (.tail (.tail (.tail (.tail (.tail .head))))) | exact .tail (.tail (.tail (.tail (.tail (.tail (.tail .head)))))) | exact .tail (.tail (.tail (.tail (.tail (.tail (.tail (.tail .head))))))) | exact .tail (.tail (.tail (.tail (.tail (.tail (.tail (.tail (.tail .head)))))))) | exact .tail (.tail (.tail (.tail (.tail (.tail (.tail (.tail (.tail (.tail .head))))))))) | exact .tail (.tail (.tail (.tail (.tail (.tail (.tail (.tail (.tail (.tail (.tail .head)))))))))) | exact .tail (.tail (.tail (.tail (.tail (.tail (.tail (.tail (.tail (.tail (.tail (.tail .head))))))))))) | exact .tail (.tail (.tail (.tail (.tail (.tail (.tail (.tail (.tail (.tail (.tail (.tail (.tail .head)))))))))))))) (by (first | assumption | decide | omega | (simp; done) | (simp; omega))) ?_ | with_reducible refine k_appendi (by (first | assumption | exact .head | exact .tail .head | exact .tail (.tail .head) | exact .tail (.tail (.tail .head)) | exact .tail (.tail (.tail (.tail .head))) | exact .tail (.tail (.tail (.tail (.tail .head)))) | exact .tail (.tail (.tail (.tail (.tail (.tail .head))))) | exact .tail (.tail (.tail (.tail (.tail (.tail (.tail .head)))))) | exact .tail (.tail (.tail (.tail (.tail (.tail (.tail (.tail .head))))))) | exact .tail (.tail (.tail (.tail (.tail (.tail (.tail (.tail (.tail .head)))))))) | exact .tail (.tail (.tail (.tail (.tail (.tail (.tail (.tail (.tail (.tail .head))))))))) | exact .tail (.tail (.tail (.tail (.tail (.tail (.tail (.tail (.tail (.tail (.tail .head)))))))))) | exact .tail (.tail (.tail (.tail (.tail (.tail (.tail (.tail (.tail (.tail (.tail (.tail .head))))))))))) | exact .tail (.tail (.tail (.tail (.tail (.tail (.tail (.tail (.tail (.tail (.tail (.tail (.tail .head)))))))))))))) (by (first | assumption | decide | omega | (simp; done) | (simp; omega))) ?_ | with_reducible refine k_append (by (first | assumption | exact .head | exact .tail .head | exact .tail (.tail .head) | exact .tail (.tail (.tail .head)) | exact .tail (.tail (.tail (.tail .head))) | exact .tail (.tail (.tail (.tail (.tail .head)))) | exact .tail (.tail (.tail (.tail (.tail (.tail .head))))) | exact .tail (.tail (.tail (.tail (.tail (.tail (.tail .head)))))) | exact .tail (.tail (.tail (.tail (.tail (.tail (.tail (.tail .head))))))) | exact .tail (.tail (.tail (.tail (.tail (.tail (.tail (.tail (.tail .head)))))))) | exact .tail (.tail (.tail (.tail (.tail (.tail (.tail (.tail (.tail (.tail .head))))))))) | exact .tail (.tail (.tail (.tail (.tail (.tail (.tail (.tail (.tail (.tail (.tail .head)))))))))) | exact .tail (.tail (.tail (.tail (.tail (.tail (.tail (.tail (.tail (.tail (.tail (.tail .head))))))))))) | exact .tail (.tail (.tail (.tail (.tail (.tail (.tail (.tail (.tail (.tail (.tail (.tail (.tail .head)))))))))))))) (by (first | assumption | decide | omega | (simp; done) | (simp; omega))) ?_)
      refine s_end ?_
      with_reducible refine s_nil ?_
      refine ⟨_, got ++ [x.fmod size], by simp; omega, by simp, ?_, ?_, rfl, rfl⟩
      · refine List.nodup_append.mpr ⟨h3, by simp, ?_⟩
        rintro a ha b hb rfl
        rw [List.mem_singleton.mp hb] at ha; exact hni ha
      · intro y hy
        rcases List.mem_append.mp hy with hy | hy
        · exact h4 y hy
        · rw [List.mem_singleton.mp hy]; exact ⟨e1, e2⟩
    · rename_i hc
      have hin : x.fmod size ∈ got := by simpa using hc
      refine s_end ?_
      with_reducible refine s_nil ?_
      exact ⟨_, got, by omega, (fun _ e => by rw [e] at hin; cases hin), h3, h4, rfl, rfl⟩
  · rintro lo led' ⟨cv, got, h1, h2, h3, h4, rfl, rfl⟩
    rw [List.length_map] at h1 h2
    refine then_next ?_
    refine s_cons ?_
    refine s_ret ?_
    with_reducible refine e_cb ok' hN (nm_l_places_sorted _) (bl_sorted _) ?_; refine a_1 ?_; refine n_loc_2 ok' hN (nm_l_places_got _) ?_
    (with_reducible refine k_sorted (by (first | assumption | (refine IsL.mem ?_; (repeat (first | assumption | exact List.mem_cons_self | refine List.mem_cons_of_mem _ ?_))))) (by (first | assumption | decide | omega | (simp; done) | (simp; omega))) ?_)
    intro a ms hp hs'
    refine then_ret ⟨(a, intsO ms) :: led, (List.sublist_cons_self _ _).cons_cons _, ?_⟩
    · have e : natsO (ms.map Int.toNat) = intsO ms := by
        show AO.list ((ms.map Int.toNat).map fun (x : Nat) => AV.int x) = AO.list (ms.map AV.int)
        congr 1
        rw [List.map_map]
        refine List.map_congr_left fun x hx => ?_
        have := (h4 x (hp.mem_iff.mp hx)).1
        show AV.int ((x.toNat : Nat) : Int) = AV.int x
        congr 1; omega
      have hnd : ms.Nodup := hp.nodup_iff.mpr h3
      rw [← e]
      refine h a (ms.map Int.toNat) ?_ ?_ ?_ ?_
      · intro e
        rw [List.map_eq_nil_iff] at e
        rw [e] at hp
        exact h2 (by omega) (List.perm_nil.mp hp.symm)
      · rw [List.length_map, hp.length_eq]; omega
      · refine List.pairwise_map.mpr ?_
        have hlt : ms.Pairwise (· < ·) := (hs'.and hnd).imp fun {a b} h => by have := h.1; have := h.2; omega
        refine (List.Pairwise.and_mem.mp hlt).imp fun {a b} h => ?_
        have h5 := (h4 a (hp.mem_iff.mp h.1)).1
        have h6 := (h4 b (hp.mem_iff.mp h.2.1)).1
        have := h.2.2
        omega
      · intro y hy
        obtain ⟨x, hx, rfl⟩ := List.mem_map.mp hy
        have := h4 x (hp.mem_iff.mp hx)
        omega
end
section
variable {prog : Program} {w : World} {c : Cx} {n : Nat} {lo : Lo} {led led' : Led} {R : AV → Lo → Led → Prop}
noncomputable def spellWord (kind : Nat) (a : Nat) : List Nat :=
  if kind = 1 then [34] ++ List.replicate (a + 1) 46 ++ [34] else if kind = 2 then [92] ++ List.replicate (a + 1) 46 else List.replicate (a + 1) 46
noncomputable def fileWords (sp : Nat) (xs : List Nat) : List (List Nat) := (List.range xs.length).map fun k => spellWord (sp / 3 ^ k % 3) (xs.getD k 0)
theorem fileWords_step {sp i : Nat} {xs : List Nat} : (List.range (i + 1)).map (fun k => spellWord (sp / 3 ^ k % 3) (xs.getD k 0)) = (List.range i).map (fun k => spellWord (sp / 3 ^ k % 3) (xs.getD k 0)) ++ [spellWord (sp / 3 ^ i % 3) (xs.getD i 0)] := by
  rw [List.range_succ, List.map_append]; rfl
theorem spellWord_len (k a : Nat) : (spellWord k a).length ≤ a + 3 := by
  unfold spellWord; split
  · simp
  · split <;> simp
theorem sum_le_of {l : List Nat} {m : Nat} (h : ∀ x ∈ l, x ≤ m) : l.sum ≤ l.length * m := by
  induction l with
  | nil => simp
  | cons a r ih =>
    have := h a (.head _)
    have := ih fun x hx => h x (.tail _ hx)
    simp only [List.sum_cons, List.length_cons, Nat.add_mul]; omega
theorem f_file {la : Addr} {xs : List Nat} {sp : Nat} (ok : c.Ok w (n + 5)) (hx4 : xs.length ≤ 4) (hb : ∀ x ∈ xs, x < 12) (hl : (la, natsO xs) ∈ led)
    (h : R (.str (S (joinL [10] (fileWords sp xs)))) lo led) :
    Call prog w c (.ref 174) [.ref la, .int sp] R lo led := by
  refine Call_drop ?_
  refine call_fn0 (fd := ?fd) (fo := ?fo) (body := ?bd) (n := n + 4) (pn := ["ones", "spelled"]) [some (.ref la), some (.int sp), none, none, none, none, none, none] ok ?hK ?hd ?hcd ?hbody ?hclo ?hgl ?hbl ?hb ?hkind ?hnd ?hlo ?hcl ?main ?e1 ?e2 ?e3
  (case hK | hd | hbody | hcd | hclo | hgl | hbl | hkind => with_unfolding_all rfl); (case hnd => with_unfolding_all decide); (case hlo => with_unfolding_all rfl); (case hcl => intro L; with_unfolding_all rfl); (case e1 | e2 | e3 => with_unfolding_all rfl)
  case hb => intro vs hl; obtain ⟨a, b, rfl⟩ := len2 hl; with_unfolding_all rfl
  case main =>
  intro c' ok' he hx
  have hN : c'.env.scope.names = nmOf 174 w := by rw [he]; with_unfolding_all rfl
  clear he
  with_reducible refine s_ca ?_; refine e_list ?_; refine a_nil ?_
  refine ⟨by (first | assumption | decide | omega | (simp; done) | (simp; omega)), fun (ad1 : Addr) => ?_⟩
  with_reducible refine n_sto_2 ok' hN (nm_l_file_written _) ?_; refine s_cons ?_
  refine s_forn_range ok' xs.length (by omega) (fun i lo led' => ∃ kv wv kd, lo = [some (.ref la), some (.int sp), some (.ref ad1), kv, wv, kd, none, none] ∧
    led' = (ad1, wordsO ((List.range i).map fun k => spellWord (sp / 3 ^ k % 3) (xs.getD k 0))) :: led) ?_ ?_ ?_
  · with_reducible refine e_ct ok' hN (nm_l_file_range _) (bl_range _) ?_
    with_reducible refine a_1 ?_; refine e_cb ok' hN (nm_l_file_len _) (bl_len _) ?_; refine a_1 ?_; refine n_loc_0 ok' hN (nm_l_file_ones _) ?_
    (first | with_reducible refine k_lenS (by (first | exact rfl | exact lit_dot | exact lit_quote | exact lit_back | exact lit_nl | exact lit_cr | exact lit_crlf | exact lit_empty | exact lit_white)) (by (first | assumption | decide | omega | (simp; done) | (simp; omega))) ?_ | with_reducible refine k_lenn (by (first | assumption | (refine IsL.mem ?_; (repeat (first | assumption | exact List.mem_cons_self | refine List.mem_cons_of_mem _ ?_))))) (by (first | assumption | decide | omega | (simp; done) | (simp; omega))) ?_ | with_reducible refine k_leni (by (first | assumption | (refine IsL.mem ?_; (repeat (first | assumption | exact List.mem_cons_self | refine List.mem_cons_of_mem _ ?_))))) (by (first | assumption | decide | omega | (simp; done) | (simp; omega))) ?_ | ((with_reducible refine k_lens ?h2 ?_); (case h2 => (first | assumption | decide | omega | (simp; done) | (simp; omega))))| with_reducible refine k_len (by (first | assumption | (refine IsL.mem ?_; (repeat (first | assumption | exact List.mem_cons_self | refine List.mem_cons_of_mem _ ?_))))) (by (first | assumption | decide | omega | (simp; done) | (simp; omega))) ?_)
    (with_reducible refine k_range (fun _ => ?_))
    exact ⟨_, _, rfl, rfl, none, none, none, rfl, rfl⟩
  · rintro i lo led' hi ⟨kv, wv, kd, rfl, rfl⟩
    have hz : ((List.range i).map fun k => spellWord (sp / 3 ^ k % 3) (xs.getD k 0)).length = i := by simp
    rw [fileWords_step]
    generalize ((List.range i).map fun k => spellWord (sp / 3 ^ k % 3) (xs.getD k 0)) = ws at hz ⊢
    have hxi : xs[i]? = some (xs.getD i 0) := by rw [List.getD_eq_getElem?_getD, List.getElem?_eq_getElem hi]; rfl
    have hg : xs.getD (i : Int).toNat 0 = xs.getD i 0 := by rw [Int.toNat_natCast]
    have hxb : xs.getD i 0 < 12 := hb _ (List.mem_of_getElem? hxi)
    generalize xs.getD i 0 = a at hg hxb ⊢
    have hb3 : (Builtin.Int.intBits 3 : Int) = 2 := by decide
    have hbp : (Builtin.Int.intBits 3 : Int) * (i : Int) ≤ 2 ^ 27 := by rw [hb3]; omega
    have hp : (3 : Int) ^ (i : Int).toNat = ((3 ^ i : Nat) : Int) := by rw [Int.toNat_natCast]; exact (Int.natCast_pow 3 i).symm
    have hp0 : (3 : Int) ^ (i : Int).toNat ≠ 0 := by rw [hp]; have : 0 < 3 ^ i := Nat.pow_pos (by decide); exact Int.ofNat_ne_zero.mpr (Nat.ne_of_gt this)
    have hp1 : ((3 : Int) ^ (i : Int).toNat).natAbs < 2 ^ 200 := by
      rw [hp, Int.natAbs_natCast]
      exact Nat.lt_of_le_of_lt (Nat.pow_le_pow_right (by decide) (show i ≤ 4 by omega)) (by decide)
    have hkd : ((sp : Int).fdiv ((3 : Int) ^ (i : Int).toNat)).fmod 3 = ((sp / 3 ^ i % 3 : Nat) : Int) := by
      rw [hp, Int.fdiv_eq_ediv_of_nonneg _ (Int.natCast_nonneg _), Int.fmod_eq_emod_of_nonneg _ (by decide)]; rfl
    with_reducible refine n_sto_3 ok' hN (nm_l_file_k _) ?_; refine s_ca ?_; refine e_bin ?_; refine e_str ?_; refine e_bin ?_; refine e_sub ?_; refine n_loc_0 ok' hN (nm_l_file_ones _) ?_; refine n_loc_3 ok' hN (nm_l_file_k _) ?_
    (first | with_reducible refine g_nats (by (first | assumption | (refine IsL.mem ?_; (repeat (first | assumption | exact List.mem_cons_self | refine List.mem_cons_of_mem _ ?_))))) (by (first | assumption | decide | omega | (simp; done) | (simp; omega))) (by (first | assumption | decide | omega | (simp; done) | (simp; omega))) (by (first | assumption | decide | omega | (simp; done) | (simp; omega))) ?_ | with_reducible refine g_ints (by (first | assumption | (refine IsL.mem ?_; (repeat (first | assumption | exact List.mem_cons_self | refine List.mem_cons_of_mem _ ?_))))) (by (first | assumption | decide | omega | (simp; done) | (simp; omega))) (by (first | assumption | decide | omega | (simp; done) | (simp; omega))) (by (first | assumption | decide | omega | (simp; done) | (simp; omega))) ?_ | refine g_tup (by (repeat (first | assumption | exact List.mem_cons_self | refine List.mem_cons_of_mem _ ?_))) (by (first | assumption | decide | omega | (simp; done) | (simp; omega))) (by (first | assumption | decide | omega | (simp; done) | (simp; omega))) rfl ?_)
    with_reducible refine e_int ?_
    (first | with_reducible refine b_add ?_ | with_reducible refine f_add ?_ | with_reducible refine b_sadd (by (first | exact rfl | exact lit_dot | exact lit_quote | exact lit_back | exact lit_nl | exact lit_cr | exact lit_crlf | exact lit_empty | exact lit_white)) (by (first | exact rfl | exact lit_dot | exact lit_quote | exact lit_back | exact lit_nl | exact lit_cr | exact lit_crlf | exact lit_empty | exact lit_white)) (by (first | assumption | decide | omega | (simp; done) | (simp; omega))) ?_)
    (first | with_reducible refine f_mul ?_ | with_reducible refine b_repi (by (repeat (first | assumption | exact List.mem_cons_self | refine List.mem_cons_of_mem _ ?_))) (by (first | assumption | decide | omega | (simp; done) | (simp; omega))) (by (first | assumption | decide | omega | (simp; done) | (simp; omega))) (fun _ => ?_) | with_reducible refine f_muli (by (first | assumption | decide | omega | (simp; done) | (simp; omega))) ?_ | with_reducible refine b_mul ?_ (by (first | assumption | decide | omega | (simp; done) | (simp; omega))) | with_reducible refine b_smul (by (first | exact rfl | exact lit_dot | exact lit_quote | exact lit_back | exact lit_nl | exact lit_cr | exact lit_crlf | exact lit_empty | exact lit_white)) (by (first | assumption | decide | omega | (simp; done) | (simp; omega))) (by (first | assumption | decide | omega | (simp; done) | (simp; omega))) ?_)
    with_reducible refine n_sto_4 ok' hN (nm_l_file_word _) ?_; refine s_ca ?_; refine e_bin ?_; refine e_bin ?_; refine n_loc_1 ok' hN (nm_l_file_spelled _) ?_; refine e_bin ?_; refine e_int ?_; refine n_loc_3 ok' hN (nm_l_file_k _) ?_
    (with_reducible refine b_pow (by (first | assumption | decide | omega | (simp; done) | (simp; omega))) (by (first | assumption | decide | omega | (simp; done) | (simp; omega))) ?_)
    (first | with_reducible refine b_div (by (first | assumption | decide | omega | (simp; done) | (simp; omega))) (by (first | assumption | decide | omega | (simp; done) | (simp; omega))) ?_)
    with_reducible refine e_int ?_
    (first | with_reducible refine b_mod (by (first | assumption | decide | omega | (simp; done) | (simp; omega))) ?_ | with_reducible refine f_mod (by (first | assumption | decide | omega | (simp; done) | (simp; omega))) ?_)
    with_reducible refine n_sto_5 ok' hN (nm_l_file_kind _) ?_; refine s_cif ?_; refine t_cmp ?_; refine n_loc_5 ok' hN (nm_l_file_kind _) ?_; refine e_int ?_
    (first | with_reducible refine c_eq ?_ | with_reducible refine f_eq ?_ | with_reducible refine c_seq (by (first | exact rfl | exact lit_dot | exact lit_quote | exact lit_back | exact lit_nl | exact lit_cr | exact lit_crlf | exact lit_empty | exact lit_white)) (by (first | exact rfl | exact lit_dot | exact lit_quote | exact lit_back | exact lit_nl | exact lit_cr | exact lit_crlf | exact lit_empty | exact lit_white)) ?_)
    with_reducible refine t_bool ?_
    rw [hg, hkd]
    have hw1 : ((a : Int) + 1).toNat = a + 1 := by omega
    rw [hw1]
    generalize sp / 3 ^ i % 3 = kd'
    refine hsv_if (fun e1 => ?_) fun e1 => ?_
    · have e1' : kd' = 1 := by omega
      with_reducible refine s_ca ?_; refine e_bin ?_; refine e_bin ?_; refine e_str ?_; refine n_loc_4 ok' hN (nm_l_file_word _) ?_
      (first | with_reducible refine b_add ?_ | with_reducible refine f_add ?_ | with_reducible refine b_sadd (by (first | exact rfl | exact lit_dot | exact lit_quote | exact lit_back | exact lit_nl | exact lit_cr | exact lit_crlf | exact lit_empty | exact lit_white)) (by (first | exact rfl | exact lit_dot | exact lit_quote | exact lit_back | exact lit_nl | exact lit_cr | exact lit_crlf | exact lit_empty | exact lit_white)) (by (first | assumption | decide | omega | (simp; done) | (simp; omega))) ?_)
      with_reducible refine e_str ?_
      (first | with_reducible refine b_add ?_ | with_reducible refine f_add ?_ | with_reducible refine b_sadd (by (first | exact rfl | exact lit_dot | exact lit_quote | exact lit_back | exact lit_nl | exact lit_cr | exact lit_crlf | exact lit_empty | exact lit_white)) (by (first | exact rfl | exact lit_dot | exact lit_quote | exact lit_back | exact lit_nl | exact lit_cr | exact lit_crlf | exact lit_empty | exact lit_white)) (by (first | assumption | decide | omega | (simp; done) | (simp; omega))) ?_)
      with_reducible refine n_sto_4 ok' hN (nm_l_file_word _) ?_; refine s_nil ?_
      refine then_next ?_
      with_reducible refine s_cif ?_; refine t_cmp ?_; refine n_loc_5 ok' hN (nm_l_file_kind _) ?_; refine e_int ?_
      (first | with_reducible refine c_eq ?_ | with_reducible refine f_eq ?_ | with_reducible refine c_seq (by (first | exact rfl | exact lit_dot | exact lit_quote | exact lit_back | exact lit_nl | exact lit_cr | exact lit_crlf | exact lit_empty | exact lit_white)) (by (first | exact rfl | exact lit_dot | exact lit_quote | exact lit_back | exact lit_nl | exact lit_cr | exact lit_crlf | exact lit_empty | exact lit_white)) ?_)
      with_reducible refine t_bool ?_
      refine ite_f (by simp [e1']) ?_
      refine s_end ?_
      with_reducible refine s_cx ok' ?_; refine e_meth ?_; refine n_loc_2 ok' hN (nm_l_file_written _) ?_
      (((with_reducible refine m_list slot_list_append lmd_append (by (repeat (first | assumption | exact List.mem_cons_self | refine List.mem_cons_of_mem _ ?_))) ?_); with_reducible refine cw1_blt ?_))
      with_reducible refine a_1 ?_; refine n_loc_4 ok' hN (nm_l_file_word _) ?_
      (first | with_reducible refine k_appends (by (first | exact rfl | exact lit_dot | exact lit_quote | exact lit_back | exact lit_nl | exact lit_cr | exact lit_crlf | exact lit_empty | exact lit_white)) (by (first | assumption | exact .head | exact .tail .head | exact .tail (.tail .head) | exact .tail (.tail (.tail .head)) | exact .tail (.tail (.tail (.tail .head))) | exact .tail (.tail (.tail (.tail (.tail .head)))) | exact .tail (.tail (.tail (.tail (.tail (.tail .head))))) | exact .tail (.tail (.tail (.tail (.tail (.tail (.tail .head)))))) | exact .tail (.tail (.tail (.tail (.tail (.tail (.tail (.tail .head))))))) | exact .tail (.tail (.tail (.tail (.tail (.tail (.tail (.tail (.tail .head)))))))) | exact .tail (.tail (.tail (.tail (.tail (.tail (.tail (.tail (.tail (.tail .head))))))))) | exact .tail (.tail (.tail (.tail (.tail (.tail (.tail (.tail (.tail (.tail (.tail .head)))))))))) | exact .tail (.tail (.tail (.tail (.tail (.tail (.tail (.tail (.tail (.tail (.tail (.tail .head))))))))))) | exact .tail (.tail (.tail (.tail (.tail (.tail (.tail (.tail (.tail (.tail (.tail (.tail (.tail .head)))))))))))))) (by (first | assumption | decide | omega | (simp; done) | (simp; omega))) ?_ | with_reducible refine k_appendi (by (first | assumption | exact .head | exact .tail .head | exact .tail (.tail .head) | exact .tail (.tail (.tail .head)) | exact .tail (.tail (.tail (.tail .head))) | exact .tail (.tail (.tail (.tail (.tail .head)))) | exact .tail (.tail (.tail (.tail (.tail (.tail .head))))) | exact .tail (.tail (.tail (.tail (.tail (.tail (.tail .head)))))) | exact .tail (.tail (.tail (.tail (.tail (.tail (.tail (.tail .head))))))) | exact .tail (.tail (.tail (.tail (.tail (.tail (.tail (.tail (.tail .head)))))))) | exact .tail (.tail (.tail (.tail (.tail (.tail (.tail (.tail (.tail (.tail .head))))))))) | exact .tail (.tail (.tail (.tail (.tail (.tail (.tail (.tail (.tail (.tail (.tail .head)))))))))) | exact .tail (.tail (.tail (.tail (.tail (.tail (.tail (.tail (.tail (.tail (.tail (.tail .head))))))))))) | exact .tail (.tail (.tail (.tail (.tail (.tail (.tail (.tail (.tail (.tail (.tail (.tail (.tail .head)))))))))))))) (by (first | assumption | decide | omega | (simp; done) | (simp; omega))) ?_ | with_reducible refine k_append (by (first | assumption | exact .head | exact .tail .head | exact .tail (.tail .head) | exact .tail (.tail (.tail .head)) | exact .tail (.tail (.tail (.tail .head))) | exact .tail (.tail (.tail (.tail (.tail .head)))) | exact .tail (.tail (.tail (.tail (.tail (.tail .head))))) | exact .tail (.tail (.tail (.tail (.tail (.tail (.tail .head)))))) | exact .tail (.tail (.tail (.tail (.tail (.tail (.tail (.tail .head))))))) | exact .tail (.tail (.tail (.tail (.tail (.tail (.tail (.tail (.tail .head)))))))) | exact .tail (.tail (.tail (.tail (.tail (.tail (.tail (.tail (.tail (.tail .head))))))))) | exact .tail (.tail (.tail (.tail (.tail (.tail (.tail (.tail (.tail (.tail (.tail .head)))))))))) | exact .tail (.tail (.tail (.tail (.tail (.tail (.tail (.tail (.tail (.tail (.tail (.tail .head))))))))))) | exact .tail (.tail (.tail (.tail (.tail (.tail (.tail (.tail (.tail (.tail (.tail (.tail (.tail .head)))))))))))))) (by (first | assumption | decide | omega | (simp; done) | (simp; omega))) ?_)
      with_reducible refine s_nil ?_
      refine ⟨_, _, _, rfl, ?_⟩
      rw [spellWord, if_pos e1']
    · have e1' : kd' ≠ 1 := by omega
      refine s_end ?_
      with_reducible refine s_cif ?_; refine t_cmp ?_; refine n_loc_5 ok' hN (nm_l_file_kind _) ?_; refine e_int ?_
      (first | with_reducible refine c_eq ?_ | with_reducible refine f_eq ?_ | with_reducible refine c_seq (by (first | exact rfl | exact lit_dot | exact lit_quote | exact lit_back | exact lit_nl | exact lit_cr | exact lit_crlf | exact lit_empty | exact lit_white)) (by (first | exact rfl | exact lit_dot | exact lit_quote | exact lit_back | exact lit_nl | exact lit_cr | exact lit_crlf | exact lit_empty | exact lit_white)) ?_)
      with_reducible refine t_bool ?_
      refine hsv_if (fun e2 => ?_) fun e2 => ?_
      · have e2' : kd' = 2 := by omega
        with_reducible refine s_ca ?_; refine e_bin ?_; refine e_str ?_; refine n_loc_4 ok' hN (nm_l_file_word _) ?_
        (first | with_reducible refine b_add ?_ | with_reducible refine f_add ?_ | with_reducible refine b_sadd (by (first | exact rfl | exact lit_dot | exact lit_quote | exact lit_back | exact lit_nl | exact lit_cr | exact lit_crlf | exact lit_empty | exact lit_white)) (by (first | exact rfl | exact lit_dot | exact lit_quote | exact lit_back | exact lit_nl | exact lit_cr | exact lit_crlf | exact lit_empty | exact lit_white)) (by (first | assumption | decide | omega | (simp; done) | (simp; omega))) ?_)
        with_reducible refine n_sto_4 ok' hN (nm_l_file_word _) ?_; refine s_nil ?_
        refine then_next ?_
        with_reducible refine s_cx ok' ?_; refine e_meth ?_; refine n_loc_2 ok' hN (nm_l_file_written _) ?_
        (((with_reducible refine m_list slot_list_append lmd_append (by (repeat (first | assumption | exact List.mem_cons_self | refine List.mem_cons_of_mem _ ?_))) ?_); with_reducible refine cw1_blt ?_))
        with_reducible refine a_1 ?_; refine n_loc_4 ok' hN (nm_l_file_word _) ?_
        (first | with_reducible refine k_appends (by (first | exact rfl | exact lit_dot | exact lit_quote | exact lit_back | exact lit_nl | exact lit_cr | exact lit_crlf | exact lit_empty | exact lit_white)) (by (first | assumption | exact .head | exact .tail .head | exact .tail (.tail .head) | exact .tail (.tail (.tail .head)) | exact .tail (.tail (.tail (.tail .head))) | exact .tail (.tail (.tail (.tail (.tail .head)))) | exact .tail (.tail (.tail (.tail (.tail (.tail .head))))) | exact .tail (.tail (.tail (.tail (.tail (.tail (.tail .head)))))) | exact .tail (.tail (.tail (.tail (.tail (.tail (.tail (.tail .head))))))) | exact .tail (.tail (.tail (.tail (.tail (.tail (.tail (.tail (.tail .head)))))))) | exact .tail (.tail (.tail (.tail (.tail (.tail (.tail (.tail (.tail (.tail .head))))))))) | exact .tail (.tail (.tail (.tail (.tail (.tail (.tail (.tail (.tail (.tail (.tail .head)))))))))) | exact .tail (.tail (.tail (.tail (.tail (.tail (.tail (.tail (.tail (.tail (.tail (.tail .head))))))))))) | exact .tail (.tail (.tail (.tail (.tail (.tail (.tail (.tail (.tail (.tail (.tail (.tail (.tail .head)))))))))))))) (by (first | assumption | decide | omega | (simp; done) | (simp; omega))) ?_ | with_reducible refine k_appendi (by (first | assumption | exact .head | exact .tail .head | exact .tail (.tail .head) | exact .tail (.tail (.tail .head)) | exact .tail (.tail (.tail (.tail .head))) | exact .tail (.tail (.tail (.tail (.tail .head)))) | exact .tail (.tail (.tail (.tail (.tail (.tail .head))))) | exact .tail (.tail (.tail (.tail (.tail (.tail (.tail .head)))))) | exact .tail (.tail (.tail (.tail (.tail (.tail (.tail (.tail .head))))))) | exact .tail (.tail (.tail (.tail (.tail (.tail (.tail (.tail (.tail .head)))))))) | exact .tail (.tail (.tail (.tail (.tail (.tail (.tail (.tail (.tail (.tail .head))))))))) | exact .tail (.tail (.tail (.tail (.tail (.tail (.tail (.tail (.tail (.tail (.tail .head)))))))))) | exact .tail (.tail (.tail (.tail (.tail (.tail (.tail (.tail (.tail (.tail (.tail (.tail .head))))))))))) | exact .tail (.tail (.tail (.tail (.tail (.tail (.tail (.tail (.tail (.tail (.tail (.tail (.tail .head)))))))))))))) (by (first | assumption | decide | omega | (simp; done) | (simp; omega))) ?_ | with_reducible refine k_append (by (first | assumption | exact .head | exact .tail .head | exact .tail (.tail .head) | exact .tail (.tail (.tail .head)) | exact .tail (.tail (.tail (.tail .head))) | exact .tail (.tail (.tail (.tail (.tail .head)))) | exact .tail (.tail (.tail (.tail (.tail (.tail .head))))) | exact .tail (.tail (.tail (.tail (.tail (.tail (.tail .head)))))) | exact .tail (.tail (.tail (.tail (.tail (.tail (.tail (.tail .head))))))) | exact .tail (.tail (.tail (.tail (.tail (.tail (.tail (.tail (.tail .head)))))))) | exact .tail (.tail (.tail (.tail (.tail (.tail (.tail (.tail (.tail (.tail .head))))))))) | exact .tail (.tail (.tail (.tail (.tail (.tail (.tail (.tail (.tail (.tail (.tail .head)))))))))) | exact .tail (.tail (.tail (.tail (.tail (.tail (.tail (.tail (.tail (.tail (.tail (.tail .head))))))))))) | exact .tail (.tail (.tail (.tail (.tail (.tail (.tail (.tail (.tail (.tail (.tail (.tail (.tail .head)))))))))))))) (by (first | assumption | decide | omega | (simp; done) | (simp; omega))) ?_)
        with_reducible refine s_nil ?_
        refine ⟨_, _, _, rfl, ?_⟩
        rw [spellWord, if_neg e1', if_pos e2']
      · have e2' : kd' ≠ 2 := by omega
        refine s_end ?_
        with_reducible refine s_cx ok' ?_; refine e_meth ?_; refine n_loc_2 ok' hN (nm_l_file_written _) ?_
        (((with_reducible refine m_list slot_list_append lmd_append (by (repeat (first | assumption | exact List.mem_cons_self | refine List.mem_cons_of_mem _ ?_))) ?_); with_reducible refine cw1_blt ?_))
        with_reducible refine a_1 ?_; refine n_loc_4 ok' hN (nm_l_file_word _) ?_
        (first | with_reducible refine k_appends (by (first | exact rfl | exact lit_dot | exact lit_quote | exact lit_back | exact lit_nl | exact lit_cr | exact lit_crlf | exact lit_empty | exact lit_white)) (by (first | assumption | exact .head | exact .tail .head | exact .tail (.tail .head) | exact .tail (.tail (.tail .head)) | exact .tail (.tail (.tail (.tail .head))) | exact .tail (.tail (.tail (.tail (.tail .head)))) | exact .tail (.tail (.tail (.tail (.tail (.tail .head))))) | exact .tail (.tail (.tail (.tail (.tail (.tail (.tail .head)))))) | exact .tail (.tail (.tail (.tail (.tail (.tail (.tail (.tail .head))))))) | exact .tail (.tail (.tail (.tail (.tail (.tail (.tail (.tail (.tail .head)))))))) | exact .tail (.tail (.tail (.tail (.tail (.tail (.tail (.tail (.tail (.tail .head))))))))) | exact .tail (.tail (.tail (.tail (.tail (.tail (.tail (.tail (.tail (.tail (.tail .head)))))))))) | exact .tail (.tail (.tail (.tail (.tail (.tail (.tail (.tail (.tail (.tail (.tail (.tail .head))))))))))) | exact .tail (.tail (.tail (.tail (.tail (.tail (.tail (.tail (.tail (.tail (.tail (.tail (.tail .head)))))))))))))) (by (first | assumption | decide | omega | (simp; done) | (simp; omega))) ?_ | with_reducible refine k_appendi (by (first | assumption | exact .head | exact .tail .head | exact .tail (.tail .head) | exact .tail (.tail (.tail .head)) | exact .tail (.tail (.tail (.tail .head))) | exact .tail (.tail (.tail (.tail (.tail .head)))) | exact .tail (.tail (.tail (.tail (.tail (.tail .head))))) | exact .tail (.tail (.tail (.tail (.tail (.tail (.tail .head)))))) | exact .tail (.tail (.tail (.tail (.tail (.tail (.tail (.tail .head))))))) | exact .tail (.tail (.tail (.tail (.tail (.tail (.tail (.tail (.tail .head)))))))) | exact .tail (.tail (.tail (.tail (.tail (.tail (.tail (.tail (.tail (.tail .head))))))))) | exact .tail (.tail (.tail (.tail (.tail (.tail (.tail (.tail (.tail (.tail (.tail .head)))))))))) | exact .tail (.tail (.tail (.tail (.tail (.tail (.tail (.tail (.tail (.tail (.tail (.tail .head))))))))))) | exact .tail (.tail (.tail (.tail (.tail (.tail (.tail (.tail (.tail (.tail (.tail (.tail (.tail .head)))))))))))))) (by (first | assumption | decide | omega | (simp; done) | (simp; omega))) ?_ | with_reducible refine k_append (by (first | assumption | exact .head | exact .tail .head | exact .tail (.tail .head) | exact .tail (.tail (.tail .head)) | exact .tail (.tail (.tail (.tail .head))) | exact .tail (.tail (.tail (.tail (.tail .head)))) | exact .tail (.tail (.tail (.tail (.tail (.tail .head))))) | exact .tail (.tail (.tail (.tail (.tail (.tail (.tail .head)))))) | exact .tail (.tail (.tail (.tail (.tail (.tail (.tail (.tail .head))))))) | exact .tail (.tail (.tail (.tail (.tail (.tail (.tail (.tail (.tail .head)))))))) | exact .tail (.tail (.tail (.tail (.tail (.tail (.tail (.tail (.tail (.tail .head))))))))) | exact .tail (.tail (.tail (.tail (.tail (.tail (.tail (.tail (.tail (.tail (.tail .head)))))))))) | exact .tail (.tail (.tail (.tail (.tail (.tail (.tail (.tail (.tail (.tail (.tail (.tail .head))))))))))) | exact .tail (.tail (.tail (.tail (.tail (.tail (.tail (.tail (.tail (.tail (.tail (.tail (.tail .head)))))))))))))) (by (first | assumption | decide | omega | (simp; done) | (simp; omega))) ?_)
        with_reducible refine s_nil ?_
        refine ⟨_, _, _, rfl, ?_⟩
        rw [spellWord, if_neg e1', if_neg e2']
  · rintro lo led' ⟨kv, wv, kd, rfl, rfl⟩
    refine then_next ?_
    have hz : (((List.range xs.length).map fun k => spellWord (sp / 3 ^ k % 3) (xs.getD k 0)).map List.length).sum + ((List.range xs.length).map fun k => spellWord (sp / 3 ^ k % 3) (xs.getD k 0)).length ≤ 1048576 := by
      have h1 : (((List.range xs.length).map fun k => spellWord (sp / 3 ^ k % 3) (xs.getD k 0)).map List.length).sum ≤ _ := sum_le_of (m := 20) (by
        intro x hx
        obtain ⟨y, hy, rfl⟩ := List.mem_map.mp hx
        obtain ⟨k, hk, rfl⟩ := List.mem_map.mp hy
        have hk := List.mem_range.mp hk
        refine Nat.le_trans (spellWord_len _ _) ?_
        have : xs.getD k 0 < 12 := hb _ (List.mem_of_getElem? (i := k) (by rw [List.getD_eq_getElem?_getD, List.getElem?_eq_getElem hk]; rfl))
        omega)
      simp only [List.length_map, List.length_range] at h1 ⊢
      omega
    with_reducible refine s_cr ?_; refine e_meth ?_; refine e_str ?_
    (((with_reducible refine m_str PySem.F.slot_str_join smd_join ?_); with_reducible refine cw1_blt ?_))
    with_reducible refine a_1 ?_; refine n_loc_2 ok' hN (nm_l_file_written _) ?_
    (with_reducible refine k_join (by (first | exact rfl | exact lit_dot | exact lit_quote | exact lit_back | exact lit_nl | exact lit_cr | exact lit_crlf | exact lit_empty | exact lit_white)) (by (first | assumption | (refine IsL.mem ?_; (repeat (first | assumption | exact List.mem_cons_self | refine List.mem_cons_of_mem _ ?_))))) (by (first | assumption | decide | omega | (simp; done) | (simp; omega))) (by (first | assumption | decide | omega | (simp; done) | (simp; omega))) ?_)
    exact ⟨_, List.sublist_cons_self _ _, h⟩
end
section
variable {prog : Program} {w : World} {c : Cx} {n : Nat} {lo : Lo} {led led' : Led} {R : AV → Lo → Led → Prop}
theorem all_ne {l : List (Str × NameKind)} (h : (l.all fun x => x.2 != .cell) = true) : ∀ x ∈ l, x.2 ≠ .cell := fun x hx => by
  have := List.all_eq_true.mp h x hx
  simpa using this
theorem f_readon {rf cc ca ct la : Addr} {fd : FuncData} {text : List Nat} {i : Nat} (ok : c.Ok w (n + 3)) (hfd : IsInner w 167 1 [("text", ct), ("at", ca)] cc fd) (hi : i ≤ text.length) (hz : text.length ≤ 1000)
    (hrf : (rf, .fn fd none) ∈ led) (hcc : (cc, .code fd.qualname) ∈ led) (hct : (ct, .cell (some (.str (S text)))) ∈ led) (hca : (ca, .cell (some (.ref la))) ∈ led)
    (h : R (.str (S ((text.drop i).take 1))) lo ((la, intsO [(i + ((text.drop i).take 1).length : Nat)]) :: led)) :
    CodeP prog w c (.ref rf) [.int 1] R lo ((la, intsO [(i : Int)]) :: led) := by
  obtain ⟨name, qual, params, body, scope, pos, doc, pm, ctv, hin, rfl⟩ := hfd
  refine use_eq (o := innerDef 167 1 w) (x := ?x) ?e fun e => ?_
  case e => with_unfolding_all rfl
  cases hin.symm.trans e
  refine code_clo (n := n + 2) (body := ?bd) (pn := ["size"]) (cc := cc) [some (.int 1), none, none, none, none] ok (.inl (List.mem_cons_of_mem _ hrf)) rfl (.inl (List.mem_cons_of_mem _ hcc)) ?hbody rfl rfl ?hb ?hkind ?hcell ?hlo ?main ?e1 ?e2 ?e3
  case hbody => with_unfolding_all rfl
  case hb => intro vs hl; obtain ⟨a, rfl⟩ := len1 hl; with_unfolding_all rfl
  case hkind => with_unfolding_all rfl
  case hcell => exact all_ne (by with_unfolding_all rfl)
  case hlo => with_unfolding_all rfl
  case e1 => with_unfolding_all rfl
  case e2 => with_unfolding_all rfl
  case e3 => with_unfolding_all rfl
  case main =>
  intro c' ok' he hx
  have hN : c'.env.scope.names = ns_l_machine__l_read_on := by rw [he]; with_unfolding_all rfl
  have hc_at : c'.env.cells.lookup (Str.ofString "at") = some ca := by rw [he]; with_unfolding_all rfl
  have hc_text : c'.env.cells.lookup (Str.ofString "text") = some ct := by rw [he]; with_unfolding_all rfl
  clear he
  have hs : signAt (S text) i = S ((text.drop i).take 1) := by unfold signAt; rw [S_cps]; rfl
  have hsl : ((text.drop i).take 1).length ≤ 1 := by rw [List.length_take]; omega
  with_reducible refine s_ca ?_
  refine e_slices (S text) ?_
  with_reducible refine n_free ok' hN nm_l_machine__l_read_on_text hc_text (by (first | assumption | (refine At.mem ?_; (repeat (first | assumption | exact List.mem_cons_self | refine List.mem_cons_of_mem _ ?_))))) ?_
  refine ⟨rfl, ?_⟩
  with_reducible refine o_some ?_; refine e_sub ?_; refine n_free ok' hN nm_l_machine__l_read_on_at hc_at (by (first | assumption | (refine At.mem ?_; (repeat (first | assumption | exact List.mem_cons_self | refine List.mem_cons_of_mem _ ?_))))) ?_; refine e_int ?_
  (first | with_reducible refine g_nats (by (first | assumption | (refine IsL.mem ?_; (repeat (first | assumption | exact List.mem_cons_self | refine List.mem_cons_of_mem _ ?_))))) (by (first | assumption | decide | omega | (simp; done) | (simp; omega))) (by (first | assumption | decide | omega | (simp; done) | (simp; omega))) (by (first | assumption | decide | omega | (simp; done) | (simp; omega))) ?_ | with_reducible refine g_ints (by (first | assumption | (refine IsL.mem ?_; (repeat (first | assumption | exact List.mem_cons_self | refine List.mem_cons_of_mem _ ?_))))) (by (first | assumption | decide | omega | (simp; done) | (simp; omega))) (by (first | assumption | decide | omega | (simp; done) | (simp; omega))) (by (first | assumption | decide | omega | (simp; done) | (simp; omega))) ?_ | refine g_tup (by (repeat (first | assumption | exact List.mem_cons_self | refine List.mem_cons_of_mem _ ?_))) (by (first | assumption | decide | omega | (simp; done) | (simp; omega))) (by (first | assumption | decide | omega | (simp; done) | (simp; omega))) rfl ?_)
  refine ⟨_, rfl, ?_⟩
  with_reducible refine o_some ?_; refine e_bin ?_; refine e_sub ?_; refine n_free ok' hN nm_l_machine__l_read_on_at hc_at (by (first | assumption | (refine At.mem ?_; (repeat (first | assumption | exact List.mem_cons_self | refine List.mem_cons_of_mem _ ?_))))) ?_; refine e_int ?_
  (first | with_reducible refine g_nats (by (first | assumption | (refine IsL.mem ?_; (repeat (first | assumption | exact List.mem_cons_self | refine List.mem_cons_of_mem _ ?_))))) (by (first | assumption | decide | omega | (simp; done) | (simp; omega))) (by (first | assumption | decide | omega | (simp; done) | (simp; omega))) (by (first | assumption | decide | omega | (simp; done) | (simp; omega))) ?_ | with_reducible refine g_ints (by (first | assumption | (refine IsL.mem ?_; (repeat (first | assumption | exact List.mem_cons_self | refine List.mem_cons_of_mem _ ?_))))) (by (first | assumption | decide | omega | (simp; done) | (simp; omega))) (by (first | assumption | decide | omega | (simp; done) | (simp; omega))) (by (first | assumption | decide | omega | (simp; done) | (simp; omega))) ?_ | refine g_tup (by (repeat (first | assumption | exact List.mem_cons_self | refine List.mem_cons_of_mem _ ?_))) (by (first | assumption | decide | omega | (simp; done) | (simp; omega))) (by (first | assumption | decide | omega | (simp; done) | (simp; omega))) rfl ?_)
  with_reducible refine n_loc_0 ok' hN nm_l_machine__l_read_on_size ?_
  (first | with_reducible refine b_add ?_ | with_reducible refine f_add ?_ | with_reducible refine b_sadd (by (first | exact rfl | exact lit_dot | exact lit_quote | exact lit_back | exact lit_nl | exact lit_cr | exact lit_crlf | exact lit_empty | exact lit_white)) (by (first | exact rfl | exact lit_dot | exact lit_quote | exact lit_back | exact lit_nl | exact lit_cr | exact lit_crlf | exact lit_empty | exact lit_white)) (by (first | assumption | decide | omega | (simp; done) | (simp; omega))) ?_)
  refine ⟨_, rfl, ?_⟩
  refine ⟨by rw [S_len]; omega, i, rfl, rfl, by rw [S_len]; exact hi, ?_⟩
  rw [hs]
  with_reducible refine n_sto_1 ok' hN nm_l_machine__l_read_on_sign ?_; refine s_cai ?_; refine e_bin ?_; refine e_sub ?_; refine n_free ok' hN nm_l_machine__l_read_on_at hc_at (by (first | assumption | (refine At.mem ?_; (repeat (first | assumption | exact List.mem_cons_self | refine List.mem_cons_of_mem _ ?_))))) ?_; refine e_int ?_
  (first | with_reducible refine g_nats (by (first | assumption | (refine IsL.mem ?_; (repeat (first | assumption | exact List.mem_cons_self | refine List.mem_cons_of_mem _ ?_))))) (by (first | assumption | decide | omega | (simp; done) | (simp; omega))) (by (first | assumption | decide | omega | (simp; done) | (simp; omega))) (by (first | assumption | decide | omega | (simp; done) | (simp; omega))) ?_ | with_reducible refine g_ints (by (first | assumption | (refine IsL.mem ?_; (repeat (first | assumption | exact List.mem_cons_self | refine List.mem_cons_of_mem _ ?_))))) (by (first | assumption | decide | omega | (simp; done) | (simp; omega))) (by (first | assumption | decide | omega | (simp; done) | (simp; omega))) (by (first | assumption | decide | omega | (simp; done) | (simp; omega))) ?_ | refine g_tup (by (repeat (first | assumption | exact List.mem_cons_self | refine List.mem_cons_of_mem _ ?_))) (by (first | assumption | decide | omega | (simp; done) | (simp; omega))) (by (first | assumption | decide | omega | (simp; done) | (simp; omega))) rfl ?_)
  with_reducible refine e_cb ok' hN nm_l_machine__l_read_on_len (bl_len _) ?_; refine a_1 ?_; refine n_loc_1 ok' hN nm_l_machine__l_read_on_sign ?_
  (first | with_reducible refine k_lenS (by (first | exact rfl | exact lit_dot | exact lit_quote | exact lit_back | exact lit_nl | exact lit_cr | exact lit_crlf | exact lit_empty | exact lit_white)) (by (first | assumption | decide | omega | (simp; done) | (simp; omega))) ?_ | with_reducible refine k_lenn (by (first | assumption | (refine IsL.mem ?_; (repeat (first | assumption | exact List.mem_cons_self | refine List.mem_cons_of_mem _ ?_))))) (by (first | assumption | decide | omega | (simp; done) | (simp; omega))) ?_ | with_reducible refine k_leni (by (first | assumption | (refine IsL.mem ?_; (repeat (first | assumption | exact List.mem_cons_self | refine List.mem_cons_of_mem _ ?_))))) (by (first | assumption | decide | omega | (simp; done) | (simp; omega))) ?_ | ((with_reducible refine k_lens ?h2 ?_); (case h2 => (first | assumption | decide | omega | (simp; done) | (simp; omega))))| with_reducible refine k_len (by (first | assumption | (refine IsL.mem ?_; (repeat (first | assumption | exact List.mem_cons_self | refine List.mem_cons_of_mem _ ?_))))) (by (first | assumption | decide | omega | (simp; done) | (simp; omega))) ?_)
  (first | with_reducible refine b_add ?_ | with_reducible refine f_add ?_ | with_reducible refine b_sadd (by (first | exact rfl | exact lit_dot | exact lit_quote | exact lit_back | exact lit_nl | exact lit_cr | exact lit_crlf | exact lit_empty | exact lit_white)) (by (first | exact rfl | exact lit_dot | exact lit_quote | exact lit_back | exact lit_nl | exact lit_cr | exact lit_crlf | exact lit_empty | exact lit_white)) (by (first | assumption | decide | omega | (simp; done) | (simp; omega))) ?_)
  with_reducible refine n_free ok' hN nm_l_machine__l_read_on_at hc_at (by (first | assumption | (refine At.mem ?_; (repeat (first | assumption | exact List.mem_cons_self | refine List.mem_cons_of_mem _ ?_))))) ?_; refine e_int ?_
  (first | with_reducible refine set_ints (by (first | assumption | exact .head | exact .tail .head | exact .tail (.tail .head) | exact .tail (.tail (.tail .head)) | exact .tail (.tail (.tail (.tail .head))) | exact .tail (.tail (.tail (.tail (.tail .head)))) | exact .tail (.tail (.tail (.tail (.tail (.tail .head))))) | exact .tail (.tail (.tail (.tail (.tail (.tail (.tail .head)))))) | exact .tail (.tail (.tail (.tail (.tail (.tail (.tail (.tail .head))))))) | exact .tail (.tail (.tail (.tail (.tail (.tail (.tail (.tail (.tail .head)))))))) | exact .tail (.tail (.tail (.tail (.tail (.tail (.tail (.tail (.tail (.tail .head))))))))) | exact .tail (.tail (.tail (.tail (.tail (.tail (.tail (.tail (.tail (.tail (.tail .head)))))))))) | exact .tail (.tail (.tail (.tail (.tail (.tail (.tail (.tail (.tail (.tail (.tail (.tail .head))))))))))) | exact .tail (.tail (.tail (.tail (.tail (.tail (.tail (.tail (.tail (.tail (.tail (.tail (.tail .head)))))))))))))) (by (first | assumption | decide | omega | (simp; done) | (simp; omega))) (by (first | assumption | decide | omega | (simp; done) | (simp; omega))) (by (first | assumption | decide | omega | (simp; done) | (simp; omega))) ?_)
  with_reducible refine s_cr ?_; refine n_loc_1 ok' hN nm_l_machine__l_read_on_sign ?_
  exact h
structure MF (w : World) (led : Led) (text : List Nat) (m d sf sd rf cc ct ca la : Addr) (fd sfd : FuncData) : Prop where
  hm : (m, .inst 118 d) ∈ led
  hsf : (sf, .fn sfd (some sd)) ∈ led
  hsd : (sd, .dict [("read", .ref rf)]) ∈ led
  hrf : (rf, .fn fd none) ∈ led
  hcc : (cc, .code fd.qualname) ∈ led
  hct : (ct, .cell (some (.str (S text)))) ∈ led
  hca : (ca, .cell (some (.ref la))) ∈ led
  hfd : IsInner w 167 1 [("text", ct), ("at", ca)] cc fd
  hz : text.length ≤ 1000
theorem f_readchar {text : List Nat} {m d sf sd rf cc ct ca la pb : Addr} {fd sfd : FuncData} {i : Nat} {ln : Int} (ok : c.Ok w (n + 5)) (mf : MF w led text m d sf sd rf cc ct ca la fd sfd) (hi : i ≤ text.length)
    (h : R (.str (S ((text.drop i).take 1))) lo ((la, intsO [(i + ((text.drop i).take 1).length : Nat)]) :: (d, .dict (ND (if (text.drop i).take 1 = [10] then ln + 1 else ln) sf pb)) :: led)) :
    CodeP prog w c (.ref 101) [.ref m] R lo ((la, intsO [(i : Int)]) :: (d, .dict (ND ln sf pb)) :: led) := by
  obtain ⟨hm, hsf, hsd, hrf, hcc, hct, hca, hfd, hz⟩ := mf
  refine code_fn0 (fd := ?fd) (fo := ?fo) (body := ?bd) (n := n + 4) (pn := ["self"]) [some (.ref m), none] ok ?hK ?hd ?hcd ?hbody ?hclo ?hgl ?hbl ?hb ?hkind ?hnd ?hlo ?hcl ?main ?e1 ?e2 ?e3
  (case hK | hd | hbody | hcd | hclo | hgl | hbl | hkind => with_unfolding_all rfl); (case hnd => with_unfolding_all decide); (case hlo => with_unfolding_all rfl); (case hcl => intro L; with_unfolding_all rfl); (case e1 | e2 | e3 => with_unfolding_all rfl)
  case hb => intro vs hl; obtain ⟨a, rfl⟩ := len1 hl; with_unfolding_all rfl
  case main =>
  intro c' ok' he hx
  have hN : c'.env.scope.names = nmOf 101 w := by rw [he]; with_unfolding_all rfl
  clear he
  with_reducible refine s_ca ?_; refine e_meth ?_; refine e_attr ?_; refine n_loc_0 ok' hN (nm_read_char_self _) ?_
  (with_reducible refine at_instream (by assumption) (by (repeat (first | assumption | exact List.mem_cons_self | refine List.mem_cons_of_mem _ ?_))) (by (repeat (first | assumption | exact List.mem_cons_self | refine List.mem_cons_of_mem _ ?_))) ?_)
  (((with_reducible refine mt_read (by (repeat (first | assumption | exact List.mem_cons_self | refine List.mem_cons_of_mem _ ?_))) (by (repeat (first | assumption | exact List.mem_cons_self | refine List.mem_cons_of_mem _ ?_))) ?_); with_reducible refine cw0_clo ?_))
  with_reducible refine a_1 ?_; refine e_int ?_
  refine ⟨_, _, At.mem (by (repeat (first | assumption | exact List.mem_cons_self | refine List.mem_cons_of_mem _ ?_))), CodeP.call (f_readon (n := n + 1) (by assumption) (by assumption) (by assumption) (by assumption) (by (repeat (first | assumption | exact List.mem_cons_self | refine List.mem_cons_of_mem _ ?_))) (by (repeat (first | assumption | exact List.mem_cons_self | refine List.mem_cons_of_mem _ ?_))) (by (repeat (first | assumption | exact List.mem_cons_self | refine List.mem_cons_of_mem _ ?_))) (by (repeat (first | assumption | exact List.mem_cons_self | refine List.mem_cons_of_mem _ ?_))) ?_)⟩
  with_reducible refine n_sto_1 ok' hN (nm_read_char_ch _) ?_; refine s_cif ?_; refine t_cmp ?_; refine n_loc_1 ok' hN (nm_read_char_ch _) ?_; refine e_str ?_
  (first | with_reducible refine c_eq ?_ | with_reducible refine f_eq ?_ | with_reducible refine c_seq (by (first | exact rfl | exact lit_dot | exact lit_quote | exact lit_back | exact lit_nl | exact lit_cr | exact lit_crlf | exact lit_empty | exact lit_white)) (by (first | exact rfl | exact lit_dot | exact lit_quote | exact lit_back | exact lit_nl | exact lit_cr | exact lit_crlf | exact lit_empty | exact lit_white)) ?_)
  with_reducible refine t_bool ?_
  refine b_if (fun e => ?_) fun e => ?_
  · rw [if_pos (by simpa using e)] at h
    with_reducible refine s_cons ?_; refine s_auga ?_; refine n_loc_0 ok' hN (nm_read_char_self _) ?_
    (with_reducible refine at_lineno (by assumption) (by (repeat (first | assumption | exact List.mem_cons_self | refine List.mem_cons_of_mem _ ?_))) (by (repeat (first | assumption | exact List.mem_cons_self | refine List.mem_cons_of_mem _ ?_))) ?_)
    with_reducible refine e_int ?_
    (first | with_reducible refine i_add ?_ | with_reducible refine i_sadd (by (first | exact rfl | exact lit_dot | exact lit_quote | exact lit_back | exact lit_nl | exact lit_cr | exact lit_crlf | exact lit_empty | exact lit_white)) (by (first | exact rfl | exact lit_dot | exact lit_quote | exact lit_back | exact lit_nl | exact lit_cr | exact lit_crlf | exact lit_empty | exact lit_white)) (by (first | assumption | decide | omega | (simp; done) | (simp; omega))) ?_)
    (first | with_reducible refine st_lineno (by assumption) (by (repeat (first | assumption | exact List.mem_cons_self | refine List.mem_cons_of_mem _ ?_))) (by (first | assumption | exact .head | exact .tail .head | exact .tail (.tail .head) | exact .tail (.tail (.tail .head)) | exact .tail (.tail (.tail (.tail .head))) | exact .tail (.tail (.tail (.tail (.tail .head)))) | exact .tail (.tail (.tail (.tail (.tail (.tail .head))))) | exact .tail (.tail (.tail (.tail (.tail (.tail (.tail .head)))))) | exact .tail (.tail (.tail (.tail (.tail (.tail (.tail (.tail .head))))))) | exact .tail (.tail (.tail (.tail (.tail (.tail (.tail (.tail (.tail .head)))))))) | exact .tail (.tail (.tail (.tail (.tail (.tail (.tail (.tail (.tail (.tail .head))))))))) | exact .tail (.tail (.tail (.tail (.tail (.tail (.tail (.tail (.tail (.tail (.tail .head)))))))))) | exact .tail (.tail (.tail (.tail (.tail (.tail (.tail (.tail (.tail (.tail (.tail (.tail .head))))))))))) | exact .tail (.tail (.tail (.tail (.tail (.tail (.tail (.tail (.tail (.tail (.tail (.tail (.tail .head)))))))))))))) ?_ | with_reducible refine st_init1 (by assumption) (by (repeat (first | assumption | exact List.mem_cons_self | refine List.mem_cons_of_mem _ ?_))) (by (first | assumption | exact .head | exact .tail .head | exact .tail (.tail .head) | exact .tail (.tail (.tail .head)) | exact .tail (.tail (.tail (.tail .head))) | exact .tail (.tail (.tail (.tail (.tail .head)))) | exact .tail (.tail (.tail (.tail (.tail (.tail .head))))) | exact .tail (.tail (.tail (.tail (.tail (.tail (.tail .head)))))) | exact .tail (.tail (.tail (.tail (.tail (.tail (.tail (.tail .head))))))) | exact .tail (.tail (.tail (.tail (.tail (.tail (.tail (.tail (.tail .head)))))))) | exact .tail (.tail (.tail (.tail (.tail (.tail (.tail (.tail (.tail (.tail .head))))))))) | exact .tail (.tail (.tail (.tail (.tail (.tail (.tail (.tail (.tail (.tail (.tail .head)))))))))) | exact .tail (.tail (.tail (.tail (.tail (.tail (.tail (.tail (.tail (.tail (.tail (.tail .head))))))))))) | exact .tail (.tail (.tail (.tail (.tail (.tail (.tail (.tail (.tail (.tail (.tail (.tail (.tail .head)))))))))))))) ?_)
    with_reducible refine then_next ?_; refine s_nil ?_
    refine then_next ?_
    with_reducible refine s_cr ?_; refine n_loc_1 ok' hN (nm_read_char_ch _) ?_
    exact h
  · rw [if_neg (by simpa using e)] at h
    refine s_end ?_
    with_reducible refine s_cr ?_; refine n_loc_1 ok' hN (nm_read_char_ch _) ?_
    exact h
end
section
variable {prog : Program} {w : World} {c : Cx} {n : Nat} {lo : Lo} {led led' : Led} {R : AV → Lo → Led → Prop}
theorem s_for_it {x : Str} {px pos : Pos} {iter : Expr} {body : List Stmt} {R : AF → Lo → Led → Prop} {it q : Addr} (I : Nat → Lo → Led → Prop)
    (h : WpV prog w c (eval iter c.env) (fun a lo₁ led₁ => a = .ref it ∧ (∃ b, (it, .citer q b) ∈ led₁) ∧ ∃ k, I k lo₁ led₁) lo led)
    (turn : ∀ k lo led, I k lo led → Wp prog w c (pyNext (.ref it)) (fun r lo₁ led₁ => match r with
      | none => R .next lo₁ led₁
      | some u => Sto prog w c x (er u) (fun lo₂ led₂ => WpS prog w c (execs body c.env) (fun f lo₃ led₃ => match f with
        | .next | .cont => ∃ m, m < k ∧ I m lo₃ led₃
        | .brk => R .next lo₃ led₃
        | .ret a => R (.ret a) lo₃ led₃) lo₂ led₂) lo₁ led₁) lo led)
    (hf : autoParam (∀ x, foldedSetIterable iter c.env x = pure x) mai._auto_1) :
    WpS prog w c (exec (.For (.Name x px) iter body [] pos) c.env) R lo led := by
  intro fr s Q E rep kk
  refine wpAny_For (h fr s _ E rep ?_) hf
  rintro v lo₁ led₁ h₁ t₁ ⟨hv, ⟨b, hb⟩, k, hI⟩ rep₁
  obtain rfl := er_ref hv
  refine iter_citer rep₁ hb ?_
  exact for_gen I turn k hI rep₁ kk
section
variable {text : List Nat} {m d sf sd rf cc ct ca la pb it q : Addr} {fd sfd : FuncData} {i : Nat} {ln : Int}
theorem lookup_readchar : ∃ fo fd, (KK w).lookup 101 = some fo ∧ fo.data = .func fd := by
  refine Exists.intro ?fo (Exists.intro ?fd (And.intro ?h1 ?h2))
  case h1 => with_unfolding_all rfl
  case h2 => with_unfolding_all rfl
theorem drop_succ_of {l : List Nat} {i a : Nat} {r : List Nat} (h : l.drop i = a :: r) : l.drop (i + 1) = r ∧ i + 1 ≤ l.length := by
  constructor
  · rw [← List.drop_drop, h]; rfl
  · have := congrArg List.length h
    simp only [List.length_drop, List.length_cons] at this
    omega
theorem next_sign (ok : c.Ok w (n + 6)) (mf : MF w led text m d sf sd rf cc ct ca la fd sfd) (hi : i ≤ text.length) {a : Nat} {r : List Nat} (e : text.drop i = a :: r) (R : Option Value → Lo → Led → Prop)
    (h : ∀ u, er u = .str (S [a]) → R (some u) lo ((it, .citer q false) :: (q, .meth 101 m) :: (la, intsO [((i + 1 : Nat) : Int)]) :: (d, .dict (ND (if a = 10 then ln + 1 else ln) sf pb)) :: led)) :
    Wp prog w c (pyNext (.ref it)) R lo ((it, .citer q false) :: (q, .meth 101 m) :: (la, intsO [(i : Int)]) :: (d, .dict (ND ln sf pb)) :: led) := by
  obtain ⟨fo, fdd, h1, h2⟩ := lookup_readchar (w := w)
  refine next_citer (n := n + 5) ok h1 h2 (Rn := fun x lo' led' => x = [a] ∧ lo' = lo ∧ led' = (la, intsO [((i + 1 : Nat) : Int)]) :: (d, .dict (ND (if a = 10 then ln + 1 else ln) sf pb)) :: led) (fun c1 ok1 _ => ?_) R ?_ ?_
  · refine f_readchar (n := n) ok1 mf hi ?_
    rw [e]
    refine ⟨[a], rfl, rfl, rfl, ?_⟩
    simp
  · rintro u x lo' led' ⟨rfl, rfl, rfl⟩ _ hu
    exact h u hu
  · rintro lo' led' ⟨hx, _⟩
    cases hx
theorem next_none (ok : c.Ok w (n + 6)) (mf : MF w led text m d sf sd rf cc ct ca la fd sfd) (hi : i ≤ text.length) (e : text.drop i = []) (R : Option Value → Lo → Led → Prop)
    (h : R none lo ((it, .citer q true) :: (q, .meth 101 m) :: (la, intsO [(i : Int)]) :: (d, .dict (ND ln sf pb)) :: led)) :
    Wp prog w c (pyNext (.ref it)) R lo ((it, .citer q false) :: (q, .meth 101 m) :: (la, intsO [(i : Int)]) :: (d, .dict (ND ln sf pb)) :: led) := by
  obtain ⟨fo, fdd, h1, h2⟩ := lookup_readchar (w := w)
  refine next_citer (n := n + 5) ok h1 h2 (Rn := fun x lo' led' => x = [] ∧ lo' = lo ∧ led' = (la, intsO [(i : Int)]) :: (d, .dict (ND ln sf pb)) :: led) (fun c1 ok1 _ => ?_) R ?_ ?_
  · refine f_readchar (n := n) ok1 mf hi ?_
    rw [e]
    exact ⟨[], rfl, rfl, rfl, by simp⟩
  · rintro u x lo' led' ⟨rfl, _⟩ hne
    exact absurd rfl hne
  · rintro lo' led' ⟨_, rfl, rfl⟩
    exact h
theorem call_sign (ok : c.Ok w (n + 5)) (mf : MF w led text m d sf sd rf cc ct ca la fd sfd) (hi : i ≤ text.length) {a : Nat} {r : List Nat} (e : text.drop i = a :: r)
    (h : R (.str (S [a])) lo ((la, intsO [((i + 1 : Nat) : Int)]) :: (d, .dict (ND (if a = 10 then ln + 1 else ln) sf pb)) :: led)) :
    Call prog w c (.ref 101) [.ref m] R lo ((la, intsO [(i : Int)]) :: (d, .dict (ND ln sf pb)) :: led) := by
  refine CodeP.call (f_readchar (n := n) ok mf hi ?_)
  rw [e]
  simpa using h
theorem white_dot : Txt.contains (Str.ofString "\n\t\r ") (S [46]) = false := by decide +kernel
theorem white_nl : Txt.contains (Str.ofString "\n\t\r ") (S [10]) = true := by decide +kernel
theorem white_quote : Txt.contains (Str.ofString "\n\t\r ") (S [34]) = false := by decide +kernel
theorem white_back : Txt.contains (Str.ofString "\n\t\r ") (S [92]) = false := by decide +kernel
end
end
theorem perm4 {α : Type} {a b c d : α} {l : List α} : (a :: b :: c :: d :: l).Perm (c :: d :: a :: b :: l) := by
  refine List.Perm.trans (List.perm_append_comm (l₁ := [a, b]) (l₂ := [c, d]) |>.append_right l) ?_
  exact List.Perm.refl _
section
variable {prog : Program} {w : World} {c : Cx} {n : Nat} {lo : Lo} {led led' : Led} {R : AV → Lo → Led → Prop}
variable {text : List Nat} {m d sf sd rf cc ct ca la pb : Addr} {fd sfd : FuncData} {i : Nat} {ln : Int}
theorem MF.mono {l l' : Led} {cc ct ca : Addr} (mf : MF w l text m d sf sd rf cc ct ca la fd sfd) (h : ∀ x ∈ l, x ∈ l') : MF w l' text m d sf sd rf cc ct ca la fd sfd :=
  ⟨h _ mf.hm, h _ mf.hsf, h _ mf.hsd, h _ mf.hrf, h _ mf.hcc, h _ mf.hct, h _ mf.hca, mf.hfd, mf.hz⟩
theorem k_pop0w {l : Addr} {x : List Nat} {ws : List (List Nat)} (u : Up l (wordsO (x :: ws)) (wordsO ws) led led') (hz : ws.length ≤ 1000) (h : R (.str (S x)) lo led') : Call prog w c (.builtin "list.pop") [.ref l, .int 0] R lo led :=
  k_pop0 (x := .str (S x)) (xs := ws.map fun x => AV.str (S x)) u (by simpa using hz) h
theorem f_get_pb {x : List Nat} {ws : List (List Nat)} (ok : c.Ok w (n + 5)) (hm : (m, .inst 118 d) ∈ led) (hd : (d, .dict (ND ln sf pb)) ∈ led) (u : Up pb (wordsO (x :: ws)) (wordsO ws) led led') (hz : ws.length ≤ 900)
    (h : R (.str (S x)) lo led') : Call prog w c (.ref 108) [.ref m] R lo led := by
  refine call_fn0 (fd := ?fd) (fo := ?fo) (body := ?bd) (n := n + 4) (pn := ["self"]) [some (.ref m), none, none, none, none] ok ?hK ?hd ?hcd ?hbody ?hclo ?hgl ?hbl ?hb ?hkind ?hnd ?hlo ?hcl ?main ?e1 ?e2 ?e3
  (case hK | hd | hbody | hcd | hclo | hgl | hbl | hkind => with_unfolding_all rfl); (case hnd => with_unfolding_all decide); (case hlo => with_unfolding_all rfl); (case hcl => intro L; with_unfolding_all rfl); (case e1 | e2 | e3 => with_unfolding_all rfl)
  case hb => intro vs hl; obtain ⟨a, rfl⟩ := len1 hl; with_unfolding_all rfl
  case main =>
  intro c' ok' he hx
  have hN : c'.env.scope.names = nmOf 108 w := by rw [he]; with_unfolding_all rfl
  clear he
  have hpb := u.mem
  have hz' : ws.length ≤ 1000 := by omega
  with_reducible refine s_cons ?_; refine s_if ?_; refine t_plain ?_; refine e_attr ?_; refine n_loc_0 ok' hN (nm_get_token_self _) ?_
  (with_reducible refine at_pushback (by assumption) (by (repeat (first | assumption | exact List.mem_cons_self | refine List.mem_cons_of_mem _ ?_))) (by (repeat (first | assumption | exact List.mem_cons_self | refine List.mem_cons_of_mem _ ?_))) ?_)
  refine tr_list hpb (by simp; omega) ?_
  refine ite_t (by simp) ?_
  with_reducible refine s_cr ?_; refine e_meth ?_; refine e_attr ?_; refine n_loc_0 ok' hN (nm_get_token_self _) ?_
  (with_reducible refine at_pushback (by assumption) (by (repeat (first | assumption | exact List.mem_cons_self | refine List.mem_cons_of_mem _ ?_))) (by (repeat (first | assumption | exact List.mem_cons_self | refine List.mem_cons_of_mem _ ?_))) ?_)
  (((with_reducible refine m_list PySem.F.slot_list_pop lmd_pop (by (repeat (first | assumption | exact List.mem_cons_self | refine List.mem_cons_of_mem _ ?_))) ?_); with_reducible refine cw1_blt ?_))
  with_reducible refine a_1 ?_; refine e_int ?_; refine k_pop0w (by assumption) (by assumption) ?_
  exact h
theorem Wp_permR {α : Type} {t : Sem α} {R : α → Lo → Led → Prop} (h : Wp prog w c t (fun a lo led => ∃ l, led.Perm l ∧ R a lo l) lo led) : Wp prog w c t R lo led :=
  fun fr s Q E rep kk => h fr s Q E rep fun a lo' led' h' tk' ⟨l, hl, hR⟩ rep' => kk a lo' l h' tk' hR (rep'.perm (hl.append_right fr))
theorem Call_permR {f : Value} {as : List AV} (h : Call prog w c f as (fun a lo led => ∃ l, led.Perm l ∧ R a lo l) lo led) : Call prog w c f as R lo led := fun vs hv => Wp_permR (h vs hv)
theorem Ok_down (ok : c.Ok w (n + 1)) : c.Ok w n := ⟨ok.K, ok.top, ok.handled, by have := ok.depth; omega, by have := ok.units; omega, ok.loc, ok.glob, ok.blt, ok.kind⟩
theorem call_sign2 {it q : Addr} {b : AO} {b' : AO} (ok : c.Ok w (n + 5)) (mf : MF w led text m d sf sd rf cc ct ca la fd sfd) (hi : i ≤ text.length) {a : Nat} {r : List Nat} (e : text.drop i = a :: r)
    (h : R (.str (S [a])) lo ((it, b) :: (q, b') :: (la, intsO [((i + 1 : Nat) : Int)]) :: (d, .dict (ND (if a = 10 then ln + 1 else ln) sf pb)) :: led)) :
    Call prog w c (.ref 101) [.ref m] R lo ((it, b) :: (q, b') :: (la, intsO [(i : Int)]) :: (d, .dict (ND ln sf pb)) :: led) := by
  refine Call_perm ((la, intsO [(i : Int)]) :: (d, .dict (ND ln sf pb)) :: (it, b) :: (q, b') :: led) ?_ ?_
  · exact perm4
  refine Call_permR ?_
  refine call_sign (n := n) ok (mf.mono fun x hx => List.mem_cons_of_mem _ (List.mem_cons_of_mem _ hx)) hi e ⟨_, perm4.symm, h⟩
theorem sp_cons {K j : Nat} (h : j + 1 ≤ K) : List.replicate (K - (j + 1)) 46 ++ [46] = List.replicate (K - j) 46 := by
  rw [show K - j = (K - (j + 1)) + 1 from (Nat.succ_pred_eq_of_pos (Nat.sub_pos_of_lt h)).symm, List.replicate_succ']
theorem f_get_read {kind K : Nat} {lead tail : List Nat} (ok : c.Ok w (n + 7)) (mf : MF w led text m d sf sd rf cc ct ca la fd sfd) (hpb : (pb, wordsO []) ∈ led) (hi : i ≤ text.length) (hlead : lead = [] ∨ lead = [10]) (hK : K ≤ 100)
    (he : text.drop i = lead ++ (spellWord kind K ++ tail)) (ht : tail = [] ∨ ∃ t', tail = 10 :: t')
    (h : ∀ (i' : Nat) (ln' : Int) l, i' ≤ text.length → text.drop i' = (if kind = 1 then tail else tail.tail) → R (.str (S (List.replicate (K + 1) 46))) lo (l ++ (la, intsO [(i' : Int)]) :: (d, .dict (ND ln' sf pb)) :: led)) :
    Call prog w c (.ref 108) [.ref m] R lo ((la, intsO [(i : Int)]) :: (d, .dict (ND ln sf pb)) :: led) := by
  refine call_fn0 (fd := ?fd) (fo := ?fo) (body := ?bd) (n := n + 6) (pn := ["self"]) [some (.ref m), none, none, none, none] ok ?hK ?hd ?hcd ?hbody ?hclo ?hgl ?hbl ?hb ?hkind ?hnd ?hlo ?hcl ?main ?e1 ?e2 ?e3
  (case hK | hd | hbody | hcd | hclo | hgl | hbl | hkind => with_unfolding_all rfl); (case hnd => with_unfolding_all decide); (case hlo => with_unfolding_all rfl); (case hcl => intro L; with_unfolding_all rfl); (case e1 | e2 | e3 => with_unfolding_all rfl)
  case hb => intro vs hl; obtain ⟨a, rfl⟩ := len1 hl; with_unfolding_all rfl
  case main =>
  intro c' ok' he' hx
  have hN : c'.env.scope.names = nmOf 108 w := by rw [he']; with_unfolding_all rfl
  clear he'
  have hm := mf.hm
  with_reducible refine s_cons ?_; refine s_if ?_; refine t_plain ?_; refine e_attr ?_; refine n_loc_0 ok' hN (nm_get_token_self _) ?_
  (with_reducible refine at_pushback (by assumption) (by (repeat (first | assumption | exact List.mem_cons_self | refine List.mem_cons_of_mem _ ?_))) (by (repeat (first | assumption | exact List.mem_cons_self | refine List.mem_cons_of_mem _ ?_))) ?_)
  refine tr_list (List.mem_cons_of_mem _ (List.mem_cons_of_mem _ hpb)) (by simp) ?_
  refine ite_f (by simp) ?_
  refine s_end ?_
  with_reducible refine s_ca ?_; refine e_str ?_; refine n_sto_1 ok' hN (nm_get_token_token _) ?_; refine s_ca ?_; refine e_cb ok' hN (nm_get_token_iter _) (bl_iter _) ?_; refine a_2 ?_; refine e_attr ?_; refine n_loc_0 ok' hN (nm_get_token_self _) ?_
  (with_reducible refine at_readchar (by assumption) (by (repeat (first | assumption | exact List.mem_cons_self | refine List.mem_cons_of_mem _ ?_))) (by (repeat (first | assumption | exact List.mem_cons_self | refine List.mem_cons_of_mem _ ?_))) (fun (_ : Addr) => ?_))
  with_reducible refine e_str ?_; refine k_iter2 rfl (by (repeat (first | assumption | exact List.mem_cons_self | refine List.mem_cons_of_mem _ ?_))) (fun (it : Addr) => ?_); refine n_sto_2 ok' hN (nm_get_token_fiter _) ?_; refine s_cons ?_
  rename_i q
  refine s_for_it (it := it) (q := q) (fun k lo' led' => k ≤ 2 ∧ ∃ chv, lo' = [some (.ref m), some (.str (S (if k = 0 then List.replicate (K + 1) 46 else []))), some (.ref it), chv, none] ∧ ∃ (i' : Nat) (ln' : Int), i' ≤ text.length ∧
    text.drop i' = (if k = 2 then [10] ++ (spellWord kind K ++ tail) else if k = 1 then spellWord kind K ++ tail else []) ∧ (k = 0 → tail = [] ∧ kind ≠ 1) ∧
    led' = (it, .citer q (k == 0)) :: (q, .meth 101 m) :: (la, intsO [(i' : Int)]) :: (d, .dict (ND ln' sf pb)) :: led) ?_ ?_
  · with_reducible refine n_loc_2 ok' hN (nm_get_token_fiter _) ?_
    refine ⟨rfl, ⟨false, by (repeat (first | assumption | exact List.mem_cons_self | refine List.mem_cons_of_mem _ ?_))⟩, if lead = [10] then 2 else 1, ?_, none, ?_, i, ln, hi, ?_, ?_, ?_⟩
    · split <;> omega
    · rcases hlead with rfl | rfl <;> simp [lit_empty]
    · rcases hlead with rfl | rfl <;> simpa using he
    · intro h0; rcases hlead with rfl | rfl <;> simp at h0
    · rcases hlead with rfl | rfl <;> rfl
  rintro k lo' led' ⟨hk, chv, rfl, i', ln', hi', hd', h0, rfl⟩
  have mf' : MF w ((it, .citer q false) :: (q, .meth 101 m) :: led) text m d sf sd rf cc ct ca la fd sfd := mf.mono fun x hx => List.mem_cons_of_mem _ (List.mem_cons_of_mem _ hx)
  by_cases k0 : k = 0
  · subst k0
    obtain ⟨rfl, hk1⟩ := h0 rfl
    refine next_done (q := q) ok'.handled List.mem_cons_self _ ?_
    refine then_next ?_
    with_reducible refine s_cr ?_; refine n_loc_1 ok' hN (nm_get_token_token _) ?_
    exact h i' ln' [_, _] hi' (by rw [if_neg hk1]; exact hd')
  rw [if_neg k0]
  have e0 : (k == 0) = false := by simpa using k0
  rw [e0]
  by_cases k2 : k = 2
  · subst k2
    rw [if_pos rfl] at hd'
    refine next_sign (n := n) (by assumption) mf hi' hd' _ fun u hu => ?_
    obtain ⟨hd2, hi2⟩ := drop_succ_of hd'
    dsimp only
    rw [hu]
    refine n_sto_3 ok' hN (nm_get_token_ch _) ?_
    with_reducible refine s_cons ?_; refine s_if ?_; refine t_cmp ?_; refine n_loc_3 ok' hN (nm_get_token_ch _) ?_; refine e_attr ?_; refine n_loc_0 ok' hN (nm_get_token_self _) ?_
    (with_reducible refine at_whitespace (by assumption) (by (repeat (first | assumption | exact List.mem_cons_self | refine List.mem_cons_of_mem _ ?_))) (by (repeat (first | assumption | exact List.mem_cons_self | refine List.mem_cons_of_mem _ ?_))) ?_)
    (first | (with_reducible refine c_instr ?_) | (first | with_reducible refine c_inn (by (first | assumption | (refine IsL.mem ?_; (repeat (first | assumption | exact List.mem_cons_self | refine List.mem_cons_of_mem _ ?_))))) rfl ?_ | with_reducible refine c_in (by (first | assumption | (refine IsL.mem ?_; (repeat (first | assumption | exact List.mem_cons_self | refine List.mem_cons_of_mem _ ?_))))) ?_))
    with_reducible refine t_bool ?_
    rw [white_nl]
    refine iteT ?_
    with_reducible refine s_cons ?_; refine s_cont ?_
    exact ⟨1, by omega, by omega, _, rfl, i' + 1, _, hi2, by simpa using hd2, by simp, rfl⟩
  have k1 : k = 1 := by omega
  subst k1
  rw [if_neg k2, if_pos rfl] at hd'
  by_cases kq : kind = 1
  · have hd1 : text.drop i' = 34 :: (List.replicate (K + 1) 46 ++ 34 :: tail) := by rw [hd', spellWord, if_pos kq]; simp
    refine next_sign (n := n) (by assumption) mf hi' hd1 _ fun u hu => ?_
    obtain ⟨hd2, hi2⟩ := drop_succ_of hd1
    dsimp only
    rw [hu]
    refine n_sto_3 ok' hN (nm_get_token_ch _) ?_
    with_reducible refine s_cons ?_; refine s_if ?_; refine t_cmp ?_; refine n_loc_3 ok' hN (nm_get_token_ch _) ?_; refine e_attr ?_; refine n_loc_0 ok' hN (nm_get_token_self _) ?_
    (with_reducible refine at_whitespace (by assumption) (by (repeat (first | assumption | exact List.mem_cons_self | refine List.mem_cons_of_mem _ ?_))) (by (repeat (first | assumption | exact List.mem_cons_self | refine List.mem_cons_of_mem _ ?_))) ?_)
    (first | (with_reducible refine c_instr ?_) | (first | with_reducible refine c_inn (by (first | assumption | (refine IsL.mem ?_; (repeat (first | assumption | exact List.mem_cons_self | refine List.mem_cons_of_mem _ ?_))))) rfl ?_ | with_reducible refine c_in (by (first | assumption | (refine IsL.mem ?_; (repeat (first | assumption | exact List.mem_cons_self | refine List.mem_cons_of_mem _ ?_))))) ?_))
    with_reducible refine t_bool ?_
    rw [white_quote]
    refine iteF ?_
    refine s_end ?_
    with_reducible refine s_cons ?_; refine s_if ?_; refine t_cmp ?_; refine n_loc_3 ok' hN (nm_get_token_ch _) ?_; refine e_str ?_
    (first | with_reducible refine c_eq ?_ | with_reducible refine f_eq ?_ | with_reducible refine c_seq (by (first | exact rfl | exact lit_dot | exact lit_quote | exact lit_back | exact lit_nl | exact lit_cr | exact lit_crlf | exact lit_empty | exact lit_white)) (by (first | exact rfl | exact lit_dot | exact lit_quote | exact lit_back | exact lit_nl | exact lit_cr | exact lit_crlf | exact lit_empty | exact lit_white)) ?_)
    with_reducible refine t_bool ?_
    refine ite_t (by decide) ?_
    with_reducible refine s_cons ?_
    refine s_for_it (it := it) (q := q) (fun j lo' led' => j ≤ K + 1 ∧ ∃ chv, lo' = [some (.ref m), some (.str (S (List.replicate (K + 1 - j) 46))), some (.ref it), chv, none] ∧ ∃ (i' : Nat) (ln' : Int), i' ≤ text.length ∧
      text.drop i' = List.replicate j 46 ++ 34 :: tail ∧
      led' = (it, .citer q false) :: (q, .meth 101 m) :: (la, intsO [(i' : Int)]) :: (d, .dict (ND ln' sf pb)) :: led) ?_ ?_
    · with_reducible refine n_loc_2 ok' hN (nm_get_token_fiter _) ?_
      exact ⟨rfl, ⟨false, by (repeat (first | assumption | exact List.mem_cons_self | refine List.mem_cons_of_mem _ ?_))⟩, K + 1, Nat.le_refl _, _, by rw [show K + 1 - (K + 1) = 0 by omega]; rfl, _, _, hi2, hd2, rfl⟩
    rintro j lo' led' ⟨hj, chv', rfl, i', ln', hi', hd', rfl⟩
    cases j with
    | zero =>
      rw [List.replicate_zero, List.nil_append] at hd'
      refine next_sign (n := n) (by assumption) mf hi' hd' _ fun u hu => ?_
      obtain ⟨hd3, hi3⟩ := drop_succ_of hd'
      dsimp only
      rw [hu]
      refine n_sto_3 ok' hN (nm_get_token_ch _) ?_
      with_reducible refine s_cons ?_; refine s_if ?_; refine t_cmp ?_; refine n_loc_3 ok' hN (nm_get_token_ch _) ?_; refine e_str ?_
      (first | with_reducible refine c_eq ?_ | with_reducible refine f_eq ?_ | with_reducible refine c_seq (by (first | exact rfl | exact lit_dot | exact lit_quote | exact lit_back | exact lit_nl | exact lit_cr | exact lit_crlf | exact lit_empty | exact lit_white)) (by (first | exact rfl | exact lit_dot | exact lit_quote | exact lit_back | exact lit_nl | exact lit_cr | exact lit_crlf | exact lit_empty | exact lit_white)) ?_)
      with_reducible refine t_bool ?_
      refine ite_t (by decide) ?_
      with_reducible refine s_cr ?_; refine n_loc_1 ok' hN (nm_get_token_token _) ?_
      exact h _ _ [_, _] hi3 (by rw [if_pos kq]; exact hd3)
    | succ j =>
      rw [List.replicate_succ, List.cons_append] at hd'
      refine next_sign (n := n) (by assumption) mf hi' hd' _ fun u hu => ?_
      obtain ⟨hd3, hi3⟩ := drop_succ_of hd'
      dsimp only
      rw [hu]
      refine n_sto_3 ok' hN (nm_get_token_ch _) ?_
      with_reducible refine s_cons ?_; refine s_if ?_; refine t_cmp ?_; refine n_loc_3 ok' hN (nm_get_token_ch _) ?_; refine e_str ?_
      (first | with_reducible refine c_eq ?_ | with_reducible refine f_eq ?_ | with_reducible refine c_seq (by (first | exact rfl | exact lit_dot | exact lit_quote | exact lit_back | exact lit_nl | exact lit_cr | exact lit_crlf | exact lit_empty | exact lit_white)) (by (first | exact rfl | exact lit_dot | exact lit_quote | exact lit_back | exact lit_nl | exact lit_cr | exact lit_crlf | exact lit_empty | exact lit_white)) ?_)
      with_reducible refine t_bool ?_
      refine ite_f (by decide) ?_
      with_reducible refine s_cons ?_; refine s_if ?_; refine t_cmp ?_; refine n_loc_3 ok' hN (nm_get_token_ch _) ?_; refine e_str ?_
      (first | with_reducible refine c_eq ?_ | with_reducible refine f_eq ?_ | with_reducible refine c_seq (by (first | exact rfl | exact lit_dot | exact lit_quote | exact lit_back | exact lit_nl | exact lit_cr | exact lit_crlf | exact lit_empty | exact lit_white)) (by (first | exact rfl | exact lit_dot | exact lit_quote | exact lit_back | exact lit_nl | exact lit_cr | exact lit_crlf | exact lit_empty | exact lit_white)) ?_)
      with_reducible refine t_bool ?_
      refine ite_f (by decide) ?_
      refine s_end ?_
      refine s_end ?_
      with_reducible refine s_cons ?_; refine n_aug_1 ok' hN (nm_get_token_token _) ?_; refine n_loc_3 ok' hN (nm_get_token_ch _) ?_
      (first | with_reducible refine i_add ?_ | with_reducible refine i_sadd (by (first | exact rfl | exact lit_dot | exact lit_quote | exact lit_back | exact lit_nl | exact lit_cr | exact lit_crlf | exact lit_empty | exact lit_white)) (by (first | exact rfl | exact lit_dot | exact lit_quote | exact lit_back | exact lit_nl | exact lit_cr | exact lit_crlf | exact lit_empty | exact lit_white)) (by (first | assumption | decide | omega | (simp; done) | (simp; omega))) ?_)
      with_reducible refine n_sto_1 ok' hN (nm_get_token_token _) ?_; refine then_next ?_; refine s_nil ?_
      rw [show List.replicate (K + 1 - (j + 1)) 46 ++ [46] = List.replicate (K + 1 - j) 46 from sp_cons (by omega)]
      exact ⟨j, by omega, by omega, _, rfl, _, _, hi3, hd3, rfl⟩
  have hk1 := kq
  by_cases kb : kind = 2
  · have hd1 : text.drop i' = 92 :: (46 :: (List.replicate K 46 ++ tail)) := by rw [hd', spellWord, if_neg kq, if_pos kb, List.replicate_succ]; simp
    refine next_sign (n := n) (by assumption) mf hi' hd1 _ fun u hu => ?_
    obtain ⟨hd2, hi2⟩ := drop_succ_of hd1
    dsimp only
    rw [hu]
    refine n_sto_3 ok' hN (nm_get_token_ch _) ?_
    with_reducible refine s_cons ?_; refine s_if ?_; refine t_cmp ?_; refine n_loc_3 ok' hN (nm_get_token_ch _) ?_; refine e_attr ?_; refine n_loc_0 ok' hN (nm_get_token_self _) ?_
    (with_reducible refine at_whitespace (by assumption) (by (repeat (first | assumption | exact List.mem_cons_self | refine List.mem_cons_of_mem _ ?_))) (by (repeat (first | assumption | exact List.mem_cons_self | refine List.mem_cons_of_mem _ ?_))) ?_)
    (first | (with_reducible refine c_instr ?_) | (first | with_reducible refine c_inn (by (first | assumption | (refine IsL.mem ?_; (repeat (first | assumption | exact List.mem_cons_self | refine List.mem_cons_of_mem _ ?_))))) rfl ?_ | with_reducible refine c_in (by (first | assumption | (refine IsL.mem ?_; (repeat (first | assumption | exact List.mem_cons_self | refine List.mem_cons_of_mem _ ?_))))) ?_))
    with_reducible refine t_bool ?_
    rw [white_back]
    refine iteF ?_
    refine s_end ?_
    with_reducible refine s_cons ?_; refine s_if ?_; refine t_cmp ?_; refine n_loc_3 ok' hN (nm_get_token_ch _) ?_; refine e_str ?_
    (first | with_reducible refine c_eq ?_ | with_reducible refine f_eq ?_ | with_reducible refine c_seq (by (first | exact rfl | exact lit_dot | exact lit_quote | exact lit_back | exact lit_nl | exact lit_cr | exact lit_crlf | exact lit_empty | exact lit_white)) (by (first | exact rfl | exact lit_dot | exact lit_quote | exact lit_back | exact lit_nl | exact lit_cr | exact lit_crlf | exact lit_empty | exact lit_white)) ?_)
    with_reducible refine t_bool ?_
    refine ite_f (by decide) ?_
    with_reducible refine s_cons ?_; refine s_if ?_; refine t_cmp ?_; refine n_loc_3 ok' hN (nm_get_token_ch _) ?_; refine e_str ?_
    (first | with_reducible refine c_eq ?_ | with_reducible refine f_eq ?_ | with_reducible refine c_seq (by (first | exact rfl | exact lit_dot | exact lit_quote | exact lit_back | exact lit_nl | exact lit_cr | exact lit_crlf | exact lit_empty | exact lit_white)) (by (first | exact rfl | exact lit_dot | exact lit_quote | exact lit_back | exact lit_nl | exact lit_cr | exact lit_crlf | exact lit_empty | exact lit_white)) ?_)
    with_reducible refine t_bool ?_
    refine ite_t (by decide) ?_
    with_reducible refine s_ca ?_; refine e_meth ?_; refine n_loc_0 ok' hN (nm_get_token_self _) ?_
    (((with_reducible refine mt_readchar (by assumption) (by (repeat (first | assumption | exact List.mem_cons_self | refine List.mem_cons_of_mem _ ?_))) (by (repeat (first | assumption | exact List.mem_cons_self | refine List.mem_cons_of_mem _ ?_))) ?_); with_reducible refine cw1_fn (by assumption) (keep_101 _) ?_))
    with_reducible refine a_nil ?_
    refine call_sign2 (n := n) (Ok_down ok') mf hi2 hd2 ?_
    with_reducible refine n_sto_3 ok' hN (nm_get_token_ch _) ?_
    obtain ⟨hd4, hi4⟩ := drop_succ_of hd2
    refine s_end ?_
    with_reducible refine s_cons ?_; refine n_aug_1 ok' hN (nm_get_token_token _) ?_; refine n_loc_3 ok' hN (nm_get_token_ch _) ?_
    (first | with_reducible refine i_add ?_ | with_reducible refine i_sadd (by (first | exact rfl | exact lit_dot | exact lit_quote | exact lit_back | exact lit_nl | exact lit_cr | exact lit_crlf | exact lit_empty | exact lit_white)) (by (first | exact rfl | exact lit_dot | exact lit_quote | exact lit_back | exact lit_nl | exact lit_cr | exact lit_crlf | exact lit_empty | exact lit_white)) (by (first | assumption | decide | omega | (simp; done) | (simp; omega))) ?_)
    with_reducible refine n_sto_1 ok' hN (nm_get_token_token _) ?_; refine then_next ?_; refine s_cons ?_
    refine s_for_it (it := it) (q := q) (fun j lo' led' => j ≤ K ∧ ∃ chv, lo' = [some (.ref m), some (.str (S (List.replicate (K + 1 - j) 46))), some (.ref it), chv, none] ∧ ∃ (i' : Nat) (ln' : Int), i' ≤ text.length ∧
      text.drop i' = List.replicate j 46 ++ tail ∧
      led' = (it, .citer q false) :: (q, .meth 101 m) :: (la, intsO [(i' : Int)]) :: (d, .dict (ND ln' sf pb)) :: led) ?_ ?_
    · with_reducible refine n_loc_2 ok' hN (nm_get_token_fiter _) ?_
      exact ⟨rfl, ⟨false, by (repeat (first | assumption | exact List.mem_cons_self | refine List.mem_cons_of_mem _ ?_))⟩, K, Nat.le_refl _, _, by rw [show K + 1 - K = 1 by omega]; rfl, _, _, hi4, hd4, rfl⟩
    rintro j lo' led' ⟨hj, chv', rfl, i', ln', hi', hd', rfl⟩
    cases j with
    | zero =>
      rw [List.replicate_zero, List.nil_append] at hd'
      rcases ht with rfl | ⟨t', rfl⟩
      · refine next_none (n := n) (by assumption) mf hi' hd' _ ?_
        refine then_next ?_
        refine s_end ?_
        with_reducible refine s_nil ?_
        exact ⟨0, by omega, by omega, _, rfl, i', ln', hi', by simpa using hd', fun _ => ⟨rfl, hk1⟩, rfl⟩
      · refine next_sign (n := n) (by assumption) mf hi' hd' _ fun u hu => ?_
        obtain ⟨hd3, hi3⟩ := drop_succ_of hd'
        dsimp only
        rw [hu]
        refine n_sto_3 ok' hN (nm_get_token_ch _) ?_
        with_reducible refine s_cons ?_; refine s_if ?_; refine t_cmp ?_; refine n_loc_3 ok' hN (nm_get_token_ch _) ?_; refine e_attr ?_; refine n_loc_0 ok' hN (nm_get_token_self _) ?_
        (with_reducible refine at_whitespace (by assumption) (by (repeat (first | assumption | exact List.mem_cons_self | refine List.mem_cons_of_mem _ ?_))) (by (repeat (first | assumption | exact List.mem_cons_self | refine List.mem_cons_of_mem _ ?_))) ?_)
        (first | (with_reducible refine c_instr ?_) | (first | with_reducible refine c_inn (by (first | assumption | (refine IsL.mem ?_; (repeat (first | assumption | exact List.mem_cons_self | refine List.mem_cons_of_mem _ ?_))))) rfl ?_ | with_reducible refine c_in (by (first | assumption | (refine IsL.mem ?_; (repeat (first | assumption | exact List.mem_cons_self | refine List.mem_cons_of_mem _ ?_))))) ?_))
        with_reducible refine t_bool ?_
        rw [white_nl]
        refine iteT ?_
        with_reducible refine s_cr ?_; refine n_loc_1 ok' hN (nm_get_token_token _) ?_
        exact h _ _ [_, _] hi3 (by rw [if_neg hk1]; exact hd3)
    | succ j =>
      rw [List.replicate_succ, List.cons_append] at hd'
      refine next_sign (n := n) (by assumption) mf hi' hd' _ fun u hu => ?_
      obtain ⟨hd3, hi3⟩ := drop_succ_of hd'
      dsimp only
      rw [hu]
      refine n_sto_3 ok' hN (nm_get_token_ch _) ?_
      with_reducible refine s_cons ?_; refine s_if ?_; refine t_cmp ?_; refine n_loc_3 ok' hN (nm_get_token_ch _) ?_; refine e_attr ?_; refine n_loc_0 ok' hN (nm_get_token_self _) ?_
      (with_reducible refine at_whitespace (by assumption) (by (repeat (first | assumption | exact List.mem_cons_self | refine List.mem_cons_of_mem _ ?_))) (by (repeat (first | assumption | exact List.mem_cons_self | refine List.mem_cons_of_mem _ ?_))) ?_)
      (first | (with_reducible refine c_instr ?_) | (first | with_reducible refine c_inn (by (first | assumption | (refine IsL.mem ?_; (repeat (first | assumption | exact List.mem_cons_self | refine List.mem_cons_of_mem _ ?_))))) rfl ?_ | with_reducible refine c_in (by (first | assumption | (refine IsL.mem ?_; (repeat (first | assumption | exact List.mem_cons_self | refine List.mem_cons_of_mem _ ?_))))) ?_))
      with_reducible refine t_bool ?_
      rw [white_dot]
      refine iteF ?_
      with_reducible refine s_cons ?_; refine s_if ?_; refine t_cmp ?_; refine n_loc_3 ok' hN (nm_get_token_ch _) ?_; refine e_str ?_
      (first | with_reducible refine c_eq ?_ | with_reducible refine f_eq ?_ | with_reducible refine c_seq (by (first | exact rfl | exact lit_dot | exact lit_quote | exact lit_back | exact lit_nl | exact lit_cr | exact lit_crlf | exact lit_empty | exact lit_white)) (by (first | exact rfl | exact lit_dot | exact lit_quote | exact lit_back | exact lit_nl | exact lit_cr | exact lit_crlf | exact lit_empty | exact lit_white)) ?_)
      with_reducible refine t_bool ?_
      refine ite_f (by decide) ?_
      refine s_end ?_
      refine s_end ?_
      with_reducible refine s_cons ?_; refine n_aug_1 ok' hN (nm_get_token_token _) ?_; refine n_loc_3 ok' hN (nm_get_token_ch _) ?_
      (first | with_reducible refine i_add ?_ | with_reducible refine i_sadd (by (first | exact rfl | exact lit_dot | exact lit_quote | exact lit_back | exact lit_nl | exact lit_cr | exact lit_crlf | exact lit_empty | exact lit_white)) (by (first | exact rfl | exact lit_dot | exact lit_quote | exact lit_back | exact lit_nl | exact lit_cr | exact lit_crlf | exact lit_empty | exact lit_white)) (by (first | assumption | decide | omega | (simp; done) | (simp; omega))) ?_)
      with_reducible refine n_sto_1 ok' hN (nm_get_token_token _) ?_; refine then_next ?_; refine s_nil ?_
      rw [sp_cons (by omega)]
      exact ⟨j, by omega, by omega, _, by rw [show K + 1 - j = (K - j) + 1 from Nat.sub_add_comm (by omega)], _, _, hi3, hd3, rfl⟩
  · have hd1 : text.drop i' = 46 :: (List.replicate K 46 ++ tail) := by rw [hd', spellWord, if_neg kq, if_neg kb, List.replicate_succ]; simp
    refine next_sign (n := n) (by assumption) mf hi' hd1 _ fun u hu => ?_
    obtain ⟨hd2, hi2⟩ := drop_succ_of hd1
    dsimp only
    rw [hu]
    refine n_sto_3 ok' hN (nm_get_token_ch _) ?_
    with_reducible refine s_cons ?_; refine s_if ?_; refine t_cmp ?_; refine n_loc_3 ok' hN (nm_get_token_ch _) ?_; refine e_attr ?_; refine n_loc_0 ok' hN (nm_get_token_self _) ?_
    (with_reducible refine at_whitespace (by assumption) (by (repeat (first | assumption | exact List.mem_cons_self | refine List.mem_cons_of_mem _ ?_))) (by (repeat (first | assumption | exact List.mem_cons_self | refine List.mem_cons_of_mem _ ?_))) ?_)
    (first | (with_reducible refine c_instr ?_) | (first | with_reducible refine c_inn (by (first | assumption | (refine IsL.mem ?_; (repeat (first | assumption | exact List.mem_cons_self | refine List.mem_cons_of_mem _ ?_))))) rfl ?_ | with_reducible refine c_in (by (first | assumption | (refine IsL.mem ?_; (repeat (first | assumption | exact List.mem_cons_self | refine List.mem_cons_of_mem _ ?_))))) ?_))
    with_reducible refine t_bool ?_
    rw [white_dot]
    refine iteF ?_
    refine s_end ?_
    with_reducible refine s_cons ?_; refine s_if ?_; refine t_cmp ?_; refine n_loc_3 ok' hN (nm_get_token_ch _) ?_; refine e_str ?_
    (first | with_reducible refine c_eq ?_ | with_reducible refine f_eq ?_ | with_reducible refine c_seq (by (first | exact rfl | exact lit_dot | exact lit_quote | exact lit_back | exact lit_nl | exact lit_cr | exact lit_crlf | exact lit_empty | exact lit_white)) (by (first | exact rfl | exact lit_dot | exact lit_quote | exact lit_back | exact lit_nl | exact lit_cr | exact lit_crlf | exact lit_empty | exact lit_white)) ?_)
    with_reducible refine t_bool ?_
    refine ite_f (by decide) ?_
    with_reducible refine s_cons ?_; refine s_if ?_; refine t_cmp ?_; refine n_loc_3 ok' hN (nm_get_token_ch _) ?_; refine e_str ?_
    (first | with_reducible refine c_eq ?_ | with_reducible refine f_eq ?_ | with_reducible refine c_seq (by (first | exact rfl | exact lit_dot | exact lit_quote | exact lit_back | exact lit_nl | exact lit_cr | exact lit_crlf | exact lit_empty | exact lit_white)) (by (first | exact rfl | exact lit_dot | exact lit_quote | exact lit_back | exact lit_nl | exact lit_cr | exact lit_crlf | exact lit_empty | exact lit_white)) ?_)
    with_reducible refine t_bool ?_
    refine ite_f (by decide) ?_
    refine s_end ?_
    with_reducible refine s_cons ?_; refine n_aug_1 ok' hN (nm_get_token_token _) ?_; refine n_loc_3 ok' hN (nm_get_token_ch _) ?_
    (first | with_reducible refine i_add ?_ | with_reducible refine i_sadd (by (first | exact rfl | exact lit_dot | exact lit_quote | exact lit_back | exact lit_nl | exact lit_cr | exact lit_crlf | exact lit_empty | exact lit_white)) (by (first | exact rfl | exact lit_dot | exact lit_quote | exact lit_back | exact lit_nl | exact lit_cr | exact lit_crlf | exact lit_empty | exact lit_white)) (by (first | assumption | decide | omega | (simp; done) | (simp; omega))) ?_)
    with_reducible refine n_sto_1 ok' hN (nm_get_token_token _) ?_; refine then_next ?_; refine s_cons ?_
    refine s_for_it (it := it) (q := q) (fun j lo' led' => j ≤ K ∧ ∃ chv, lo' = [some (.ref m), some (.str (S (List.replicate (K + 1 - j) 46))), some (.ref it), chv, none] ∧ ∃ (i' : Nat) (ln' : Int), i' ≤ text.length ∧
      text.drop i' = List.replicate j 46 ++ tail ∧
      led' = (it, .citer q false) :: (q, .meth 101 m) :: (la, intsO [(i' : Int)]) :: (d, .dict (ND ln' sf pb)) :: led) ?_ ?_
    · with_reducible refine n_loc_2 ok' hN (nm_get_token_fiter _) ?_
      exact ⟨rfl, ⟨false, by (repeat (first | assumption | exact List.mem_cons_self | refine List.mem_cons_of_mem _ ?_))⟩, K, Nat.le_refl _, _, by rw [show K + 1 - K = 1 by omega]; rfl, _, _, hi2, hd2, rfl⟩
    rintro j lo' led' ⟨hj, chv', rfl, i', ln', hi', hd', rfl⟩
    cases j with
    | zero =>
      rw [List.replicate_zero, List.nil_append] at hd'
      rcases ht with rfl | ⟨t', rfl⟩
      · refine next_none (n := n) (by assumption) mf hi' hd' _ ?_
        refine then_next ?_
        refine s_end ?_
        with_reducible refine s_nil ?_
        exact ⟨0, by omega, by omega, _, rfl, i', ln', hi', by simpa using hd', fun _ => ⟨rfl, hk1⟩, rfl⟩
      · refine next_sign (n := n) (by assumption) mf hi' hd' _ fun u hu => ?_
        obtain ⟨hd3, hi3⟩ := drop_succ_of hd'
        dsimp only
        rw [hu]
        refine n_sto_3 ok' hN (nm_get_token_ch _) ?_
        with_reducible refine s_cons ?_; refine s_if ?_; refine t_cmp ?_; refine n_loc_3 ok' hN (nm_get_token_ch _) ?_; refine e_attr ?_; refine n_loc_0 ok' hN (nm_get_token_self _) ?_
        (with_reducible refine at_whitespace (by assumption) (by (repeat (first | assumption | exact List.mem_cons_self | refine List.mem_cons_of_mem _ ?_))) (by (repeat (first | assumption | exact List.mem_cons_self | refine List.mem_cons_of_mem _ ?_))) ?_)
        (first | (with_reducible refine c_instr ?_) | (first | with_reducible refine c_inn (by (first | assumption | (refine IsL.mem ?_; (repeat (first | assumption | exact List.mem_cons_self | refine List.mem_cons_of_mem _ ?_))))) rfl ?_ | with_reducible refine c_in (by (first | assumption | (refine IsL.mem ?_; (repeat (first | assumption | exact List.mem_cons_self | refine List.mem_cons_of_mem _ ?_))))) ?_))
        with_reducible refine t_bool ?_
        rw [white_nl]
        refine iteT ?_
        with_reducible refine s_cr ?_; refine n_loc_1 ok' hN (nm_get_token_token _) ?_
        exact h _ _ [_, _] hi3 (by rw [if_neg hk1]; exact hd3)
    | succ j =>
      rw [List.replicate_succ, List.cons_append] at hd'
      refine next_sign (n := n) (by assumption) mf hi' hd' _ fun u hu => ?_
      obtain ⟨hd3, hi3⟩ := drop_succ_of hd'
      dsimp only
      rw [hu]
      refine n_sto_3 ok' hN (nm_get_token_ch _) ?_
      with_reducible refine s_cons ?_; refine s_if ?_; refine t_cmp ?_; refine n_loc_3 ok' hN (nm_get_token_ch _) ?_; refine e_attr ?_; refine n_loc_0 ok' hN (nm_get_token_self _) ?_
      (with_reducible refine at_whitespace (by assumption) (by (repeat (first | assumption | exact List.mem_cons_self | refine List.mem_cons_of_mem _ ?_))) (by (repeat (first | assumption | exact List.mem_cons_self | refine List.mem_cons_of_mem _ ?_))) ?_)
      (first | (with_reducible refine c_instr ?_) | (first | with_reducible refine c_inn (by (first | assumption | (refine IsL.mem ?_; (repeat (first | assumption | exact List.mem_cons_self | refine List.mem_cons_of_mem _ ?_))))) rfl ?_ | with_reducible refine c_in (by (first | assumption | (refine IsL.mem ?_; (repeat (first | assumption | exact List.mem_cons_self | refine List.mem_cons_of_mem _ ?_))))) ?_))
      with_reducible refine t_bool ?_
      rw [white_dot]
      refine iteF ?_
      with_reducible refine s_cons ?_; refine s_if ?_; refine t_cmp ?_; refine n_loc_3 ok' hN (nm_get_token_ch _) ?_; refine e_str ?_
      (first | with_reducible refine c_eq ?_ | with_reducible refine f_eq ?_ | with_reducible refine c_seq (by (first | exact rfl | exact lit_dot | exact lit_quote | exact lit_back | exact lit_nl | exact lit_cr | exact lit_crlf | exact lit_empty | exact lit_white)) (by (first | exact rfl | exact lit_dot | exact lit_quote | exact lit_back | exact lit_nl | exact lit_cr | exact lit_crlf | exact lit_empty | exact lit_white)) ?_)
      with_reducible refine t_bool ?_
      refine ite_f (by decide) ?_
      refine s_end ?_
      refine s_end ?_
      with_reducible refine s_cons ?_; refine n_aug_1 ok' hN (nm_get_token_token _) ?_; refine n_loc_3 ok' hN (nm_get_token_ch _) ?_
      (first | with_reducible refine i_add ?_ | with_reducible refine i_sadd (by (first | exact rfl | exact lit_dot | exact lit_quote | exact lit_back | exact lit_nl | exact lit_cr | exact lit_crlf | exact lit_empty | exact lit_white)) (by (first | exact rfl | exact lit_dot | exact lit_quote | exact lit_back | exact lit_nl | exact lit_cr | exact lit_crlf | exact lit_empty | exact lit_white)) (by (first | assumption | decide | omega | (simp; done) | (simp; omega))) ?_)
      with_reducible refine n_sto_1 ok' hN (nm_get_token_token _) ?_; refine then_next ?_; refine s_nil ?_
      rw [sp_cons (by omega)]
      exact ⟨j, by omega, by omega, _, by rw [show K + 1 - j = (K - j) + 1 from Nat.sub_add_comm (by omega)], _, _, hi3, hd3, rfl⟩
end
section
variable {prog : Program} {w : World} {c : Cx} {n : Nat} {lo : Lo} {led led' : Led} {R : AV → Lo → Led → Prop}
variable {text : List Nat} {m d sf sd rf cc ct ca la pb : Addr} {fd sfd : FuncData} {i : Nat} {ln : Int}
theorem f_push {a : List Nat} {ws : List (List Nat)} (ok : c.Ok w (n + 5)) (hm : (m, .inst 118 d) ∈ led) (hd : (d, .dict (ND ln sf pb)) ∈ led) (u : Up pb (wordsO ws) (wordsO (ws ++ [a])) led led') (hz : ws.length ≤ 900)
    (h : R .none lo led') : Call prog w c (.ref 115) [.ref m, .str (S a)] R lo led := by
  refine call_fn0 (fd := ?fd) (fo := ?fo) (body := ?bd) (n := n + 4) (pn := ["self", "token"]) [some (.ref m), some (.str (S a))] ok ?hK ?hd ?hcd ?hbody ?hclo ?hgl ?hbl ?hb ?hkind ?hnd ?hlo ?hcl ?main ?e1 ?e2 ?e3
  (case hK | hd | hbody | hcd | hclo | hgl | hbl | hkind => with_unfolding_all rfl); (case hnd => with_unfolding_all decide); (case hlo => with_unfolding_all rfl); (case hcl => intro L; with_unfolding_all rfl); (case e1 | e2 | e3 => with_unfolding_all rfl)
  case hb => intro vs hl; obtain ⟨a, b, rfl⟩ := len2 hl; with_unfolding_all rfl
  case main =>
  intro c' ok' he hx
  have hN : c'.env.scope.names = nmOf 115 w := by rw [he]; with_unfolding_all rfl
  clear he
  have hpb := u.mem
  have hz' : ws.length ≤ 2 ^ 20 := by omega
  with_reducible refine s_cx ok' ?_; refine e_meth ?_; refine e_attr ?_; refine n_loc_0 ok' hN (nm_push_token_self _) ?_
  (with_reducible refine at_pushback (by assumption) (by (repeat (first | assumption | exact List.mem_cons_self | refine List.mem_cons_of_mem _ ?_))) (by (repeat (first | assumption | exact List.mem_cons_self | refine List.mem_cons_of_mem _ ?_))) ?_)
  (((with_reducible refine m_list slot_list_append lmd_append (by (repeat (first | assumption | exact List.mem_cons_self | refine List.mem_cons_of_mem _ ?_))) ?_); with_reducible refine cw1_blt ?_))
  with_reducible refine a_1 ?_; refine n_loc_1 ok' hN (nm_push_token_token _) ?_
  (first | with_reducible refine k_appends (by (first | exact rfl | exact lit_dot | exact lit_quote | exact lit_back | exact lit_nl | exact lit_cr | exact lit_crlf | exact lit_empty | exact lit_white)) (by (first | assumption | exact .head | exact .tail .head | exact .tail (.tail .head) | exact .tail (.tail (.tail .head)) | exact .tail (.tail (.tail (.tail .head))) | exact .tail (.tail (.tail (.tail (.tail .head)))) | exact .tail (.tail (.tail (.tail (.tail (.tail .head))))) | exact .tail (.tail (.tail (.tail (.tail (.tail (.tail .head)))))) | exact .tail (.tail (.tail (.tail (.tail (.tail (.tail (.tail .head))))))) | exact .tail (.tail (.tail (.tail (.tail (.tail (.tail (.tail (.tail .head)))))))) | exact .tail (.tail (.tail (.tail (.tail (.tail (.tail (.tail (.tail (.tail .head))))))))) | exact .tail (.tail (.tail (.tail (.tail (.tail (.tail (.tail (.tail (.tail (.tail .head)))))))))) | exact .tail (.tail (.tail (.tail (.tail (.tail (.tail (.tail (.tail (.tail (.tail (.tail .head))))))))))) | exact .tail (.tail (.tail (.tail (.tail (.tail (.tail (.tail (.tail (.tail (.tail (.tail (.tail .head)))))))))))))) (by (first | assumption | decide | omega | (simp; done) | (simp; omega))) ?_ | with_reducible refine k_appendi (by (first | assumption | exact .head | exact .tail .head | exact .tail (.tail .head) | exact .tail (.tail (.tail .head)) | exact .tail (.tail (.tail (.tail .head))) | exact .tail (.tail (.tail (.tail (.tail .head)))) | exact .tail (.tail (.tail (.tail (.tail (.tail .head))))) | exact .tail (.tail (.tail (.tail (.tail (.tail (.tail .head)))))) | exact .tail (.tail (.tail (.tail (.tail (.tail (.tail (.tail .head))))))) | exact .tail (.tail (.tail (.tail (.tail (.tail (.tail (.tail (.tail .head)))))))) | exact .tail (.tail (.tail (.tail (.tail (.tail (.tail (.tail (.tail (.tail .head))))))))) | exact .tail (.tail (.tail (.tail (.tail (.tail (.tail (.tail (.tail (.tail (.tail .head)))))))))) | exact .tail (.tail (.tail (.tail (.tail (.tail (.tail (.tail (.tail (.tail (.tail (.tail .head))))))))))) | exact .tail (.tail (.tail (.tail (.tail (.tail (.tail (.tail (.tail (.tail (.tail (.tail (.tail .head)))))))))))))) (by (first | assumption | decide | omega | (simp; done) | (simp; omega))) ?_ | with_reducible refine k_append (by (first | assumption | exact .head | exact .tail .head | exact .tail (.tail .head) | exact .tail (.tail (.tail .head)) | exact .tail (.tail (.tail (.tail .head))) | exact .tail (.tail (.tail (.tail (.tail .head)))) | exact .tail (.tail (.tail (.tail (.tail (.tail .head))))) | exact .tail (.tail (.tail (.tail (.tail (.tail (.tail .head)))))) | exact .tail (.tail (.tail (.tail (.tail (.tail (.tail (.tail .head))))))) | exact .tail (.tail (.tail (.tail (.tail (.tail (.tail (.tail (.tail .head)))))))) | exact .tail (.tail (.tail (.tail (.tail (.tail (.tail (.tail (.tail (.tail .head))))))))) | exact .tail (.tail (.tail (.tail (.tail (.tail (.tail (.tail (.tail (.tail (.tail .head)))))))))) | exact .tail (.tail (.tail (.tail (.tail (.tail (.tail (.tail (.tail (.tail (.tail (.tail .head))))))))))) | exact .tail (.tail (.tail (.tail (.tail (.tail (.tail (.tail (.tail (.tail (.tail (.tail (.tail .head)))))))))))))) (by (first | assumption | decide | omega | (simp; done) | (simp; omega))) ?_)
  with_reducible refine s_nil ?_
  exact h
theorem f_init (ok : c.Ok w (n + 5)) (h : ∀ pb, R .none lo ((pb, wordsO []) :: (m, .inst 118 d) :: (d, .dict (ND 1 sf pb)) :: led)) :
    CodeP prog w c (.ref 94) [.ref m, .ref sf] R lo ((m, .inst 118 d) :: (d, .dict []) :: led) := by
  refine code_fn0 (fd := ?fd) (fo := ?fo) (body := ?bd) (n := n + 4) (pn := ["self", "fp"]) [some (.ref m), some (.ref sf)] ok ?hK ?hd ?hcd ?hbody ?hclo ?hgl ?hbl ?hb ?hkind ?hnd ?hlo ?hcl ?main ?e1 ?e2 ?e3
  (case hK | hd | hbody | hcd | hclo | hgl | hbl | hkind => with_unfolding_all rfl); (case hnd => with_unfolding_all decide); (case hlo => with_unfolding_all rfl); (case hcl => intro L; with_unfolding_all rfl); (case e1 | e2 | e3 => with_unfolding_all rfl)
  case hb => intro vs hl; obtain ⟨a, b, rfl⟩ := len2 hl; with_unfolding_all rfl
  case main =>
  intro c' ok' he hx
  have hN : c'.env.scope.names = nmOf 94 w := by rw [he]; with_unfolding_all rfl
  clear he
  with_reducible refine s_cons ?_; refine s_asga ?_; refine e_int ?_; refine n_loc_0 ok' hN (nm_init_self _) ?_
  (first | with_reducible refine st_lineno (by assumption) (by (repeat (first | assumption | exact List.mem_cons_self | refine List.mem_cons_of_mem _ ?_))) (by (first | assumption | exact .head | exact .tail .head | exact .tail (.tail .head) | exact .tail (.tail (.tail .head)) | exact .tail (.tail (.tail (.tail .head))) | exact .tail (.tail (.tail (.tail (.tail .head)))) | exact .tail (.tail (.tail (.tail (.tail (.tail .head))))) | exact .tail (.tail (.tail (.tail (.tail (.tail (.tail .head)))))) | exact .tail (.tail (.tail (.tail (.tail (.tail (.tail (.tail .head))))))) | exact .tail (.tail (.tail (.tail (.tail (.tail (.tail (.tail (.tail .head)))))))) | exact .tail (.tail (.tail (.tail (.tail (.tail (.tail (.tail (.tail (.tail .head))))))))) | exact .tail (.tail (.tail (.tail (.tail (.tail (.tail (.tail (.tail (.tail (.tail .head)))))))))) | exact .tail (.tail (.tail (.tail (.tail (.tail (.tail (.tail (.tail (.tail (.tail (.tail .head))))))))))) | exact .tail (.tail (.tail (.tail (.tail (.tail (.tail (.tail (.tail (.tail (.tail (.tail (.tail .head)))))))))))))) ?_ | with_reducible refine st_init1 (by assumption) (by (repeat (first | assumption | exact List.mem_cons_self | refine List.mem_cons_of_mem _ ?_))) (by (first | assumption | exact .head | exact .tail .head | exact .tail (.tail .head) | exact .tail (.tail (.tail .head)) | exact .tail (.tail (.tail (.tail .head))) | exact .tail (.tail (.tail (.tail (.tail .head)))) | exact .tail (.tail (.tail (.tail (.tail (.tail .head))))) | exact .tail (.tail (.tail (.tail (.tail (.tail (.tail .head)))))) | exact .tail (.tail (.tail (.tail (.tail (.tail (.tail (.tail .head))))))) | exact .tail (.tail (.tail (.tail (.tail (.tail (.tail (.tail (.tail .head)))))))) | exact .tail (.tail (.tail (.tail (.tail (.tail (.tail (.tail (.tail (.tail .head))))))))) | exact .tail (.tail (.tail (.tail (.tail (.tail (.tail (.tail (.tail (.tail (.tail .head)))))))))) | exact .tail (.tail (.tail (.tail (.tail (.tail (.tail (.tail (.tail (.tail (.tail (.tail .head))))))))))) | exact .tail (.tail (.tail (.tail (.tail (.tail (.tail (.tail (.tail (.tail (.tail (.tail (.tail .head)))))))))))))) ?_)
  with_reducible refine then_next ?_; refine s_cons ?_; refine s_asga ?_; refine n_loc_1 ok' hN (nm_init_fp _) ?_; refine n_loc_0 ok' hN (nm_init_self _) ?_
  (with_reducible refine st_init2 (by assumption) (by (repeat (first | assumption | exact List.mem_cons_self | refine List.mem_cons_of_mem _ ?_))) (by (first | assumption | exact .head | exact .tail .head | exact .tail (.tail .head) | exact .tail (.tail (.tail .head)) | exact .tail (.tail (.tail (.tail .head))) | exact .tail (.tail (.tail (.tail (.tail .head)))) | exact .tail (.tail (.tail (.tail (.tail (.tail .head))))) | exact .tail (.tail (.tail (.tail (.tail (.tail (.tail .head)))))) | exact .tail (.tail (.tail (.tail (.tail (.tail (.tail (.tail .head))))))) | exact .tail (.tail (.tail (.tail (.tail (.tail (.tail (.tail (.tail .head)))))))) | exact .tail (.tail (.tail (.tail (.tail (.tail (.tail (.tail (.tail (.tail .head))))))))) | exact .tail (.tail (.tail (.tail (.tail (.tail (.tail (.tail (.tail (.tail (.tail .head)))))))))) | exact .tail (.tail (.tail (.tail (.tail (.tail (.tail (.tail (.tail (.tail (.tail (.tail .head))))))))))) | exact .tail (.tail (.tail (.tail (.tail (.tail (.tail (.tail (.tail (.tail (.tail (.tail (.tail .head)))))))))))))) ?_)
  with_reducible refine then_next ?_; refine s_cons ?_; refine s_asga ?_; refine e_str ?_; refine n_loc_0 ok' hN (nm_init_self _) ?_
  (with_reducible refine st_init3 (by assumption) (by (repeat (first | assumption | exact List.mem_cons_self | refine List.mem_cons_of_mem _ ?_))) (by (first | assumption | exact .head | exact .tail .head | exact .tail (.tail .head) | exact .tail (.tail (.tail .head)) | exact .tail (.tail (.tail (.tail .head))) | exact .tail (.tail (.tail (.tail (.tail .head)))) | exact .tail (.tail (.tail (.tail (.tail (.tail .head))))) | exact .tail (.tail (.tail (.tail (.tail (.tail (.tail .head)))))) | exact .tail (.tail (.tail (.tail (.tail (.tail (.tail (.tail .head))))))) | exact .tail (.tail (.tail (.tail (.tail (.tail (.tail (.tail (.tail .head)))))))) | exact .tail (.tail (.tail (.tail (.tail (.tail (.tail (.tail (.tail (.tail .head))))))))) | exact .tail (.tail (.tail (.tail (.tail (.tail (.tail (.tail (.tail (.tail (.tail .head)))))))))) | exact .tail (.tail (.tail (.tail (.tail (.tail (.tail (.tail (.tail (.tail (.tail (.tail .head))))))))))) | exact .tail (.tail (.tail (.tail (.tail (.tail (.tail (.tail (.tail (.tail (.tail (.tail (.tail .head)))))))))))))) ?_)
  with_reducible refine then_next ?_; refine s_cons ?_; refine s_asga ?_; refine e_list ?_; refine a_nil ?_
  refine ⟨by (first | assumption | decide | omega | (simp; done) | (simp; omega)), fun (ad1 : Addr) => ?_⟩
  with_reducible refine n_loc_0 ok' hN (nm_init_self _) ?_
  (with_reducible refine st_init4 (by assumption) (by (repeat (first | assumption | exact List.mem_cons_self | refine List.mem_cons_of_mem _ ?_))) (by (first | assumption | exact .head | exact .tail .head | exact .tail (.tail .head) | exact .tail (.tail (.tail .head)) | exact .tail (.tail (.tail (.tail .head))) | exact .tail (.tail (.tail (.tail (.tail .head)))) | exact .tail (.tail (.tail (.tail (.tail (.tail .head))))) | exact .tail (.tail (.tail (.tail (.tail (.tail (.tail .head)))))) | exact .tail (.tail (.tail (.tail (.tail (.tail (.tail (.tail .head))))))) | exact .tail (.tail (.tail (.tail (.tail (.tail (.tail (.tail (.tail .head)))))))) | exact .tail (.tail (.tail (.tail (.tail (.tail (.tail (.tail (.tail (.tail .head))))))))) | exact .tail (.tail (.tail (.tail (.tail (.tail (.tail (.tail (.tail (.tail (.tail .head)))))))))) | exact .tail (.tail (.tail (.tail (.tail (.tail (.tail (.tail (.tail (.tail (.tail (.tail .head))))))))))) | exact .tail (.tail (.tail (.tail (.tail (.tail (.tail (.tail (.tail (.tail (.tail (.tail (.tail .head)))))))))))))) ?_)
  with_reducible refine then_next ?_; refine s_nil ?_
  exact h _
theorem perm_mv {α : Type} {p m d a : α} {l x : List α} : (p :: m :: d :: (l ++ a :: x)).Perm (p :: a :: d :: (m :: (l ++ x))) := by
  refine List.Perm.cons p ?_
  refine List.Perm.trans (l₂ := a :: m :: d :: (l ++ x)) ?_ (List.Perm.cons a (List.Perm.swap d m _))
  exact List.perm_middle (l₁ := m :: d :: l)
theorem perm_front2 {α : Type} {a b d : α} {l : List α} : (a :: b :: d :: l).Perm (d :: a :: b :: l) :=
  (List.perm_append_comm (l₁ := [a, b]) (l₂ := [d])).append_right l
theorem perm_front3 {α : Type} {a b c d : α} {l : List α} : (a :: b :: c :: d :: l).Perm (d :: a :: b :: c :: l) :=
  (List.perm_append_comm (l₁ := [a, b, c]) (l₂ := [d])).append_right l
theorem f_machine (ok : c.Ok w (n + 8)) (hz : text.length ≤ 1000)
    (h : ∀ (m d sf sd rf cc ct ca la pb : Addr) (fd sfd : FuncData) (l : Led) (ps : Array Value), (162, .raw (tabObj ps)) ∈ l → MF w (l ++ led) text m d sf sd rf cc ct ca la fd sfd → R (.ref m) lo ((pb, wordsO []) :: (la, intsO [((0 : Nat) : Int)]) :: (d, .dict (ND 1 sf pb)) :: (l ++ led))) :
    Call prog w c (.ref 167) [.str (S text)] R lo ((162, .raw (tabObj #[])) :: led) := by
  refine Call_permR ?_
  refine call_fn (fd := ?fd) (fo := ?fo) (body := ?bd) (n := n + 7) (pn := ["text"]) [none, none, none, none, none] (fun L => [(L + 2, .cell none), (L + 1, .cell (some (.str (S text))))]) ok ?hK ?hd ?hcd ?hbody ?hclo ?hgl ?hbl ?hb ?hkind ?hnd ?hlo ?hcl ?main ?e1 ?e2 ?e3
  (case hK | hd | hbody | hcd | hclo | hgl | hbl | hkind => with_unfolding_all rfl); (case hnd => with_unfolding_all decide); (case hlo => with_unfolding_all rfl); (case hcl => intro L; with_unfolding_all rfl); (case e1 | e2 | e3 => with_unfolding_all rfl)
  case hb => intro vs hl; obtain ⟨a, rfl⟩ := len1 hl; with_unfolding_all rfl
  case main =>
  intro c' ok' he hx
  have hN : c'.env.scope.names = nmOf 167 w := by rw [he]; with_unfolding_all rfl
  have hcode : c'.env.code = .ref 166 := by rw [he]; with_unfolding_all rfl
  have hc_at : c'.env.cells.lookup (Str.ofString "at") = some (c'.L + 2) := by rw [he]; with_unfolding_all rfl
  have hc_text : c'.env.cells.lookup (Str.ofString "text") = some (c'.L + 1) := by rw [he]; with_unfolding_all rfl
  show WpS prog w c' _ _ _ ((c'.L + 2, .cell none) :: (c'.L + 1, .cell (some (.str (S text)))) :: (162, .raw (tabObj #[])) :: led)
  with_reducible refine s_ca ?_; refine e_list ?_; refine a_1 ?_; refine e_int ?_
  refine ⟨by (first | assumption | decide | omega | (simp; done) | (simp; omega)), fun (ad1 : Addr) => ?_⟩
  with_reducible refine n_stoc ok' hN (nm_l_machine_at _) hc_at (by (first | assumption | exact .head | exact .tail .head | exact .tail (.tail .head) | exact .tail (.tail (.tail .head)) | exact .tail (.tail (.tail (.tail .head))) | exact .tail (.tail (.tail (.tail (.tail .head)))) | exact .tail (.tail (.tail (.tail (.tail (.tail .head))))) | exact .tail (.tail (.tail (.tail (.tail (.tail (.tail .head)))))) | exact .tail (.tail (.tail (.tail (.tail (.tail (.tail (.tail .head))))))) | exact .tail (.tail (.tail (.tail (.tail (.tail (.tail (.tail (.tail .head)))))))) | exact .tail (.tail (.tail (.tail (.tail (.tail (.tail (.tail (.tail (.tail .head))))))))) | exact .tail (.tail (.tail (.tail (.tail (.tail (.tail (.tail (.tail (.tail (.tail .head)))))))))) | exact .tail (.tail (.tail (.tail (.tail (.tail (.tail (.tail (.tail (.tail (.tail (.tail .head))))))))))) | exact .tail (.tail (.tail (.tail (.tail (.tail (.tail (.tail (.tail (.tail (.tail (.tail (.tail .head)))))))))))))) ?_; refine s_cons ?_
  refine WpS_perm ((162, .raw (tabObj #[])) :: (ad1, intsO [0]) :: (c'.L + 2, .cell (some (.ref ad1))) :: (c'.L + 1, .cell (some (.str (S text)))) :: led) perm_front3 ?_
  refine s_def (clos := [("text", c'.L + 1), ("at", c'.L + 2)]) ok' hcode ?_ ?_ ?_ ?_ ?_ ?_ ?_ (fun rf cc doc pm ctv => ?_)
  · with_unfolding_all rfl
  · trivial
  · rfl
  · rw [he]; with_unfolding_all rfl
  · rfl
  · rfl
  · with_unfolding_all rfl
  refine use_eq (o := innerDef 167 1 w) (x := ?x) ?e fun e => ?_
  case e => with_unfolding_all rfl
  generalize hfg : fnX _ _ _ _ _ _ _ _ _ _ _ _ _ = fd
  have hfd : IsInner w 167 1 [("text", c'.L + 1), ("at", c'.L + 2)] cc fd := ⟨_, _, _, _, _, _, _, _, _, e, hfg.symm⟩
  have hq : qualnameIn c'.env (Str.ofString "_law_read_on") (Str.ofString "_law_read_on") = fd.qualname := by rw [← hfg]
  rw [hq]
  clear e hfg hq
  generalize hP : tabObj _ = tb
  generalize c'.L + 2 = ca at hc_at hfd ⊢
  generalize c'.L + 1 = ct at hc_text hfd ⊢
  with_reducible refine n_sto_1 ok' hN (nm_l_machine_law_read_on _) ?_; refine then_next ?_; refine s_cons ?_; refine s_asg ?_
  refine WpV_perm ((162, .raw tb) :: (rf, .fn fd none) :: (cc, .code fd.qualname) :: (ad1, intsO [0]) :: (ca, .cell (some (.ref ad1))) :: (ct, .cell (some (.str (S text)))) :: led) perm_front2 ?_
  rw [← hP]
  refine e_lam (clos := []) ok' hcode ?_ ?_ ?_ ?_ ?_ (fun sf c2 sfd q => ?_)
  · with_unfolding_all rfl
  · trivial
  · with_unfolding_all rfl
  · rw [he]; with_unfolding_all rfl
  · with_unfolding_all rfl
  clear he
  with_reducible refine n_sto_2 ok' hN (nm_l_machine_stream _) ?_; refine then_next ?_; refine s_cons ?_; refine s_asga ?_; refine n_loc_1 ok' hN (nm_l_machine_law_read_on _) ?_; refine n_loc_2 ok' hN (nm_l_machine_stream _) ?_
  (with_reducible refine sat_fn fnt_read (fun (_ : Addr) => ?_))
  with_reducible refine then_next ?_
  rename_i sd
  with_reducible refine s_cons ?_; refine s_ret ?_; refine e_call ?_; refine n_glob ok' hN (nm_l_machine_netrclex _) (gl_netrclex _) ?_; refine cw0_fn ok' (keep_netrclex _) ?_; refine a_1 ?_; refine n_loc_2 ok' hN (nm_l_machine_stream _) ?_
  refine CodeP.call (code_cls (C := 118) (fI := 94) (n := n + 5) ok' ?_ ?_ ?_ fun m d c1 ok1 _ => f_init (n := n) ok1 (fun pb => ⟨rfl, ?_⟩))
  · with_unfolding_all rfl
  · with_unfolding_all rfl
  · with_unfolding_all rfl
  with_reducible refine then_ret ?_
  refine ⟨_, (perm_mv (l := [(sd, _), (sf, _), (c2, _), (162, _), (rf, _), (cc, _)])), h m d sf sd rf cc ct ca ad1 pb fd sfd [(m, _), (sd, _), (sf, _), (c2, _), (162, _), (rf, _), (cc, _), (ca, _), (ct, _)] _ (by (repeat (first | assumption | exact List.mem_cons_self | refine List.mem_cons_of_mem _ ?_))) ⟨?_, ?_, ?_, ?_, ?_, ?_, ?_, hfd, hz⟩⟩
  all_goals (repeat (first | assumption | exact List.mem_cons_self | refine List.mem_cons_of_mem _ ?_))
end
section
variable {prog : Program} {w : World} {c : Cx} {n : Nat} {lo : Lo} {led led' : Led} {R : AV → Lo → Led → Prop}
theorem pat_1 (ok : c.Ok w n) : PatAt c.base 127 pat1 1 := by
  refine ⟨?po, ?vs, ?ca, ?co, ?cvs, ?n, ok.K _ _ ?h1, ?h2, ?h3, ?h4, ?h5, ok.K _ _ ?h6, ?h7, ?h8, ?h9, ?h10⟩
  case h1 => with_unfolding_all rfl
  case h2 => with_unfolding_all rfl
  case h4 => with_unfolding_all rfl
  case h6 => with_unfolding_all rfl
  case h7 => with_unfolding_all rfl
  case h3 => with_unfolding_all rfl
  case h5 => with_unfolding_all rfl
  case h8 => with_unfolding_all decide
  case h9 => with_unfolding_all rfl
  case h10 => with_unfolding_all rfl
theorem pat_2 (ok : c.Ok w n) : PatAt c.base 132 pat2 0 := by
  refine ⟨?po, ?vs, ?ca, ?co, ?cvs, ?n, ok.K _ _ ?h1, ?h2, ?h3, ?h4, ?h5, ok.K _ _ ?h6, ?h7, ?h8, ?h9, ?h10⟩
  case h1 => with_unfolding_all rfl
  case h2 => with_unfolding_all rfl
  case h4 => with_unfolding_all rfl
  case h6 => with_unfolding_all rfl
  case h7 => with_unfolding_all rfl
  case h3 => with_unfolding_all rfl
  case h5 => with_unfolding_all rfl
  case h8 => with_unfolding_all decide
  case h9 => with_unfolding_all rfl
  case h10 => with_unfolding_all rfl
theorem e_bytes {i : List UInt8} {k : Nat} {pos : Pos} (h : R (.bytes i.toArray) lo led) : WpV prog w c (eval (.Constant (.bytes i) k pos) c.env) R lo led :=
  fun _ _ _ _ rep kk => Constant_bytes (kk _ _ _ _ _ h rep)
theorem gl_CRLF (w : World) : ∃ v, nsIn (KK w) mainGlobals (Str.ofString "CRLF") = some (some v) ∧ er v = .str (S [13, 10]) := by
  refine ⟨?v, ?h, ?e⟩
  case h => with_unfolding_all rfl
  case e => exact congrArg AV.str lit_crlf
theorem sum_len_flat (ws : List (List Nat)) : (ws.map List.length).sum = ws.flatten.length := (List.length_flatten).symm
theorem pieceL_len (l rp : List Nat) : ∀ (ms : List (Nat × Nat)) (s : Nat), (pieceL l rp s ms).length ≤ 2 * ms.length + 1
  | [], s => by unfold pieceL; split <;> simp
  | (p, q) :: ms, s => by
    have := pieceL_len l rp ms q
    unfold pieceL
    split <;> simp <;> omega
theorem msE_len (g : Nat) : ∀ (ks : List Nat) (o : Nat), (msE g o ks).length ≤ ks.length
  | [], o => by simp [msE]
  | [k], o => by simp [msE]
  | k :: k' :: r, o => by
    have := msE_len g (k' :: r) (o + k + g)
    show (msE g (o + k + g) (k' :: r)).length + 1 ≤ _
    simp at this ⊢; omega
theorem msQ_len : ∀ (ks : List Nat) (o : Nat), (msQ o ks).length ≤ ks.length
  | [], o => by simp [msQ]
  | [k], o => by simp [msQ]
  | k :: k' :: r, o => by
    have := msQ_len (k' :: r) (o + k + 2)
    show (msQ (o + k + 2) (k' :: r)).length + 1 ≤ _
    simp at this ⊢; omega
theorem joinL_len (g : List Nat) : ∀ (ks : List (List Nat)), (joinL g ks).length ≤ (ks.map List.length).sum + ks.length * g.length
  | [] => by simp [joinL]
  | [k] => by simp [joinL]
  | k :: k' :: r => by
    have := joinL_len g (k' :: r)
    show (k ++ g ++ joinL g (k' :: r)).length ≤ _
    simp only [List.length_append, List.map_cons, List.sum_cons, List.length_cons] at this ⊢
    rw [Nat.succ_mul]
    omega
theorem dots_sum {ks : List Nat} {m : Nat} (h : ∀ k ∈ ks, k ≤ m) : ((ks.map dots).map List.length).sum ≤ ks.length * m := by
  induction ks with
  | nil => simp
  | cons k r ih =>
    have := ih fun x hx => h x (List.mem_cons_of_mem _ hx)
    have hk := h k (by simp)
    simp only [List.map_cons, List.sum_cons, List.length_cons, List.length_replicate] at this ⊢
    rw [Nat.succ_mul]; omega
theorem join_pos {g : List Nat} {ks : List Nat} (hne : ks ≠ []) (hk : ∀ k ∈ ks, 1 ≤ k) : 0 < (joinL g (ks.map dots)).length := by
  match ks, hne with
  | k :: r, _ =>
    obtain ⟨t, ht⟩ := join_head g (r := r) (hk k (by simp))
    rw [ht]; simp
theorem f_eols {g : List Nat} {ks : List Nat} (ok : c.Ok w (n + 3)) (hg : g = [10] ∨ g = [13] ∨ g = [13, 10]) (hne : ks ≠ []) (hk : ∀ k ∈ ks, 1 ≤ k ∧ k ≤ 100) (hl : ks.length ≤ 8) (h : R (.str (S (joinL [13, 10] (ks.map dots)))) lo led) :
    Call prog w c (.ref 146) [.str (S (joinL g (ks.map dots)))] R lo led := by
  refine call_fn0 (fd := ?fd) (fo := ?fo) (body := ?bd) (n := n + 2) (pn := ["data"]) [some (.str (S (joinL g (ks.map dots)))), none, none] ok ?hK ?hd ?hcd ?hbody ?hclo ?hgl ?hbl ?hb ?hkind ?hnd ?hlo ?hcl ?main ?e1 ?e2 ?e3
  (case hK | hd | hbody | hcd | hclo | hgl | hbl | hkind => with_unfolding_all rfl); (case hnd => with_unfolding_all decide); (case hlo => with_unfolding_all rfl); (case hcl => intro L; with_unfolding_all rfl); (case e1 | e2 | e3 => with_unfolding_all rfl)
  case hb => intro vs hl; obtain ⟨a, rfl⟩ := len1 hl; with_unfolding_all rfl
  case main =>
  intro c' ok' he hx
  have hN : c'.env.scope.names = nmOf 146 w := by rw [he]; with_unfolding_all rfl
  clear he
  have hp := pat_2 ok'
  obtain ⟨vc, hv1, hv2⟩ := gl_CRLF w
  have gl_CRLF := fun (_ : Unit) => hv1
  have hk1 : ∀ k ∈ ks, 1 ≤ k := fun k h => (hk k h).1
  have hlen : ∀ g : List Nat, g.length ≤ 2 → (joinL g (ks.map dots)).length ≤ 1000 := by
    intro g hg2
    have h1 := joinL_len g (ks.map dots)
    have h2 := dots_sum (m := 100) fun k h => (hk k h).2
    rw [List.length_map] at h1
    have h3 : ks.length * g.length ≤ 8 * 2 := Nat.mul_le_mul hl hg2
    omega
  have hg2 : g.length ≤ 2 := by rcases hg with rfl | rfl | rfl <;> simp
  have hz := hlen g hg2
  have hs := subs_eol hg (l := joinL g (ks.map dots)) (by omega) ks 0 hk1 (by omega) rfl
  have hf := flat_eol (g := g) (l := joinL g (ks.map dots)) ks 0 hne hk1 (by omega) rfl
  have hm := msE_len g.length ks 0
  have hc := pieceL_len (joinL g (ks.map dots)) [13, 10] (msE g.length 0 ks) 0
  with_reducible refine s_cr ?_; refine e_meth ?_; refine n_glob ok' hN (nm_fix_eols_twin_re_2 _) (gl_twin_re_2 _) ?_
  (((refine m_sub (by assumption) ?_); with_reducible refine cw1_blt ?_))
  with_reducible refine a_2 ?_; refine n_glob ok' hN (nm_fix_eols_CRLF _) hv1 ?_; refine n_loc_0 ok' hN (nm_fix_eols_data _) ?_
  rw [hv2]
  refine k_sub_str (rp := [13, 10]) rfl rfl hp (by decide) hs (by omega) (join_pos hne hk1) (by omega) ?_ ?_
  · rw [sum_len_flat, hf]; have := hlen [13, 10] (by simp); omega
  rw [hf]
  exact h
theorem f_quote {ks : List Nat} (ok : c.Ok w (n + 3)) (hne : ks ≠ []) (hk : ∀ k ∈ ks, 1 ≤ k ∧ k ≤ 100) (hl : ks.length ≤ 8) (h : R (.bytes (Bn (joinL [13, 10] (ks.map fun k => dots (k + 1))))) lo led) :
    Call prog w c (.ref 139) [.bytes (Bn (joinL [13, 10] (ks.map dots)))] R lo led := by
  refine call_fn0 (fd := ?fd) (fo := ?fo) (body := ?bd) (n := n + 2) (pn := ["bindata"]) [some (.bytes (Bn (joinL [13, 10] (ks.map dots)))), none] ok ?hK ?hd ?hcd ?hbody ?hclo ?hgl ?hbl ?hb ?hkind ?hnd ?hlo ?hcl ?main ?e1 ?e2 ?e3
  (case hK | hd | hbody | hcd | hclo | hgl | hbl | hkind => with_unfolding_all rfl); (case hnd => with_unfolding_all decide); (case hlo => with_unfolding_all rfl); (case hcl => intro L; with_unfolding_all rfl); (case e1 | e2 | e3 => with_unfolding_all rfl)
  case hb => intro vs hl; obtain ⟨a, rfl⟩ := len1 hl; with_unfolding_all rfl
  case main =>
  intro c' ok' he hx
  have hN : c'.env.scope.names = nmOf 139 w := by rw [he]; with_unfolding_all rfl
  clear he
  have hp := pat_1 ok'
  have hk1 : ∀ k ∈ ks, 1 ≤ k := fun k h => (hk k h).1
  have hlen : ∀ f : Nat → Nat, (∀ k ∈ ks, f k ≤ 101) → (joinL [13, 10] (ks.map fun k => dots (f k))).length ≤ 1000 := by
    intro f hf
    have h1 := joinL_len [13, 10] (ks.map fun k => dots (f k))
    have h2 := dots_sum (m := 101) (ks := ks.map f) (by intro x hx; obtain ⟨k, hk, rfl⟩ := List.mem_map.mp hx; exact hf k hk)
    rw [List.length_map] at h2
    rw [List.length_map] at h1
    have h4 : ((ks.map fun k => dots (f k)).map List.length).sum ≤ ks.length * 101 := by
      rw [show (ks.map fun k => dots (f k)) = (ks.map f).map dots by rw [List.map_map]; rfl]; exact h2
    have h3 : ks.length * ([13, 10] : List Nat).length ≤ 8 * 2 := Nat.mul_le_mul hl (by simp)
    omega
  have hz : (joinL [13, 10] (ks.map dots)).length ≤ 1000 := hlen (fun k => k) (fun k h => by have := (hk k h).2; omega)
  have hs := subs_q (l := joinL [13, 10] (ks.map dots)) (by omega) ks 0 0 hne hk1 (by omega) rfl (by omega) (fun i h1 h2 => by omega) rfl
  have hf := flat_q (l := joinL [13, 10] (ks.map dots)) ks 0 0 hne hk1 (by omega) rfl (by omega)
  have hm := msQ_len ks 0
  have h256 : ∀ x ∈ joinL [13, 10] (ks.map dots), x < 256 := by
    have : ∀ ks : List Nat, ∀ x ∈ joinL [13, 10] (ks.map dots), x < 256 := by
      intro ks
      induction ks with
      | nil => intro x hx; cases hx
      | cons k r ih =>
        cases r with
        | nil =>
          intro x hx
          have := List.eq_of_mem_replicate (show x ∈ List.replicate k 46 from hx)
          omega
        | cons k' r =>
          intro x hx
          have hx' : x ∈ dots k ++ [13, 10] ++ joinL [13, 10] ((k' :: r).map dots) := hx
          rcases List.mem_append.mp hx' with hx1 | hx1
          · rcases List.mem_append.mp hx1 with hx2 | hx2
            · have := List.eq_of_mem_replicate hx2; omega
            · simp at hx2; omega
          · exact ih x hx1
    exact this ks
  with_reducible refine s_cr ?_; refine e_meth ?_; refine n_glob ok' hN (nm_quote_periods_twin_re_1 _) (gl_twin_re_1 _) ?_
  (((refine m_sub (by assumption) ?_); with_reducible refine cw1_blt ?_))
  with_reducible refine a_2 ?_; refine e_bytes ?_; refine n_loc_0 ok' hN (nm_quote_periods_bindata _) ?_
  refine k_sub_bytes (rp := [46, 46]) (l := joinL [13, 10] (ks.map dots)) hp (by decide +kernel) h256 hs (by omega) (join_pos hne hk1) (by omega) ?_ ?_
  · rw [sum_len_flat, hf]; have := hlen (fun k => k + 1) (fun k h => by have := (hk k h).2; omega); simp only [List.length_append, List.length_take, List.length_drop]; omega
  rw [hf]
  exact h
end
section
variable {prog : Program} {w : World} {c : Cx} {n : Nat} {lo : Lo} {led led' : Led} {R : AV → Lo → Led → Prop}
theorem f_div2n1n {a b m : Int} (ok : c.Ok w (n + 3)) (hb : b ≠ 0) (hp : Builtin.divisionGoesByPylong a b = false) (hs : (Builtin.Int.intBits a : Int) - m ≤ 4000) (h : ∀ d, R (.ref d) lo ((d, .tuple [.int (a.fdiv b), .int (a.fmod b)]) :: led)) :
    Call prog w c (.ref 38) [.int a, .int b, .int m] R lo led := by
  refine call_fn0 (fd := ?fd) (fo := ?fo) (body := ?bd) (n := n + 2) (pn := ["a", "b", "n"]) (some (.int a) :: some (.int b) :: some (.int m) :: ?rest) ok ?hK ?hd ?hcd ?hbody ?hclo ?hgl ?hbl ?hb ?hkind ?hnd ?hlo ?hcl ?main ?e1 ?e2 ?e3
  (case hK | hd | hbody | hcd | hclo | hgl | hbl | hkind => with_unfolding_all rfl); (case hnd => with_unfolding_all decide); (case hlo => with_unfolding_all rfl); (case hcl => intro L; with_unfolding_all rfl); (case e1 | e2 | e3 => with_unfolding_all rfl)
  case hb => intro vs hl; obtain ⟨x, y, z, rfl⟩ := len3 hl; with_unfolding_all rfl
  case main =>
  intro c' ok' he hx
  have hN : c'.env.scope.names = nmOf 38 w := by rw [he]; with_unfolding_all rfl
  clear he
  with_reducible refine s_cons ?_; refine s_if ?_; refine t_cmp ?_; refine e_bin ?_; refine e_meth ?_; refine n_loc_0 ok' hN (nm_div2n1n_a _) ?_
  (((with_reducible refine m_bits ?_); with_reducible refine cw1_blt ?_))
  with_reducible refine a_nil ?_; refine k_bits ?_; refine n_loc_2 ok' hN (nm_div2n1n_n _) ?_
  (first | with_reducible refine b_sub ?_ | with_reducible refine f_sub ?_ | with_reducible refine f_subi (by (first | assumption | decide | omega | (simp; done) | (simp; omega))) ?_)
  with_reducible refine n_glob ok' hN (nm_div2n1n_DIV_LIMIT _) (gl_DIV_LIMIT _) ?_
  (first | (refine c_le (b := 4000) ?_) | (first | with_reducible refine c_le ?_ | with_reducible refine f_le ?_))
  with_reducible refine t_bool ?_
  refine ite_t (by simpa using hs) ?_
  with_reducible refine s_cr ?_; refine e_cb ok' hN (nm_div2n1n_divmod _) (bl_divmod _) ?_; refine a_2 ?_; refine n_loc_0 ok' hN (nm_div2n1n_a _) ?_; refine n_loc_1 ok' hN (nm_div2n1n_b _) ?_
  refine k_divmod (by assumption) (by assumption) (fun (_ : Addr) => ?_)
  exact h _
end
section
variable {prog : Program} {w : World} {c : Cx} {n : Nat} {lo : Lo} {led led' : Led} {R : AV → Lo → Led → Prop}
noncomputable def widened (xs ts : List Nat) (size : Nat) : Nat := ((List.range size).filter fun k => !decide ((ts.filter fun t => xs.contains ((k + size - t) % size)) = [])).length
theorem fmod_sub {k t size : Nat} (ht : t ≤ size) : ((k : Int) - (t : Int)).fmod (size : Int) = (((k + size - t) % size : Nat) : Int) := by
  rw [Int.fmod_eq_emod_of_nonneg _ (Int.natCast_nonneg _), Int.natCast_emod, Int.natCast_sub (by omega), Int.natCast_add]
  rw [show ((k : Int) + size - t) = ((k : Int) - t) + size by omega, Int.add_emod_right]
theorem f_widened {ls lt : Addr} {xs ts : List Nat} {size : Nat} (ok : c.Ok w (n + 9)) (hs : 0 < size) (hs2 : size ≤ 12) (hts : ts.length ≤ 12) (htt : ∀ t ∈ ts, t ≤ size) (ha : (ls, natsO xs) ∈ led) (hb : (lt, natsO ts) ∈ led)
    (h : R (.int (widened xs ts size : Nat)) lo led) :
    Call prog w c (.ref 196) [.ref ls, .ref lt, .int size] R lo led := by
  refine Call_drop ?_
  refine call_fn (fd := ?fd) (fo := ?fo) (body := ?bd) (n := n + 8) (pn := ["some", "turns", "size"]) [none, none, none, none, none] (fun L => [(L + 3, .cell (some (.int size))), (L + 2, .cell (some (.ref lt))), (L + 1, .cell (some (.ref ls)))]) ok ?hK ?hd ?hcd ?hbody ?hclo ?hgl ?hbl ?hb ?hkind ?hnd ?hlo ?hcl ?main ?e1 ?e2 ?e3
  (case hK | hd | hbody | hcd | hclo | hgl | hbl | hkind => with_unfolding_all rfl); (case hnd => with_unfolding_all decide); (case hlo => with_unfolding_all rfl); (case hcl => intro L; with_unfolding_all rfl); (case e1 | e2 | e3 => with_unfolding_all rfl)
  case hb => intro vs hl; obtain ⟨a, b, d, rfl⟩ := len3 hl; with_unfolding_all rfl
  case main =>
  intro c' ok' he hx
  have hN : c'.env.scope.names = nmOf 196 w := by rw [he]; with_unfolding_all rfl
  have hc_some : c'.env.cells.lookup (Str.ofString "some") = some (c'.L + 1) := by rw [he]; with_unfolding_all rfl
  have hc_turns : c'.env.cells.lookup (Str.ofString "turns") = some (c'.L + 2) := by rw [he]; with_unfolding_all rfl
  have hc_size : c'.env.cells.lookup (Str.ofString "size") = some (c'.L + 3) := by rw [he]; with_unfolding_all rfl
  show WpS prog w c' _ _ _ ((c'.L + 3, .cell (some (.int size))) :: (c'.L + 2, .cell (some (.ref lt))) :: (c'.L + 1, .cell (some (.ref ls))) :: led)
  with_reducible refine s_cons ?_; refine s_ret ?_; refine e_call ?_; refine n_blt ok' hN (nm_l_widened_len _) (bl_len _) ?_; refine cw0_blt ?_; refine a_cons ?_
  refine e_sieve_range size (fun k => !decide ((ts.filter fun t => xs.contains ((k + size - t) % size)) = [])) (fun lo => lo = [none, none, none, none, none]) (fun L v l => (L + 1, .cell v) :: l) [none, none, none, none, none] (cl := [("turns", c'.L + 2), ("some", c'.L + 1), ("size", c'.L + 3)]) ok' ?clos rfl (by (exact fun _ => look_none (by simp))) (by (exact names_ok (by with_unfolding_all rfl))) (fun L => Own.one (by with_unfolding_all rfl)) (by omega) rfl ?_
  case clos => rw [he]; with_unfolding_all rfl
  with_reducible refine e_ct ok' hN (nm_l_widened_range _) (bl_range _) ?_; refine a_1 ?_; refine n_cell ok' hN (nm_l_widened_size _) hc_size (by (first | assumption | (refine At.mem ?_; (repeat (first | assumption | exact List.mem_cons_self | refine List.mem_cons_of_mem _ ?_))))) ?_
  (with_reducible refine k_range (fun _ => ?_))
  refine ⟨_, _, rfl, rfl, ?_, fun acc => ?_⟩
  · intro it acc c1 ok1 he1 hx1 o k v ys lo hk hL
    subst hL
    have hN1 : c1.env.scope.names = ns_l_widened_c0 := by rw [he1, he]; with_unfolding_all rfl
    have hc_k : c1.env.cells.lookup (Str.ofString "k") = some (c1.L + 1) := by rw [he1, he]; with_unfolding_all rfl
    have hc_some : c1.env.cells.lookup (Str.ofString "some") = some (c'.L + 1) := by rw [he1, he]; with_unfolding_all rfl
    have hc_turns : c1.env.cells.lookup (Str.ofString "turns") = some (c'.L + 2) := by rw [he1, he]; with_unfolding_all rfl
    have hc_size : c1.env.cells.lookup (Str.ofString "size") = some (c'.L + 3) := by rw [he1, he]; with_unfolding_all rfl
    with_reducible refine n_stoc ok1 hN1 nm_l_widened_c0_k hc_k (by (first | assumption | exact .head | exact .tail .head | exact .tail (.tail .head) | exact .tail (.tail (.tail .head)) | exact .tail (.tail (.tail (.tail .head))) | exact .tail (.tail (.tail (.tail (.tail .head)))) | exact .tail (.tail (.tail (.tail (.tail (.tail .head))))) | exact .tail (.tail (.tail (.tail (.tail (.tail (.tail .head)))))) | exact .tail (.tail (.tail (.tail (.tail (.tail (.tail (.tail .head))))))) | exact .tail (.tail (.tail (.tail (.tail (.tail (.tail (.tail (.tail .head)))))))) | exact .tail (.tail (.tail (.tail (.tail (.tail (.tail (.tail (.tail (.tail .head))))))))) | exact .tail (.tail (.tail (.tail (.tail (.tail (.tail (.tail (.tail (.tail (.tail .head)))))))))) | exact .tail (.tail (.tail (.tail (.tail (.tail (.tail (.tail (.tail (.tail (.tail (.tail .head))))))))))) | exact .tail (.tail (.tail (.tail (.tail (.tail (.tail (.tail (.tail (.tail (.tail (.tail (.tail .head)))))))))))))) ?_; refine t_cmp ?_
    refine e_sieve_list ts (fun t => xs.contains ((k + size - t) % size)) (fun lo => ∃ tv, lo = [none, tv, none, none, none]) (fun _ _ l => l) [none, none, none, none, none] (cl := [("some", c'.L + 1), ("size", c'.L + 3), ("k", c1.L + 1)]) ok1 ?clos1 rfl (by (exact fun _ => look_none (by simp))) (by (exact names_ok (by with_unfolding_all rfl))) (fun L => Own.none (by with_unfolding_all rfl)) (by omega) ⟨none, rfl⟩ ?_
    case clos1 => rw [he1, he]; with_unfolding_all rfl
    with_reducible refine n_cell ok1 hN1 nm_l_widened_c0_turns hc_turns (by (first | assumption | (refine At.mem ?_; (repeat (first | assumption | exact List.mem_cons_self | refine List.mem_cons_of_mem _ ?_))))) ?_
    refine ⟨_, rfl, .inl (by (repeat (first | assumption | exact List.mem_cons_self | refine List.mem_cons_of_mem _ ?_))), ?_, fun acc2 => ?_⟩
    · intro it2 acc2 c2 ok2 he2 hx2 o2 t v2 ys2 lo2 ht ⟨tv, hL2⟩
      subst hL2
      have hN2 : c2.env.scope.names = ns_l_widened_c1 := by rw [he2, he1, he]; with_unfolding_all rfl
      have hc_k : c2.env.cells.lookup (Str.ofString "k") = some (c1.L + 1) := by rw [he2, he1, he]; with_unfolding_all rfl
      have hc_some : c2.env.cells.lookup (Str.ofString "some") = some (c'.L + 1) := by rw [he2, he1, he]; with_unfolding_all rfl
      have hc_size : c2.env.cells.lookup (Str.ofString "size") = some (c'.L + 3) := by rw [he2, he1, he]; with_unfolding_all rfl
      with_reducible refine n_sto_1 ok2 hN2 nm_l_widened_c1_t ?_; refine t_cmp ?_; refine e_bin ?_; refine e_bin ?_; refine n_cell ok2 hN2 nm_l_widened_c1_k hc_k (by (first | assumption | (refine At.mem ?_; (repeat (first | assumption | exact List.mem_cons_self | refine List.mem_cons_of_mem _ ?_))))) ?_; refine n_loc_1 ok2 hN2 nm_l_widened_c1_t ?_
      (first | with_reducible refine b_sub ?_ | with_reducible refine f_sub ?_ | with_reducible refine f_subi (by (first | assumption | decide | omega | (simp; done) | (simp; omega))) ?_)
      with_reducible refine n_cell ok2 hN2 nm_l_widened_c1_size hc_size (by (first | assumption | (refine At.mem ?_; (repeat (first | assumption | exact List.mem_cons_self | refine List.mem_cons_of_mem _ ?_))))) ?_
      (first | with_reducible refine b_mod (by (first | assumption | decide | omega | (simp; done) | (simp; omega))) ?_ | with_reducible refine f_mod (by (first | assumption | decide | omega | (simp; done) | (simp; omega))) ?_)
      with_reducible refine n_cell ok2 hN2 nm_l_widened_c1_some hc_some (by (first | assumption | (refine At.mem ?_; (repeat (first | assumption | exact List.mem_cons_self | refine List.mem_cons_of_mem _ ?_))))) ?_; refine c_inn (by (first | assumption | (refine IsL.mem ?_; (repeat (first | assumption | exact List.mem_cons_self | refine List.mem_cons_of_mem _ ?_))))) (fmod_sub (htt t ht)) ?_; refine t_bool ?_
      refine ⟨rfl, ⟨_, rfl⟩, none, List.Sublist.refl _, fun _ => ?_⟩
      with_reducible refine n_loc_1 ok2 hN2 nm_l_widened_c1_t ?_
      exact ⟨rfl, ⟨_, rfl⟩, rfl⟩
    with_reducible refine e_list ?_; refine a_nil ?_
    refine ⟨by (first | assumption | decide | omega | (simp; done) | (simp; omega)), fun (ad1 : Addr) => ?_⟩
    with_reducible refine c_nenil ok1 (by omega) (by (first | assumption | (refine IsL.mem ?_; (repeat (first | assumption | exact List.mem_cons_self | refine List.mem_cons_of_mem _ ?_))))) (by (first | assumption | (refine IsL.mem ?_; (repeat (first | assumption | exact List.mem_cons_self | refine List.mem_cons_of_mem _ ?_))))) ?_; refine t_bool ?_
    refine ⟨rfl, rfl, some (.int k), by (repeat (first | exact List.Sublist.refl _ | with_reducible refine List.Sublist.cons_cons _ ?_ | refine List.Sublist.cons _ ?_)), fun _ => ?_⟩
    with_reducible refine n_cell ok1 hN1 nm_l_widened_c0_k hc_k (by (first | assumption | (refine At.mem ?_; (repeat (first | assumption | exact List.mem_cons_self | refine List.mem_cons_of_mem _ ?_))))) ?_
    exact ⟨rfl, rfl, rfl⟩
  with_reducible refine a_nil ?_
  have hf : ((List.range size).filter fun k => !decide ((ts.filter fun t => xs.contains ((k + size - t) % size)) = [])).length ≤ size := by
    have := List.length_filter_le (fun k => !decide ((ts.filter fun t => xs.contains ((k + size - t) % size)) = [])) (List.range size)
    rwa [List.length_range] at this
  with_reducible refine k_lenn (by (first | assumption | (refine IsL.mem ?_; (repeat (first | assumption | exact List.mem_cons_self | refine List.mem_cons_of_mem _ ?_))))) (by omega) ?_; refine then_ret ?_
  exact ⟨led, by (repeat (first | exact List.Sublist.refl _ | with_reducible refine List.Sublist.cons_cons _ ?_ | refine List.Sublist.cons _ ?_)), h⟩
end
section
variable {prog : Program} {w : World} {c : Cx} {n : Nat} {lo : Lo} {led led' : Led} {R : AV → Lo → Led → Prop}
theorem WpS_drop {t : Sem Flow} {R : AF → Lo → Led → Prop} (h : WpS prog w c t (fun f lo led => ∃ l, l.Sublist led ∧ R f lo l) lo led) : WpS prog w c t R lo led := Wp_drop h
noncomputable abbrev hueF (a b : Int) : UInt64 := Float64.ofFrac (decide (a < 0) != decide (b < 0)) a.natAbs b.natAbs
noncomputable def hueI (h : UInt64) : Int := match Float64.decode (Float64.mul h f6) with | .fin sg m e => Float64.truncOf sg m e | _ => 0
noncomputable def hueOk (h : UInt64) : Bool := !Float64.isInf h && (match Float64.decode (Float64.mul h f6) with | .fin sg m e => !Float64.isInf (Float64.ofInt (Float64.truncOf sg m e)) | _ => false)
noncomputable def colour (size k : Nat) : UInt64 × UInt64 × UInt64 := hsvOut (hueF k size) (hueI (hueF k size))
theorem hueOk_fin {h : UInt64} (e : hueOk h = true) : ∃ sg m x, Float64.decode (Float64.mul h f6) = .fin sg m x ∧ Float64.isInf (Float64.ofInt (Float64.truncOf sg m x)) = false ∧ hueI h = Float64.truncOf sg m x ∧ Float64.isInf h = false := by
  unfold hueOk at e
  unfold hueI
  cases hd : Float64.decode (Float64.mul h f6) with
  | fin sg m x => rw [hd] at e; simp only [Bool.and_eq_true, Bool.not_eq_true'] at e; exact ⟨sg, m, x, rfl, e.2, rfl, e.1⟩
  | _ => rw [hd] at e; simp at e
theorem hues6 : ((List.range 12).all fun k => hueOk (hueF k (6 : Nat))) = true := by decide +kernel
theorem hues8 : ((List.range 16).all fun k => hueOk (hueF k (8 : Nat))) = true := by decide +kernel
theorem hues12 : ((List.range 24).all fun k => hueOk (hueF k (12 : Nat))) = true := by decide +kernel
theorem hues {size k : Nat} (hs : size = 6 ∨ size = 8 ∨ size = 12) (hk : k < 2 * size) : hueOk (hueF k size) = true := by
  rcases hs with rfl | rfl | rfl
  · exact List.all_eq_true.mp hues6 k (List.mem_range.mpr hk)
  · exact List.all_eq_true.mp hues8 k (List.mem_range.mpr hk)
  · exact List.all_eq_true.mp hues12 k (List.mem_range.mpr hk)
noncomputable abbrev f16 : UInt64 := Float64.ofInt 16
noncomputable def greyStep (size : Nat) (s : UInt64 × UInt64 × UInt64) (k : Nat) : UInt64 × UInt64 × UInt64 :=
  (Float64.add s.1 (Float64.div (colour size k).1 f16), Float64.add s.2.1 (Float64.div (colour size k).2.1 f16), Float64.add s.2.2 (Float64.div (colour size k).2.2 f16))
noncomputable def greyOf (size : Nat) (xs : List Nat) : UInt64 × UInt64 × UInt64 := xs.foldl (greyStep size) (f0, f0, f0)
noncomputable def greyOk (size : Nat) (xs : List Nat) : Prop := eqF (min3 (greyOf size xs).1 (greyOf size xs).2.1 (greyOf size xs).2.2) (max3 (greyOf size xs).1 (greyOf size xs).2.1 (greyOf size xs).2.2) = true
theorem f_grey {ls : Addr} {xs : List Nat} {size : Nat} (ok : c.Ok w (n + 7)) (hs : size = 6 ∨ size = 8 ∨ size = 12) (hxs : ∀ k ∈ xs, k < size) (hl : (ls, natsO xs) ∈ led) (hg : greyOk size xs) (h : R (.bool true) lo led) :
    Call prog w c (.ref 203) [.ref ls, .int size] R lo led := by
  refine Call_drop ?_
  refine call_fn0 (fd := ?fd) (fo := ?fo) (body := ?bd) (n := n + 6) (pn := ["sums", "size"]) [some (.ref ls), some (.int size), none, none, none, none, none, none, none, none, none] ok ?hK ?hd ?hcd ?hbody ?hclo ?hgl ?hbl ?hb ?hkind ?hnd ?hlo ?hcl ?main ?e1 ?e2 ?e3
  (case hK | hd | hbody | hcd | hclo | hgl | hbl | hkind => with_unfolding_all rfl); (case hnd => with_unfolding_all decide); (case hlo => with_unfolding_all rfl); (case hcl => intro L; with_unfolding_all rfl); (case e1 | e2 | e3 => with_unfolding_all rfl)
  case hb => intro vs hl; obtain ⟨a, b, rfl⟩ := len2 hl; with_unfolding_all rfl
  case main =>
  intro c' ok' he hx
  have hN : c'.env.scope.names = nmOf 203 w := by rw [he]; with_unfolding_all rfl
  clear he
  have i16 : Float64.isInf (Float64.ofInt 16) = false := by decide +kernel
  have z16 : Float64.isZero (Float64.ofInt 16) = false := by decide +kernel
  have s0 : (size : Int) ≠ 0 := by omega
  with_reducible refine s_ca ?_; refine e_float ?_; refine n_sto_2 ok' hN (nm_l_grey_reds _) ?_; refine s_ca ?_; refine e_float ?_; refine n_sto_3 ok' hN (nm_l_grey_greens _) ?_; refine s_ca ?_; refine e_float ?_; refine n_sto_4 ok' hN (nm_l_grey_blues _) ?_; refine s_cons ?_
  refine s_forn_list ok' ls (xs.map fun (x : Nat) => .int x) (fun i lo led' => ∃ kv rv gv bv, lo = [some (.ref ls), some (.int size), some (.float (greyOf size (xs.take i)).1), some (.float (greyOf size (xs.take i)).2.1), some (.float (greyOf size (xs.take i)).2.2), kv, rv, gv, bv, none, none] ∧ led' = led) ?_ ?_ ?_ ?_
  · with_reducible refine n_loc_0 ok' hN (nm_l_grey_sums _) ?_
    exact ⟨rfl, .inl (by (repeat (first | assumption | exact List.mem_cons_self | refine List.mem_cons_of_mem _ ?_))), none, none, none, none, rfl, rfl⟩
  · rintro i lo led' hi ⟨kv, rv, gv, bv, rfl, rfl⟩
    exact .inl (by (repeat (first | assumption | exact List.mem_cons_self | refine List.mem_cons_of_mem _ ?_)))
  · rintro i v lo led' hv ⟨kv, rv, gv, bv, rfl, rfl⟩
    obtain ⟨k, hk', rfl⟩ : ∃ k, xs[i]? = some k ∧ AV.int ((k : Nat) : Int) = v := by
      rw [List.getElem?_map] at hv; exact Option.map_eq_some_iff.mp hv
    have hks := hxs k (List.mem_of_getElem? hk')
    obtain ⟨sg, m, x, hd, hi, hI, hinf⟩ := hueOk_fin (hues hs (k := k) (by omega))
    have e : greyOf size (xs.take (i + 1)) = greyStep size (greyOf size (xs.take i)) k := by rw [take_succ' hk']; unfold greyOf; rw [List.foldl_append]; rfl
    rw [e]
    generalize greyOf size (xs.take i) = s
    with_reducible refine n_sto_5 ok' hN (nm_l_grey_k _) ?_
    refine WpS_drop ?_
    with_reducible refine s_cons ?_; refine s_asgt3 ok' ?_; refine e_cg ok' hN (nm_l_grey_hsv_to_rgb _) (gl_hsv_to_rgb _) (keep_hsv_to_rgb _) ?_; refine a_3 ?_; refine e_bin ?_; refine n_loc_5 ok' hN (nm_l_grey_k _) ?_; refine n_loc_1 ok' hN (nm_l_grey_size _) ?_
    (first | with_reducible refine f_div (by (first | assumption | decide | omega | (simp; done) | (simp; omega))) ?_ | with_reducible refine f_divi (by (first | assumption | decide | omega | (simp; done) | (simp; omega))) (by (first | assumption | decide | omega | (simp; done) | (simp; omega))) ?_ | with_reducible refine b_divii (by (first | assumption | decide | omega | (simp; done) | (simp; omega))) (by (first | assumption | decide | omega | (simp; done) | (simp; omega))) ?_)
    with_reducible refine e_float ?_; refine e_float ?_
    refine f_hsv (n := n + 1) ok' hd hi (fun (ad1 : Addr) => ?_)
    rw [← hI]
    refine ⟨_, _, _, _, rfl, by (repeat (first | assumption | exact List.mem_cons_self | refine List.mem_cons_of_mem _ ?_)), ?_⟩
    with_reducible refine n_sto_6 ok' hN (nm_l_grey_red _) ?_; refine n_sto_7 ok' hN (nm_l_grey_green _) ?_; refine n_sto_8 ok' hN (nm_l_grey_blue _) ?_; refine then_next ?_; refine s_ca ?_; refine e_bin ?_; refine n_loc_2 ok' hN (nm_l_grey_reds _) ?_; refine e_bin ?_; refine n_loc_6 ok' hN (nm_l_grey_red _) ?_; refine e_int ?_
    (first | with_reducible refine f_div (by (first | assumption | decide | omega | (simp; done) | (simp; omega))) ?_ | with_reducible refine f_divi (by (first | assumption | decide | omega | (simp; done) | (simp; omega))) (by (first | assumption | decide | omega | (simp; done) | (simp; omega))) ?_ | with_reducible refine b_divii (by (first | assumption | decide | omega | (simp; done) | (simp; omega))) (by (first | assumption | decide | omega | (simp; done) | (simp; omega))) ?_)
    (first | with_reducible refine b_add ?_ | with_reducible refine f_add ?_ | with_reducible refine b_sadd (by (first | exact rfl | exact lit_dot | exact lit_quote | exact lit_back | exact lit_nl | exact lit_cr | exact lit_crlf | exact lit_empty | exact lit_white)) (by (first | exact rfl | exact lit_dot | exact lit_quote | exact lit_back | exact lit_nl | exact lit_cr | exact lit_crlf | exact lit_empty | exact lit_white)) (by (first | assumption | decide | omega | (simp; done) | (simp; omega))) ?_)
    with_reducible refine n_sto_2 ok' hN (nm_l_grey_reds _) ?_; refine s_ca ?_; refine e_bin ?_; refine n_loc_3 ok' hN (nm_l_grey_greens _) ?_; refine e_bin ?_; refine n_loc_7 ok' hN (nm_l_grey_green _) ?_; refine e_int ?_
    (first | with_reducible refine f_div (by (first | assumption | decide | omega | (simp; done) | (simp; omega))) ?_ | with_reducible refine f_divi (by (first | assumption | decide | omega | (simp; done) | (simp; omega))) (by (first | assumption | decide | omega | (simp; done) | (simp; omega))) ?_ | with_reducible refine b_divii (by (first | assumption | decide | omega | (simp; done) | (simp; omega))) (by (first | assumption | decide | omega | (simp; done) | (simp; omega))) ?_)
    (first | with_reducible refine b_add ?_ | with_reducible refine f_add ?_ | with_reducible refine b_sadd (by (first | exact rfl | exact lit_dot | exact lit_quote | exact lit_back | exact lit_nl | exact lit_cr | exact lit_crlf | exact lit_empty | exact lit_white)) (by (first | exact rfl | exact lit_dot | exact lit_quote | exact lit_back | exact lit_nl | exact lit_cr | exact lit_crlf | exact lit_empty | exact lit_white)) (by (first | assumption | decide | omega | (simp; done) | (simp; omega))) ?_)
    with_reducible refine n_sto_3 ok' hN (nm_l_grey_greens _) ?_; refine s_ca ?_; refine e_bin ?_; refine n_loc_4 ok' hN (nm_l_grey_blues _) ?_; refine e_bin ?_; refine n_loc_8 ok' hN (nm_l_grey_blue _) ?_; refine e_int ?_
    (first | with_reducible refine f_div (by (first | assumption | decide | omega | (simp; done) | (simp; omega))) ?_ | with_reducible refine f_divi (by (first | assumption | decide | omega | (simp; done) | (simp; omega))) (by (first | assumption | decide | omega | (simp; done) | (simp; omega))) ?_ | with_reducible refine b_divii (by (first | assumption | decide | omega | (simp; done) | (simp; omega))) (by (first | assumption | decide | omega | (simp; done) | (simp; omega))) ?_)
    (first | with_reducible refine b_add ?_ | with_reducible refine f_add ?_ | with_reducible refine b_sadd (by (first | exact rfl | exact lit_dot | exact lit_quote | exact lit_back | exact lit_nl | exact lit_cr | exact lit_crlf | exact lit_empty | exact lit_white)) (by (first | exact rfl | exact lit_dot | exact lit_quote | exact lit_back | exact lit_nl | exact lit_cr | exact lit_crlf | exact lit_empty | exact lit_white)) (by (first | assumption | decide | omega | (simp; done) | (simp; omega))) ?_)
    with_reducible refine n_sto_4 ok' hN (nm_l_grey_blues _) ?_; refine s_nil ?_
    exact ⟨_, List.sublist_cons_self _ _, _, _, _, _, rfl, rfl⟩
  · rintro lo led' ⟨kv, rv, gv, bv, rfl, rfl⟩
    rw [List.length_map, List.take_length]
    refine then_next ?_
    with_reducible refine s_cr ?_; refine e_cmp ?_; refine e_sub ?_; refine e_cg ok' hN (nm_l_grey_rgb_to_hls _) (gl_rgb_to_hls _) (keep_rgb_to_hls _) ?_; refine a_3 ?_; refine n_loc_2 ok' hN (nm_l_grey_reds _) ?_; refine n_loc_3 ok' hN (nm_l_grey_greens _) ?_; refine n_loc_4 ok' hN (nm_l_grey_blues _) ?_
    refine f_hls (n := n + 1) ok' hg (fun (ad2 : Addr) (lv : UInt64) => ?_)
    with_reducible refine e_int ?_
    (first | with_reducible refine g_nats (by (first | assumption | (refine IsL.mem ?_; (repeat (first | assumption | exact List.mem_cons_self | refine List.mem_cons_of_mem _ ?_))))) (by (first | assumption | decide | omega | (simp; done) | (simp; omega))) (by (first | assumption | decide | omega | (simp; done) | (simp; omega))) (by (first | assumption | decide | omega | (simp; done) | (simp; omega))) ?_ | with_reducible refine g_ints (by (first | assumption | (refine IsL.mem ?_; (repeat (first | assumption | exact List.mem_cons_self | refine List.mem_cons_of_mem _ ?_))))) (by (first | assumption | decide | omega | (simp; done) | (simp; omega))) (by (first | assumption | decide | omega | (simp; done) | (simp; omega))) (by (first | assumption | decide | omega | (simp; done) | (simp; omega))) ?_ | refine g_tup (by (repeat (first | assumption | exact List.mem_cons_self | refine List.mem_cons_of_mem _ ?_))) (by (first | assumption | decide | omega | (simp; done) | (simp; omega))) (by (first | assumption | decide | omega | (simp; done) | (simp; omega))) rfl ?_)
    with_reducible refine e_float ?_
    (first | with_reducible refine c_eq ?_ | with_reducible refine f_eq ?_ | with_reducible refine c_seq (by (first | exact rfl | exact lit_dot | exact lit_quote | exact lit_back | exact lit_nl | exact lit_cr | exact lit_crlf | exact lit_empty | exact lit_white)) (by (first | exact rfl | exact lit_dot | exact lit_quote | exact lit_back | exact lit_nl | exact lit_cr | exact lit_crlf | exact lit_empty | exact lit_white)) ?_)
    refine ⟨led', List.sublist_cons_self _ _, ?_⟩
    have e : (Float64.cmp f0 f0 == some Ordering.eq) = true := by decide +kernel
    show R (.bool (Float64.cmp f0 f0 == some Ordering.eq)) lo _
    rw [e]
    exact h
end
section
variable {prog : Program} {w : World} {c : Cx} {n : Nat} {lo : Lo} {led led' : Led} {R : AV → Lo → Led → Prop}
theorem t_and2 {x y : Expr} {pos : Pos} {whole : Sem Value} {R : Bool → Lo → Led → Prop} (h : Wp prog w c (isTrue x c.env (eval x c.env)) (fun b lo₁ led₁ => if b = true then Wp prog w c (isTrue y c.env (eval y c.env)) R lo₁ led₁ else R false lo₁ led₁) lo led) :
    Wp prog w c (isTrue (.BoolOp .And [x, y] pos) c.env whole) R lo led := by
  intro fr s Q E rep kk
  refine isTrue_and (h fr s _ E rep ?_)
  rintro b lo₁ led₁ h₁ t₁ hb rep₁
  cases b with
  | false => exact kk false _ _ _ _ hb rep₁
  | true =>
    rw [if_pos rfl]
    rw [if_pos rfl] at hb
    refine isTrue_and (hb fr _ _ E rep₁ ?_)
    rintro b lo₂ led₂ h₂ t₂ hb rep₂
    cases b with
    | false => exact kk false _ _ _ _ hb rep₂
    | true => exact isTrue_and_nil (kk true _ _ _ _ hb rep₂)
noncomputable def sumsK (often : List Int) (size : Nat) : List Nat := (List.range size).filter fun k => decide (0 < often.getD k 0)
noncomputable def turnsK (S : List Nat) (size : Nat) : List Nat := (List.range size).filter fun t => decide ((S.filter fun k => !S.contains ((k + t) % size)) = [])
noncomputable def KneserOk (S T xs ys : List Nat) (size : Nat) : Prop :=
  ((widened xs T size : Int) + widened ys T size - T.length ≤ S.length) ∧ (S.length < xs.length + ys.length → (S.length : Int) = (widened xs T size : Int) + widened ys T size - T.length) ∧ (T.length = 1 ∨ greyOk size S)
theorem f_kneser {lf la lb : Addr} {often : List Int} {xs ys : List Nat} {size : Nat} (ok : c.Ok w (n + 14)) (hs : size = 6 ∨ size = 8 ∨ size = 12) (hf : often.length = size) (hx : xs.length ≤ 12) (hy : ys.length ≤ 12) (hlf : (lf, intsO often) ∈ led) (ha : (la, natsO xs) ∈ led) (hb : (lb, natsO ys) ∈ led)
    (hk : KneserOk (sumsK often size) (turnsK (sumsK often size) size) xs ys size) (h : R (.bool true) lo led) :
    Call prog w c (.ref 208) [.ref lf, .ref la, .ref lb, .int size] R lo led := by
  have hs0 : 0 < size := by omega
  have hs2 : size ≤ 12 := by omega
  refine Call_drop ?_
  refine call_fn (fd := ?fd) (fo := ?fo) (body := ?bd) (n := n + 13) (pn := ["often", "ones", "others", "size"]) [none, some (.ref la), some (.ref lb), none, none, none, none, none, none, none, none] (fun L => [(L + 3, .cell none), (L + 2, .cell (some (.int size))), (L + 1, .cell (some (.ref lf)))]) ok ?hK ?hd ?hcd ?hbody ?hclo ?hgl ?hbl ?hb ?hkind ?hnd ?hlo ?hcl ?main ?e1 ?e2 ?e3
  (case hK | hd | hbody | hcd | hclo | hgl | hbl | hkind => with_unfolding_all rfl); (case hnd => with_unfolding_all decide); (case hlo => with_unfolding_all rfl); (case hcl => intro L; with_unfolding_all rfl); (case e1 | e2 | e3 => with_unfolding_all rfl)
  case hb => intro vs hl; obtain ⟨a, b, d, e, rfl⟩ := len4 hl; with_unfolding_all rfl
  case main =>
  intro c' ok' he hx'
  have hN : c'.env.scope.names = nmOf 208 w := by rw [he]; with_unfolding_all rfl
  have hc_often : c'.env.cells.lookup (Str.ofString "often") = some (c'.L + 1) := by rw [he]; with_unfolding_all rfl
  have hc_size : c'.env.cells.lookup (Str.ofString "size") = some (c'.L + 2) := by rw [he]; with_unfolding_all rfl
  have hc_sums : c'.env.cells.lookup (Str.ofString "sums") = some (c'.L + 3) := by rw [he]; with_unfolding_all rfl
  show WpS prog w c' _ _ _ ((c'.L + 3, .cell none) :: (c'.L + 2, .cell (some (.int size))) :: (c'.L + 1, .cell (some (.ref lf))) :: led)
  with_reducible refine s_cons ?_
  refine s_asg (hs := by rw [he]; with_unfolding_all rfl) ?_
  refine e_sieve_range size (fun k => decide (0 < often.getD k 0)) (fun lo => ∃ kv, lo = [none, kv, none]) (fun _ _ l => l) [none, none, none] (cl := [("often", c'.L + 1)]) ok' ?clos rfl (by (exact fun _ => look_none (by simp))) (by (exact names_ok (by with_unfolding_all rfl))) (fun L => Own.none (by with_unfolding_all rfl)) (by omega) ⟨none, rfl⟩ ?_
  case clos => rw [he]; with_unfolding_all rfl
  with_reducible refine e_ct ok' hN (nm_l_kneser_range _) (bl_range _) ?_; refine a_1 ?_; refine n_cell ok' hN (nm_l_kneser_size _) hc_size (by (first | assumption | (refine At.mem ?_; (repeat (first | assumption | exact List.mem_cons_self | refine List.mem_cons_of_mem _ ?_))))) ?_
  (with_reducible refine k_range (fun _ => ?_))
  refine ⟨_, _, rfl, rfl, ?_, fun dS => ?_⟩
  · intro it acc c1 ok1 he1 hx1 o k v ys' lo hk' ⟨kv, hL⟩
    subst hL
    have hN1 : c1.env.scope.names = ns_l_kneser_c0 := by rw [he1, he]; with_unfolding_all rfl
    have hc_often : c1.env.cells.lookup (Str.ofString "often") = some (c'.L + 1) := by rw [he1, he]; with_unfolding_all rfl
    have e1 : ((k : Int)).toNat < often.length := by omega
    have e2 : often.length < 2 ^ 62 := by omega
    with_reducible refine n_sto_1 ok1 hN1 nm_l_kneser_c0_k ?_; refine t_cmp ?_; refine e_sub ?_; refine n_cell ok1 hN1 nm_l_kneser_c0_often hc_often (by (first | assumption | (refine At.mem ?_; (repeat (first | assumption | exact List.mem_cons_self | refine List.mem_cons_of_mem _ ?_))))) ?_; refine n_loc_1 ok1 hN1 nm_l_kneser_c0_k ?_
    (first | with_reducible refine g_nats (by (first | assumption | (refine IsL.mem ?_; (repeat (first | assumption | exact List.mem_cons_self | refine List.mem_cons_of_mem _ ?_))))) (by (first | assumption | decide | omega | (simp; done) | (simp; omega))) (by (first | assumption | decide | omega | (simp; done) | (simp; omega))) (by (first | assumption | decide | omega | (simp; done) | (simp; omega))) ?_ | with_reducible refine g_ints (by (first | assumption | (refine IsL.mem ?_; (repeat (first | assumption | exact List.mem_cons_self | refine List.mem_cons_of_mem _ ?_))))) (by (first | assumption | decide | omega | (simp; done) | (simp; omega))) (by (first | assumption | decide | omega | (simp; done) | (simp; omega))) (by (first | assumption | decide | omega | (simp; done) | (simp; omega))) ?_ | refine g_tup (by (repeat (first | assumption | exact List.mem_cons_self | refine List.mem_cons_of_mem _ ?_))) (by (first | assumption | decide | omega | (simp; done) | (simp; omega))) (by (first | assumption | decide | omega | (simp; done) | (simp; omega))) rfl ?_)
    with_reducible refine e_int ?_
    (with_reducible refine c_gt ?_)
    with_reducible refine t_bool ?_
    refine ⟨rfl, ⟨_, rfl⟩, none, List.Sublist.refl _, fun _ => ?_⟩
    with_reducible refine n_loc_1 ok1 hN1 nm_l_kneser_c0_k ?_
    exact ⟨rfl, ⟨_, rfl⟩, rfl⟩
  with_reducible refine n_stoc ok' hN (nm_l_kneser_sums _) hc_sums (by (first | assumption | exact .head | exact .tail .head | exact .tail (.tail .head) | exact .tail (.tail (.tail .head)) | exact .tail (.tail (.tail (.tail .head))) | exact .tail (.tail (.tail (.tail (.tail .head)))) | exact .tail (.tail (.tail (.tail (.tail (.tail .head))))) | exact .tail (.tail (.tail (.tail (.tail (.tail (.tail .head)))))) | exact .tail (.tail (.tail (.tail (.tail (.tail (.tail (.tail .head))))))) | exact .tail (.tail (.tail (.tail (.tail (.tail (.tail (.tail (.tail .head)))))))) | exact .tail (.tail (.tail (.tail (.tail (.tail (.tail (.tail (.tail (.tail .head))))))))) | exact .tail (.tail (.tail (.tail (.tail (.tail (.tail (.tail (.tail (.tail (.tail .head)))))))))) | exact .tail (.tail (.tail (.tail (.tail (.tail (.tail (.tail (.tail (.tail (.tail (.tail .head))))))))))) | exact .tail (.tail (.tail (.tail (.tail (.tail (.tail (.tail (.tail (.tail (.tail (.tail (.tail .head)))))))))))))) ?_; refine then_next ?_
  show WpS prog w c' _ _ _ ((dS, natsO (sumsK often size)) :: (c'.L + 3, .cell (some (.ref dS))) :: (c'.L + 2, .cell (some (.int size))) :: (c'.L + 1, .cell (some (.ref lf))) :: led)
  have hS : ∀ k ∈ sumsK often size, k < size := fun k hk => List.mem_range.mp (List.mem_filter.mp hk).1
  have hSl : (sumsK often size).length ≤ size := by
    have := List.length_filter_le (fun k => decide (0 < often.getD k 0)) (List.range size)
    rwa [List.length_range] at this
  generalize sumsK often size = S at hk hS hSl ⊢
  with_reducible refine s_cons ?_
  refine s_sieve_range size (fun t => decide ((S.filter fun k => !S.contains ((k + t) % size)) = [])) (fun lo => lo = [none, none, none, none]) (fun L v l => (L + 1, .cell v) :: l) [none, none, none, none] (cl := [("sums", c'.L + 3), ("size", c'.L + 2)]) ok' ?hsw ?clos1 rfl (by (exact fun _ => look_none (by simp))) (by (exact names_ok (by with_unfolding_all rfl))) (fun L => Own.one (by with_unfolding_all rfl)) (by omega) rfl ?_
  case hsw => rw [he]; with_unfolding_all rfl
  case clos1 => rw [he]; with_unfolding_all rfl
  with_reducible refine e_ct ok' hN (nm_l_kneser_range _) (bl_range _) ?_; refine a_1 ?_; refine n_cell ok' hN (nm_l_kneser_size _) hc_size (by (first | assumption | (refine At.mem ?_; (repeat (first | assumption | exact List.mem_cons_self | refine List.mem_cons_of_mem _ ?_))))) ?_
  (with_reducible refine k_range (fun _ => ?_))
  refine ⟨_, _, rfl, rfl, ?_, fun dT => ?_⟩
  · intro it acc c1 ok1 he1 hx1 o t v ys' lo ht hL
    subst hL
    have hN1 : c1.env.scope.names = ns_l_kneser_c1 := by rw [he1, he]; with_unfolding_all rfl
    have hc_t : c1.env.cells.lookup (Str.ofString "t") = some (c1.L + 1) := by rw [he1, he]; with_unfolding_all rfl
    have hc_size : c1.env.cells.lookup (Str.ofString "size") = some (c'.L + 2) := by rw [he1, he]; with_unfolding_all rfl
    have hc_sums : c1.env.cells.lookup (Str.ofString "sums") = some (c'.L + 3) := by rw [he1, he]; with_unfolding_all rfl
    with_reducible refine n_stoc ok1 hN1 nm_l_kneser_c1_t hc_t (by (first | assumption | exact .head | exact .tail .head | exact .tail (.tail .head) | exact .tail (.tail (.tail .head)) | exact .tail (.tail (.tail (.tail .head))) | exact .tail (.tail (.tail (.tail (.tail .head)))) | exact .tail (.tail (.tail (.tail (.tail (.tail .head))))) | exact .tail (.tail (.tail (.tail (.tail (.tail (.tail .head)))))) | exact .tail (.tail (.tail (.tail (.tail (.tail (.tail (.tail .head))))))) | exact .tail (.tail (.tail (.tail (.tail (.tail (.tail (.tail (.tail .head)))))))) | exact .tail (.tail (.tail (.tail (.tail (.tail (.tail (.tail (.tail (.tail .head))))))))) | exact .tail (.tail (.tail (.tail (.tail (.tail (.tail (.tail (.tail (.tail (.tail .head)))))))))) | exact .tail (.tail (.tail (.tail (.tail (.tail (.tail (.tail (.tail (.tail (.tail (.tail .head))))))))))) | exact .tail (.tail (.tail (.tail (.tail (.tail (.tail (.tail (.tail (.tail (.tail (.tail (.tail .head)))))))))))))) ?_; refine t_cmp ?_
    refine e_sieve_list S (fun k => !S.contains ((k + t) % size)) (fun lo => ∃ kv, lo = [none, kv, none, none, none]) (fun _ _ l => l) [none, none, none, none, none] (cl := [("t", c1.L + 1), ("sums", c'.L + 3), ("size", c'.L + 2)]) ok1 ?clos2 rfl (by (exact fun _ => look_none (by simp))) (by (exact names_ok (by with_unfolding_all rfl))) (fun L => Own.none (by with_unfolding_all rfl)) (by omega) ⟨none, rfl⟩ ?_
    case clos2 => rw [he1, he]; with_unfolding_all rfl
    with_reducible refine n_cell ok1 hN1 nm_l_kneser_c1_sums hc_sums (by (first | assumption | (refine At.mem ?_; (repeat (first | assumption | exact List.mem_cons_self | refine List.mem_cons_of_mem _ ?_))))) ?_
    refine ⟨_, rfl, .inl (by (repeat (first | assumption | exact List.mem_cons_self | refine List.mem_cons_of_mem _ ?_))), ?_, fun acc2 => ?_⟩
    · intro it2 acc2 c2 ok2 he2 hx2 o2 k v2 ys2 lo2 hk' ⟨tv, hL2⟩
      subst hL2
      have hN2 : c2.env.scope.names = ns_l_kneser_c2 := by rw [he2, he1, he]; with_unfolding_all rfl
      have hc_t : c2.env.cells.lookup (Str.ofString "t") = some (c1.L + 1) := by rw [he2, he1, he]; with_unfolding_all rfl
      have hc_size : c2.env.cells.lookup (Str.ofString "size") = some (c'.L + 2) := by rw [he2, he1, he]; with_unfolding_all rfl
      have hc_sums : c2.env.cells.lookup (Str.ofString "sums") = some (c'.L + 3) := by rw [he2, he1, he]; with_unfolding_all rfl
      with_reducible refine n_sto_1 ok2 hN2 nm_l_kneser_c2_k ?_; refine t_cmp ?_; refine e_bin ?_; refine e_bin ?_; refine n_loc_1 ok2 hN2 nm_l_kneser_c2_k ?_; refine n_cell ok2 hN2 nm_l_kneser_c2_t hc_t (by (first | assumption | (refine At.mem ?_; (repeat (first | assumption | exact List.mem_cons_self | refine List.mem_cons_of_mem _ ?_))))) ?_
      (first | with_reducible refine b_add ?_ | with_reducible refine f_add ?_ | with_reducible refine b_sadd (by (first | exact rfl | exact lit_dot | exact lit_quote | exact lit_back | exact lit_nl | exact lit_cr | exact lit_crlf | exact lit_empty | exact lit_white)) (by (first | exact rfl | exact lit_dot | exact lit_quote | exact lit_back | exact lit_nl | exact lit_cr | exact lit_crlf | exact lit_empty | exact lit_white)) (by (first | assumption | decide | omega | (simp; done) | (simp; omega))) ?_)
      with_reducible refine n_cell ok2 hN2 nm_l_kneser_c2_size hc_size (by (first | assumption | (refine At.mem ?_; (repeat (first | assumption | exact List.mem_cons_self | refine List.mem_cons_of_mem _ ?_))))) ?_
      (first | with_reducible refine b_mod (by (first | assumption | decide | omega | (simp; done) | (simp; omega))) ?_ | with_reducible refine f_mod (by (first | assumption | decide | omega | (simp; done) | (simp; omega))) ?_)
      with_reducible refine n_cell ok2 hN2 nm_l_kneser_c2_sums hc_sums (by (first | assumption | (refine At.mem ?_; (repeat (first | assumption | exact List.mem_cons_self | refine List.mem_cons_of_mem _ ?_))))) ?_; refine c_notinn (by (first | assumption | (refine IsL.mem ?_; (repeat (first | assumption | exact List.mem_cons_self | refine List.mem_cons_of_mem _ ?_))))) (fmod_nat k t size) ?_; refine t_bool ?_
      refine ⟨rfl, ⟨_, rfl⟩, none, List.Sublist.refl _, fun _ => ?_⟩
      with_reducible refine n_loc_1 ok2 hN2 nm_l_kneser_c2_k ?_
      exact ⟨rfl, ⟨_, rfl⟩, rfl⟩
    with_reducible refine e_list ?_; refine a_nil ?_
    refine ⟨by (first | assumption | decide | omega | (simp; done) | (simp; omega)), fun (ad1 : Addr) => ?_⟩
    with_reducible refine c_eqnil ok1 (by omega) (by (first | assumption | (refine IsL.mem ?_; (repeat (first | assumption | exact List.mem_cons_self | refine List.mem_cons_of_mem _ ?_))))) (by (first | assumption | (refine IsL.mem ?_; (repeat (first | assumption | exact List.mem_cons_self | refine List.mem_cons_of_mem _ ?_))))) ?_; refine t_bool ?_
    refine ⟨rfl, rfl, some (.int t), by (repeat (first | exact List.Sublist.refl _ | with_reducible refine List.Sublist.cons_cons _ ?_ | refine List.Sublist.cons _ ?_)), fun _ => ?_⟩
    with_reducible refine n_cell ok1 hN1 nm_l_kneser_c1_t hc_t (by (first | assumption | (refine At.mem ?_; (repeat (first | assumption | exact List.mem_cons_self | refine List.mem_cons_of_mem _ ?_))))) ?_
    exact ⟨rfl, rfl, rfl⟩
  with_reducible refine n_sto_5 ok' hN (nm_l_kneser_turns _) ?_; refine then_next ?_
  show WpS prog w c' _ _ _ ((dT, natsO (turnsK S size)) :: (dS, natsO S) :: (c'.L + 3, .cell (some (.ref dS))) :: (c'.L + 2, .cell (some (.int size))) :: (c'.L + 1, .cell (some (.ref lf))) :: led)
  have hT2 : ∀ k ∈ turnsK S size, k ≤ size := fun k hk => Nat.le_of_lt (List.mem_range.mp (List.mem_filter.mp hk).1)
  have hT1 : (turnsK S size).length ≤ 12 := by
    have := List.length_filter_le (fun t => decide ((S.filter fun k => !S.contains ((k + t) % size)) = [])) (List.range size)
    rw [List.length_range] at this
    exact Nat.le_trans this hs2
  generalize turnsK S size = T at hk hT1 hT2 ⊢
  clear he
  obtain ⟨k1, k2, k3⟩ := hk
  have hx1 : xs.length < 2 ^ 62 := by omega
  have hy1 : ys.length < 2 ^ 62 := by omega
  have hS1 : S.length < 2 ^ 62 := by omega
  have hTt : T.length < 2 ^ 62 := by omega
  with_reducible refine s_ca ?_; refine e_bin ?_; refine e_bin ?_; refine e_cg ok' hN (nm_l_kneser_law_widened _) (gl_law_widened _) (keep_law_widened _) ?_; refine a_3 ?_; refine n_loc_1 ok' hN (nm_l_kneser_ones _) ?_; refine n_loc_5 ok' hN (nm_l_kneser_turns _) ?_; refine n_cell ok' hN (nm_l_kneser_size _) hc_size (by (first | assumption | (refine At.mem ?_; (repeat (first | assumption | exact List.mem_cons_self | refine List.mem_cons_of_mem _ ?_))))) ?_
  refine f_widened (n := n + 4) ok' hs0 hs2 hT1 hT2 (by (repeat (first | assumption | exact List.mem_cons_self | refine List.mem_cons_of_mem _ ?_))) (by (repeat (first | assumption | exact List.mem_cons_self | refine List.mem_cons_of_mem _ ?_))) ?_
  with_reducible refine e_cg ok' hN (nm_l_kneser_law_widened _) (gl_law_widened _) (keep_law_widened _) ?_; refine a_3 ?_; refine n_loc_2 ok' hN (nm_l_kneser_others _) ?_; refine n_loc_5 ok' hN (nm_l_kneser_turns _) ?_; refine n_cell ok' hN (nm_l_kneser_size _) hc_size (by (first | assumption | (refine At.mem ?_; (repeat (first | assumption | exact List.mem_cons_self | refine List.mem_cons_of_mem _ ?_))))) ?_
  refine f_widened (n := n + 4) ok' hs0 hs2 hT1 hT2 (by (repeat (first | assumption | exact List.mem_cons_self | refine List.mem_cons_of_mem _ ?_))) (by (repeat (first | assumption | exact List.mem_cons_self | refine List.mem_cons_of_mem _ ?_))) ?_
  (first | with_reducible refine b_add ?_ | with_reducible refine f_add ?_ | with_reducible refine b_sadd (by (first | exact rfl | exact lit_dot | exact lit_quote | exact lit_back | exact lit_nl | exact lit_cr | exact lit_crlf | exact lit_empty | exact lit_white)) (by (first | exact rfl | exact lit_dot | exact lit_quote | exact lit_back | exact lit_nl | exact lit_cr | exact lit_crlf | exact lit_empty | exact lit_white)) (by (first | assumption | decide | omega | (simp; done) | (simp; omega))) ?_)
  with_reducible refine e_cb ok' hN (nm_l_kneser_len _) (bl_len _) ?_; refine a_1 ?_; refine n_loc_5 ok' hN (nm_l_kneser_turns _) ?_
  (first | with_reducible refine k_lenS (by (first | exact rfl | exact lit_dot | exact lit_quote | exact lit_back | exact lit_nl | exact lit_cr | exact lit_crlf | exact lit_empty | exact lit_white)) (by (first | assumption | decide | omega | (simp; done) | (simp; omega))) ?_ | with_reducible refine k_lenn (by (first | assumption | (refine IsL.mem ?_; (repeat (first | assumption | exact List.mem_cons_self | refine List.mem_cons_of_mem _ ?_))))) (by (first | assumption | decide | omega | (simp; done) | (simp; omega))) ?_ | with_reducible refine k_leni (by (first | assumption | (refine IsL.mem ?_; (repeat (first | assumption | exact List.mem_cons_self | refine List.mem_cons_of_mem _ ?_))))) (by (first | assumption | decide | omega | (simp; done) | (simp; omega))) ?_ | ((with_reducible refine k_lens ?h2 ?_); (case h2 => (first | assumption | decide | omega | (simp; done) | (simp; omega))))| with_reducible refine k_len (by (first | assumption | (refine IsL.mem ?_; (repeat (first | assumption | exact List.mem_cons_self | refine List.mem_cons_of_mem _ ?_))))) (by (first | assumption | decide | omega | (simp; done) | (simp; omega))) ?_)
  (first | with_reducible refine b_sub ?_ | with_reducible refine f_sub ?_ | with_reducible refine f_subi (by (first | assumption | decide | omega | (simp; done) | (simp; omega))) ?_)
  with_reducible refine n_sto_6 ok' hN (nm_l_kneser_least _) ?_; refine s_cif ?_; refine t_cmp ?_; refine e_cb ok' hN (nm_l_kneser_len _) (bl_len _) ?_; refine a_1 ?_; refine n_cell ok' hN (nm_l_kneser_sums _) hc_sums (by (first | assumption | (refine At.mem ?_; (repeat (first | assumption | exact List.mem_cons_self | refine List.mem_cons_of_mem _ ?_))))) ?_
  (first | with_reducible refine k_lenS (by (first | exact rfl | exact lit_dot | exact lit_quote | exact lit_back | exact lit_nl | exact lit_cr | exact lit_crlf | exact lit_empty | exact lit_white)) (by (first | assumption | decide | omega | (simp; done) | (simp; omega))) ?_ | with_reducible refine k_lenn (by (first | assumption | (refine IsL.mem ?_; (repeat (first | assumption | exact List.mem_cons_self | refine List.mem_cons_of_mem _ ?_))))) (by (first | assumption | decide | omega | (simp; done) | (simp; omega))) ?_ | with_reducible refine k_leni (by (first | assumption | (refine IsL.mem ?_; (repeat (first | assumption | exact List.mem_cons_self | refine List.mem_cons_of_mem _ ?_))))) (by (first | assumption | decide | omega | (simp; done) | (simp; omega))) ?_ | ((with_reducible refine k_lens ?h2 ?_); (case h2 => (first | assumption | decide | omega | (simp; done) | (simp; omega))))| with_reducible refine k_len (by (first | assumption | (refine IsL.mem ?_; (repeat (first | assumption | exact List.mem_cons_self | refine List.mem_cons_of_mem _ ?_))))) (by (first | assumption | decide | omega | (simp; done) | (simp; omega))) ?_)
  with_reducible refine n_loc_6 ok' hN (nm_l_kneser_least _) ?_
  (with_reducible refine c_lt ?_)
  with_reducible refine t_bool ?_
  refine ite_f (by simpa using k1) ?_
  with_reducible refine s_nil ?_; refine then_next ?_; refine s_cons ?_; refine s_if ?_
  refine t_and2 ?_
  with_reducible refine t_cmp ?_; refine e_cb ok' hN (nm_l_kneser_len _) (bl_len _) ?_; refine a_1 ?_; refine n_cell ok' hN (nm_l_kneser_sums _) hc_sums (by (first | assumption | (refine At.mem ?_; (repeat (first | assumption | exact List.mem_cons_self | refine List.mem_cons_of_mem _ ?_))))) ?_
  (first | with_reducible refine k_lenS (by (first | exact rfl | exact lit_dot | exact lit_quote | exact lit_back | exact lit_nl | exact lit_cr | exact lit_crlf | exact lit_empty | exact lit_white)) (by (first | assumption | decide | omega | (simp; done) | (simp; omega))) ?_ | with_reducible refine k_lenn (by (first | assumption | (refine IsL.mem ?_; (repeat (first | assumption | exact List.mem_cons_self | refine List.mem_cons_of_mem _ ?_))))) (by (first | assumption | decide | omega | (simp; done) | (simp; omega))) ?_ | with_reducible refine k_leni (by (first | assumption | (refine IsL.mem ?_; (repeat (first | assumption | exact List.mem_cons_self | refine List.mem_cons_of_mem _ ?_))))) (by (first | assumption | decide | omega | (simp; done) | (simp; omega))) ?_ | ((with_reducible refine k_lens ?h2 ?_); (case h2 => (first | assumption | decide | omega | (simp; done) | (simp; omega))))| with_reducible refine k_len (by (first | assumption | (refine IsL.mem ?_; (repeat (first | assumption | exact List.mem_cons_self | refine List.mem_cons_of_mem _ ?_))))) (by (first | assumption | decide | omega | (simp; done) | (simp; omega))) ?_)
  with_reducible refine e_bin ?_; refine e_cb ok' hN (nm_l_kneser_len _) (bl_len _) ?_; refine a_1 ?_; refine n_loc_1 ok' hN (nm_l_kneser_ones _) ?_
  (first | with_reducible refine k_lenS (by (first | exact rfl | exact lit_dot | exact lit_quote | exact lit_back | exact lit_nl | exact lit_cr | exact lit_crlf | exact lit_empty | exact lit_white)) (by (first | assumption | decide | omega | (simp; done) | (simp; omega))) ?_ | with_reducible refine k_lenn (by (first | assumption | (refine IsL.mem ?_; (repeat (first | assumption | exact List.mem_cons_self | refine List.mem_cons_of_mem _ ?_))))) (by (first | assumption | decide | omega | (simp; done) | (simp; omega))) ?_ | with_reducible refine k_leni (by (first | assumption | (refine IsL.mem ?_; (repeat (first | assumption | exact List.mem_cons_self | refine List.mem_cons_of_mem _ ?_))))) (by (first | assumption | decide | omega | (simp; done) | (simp; omega))) ?_ | ((with_reducible refine k_lens ?h2 ?_); (case h2 => (first | assumption | decide | omega | (simp; done) | (simp; omega))))| with_reducible refine k_len (by (first | assumption | (refine IsL.mem ?_; (repeat (first | assumption | exact List.mem_cons_self | refine List.mem_cons_of_mem _ ?_))))) (by (first | assumption | decide | omega | (simp; done) | (simp; omega))) ?_)
  with_reducible refine e_cb ok' hN (nm_l_kneser_len _) (bl_len _) ?_; refine a_1 ?_; refine n_loc_2 ok' hN (nm_l_kneser_others _) ?_
  (first | with_reducible refine k_lenS (by (first | exact rfl | exact lit_dot | exact lit_quote | exact lit_back | exact lit_nl | exact lit_cr | exact lit_crlf | exact lit_empty | exact lit_white)) (by (first | assumption | decide | omega | (simp; done) | (simp; omega))) ?_ | with_reducible refine k_lenn (by (first | assumption | (refine IsL.mem ?_; (repeat (first | assumption | exact List.mem_cons_self | refine List.mem_cons_of_mem _ ?_))))) (by (first | assumption | decide | omega | (simp; done) | (simp; omega))) ?_ | with_reducible refine k_leni (by (first | assumption | (refine IsL.mem ?_; (repeat (first | assumption | exact List.mem_cons_self | refine List.mem_cons_of_mem _ ?_))))) (by (first | assumption | decide | omega | (simp; done) | (simp; omega))) ?_ | ((with_reducible refine k_lens ?h2 ?_); (case h2 => (first | assumption | decide | omega | (simp; done) | (simp; omega))))| with_reducible refine k_len (by (first | assumption | (refine IsL.mem ?_; (repeat (first | assumption | exact List.mem_cons_self | refine List.mem_cons_of_mem _ ?_))))) (by (first | assumption | decide | omega | (simp; done) | (simp; omega))) ?_)
  (first | with_reducible refine b_add ?_ | with_reducible refine f_add ?_ | with_reducible refine b_sadd (by (first | exact rfl | exact lit_dot | exact lit_quote | exact lit_back | exact lit_nl | exact lit_cr | exact lit_crlf | exact lit_empty | exact lit_white)) (by (first | exact rfl | exact lit_dot | exact lit_quote | exact lit_back | exact lit_nl | exact lit_cr | exact lit_crlf | exact lit_empty | exact lit_white)) (by (first | assumption | decide | omega | (simp; done) | (simp; omega))) ?_)
  (with_reducible refine c_lt ?_)
  with_reducible refine t_bool ?_
  refine b_if (fun e1 => ?_) fun e1 => ?_
  · have hlt : S.length < xs.length + ys.length := by have := of_decide_eq_true e1; omega
    with_reducible refine t_cmp ?_; refine e_cb ok' hN (nm_l_kneser_len _) (bl_len _) ?_; refine a_1 ?_; refine n_cell ok' hN (nm_l_kneser_sums _) hc_sums (by (first | assumption | (refine At.mem ?_; (repeat (first | assumption | exact List.mem_cons_self | refine List.mem_cons_of_mem _ ?_))))) ?_
    (first | with_reducible refine k_lenS (by (first | exact rfl | exact lit_dot | exact lit_quote | exact lit_back | exact lit_nl | exact lit_cr | exact lit_crlf | exact lit_empty | exact lit_white)) (by (first | assumption | decide | omega | (simp; done) | (simp; omega))) ?_ | with_reducible refine k_lenn (by (first | assumption | (refine IsL.mem ?_; (repeat (first | assumption | exact List.mem_cons_self | refine List.mem_cons_of_mem _ ?_))))) (by (first | assumption | decide | omega | (simp; done) | (simp; omega))) ?_ | with_reducible refine k_leni (by (first | assumption | (refine IsL.mem ?_; (repeat (first | assumption | exact List.mem_cons_self | refine List.mem_cons_of_mem _ ?_))))) (by (first | assumption | decide | omega | (simp; done) | (simp; omega))) ?_ | ((with_reducible refine k_lens ?h2 ?_); (case h2 => (first | assumption | decide | omega | (simp; done) | (simp; omega))))| with_reducible refine k_len (by (first | assumption | (refine IsL.mem ?_; (repeat (first | assumption | exact List.mem_cons_self | refine List.mem_cons_of_mem _ ?_))))) (by (first | assumption | decide | omega | (simp; done) | (simp; omega))) ?_)
    with_reducible refine n_loc_6 ok' hN (nm_l_kneser_least _) ?_
    (with_reducible refine c_ne ?_)
    with_reducible refine t_bool ?_
    refine ite_f (by simp [k2 hlt]) ?_
    with_reducible refine s_nil ?_; refine then_next ?_; refine s_cons ?_; refine s_ret ?_; refine e_or ?_; refine e_cmp ?_; refine e_cb ok' hN (nm_l_kneser_len _) (bl_len _) ?_; refine a_1 ?_; refine n_loc_5 ok' hN (nm_l_kneser_turns _) ?_
    (first | with_reducible refine k_lenS (by (first | exact rfl | exact lit_dot | exact lit_quote | exact lit_back | exact lit_nl | exact lit_cr | exact lit_crlf | exact lit_empty | exact lit_white)) (by (first | assumption | decide | omega | (simp; done) | (simp; omega))) ?_ | with_reducible refine k_lenn (by (first | assumption | (refine IsL.mem ?_; (repeat (first | assumption | exact List.mem_cons_self | refine List.mem_cons_of_mem _ ?_))))) (by (first | assumption | decide | omega | (simp; done) | (simp; omega))) ?_ | with_reducible refine k_leni (by (first | assumption | (refine IsL.mem ?_; (repeat (first | assumption | exact List.mem_cons_self | refine List.mem_cons_of_mem _ ?_))))) (by (first | assumption | decide | omega | (simp; done) | (simp; omega))) ?_ | ((with_reducible refine k_lens ?h2 ?_); (case h2 => (first | assumption | decide | omega | (simp; done) | (simp; omega))))| with_reducible refine k_len (by (first | assumption | (refine IsL.mem ?_; (repeat (first | assumption | exact List.mem_cons_self | refine List.mem_cons_of_mem _ ?_))))) (by (first | assumption | decide | omega | (simp; done) | (simp; omega))) ?_)
    with_reducible refine e_int ?_
    (first | with_reducible refine c_eq ?_ | with_reducible refine f_eq ?_ | with_reducible refine c_seq (by (first | exact rfl | exact lit_dot | exact lit_quote | exact lit_back | exact lit_nl | exact lit_cr | exact lit_crlf | exact lit_empty | exact lit_white)) (by (first | exact rfl | exact lit_dot | exact lit_quote | exact lit_back | exact lit_nl | exact lit_cr | exact lit_crlf | exact lit_empty | exact lit_white)) ?_)
    with_reducible refine t_bool ?_
    refine b_if (fun e2 => ?_) fun e2 => ?_
    · rw [e2]
      with_reducible refine then_ret ?_
      exact ⟨led, by (repeat (first | exact List.Sublist.refl _ | with_reducible refine List.Sublist.cons_cons _ ?_ | refine List.Sublist.cons _ ?_)), h⟩
    · have hg : greyOk size S := k3.resolve_left (by have := beq_eq_false_iff_ne.mp e2; omega)
      with_reducible refine e_bo1 ?_; refine e_cg ok' hN (nm_l_kneser_law_grey _) (gl_law_grey _) (keep_law_grey _) ?_; refine a_2 ?_; refine n_cell ok' hN (nm_l_kneser_sums _) hc_sums (by (first | assumption | (refine At.mem ?_; (repeat (first | assumption | exact List.mem_cons_self | refine List.mem_cons_of_mem _ ?_))))) ?_; refine n_cell ok' hN (nm_l_kneser_size _) hc_size (by (first | assumption | (refine At.mem ?_; (repeat (first | assumption | exact List.mem_cons_self | refine List.mem_cons_of_mem _ ?_))))) ?_
      refine f_grey (n := n + 6) ok' hs hS (by (repeat (first | assumption | exact List.mem_cons_self | refine List.mem_cons_of_mem _ ?_))) hg ?_
      with_reducible refine then_ret ?_
      exact ⟨led, by (repeat (first | exact List.Sublist.refl _ | with_reducible refine List.Sublist.cons_cons _ ?_ | refine List.Sublist.cons _ ?_)), h⟩
  · refine iteF ?_
    with_reducible refine s_nil ?_; refine then_next ?_; refine s_cons ?_; refine s_ret ?_; refine e_or ?_; refine e_cmp ?_; refine e_cb ok' hN (nm_l_kneser_len _) (bl_len _) ?_; refine a_1 ?_; refine n_loc_5 ok' hN (nm_l_kneser_turns _) ?_
    (first | with_reducible refine k_lenS (by (first | exact rfl | exact lit_dot | exact lit_quote | exact lit_back | exact lit_nl | exact lit_cr | exact lit_crlf | exact lit_empty | exact lit_white)) (by (first | assumption | decide | omega | (simp; done) | (simp; omega))) ?_ | with_reducible refine k_lenn (by (first | assumption | (refine IsL.mem ?_; (repeat (first | assumption | exact List.mem_cons_self | refine List.mem_cons_of_mem _ ?_))))) (by (first | assumption | decide | omega | (simp; done) | (simp; omega))) ?_ | with_reducible refine k_leni (by (first | assumption | (refine IsL.mem ?_; (repeat (first | assumption | exact List.mem_cons_self | refine List.mem_cons_of_mem _ ?_))))) (by (first | assumption | decide | omega | (simp; done) | (simp; omega))) ?_ | ((with_reducible refine k_lens ?h2 ?_); (case h2 => (first | assumption | decide | omega | (simp; done) | (simp; omega))))| with_reducible refine k_len (by (first | assumption | (refine IsL.mem ?_; (repeat (first | assumption | exact List.mem_cons_self | refine List.mem_cons_of_mem _ ?_))))) (by (first | assumption | decide | omega | (simp; done) | (simp; omega))) ?_)
    with_reducible refine e_int ?_
    (first | with_reducible refine c_eq ?_ | with_reducible refine f_eq ?_ | with_reducible refine c_seq (by (first | exact rfl | exact lit_dot | exact lit_quote | exact lit_back | exact lit_nl | exact lit_cr | exact lit_crlf | exact lit_empty | exact lit_white)) (by (first | exact rfl | exact lit_dot | exact lit_quote | exact lit_back | exact lit_nl | exact lit_cr | exact lit_crlf | exact lit_empty | exact lit_white)) ?_)
    with_reducible refine t_bool ?_
    refine b_if (fun e2 => ?_) fun e2 => ?_
    · rw [e2]
      with_reducible refine then_ret ?_
      exact ⟨led, by (repeat (first | exact List.Sublist.refl _ | with_reducible refine List.Sublist.cons_cons _ ?_ | refine List.Sublist.cons _ ?_)), h⟩
    · have hg : greyOk size S := k3.resolve_left (by have := beq_eq_false_iff_ne.mp e2; omega)
      with_reducible refine e_bo1 ?_; refine e_cg ok' hN (nm_l_kneser_law_grey _) (gl_law_grey _) (keep_law_grey _) ?_; refine a_2 ?_; refine n_cell ok' hN (nm_l_kneser_sums _) hc_sums (by (first | assumption | (refine At.mem ?_; (repeat (first | assumption | exact List.mem_cons_self | refine List.mem_cons_of_mem _ ?_))))) ?_; refine n_cell ok' hN (nm_l_kneser_size _) hc_size (by (first | assumption | (refine At.mem ?_; (repeat (first | assumption | exact List.mem_cons_self | refine List.mem_cons_of_mem _ ?_))))) ?_
      refine f_grey (n := n + 6) ok' hs hS (by (repeat (first | assumption | exact List.mem_cons_self | refine List.mem_cons_of_mem _ ?_))) hg ?_
      with_reducible refine then_ret ?_
      exact ⟨led, by (repeat (first | exact List.Sublist.refl _ | with_reducible refine List.Sublist.cons_cons _ ?_ | refine List.Sublist.cons _ ?_)), h⟩
end
section
variable {prog : Program} {w : World} {c : Cx} {n : Nat} {lo : Lo} {led led' : Led} {R : AV → Lo → Led → Prop}
theorem sub_split {L M H : Nat} (h1 : L ≤ M) (h2 : M ≤ H) : H - L = (M - L) + (H - M) := by rw [Nat.add_comm]; exact (Nat.sub_add_sub_cancel h2 h1).symm
theorem take_split {ds : List Nat} {L M H : Nat} (h1 : L ≤ M) (h2 : M ≤ H) : (ds.drop L).take (H - L) = (ds.drop L).take (M - L) ++ (ds.drop M).take (H - M) := by
  rw [sub_split h1 h2, List.take_add, List.drop_drop, Nat.add_sub_cancel' h1]
theorem shr_mid (L H : Nat) : ((L : Int) + (H : Int)).fdiv (2 ^ (1 : Int).toNat) = (((L + H) / 2 : Nat) : Int) := by
  rw [Int.fdiv_eq_ediv_of_nonneg _ (by decide)]; rfl
theorem sub_mul_nat {M L : Nat} (n : Nat) (h : L ≤ M) : ((M : Int) - (L : Int)) * (n : Int) = (((M - L) * n : Nat) : Int) := by
  rw [Int.natCast_mul, Int.natCast_sub h]
theorem small_pow {a k : Nat} (h : a < 2 ^ k) (hk : k ≤ 64) : ((a : Nat) : Int).natAbs < 2 ^ 64 := by
  rw [Int.natAbs_natCast]; exact Nat.lt_of_lt_of_le h (Nat.pow_le_pow_right (by decide) hk)
theorem mulok_small {a b : Int} (ha : a.natAbs < 2 ^ 64) (hb : b.natAbs < 2 ^ 64) : IntMulOk a b := .of_left (intBits_le ha)
theorem f_dinner {rf cc cd cn ci la : Addr} {fd : FuncData} {ds : List Nat} {wd : Nat} (hds : ∀ d ∈ ds, d < 2 ^ wd) (hlen : ds.length ≤ 12) (hwd : wd ≤ 4) (hfd : IsInner w 59 0 [("n", cn), ("inner", ci), ("digits", cd)] cc fd) :
    ∀ (m : Nat) {c : Cx} {n : Nat} {lo : Lo} {led : Led} {R : AV → Lo → Led → Prop} {L H : Nat}, c.Ok w (n + m + 3) → L < H → H ≤ ds.length → H - L ≤ m → (rf, .fn fd none) ∈ led → (cc, .code fd.qualname) ∈ led →
      (cd, .cell (some (.ref la))) ∈ led → (cn, .cell (some (.int wd))) ∈ led → (ci, .cell (some (.ref rf))) ∈ led → (la, natsO ds) ∈ led → R (.int (dval wd ((ds.drop L).take (H - L)) : Nat)) lo led → CodeP prog w c (.ref rf) [.int L, .int H] R lo led := by
  intro m
  induction m with
  | zero => intro c n lo led R L H ok h1 h2 h3; omega
  | succ m ih =>
  intro c n lo led R L H ok h1 h2 h3 hrf hcc hcd hcn hci hla h
  have hfd' := hfd
  obtain ⟨name, qual, params, body, scope, pos, doc, pm, ctv, hin, rfl⟩ := hfd'
  refine use_eq (o := innerDef 59 0 w) (x := ?x) ?e fun e => ?_
  case e => with_unfolding_all rfl
  cases hin.symm.trans e
  refine code_clo (n := n + m + 3) (body := ?bd) (pn := ["L", "R"]) (cc := cc) [some (.int L), some (.int H), none, none, none, none, none] ok (.inl hrf) rfl (.inl hcc) ?hbody rfl rfl ?hb ?hkind ?hcell ?hlo ?main ?e1 ?e2 ?e3
  case hbody => with_unfolding_all rfl
  case hb => intro vs hl; obtain ⟨a, b, rfl⟩ := len2 hl; with_unfolding_all rfl
  case hkind => with_unfolding_all rfl
  case hcell => exact all_ne (by with_unfolding_all rfl)
  case hlo => with_unfolding_all rfl
  case e1 => with_unfolding_all rfl
  case e2 => with_unfolding_all rfl
  case e3 => with_unfolding_all rfl
  case main =>
  intro c' ok' he hx
  have hN : c'.env.scope.names = ns_digits2int_inner := by rw [he]; with_unfolding_all rfl
  have hc_digits : c'.env.cells.lookup (Str.ofString "digits") = some cd := by rw [he]; with_unfolding_all rfl
  have hc_inner : c'.env.cells.lookup (Str.ofString "inner") = some ci := by rw [he]; with_unfolding_all rfl
  have hc_n : c'.env.cells.lookup (Str.ofString "n") = some cn := by rw [he]; with_unfolding_all rfl
  clear he
  with_reducible refine s_cons ?_; refine s_if ?_; refine t_cmp ?_; refine e_bin ?_; refine n_loc_0 ok' hN nm_digits2int_inner_L ?_; refine e_int ?_
  (first | with_reducible refine b_add ?_ | with_reducible refine f_add ?_ | with_reducible refine b_sadd (by (first | exact rfl | exact lit_dot | exact lit_quote | exact lit_back | exact lit_nl | exact lit_cr | exact lit_crlf | exact lit_empty | exact lit_white)) (by (first | exact rfl | exact lit_dot | exact lit_quote | exact lit_back | exact lit_nl | exact lit_cr | exact lit_crlf | exact lit_empty | exact lit_white)) (by (first | assumption | decide | omega | (simp; done) | (simp; omega))) ?_)
  with_reducible refine n_loc_1 ok' hN nm_digits2int_inner_R ?_
  (first | with_reducible refine c_eq ?_ | with_reducible refine f_eq ?_ | with_reducible refine c_seq (by (first | exact rfl | exact lit_dot | exact lit_quote | exact lit_back | exact lit_nl | exact lit_cr | exact lit_crlf | exact lit_empty | exact lit_white)) (by (first | exact rfl | exact lit_dot | exact lit_quote | exact lit_back | exact lit_nl | exact lit_cr | exact lit_crlf | exact lit_empty | exact lit_white)) ?_)
  with_reducible refine t_bool ?_
  by_cases hb : H = L + 1
  · subst hb
    refine ite_t (by simp) ?_
    with_reducible refine s_cr ?_; refine e_sub ?_; refine n_free ok' hN nm_digits2int_inner_digits hc_digits (by (first | assumption | (refine At.mem ?_; (repeat (first | assumption | exact List.mem_cons_self | refine List.mem_cons_of_mem _ ?_))))) ?_; refine n_loc_0 ok' hN nm_digits2int_inner_L ?_; refine g_nats (by (first | assumption | (refine IsL.mem ?_; (repeat (first | assumption | exact List.mem_cons_self | refine List.mem_cons_of_mem _ ?_))))) (by omega) (by omega) (by omega) ?_
    rw [show L + 1 - L = 1 by omega, dval_one wd (by omega)] at h
    exact h
  · refine ite_f (by simp; omega) ?_
    refine s_end ?_
    with_reducible refine s_ca ?_; refine e_bin ?_; refine e_bin ?_; refine n_loc_0 ok' hN nm_digits2int_inner_L ?_; refine n_loc_1 ok' hN nm_digits2int_inner_R ?_
    (first | with_reducible refine b_add ?_ | with_reducible refine f_add ?_ | with_reducible refine b_sadd (by (first | exact rfl | exact lit_dot | exact lit_quote | exact lit_back | exact lit_nl | exact lit_cr | exact lit_crlf | exact lit_empty | exact lit_white)) (by (first | exact rfl | exact lit_dot | exact lit_quote | exact lit_back | exact lit_nl | exact lit_cr | exact lit_crlf | exact lit_empty | exact lit_white)) (by (first | assumption | decide | omega | (simp; done) | (simp; omega))) ?_)
    with_reducible refine e_int ?_
    (with_reducible refine b_shr (by (first | assumption | decide | omega | (simp; done) | (simp; omega))) ?_)
    with_reducible refine n_sto_2 ok' hN nm_digits2int_inner_mid ?_
    rw [shr_mid]
    have hm1 : L < (L + H) / 2 := by omega
    have hm2 : (L + H) / 2 < H := by omega
    generalize (L + H) / 2 = M at hm1 hm2 ⊢
    have hmul : IntMulOk ((M : Int) - (L : Int)) (wd : Int) := mulok_small (by omega) (by omega)
    with_reducible refine s_ca ?_; refine e_bin ?_; refine e_bin ?_; refine n_loc_2 ok' hN nm_digits2int_inner_mid ?_; refine n_loc_0 ok' hN nm_digits2int_inner_L ?_
    (first | with_reducible refine b_sub ?_ | with_reducible refine f_sub ?_ | with_reducible refine f_subi (by (first | assumption | decide | omega | (simp; done) | (simp; omega))) ?_)
    with_reducible refine n_free ok' hN nm_digits2int_inner_n hc_n (by (first | assumption | (refine At.mem ?_; (repeat (first | assumption | exact List.mem_cons_self | refine List.mem_cons_of_mem _ ?_))))) ?_; refine b_mul ?_ hmul; refine n_sto_3 ok' hN nm_digits2int_inner_shift ?_
    rw [sub_mul_nat wd (by omega)]
    have hdl : ∀ a b, dval wd ((ds.drop a).take b) < 2 ^ (wd * ((ds.drop a).take b).length) := fun a b => dval_lt wd _ fun d hd => hds d (List.mem_of_mem_drop (List.mem_of_mem_take hd))
    have hll : ∀ a b, wd * ((ds.drop a).take b).length ≤ 48 := fun a b => by
      have : ((ds.drop a).take b).length ≤ 12 := by rw [List.length_take, List.length_drop]; omega
      calc wd * _ ≤ 4 * 12 := Nat.mul_le_mul hwd this
        _ = 48 := rfl
    have hMw : (M - L) * wd ≤ 48 := by
      calc (M - L) * wd ≤ 12 * 4 := Nat.mul_le_mul (by omega) hwd
        _ = 48 := rfl
    have hsh : ((Builtin.Int.intBits ((dval wd ((ds.drop M).take (H - M)) : Nat) : Int) : Nat) : Int) + (((M - L) * wd : Nat) : Int) ≤ 2 ^ 27 := bits_add_le (small_pow (hdl _ _) (Nat.le_trans (hll _ _) (by decide))) (by omega)
    have hcomb : dval wd ((ds.drop L).take (H - L)) = dval wd ((ds.drop M).take (H - M)) * 2 ^ ((M - L) * wd) + dval wd ((ds.drop L).take (M - L)) := by
      rw [take_split (L := L) (M := M) (H := H) (by omega) (by omega), dval_app, List.length_take, List.length_drop, Nat.min_eq_left (by omega), Nat.mul_comm wd, Nat.mul_comm (2 ^ _), Nat.add_comm]
    rw [hcomb] at h
    with_reducible refine s_cr ?_; refine e_bin ?_; refine e_bin ?_; refine e_call ?_; refine n_free ok' hN nm_digits2int_inner_inner hc_inner (by (first | assumption | (refine At.mem ?_; (repeat (first | assumption | exact List.mem_cons_self | refine List.mem_cons_of_mem _ ?_))))) ?_
    (with_reducible refine cw0_clo ?_)
    with_reducible refine a_2 ?_; refine n_loc_2 ok' hN nm_digits2int_inner_mid ?_; refine n_loc_1 ok' hN nm_digits2int_inner_R ?_
    refine ⟨_, _, At.mem (by (repeat (first | assumption | exact List.mem_cons_self | refine List.mem_cons_of_mem _ ?_))), CodeP.call (ih (n := n) ok' (by omega) (by omega) (by omega) hrf hcc hcd hcn hci hla ?_)⟩
    with_reducible refine n_loc_3 ok' hN nm_digits2int_inner_shift ?_; refine b_shl (by omega) hsh ?_; refine e_call ?_; refine n_free ok' hN nm_digits2int_inner_inner hc_inner (by (first | assumption | (refine At.mem ?_; (repeat (first | assumption | exact List.mem_cons_self | refine List.mem_cons_of_mem _ ?_))))) ?_
    (with_reducible refine cw0_clo ?_)
    with_reducible refine a_2 ?_; refine n_loc_0 ok' hN nm_digits2int_inner_L ?_; refine n_loc_2 ok' hN nm_digits2int_inner_mid ?_
    refine ⟨_, _, At.mem (by (repeat (first | assumption | exact List.mem_cons_self | refine List.mem_cons_of_mem _ ?_))), CodeP.call (ih (n := n) ok' (by omega) (by omega) (by omega) hrf hcc hcd hcn hci hla ?_)⟩
    (first | with_reducible refine b_add ?_ | with_reducible refine f_add ?_ | with_reducible refine b_sadd (by (first | exact rfl | exact lit_dot | exact lit_quote | exact lit_back | exact lit_nl | exact lit_cr | exact lit_crlf | exact lit_empty | exact lit_white)) (by (first | exact rfl | exact lit_dot | exact lit_quote | exact lit_back | exact lit_nl | exact lit_cr | exact lit_crlf | exact lit_empty | exact lit_white)) (by (first | assumption | decide | omega | (simp; done) | (simp; omega))) ?_)
    rw [Int.toNat_natCast]
    have e2 : ((dval wd ((ds.drop M).take (H - M)) : Nat) : Int) * 2 ^ ((M - L) * wd) + ((dval wd ((ds.drop L).take (M - L)) : Nat) : Int) = ((dval wd ((ds.drop M).take (H - M)) * 2 ^ ((M - L) * wd) + dval wd ((ds.drop L).take (M - L)) : Nat) : Int) := by
      rw [Int.natCast_add, Int.natCast_mul, Int.natCast_pow]; rfl
    rw [e2]
    exact h
noncomputable abbrev qD : Str := Str.ofString "_digits2int.<locals>.inner"
noncomputable abbrev tD (cc : Addr) : Array Value := #[rawInt 48, rawInt 4, .ref cc]
theorem triples_tD {cc : Addr} : TriplesOk (tD cc).toList := trivial
theorem f_digits {la : Addr} {ds : List Nat} {wd : Nat} (ok : c.Ok w (n + 17)) (hds : ∀ d ∈ ds, d < 2 ^ wd) (hne : ds ≠ []) (hlen : ds.length ≤ 12) (hwd : wd ≤ 4) (hla : (la, natsO ds) ∈ led) 
    (h : ∀ cc, R (.int (dval wd ds : Nat)) lo ((cc, .code qD) :: (54, .raw (tabObj (tD cc))) :: led)) :
    Call prog w c (.ref 59) [.ref la, .int wd] R lo ((54, .raw (tabObj #[])) :: led) := by
  refine Call_drop ?_
  refine call_fn (fd := ?fd) (fo := ?fo) (body := ?bd) (n := n + 16) (pn := ["digits", "n"]) [none, none, none, none] (fun L => [(L + 3, .cell none), (L + 2, .cell (some (.int wd))), (L + 1, .cell (some (.ref la)))]) ok ?hK ?hd ?hcd ?hbody ?hclo ?hgl ?hbl ?hb ?hkind ?hnd ?hlo ?hcl ?main ?e1 ?e2 ?e3
  (case hK | hd | hbody | hcd | hclo | hgl | hbl | hkind => with_unfolding_all rfl); (case hnd => with_unfolding_all decide); (case hlo => with_unfolding_all rfl); (case hcl => intro L; with_unfolding_all rfl); (case e1 | e2 | e3 => with_unfolding_all rfl)
  case hb => intro vs hl; obtain ⟨a, b, rfl⟩ := len2 hl; with_unfolding_all rfl
  case main =>
  intro c' ok' he hx
  have hN : c'.env.scope.names = nmOf 59 w := by rw [he]; with_unfolding_all rfl
  have hcode : c'.env.code = .ref 58 := by rw [he]; with_unfolding_all rfl
  have hc_digits : c'.env.cells.lookup (Str.ofString "digits") = some (c'.L + 1) := by rw [he]; with_unfolding_all rfl
  have hc_n : c'.env.cells.lookup (Str.ofString "n") = some (c'.L + 2) := by rw [he]; with_unfolding_all rfl
  have hc_inner : c'.env.cells.lookup (Str.ofString "inner") = some (c'.L + 3) := by rw [he]; with_unfolding_all rfl
  have hq : qualnameIn c'.env (Str.ofString "inner") (Str.ofString "inner") = qD := by rw [he]; with_unfolding_all rfl
  have hdl : 0 < ds.length := List.length_pos_iff.mpr hne
  show WpS prog w c' _ _ _ ((c'.L + 3, .cell none) :: (c'.L + 2, .cell (some (.int wd))) :: (c'.L + 1, .cell (some (.ref la))) :: ((54, .raw (tabObj #[])) :: led))
  with_reducible refine s_cons ?_
  refine WpS_perm ((54, .raw (tabObj #[])) :: (c'.L + 3, .cell none) :: (c'.L + 2, .cell (some (.int wd))) :: (c'.L + 1, .cell (some (.ref la))) :: led) perm_front3 ?_
  refine s_def (clos := [("n", c'.L + 2), ("inner", c'.L + 3), ("digits", c'.L + 1)]) ok' hcode ?_ ?_ ?_ ?_ ?_ ?_ ?_ (fun rf cc doc pm ctv => ?_)
  · with_unfolding_all rfl
  · trivial
  · rfl
  · rw [he]; with_unfolding_all rfl
  · rfl
  · rfl
  · with_unfolding_all rfl
  refine use_eq (o := innerDef 59 0 w) (x := ?x) ?e fun e => ?_
  case e => with_unfolding_all rfl
  generalize hfg : fnX _ _ _ _ _ _ _ _ _ _ _ _ _ = fd
  have hfd : IsInner w 59 0 [("n", c'.L + 2), ("inner", c'.L + 3), ("digits", c'.L + 1)] cc fd := ⟨_, _, _, _, _, _, _, _, _, e, hfg.symm⟩
  have hq2 : fd.qualname = qD := by rw [← hfg]; exact hq
  rw [hq]
  clear e hfg hq he
  generalize c'.L + 3 = ci at hc_inner hfd ⊢
  generalize c'.L + 2 = cn at hc_n hfd ⊢
  generalize c'.L + 1 = cd at hc_digits hfd ⊢
  show Sto prog w c' _ _ _ _ ((rf, .fn fd none) :: (cc, .code qD) :: (54, .raw (tabObj (tD cc))) :: (ci, .cell none) :: (cn, .cell (some (.int wd))) :: (cd, .cell (some (.ref la))) :: led)
  with_reducible refine n_stoc ok' hN (nm_digits2int_inner _) hc_inner (by (first | assumption | exact .head | exact .tail .head | exact .tail (.tail .head) | exact .tail (.tail (.tail .head)) | exact .tail (.tail (.tail (.tail .head))) | exact .tail (.tail (.tail (.tail (.tail .head)))) | exact .tail (.tail (.tail (.tail (.tail (.tail .head))))) | exact .tail (.tail (.tail (.tail (.tail (.tail (.tail .head)))))) | exact .tail (.tail (.tail (.tail (.tail (.tail (.tail (.tail .head))))))) | exact .tail (.tail (.tail (.tail (.tail (.tail (.tail (.tail (.tail .head)))))))) | exact .tail (.tail (.tail (.tail (.tail (.tail (.tail (.tail (.tail (.tail .head))))))))) | exact .tail (.tail (.tail (.tail (.tail (.tail (.tail (.tail (.tail (.tail (.tail .head)))))))))) | exact .tail (.tail (.tail (.tail (.tail (.tail (.tail (.tail (.tail (.tail (.tail (.tail .head))))))))))) | exact .tail (.tail (.tail (.tail (.tail (.tail (.tail (.tail (.tail (.tail (.tail (.tail (.tail .head)))))))))))))) ?_; refine then_next ?_; refine s_cons ?_; refine s_ret ?_; refine e_ife ?_; refine t_plain ?_; refine n_cell ok' hN (nm_digits2int_digits _) hc_digits (by (first | assumption | (refine At.mem ?_; (repeat (first | assumption | exact List.mem_cons_self | refine List.mem_cons_of_mem _ ?_))))) ?_
  refine tr_list (xs := ds.map fun (x : Nat) => AV.int x) (by (repeat (first | assumption | exact List.mem_cons_self | refine List.mem_cons_of_mem _ ?_))) (by rw [List.length_map]; omega) ?_
  refine ite_t (by simpa using hne) ?_
  have hl2 : ds.length < 2 ^ 62 := by omega
  with_reducible refine e_call ?_; refine n_cell ok' hN (nm_digits2int_inner _) hc_inner (by (first | assumption | (refine At.mem ?_; (repeat (first | assumption | exact List.mem_cons_self | refine List.mem_cons_of_mem _ ?_))))) ?_
  (with_reducible refine cw0_clo ?_)
  with_reducible refine a_2 ?_; refine e_int ?_; refine e_cb ok' hN (nm_digits2int_len _) (bl_len _) ?_; refine a_1 ?_; refine n_cell ok' hN (nm_digits2int_digits _) hc_digits (by (first | assumption | (refine At.mem ?_; (repeat (first | assumption | exact List.mem_cons_self | refine List.mem_cons_of_mem _ ?_))))) ?_
  (first | with_reducible refine k_lenS (by (first | exact rfl | exact lit_dot | exact lit_quote | exact lit_back | exact lit_nl | exact lit_cr | exact lit_crlf | exact lit_empty | exact lit_white)) (by (first | assumption | decide | omega | (simp; done) | (simp; omega))) ?_ | with_reducible refine k_lenn (by (first | assumption | (refine IsL.mem ?_; (repeat (first | assumption | exact List.mem_cons_self | refine List.mem_cons_of_mem _ ?_))))) (by (first | assumption | decide | omega | (simp; done) | (simp; omega))) ?_ | with_reducible refine k_leni (by (first | assumption | (refine IsL.mem ?_; (repeat (first | assumption | exact List.mem_cons_self | refine List.mem_cons_of_mem _ ?_))))) (by (first | assumption | decide | omega | (simp; done) | (simp; omega))) ?_ | ((with_reducible refine k_lens ?h2 ?_); (case h2 => (first | assumption | decide | omega | (simp; done) | (simp; omega))))| with_reducible refine k_len (by (first | assumption | (refine IsL.mem ?_; (repeat (first | assumption | exact List.mem_cons_self | refine List.mem_cons_of_mem _ ?_))))) (by (first | assumption | decide | omega | (simp; done) | (simp; omega))) ?_)
  refine ⟨_, _, At.mem (by (repeat (first | assumption | exact List.mem_cons_self | refine List.mem_cons_of_mem _ ?_))), CodeP.call (f_dinner (L := 0) (m := 12) (n := n + 1) hds hlen hwd hfd ok' hdl (Nat.le_refl _) (by omega) (by (repeat (first | assumption | exact List.mem_cons_self | refine List.mem_cons_of_mem _ ?_))) (by rw [hq2]; (repeat (first | assumption | exact List.mem_cons_self | refine List.mem_cons_of_mem _ ?_))) (by (repeat (first | assumption | exact List.mem_cons_self | refine List.mem_cons_of_mem _ ?_))) (by (repeat (first | assumption | exact List.mem_cons_self | refine List.mem_cons_of_mem _ ?_))) (by (repeat (first | assumption | exact List.mem_cons_self | refine List.mem_cons_of_mem _ ?_))) (by (repeat (first | assumption | exact List.mem_cons_self | refine List.mem_cons_of_mem _ ?_))) ?_)⟩
  rw [List.drop_zero, Nat.sub_zero, List.take_length]
  with_reducible refine then_ret ?_
  exact ⟨(cc, .code qD) :: (54, .raw (tabObj (tD cc))) :: led, by (repeat (first | exact List.Sublist.refl _ | with_reducible refine List.Sublist.cons_cons _ ?_ | refine List.Sublist.cons _ ?_)), h cc⟩
theorem f_digits_hit {la : Addr} {ds : List Nat} {wd : Nat} {cc : Addr} (ok : c.Ok w (n + 17)) (hds : ∀ d ∈ ds, d < 2 ^ wd) (hne : ds ≠ []) (hlen : ds.length ≤ 12) (hwd : wd ≤ 4) (hla : (la, natsO ds) ∈ led) (hP : (54, .raw (tabObj (tD cc))) ∈ led) (hcc : (cc, .code qD) ∈ led) 
    (h : R (.int (dval wd ds : Nat)) lo led) :
    Call prog w c (.ref 59) [.ref la, .int wd] R lo led := by
  refine Call_drop ?_
  refine call_fn (fd := ?fd) (fo := ?fo) (body := ?bd) (n := n + 16) (pn := ["digits", "n"]) [none, none, none, none] (fun L => [(L + 3, .cell none), (L + 2, .cell (some (.int wd))), (L + 1, .cell (some (.ref la)))]) ok ?hK ?hd ?hcd ?hbody ?hclo ?hgl ?hbl ?hb ?hkind ?hnd ?hlo ?hcl ?main ?e1 ?e2 ?e3
  (case hK | hd | hbody | hcd | hclo | hgl | hbl | hkind => with_unfolding_all rfl); (case hnd => with_unfolding_all decide); (case hlo => with_unfolding_all rfl); (case hcl => intro L; with_unfolding_all rfl); (case e1 | e2 | e3 => with_unfolding_all rfl)
  case hb => intro vs hl; obtain ⟨a, b, rfl⟩ := len2 hl; with_unfolding_all rfl
  case main =>
  intro c' ok' he hx
  have hN : c'.env.scope.names = nmOf 59 w := by rw [he]; with_unfolding_all rfl
  have hcode : c'.env.code = .ref 58 := by rw [he]; with_unfolding_all rfl
  have hc_digits : c'.env.cells.lookup (Str.ofString "digits") = some (c'.L + 1) := by rw [he]; with_unfolding_all rfl
  have hc_n : c'.env.cells.lookup (Str.ofString "n") = some (c'.L + 2) := by rw [he]; with_unfolding_all rfl
  have hc_inner : c'.env.cells.lookup (Str.ofString "inner") = some (c'.L + 3) := by rw [he]; with_unfolding_all rfl
  have hq : qualnameIn c'.env (Str.ofString "inner") (Str.ofString "inner") = qD := by rw [he]; with_unfolding_all rfl
  have hdl : 0 < ds.length := List.length_pos_iff.mpr hne
  show WpS prog w c' _ _ _ ((c'.L + 3, .cell none) :: (c'.L + 2, .cell (some (.int wd))) :: (c'.L + 1, .cell (some (.ref la))) :: led)
  with_reducible refine s_cons ?_
  refine s_def_hit (clos := [("n", c'.L + 2), ("inner", c'.L + 3), ("digits", c'.L + 1)]) (c' := cc) (ps := tD cc) ok' hcode ?_ ?_ ?_ ?_ ?_ ?_ ?_ (by (repeat (first | assumption | exact List.mem_cons_self | refine List.mem_cons_of_mem _ ?_))) (fun rf doc pm ctv => ?_)
  · with_unfolding_all rfl
  · exact triples_tD
  · with_unfolding_all rfl
  · rw [he]; with_unfolding_all rfl
  · rfl
  · rfl
  · with_unfolding_all rfl
  refine use_eq (o := innerDef 59 0 w) (x := ?x) ?e fun e => ?_
  case e => with_unfolding_all rfl
  generalize hfg : fnX _ _ _ _ _ _ _ _ _ _ _ _ _ = fd
  have hfd : IsInner w 59 0 [("n", c'.L + 2), ("inner", c'.L + 3), ("digits", c'.L + 1)] cc fd := ⟨_, _, _, _, _, _, _, _, _, e, hfg.symm⟩
  have hq2 : fd.qualname = qD := by rw [← hfg]; exact hq
  clear e hfg hq he
  generalize c'.L + 3 = ci at hc_inner hfd ⊢
  generalize c'.L + 2 = cn at hc_n hfd ⊢
  generalize c'.L + 1 = cd at hc_digits hfd ⊢
  with_reducible refine n_stoc ok' hN (nm_digits2int_inner _) hc_inner (by (first | assumption | exact .head | exact .tail .head | exact .tail (.tail .head) | exact .tail (.tail (.tail .head)) | exact .tail (.tail (.tail (.tail .head))) | exact .tail (.tail (.tail (.tail (.tail .head)))) | exact .tail (.tail (.tail (.tail (.tail (.tail .head))))) | exact .tail (.tail (.tail (.tail (.tail (.tail (.tail .head)))))) | exact .tail (.tail (.tail (.tail (.tail (.tail (.tail (.tail .head))))))) | exact .tail (.tail (.tail (.tail (.tail (.tail (.tail (.tail (.tail .head)))))))) | exact .tail (.tail (.tail (.tail (.tail (.tail (.tail (.tail (.tail (.tail .head))))))))) | exact .tail (.tail (.tail (.tail (.tail (.tail (.tail (.tail (.tail (.tail (.tail .head)))))))))) | exact .tail (.tail (.tail (.tail (.tail (.tail (.tail (.tail (.tail (.tail (.tail (.tail .head))))))))))) | exact .tail (.tail (.tail (.tail (.tail (.tail (.tail (.tail (.tail (.tail (.tail (.tail (.tail .head)))))))))))))) ?_; refine then_next ?_; refine s_cons ?_; refine s_ret ?_; refine e_ife ?_; refine t_plain ?_; refine n_cell ok' hN (nm_digits2int_digits _) hc_digits (by (first | assumption | (refine At.mem ?_; (repeat (first | assumption | exact List.mem_cons_self | refine List.mem_cons_of_mem _ ?_))))) ?_
  refine tr_list (xs := ds.map fun (x : Nat) => AV.int x) (by (repeat (first | assumption | exact List.mem_cons_self | refine List.mem_cons_of_mem _ ?_))) (by rw [List.length_map]; omega) ?_
  refine ite_t (by simpa using hne) ?_
  have hl2 : ds.length < 2 ^ 62 := by omega
  with_reducible refine e_call ?_; refine n_cell ok' hN (nm_digits2int_inner _) hc_inner (by (first | assumption | (refine At.mem ?_; (repeat (first | assumption | exact List.mem_cons_self | refine List.mem_cons_of_mem _ ?_))))) ?_
  (with_reducible refine cw0_clo ?_)
  with_reducible refine a_2 ?_; refine e_int ?_; refine e_cb ok' hN (nm_digits2int_len _) (bl_len _) ?_; refine a_1 ?_; refine n_cell ok' hN (nm_digits2int_digits _) hc_digits (by (first | assumption | (refine At.mem ?_; (repeat (first | assumption | exact List.mem_cons_self | refine List.mem_cons_of_mem _ ?_))))) ?_
  (first | with_reducible refine k_lenS (by (first | exact rfl | exact lit_dot | exact lit_quote | exact lit_back | exact lit_nl | exact lit_cr | exact lit_crlf | exact lit_empty | exact lit_white)) (by (first | assumption | decide | omega | (simp; done) | (simp; omega))) ?_ | with_reducible refine k_lenn (by (first | assumption | (refine IsL.mem ?_; (repeat (first | assumption | exact List.mem_cons_self | refine List.mem_cons_of_mem _ ?_))))) (by (first | assumption | decide | omega | (simp; done) | (simp; omega))) ?_ | with_reducible refine k_leni (by (first | assumption | (refine IsL.mem ?_; (repeat (first | assumption | exact List.mem_cons_self | refine List.mem_cons_of_mem _ ?_))))) (by (first | assumption | decide | omega | (simp; done) | (simp; omega))) ?_ | ((with_reducible refine k_lens ?h2 ?_); (case h2 => (first | assumption | decide | omega | (simp; done) | (simp; omega))))| with_reducible refine k_len (by (first | assumption | (refine IsL.mem ?_; (repeat (first | assumption | exact List.mem_cons_self | refine List.mem_cons_of_mem _ ?_))))) (by (first | assumption | decide | omega | (simp; done) | (simp; omega))) ?_)
  refine ⟨_, _, At.mem (by (repeat (first | assumption | exact List.mem_cons_self | refine List.mem_cons_of_mem _ ?_))), CodeP.call (f_dinner (L := 0) (m := 12) (n := n + 1) hds hlen hwd hfd ok' hdl (Nat.le_refl _) (by omega) (by (repeat (first | assumption | exact List.mem_cons_self | refine List.mem_cons_of_mem _ ?_))) (by rw [hq2]; (repeat (first | assumption | exact List.mem_cons_self | refine List.mem_cons_of_mem _ ?_))) (by (repeat (first | assumption | exact List.mem_cons_self | refine List.mem_cons_of_mem _ ?_))) (by (repeat (first | assumption | exact List.mem_cons_self | refine List.mem_cons_of_mem _ ?_))) (by (repeat (first | assumption | exact List.mem_cons_self | refine List.mem_cons_of_mem _ ?_))) (by (repeat (first | assumption | exact List.mem_cons_self | refine List.mem_cons_of_mem _ ?_))) ?_)⟩
  rw [List.drop_zero, Nat.sub_zero, List.take_length]
  with_reducible refine then_ret ?_
  exact ⟨led, by (repeat (first | exact List.Sublist.refl _ | with_reducible refine List.Sublist.cons_cons _ ?_ | refine List.Sublist.cons _ ?_)), h⟩
end
section
variable {prog : Program} {w : World} {c : Cx} {n : Nat} {lo : Lo} {led led' : Led} {R : AV → Lo → Led → Prop}
theorem fdiv_pow (x s : Nat) : (x : Int).fdiv (2 ^ s) = ((x / 2 ^ s : Nat) : Int) := by
  rw [Int.fdiv_eq_ediv_of_nonneg _ (Int.pow_nonneg (by decide)), Int.natCast_ediv, Int.natCast_pow]; rfl
noncomputable abbrev zs (l : List Nat) : List Int := l.map fun (x : Nat) => (x : Int)
noncomputable def written (ds : List Int) (L H : Nat) (l : List Nat) : List Int := ds.take L ++ zs l ++ ds.drop H
theorem written_len {ds : List Int} {L H : Nat} {l : List Nat} (h1 : L ≤ H) (h2 : H ≤ ds.length) (hl : l.length = H - L) : (written ds L H l).length = ds.length := by
  simp [written, zs, hl]; omega
theorem written_two {ds : List Int} {L M H : Nat} {l l' : List Nat} (h1 : L ≤ M) (h2 : M ≤ H) (h3 : H ≤ ds.length) (hl : l.length = M - L) : written (written ds L M l) M H l' = written ds L H (l ++ l') := by
  unfold written zs
  have e1 : (ds.take L ++ l.map (fun (x : Nat) => (x : Int))).length = M := by simp [hl]; omega
  have e2 : ((ds.take L ++ l.map (fun (x : Nat) => (x : Int))) ++ ds.drop M).take M = ds.take L ++ l.map (fun (x : Nat) => (x : Int)) := by
    rw [List.take_append_of_le_length (by omega), List.take_of_length_le (by omega)]
  have e3 : ((ds.take L ++ l.map (fun (x : Nat) => (x : Int))) ++ ds.drop M).drop H = ds.drop H := by
    rw [List.drop_append, List.drop_of_length_le (by omega), e1, List.nil_append, List.drop_drop]
    congr 1; omega
  rw [e2, e3, List.map_append]; simp only [List.append_assoc]
theorem written_one {ds : List Int} {L x : Nat} (h : L < ds.length) : ds.set L (x : Int) = written ds L (L + 1) [x] := by
  unfold written
  rw [List.set_eq_take_append_cons_drop, if_pos h]; simp
theorem f_iinner {rf cc ca cn ci la : Addr} {fd : FuncData} {wd : Nat} (hwd : wd ≤ 4) (hfd : IsInner w 52 1 [("n", cn), ("inner", ci), ("a_digits", ca)] cc fd) :
    ∀ (m : Nat) {c : Cx} {n : Nat} {lo : Lo} {led : Led} {R : AV → Lo → Led → Prop} {x L H : Nat} {ds : List Int}, c.Ok w (n + m + 3) → L < H → H ≤ ds.length → ds.length ≤ 12 → H - L ≤ m → x < 2 ^ (wd * (H - L)) → (rf, .fn fd none) ∈ led → (cc, .code fd.qualname) ∈ led →
      (ca, .cell (some (.ref la))) ∈ led → (cn, .cell (some (.int wd))) ∈ led → (ci, .cell (some (.ref rf))) ∈ led → R .none lo ((la, intsO (written ds L H (digs wd (H - L) x))) :: led) → CodeP prog w c (.ref rf) [.int x, .int L, .int H] R lo ((la, intsO ds) :: led) := by
  intro m
  induction m with
  | zero => intro c n lo led R x L H ds ok h1 h2 hz h3; omega
  | succ m ih =>
  intro c n lo led R x L H ds ok h1 h2 hz h3 hxb hrf hcc hca hcn hci h
  have hfd' := hfd
  obtain ⟨name, qual, params, body, scope, pos, doc, pm, ctv, hin, rfl⟩ := hfd'
  refine use_eq (o := innerDef 52 1 w) (x := ?x) ?e fun e => ?_
  case e => with_unfolding_all rfl
  cases hin.symm.trans e
  refine code_clo (n := n + m + 3) (body := ?bd) (pn := ["x", "L", "R"]) (cc := cc) [some (.int x), some (.int L), some (.int H), none, none, none, none, none, none, none] ok (.inl (.tail _ hrf)) rfl (.inl (.tail _ hcc)) ?hbody rfl rfl ?hb ?hkind ?hcell ?hlo ?main ?e1 ?e2 ?e3
  case hbody => with_unfolding_all rfl
  case hb => intro vs hl; obtain ⟨a, b, d, rfl⟩ := len3 hl; with_unfolding_all rfl
  case hkind => with_unfolding_all rfl
  case hcell => exact all_ne (by with_unfolding_all rfl)
  case hlo => with_unfolding_all rfl
  case e1 => with_unfolding_all rfl
  case e2 => with_unfolding_all rfl
  case e3 => with_unfolding_all rfl
  case main =>
  intro c' ok' he hx
  have hN : c'.env.scope.names = ns_int2digits_inner := by rw [he]; with_unfolding_all rfl
  have hc_a_digits : c'.env.cells.lookup (Str.ofString "a_digits") = some ca := by rw [he]; with_unfolding_all rfl
  have hc_inner : c'.env.cells.lookup (Str.ofString "inner") = some ci := by rw [he]; with_unfolding_all rfl
  have hc_n : c'.env.cells.lookup (Str.ofString "n") = some cn := by rw [he]; with_unfolding_all rfl
  clear he
  with_reducible refine s_cons ?_; refine s_if ?_; refine t_cmp ?_; refine e_bin ?_; refine n_loc_1 ok' hN nm_int2digits_inner_L ?_; refine e_int ?_
  (first | with_reducible refine b_add ?_ | with_reducible refine f_add ?_ | with_reducible refine b_sadd (by (first | exact rfl | exact lit_dot | exact lit_quote | exact lit_back | exact lit_nl | exact lit_cr | exact lit_crlf | exact lit_empty | exact lit_white)) (by (first | exact rfl | exact lit_dot | exact lit_quote | exact lit_back | exact lit_nl | exact lit_cr | exact lit_crlf | exact lit_empty | exact lit_white)) (by (first | assumption | decide | omega | (simp; done) | (simp; omega))) ?_)
  with_reducible refine n_loc_2 ok' hN nm_int2digits_inner_R ?_
  (first | with_reducible refine c_eq ?_ | with_reducible refine f_eq ?_ | with_reducible refine c_seq (by (first | exact rfl | exact lit_dot | exact lit_quote | exact lit_back | exact lit_nl | exact lit_cr | exact lit_crlf | exact lit_empty | exact lit_white)) (by (first | exact rfl | exact lit_dot | exact lit_quote | exact lit_back | exact lit_nl | exact lit_cr | exact lit_crlf | exact lit_empty | exact lit_white)) ?_)
  with_reducible refine t_bool ?_
  by_cases hb : H = L + 1
  · subst hb
    refine ite_t (by simp) ?_
    with_reducible refine s_cai ?_; refine n_loc_0 ok' hN nm_int2digits_inner_x ?_; refine n_free ok' hN nm_int2digits_inner_a_digits hc_a_digits (by (first | assumption | (refine At.mem ?_; (repeat (first | assumption | exact List.mem_cons_self | refine List.mem_cons_of_mem _ ?_))))) ?_; refine n_loc_1 ok' hN nm_int2digits_inner_L ?_
    refine set_ints .head (by omega) (by omega) (by omega) ?_
    with_reducible refine s_cons ?_; refine s_retn ?_; refine then_ret ?_
    have e : digs wd (L + 1 - L) x = [x] := by
      rw [show L + 1 - L = 1 by omega] at hxb ⊢
      rw [Nat.mul_one] at hxb
      rw [digs, Nat.mod_eq_of_lt hxb]; rfl
    rw [e, ← written_one (by omega)] at h
    exact h
  · refine ite_f (by simp; omega) ?_
    refine s_end ?_
    with_reducible refine s_ca ?_; refine e_bin ?_; refine e_bin ?_; refine n_loc_1 ok' hN nm_int2digits_inner_L ?_; refine n_loc_2 ok' hN nm_int2digits_inner_R ?_
    (first | with_reducible refine b_add ?_ | with_reducible refine f_add ?_ | with_reducible refine b_sadd (by (first | exact rfl | exact lit_dot | exact lit_quote | exact lit_back | exact lit_nl | exact lit_cr | exact lit_crlf | exact lit_empty | exact lit_white)) (by (first | exact rfl | exact lit_dot | exact lit_quote | exact lit_back | exact lit_nl | exact lit_cr | exact lit_crlf | exact lit_empty | exact lit_white)) (by (first | assumption | decide | omega | (simp; done) | (simp; omega))) ?_)
    with_reducible refine e_int ?_; refine b_shr (by omega) ?_; refine n_sto_3 ok' hN nm_int2digits_inner_mid ?_
    rw [shr_mid]
    have hm1 : L < (L + H) / 2 := by omega
    have hm2 : (L + H) / 2 < H := by omega
    generalize (L + H) / 2 = M at hm1 hm2 ⊢
    have hmul : IntMulOk ((M : Int) - (L : Int)) (wd : Int) := mulok_small (by omega) (by omega)
    with_reducible refine s_ca ?_; refine e_bin ?_; refine e_bin ?_; refine n_loc_3 ok' hN nm_int2digits_inner_mid ?_; refine n_loc_1 ok' hN nm_int2digits_inner_L ?_
    (first | with_reducible refine b_sub ?_ | with_reducible refine f_sub ?_ | with_reducible refine f_subi (by (first | assumption | decide | omega | (simp; done) | (simp; omega))) ?_)
    with_reducible refine n_free ok' hN nm_int2digits_inner_n hc_n (by (first | assumption | (refine At.mem ?_; (repeat (first | assumption | exact List.mem_cons_self | refine List.mem_cons_of_mem _ ?_))))) ?_; refine b_mul ?_ hmul; refine n_sto_4 ok' hN nm_int2digits_inner_shift ?_
    rw [sub_mul_nat wd (by omega)]
    have hMw : (M - L) * wd ≤ 48 := by
      calc (M - L) * wd ≤ 12 * 4 := Nat.mul_le_mul (by omega) hwd
        _ = 48 := rfl
    have hHw : wd * (H - L) ≤ 48 := by
      calc wd * (H - L) ≤ 4 * 12 := Nat.mul_le_mul hwd (by omega)
        _ = 48 := rfl
    have hsw : wd * (H - L) = (M - L) * wd + wd * (H - M) := by
      rw [Nat.mul_comm (M - L), ← Nat.mul_add, ← sub_split (M := M) (by omega) (by omega)]
    have hup : x / 2 ^ ((M - L) * wd) < 2 ^ (wd * (H - M)) := by
      refine Nat.div_lt_of_lt_mul ?_
      rw [← Nat.pow_add, ← hsw]; exact hxb
    have hlw : x % 2 ^ ((M - L) * wd) < 2 ^ (wd * (M - L)) := by
      rw [Nat.mul_comm wd]; exact Nat.mod_lt _ (Nat.two_pow_pos _)
    have hd : digs wd (H - L) x = digs wd (M - L) (x % 2 ^ ((M - L) * wd)) ++ digs wd (H - M) (x / 2 ^ ((M - L) * wd)) := by
      rw [sub_split (M := M) (by omega) (by omega), digs_app, Nat.mul_comm wd]
    rw [hd, ← written_two (M := M) (by omega) (by omega) h2 (digs_len _ _ _)] at h
    have hup64 : x / 2 ^ ((M - L) * wd) < 2 ^ 64 := Nat.lt_of_lt_of_le hup (Nat.pow_le_pow_right (by decide) (by omega))
    have hl1 : (written ds L M (digs wd (M - L) (x % 2 ^ ((M - L) * wd)))).length = ds.length := written_len (by omega) (by omega) (digs_len _ _ _)
    generalize hs : (M - L) * wd = s at *
    with_reducible refine s_ca ?_; refine e_bin ?_; refine n_loc_0 ok' hN nm_int2digits_inner_x ?_; refine n_loc_4 ok' hN nm_int2digits_inner_shift ?_; refine b_shr (by omega) ?_; refine n_sto_5 ok' hN nm_int2digits_inner_upper ?_
    rw [Int.toNat_natCast, fdiv_pow]
    have hsh : ((Builtin.Int.intBits ((x / 2 ^ s : Nat) : Int) : Nat) : Int) + ((s : Nat) : Int) ≤ 2 ^ 27 := bits_add_le (small_pow hup64 (by decide)) (by omega)
    with_reducible refine s_ca ?_; refine e_bin ?_; refine n_loc_0 ok' hN nm_int2digits_inner_x ?_; refine e_bin ?_; refine n_loc_5 ok' hN nm_int2digits_inner_upper ?_; refine n_loc_4 ok' hN nm_int2digits_inner_shift ?_; refine b_shl (by omega) hsh ?_
    (with_reducible refine b_xor ?_)
    with_reducible refine n_sto_6 ok' hN nm_int2digits_inner_lower ?_
    rw [Int.toNat_natCast, bitXor_upper]
    with_reducible refine s_cx ok' ?_; refine e_call ?_; refine n_free ok' hN nm_int2digits_inner_inner hc_inner (by (first | assumption | (refine At.mem ?_; (repeat (first | assumption | exact List.mem_cons_self | refine List.mem_cons_of_mem _ ?_))))) ?_
    (with_reducible refine cw0_clo ?_)
    with_reducible refine a_3 ?_; refine n_loc_6 ok' hN nm_int2digits_inner_lower ?_; refine n_loc_1 ok' hN nm_int2digits_inner_L ?_; refine n_loc_3 ok' hN nm_int2digits_inner_mid ?_
    refine ⟨_, _, At.mem (by (repeat (first | assumption | exact List.mem_cons_self | refine List.mem_cons_of_mem _ ?_))), CodeP.call (ih (n := n) ok' hm1 (by omega) hz (by omega) hlw hrf hcc hca hcn hci ?_)⟩
    with_reducible refine s_cx ok' ?_; refine e_call ?_; refine n_free ok' hN nm_int2digits_inner_inner hc_inner (by (first | assumption | (refine At.mem ?_; (repeat (first | assumption | exact List.mem_cons_self | refine List.mem_cons_of_mem _ ?_))))) ?_
    (with_reducible refine cw0_clo ?_)
    with_reducible refine a_3 ?_; refine n_loc_5 ok' hN nm_int2digits_inner_upper ?_; refine n_loc_3 ok' hN nm_int2digits_inner_mid ?_; refine n_loc_2 ok' hN nm_int2digits_inner_R ?_
    refine ⟨_, _, At.mem (by (repeat (first | assumption | exact List.mem_cons_self | refine List.mem_cons_of_mem _ ?_))), CodeP.call (ih (n := n) ok' hm2 (by omega) (by omega) (by omega) hup hrf hcc hca hcn hci ?_)⟩
    with_reducible refine s_nil ?_
    exact h
noncomputable def ndig (wd a : Nat) : Nat := (Builtin.Int.intBits (a : Int) + wd - 1) / wd
theorem ndig_int {wd a : Nat} (h : 1 ≤ wd) : (((Builtin.Int.intBits (a : Int) : Nat) : Int) + (wd : Int) - 1).fdiv (wd : Int) = ((ndig wd a : Nat) : Int) := by
  unfold ndig
  rw [Int.fdiv_eq_ediv_of_nonneg _ (by omega), Int.natCast_ediv]
  congr 1; omega
theorem ndig_le {wd a s : Nat} (h : 1 ≤ wd) (ha : a < 2 ^ (wd * s)) : ndig wd a ≤ s := by
  have hb : Builtin.Int.intBits (a : Int) ≤ wd * s := intBits_le (by rw [Int.natAbs_natCast]; exact ha)
  unfold ndig
  refine Nat.lt_succ_iff.mp ((Nat.div_lt_iff_lt_mul (by omega)).mpr ?_)
  rw [Nat.succ_mul, Nat.mul_comm s]; omega
theorem lt_ndig {wd a : Nat} (h : 1 ≤ wd) : a < 2 ^ (wd * ndig wd a) := by
  have h1 : a < 2 ^ Builtin.Int.intBits (a : Int) := by
    unfold Builtin.Int.intBits
    by_cases h0 : a = 0
    · subst h0; decide
    · rw [if_neg (by simpa using h0), Int.natAbs_natCast]
      exact Nat.lt_log2_self
  refine Nat.lt_of_lt_of_le h1 (Nat.pow_le_pow_right (by decide) ?_)
  unfold ndig
  have := Nat.div_add_mod (Builtin.Int.intBits (a : Int) + wd - 1) wd
  have h2 := Nat.mod_lt (Builtin.Int.intBits (a : Int) + wd - 1) (show 0 < wd by omega)
  omega
noncomputable abbrev qI : Str := Str.ofString "_int2digits.<locals>.inner"
noncomputable abbrev tI (cc : Addr) : Array Value := #[rawInt 33, rawInt 4, .ref cc]
theorem f_idigits {a wd : Nat} (ok : c.Ok w (n + 17)) (hw0 : 1 ≤ wd) (hwd : wd ≤ 4) (ha : a < 2 ^ (wd * 12)) 
    (h : ∀ d cc, R (.ref d) lo ((d, intsO (zs (digs wd (ndig wd a) a))) :: (cc, .code qI) :: (47, .raw (tabObj (tI cc))) :: led)) :
    Call prog w c (.ref 52) [.int a, .int wd] R lo ((47, .raw (tabObj #[])) :: led) := by
  refine Call_drop ?_
  refine call_fn (fd := ?fd) (fo := ?fo) (body := ?bd) (n := n + 16) (pn := ["a", "n"]) [some (.int a), none, none, none, none] (fun L => [(L + 3, .cell none), (L + 2, .cell none), (L + 1, .cell (some (.int wd)))]) ok ?hK ?hd ?hcd ?hbody ?hclo ?hgl ?hbl ?hb ?hkind ?hnd ?hlo ?hcl ?main ?e1 ?e2 ?e3
  (case hK | hd | hbody | hcd | hclo | hgl | hbl | hkind => with_unfolding_all rfl); (case hnd => with_unfolding_all decide); (case hlo => with_unfolding_all rfl); (case hcl => intro L; with_unfolding_all rfl); (case e1 | e2 | e3 => with_unfolding_all rfl)
  case hb => intro vs hl; obtain ⟨a, b, rfl⟩ := len2 hl; with_unfolding_all rfl
  case main =>
  intro c' ok' he hx
  have hN : c'.env.scope.names = nmOf 52 w := by rw [he]; with_unfolding_all rfl
  have hcode : c'.env.code = .ref 51 := by rw [he]; with_unfolding_all rfl
  have hc_n : c'.env.cells.lookup (Str.ofString "n") = some (c'.L + 1) := by rw [he]; with_unfolding_all rfl
  have hc_a_digits : c'.env.cells.lookup (Str.ofString "a_digits") = some (c'.L + 2) := by rw [he]; with_unfolding_all rfl
  have hc_inner : c'.env.cells.lookup (Str.ofString "inner") = some (c'.L + 3) := by rw [he]; with_unfolding_all rfl
  have hq : qualnameIn c'.env (Str.ofString "inner") (Str.ofString "inner") = qI := by rw [he]; with_unfolding_all rfl
  show WpS prog w c' _ _ _ ((c'.L + 3, .cell none) :: (c'.L + 2, .cell none) :: (c'.L + 1, .cell (some (.int wd))) :: ((47, .raw (tabObj #[])) :: led))
  have hnd := ndig_le hw0 ha
  have hlt := lt_ndig (a := a) hw0
  have hw1 : (wd : Int) ≠ 0 := by omega
  have hw2 : (wd : Int).natAbs < 2 ^ 200 := by rw [Int.natAbs_natCast]; exact Nat.lt_of_le_of_lt hwd (by decide)
  have hk : (((Builtin.Int.intBits (a : Int) : Nat) : Int) + (wd : Int) - 1).fdiv (wd : Int) = ((ndig wd a : Nat) : Int) := ndig_int hw0
  have hk0 : 0 ≤ (((Builtin.Int.intBits (a : Int) : Nat) : Int) + (wd : Int) - 1).fdiv (wd : Int) := by rw [hk]; omega
  have hk1 : ((((Builtin.Int.intBits (a : Int) : Nat) : Int) + (wd : Int) - 1).fdiv (wd : Int)).toNat ≤ 2 ^ 20 := by rw [hk]; omega
  with_reducible refine s_ca ?_; refine e_bin ?_; refine e_list ?_; refine a_1 ?_; refine e_int ?_
  refine ⟨by (first | assumption | decide | omega | (simp; done) | (simp; omega)), fun (ad1 : Addr) => ?_⟩
  with_reducible refine e_bin ?_; refine e_bin ?_; refine e_bin ?_; refine e_meth ?_; refine n_loc_0 ok' hN (nm_int2digits_a _) ?_
  (((with_reducible refine m_bits ?_); with_reducible refine cw1_blt ?_))
  with_reducible refine a_nil ?_; refine k_bits ?_; refine n_cell ok' hN (nm_int2digits_n _) hc_n (by (first | assumption | (refine At.mem ?_; (repeat (first | assumption | exact List.mem_cons_self | refine List.mem_cons_of_mem _ ?_))))) ?_
  (first | with_reducible refine b_add ?_ | with_reducible refine f_add ?_ | with_reducible refine b_sadd (by (first | exact rfl | exact lit_dot | exact lit_quote | exact lit_back | exact lit_nl | exact lit_cr | exact lit_crlf | exact lit_empty | exact lit_white)) (by (first | exact rfl | exact lit_dot | exact lit_quote | exact lit_back | exact lit_nl | exact lit_cr | exact lit_crlf | exact lit_empty | exact lit_white)) (by (first | assumption | decide | omega | (simp; done) | (simp; omega))) ?_)
  with_reducible refine e_int ?_
  (first | with_reducible refine b_sub ?_ | with_reducible refine f_sub ?_ | with_reducible refine f_subi (by (first | assumption | decide | omega | (simp; done) | (simp; omega))) ?_)
  with_reducible refine n_cell ok' hN (nm_int2digits_n _) hc_n (by (first | assumption | (refine At.mem ?_; (repeat (first | assumption | exact List.mem_cons_self | refine List.mem_cons_of_mem _ ?_))))) ?_
  (first | with_reducible refine b_div (by (first | assumption | decide | omega | (simp; done) | (simp; omega))) (by (first | assumption | decide | omega | (simp; done) | (simp; omega))) ?_)
  (first | with_reducible refine f_mul ?_ | with_reducible refine b_repi (by (repeat (first | assumption | exact List.mem_cons_self | refine List.mem_cons_of_mem _ ?_))) (by (first | assumption | decide | omega | (simp; done) | (simp; omega))) (by (first | assumption | decide | omega | (simp; done) | (simp; omega))) (fun _ => ?_) | with_reducible refine f_muli (by (first | assumption | decide | omega | (simp; done) | (simp; omega))) ?_ | with_reducible refine b_mul ?_ (by (first | assumption | decide | omega | (simp; done) | (simp; omega))) | with_reducible refine b_smul (by (first | exact rfl | exact lit_dot | exact lit_quote | exact lit_back | exact lit_nl | exact lit_cr | exact lit_crlf | exact lit_empty | exact lit_white)) (by (first | assumption | decide | omega | (simp; done) | (simp; omega))) (by (first | assumption | decide | omega | (simp; done) | (simp; omega))) ?_)
  with_reducible refine n_stoc ok' hN (nm_int2digits_a_digits _) hc_a_digits (by (first | assumption | exact .head | exact .tail .head | exact .tail (.tail .head) | exact .tail (.tail (.tail .head)) | exact .tail (.tail (.tail (.tail .head))) | exact .tail (.tail (.tail (.tail (.tail .head)))) | exact .tail (.tail (.tail (.tail (.tail (.tail .head))))) | exact .tail (.tail (.tail (.tail (.tail (.tail (.tail .head)))))) | exact .tail (.tail (.tail (.tail (.tail (.tail (.tail (.tail .head))))))) | exact .tail (.tail (.tail (.tail (.tail (.tail (.tail (.tail (.tail .head)))))))) | exact .tail (.tail (.tail (.tail (.tail (.tail (.tail (.tail (.tail (.tail .head))))))))) | exact .tail (.tail (.tail (.tail (.tail (.tail (.tail (.tail (.tail (.tail (.tail .head)))))))))) | exact .tail (.tail (.tail (.tail (.tail (.tail (.tail (.tail (.tail (.tail (.tail (.tail .head))))))))))) | exact .tail (.tail (.tail (.tail (.tail (.tail (.tail (.tail (.tail (.tail (.tail (.tail (.tail .head)))))))))))))) ?_
  rename_i la
  rw [hk, Int.toNat_natCast]
  generalize ndig wd a = k at hnd hlt h ⊢
  clear hk hk0 hk1
  with_reducible refine s_cons ?_
  refine WpS_perm _ (List.perm_middle (l₁ := [_, _, _, _, _])) ?_
  refine s_def (clos := [("n", c'.L + 1), ("inner", c'.L + 3), ("a_digits", c'.L + 2)]) ok' hcode ?_ ?_ ?_ ?_ ?_ ?_ ?_ (fun rf cc doc pm ctv => ?_)
  · with_unfolding_all rfl
  · trivial
  · rfl
  · rw [he]; with_unfolding_all rfl
  · rfl
  · rfl
  · with_unfolding_all rfl
  refine use_eq (o := innerDef 52 1 w) (x := ?x) ?e fun e => ?_
  case e => with_unfolding_all rfl
  generalize hfg : fnX _ _ _ _ _ _ _ _ _ _ _ _ _ = fd
  have hfd : IsInner w 52 1 [("n", c'.L + 1), ("inner", c'.L + 3), ("a_digits", c'.L + 2)] cc fd := ⟨_, _, _, _, _, _, _, _, _, e, hfg.symm⟩
  have hq2 : fd.qualname = qI := by rw [← hfg]; exact hq
  rw [hq]
  clear e hfg hq he
  generalize c'.L + 3 = ci at hc_inner hfd ⊢
  generalize c'.L + 2 = ca at hc_a_digits hfd ⊢
  generalize c'.L + 1 = cn at hc_n hfd ⊢
  show Sto prog w c' _ _ _ _ ((rf, .fn fd none) :: (cc, .code qI) :: (47, .raw (tabObj (tI cc))) :: (la, intsO (List.replicate k 0)) :: (ad1, _) :: (ci, .cell none) :: (ca, .cell (some (.ref la))) :: (cn, .cell (some (.int wd))) :: led)
  with_reducible refine n_stoc ok' hN (nm_int2digits_inner _) hc_inner (by (first | assumption | exact .head | exact .tail .head | exact .tail (.tail .head) | exact .tail (.tail (.tail .head)) | exact .tail (.tail (.tail (.tail .head))) | exact .tail (.tail (.tail (.tail (.tail .head)))) | exact .tail (.tail (.tail (.tail (.tail (.tail .head))))) | exact .tail (.tail (.tail (.tail (.tail (.tail (.tail .head)))))) | exact .tail (.tail (.tail (.tail (.tail (.tail (.tail (.tail .head))))))) | exact .tail (.tail (.tail (.tail (.tail (.tail (.tail (.tail (.tail .head)))))))) | exact .tail (.tail (.tail (.tail (.tail (.tail (.tail (.tail (.tail (.tail .head))))))))) | exact .tail (.tail (.tail (.tail (.tail (.tail (.tail (.tail (.tail (.tail (.tail .head)))))))))) | exact .tail (.tail (.tail (.tail (.tail (.tail (.tail (.tail (.tail (.tail (.tail (.tail .head))))))))))) | exact .tail (.tail (.tail (.tail (.tail (.tail (.tail (.tail (.tail (.tail (.tail (.tail (.tail .head)))))))))))))) ?_; refine then_next ?_
  refine WpS_perm ((la, intsO (List.replicate k 0)) :: (rf, .fn fd none) :: (cc, .code qI) :: (47, .raw (tabObj (tI cc))) :: (ad1, _) :: (ci, .cell (some (.ref rf))) :: (ca, .cell (some (.ref la))) :: (cn, .cell (some (.int wd))) :: led) perm_front3 ?_
  have hrep : List.replicate k (0 : Int) = zs (digs wd k 0) := by rw [digs_zero]; simp [zs]
  have hrl : (List.replicate k (0 : Int)).length = k := List.length_replicate
  have hwr : ∀ l : List Nat, l.length = k → written (List.replicate k 0) 0 k l = zs l := fun l hl => by
    unfold written; rw [List.take_zero, List.nil_append, List.drop_of_length_le (by rw [hrl]; exact Nat.le_refl _), List.append_nil]
  have hk2 : (List.replicate k (0 : Int)).length < 2 ^ 62 := by omega
  with_reducible refine s_cons ?_; refine s_if ?_; refine t_plain ?_; refine n_loc_0 ok' hN (nm_int2digits_a _) ?_
  refine tr_int ?_
  by_cases ha0 : a = 0
  · subst ha0
    refine ite_f (by simp) ?_
    refine s_end ?_
    with_reducible refine s_cr ?_; refine n_cell ok' hN (nm_int2digits_a_digits _) hc_a_digits (by (first | assumption | (refine At.mem ?_; (repeat (first | assumption | exact List.mem_cons_self | refine List.mem_cons_of_mem _ ?_))))) ?_
    rw [hrep]
    exact ⟨(la, intsO (zs (digs wd k 0))) :: (cc, .code qI) :: (47, .raw (tabObj (tI cc))) :: led, by (repeat (first | exact List.Sublist.refl _ | with_reducible refine List.Sublist.cons_cons _ ?_ | refine List.Sublist.cons _ ?_)), h la cc⟩
  · refine ite_t (by simpa using ha0) ?_
    have hkp : 0 < k := by
      rcases Nat.eq_zero_or_pos k with h0 | h0
      · rw [h0, Nat.mul_zero] at hlt; omega
      · exact h0
    with_reducible refine s_cx ok' ?_; refine e_call ?_; refine n_cell ok' hN (nm_int2digits_inner _) hc_inner (by (first | assumption | (refine At.mem ?_; (repeat (first | assumption | exact List.mem_cons_self | refine List.mem_cons_of_mem _ ?_))))) ?_
    (with_reducible refine cw0_clo ?_)
    with_reducible refine a_3 ?_; refine n_loc_0 ok' hN (nm_int2digits_a _) ?_; refine e_int ?_; refine e_cb ok' hN (nm_int2digits_len _) (bl_len _) ?_; refine a_1 ?_; refine n_cell ok' hN (nm_int2digits_a_digits _) hc_a_digits (by (first | assumption | (refine At.mem ?_; (repeat (first | assumption | exact List.mem_cons_self | refine List.mem_cons_of_mem _ ?_))))) ?_
    (first | with_reducible refine k_lenS (by (first | exact rfl | exact lit_dot | exact lit_quote | exact lit_back | exact lit_nl | exact lit_cr | exact lit_crlf | exact lit_empty | exact lit_white)) (by (first | assumption | decide | omega | (simp; done) | (simp; omega))) ?_ | with_reducible refine k_lenn (by (first | assumption | (refine IsL.mem ?_; (repeat (first | assumption | exact List.mem_cons_self | refine List.mem_cons_of_mem _ ?_))))) (by (first | assumption | decide | omega | (simp; done) | (simp; omega))) ?_ | with_reducible refine k_leni (by (first | assumption | (refine IsL.mem ?_; (repeat (first | assumption | exact List.mem_cons_self | refine List.mem_cons_of_mem _ ?_))))) (by (first | assumption | decide | omega | (simp; done) | (simp; omega))) ?_ | ((with_reducible refine k_lens ?h2 ?_); (case h2 => (first | assumption | decide | omega | (simp; done) | (simp; omega))))| with_reducible refine k_len (by (first | assumption | (refine IsL.mem ?_; (repeat (first | assumption | exact List.mem_cons_self | refine List.mem_cons_of_mem _ ?_))))) (by (first | assumption | decide | omega | (simp; done) | (simp; omega))) ?_)
    rw [hrl]
    refine ⟨_, _, At.mem (by (repeat (first | assumption | exact List.mem_cons_self | refine List.mem_cons_of_mem _ ?_))), CodeP.call (f_iinner (x := a) (L := 0) (H := k) (m := 12) (n := n + 1) hwd hfd ok' hkp (by omega) (by omega) (by omega) (by rw [Nat.sub_zero]; exact hlt) (by (repeat (first | assumption | exact List.mem_cons_self | refine List.mem_cons_of_mem _ ?_))) (by rw [hq2]; (repeat (first | assumption | exact List.mem_cons_self | refine List.mem_cons_of_mem _ ?_))) (by (repeat (first | assumption | exact List.mem_cons_self | refine List.mem_cons_of_mem _ ?_))) (by (repeat (first | assumption | exact List.mem_cons_self | refine List.mem_cons_of_mem _ ?_))) (by (repeat (first | assumption | exact List.mem_cons_self | refine List.mem_cons_of_mem _ ?_))) ?_)⟩
    rw [Nat.sub_zero, hwr _ (digs_len _ _ _)]
    refine s_end ?_
    with_reducible refine s_cr ?_; refine n_cell ok' hN (nm_int2digits_a_digits _) hc_a_digits (by (first | assumption | (refine At.mem ?_; (repeat (first | assumption | exact List.mem_cons_self | refine List.mem_cons_of_mem _ ?_))))) ?_
    exact ⟨(la, intsO (zs (digs wd k a))) :: (cc, .code qI) :: (47, .raw (tabObj (tI cc))) :: led, by (repeat (first | exact List.Sublist.refl _ | with_reducible refine List.Sublist.cons_cons _ ?_ | refine List.Sublist.cons _ ?_)), h la cc⟩
theorem f_idigits_hit {a wd : Nat} {cc : Addr} (ok : c.Ok w (n + 17)) (hw0 : 1 ≤ wd) (hwd : wd ≤ 4) (ha : a < 2 ^ (wd * 12)) (hP : (47, .raw (tabObj (tI cc))) ∈ led) (hcc : (cc, .code qI) ∈ led) 
    (h : ∀ d, R (.ref d) lo ((d, intsO (zs (digs wd (ndig wd a) a))) :: led)) :
    Call prog w c (.ref 52) [.int a, .int wd] R lo led := by
  refine Call_drop ?_
  refine call_fn (fd := ?fd) (fo := ?fo) (body := ?bd) (n := n + 16) (pn := ["a", "n"]) [some (.int a), none, none, none, none] (fun L => [(L + 3, .cell none), (L + 2, .cell none), (L + 1, .cell (some (.int wd)))]) ok ?hK ?hd ?hcd ?hbody ?hclo ?hgl ?hbl ?hb ?hkind ?hnd ?hlo ?hcl ?main ?e1 ?e2 ?e3
  (case hK | hd | hbody | hcd | hclo | hgl | hbl | hkind => with_unfolding_all rfl); (case hnd => with_unfolding_all decide); (case hlo => with_unfolding_all rfl); (case hcl => intro L; with_unfolding_all rfl); (case e1 | e2 | e3 => with_unfolding_all rfl)
  case hb => intro vs hl; obtain ⟨a, b, rfl⟩ := len2 hl; with_unfolding_all rfl
  case main =>
  intro c' ok' he hx
  have hN : c'.env.scope.names = nmOf 52 w := by rw [he]; with_unfolding_all rfl
  have hcode : c'.env.code = .ref 51 := by rw [he]; with_unfolding_all rfl
  have hc_n : c'.env.cells.lookup (Str.ofString "n") = some (c'.L + 1) := by rw [he]; with_unfolding_all rfl
  have hc_a_digits : c'.env.cells.lookup (Str.ofString "a_digits") = some (c'.L + 2) := by rw [he]; with_unfolding_all rfl
  have hc_inner : c'.env.cells.lookup (Str.ofString "inner") = some (c'.L + 3) := by rw [he]; with_unfolding_all rfl
  have hq : qualnameIn c'.env (Str.ofString "inner") (Str.ofString "inner") = qI := by rw [he]; with_unfolding_all rfl
  show WpS prog w c' _ _ _ ((c'.L + 3, .cell none) :: (c'.L + 2, .cell none) :: (c'.L + 1, .cell (some (.int wd))) :: led)
  have hnd := ndig_le hw0 ha
  have hlt := lt_ndig (a := a) hw0
  have hw1 : (wd : Int) ≠ 0 := by omega
  have hw2 : (wd : Int).natAbs < 2 ^ 200 := by rw [Int.natAbs_natCast]; exact Nat.lt_of_le_of_lt hwd (by decide)
  have hk : (((Builtin.Int.intBits (a : Int) : Nat) : Int) + (wd : Int) - 1).fdiv (wd : Int) = ((ndig wd a : Nat) : Int) := ndig_int hw0
  have hk0 : 0 ≤ (((Builtin.Int.intBits (a : Int) : Nat) : Int) + (wd : Int) - 1).fdiv (wd : Int) := by rw [hk]; omega
  have hk1 : ((((Builtin.Int.intBits (a : Int) : Nat) : Int) + (wd : Int) - 1).fdiv (wd : Int)).toNat ≤ 2 ^ 20 := by rw [hk]; omega
  with_reducible refine s_ca ?_; refine e_bin ?_; refine e_list ?_; refine a_1 ?_; refine e_int ?_
  refine ⟨by (first | assumption | decide | omega | (simp; done) | (simp; omega)), fun (ad1 : Addr) => ?_⟩
  with_reducible refine e_bin ?_; refine e_bin ?_; refine e_bin ?_; refine e_meth ?_; refine n_loc_0 ok' hN (nm_int2digits_a _) ?_
  (((with_reducible refine m_bits ?_); with_reducible refine cw1_blt ?_))
  with_reducible refine a_nil ?_; refine k_bits ?_; refine n_cell ok' hN (nm_int2digits_n _) hc_n (by (first | assumption | (refine At.mem ?_; (repeat (first | assumption | exact List.mem_cons_self | refine List.mem_cons_of_mem _ ?_))))) ?_
  (first | with_reducible refine b_add ?_ | with_reducible refine f_add ?_ | with_reducible refine b_sadd (by (first | exact rfl | exact lit_dot | exact lit_quote | exact lit_back | exact lit_nl | exact lit_cr | exact lit_crlf | exact lit_empty | exact lit_white)) (by (first | exact rfl | exact lit_dot | exact lit_quote | exact lit_back | exact lit_nl | exact lit_cr | exact lit_crlf | exact lit_empty | exact lit_white)) (by (first | assumption | decide | omega | (simp; done) | (simp; omega))) ?_)
  with_reducible refine e_int ?_
  (first | with_reducible refine b_sub ?_ | with_reducible refine f_sub ?_ | with_reducible refine f_subi (by (first | assumption | decide | omega | (simp; done) | (simp; omega))) ?_)
  with_reducible refine n_cell ok' hN (nm_int2digits_n _) hc_n (by (first | assumption | (refine At.mem ?_; (repeat (first | assumption | exact List.mem_cons_self | refine List.mem_cons_of_mem _ ?_))))) ?_
  (first | with_reducible refine b_div (by (first | assumption | decide | omega | (simp; done) | (simp; omega))) (by (first | assumption | decide | omega | (simp; done) | (simp; omega))) ?_)
  (first | with_reducible refine f_mul ?_ | with_reducible refine b_repi (by (repeat (first | assumption | exact List.mem_cons_self | refine List.mem_cons_of_mem _ ?_))) (by (first | assumption | decide | omega | (simp; done) | (simp; omega))) (by (first | assumption | decide | omega | (simp; done) | (simp; omega))) (fun _ => ?_) | with_reducible refine f_muli (by (first | assumption | decide | omega | (simp; done) | (simp; omega))) ?_ | with_reducible refine b_mul ?_ (by (first | assumption | decide | omega | (simp; done) | (simp; omega))) | with_reducible refine b_smul (by (first | exact rfl | exact lit_dot | exact lit_quote | exact lit_back | exact lit_nl | exact lit_cr | exact lit_crlf | exact lit_empty | exact lit_white)) (by (first | assumption | decide | omega | (simp; done) | (simp; omega))) (by (first | assumption | decide | omega | (simp; done) | (simp; omega))) ?_)
  with_reducible refine n_stoc ok' hN (nm_int2digits_a_digits _) hc_a_digits (by (first | assumption | exact .head | exact .tail .head | exact .tail (.tail .head) | exact .tail (.tail (.tail .head)) | exact .tail (.tail (.tail (.tail .head))) | exact .tail (.tail (.tail (.tail (.tail .head)))) | exact .tail (.tail (.tail (.tail (.tail (.tail .head))))) | exact .tail (.tail (.tail (.tail (.tail (.tail (.tail .head)))))) | exact .tail (.tail (.tail (.tail (.tail (.tail (.tail (.tail .head))))))) | exact .tail (.tail (.tail (.tail (.tail (.tail (.tail (.tail (.tail .head)))))))) | exact .tail (.tail (.tail (.tail (.tail (.tail (.tail (.tail (.tail (.tail .head))))))))) | exact .tail (.tail (.tail (.tail (.tail (.tail (.tail (.tail (.tail (.tail (.tail .head)))))))))) | exact .tail (.tail (.tail (.tail (.tail (.tail (.tail (.tail (.tail (.tail (.tail (.tail .head))))))))))) | exact .tail (.tail (.tail (.tail (.tail (.tail (.tail (.tail (.tail (.tail (.tail (.tail (.tail .head)))))))))))))) ?_
  rename_i la
  rw [hk, Int.toNat_natCast]
  generalize ndig wd a = k at hnd hlt h ⊢
  clear hk hk0 hk1
  with_reducible refine s_cons ?_
  refine s_def_hit (clos := [("n", c'.L + 1), ("inner", c'.L + 3), ("a_digits", c'.L + 2)]) (c' := cc) (ps := tI cc) ok' hcode ?_ ?_ ?_ ?_ ?_ ?_ ?_ (by (repeat (first | assumption | exact List.mem_cons_self | refine List.mem_cons_of_mem _ ?_))) (fun rf doc pm ctv => ?_)
  · with_unfolding_all rfl
  · trivial
  · with_unfolding_all rfl
  · rw [he]; with_unfolding_all rfl
  · rfl
  · rfl
  · with_unfolding_all rfl
  refine use_eq (o := innerDef 52 1 w) (x := ?x) ?e fun e => ?_
  case e => with_unfolding_all rfl
  generalize hfg : fnX _ _ _ _ _ _ _ _ _ _ _ _ _ = fd
  have hfd : IsInner w 52 1 [("n", c'.L + 1), ("inner", c'.L + 3), ("a_digits", c'.L + 2)] cc fd := ⟨_, _, _, _, _, _, _, _, _, e, hfg.symm⟩
  have hq2 : fd.qualname = qI := by rw [← hfg]; exact hq
  clear e hfg hq he
  generalize c'.L + 3 = ci at hc_inner hfd ⊢
  generalize c'.L + 2 = ca at hc_a_digits hfd ⊢
  generalize c'.L + 1 = cn at hc_n hfd ⊢
  with_reducible refine n_stoc ok' hN (nm_int2digits_inner _) hc_inner (by (first | assumption | exact .head | exact .tail .head | exact .tail (.tail .head) | exact .tail (.tail (.tail .head)) | exact .tail (.tail (.tail (.tail .head))) | exact .tail (.tail (.tail (.tail (.tail .head)))) | exact .tail (.tail (.tail (.tail (.tail (.tail .head))))) | exact .tail (.tail (.tail (.tail (.tail (.tail (.tail .head)))))) | exact .tail (.tail (.tail (.tail (.tail (.tail (.tail (.tail .head))))))) | exact .tail (.tail (.tail (.tail (.tail (.tail (.tail (.tail (.tail .head)))))))) | exact .tail (.tail (.tail (.tail (.tail (.tail (.tail (.tail (.tail (.tail .head))))))))) | exact .tail (.tail (.tail (.tail (.tail (.tail (.tail (.tail (.tail (.tail (.tail .head)))))))))) | exact .tail (.tail (.tail (.tail (.tail (.tail (.tail (.tail (.tail (.tail (.tail (.tail .head))))))))))) | exact .tail (.tail (.tail (.tail (.tail (.tail (.tail (.tail (.tail (.tail (.tail (.tail (.tail .head)))))))))))))) ?_; refine then_next ?_
  refine WpS_perm ((la, intsO (List.replicate k 0)) :: (rf, .fn fd none) :: (ad1, _) :: (ci, .cell (some (.ref rf))) :: (ca, .cell (some (.ref la))) :: (cn, .cell (some (.int wd))) :: led) (List.Perm.swap _ _ _) ?_
  have hrep : List.replicate k (0 : Int) = zs (digs wd k 0) := by rw [digs_zero]; simp [zs]
  have hrl : (List.replicate k (0 : Int)).length = k := List.length_replicate
  have hwr : ∀ l : List Nat, l.length = k → written (List.replicate k 0) 0 k l = zs l := fun l hl => by
    unfold written; rw [List.take_zero, List.nil_append, List.drop_of_length_le (by rw [hrl]; exact Nat.le_refl _), List.append_nil]
  have hk2 : (List.replicate k (0 : Int)).length < 2 ^ 62 := by omega
  with_reducible refine s_cons ?_; refine s_if ?_; refine t_plain ?_; refine n_loc_0 ok' hN (nm_int2digits_a _) ?_
  refine tr_int ?_
  by_cases ha0 : a = 0
  · subst ha0
    refine ite_f (by simp) ?_
    refine s_end ?_
    with_reducible refine s_cr ?_; refine n_cell ok' hN (nm_int2digits_a_digits _) hc_a_digits (by (first | assumption | (refine At.mem ?_; (repeat (first | assumption | exact List.mem_cons_self | refine List.mem_cons_of_mem _ ?_))))) ?_
    rw [hrep]
    exact ⟨(la, intsO (zs (digs wd k 0))) :: led, by (repeat (first | exact List.Sublist.refl _ | with_reducible refine List.Sublist.cons_cons _ ?_ | refine List.Sublist.cons _ ?_)), h la⟩
  · refine ite_t (by simpa using ha0) ?_
    have hkp : 0 < k := by
      rcases Nat.eq_zero_or_pos k with h0 | h0
      · rw [h0, Nat.mul_zero] at hlt; omega
      · exact h0
    with_reducible refine s_cx ok' ?_; refine e_call ?_; refine n_cell ok' hN (nm_int2digits_inner _) hc_inner (by (first | assumption | (refine At.mem ?_; (repeat (first | assumption | exact List.mem_cons_self | refine List.mem_cons_of_mem _ ?_))))) ?_
    (with_reducible refine cw0_clo ?_)
    with_reducible refine a_3 ?_; refine n_loc_0 ok' hN (nm_int2digits_a _) ?_; refine e_int ?_; refine e_cb ok' hN (nm_int2digits_len _) (bl_len _) ?_; refine a_1 ?_; refine n_cell ok' hN (nm_int2digits_a_digits _) hc_a_digits (by (first | assumption | (refine At.mem ?_; (repeat (first | assumption | exact List.mem_cons_self | refine List.mem_cons_of_mem _ ?_))))) ?_
    (first | with_reducible refine k_lenS (by (first | exact rfl | exact lit_dot | exact lit_quote | exact lit_back | exact lit_nl | exact lit_cr | exact lit_crlf | exact lit_empty | exact lit_white)) (by (first | assumption | decide | omega | (simp; done) | (simp; omega))) ?_ | with_reducible refine k_lenn (by (first | assumption | (refine IsL.mem ?_; (repeat (first | assumption | exact List.mem_cons_self | refine List.mem_cons_of_mem _ ?_))))) (by (first | assumption | decide | omega | (simp; done) | (simp; omega))) ?_ | with_reducible refine k_leni (by (first | assumption | (refine IsL.mem ?_; (repeat (first | assumption | exact List.mem_cons_self | refine List.mem_cons_of_mem _ ?_))))) (by (first | assumption | decide | omega | (simp; done) | (simp; omega))) ?_ | ((with_reducible refine k_lens ?h2 ?_); (case h2 => (first | assumption | decide | omega | (simp; done) | (simp; omega))))| with_reducible refine k_len (by (first | assumption | (refine IsL.mem ?_; (repeat (first | assumption | exact List.mem_cons_self | refine List.mem_cons_of_mem _ ?_))))) (by (first | assumption | decide | omega | (simp; done) | (simp; omega))) ?_)
    rw [hrl]
    refine ⟨_, _, At.mem (by (repeat (first | assumption | exact List.mem_cons_self | refine List.mem_cons_of_mem _ ?_))), CodeP.call (f_iinner (x := a) (L := 0) (H := k) (m := 12) (n := n + 1) hwd hfd ok' hkp (by omega) (by omega) (by omega) (by rw [Nat.sub_zero]; exact hlt) (by (repeat (first | assumption | exact List.mem_cons_self | refine List.mem_cons_of_mem _ ?_))) (by rw [hq2]; (repeat (first | assumption | exact List.mem_cons_self | refine List.mem_cons_of_mem _ ?_))) (by (repeat (first | assumption | exact List.mem_cons_self | refine List.mem_cons_of_mem _ ?_))) (by (repeat (first | assumption | exact List.mem_cons_self | refine List.mem_cons_of_mem _ ?_))) (by (repeat (first | assumption | exact List.mem_cons_self | refine List.mem_cons_of_mem _ ?_))) ?_)⟩
    rw [Nat.sub_zero, hwr _ (digs_len _ _ _)]
    refine s_end ?_
    with_reducible refine s_cr ?_; refine n_cell ok' hN (nm_int2digits_a_digits _) hc_a_digits (by (first | assumption | (refine At.mem ?_; (repeat (first | assumption | exact List.mem_cons_self | refine List.mem_cons_of_mem _ ?_))))) ?_
    exact ⟨(la, intsO (zs (digs wd k a))) :: led, by (repeat (first | exact List.Sublist.refl _ | with_reducible refine List.Sublist.cons_cons _ ?_ | refine List.Sublist.cons _ ?_)), h la⟩
end
section
variable {prog : Program} {w : World} {c : Cx} {n : Nat} {lo : Lo} {led led' : Led} {R : AV → Lo → Led → Prop}
noncomputable def bits (xs : List Nat) (size : Nat) : List Nat := (List.range size).map fun k => if xs.contains k then 1 else 0
theorem bitsO_eq (xs : List Nat) (size : Nat) : natsO (bits xs size) = .list (List.map (fun k => AV.int ((if xs.contains k then 1 else 0 : Nat) : Int)) (List.range size)) := by
  show AO.list _ = AO.list _
  unfold bits
  rw [List.map_map]; rfl
theorem bits_len (xs : List Nat) (size : Nat) : (bits xs size).length = size := by simp [bits]
theorem bits_lt {xs : List Nat} {size wd : Nat} (hw : 1 ≤ wd) : ∀ d ∈ bits xs size, d < 2 ^ wd := fun d hd => by
  obtain ⟨k, _, rfl⟩ := List.mem_map.mp hd
  refine Nat.lt_of_lt_of_le (m := 2 ^ 1) ?_ (Nat.pow_le_pow_right (by decide) hw)
  split <;> decide
theorem digs_pad {wd k s x : Nat} (hk : k ≤ s) (hx : x < 2 ^ (wd * k)) : zs (digs wd s x) = zs (digs wd k x) ++ List.replicate (s - k) 0 := by
  rw [show s = k + (s - k) by omega, digs_app, Nat.mod_eq_of_lt hx, Nat.div_eq_of_lt hx, digs_zero, show k + (s - k) - k = s - k by omega]
  simp [zs]
theorem f_division {la lb : Addr} {xs ys : List Nat} {size wd : Nat} (ok : c.Ok w (n + 20)) (hs0 : 1 ≤ size) (hs : size ≤ 12) (hw0 : 2 ≤ wd) (hwd : wd ≤ 4) (ha : (la, natsO xs) ∈ led) (hb : (lb, natsO ys) ∈ led)
    (h : ∀ a l₁ l₂ p1 p2, R (.ref a) lo ((a, .list [.ref l₁, .ref l₂]) :: (l₂, intsO (zs (digs wd size (dval wd (bits xs size) * dval wd (bits ys size) / (2 ^ (wd * size) - 1))))) :: (l₁, intsO (zs (digs wd size (dval wd (bits xs size) * dval wd (bits ys size) % (2 ^ (wd * size) - 1))))) :: (47, .raw (tabObj p2)) :: (54, .raw (tabObj p1)) :: led)) :
    Call prog w c (.ref 184) [.ref la, .ref lb, .int size, .int wd] R lo ((54, .raw (tabObj #[])) :: (47, .raw (tabObj #[])) :: led) := by
  refine Call_drop ?_
  refine call_fn (fd := ?fd) (fo := ?fo) (body := ?bd) (n := n + 19) (pn := ["ones", "others", "size", "width"]) [none, none, some (.int size), some (.int wd), none, none, none, none, none, none, none, none, none, none, none] (fun L => [(L + 2, .cell (some (.ref lb))), (L + 1, .cell (some (.ref la)))]) ok ?hK ?hd ?hcd ?hbody ?hclo ?hgl ?hbl ?hb ?hkind ?hnd ?hlo ?hcl ?main ?e1 ?e2 ?e3
  (case hK | hd | hbody | hcd | hclo | hgl | hbl | hkind => with_unfolding_all rfl); (case hnd => with_unfolding_all decide); (case hlo => with_unfolding_all rfl); (case hcl => intro L; with_unfolding_all rfl); (case e1 | e2 | e3 => with_unfolding_all rfl)
  case hb => intro vs hl; obtain ⟨a, b, d, e, rfl⟩ := len4 hl; with_unfolding_all rfl
  case main =>
  intro c' ok' he hx
  have hN : c'.env.scope.names = nmOf 184 w := by rw [he]; with_unfolding_all rfl
  have hc_ones : c'.env.cells.lookup (Str.ofString "ones") = some (c'.L + 1) := by rw [he]; with_unfolding_all rfl
  have hc_others : c'.env.cells.lookup (Str.ofString "others") = some (c'.L + 2) := by rw [he]; with_unfolding_all rfl
  show WpS prog w c' _ _ _ ((c'.L + 2, .cell (some (.ref lb))) :: (c'.L + 1, .cell (some (.ref la))) :: (54, .raw (tabObj #[])) :: (47, .raw (tabObj #[])) :: led)
  with_reducible refine s_cons ?_; refine s_asg ?_; refine e_call ?_; refine n_glob ok' hN (nm_l_by_division_digits2int _) (gl_digits2int _) ?_; refine cw0_fn ok' (keep_digits2int _) ?_; refine a_cons ?_
  refine e_map_range size (fun k => AV.int ((if xs.contains k then 1 else 0 : Nat) : Int)) (fun lo => ∃ kv, lo = [none, kv, none]) [none, none, none] (cl := [("ones", c'.L + 1)]) ok' ?clos0 rfl (by (exact fun _ => look_none (by simp))) (by (exact names_ok (by with_unfolding_all rfl))) (fun L => by with_unfolding_all rfl) (by omega) ⟨none, rfl⟩ ?_
  case clos0 => rw [he]; with_unfolding_all rfl
  with_reducible refine e_ct ok' hN (nm_l_by_division_range _) (bl_range _) ?_; refine a_1 ?_; refine n_loc_2 ok' hN (nm_l_by_division_size _) ?_
  (with_reducible refine k_range (fun _ => ?_))
  refine ⟨_, _, rfl, rfl, ?_, fun d0 => ?_⟩
  · intro it acc c1 ok1 he1 hx1 o k ys' lo hk ⟨kv, hL⟩
    subst hL
    have hN1 : c1.env.scope.names = ns_l_by_division_c0 := by rw [he1, he]; with_unfolding_all rfl
    have hc_ones : c1.env.cells.lookup (Str.ofString "ones") = some (c'.L + 1) := by rw [he1, he]; with_unfolding_all rfl
    with_reducible refine n_sto_1 ok1 hN1 nm_l_by_division_c0_k ?_; refine e_ife ?_; refine t_cmp ?_; refine n_loc_1 ok1 hN1 nm_l_by_division_c0_k ?_; refine n_cell ok1 hN1 nm_l_by_division_c0_ones hc_ones (by (first | assumption | (refine At.mem ?_; (repeat (first | assumption | exact List.mem_cons_self | refine List.mem_cons_of_mem _ ?_))))) ?_
    (first | with_reducible refine c_inn (by (first | assumption | (refine IsL.mem ?_; (repeat (first | assumption | exact List.mem_cons_self | refine List.mem_cons_of_mem _ ?_))))) rfl ?_ | with_reducible refine c_in (by (first | assumption | (refine IsL.mem ?_; (repeat (first | assumption | exact List.mem_cons_self | refine List.mem_cons_of_mem _ ?_))))) ?_)
    with_reducible refine t_bool ?_
    refine b_if (fun e1 => ?_) fun e1 => ?_
    · with_reducible refine e_int ?_
      exact ⟨by rw [e1]; rfl, ⟨_, rfl⟩, List.Sublist.refl _⟩
    · with_reducible refine e_int ?_
      exact ⟨by rw [e1]; rfl, ⟨_, rfl⟩, List.Sublist.refl _⟩
  show Args prog w c' _ _ _ _ ((d0, .list (List.map (fun k => AV.int ((if xs.contains k then 1 else 0 : Nat) : Int)) (List.range size))) :: (c'.L + 2, .cell (some (.ref lb))) :: (c'.L + 1, .cell (some (.ref la))) :: (54, .raw (tabObj #[])) :: (47, .raw (tabObj #[])) :: led)
  rw [← bitsO_eq]
  have hbl : ∀ zs : List Nat, (bits zs size).length ≤ 12 := fun zs => by rw [bits_len]; exact hs
  have hbn : ∀ zs : List Nat, bits zs size ≠ [] := fun zs e => by have := congrArg List.length e; rw [bits_len] at this; simp at this; omega
  with_reducible refine a_1 ?_; refine n_loc_3 ok' hN (nm_l_by_division_width _) ?_
  refine Call_perm ((54, .raw (tabObj #[])) :: (d0, natsO (bits xs size)) :: (c'.L + 2, .cell (some (.ref lb))) :: (c'.L + 1, .cell (some (.ref la))) :: (47, .raw (tabObj #[])) :: led) (List.perm_middle (l₁ := [_, _, _])) ?_
  refine f_digits (n := n + 2) ok' (bits_lt (by omega)) (hbn xs) (hbl xs) hwd (by (repeat (first | assumption | exact List.mem_cons_self | refine List.mem_cons_of_mem _ ?_))) (fun cc => ?_)
  with_reducible refine n_sto_4 ok' hN (nm_l_by_division_one _) ?_; refine then_next ?_; refine s_cons ?_; refine s_asg ?_; refine e_call ?_; refine n_glob ok' hN (nm_l_by_division_digits2int _) (gl_digits2int _) ?_; refine cw0_fn ok' (keep_digits2int _) ?_; refine a_cons ?_
  refine e_map_range size (fun k => AV.int ((if ys.contains k then 1 else 0 : Nat) : Int)) (fun lo => ∃ kv, lo = [none, kv, none]) [none, none, none] (cl := [("others", c'.L + 2)]) ok' ?clos1 rfl (by (exact fun _ => look_none (by simp))) (by (exact names_ok (by with_unfolding_all rfl))) (fun L => by with_unfolding_all rfl) (by omega) ⟨none, rfl⟩ ?_
  case clos1 => rw [he]; with_unfolding_all rfl
  with_reducible refine e_ct ok' hN (nm_l_by_division_range _) (bl_range _) ?_; refine a_1 ?_; refine n_loc_2 ok' hN (nm_l_by_division_size _) ?_
  (with_reducible refine k_range (fun _ => ?_))
  refine ⟨_, _, rfl, rfl, ?_, fun d1 => ?_⟩
  · intro it acc c1 ok1 he1 hx1 o k ys' lo hk ⟨kv, hL⟩
    subst hL
    have hN1 : c1.env.scope.names = ns_l_by_division_c1 := by rw [he1, he]; with_unfolding_all rfl
    have hc_others : c1.env.cells.lookup (Str.ofString "others") = some (c'.L + 2) := by rw [he1, he]; with_unfolding_all rfl
    with_reducible refine n_sto_1 ok1 hN1 nm_l_by_division_c1_k ?_; refine e_ife ?_; refine t_cmp ?_; refine n_loc_1 ok1 hN1 nm_l_by_division_c1_k ?_; refine n_cell ok1 hN1 nm_l_by_division_c1_others hc_others (by (first | assumption | (refine At.mem ?_; (repeat (first | assumption | exact List.mem_cons_self | refine List.mem_cons_of_mem _ ?_))))) ?_
    (first | with_reducible refine c_inn (by (first | assumption | (refine IsL.mem ?_; (repeat (first | assumption | exact List.mem_cons_self | refine List.mem_cons_of_mem _ ?_))))) rfl ?_ | with_reducible refine c_in (by (first | assumption | (refine IsL.mem ?_; (repeat (first | assumption | exact List.mem_cons_self | refine List.mem_cons_of_mem _ ?_))))) ?_)
    with_reducible refine t_bool ?_
    refine b_if (fun e1 => ?_) fun e1 => ?_
    · with_reducible refine e_int ?_
      exact ⟨by rw [e1]; rfl, ⟨_, rfl⟩, List.Sublist.refl _⟩
    · with_reducible refine e_int ?_
      exact ⟨by rw [e1]; rfl, ⟨_, rfl⟩, List.Sublist.refl _⟩
  show Args prog w c' _ _ _ _ ((d1, .list (List.map (fun k => AV.int ((if ys.contains k then 1 else 0 : Nat) : Int)) (List.range size))) :: (cc, .code qD) :: (54, .raw (tabObj (tD cc))) :: (d0, natsO (bits xs size)) :: (c'.L + 2, .cell (some (.ref lb))) :: (c'.L + 1, .cell (some (.ref la))) :: (47, .raw (tabObj #[])) :: led)
  rw [← bitsO_eq]
  clear he
  with_reducible refine a_1 ?_; refine n_loc_3 ok' hN (nm_l_by_division_width _) ?_
  refine f_digits_hit (n := n + 2) (cc := cc) ok' (bits_lt (by omega)) (hbn ys) (hbl ys) hwd (by (repeat (first | assumption | exact List.mem_cons_self | refine List.mem_cons_of_mem _ ?_))) (by (repeat (first | assumption | exact List.mem_cons_self | refine List.mem_cons_of_mem _ ?_))) (by (repeat (first | assumption | exact List.mem_cons_self | refine List.mem_cons_of_mem _ ?_))) ?_
  with_reducible refine n_sto_5 ok' hN (nm_l_by_division_other _) ?_; refine then_next ?_
  have hX : dval wd (bits xs size) < 2 ^ (wd * size) := by have := dval_lt wd (bits xs size) (bits_lt (by omega)); rwa [bits_len] at this
  have hY : dval wd (bits ys size) < 2 ^ (wd * size) := by have := dval_lt wd (bits ys size) (bits_lt (by omega)); rwa [bits_len] at this
  generalize dval wd (bits xs size) = X at hX h ⊢
  generalize dval wd (bits ys size) = Y at hY h ⊢
  have hws : wd * size ≤ 48 := Nat.mul_le_mul hwd hs
  have hws2 : 2 ≤ wd * size := Nat.le_trans (by omega) (Nat.mul_le_mul hw0 hs0)
  have hP48 : 2 ^ (wd * size) ≤ 2 ^ 48 := Nat.pow_le_pow_right (by decide) hws
  have hP4 : 2 ^ 2 ≤ 2 ^ (wd * size) := Nat.pow_le_pow_right (by decide) hws2
  have hXY : IntMulOk (X : Int) (Y : Int) := mulok_small (by omega) (by omega)
  have hSW : IntMulOk (size : Int) (wd : Int) := mulok_small (by omega) (by omega)
  have hsi : (size : Int) * (wd : Int) = ((wd * size : Nat) : Int) := by rw [Nat.mul_comm, Int.natCast_mul]
  have hp0 : 0 ≤ (size : Int) * (wd : Int) := by rw [hsi]; omega
  have hp1 : ((Builtin.Int.intBits 2 : Nat) : Int) * ((size : Int) * (wd : Int)) ≤ 2 ^ 27 := by
    rw [show Builtin.Int.intBits 2 = 2 by decide +kernel, hsi]; omega
  have hMi : (2 : Int) ^ ((size : Int) * (wd : Int)).toNat - 1 = ((2 ^ (wd * size) - 1 : Nat) : Int) := by
    rw [hsi, Int.toNat_natCast, Int.natCast_sub (by omega), Int.natCast_pow]; rfl
  have hAi : (X : Int) * (Y : Int) = ((X * Y : Nat) : Int) := (Int.natCast_mul X Y).symm
  have hM0 : ((2 ^ (wd * size) - 1 : Nat) : Int) ≠ 0 := by omega
  have hpy : Builtin.divisionGoesByPylong ((X * Y : Nat) : Int) ((2 ^ (wd * size) - 1 : Nat) : Int) = false := smallDiv (by
    rw [Int.natAbs_natCast]; exact Nat.lt_of_le_of_lt (Nat.le_trans (Nat.sub_le _ _) hP48) (by decide))
  have hXYb : X * Y < 2 ^ 96 := by
    calc X * Y ≤ (2 ^ (wd * size)) * Y := Nat.mul_le_mul_right _ (by omega)
      _ < 2 ^ (wd * size) * 2 ^ (wd * size) := Nat.mul_lt_mul_of_pos_left hY (Nat.two_pow_pos _)
      _ ≤ 2 ^ 48 * 2 ^ 48 := Nat.mul_le_mul hP48 hP48
      _ = 2 ^ 96 := by decide
  have hbits : ((Builtin.Int.intBits ((X * Y : Nat) : Int) : Nat) : Int) - ((wd * size : Nat) : Int) ≤ 4000 := by
    have : Builtin.Int.intBits ((X * Y : Nat) : Int) ≤ 96 := intBits_le (by rw [Int.natAbs_natCast]; exact hXYb)
    omega
  have hq : X * Y / (2 ^ (wd * size) - 1) < 2 ^ (wd * size) := by
    refine Nat.lt_of_le_of_lt (m := 2 ^ (wd * size) - 1) ?_ (by omega)
    refine Nat.div_le_of_le_mul ?_
    exact Nat.mul_le_mul (by omega) (by omega)
  have hr : X * Y % (2 ^ (wd * size) - 1) < 2 ^ (wd * size) := Nat.lt_of_lt_of_le (Nat.mod_lt _ (by omega)) (Nat.sub_le _ _)
  with_reducible refine s_cons ?_; refine s_asgt2 ok' ?_; refine e_cg ok' hN (nm_l_by_division_div2n1n _) (gl_div2n1n _) (keep_div2n1n _) ?_; refine a_3 ?_; refine e_bin ?_; refine n_loc_4 ok' hN (nm_l_by_division_one _) ?_; refine n_loc_5 ok' hN (nm_l_by_division_other _) ?_
  (first | with_reducible refine f_mul ?_ | with_reducible refine b_repi (by (repeat (first | assumption | exact List.mem_cons_self | refine List.mem_cons_of_mem _ ?_))) (by (first | assumption | decide | omega | (simp; done) | (simp; omega))) (by (first | assumption | decide | omega | (simp; done) | (simp; omega))) (fun _ => ?_) | with_reducible refine f_muli (by (first | assumption | decide | omega | (simp; done) | (simp; omega))) ?_ | with_reducible refine b_mul ?_ (by (first | assumption | decide | omega | (simp; done) | (simp; omega))) | with_reducible refine b_smul (by (first | exact rfl | exact lit_dot | exact lit_quote | exact lit_back | exact lit_nl | exact lit_cr | exact lit_crlf | exact lit_empty | exact lit_white)) (by (first | assumption | decide | omega | (simp; done) | (simp; omega))) (by (first | assumption | decide | omega | (simp; done) | (simp; omega))) ?_)
  with_reducible refine e_bin ?_; refine e_bin ?_; refine e_int ?_; refine e_bin ?_; refine n_loc_2 ok' hN (nm_l_by_division_size _) ?_; refine n_loc_3 ok' hN (nm_l_by_division_width _) ?_
  (first | with_reducible refine f_mul ?_ | with_reducible refine b_repi (by (repeat (first | assumption | exact List.mem_cons_self | refine List.mem_cons_of_mem _ ?_))) (by (first | assumption | decide | omega | (simp; done) | (simp; omega))) (by (first | assumption | decide | omega | (simp; done) | (simp; omega))) (fun _ => ?_) | with_reducible refine f_muli (by (first | assumption | decide | omega | (simp; done) | (simp; omega))) ?_ | with_reducible refine b_mul ?_ (by (first | assumption | decide | omega | (simp; done) | (simp; omega))) | with_reducible refine b_smul (by (first | exact rfl | exact lit_dot | exact lit_quote | exact lit_back | exact lit_nl | exact lit_cr | exact lit_crlf | exact lit_empty | exact lit_white)) (by (first | assumption | decide | omega | (simp; done) | (simp; omega))) (by (first | assumption | decide | omega | (simp; done) | (simp; omega))) ?_)
  (with_reducible refine b_pow (by (first | assumption | decide | omega | (simp; done) | (simp; omega))) (by (first | assumption | decide | omega | (simp; done) | (simp; omega))) ?_)
  with_reducible refine e_int ?_
  (first | with_reducible refine b_sub ?_ | with_reducible refine f_sub ?_ | with_reducible refine f_subi (by (first | assumption | decide | omega | (simp; done) | (simp; omega))) ?_)
  with_reducible refine e_bin ?_; refine n_loc_2 ok' hN (nm_l_by_division_size _) ?_; refine n_loc_3 ok' hN (nm_l_by_division_width _) ?_
  (first | with_reducible refine f_mul ?_ | with_reducible refine b_repi (by (repeat (first | assumption | exact List.mem_cons_self | refine List.mem_cons_of_mem _ ?_))) (by (first | assumption | decide | omega | (simp; done) | (simp; omega))) (by (first | assumption | decide | omega | (simp; done) | (simp; omega))) (fun _ => ?_) | with_reducible refine f_muli (by (first | assumption | decide | omega | (simp; done) | (simp; omega))) ?_ | with_reducible refine b_mul ?_ (by (first | assumption | decide | omega | (simp; done) | (simp; omega))) | with_reducible refine b_smul (by (first | exact rfl | exact lit_dot | exact lit_quote | exact lit_back | exact lit_nl | exact lit_cr | exact lit_crlf | exact lit_empty | exact lit_white)) (by (first | assumption | decide | omega | (simp; done) | (simp; omega))) (by (first | assumption | decide | omega | (simp; done) | (simp; omega))) ?_)
  rw [hAi, hMi, hsi]
  refine f_div2n1n (n := n + 16) ok' hM0 hpy hbits (fun (dt : Addr) => ?_)
  rw [Int.fdiv_eq_ediv_of_nonneg _ (Int.natCast_nonneg _), Int.fmod_eq_emod_of_nonneg _ (Int.natCast_nonneg _), ← Int.natCast_ediv, ← Int.natCast_emod]
  refine ⟨_, _, _, rfl, by (repeat (first | assumption | exact List.mem_cons_self | refine List.mem_cons_of_mem _ ?_)), ?_⟩
  with_reducible refine n_sto_6 ok' hN (nm_l_by_division_quotient _) ?_; refine n_sto_7 ok' hN (nm_l_by_division_left _) ?_; refine then_next ?_
  generalize X * Y / (2 ^ (wd * size) - 1) = Qq at hq h ⊢
  generalize X * Y % (2 ^ (wd * size) - 1) = Rr at hr h ⊢
  have h12 : ∀ v, v < 2 ^ (wd * size) → v < 2 ^ (wd * 12) := fun v hv => Nat.lt_of_lt_of_le hv (Nat.pow_le_pow_right (by decide) (Nat.mul_le_mul_left _ hs))
  have hn1 := ndig_le (by omega) hr
  have hn2 := ndig_le (by omega) hq
  rw [digs_pad hn1 (lt_ndig (by omega)), digs_pad hn2 (lt_ndig (by omega))] at h
  have hl1 : (zs (digs wd (ndig wd Rr) Rr)).length = ndig wd Rr := by simp [zs, digs_len]
  have hl2 : (zs (digs wd (ndig wd Qq) Qq)).length = ndig wd Qq := by simp [zs, digs_len]
  with_reducible refine s_ca ?_; refine e_cg ok' hN (nm_l_by_division_int2digits _) (gl_int2digits _) (keep_int2digits _) ?_; refine a_2 ?_; refine n_loc_7 ok' hN (nm_l_by_division_left _) ?_; refine n_loc_3 ok' hN (nm_l_by_division_width _) ?_
  refine Call_perm _ (List.perm_middle (l₁ := [_, _, _, _, _, _, _])) ?_
  refine f_idigits (n := n + 2) ok' (by omega) hwd (h12 _ hr) (fun (dR c2 : Addr) => ?_)
  with_reducible refine n_sto_8 ok' hN (nm_l_by_division_often _) ?_; refine s_ca ?_; refine e_cg ok' hN (nm_l_by_division_int2digits _) (gl_int2digits _) (keep_int2digits _) ?_; refine a_2 ?_; refine n_loc_6 ok' hN (nm_l_by_division_quotient _) ?_; refine n_loc_3 ok' hN (nm_l_by_division_width _) ?_
  refine f_idigits_hit (n := n + 2) (cc := c2) ok' (by omega) hwd (h12 _ hq) (by (repeat (first | assumption | exact List.mem_cons_self | refine List.mem_cons_of_mem _ ?_))) (by (repeat (first | assumption | exact List.mem_cons_self | refine List.mem_cons_of_mem _ ?_))) (fun (dQ : Addr) => ?_)
  with_reducible refine n_sto_9 ok' hN (nm_l_by_division_over _) ?_
  have e1 : ((size : Int) - (((zs (digs wd (ndig wd Rr) Rr)).length : Nat) : Int)).toNat = size - ndig wd Rr := by rw [hl1]; exact Int.toNat_sub _ _
  have e2 : ((size : Int) - (((zs (digs wd (ndig wd Qq) Qq)).length : Nat) : Int)).toNat = size - ndig wd Qq := by rw [hl2]; exact Int.toNat_sub _ _
  have hz1 : (zs (digs wd (ndig wd Rr) Rr)).length < 2 ^ 62 := by rw [hl1]; exact Nat.lt_of_le_of_lt (Nat.le_trans hn1 hs) (by decide)
  have hz2 : (zs (digs wd (ndig wd Qq) Qq)).length < 2 ^ 62 := by rw [hl2]; exact Nat.lt_of_le_of_lt (Nat.le_trans hn2 hs) (by decide)
  with_reducible refine s_cr ?_; refine e_list ?_; refine a_2 ?_; refine e_bin ?_; refine n_loc_8 ok' hN (nm_l_by_division_often _) ?_; refine e_bin ?_; refine e_list ?_; refine a_1 ?_; refine e_int ?_
  refine ⟨by (first | assumption | decide | omega | (simp; done) | (simp; omega)), fun (ad1 : Addr) => ?_⟩
  with_reducible refine e_bin ?_; refine n_loc_2 ok' hN (nm_l_by_division_size _) ?_; refine e_cb ok' hN (nm_l_by_division_len _) (bl_len _) ?_; refine a_1 ?_; refine n_loc_8 ok' hN (nm_l_by_division_often _) ?_
  (first | with_reducible refine k_lenS (by (first | exact rfl | exact lit_dot | exact lit_quote | exact lit_back | exact lit_nl | exact lit_cr | exact lit_crlf | exact lit_empty | exact lit_white)) (by (first | assumption | decide | omega | (simp; done) | (simp; omega))) ?_ | with_reducible refine k_lenn (by (first | assumption | (refine IsL.mem ?_; (repeat (first | assumption | exact List.mem_cons_self | refine List.mem_cons_of_mem _ ?_))))) (by (first | assumption | decide | omega | (simp; done) | (simp; omega))) ?_ | with_reducible refine k_leni (by (first | assumption | (refine IsL.mem ?_; (repeat (first | assumption | exact List.mem_cons_self | refine List.mem_cons_of_mem _ ?_))))) (by (first | assumption | decide | omega | (simp; done) | (simp; omega))) ?_ | ((with_reducible refine k_lens ?h2 ?_); (case h2 => (first | assumption | decide | omega | (simp; done) | (simp; omega))))| with_reducible refine k_len (by (first | assumption | (refine IsL.mem ?_; (repeat (first | assumption | exact List.mem_cons_self | refine List.mem_cons_of_mem _ ?_))))) (by (first | assumption | decide | omega | (simp; done) | (simp; omega))) ?_)
  (first | with_reducible refine b_sub ?_ | with_reducible refine f_sub ?_ | with_reducible refine f_subi (by (first | assumption | decide | omega | (simp; done) | (simp; omega))) ?_)
  (first | with_reducible refine f_mul ?_ | with_reducible refine b_repi (by (repeat (first | assumption | exact List.mem_cons_self | refine List.mem_cons_of_mem _ ?_))) (by (first | assumption | decide | omega | (simp; done) | (simp; omega))) (by (first | assumption | decide | omega | (simp; done) | (simp; omega))) (fun _ => ?_) | with_reducible refine f_muli (by (first | assumption | decide | omega | (simp; done) | (simp; omega))) ?_ | with_reducible refine b_mul ?_ (by (first | assumption | decide | omega | (simp; done) | (simp; omega))) | with_reducible refine b_smul (by (first | exact rfl | exact lit_dot | exact lit_quote | exact lit_back | exact lit_nl | exact lit_cr | exact lit_crlf | exact lit_empty | exact lit_white)) (by (first | assumption | decide | omega | (simp; done) | (simp; omega))) (by (first | assumption | decide | omega | (simp; done) | (simp; omega))) ?_)
  refine b_cati (by (first | assumption | (refine IsL.mem ?_; (repeat (first | assumption | exact List.mem_cons_self | refine List.mem_cons_of_mem _ ?_))))) (by (first | assumption | (refine IsL.mem ?_; (repeat (first | assumption | exact List.mem_cons_self | refine List.mem_cons_of_mem _ ?_))))) (by rw [List.length_replicate, e1, hl1, Nat.add_sub_cancel' hn1]; exact Nat.le_trans hs (by decide)) (fun _ => ?_)
  with_reducible refine e_bin ?_; refine n_loc_9 ok' hN (nm_l_by_division_over _) ?_; refine e_bin ?_; refine e_list ?_; refine a_1 ?_; refine e_int ?_
  refine ⟨by (first | assumption | decide | omega | (simp; done) | (simp; omega)), fun (ad2 : Addr) => ?_⟩
  with_reducible refine e_bin ?_; refine n_loc_2 ok' hN (nm_l_by_division_size _) ?_; refine e_cb ok' hN (nm_l_by_division_len _) (bl_len _) ?_; refine a_1 ?_; refine n_loc_9 ok' hN (nm_l_by_division_over _) ?_
  (first | with_reducible refine k_lenS (by (first | exact rfl | exact lit_dot | exact lit_quote | exact lit_back | exact lit_nl | exact lit_cr | exact lit_crlf | exact lit_empty | exact lit_white)) (by (first | assumption | decide | omega | (simp; done) | (simp; omega))) ?_ | with_reducible refine k_lenn (by (first | assumption | (refine IsL.mem ?_; (repeat (first | assumption | exact List.mem_cons_self | refine List.mem_cons_of_mem _ ?_))))) (by (first | assumption | decide | omega | (simp; done) | (simp; omega))) ?_ | with_reducible refine k_leni (by (first | assumption | (refine IsL.mem ?_; (repeat (first | assumption | exact List.mem_cons_self | refine List.mem_cons_of_mem _ ?_))))) (by (first | assumption | decide | omega | (simp; done) | (simp; omega))) ?_ | ((with_reducible refine k_lens ?h2 ?_); (case h2 => (first | assumption | decide | omega | (simp; done) | (simp; omega))))| with_reducible refine k_len (by (first | assumption | (refine IsL.mem ?_; (repeat (first | assumption | exact List.mem_cons_self | refine List.mem_cons_of_mem _ ?_))))) (by (first | assumption | decide | omega | (simp; done) | (simp; omega))) ?_)
  (first | with_reducible refine b_sub ?_ | with_reducible refine f_sub ?_ | with_reducible refine f_subi (by (first | assumption | decide | omega | (simp; done) | (simp; omega))) ?_)
  (first | with_reducible refine f_mul ?_ | with_reducible refine b_repi (by (repeat (first | assumption | exact List.mem_cons_self | refine List.mem_cons_of_mem _ ?_))) (by (first | assumption | decide | omega | (simp; done) | (simp; omega))) (by (first | assumption | decide | omega | (simp; done) | (simp; omega))) (fun _ => ?_) | with_reducible refine f_muli (by (first | assumption | decide | omega | (simp; done) | (simp; omega))) ?_ | with_reducible refine b_mul ?_ (by (first | assumption | decide | omega | (simp; done) | (simp; omega))) | with_reducible refine b_smul (by (first | exact rfl | exact lit_dot | exact lit_quote | exact lit_back | exact lit_nl | exact lit_cr | exact lit_crlf | exact lit_empty | exact lit_white)) (by (first | assumption | decide | omega | (simp; done) | (simp; omega))) (by (first | assumption | decide | omega | (simp; done) | (simp; omega))) ?_)
  refine b_cati (by (first | assumption | (refine IsL.mem ?_; (repeat (first | assumption | exact List.mem_cons_self | refine List.mem_cons_of_mem _ ?_))))) (by (first | assumption | (refine IsL.mem ?_; (repeat (first | assumption | exact List.mem_cons_self | refine List.mem_cons_of_mem _ ?_))))) (by rw [List.length_replicate, e2, hl2, Nat.add_sub_cancel' hn2]; exact Nat.le_trans hs (by decide)) (fun _ => ?_)
  refine ⟨by (first | assumption | decide | omega | (simp; done) | (simp; omega)), fun (ad3 : Addr) => ?_⟩
  rename_i l1 _ l2
  rw [e1, e2]
  exact ⟨_, by simp only [List.cons_append, List.nil_append]; (repeat (first | exact List.Sublist.refl _ | with_reducible refine List.Sublist.cons_cons _ ?_ | refine List.Sublist.cons _ ?_)), h _ l1 l2 _ _⟩
end
section
variable {prog : Program} {w : World} {c : Cx} {n : Nat} {lo : Lo} {led led' : Led} {R : AV → Lo → Led → Prop}
noncomputable def placeOk (size j : Nat) : Bool :=
  hueOk (hueF j size) && (let c := colour size j
    !eqF (min3 c.1 c.2.1 c.2.2) (max3 c.1 c.2.1 c.2.2) && !Float64.isZero (max3 c.1 c.2.1 c.2.2) && !Float64.isZero (Float64.sub (max3 c.1 c.2.1 c.2.2) (min3 c.1 c.2.1 c.2.2)) &&
    (let p := Float64.mul (hueOf c.1 c.2.1 c.2.2).1 (Float64.ofInt size)
    !Float64.isNaN p && !Float64.isInf p && (Flt.toInt Float64.nearestOf p).fmod size == ((j % size : Nat) : Int)))
theorem places6 : ((List.range 12).all (placeOk 6)) = true := by decide +kernel
theorem places8 : ((List.range 16).all (placeOk 8)) = true := by decide +kernel
theorem places12 : ((List.range 24).all (placeOk 12)) = true := by decide +kernel
theorem placeOk_all {size j : Nat} (hs : size = 6 ∨ size = 8 ∨ size = 12) (hj : j < 2 * size) : placeOk size j = true := by
  rcases hs with rfl | rfl | rfl
  · exact List.all_eq_true.mp places6 j (List.mem_range.mpr hj)
  · exact List.all_eq_true.mp places8 j (List.mem_range.mpr hj)
  · exact List.all_eq_true.mp places12 j (List.mem_range.mpr hj)
structure PlaceAt (size j : Nat) : Prop where
  hue : hueOk (hueF j size) = true
  ne : eqF (min3 (colour size j).1 (colour size j).2.1 (colour size j).2.2) (max3 (colour size j).1 (colour size j).2.1 (colour size j).2.2) = false
  z1 : Float64.isZero (max3 (colour size j).1 (colour size j).2.1 (colour size j).2.2) = false
  z2 : Float64.isZero (Float64.sub (max3 (colour size j).1 (colour size j).2.1 (colour size j).2.2) (min3 (colour size j).1 (colour size j).2.1 (colour size j).2.2)) = false
  nan : Float64.isNaN (Float64.mul (hueOf (colour size j).1 (colour size j).2.1 (colour size j).2.2).1 (Float64.ofInt size)) = false
  inf : Float64.isInf (Float64.mul (hueOf (colour size j).1 (colour size j).2.1 (colour size j).2.2).1 (Float64.ofInt size)) = false
  at_ : (Flt.toInt Float64.nearestOf (Float64.mul (hueOf (colour size j).1 (colour size j).2.1 (colour size j).2.2).1 (Float64.ofInt size))).fmod size = ((j % size : Nat) : Int)
theorem placeAt {size j : Nat} (h : placeOk size j = true) : PlaceAt size j := by
  unfold placeOk at h
  simp only [Bool.and_eq_true, Bool.not_eq_true', beq_iff_eq] at h
  obtain ⟨h1, ⟨⟨h2, h3⟩, h4⟩, ⟨h5, h6⟩, h7⟩ := h
  exact ⟨h1, h2, h3, h4, h5, h6, h7⟩
theorem inf6 : Float64.isInf (Float64.ofInt (6 : Nat)) = false := by decide +kernel
theorem inf8 : Float64.isInf (Float64.ofInt (8 : Nat)) = false := by decide +kernel
theorem inf12 : Float64.isInf (Float64.ofInt (12 : Nat)) = false := by decide +kernel
noncomputable def sendStep (size j : Nat) (s : List Int × List Int) (a : Nat) : List Int × List Int := (addAt s.1 ((a + j) % size) 1, if size ≤ a + j then addAt s.2 ((a + j) % size) 1 else s.2)
noncomputable def sendRow (size : Nat) (xs ys : List Nat) (s : List Int × List Int) (j : Nat) : List Int × List Int := if ys.contains j then xs.foldl (sendStep size j) s else s
noncomputable def sendAll (size : Nat) (xs ys : List Nat) (last : Nat) : List Int × List Int := (List.range (last + 1)).foldl (sendRow size xs ys) (List.replicate size 0, List.replicate size 0)
theorem sendStep_len {size j a : Nat} {s : List Int × List Int} (h : s.1.length = size ∧ s.2.length = size) : (sendStep size j s a).1.length = size ∧ (sendStep size j s a).2.length = size := by
  unfold sendStep
  refine ⟨by simp [addAt_len, h], ?_⟩
  dsimp only
  split
  · simp [addAt_len, h]
  · exact h.2
theorem sendRow_len {size j : Nat} {xs ys : List Nat} {s : List Int × List Int} (h : s.1.length = size ∧ s.2.length = size) : (sendRow size xs ys s j).1.length = size ∧ (sendRow size xs ys s j).2.length = size := by
  unfold sendRow
  split
  · exact foldl_inv (fun (s : List Int × List Int) => s.1.length = size ∧ s.2.length = size) _ (fun _ _ h => sendStep_len h) xs s h
  · exact h
noncomputable abbrev wordsAt (xs : List Nat) (j : Nat) : List (List Nat) := xs.map fun a => dots (a + 1 + j)
theorem wordsAt_eq (xs : List Nat) (j : Nat) : wordsAt xs j = (xs.map fun a => a + 1 + j).map dots := by rw [List.map_map]; rfl
theorem joinL_cons2 (g a : List Nat) (r : List (List Nat)) : joinL g (a :: r) = a ++ (if r = [] then [] else g ++ joinL g r) := by
  cases r with
  | nil => simp [joinL]
  | cons b r => simp [joinL]
theorem fileWords_drop {sp i : Nat} {xs : List Nat} (h : i < xs.length) : (fileWords sp xs).drop i = spellWord (sp / 3 ^ i % 3) (xs.getD i 0) :: (fileWords sp xs).drop (i + 1) := by
  have hl : i < (fileWords sp xs).length := by simpa [fileWords] using h
  rw [List.drop_eq_getElem_cons hl]
  congr 1
  simp [fileWords]
theorem fileWords_len (sp : Nat) (xs : List Nat) : (fileWords sp xs).length = xs.length := by simp [fileWords]
theorem mem_drop_cell {l led : Led} {q a : Addr} {o : AO} (h : (a, o) ∈ l ++ (q, .cell none) :: led) (ho : o ≠ .cell none) : (a, o) ∈ l ++ led := by
  rcases List.mem_append.mp h with h | h
  · exact List.mem_append_left _ h
  · rcases List.mem_cons.mp h with h | h
    · injection h with _ h; exact absurd h ho
    · exact List.mem_append_right _ h
theorem MF.drop {l led : Led} {q : Addr} {text : List Nat} {m d sf sd rf cc ct ca la : Addr} {fd sfd : FuncData} (mf : MF w (l ++ (q, .cell none) :: led) text m d sf sd rf cc ct ca la fd sfd) : MF w (l ++ led) text m d sf sd rf cc ct ca la fd sfd :=
  ⟨mem_drop_cell mf.hm (fun e => by cases e), mem_drop_cell mf.hsf (fun e => by cases e), mem_drop_cell mf.hsd (fun e => by cases e), mem_drop_cell mf.hrf (fun e => by cases e), mem_drop_cell mf.hcc (fun e => by cases e), mem_drop_cell mf.hct (fun e => by cases e), mem_drop_cell mf.hca (fun e => by cases e), mf.hfd, mf.hz⟩
theorem perm_get {α : Type} {a b p q u v : α} {l : List α} : (a :: b :: p :: q :: u :: v :: l).Perm (u :: v :: a :: b :: p :: q :: l) :=
  (List.perm_append_comm (l₁ := [a, b, p, q]) (l₂ := [u, v])).append_right l
theorem s_if_join {t : Expr} {b o rest : List Stmt} {pos : Pos} {R : AF → Lo → Led → Prop} (P : Lo → Led → Prop)
    (h : Wp prog w c (isTrue t c.env (eval t c.env)) (fun x lo₁ led₁ => if x = true then WpS prog w c (execs b c.env) (fun f lo₂ led₂ => f = .next ∧ P lo₂ led₂) lo₁ led₁ else WpS prog w c (execs o c.env) (fun f lo₂ led₂ => f = .next ∧ P lo₂ led₂) lo₁ led₁) lo led)
    (hr : ∀ lo₁ led₁, P lo₁ led₁ → WpS prog w c (execs rest c.env) R lo₁ led₁) : WpS prog w c (execs (.If t b o pos :: rest) c.env) R lo led := by
  have key : ∀ (f : Flow) (lo₁ : Lo) (led₁ : Led), (erF f = .next ∧ P lo₁ led₁) → Then prog w c rest R (erF f) lo₁ led₁ := by
    rintro f lo₁ led₁ ⟨h1, h2⟩
    rw [h1]
    exact hr _ _ h2
  refine s_cons (s_if (Wp_mono h ?_))
  rintro x lo₁ led₁ h₁
  cases x with
  | true => exact Wp_mono h₁ fun f lo₂ led₂ hh => key f lo₂ led₂ hh
  | false => exact Wp_mono h₁ fun f lo₂ led₂ hh => key f lo₂ led₂ hh
theorem s_forn_listE {x : Str} {px pos : Pos} {iter : Expr} {body : List Stmt} {R : AF → Lo → Led → Prop} (ok : c.Ok w n) (items : List AV) (I : Addr → Nat → Lo → Led → Prop)
    (h : WpV prog w c (eval iter c.env) (fun a lo₁ led₁ => ∃ l, a = .ref l ∧ At w c led₁ l (.list items) ∧ I l 0 lo₁ led₁) lo led)
    (hs : ∀ l i lo led, i ≤ items.length → I l i lo led → At w c led l (.list items))
    (turn : ∀ l i v lo led, items[i]? = some v → I l i lo led → Sto prog w c x v (fun lo₁ led₁ => WpS prog w c (execs body c.env) (fun f lo₂ led₂ => match f with
      | .next | .cont => I l (i + 1) lo₂ led₂
      | .brk => R .next lo₂ led₂
      | .ret a => R (.ret a) lo₂ led₂) lo₁ led₁) lo led)
    (done : ∀ l lo led, I l items.length lo led → R .next lo led) (hf : autoParam (∀ x, foldedSetIterable iter c.env x = pure x) mai._auto_1) :
    WpS prog w c (exec (.For (.Name x px) iter body [] pos) c.env) R lo led := by
  intro fr s Q E rep kk
  refine wpAny_For (h fr s _ E rep ?_) hf
  rintro v lo₁ led₁ h₁ t₁ ⟨l, hv, hat, hI⟩ rep₁
  obtain rfl := er_ref hv
  obtain ⟨vs, hl, hm⟩ := hat.list rep₁
  refine wpAny_pyIter_list hl ?_
  refine for_core (it := h₁.objs.size) (fun pre => I l pre.length) (nexts_list ok.handled) (fun pre post lo led e hI => hs l _ lo led (by rw [e]; simp) hI) ?_ (done l) hI (rep₁.push _ _ ⟨rfl, rfl⟩) kk
  intro pre v post lo led e hI v' hv'
  have := turn l pre.length v lo led (split_at e) hI v' hv'
  simp only [List.length_append, List.length_cons, List.length_nil, Nat.zero_add]
  exact this
theorem WpV_permR {t : Sem Value} {R : AV → Lo → Led → Prop} (h : WpV prog w c t (fun a lo led => ∃ l, led.Perm l ∧ R a lo l) lo led) : WpV prog w c t R lo led := Wp_permR h
theorem f_sending {la lb : Addr} {xs ys : List Nat} {size sp last : Nat} (ok : c.Ok w (n + 12)) (hs : size = 6 ∨ size = 8 ∨ size = 12) (hx0 : xs ≠ []) (hx4 : xs.length ≤ 4) (hxs : ∀ x ∈ xs, x < size) (hlast : ys.getLast? = some last) (hlt : last < size) (ha : (la, natsO xs) ∈ led) (hb : (lb, natsO ys) ∈ led)
    (h : ∀ a l₁ l₂ ps, R (.ref a) lo ((a, .list [.ref l₁, .ref l₂]) :: (l₂, intsO (sendAll size xs ys last).2) :: (l₁, intsO (sendAll size xs ys last).1) :: (162, .raw (tabObj ps)) :: led)) :
    Call prog w c (.ref 179) [.ref la, .ref lb, .int size, .int sp] R lo ((162, .raw (tabObj #[])) :: led) := by
  refine Call_drop ?_
  refine call_fn (fd := ?fd) (fo := ?fo) (body := ?bd) (n := n + 11) (pn := ["ones", "others", "size", "spelled"]) [some (.ref la), some (.ref lb), some (.int size), some (.int sp), none, none, none, none, none, none, none, none, none, none, none, none, none, none, none, none, none, none, none, none, none, none] (fun L => [(L + 1, .cell none)]) ok ?hK ?hd ?hcd ?hbody ?hclo ?hgl ?hbl ?hb ?hkind ?hnd ?hlo ?hcl ?main ?e1 ?e2 ?e3
  (case hK | hd | hbody | hcd | hclo | hgl | hbl | hkind => with_unfolding_all rfl); (case hnd => with_unfolding_all decide); (case hlo => with_unfolding_all rfl); (case hcl => intro L; with_unfolding_all rfl); (case e1 | e2 | e3 => with_unfolding_all rfl)
  case hb => intro vs hl; obtain ⟨a, b, d, e, rfl⟩ := len4 hl; with_unfolding_all rfl
  case main =>
  intro c' ok' he hx
  have hN : c'.env.scope.names = nmOf 179 w := by rw [he]; with_unfolding_all rfl
  have hc_machine : c'.env.cells.lookup (Str.ofString "machine") = some (c'.L + 1) := by rw [he]; with_unfolding_all rfl
  show WpS prog w c' _ _ _ ((c'.L + 1, .cell none) :: (162, .raw (tabObj #[])) :: led)
  have hs12 : size ≤ 12 := by omega
  have hs6 : 6 ≤ size := by omega
  have hx12 : ∀ x ∈ xs, x < 12 := fun x hx => by have := hxs x hx; omega
  have htl : (joinL [10] (fileWords sp xs)).length ≤ 1000 := by
    have h1 := joinL_len [10] (fileWords sp xs)
    have h2 : ((fileWords sp xs).map List.length).sum ≤ _ := sum_le_of (m := 20) (by
      intro x hx
      obtain ⟨y, hy, rfl⟩ := List.mem_map.mp hx
      obtain ⟨k, hk, rfl⟩ := List.mem_map.mp hy
      have hk := List.mem_range.mp hk
      refine Nat.le_trans (spellWord_len _ _) ?_
      have : xs.getD k 0 < 12 := hx12 _ (List.mem_of_getElem? (i := k) (by rw [List.getD_eq_getElem?_getD, List.getElem?_eq_getElem hk]; rfl))
      omega)
    rw [List.length_map] at h2
    rw [fileWords_len] at h1 h2
    simp only [List.length_cons, List.length_nil] at h1
    omega
  with_reducible refine s_cons ?_; refine s_asg ?_; refine e_cg ok' hN (nm_l_by_sending_law_machine _) (gl_law_machine _) (keep_law_machine _) ?_; refine a_1 ?_; refine e_cg ok' hN (nm_l_by_sending_law_file _) (gl_law_file _) (keep_law_file _) ?_; refine a_2 ?_; refine n_loc_0 ok' hN (nm_l_by_sending_ones _) ?_; refine n_loc_3 ok' hN (nm_l_by_sending_spelled _) ?_
  refine f_file (n := n + 6) ok' hx4 hx12 (by (repeat (first | assumption | exact List.mem_cons_self | refine List.mem_cons_of_mem _ ?_))) ?_
  refine Call_perm _ (List.Perm.swap _ _ _) (f_machine (n := n + 3) ok' htl (fun m d sf sd rf cc ct ca li pb fd sfd l ps h162 mf0 => ?_))
  have mf1 := mf0.drop
  have hsub : ((162, AO.raw (tabObj ps)) :: led).Sublist (l ++ led) := (List.singleton_sublist.mpr h162).append_right led
  have ha := List.mem_append_right l ha
  have hb := List.mem_append_right l hb
  refine Sto_perm ((c'.L + 1, .cell none) :: (pb, wordsO []) :: (li, intsO [((0 : Nat) : Int)]) :: (d, .dict (ND 1 sf pb)) :: (l ++ led)) (List.perm_middle (l₁ := (pb, wordsO []) :: (li, intsO [((0 : Nat) : Int)]) :: (d, .dict (ND 1 sf pb)) :: l)) ?_
  generalize l ++ led = G at mf1 hsub ha hb ⊢
  with_reducible refine n_stoc ok' hN (nm_l_by_sending_machine _) hc_machine (by (first | assumption | exact .head | exact .tail .head | exact .tail (.tail .head) | exact .tail (.tail (.tail .head)) | exact .tail (.tail (.tail (.tail .head))) | exact .tail (.tail (.tail (.tail (.tail .head)))) | exact .tail (.tail (.tail (.tail (.tail (.tail .head))))) | exact .tail (.tail (.tail (.tail (.tail (.tail (.tail .head)))))) | exact .tail (.tail (.tail (.tail (.tail (.tail (.tail (.tail .head))))))) | exact .tail (.tail (.tail (.tail (.tail (.tail (.tail (.tail (.tail .head)))))))) | exact .tail (.tail (.tail (.tail (.tail (.tail (.tail (.tail (.tail (.tail .head))))))))) | exact .tail (.tail (.tail (.tail (.tail (.tail (.tail (.tail (.tail (.tail (.tail .head)))))))))) | exact .tail (.tail (.tail (.tail (.tail (.tail (.tail (.tail (.tail (.tail (.tail (.tail .head))))))))))) | exact .tail (.tail (.tail (.tail (.tail (.tail (.tail (.tail (.tail (.tail (.tail (.tail (.tail .head)))))))))))))) ?_; refine then_next ?_
  generalize hT : joinL [10] (fileWords sp xs) = text at mf1 ⊢
  have hm := mf1.hm
  with_reducible refine s_cons ?_
  refine s_compU [none, none, none] (cl := [("machine", c'.L + 1)]) ok' ?hsw ?clos rfl (by (exact fun _ => look_none (by simp))) (by (exact names_ok (by with_unfolding_all rfl))) ?_
  case hsw => rw [he]; with_unfolding_all rfl
  case clos => rw [he]; with_unfolding_all rfl
  with_reducible refine n_loc_0 ok' hN (nm_l_by_sending_ones _) ?_
  refine ⟨_, _, itr_list (items := xs.map fun (x : Nat) => AV.int x) (.inl (by (repeat (first | assumption | exact List.mem_cons_self | refine List.mem_cons_of_mem _ ?_)))), fun it => ?_⟩
  refine body_gather (xs.map fun (x : Nat) => AV.int x) (St := fun i => .liter la i) (nx_list (led₁ := G) (.inl ha))
    (fun i lo ys led => (∃ av, lo = [none, av, none]) ∧ ys = ((xs.take i).map fun a => AV.str (S (dots (a + 1)))) ∧ ∃ (lead : List Nat) (i' : Nat) (ln' : Int), (lead = [] ∨ lead = [10]) ∧ i' ≤ text.length ∧ (i < xs.length → text.drop i' = lead ++ joinL [10] ((fileWords sp xs).drop i)) ∧
      led = (c'.L + 1, .cell (some (.ref m))) :: (pb, wordsO []) :: (li, intsO [(i' : Int)]) :: (d, .dict (ND ln' sf pb)) :: G)
    (fun L => by with_unfolding_all rfl) (by rw [List.length_map]; omega) ⟨⟨none, rfl⟩, rfl, [], 0, 1, .inl rfl, by omega, fun _ => by rw [List.drop_zero, List.drop_zero, hT]; rfl, rfl⟩ ?side (fun i lo ys led hJ => by rw [hJ.2.1, List.length_map]; exact List.length_take_le _ _) ?turn ?done
  case side =>
    rintro i lo ys' led' p ⟨_, _, lead, i', ln', _, _, _, rfl⟩
    (repeat (first | exact List.Sublist.refl _ | with_reducible refine List.Sublist.cons_cons _ ?_ | refine List.Sublist.cons _ ?_))
  case turn =>
    rintro acc c1 ok1 he1 hx1 o i v ys' lo led' hi ⟨⟨av, rfl⟩, rfl, lead, i', ln', hlead, hi', htx, rfl⟩
    obtain ⟨a, hxa, rfl⟩ : ∃ a, xs[i]? = some a ∧ AV.int ((a : Nat) : Int) = v := by
      rw [List.getElem?_map] at hi; exact Option.map_eq_some_iff.mp hi
    have hlt' : i < xs.length := (List.getElem?_eq_some_iff.mp hxa).1
    have hga : xs.getD i 0 = a := by rw [List.getD_eq_getElem?_getD, hxa]; rfl
    have hN1 : c1.env.scope.names = ns_l_by_sending_c := by rw [he1, he]; with_unfolding_all rfl
    have hc_machine : c1.env.cells.lookup (Str.ofString "machine") = some (c'.L + 1) := by rw [he1, he]; with_unfolding_all rfl
    have htx' := htx hlt'
    rw [fileWords_drop hlt', hga, joinL_cons2] at htx'
    have hxa12 := hx12 a (List.mem_of_getElem? hxa)
    with_reducible refine n_sto_1 ok1 hN1 nm_l_by_sending_c_a ?_
    refine WpV_permR ?_
    with_reducible refine e_meth ?_; refine n_cell ok1 hN1 nm_l_by_sending_c_machine hc_machine (by (first | assumption | (refine At.mem ?_; (repeat (first | assumption | exact List.mem_cons_self | refine List.mem_cons_of_mem _ ?_))))) ?_
    (((with_reducible refine mt_get (by assumption) (by (repeat (first | assumption | exact List.mem_cons_self | refine List.mem_cons_of_mem _ ?_))) (by (repeat (first | assumption | exact List.mem_cons_self | refine List.mem_cons_of_mem _ ?_))) ?_); with_reducible refine cw1_fn (by assumption) (keep_108 _) ?_))
    with_reducible refine a_nil ?_
    refine Call_perm ((li, _) :: (d, _) :: (acc, _) :: (it, _) :: (c'.L + 1, _) :: (pb, _) :: G) perm_get ?_
    refine f_get_read (n := n + 4) (kind := sp / 3 ^ i % 3) (K := a) (lead := lead) (tail := if (fileWords sp xs).drop (i + 1) = [] then [] else [10] ++ joinL [10] ((fileWords sp xs).drop (i + 1))) ok1 (mf1.mono fun x hx => List.mem_cons_of_mem _ (List.mem_cons_of_mem _ (List.mem_cons_of_mem _ (List.mem_cons_of_mem _ hx)))) (by (repeat (first | assumption | exact List.mem_cons_self | refine List.mem_cons_of_mem _ ?_))) hi' hlead (by omega) htx' ?ht (fun i2 ln2 l2 hi2 hd2 => ?_)
    case ht => split <;> simp
    refine ⟨l2 ++ ((acc, _) :: (it, o) :: (c'.L + 1, _) :: (pb, _) :: (li, _) :: (d, _) :: G), perm_get.symm.append_left l2, (c'.L + 1, _) :: (pb, _) :: (li, _) :: (d, _) :: G, List.sublist_append_right _ _, ⟨_, rfl⟩, ?_, ?_⟩
    · rw [take_succ' hxa, List.map_append]; rfl
    · refine ⟨if sp / 3 ^ i % 3 = 1 then [10] else [], i2, ln2, by split <;> simp, hi2, fun hl => ?_, rfl⟩
      have hne : (fileWords sp xs).drop (i + 1) ≠ [] := fun e => by
        have := congrArg List.length e
        rw [List.length_drop, fileWords_len] at this
        simp at this; omega
      rw [if_neg hne] at hd2
      rw [hd2]
      split <;> simp
  case done =>
  rintro hA lo0 ys' led' ⟨-, rfl, lead, i', ln, -, -, -, rfl⟩
  rw [List.length_map, List.take_length]
  have e0 : AO.list (xs.map fun a => AV.str (S (dots (a + 1)))) = wordsO (wordsAt xs 0) := by
    show AO.list _ = AO.list _
    unfold wordsAt
    rw [List.map_map]; rfl
  rw [e0]
  clear e0
  have hwl : ∀ j, (wordsAt xs j).length = xs.length := fun j => List.length_map _
  with_reducible refine n_sto_5 ok' hN (nm_l_by_sending_heard _) ?_; refine then_next ?_; refine s_cons ?_
  refine s_forn_list ok' hA ((wordsAt xs 0).map fun x => AV.str (S x)) (fun i lo led' => ∃ wv, lo = [some (.ref la), some (.ref lb), some (.int size), some (.int sp), none, some (.ref hA), wv, none, none, none, none, none, none, none, none, none, none, none, none, none, none, none, none, none, none, none] ∧ led' = (hA, wordsO (wordsAt xs 0)) :: (c'.L + 1, .cell (some (.ref m))) :: (pb, wordsO ((wordsAt xs 0).take i)) :: (li, intsO [(i' : Int)]) :: (d, .dict (ND ln sf pb)) :: G) ?_ ?_ ?_ ?_
  · with_reducible refine n_loc_5 ok' hN (nm_l_by_sending_heard _) ?_
    exact ⟨rfl, .inl (by (repeat (first | assumption | exact List.mem_cons_self | refine List.mem_cons_of_mem _ ?_))), none, rfl, rfl⟩
  · rintro i lo led' hi ⟨wv, rfl, rfl⟩
    exact .inl (by (repeat (first | assumption | exact List.mem_cons_self | refine List.mem_cons_of_mem _ ?_)))
  · rintro i v lo led' hv ⟨wv, rfl, rfl⟩
    obtain ⟨x, hx', rfl⟩ : ∃ x, (wordsAt xs 0)[i]? = some x ∧ AV.str (S x) = v := by
      rw [List.getElem?_map] at hv; exact Option.map_eq_some_iff.mp hv
    have hz : ((wordsAt xs 0).take i).length ≤ 900 := by have := List.length_take_le' i (wordsAt xs 0); rw [hwl] at this; omega
    with_reducible refine n_sto_6 ok' hN (nm_l_by_sending_word _) ?_; refine s_cx ok' ?_; refine e_meth ?_; refine n_cell ok' hN (nm_l_by_sending_machine _) hc_machine (by (first | assumption | (refine At.mem ?_; (repeat (first | assumption | exact List.mem_cons_self | refine List.mem_cons_of_mem _ ?_))))) ?_
    (((with_reducible refine mt_push (by assumption) (by (repeat (first | assumption | exact List.mem_cons_self | refine List.mem_cons_of_mem _ ?_))) (by (repeat (first | assumption | exact List.mem_cons_self | refine List.mem_cons_of_mem _ ?_))) ?_); with_reducible refine cw1_fn (by assumption) (keep_115 _) ?_))
    with_reducible refine a_1 ?_; refine n_loc_6 ok' hN (nm_l_by_sending_word _) ?_
    refine f_push (n := n + 6) ok' (by (repeat (first | assumption | exact List.mem_cons_self | refine List.mem_cons_of_mem _ ?_))) (by (repeat (first | assumption | exact List.mem_cons_self | refine List.mem_cons_of_mem _ ?_))) (by (first | assumption | exact .head | exact .tail .head | exact .tail (.tail .head) | exact .tail (.tail (.tail .head)) | exact .tail (.tail (.tail (.tail .head))) | exact .tail (.tail (.tail (.tail (.tail .head)))) | exact .tail (.tail (.tail (.tail (.tail (.tail .head))))) | exact .tail (.tail (.tail (.tail (.tail (.tail (.tail .head)))))) | exact .tail (.tail (.tail (.tail (.tail (.tail (.tail (.tail .head))))))) | exact .tail (.tail (.tail (.tail (.tail (.tail (.tail (.tail (.tail .head)))))))) | exact .tail (.tail (.tail (.tail (.tail (.tail (.tail (.tail (.tail (.tail .head))))))))) | exact .tail (.tail (.tail (.tail (.tail (.tail (.tail (.tail (.tail (.tail (.tail .head)))))))))) | exact .tail (.tail (.tail (.tail (.tail (.tail (.tail (.tail (.tail (.tail (.tail (.tail .head))))))))))) | exact .tail (.tail (.tail (.tail (.tail (.tail (.tail (.tail (.tail (.tail (.tail (.tail (.tail .head)))))))))))))) hz ?_
    with_reducible refine s_nil ?_
    exact ⟨_, rfl, by rw [take_succ' hx']⟩
  rintro lo1 led' ⟨wv, rfl, rfl⟩
  rw [List.length_map, List.take_length]
  refine then_next ?_
  have hg : ∃ g : List Nat, (g = [10] ∨ g = [13] ∨ g = [13, 10]) ∧ [AV.str (Str.ofString "\n"), AV.str (Str.ofString "\r"), AV.str (Str.ofString "\r\n")][(((sp : Int).fdiv 81).fmod 3).toNat]? = some (AV.str (S g)) := by
    have h1 := fmod_nonneg' ((sp : Int).fdiv 81) (b := 3) (by decide)
    have h2 := fmod_lt' ((sp : Int).fdiv 81) (b := 3) (by decide)
    generalize ((sp : Int).fdiv 81).fmod 3 = k at h1 h2
    rcases (by omega : k = 0 ∨ k = 1 ∨ k = 2) with rfl | rfl | rfl
    · exact ⟨[10], .inl rfl, by rw [← lit_nl]; rfl⟩
    · exact ⟨[13], .inr (.inl rfl), by rw [← lit_cr]; rfl⟩
    · exact ⟨[13, 10], .inr (.inr rfl), by rw [← lit_crlf]; rfl⟩
  obtain ⟨g, hg1, hg2⟩ := hg
  have hk0 := fmod_nonneg' ((sp : Int).fdiv 81) (b := 3) (by decide)
  have hk3 := fmod_lt' ((sp : Int).fdiv 81) (b := 3) (by decide)
  with_reducible refine s_ca ?_; refine e_sub ?_; refine e_tuple ?_; refine a_3 ?_; refine e_str ?_; refine e_str ?_; refine e_str ?_
  refine ⟨by (first | assumption | decide | omega | (simp; done) | (simp; omega)), fun (ad1 : Addr) => ?_⟩
  with_reducible refine e_bin ?_; refine e_bin ?_; refine n_loc_3 ok' hN (nm_l_by_sending_spelled _) ?_; refine e_int ?_
  (first | with_reducible refine b_div (by (first | assumption | decide | omega | (simp; done) | (simp; omega))) (by (first | assumption | decide | omega | (simp; done) | (simp; omega))) ?_)
  with_reducible refine e_int ?_
  (first | with_reducible refine b_mod (by (first | assumption | decide | omega | (simp; done) | (simp; omega))) ?_ | with_reducible refine f_mod (by (first | assumption | decide | omega | (simp; done) | (simp; omega))) ?_)
  refine g_tup (by (repeat (first | assumption | exact List.mem_cons_self | refine List.mem_cons_of_mem _ ?_))) (by omega) (by omega) hg2 ?_
  with_reducible refine n_sto_7 ok' hN (nm_l_by_sending_gap _) ?_; refine s_ca ?_; refine e_bin ?_; refine e_list ?_; refine a_1 ?_; refine e_int ?_
  refine ⟨by (first | assumption | decide | omega | (simp; done) | (simp; omega)), fun (ad2 : Addr) => ?_⟩
  with_reducible refine n_loc_2 ok' hN (nm_l_by_sending_size _) ?_
  (first | with_reducible refine f_mul ?_ | with_reducible refine b_repi (by (repeat (first | assumption | exact List.mem_cons_self | refine List.mem_cons_of_mem _ ?_))) (by (first | assumption | decide | omega | (simp; done) | (simp; omega))) (by (first | assumption | decide | omega | (simp; done) | (simp; omega))) (fun _ => ?_) | with_reducible refine f_muli (by (first | assumption | decide | omega | (simp; done) | (simp; omega))) ?_ | with_reducible refine b_mul ?_ (by (first | assumption | decide | omega | (simp; done) | (simp; omega))) | with_reducible refine b_smul (by (first | exact rfl | exact lit_dot | exact lit_quote | exact lit_back | exact lit_nl | exact lit_cr | exact lit_crlf | exact lit_empty | exact lit_white)) (by (first | assumption | decide | omega | (simp; done) | (simp; omega))) (by (first | assumption | decide | omega | (simp; done) | (simp; omega))) ?_)
  with_reducible refine n_sto_8 ok' hN (nm_l_by_sending_often _) ?_; refine s_ca ?_; refine e_bin ?_; refine e_list ?_; refine a_1 ?_; refine e_int ?_
  refine ⟨by (first | assumption | decide | omega | (simp; done) | (simp; omega)), fun (ad3 : Addr) => ?_⟩
  with_reducible refine n_loc_2 ok' hN (nm_l_by_sending_size _) ?_
  (first | with_reducible refine f_mul ?_ | with_reducible refine b_repi (by (repeat (first | assumption | exact List.mem_cons_self | refine List.mem_cons_of_mem _ ?_))) (by (first | assumption | decide | omega | (simp; done) | (simp; omega))) (by (first | assumption | decide | omega | (simp; done) | (simp; omega))) (fun _ => ?_) | with_reducible refine f_muli (by (first | assumption | decide | omega | (simp; done) | (simp; omega))) ?_ | with_reducible refine b_mul ?_ (by (first | assumption | decide | omega | (simp; done) | (simp; omega))) | with_reducible refine b_smul (by (first | exact rfl | exact lit_dot | exact lit_quote | exact lit_back | exact lit_nl | exact lit_cr | exact lit_crlf | exact lit_empty | exact lit_white)) (by (first | assumption | decide | omega | (simp; done) | (simp; omega))) (by (first | assumption | decide | omega | (simp; done) | (simp; omega))) ?_)
  with_reducible refine n_sto_9 ok' hN (nm_l_by_sending_over _) ?_
  rename_i l1 l2
  refine WpS_pre ((l2, intsO (List.replicate (size : Int).toNat 0)) :: (l1, intsO (List.replicate (size : Int).toNat 0)) :: (c'.L + 1, .cell (some (.ref m))) :: (pb, wordsO (wordsAt xs 0)) :: (d, .dict (ND ln sf pb)) :: G) (by (repeat (first | exact List.Sublist.refl _ | with_reducible refine List.Sublist.cons_cons _ ?_ | refine List.Sublist.cons _ ?_))) ?_
  rw [Int.toNat_natCast]
  have hlastA : (ys.map fun (x : Nat) => AV.int x).getLast? = some (.int last) := by rw [List.getLast?_map, hlast]; rfl
  with_reducible refine s_cons ?_
  refine s_forn_range ok' (last + 1) (by omega) (fun j lo led' => ∃ hv wv sv rv gv bv pv tv qv, lo = [some (.ref la), some (.ref lb), some (.int size), some (.int sp), none, hv, wv, some (.str (S g)), some (.ref l1), some (.ref l2), sv, rv, gv, bv, pv, tv, qv, none, none, none, none, none, none, none, none, none] ∧
    led' = (l2, intsO ((List.range j).foldl (sendRow size xs ys) (List.replicate size 0, List.replicate size 0)).2) :: (l1, intsO ((List.range j).foldl (sendRow size xs ys) (List.replicate size 0, List.replicate size 0)).1) :: (c'.L + 1, .cell (some (.ref m))) :: (pb, wordsO (wordsAt xs j)) :: (d, .dict (ND ln sf pb)) :: G) ?_ ?_ ?_
  · with_reducible refine e_ct ok' hN (nm_l_by_sending_range _) (bl_range _) ?_
    with_reducible refine a_1 ?_; refine e_bin ?_; refine e_sub ?_; refine n_loc_1 ok' hN (nm_l_by_sending_others _) ?_; refine e_un ?_; refine e_int ?_
    (with_reducible refine u_neg ?_)
    refine g_last (by (first | assumption | (refine IsL.mem ?_; (repeat (first | assumption | exact List.mem_cons_self | refine List.mem_cons_of_mem _ ?_))))) rfl hlastA ?_
    with_reducible refine e_int ?_
    (first | with_reducible refine b_add ?_ | with_reducible refine f_add ?_ | with_reducible refine b_sadd (by (first | exact rfl | exact lit_dot | exact lit_quote | exact lit_back | exact lit_nl | exact lit_cr | exact lit_crlf | exact lit_empty | exact lit_white)) (by (first | exact rfl | exact lit_dot | exact lit_quote | exact lit_back | exact lit_nl | exact lit_cr | exact lit_crlf | exact lit_empty | exact lit_white)) (by (first | assumption | decide | omega | (simp; done) | (simp; omega))) ?_)
    (with_reducible refine k_range (fun _ => ?_))
    exact ⟨_, _, rfl, rfl, _, _, _, _, _, _, _, _, _, rfl, rfl⟩
  · rintro j lo led' hj ⟨hv, wv, sv, rv, gv, bv, pv, tv, qv, rfl, rfl⟩
    have hst : ((List.range j).foldl (sendRow size xs ys) (List.replicate size 0, List.replicate size 0)).1.length = size ∧ ((List.range j).foldl (sendRow size xs ys) (List.replicate size 0, List.replicate size 0)).2.length = size :=
      foldl_inv (fun (s : List Int × List Int) => s.1.length = size ∧ s.2.length = size) _ (fun _ _ h => sendRow_len h) _ _ (by simp)
    rw [List.range_succ, List.foldl_append, List.foldl_cons, List.foldl_nil]
    generalize (List.range j).foldl (sendRow size xs ys) (List.replicate size 0, List.replicate size 0) = st at hst ⊢
    with_reducible refine n_sto_10 ok' hN (nm_l_by_sending_sendings _) ?_
    refine WpS_drop ?_
    with_reducible refine s_cons ?_
    refine s_compU [none, none, none] (cl := [("machine", c'.L + 1)]) ok' ?hsw2 ?clos2 rfl (by (exact fun _ => look_none (by simp))) (by (exact names_ok (by with_unfolding_all rfl))) ?_
    case hsw2 => rw [he]; with_unfolding_all rfl
    case clos2 => rw [he]; with_unfolding_all rfl
    with_reducible refine n_loc_0 ok' hN (nm_l_by_sending_ones _) ?_
    refine ⟨_, _, itr_list (items := xs.map fun (x : Nat) => AV.int x) (.inl (by (repeat (first | assumption | exact List.mem_cons_self | refine List.mem_cons_of_mem _ ?_)))), fun it => ?_⟩
    refine body_gather (xs.map fun (x : Nat) => AV.int x) (St := fun i => .liter la i) (nx_list (led₁ := G) (.inl ha))
      (fun i lo ys' led => (∃ av, lo = [none, av, none]) ∧ ys' = (((wordsAt xs j).take i).map fun x => AV.str (S x)) ∧
        led = (l2, intsO st.2) :: (l1, intsO st.1) :: (c'.L + 1, .cell (some (.ref m))) :: (pb, wordsO ((wordsAt xs j).drop i)) :: (d, .dict (ND ln sf pb)) :: G)
      (fun L => by with_unfolding_all rfl) (by rw [List.length_map]; omega) ⟨⟨none, rfl⟩, rfl, by rw [List.drop_zero]⟩ ?side2 (fun i lo ys' led hJ => by rw [hJ.2.1, List.length_map]; exact List.length_take_le _ _) ?turn2 ?done2
    case side2 =>
      rintro i lo ys' led' p ⟨_, _, rfl⟩
      (repeat (first | exact List.Sublist.refl _ | with_reducible refine List.Sublist.cons_cons _ ?_ | refine List.Sublist.cons _ ?_))
    case turn2 =>
      rintro acc c1 ok1 he1 hx1 o i v ys' lo led' hi ⟨⟨av, rfl⟩, rfl, rfl⟩
      have hi2 : i < (wordsAt xs j).length := by
        obtain ⟨h1, _⟩ := List.getElem?_eq_some_iff.mp hi
        rw [List.length_map] at h1; rw [hwl]; exact h1
      have hxi : (wordsAt xs j)[i]? = some (wordsAt xs j)[i] := List.getElem?_eq_getElem hi2
      have hN1 : c1.env.scope.names = ns_l_by_sending_c := by rw [he1, he]; with_unfolding_all rfl
      have hc_machine : c1.env.cells.lookup (Str.ofString "machine") = some (c'.L + 1) := by rw [he1, he]; with_unfolding_all rfl
      rw [List.drop_eq_getElem_cons hi2, take_succ' hxi]
      have hz : ((wordsAt xs j).drop (i + 1)).length ≤ 900 := by rw [List.length_drop, hwl]; omega
      generalize (wordsAt xs j)[i] = x
      generalize (wordsAt xs j).drop (i + 1) = ws' at hz ⊢
      generalize (wordsAt xs j).take i = us
      obtain ⟨z, hz1, hz2⟩ : ∃ z, xs[i]? = some z ∧ AV.int ((z : Nat) : Int) = v := by
        rw [List.getElem?_map] at hi; exact Option.map_eq_some_iff.mp hi
      with_reducible refine n_sto_1 ok1 hN1 nm_l_by_sending_c_a ?_; refine e_meth ?_; refine n_cell ok1 hN1 nm_l_by_sending_c_machine hc_machine (by (first | assumption | (refine At.mem ?_; (repeat (first | assumption | exact List.mem_cons_self | refine List.mem_cons_of_mem _ ?_))))) ?_
      (((with_reducible refine mt_get (by assumption) (by (repeat (first | assumption | exact List.mem_cons_self | refine List.mem_cons_of_mem _ ?_))) (by (repeat (first | assumption | exact List.mem_cons_self | refine List.mem_cons_of_mem _ ?_))) ?_); with_reducible refine cw1_fn (by assumption) (keep_108 _) ?_))
      with_reducible refine a_nil ?_
      refine f_get_pb (n := n + 6) ok1 (by (repeat (first | assumption | exact List.mem_cons_self | refine List.mem_cons_of_mem _ ?_))) (by (repeat (first | assumption | exact List.mem_cons_self | refine List.mem_cons_of_mem _ ?_))) (by (first | assumption | exact .head | exact .tail .head | exact .tail (.tail .head) | exact .tail (.tail (.tail .head)) | exact .tail (.tail (.tail (.tail .head))) | exact .tail (.tail (.tail (.tail (.tail .head)))) | exact .tail (.tail (.tail (.tail (.tail (.tail .head))))) | exact .tail (.tail (.tail (.tail (.tail (.tail (.tail .head)))))) | exact .tail (.tail (.tail (.tail (.tail (.tail (.tail (.tail .head))))))) | exact .tail (.tail (.tail (.tail (.tail (.tail (.tail (.tail (.tail .head)))))))) | exact .tail (.tail (.tail (.tail (.tail (.tail (.tail (.tail (.tail (.tail .head))))))))) | exact .tail (.tail (.tail (.tail (.tail (.tail (.tail (.tail (.tail (.tail (.tail .head)))))))))) | exact .tail (.tail (.tail (.tail (.tail (.tail (.tail (.tail (.tail (.tail (.tail (.tail .head))))))))))) | exact .tail (.tail (.tail (.tail (.tail (.tail (.tail (.tail (.tail (.tail (.tail (.tail (.tail .head)))))))))))))) hz ?_
      refine ⟨_, List.Sublist.refl _, ⟨_, rfl⟩, ?_, rfl⟩
      rw [List.map_append]; rfl
    case done2 =>
    rintro hA2 lo0 ys' led' ⟨-, rfl, rfl⟩
    rw [List.length_map, ← hwl j, List.take_length, List.drop_length]
    with_reducible refine n_sto_5 ok' hN (nm_l_by_sending_heard _) ?_; refine then_next ?_
    have hsi : Float64.isInf (Float64.ofInt (size : Nat)) = false := by
      rcases hs with rfl | rfl | rfl
      · exact inf6
      · exact inf8
      · exact inf12
    have s0 : (size : Int) ≠ 0 := by omega
    refine s_if_join (fun lo led => ∃ wv rv gv bv pv, lo = [some (.ref la), some (.ref lb), some (.int size), some (.int sp), none, some (.ref hA2), wv, some (.str (S g)), some (.ref l1), some (.ref l2), some (.int j), rv, gv, bv, pv, tv, qv, none, none, none, none, none, none, none, none, none] ∧ led = (hA2, wordsO (wordsAt xs j)) :: (l2, intsO (sendRow size xs ys st j).2) :: (l1, intsO (sendRow size xs ys st j).1) :: (c'.L + 1, .cell (some (.ref m))) :: (pb, wordsO []) :: (d, .dict (ND ln sf pb)) :: G) ?_ ?_
    · with_reducible refine t_cmp ?_
      with_reducible refine n_loc_10 ok' hN (nm_l_by_sending_sendings _) ?_; refine n_loc_1 ok' hN (nm_l_by_sending_others _) ?_
      (first | with_reducible refine c_inn (by (first | assumption | (refine IsL.mem ?_; (repeat (first | assumption | exact List.mem_cons_self | refine List.mem_cons_of_mem _ ?_))))) rfl ?_ | with_reducible refine c_in (by (first | assumption | (refine IsL.mem ?_; (repeat (first | assumption | exact List.mem_cons_self | refine List.mem_cons_of_mem _ ?_))))) ?_)
      with_reducible refine t_bool ?_
      refine b_if (fun e1 => ?_) fun e1 => ?_
      · unfold sendRow
        rw [if_pos e1]
        with_reducible refine s_cons ?_
        refine s_forn_list ok' hA2 ((wordsAt xs j).map fun x => AV.str (S x)) (fun i lo led' => ∃ wv rv gv bv pv, lo = [some (.ref la), some (.ref lb), some (.int size), some (.int sp), none, some (.ref hA2), wv, some (.str (S g)), some (.ref l1), some (.ref l2), some (.int j), rv, gv, bv, pv, tv, qv, none, none, none, none, none, none, none, none, none] ∧
          led' = (hA2, wordsO (wordsAt xs j)) :: (l2, intsO ((xs.take i).foldl (sendStep size j) st).2) :: (l1, intsO ((xs.take i).foldl (sendStep size j) st).1) :: (c'.L + 1, .cell (some (.ref m))) :: (pb, wordsO []) :: (d, .dict (ND ln sf pb)) :: G) ?_ ?_ ?_ ?_
        · with_reducible refine n_loc_5 ok' hN (nm_l_by_sending_heard _) ?_
          exact ⟨rfl, .inl (by (repeat (first | assumption | exact List.mem_cons_self | refine List.mem_cons_of_mem _ ?_))), _, _, _, _, _, rfl, rfl⟩
        · rintro i lo led' hi ⟨wv, rv, gv, bv, pv, rfl, rfl⟩
          exact .inl (by (repeat (first | assumption | exact List.mem_cons_self | refine List.mem_cons_of_mem _ ?_)))
        · rintro i v lo led' hv ⟨wv, rv, gv, bv, pv, rfl, rfl⟩
          obtain ⟨a, hxa, rfl⟩ : ∃ a, xs[i]? = some a ∧ AV.str (S (dots (a + 1 + j))) = v := by
            rw [List.getElem?_map, List.getElem?_map] at hv
            obtain ⟨y, hy, rfl⟩ := Option.map_eq_some_iff.mp hv
            obtain ⟨z, hz, rfl⟩ := Option.map_eq_some_iff.mp hy
            exact ⟨z, hz, rfl⟩
          have has := hxs a (List.mem_of_getElem? hxa)
          have hst' : ((xs.take i).foldl (sendStep size j) st).1.length = size ∧ ((xs.take i).foldl (sendStep size j) st).2.length = size :=
            foldl_inv (fun (s : List Int × List Int) => s.1.length = size ∧ s.2.length = size) _ (fun _ _ h => sendStep_len h) _ _ hst
          have e2 : (xs.take (i + 1)).foldl (sendStep size j) st = sendStep size j ((xs.take i).foldl (sendStep size j) st) a := by rw [take_succ' hxa, List.foldl_append]; rfl
          rw [e2]
          generalize (xs.take i).foldl (sendStep size j) st = s at hst' ⊢
          obtain ⟨s1, s2⟩ := s
          obtain ⟨hs1, hs2⟩ := hst'
          dsimp only at hs1 hs2 ⊢
          have pa := placeAt (placeOk_all hs (j := a + j) (by omega))
          obtain ⟨sg, mm, xx, hd, hi, hI, hinf⟩ := hueOk_fin pa.hue
          have hcol : hsvOut (hueF ((a + j : Nat) : Int) (size : Int)) (Float64.truncOf sg mm xx) = colour size (a + j) := by unfold colour; rw [hI]
          have hlen : (((dots (a + 1 + j)).length : Nat) : Int) - 1 = ((a + j : Nat) : Int) := by rw [List.length_replicate]; omega
          have hlen2 : (dots (a + 1 + j)).length < 2 ^ 62 := by rw [List.length_replicate]; omega
          have hp : (a + j) % size < size := Nat.mod_lt _ (by omega)
          have hp1 : ((((a + j) % size : Nat) : Int)).toNat < s1.length := by rw [Int.toNat_natCast]; omega
          have hp2 : ((((a + j) % size : Nat) : Int)).toNat < s2.length := by rw [Int.toNat_natCast]; omega
          have hz1 : s1.length < 2 ^ 62 := by omega
          have hz2 : s2.length < 2 ^ 62 := by omega
          with_reducible refine n_sto_6 ok' hN (nm_l_by_sending_word _) ?_
          refine WpS_drop ?_
          with_reducible refine s_cons ?_; refine s_asgt3 ok' ?_; refine e_cg ok' hN (nm_l_by_sending_hsv_to_rgb _) (gl_hsv_to_rgb _) (keep_hsv_to_rgb _) ?_; refine a_3 ?_; refine e_bin ?_; refine e_bin ?_; refine e_cb ok' hN (nm_l_by_sending_len _) (bl_len _) ?_; refine a_1 ?_; refine n_loc_6 ok' hN (nm_l_by_sending_word _) ?_
          (first | with_reducible refine k_lenS (by (first | exact rfl | exact lit_dot | exact lit_quote | exact lit_back | exact lit_nl | exact lit_cr | exact lit_crlf | exact lit_empty | exact lit_white)) (by (first | assumption | decide | omega | (simp; done) | (simp; omega))) ?_ | with_reducible refine k_lenn (by (first | assumption | (refine IsL.mem ?_; (repeat (first | assumption | exact List.mem_cons_self | refine List.mem_cons_of_mem _ ?_))))) (by (first | assumption | decide | omega | (simp; done) | (simp; omega))) ?_ | with_reducible refine k_leni (by (first | assumption | (refine IsL.mem ?_; (repeat (first | assumption | exact List.mem_cons_self | refine List.mem_cons_of_mem _ ?_))))) (by (first | assumption | decide | omega | (simp; done) | (simp; omega))) ?_ | ((with_reducible refine k_lens ?h2 ?_); (case h2 => (first | assumption | decide | omega | (simp; done) | (simp; omega))))| with_reducible refine k_len (by (first | assumption | (refine IsL.mem ?_; (repeat (first | assumption | exact List.mem_cons_self | refine List.mem_cons_of_mem _ ?_))))) (by (first | assumption | decide | omega | (simp; done) | (simp; omega))) ?_)
          with_reducible refine e_int ?_
          (first | with_reducible refine b_sub ?_ | with_reducible refine f_sub ?_ | with_reducible refine f_subi (by (first | assumption | decide | omega | (simp; done) | (simp; omega))) ?_)
          with_reducible refine n_loc_2 ok' hN (nm_l_by_sending_size _) ?_
          rw [hlen]
          with_reducible refine b_divii s0 hinf ?_; refine e_float ?_; refine e_float ?_
          refine f_hsv (n := n + 6) ok' hd hi (fun (ad7 : Addr) => ?_)
          rw [hcol]
          refine ⟨_, _, _, _, rfl, by (repeat (first | assumption | exact List.mem_cons_self | refine List.mem_cons_of_mem _ ?_)), ?_⟩
          with_reducible refine n_sto_11 ok' hN (nm_l_by_sending_red _) ?_; refine n_sto_12 ok' hN (nm_l_by_sending_green _) ?_; refine n_sto_13 ok' hN (nm_l_by_sending_blue _) ?_; refine then_next ?_; refine s_ca ?_; refine e_bin ?_; refine e_cb ok' hN (nm_l_by_sending_round _) (bl_round _) ?_; refine a_1 ?_; refine e_bin ?_; refine e_sub ?_; refine e_cg ok' hN (nm_l_by_sending_rgb_to_hsv _) (gl_rgb_to_hsv _) (keep_rgb_to_hsv _) ?_; refine a_3 ?_; refine n_loc_11 ok' hN (nm_l_by_sending_red _) ?_; refine n_loc_12 ok' hN (nm_l_by_sending_green _) ?_; refine n_loc_13 ok' hN (nm_l_by_sending_blue _) ?_
          refine f_hue (n := n + 6) ok' (fun _ => ⟨pa.z1, pa.z2⟩) (fun (ad8 : Addr) => ?_)
          with_reducible refine e_int ?_
          (first | with_reducible refine g_nats (by (first | assumption | (refine IsL.mem ?_; (repeat (first | assumption | exact List.mem_cons_self | refine List.mem_cons_of_mem _ ?_))))) (by (first | assumption | decide | omega | (simp; done) | (simp; omega))) (by (first | assumption | decide | omega | (simp; done) | (simp; omega))) (by (first | assumption | decide | omega | (simp; done) | (simp; omega))) ?_ | with_reducible refine g_ints (by (first | assumption | (refine IsL.mem ?_; (repeat (first | assumption | exact List.mem_cons_self | refine List.mem_cons_of_mem _ ?_))))) (by (first | assumption | decide | omega | (simp; done) | (simp; omega))) (by (first | assumption | decide | omega | (simp; done) | (simp; omega))) (by (first | assumption | decide | omega | (simp; done) | (simp; omega))) ?_ | refine g_tup (by (repeat (first | assumption | exact List.mem_cons_self | refine List.mem_cons_of_mem _ ?_))) (by (first | assumption | decide | omega | (simp; done) | (simp; omega))) (by (first | assumption | decide | omega | (simp; done) | (simp; omega))) rfl ?_)
          with_reducible refine n_loc_2 ok' hN (nm_l_by_sending_size _) ?_
          (first | with_reducible refine f_mul ?_ | with_reducible refine b_repi (by (repeat (first | assumption | exact List.mem_cons_self | refine List.mem_cons_of_mem _ ?_))) (by (first | assumption | decide | omega | (simp; done) | (simp; omega))) (by (first | assumption | decide | omega | (simp; done) | (simp; omega))) (fun _ => ?_) | with_reducible refine f_muli (by (first | assumption | decide | omega | (simp; done) | (simp; omega))) ?_ | with_reducible refine b_mul ?_ (by (first | assumption | decide | omega | (simp; done) | (simp; omega))) | with_reducible refine b_smul (by (first | exact rfl | exact lit_dot | exact lit_quote | exact lit_back | exact lit_nl | exact lit_cr | exact lit_crlf | exact lit_empty | exact lit_white)) (by (first | assumption | decide | omega | (simp; done) | (simp; omega))) (by (first | assumption | decide | omega | (simp; done) | (simp; omega))) ?_)
          with_reducible refine k_round ok' pa.nan pa.inf ?_; refine n_loc_2 ok' hN (nm_l_by_sending_size _) ?_
          (first | with_reducible refine b_mod (by (first | assumption | decide | omega | (simp; done) | (simp; omega))) ?_ | with_reducible refine f_mod (by (first | assumption | decide | omega | (simp; done) | (simp; omega))) ?_)
          with_reducible refine n_sto_14 ok' hN (nm_l_by_sending_place _) ?_
          rw [pa.at_]
          with_reducible refine s_cai ?_; refine e_bin ?_; refine e_sub ?_; refine n_loc_8 ok' hN (nm_l_by_sending_often _) ?_; refine n_loc_14 ok' hN (nm_l_by_sending_place _) ?_
          (first | with_reducible refine g_nats (by (first | assumption | (refine IsL.mem ?_; (repeat (first | assumption | exact List.mem_cons_self | refine List.mem_cons_of_mem _ ?_))))) (by (first | assumption | decide | omega | (simp; done) | (simp; omega))) (by (first | assumption | decide | omega | (simp; done) | (simp; omega))) (by (first | assumption | decide | omega | (simp; done) | (simp; omega))) ?_ | with_reducible refine g_ints (by (first | assumption | (refine IsL.mem ?_; (repeat (first | assumption | exact List.mem_cons_self | refine List.mem_cons_of_mem _ ?_))))) (by (first | assumption | decide | omega | (simp; done) | (simp; omega))) (by (first | assumption | decide | omega | (simp; done) | (simp; omega))) (by (first | assumption | decide | omega | (simp; done) | (simp; omega))) ?_ | refine g_tup (by (repeat (first | assumption | exact List.mem_cons_self | refine List.mem_cons_of_mem _ ?_))) (by (first | assumption | decide | omega | (simp; done) | (simp; omega))) (by (first | assumption | decide | omega | (simp; done) | (simp; omega))) rfl ?_)
          with_reducible refine e_int ?_
          (first | with_reducible refine b_add ?_ | with_reducible refine f_add ?_ | with_reducible refine b_sadd (by (first | exact rfl | exact lit_dot | exact lit_quote | exact lit_back | exact lit_nl | exact lit_cr | exact lit_crlf | exact lit_empty | exact lit_white)) (by (first | exact rfl | exact lit_dot | exact lit_quote | exact lit_back | exact lit_nl | exact lit_cr | exact lit_crlf | exact lit_empty | exact lit_white)) (by (first | assumption | decide | omega | (simp; done) | (simp; omega))) ?_)
          with_reducible refine n_loc_8 ok' hN (nm_l_by_sending_often _) ?_; refine n_loc_14 ok' hN (nm_l_by_sending_place _) ?_
          (first | with_reducible refine set_ints (by (first | assumption | exact .head | exact .tail .head | exact .tail (.tail .head) | exact .tail (.tail (.tail .head)) | exact .tail (.tail (.tail (.tail .head))) | exact .tail (.tail (.tail (.tail (.tail .head)))) | exact .tail (.tail (.tail (.tail (.tail (.tail .head))))) | exact .tail (.tail (.tail (.tail (.tail (.tail (.tail .head)))))) | exact .tail (.tail (.tail (.tail (.tail (.tail (.tail (.tail .head))))))) | exact .tail (.tail (.tail (.tail (.tail (.tail (.tail (.tail (.tail .head)))))))) | exact .tail (.tail (.tail (.tail (.tail (.tail (.tail (.tail (.tail (.tail .head))))))))) | exact .tail (.tail (.tail (.tail (.tail (.tail (.tail (.tail (.tail (.tail (.tail .head)))))))))) | exact .tail (.tail (.tail (.tail (.tail (.tail (.tail (.tail (.tail (.tail (.tail (.tail .head))))))))))) | exact .tail (.tail (.tail (.tail (.tail (.tail (.tail (.tail (.tail (.tail (.tail (.tail (.tail .head)))))))))))))) (by (first | assumption | decide | omega | (simp; done) | (simp; omega))) (by (first | assumption | decide | omega | (simp; done) | (simp; omega))) (by (first | assumption | decide | omega | (simp; done) | (simp; omega))) ?_)
          rw [Int.toNat_natCast]
          with_reducible refine s_cons ?_; refine s_if ?_; refine t_cmp ?_; refine e_cb ok' hN (nm_l_by_sending_len _) (bl_len _) ?_; refine a_1 ?_; refine n_loc_6 ok' hN (nm_l_by_sending_word _) ?_
          (first | with_reducible refine k_lenS (by (first | exact rfl | exact lit_dot | exact lit_quote | exact lit_back | exact lit_nl | exact lit_cr | exact lit_crlf | exact lit_empty | exact lit_white)) (by (first | assumption | decide | omega | (simp; done) | (simp; omega))) ?_ | with_reducible refine k_lenn (by (first | assumption | (refine IsL.mem ?_; (repeat (first | assumption | exact List.mem_cons_self | refine List.mem_cons_of_mem _ ?_))))) (by (first | assumption | decide | omega | (simp; done) | (simp; omega))) ?_ | with_reducible refine k_leni (by (first | assumption | (refine IsL.mem ?_; (repeat (first | assumption | exact List.mem_cons_self | refine List.mem_cons_of_mem _ ?_))))) (by (first | assumption | decide | omega | (simp; done) | (simp; omega))) ?_ | ((with_reducible refine k_lens ?h2 ?_); (case h2 => (first | assumption | decide | omega | (simp; done) | (simp; omega))))| with_reducible refine k_len (by (first | assumption | (refine IsL.mem ?_; (repeat (first | assumption | exact List.mem_cons_self | refine List.mem_cons_of_mem _ ?_))))) (by (first | assumption | decide | omega | (simp; done) | (simp; omega))) ?_)
          with_reducible refine n_loc_2 ok' hN (nm_l_by_sending_size _) ?_
          (with_reducible refine c_gt ?_)
          with_reducible refine t_bool ?_
          have hgt : decide ((size : Int) < (((dots (a + 1 + j)).length : Nat) : Int)) = decide (size ≤ a + j) := by rw [List.length_replicate]; exact decide_eq_decide.mpr (by omega)
          rw [hgt]
          refine b_if (fun e3 => ?_) fun e3 => ?_
          · have e4 : size ≤ a + j := of_decide_eq_true e3
            with_reducible refine s_cai ?_; refine e_bin ?_; refine e_sub ?_; refine n_loc_9 ok' hN (nm_l_by_sending_over _) ?_; refine n_loc_14 ok' hN (nm_l_by_sending_place _) ?_
            (first | with_reducible refine g_nats (by (first | assumption | (refine IsL.mem ?_; (repeat (first | assumption | exact List.mem_cons_self | refine List.mem_cons_of_mem _ ?_))))) (by (first | assumption | decide | omega | (simp; done) | (simp; omega))) (by (first | assumption | decide | omega | (simp; done) | (simp; omega))) (by (first | assumption | decide | omega | (simp; done) | (simp; omega))) ?_ | with_reducible refine g_ints (by (first | assumption | (refine IsL.mem ?_; (repeat (first | assumption | exact List.mem_cons_self | refine List.mem_cons_of_mem _ ?_))))) (by (first | assumption | decide | omega | (simp; done) | (simp; omega))) (by (first | assumption | decide | omega | (simp; done) | (simp; omega))) (by (first | assumption | decide | omega | (simp; done) | (simp; omega))) ?_ | refine g_tup (by (repeat (first | assumption | exact List.mem_cons_self | refine List.mem_cons_of_mem _ ?_))) (by (first | assumption | decide | omega | (simp; done) | (simp; omega))) (by (first | assumption | decide | omega | (simp; done) | (simp; omega))) rfl ?_)
            with_reducible refine e_int ?_
            (first | with_reducible refine b_add ?_ | with_reducible refine f_add ?_ | with_reducible refine b_sadd (by (first | exact rfl | exact lit_dot | exact lit_quote | exact lit_back | exact lit_nl | exact lit_cr | exact lit_crlf | exact lit_empty | exact lit_white)) (by (first | exact rfl | exact lit_dot | exact lit_quote | exact lit_back | exact lit_nl | exact lit_cr | exact lit_crlf | exact lit_empty | exact lit_white)) (by (first | assumption | decide | omega | (simp; done) | (simp; omega))) ?_)
            with_reducible refine n_loc_9 ok' hN (nm_l_by_sending_over _) ?_; refine n_loc_14 ok' hN (nm_l_by_sending_place _) ?_
            (first | with_reducible refine set_ints (by (first | assumption | exact .head | exact .tail .head | exact .tail (.tail .head) | exact .tail (.tail (.tail .head)) | exact .tail (.tail (.tail (.tail .head))) | exact .tail (.tail (.tail (.tail (.tail .head)))) | exact .tail (.tail (.tail (.tail (.tail (.tail .head))))) | exact .tail (.tail (.tail (.tail (.tail (.tail (.tail .head)))))) | exact .tail (.tail (.tail (.tail (.tail (.tail (.tail (.tail .head))))))) | exact .tail (.tail (.tail (.tail (.tail (.tail (.tail (.tail (.tail .head)))))))) | exact .tail (.tail (.tail (.tail (.tail (.tail (.tail (.tail (.tail (.tail .head))))))))) | exact .tail (.tail (.tail (.tail (.tail (.tail (.tail (.tail (.tail (.tail (.tail .head)))))))))) | exact .tail (.tail (.tail (.tail (.tail (.tail (.tail (.tail (.tail (.tail (.tail (.tail .head))))))))))) | exact .tail (.tail (.tail (.tail (.tail (.tail (.tail (.tail (.tail (.tail (.tail (.tail (.tail .head)))))))))))))) (by (first | assumption | decide | omega | (simp; done) | (simp; omega))) (by (first | assumption | decide | omega | (simp; done) | (simp; omega))) (by (first | assumption | decide | omega | (simp; done) | (simp; omega))) ?_)
            rw [Int.toNat_natCast]
            refine s_end ?_
            with_reducible refine s_nil ?_
            refine ⟨_, ?_, _, _, _, _, _, rfl, rfl⟩
            unfold sendStep
            rw [if_pos e4]
            (repeat (first | exact List.Sublist.refl _ | with_reducible refine List.Sublist.cons_cons _ ?_ | refine List.Sublist.cons _ ?_))
          · have e4 : ¬ size ≤ a + j := of_decide_eq_false e3
            refine s_end ?_
            with_reducible refine s_nil ?_
            refine ⟨_, ?_, _, _, _, _, _, rfl, rfl⟩
            unfold sendStep
            rw [if_neg e4]
            (repeat (first | exact List.Sublist.refl _ | with_reducible refine List.Sublist.cons_cons _ ?_ | refine List.Sublist.cons _ ?_))
        · rintro lo led' ⟨wv, rv, gv, bv, pv, rfl, rfl⟩
          rw [List.length_map, hwl, List.take_length]
          refine then_next ?_
          with_reducible refine s_nil ?_
          exact ⟨rfl, _, _, _, _, _, rfl, rfl⟩
      · with_reducible refine s_nil ?_
        refine ⟨rfl, _, _, _, _, _, rfl, ?_⟩
        unfold sendRow
        rw [if_neg (by rw [e1]; exact Bool.false_ne_true)]
    · rintro lo led' ⟨wv, rv, gv, bv, pv, rfl, rfl⟩
      have hgl : g.length ≤ 16 := by rcases hg1 with rfl | rfl | rfl <;> decide
      have ek : wordsAt xs (j + 1) = ((xs.map fun a => a + 1 + j).map fun k => k + 1).map dots := by rw [List.map_map, List.map_map]; rfl
      have ekk : ((xs.map fun a => a + 1 + j).map fun k => dots (k + 1)) = ((xs.map fun a => a + 1 + j).map fun k => k + 1).map dots := by rw [List.map_map, List.map_map, List.map_map]; rfl
      rw [ek, wordsAt_eq xs j]
      have hk : ∀ k ∈ xs.map (fun a => a + 1 + j), 1 ≤ k ∧ k ≤ 99 := fun k hk => by
        obtain ⟨a, ha', rfl⟩ := List.mem_map.mp hk
        have := hxs a ha'
        omega
      have hkl : (xs.map fun a => a + 1 + j).length ≤ 8 := by rw [List.length_map]; omega
      have hkn : (xs.map fun a => a + 1 + j) ≠ [] := fun e => hx0 (List.map_eq_nil_iff.mp e)
      generalize (xs.map fun a => a + 1 + j) = ks at hk hkl hkn ekk ⊢
      have hk1 : ∀ k ∈ ks, 1 ≤ k ∧ k ≤ 100 := fun k h => by have := hk k h; omega
      have hk2 : ∀ k ∈ ks.map (fun k => k + 1), 1 ≤ k ∧ k ≤ 100 := fun k h => by
        obtain ⟨a, ha', rfl⟩ := List.mem_map.mp h
        have := hk a ha'
        omega
      have hkn2 : (ks.map fun k => k + 1) ≠ [] := fun e => hkn (List.map_eq_nil_iff.mp e)
      have hkl2 : (ks.map fun k => k + 1).length ≤ 8 := by rw [List.length_map]; exact hkl
      have hjz : ((ks.map dots).map List.length).sum + (ks.map dots).length ≤ 1048576 := by
        have h1 := dots_sum (m := 100) (ks := ks) fun k h => (hk1 k h).2
        rw [List.length_map]
        omega
      have hlen : ∀ qs : List Nat, (∀ k ∈ qs, 1 ≤ k ∧ k ≤ 100) → qs.length ≤ 8 → (joinL [13, 10] (qs.map dots)).length ≤ 100000 := by
        intro qs h1 h2
        have h3 := joinL_len [13, 10] (qs.map dots)
        have h4 := dots_sum (m := 100) (ks := qs) fun k h => (h1 k h).2
        rw [List.length_map] at h3
        simp only [List.length_cons, List.length_nil] at h3
        omega
      with_reducible refine s_ca ?_; refine e_cg ok' hN (nm_l_by_sending_quote_periods _) (gl_quote_periods _) (keep_quote_periods _) ?_; refine a_1 ?_; refine e_meth ?_; refine e_cg ok' hN (nm_l_by_sending_fix_eols _) (gl_fix_eols _) (keep_fix_eols _) ?_; refine a_1 ?_; refine e_meth ?_; refine n_loc_7 ok' hN (nm_l_by_sending_gap _) ?_
      (((with_reducible refine m_str PySem.F.slot_str_join smd_join ?_); with_reducible refine cw1_blt ?_))
      with_reducible refine a_1 ?_; refine n_loc_5 ok' hN (nm_l_by_sending_heard _) ?_
      (with_reducible refine k_join (by (first | exact rfl | exact lit_dot | exact lit_quote | exact lit_back | exact lit_nl | exact lit_cr | exact lit_crlf | exact lit_empty | exact lit_white)) (by (first | assumption | (refine IsL.mem ?_; (repeat (first | assumption | exact List.mem_cons_self | refine List.mem_cons_of_mem _ ?_))))) (by (first | assumption | decide | omega | (simp; done) | (simp; omega))) (by (first | assumption | decide | omega | (simp; done) | (simp; omega))) ?_)
      refine f_eols (n := n + 8) ok' hg1 hkn hk1 hkl ?_
      (((refine m_encode ?_); with_reducible refine cw1_blt ?_))
      with_reducible refine a_1 ?_; refine e_str ?_
      refine k_encode (l := joinL [13, 10] (ks.map dots)) rfl rfl (hlen ks hk1 hkl) (join256 ks) (join_pos hkn fun k h => (hk1 k h).1) ?_
      refine f_quote (n := n + 8) ok' hkn hk1 hkl ?_
      rw [ekk]
      with_reducible refine n_sto_15 ok' hN (nm_l_by_sending_sent _) ?_
      clear ekk
      generalize (ks.map fun k => k + 1) = qs at hk2 hkn2 hkl2 ⊢
      with_reducible refine s_cons ?_
      refine s_forn_listE ok' ((qs.map dots).map fun x => AV.str (S x)) (fun aS i lo led' => ∃ tv qv, lo = [some (.ref la), some (.ref lb), some (.int size), some (.int sp), none, some (.ref hA2), wv, some (.str (S g)), some (.ref l1), some (.ref l2), some (.int j), rv, gv, bv, pv, tv, qv, none, none, none, none, none, none, none, none, none] ∧
        led' = (aS, wordsO (qs.map dots)) :: (hA2, wordsO (ks.map dots)) :: (l2, intsO (sendRow size xs ys st j).2) :: (l1, intsO (sendRow size xs ys st j).1) :: (c'.L + 1, .cell (some (.ref m))) :: (pb, wordsO ((qs.map dots).take i)) :: (d, .dict (ND ln sf pb)) :: G) ?_ ?_ ?_ ?_
      · with_reducible refine e_meth ?_
        with_reducible refine e_meth ?_; refine n_loc_15 ok' hN (nm_l_by_sending_sent _) ?_
        (((refine m_decode ?_); with_reducible refine cw1_blt ?_))
        with_reducible refine a_1 ?_; refine e_str ?_
        refine k_decode (l := joinL [13, 10] (qs.map dots)) rfl (hlen qs hk2 hkl2) (join256 qs) (join_pos hkn2 fun k h => (hk2 k h).1) ?_
        (((refine m_split ?_); with_reducible refine cw1_blt ?_))
        with_reducible refine a_1 ?_; refine e_str ?_
        refine k_split (ks := qs) hkn2 rfl lit_crlf (hlen qs hk2 hkl2) (fun (aS : Addr) => ?_)
        exact ⟨aS, rfl, .inl (by (repeat (first | assumption | exact List.mem_cons_self | refine List.mem_cons_of_mem _ ?_))), _, qv, rfl, rfl⟩
      · rintro aS i lo led' hi ⟨tv, qv, rfl, rfl⟩
        exact .inl (by (repeat (first | assumption | exact List.mem_cons_self | refine List.mem_cons_of_mem _ ?_)))
      · rintro aS i v lo led' hv ⟨tv, qv, rfl, rfl⟩
        obtain ⟨x, hx', rfl⟩ : ∃ x, (qs.map dots)[i]? = some x ∧ AV.str (S x) = v := by
          rw [List.getElem?_map] at hv; exact Option.map_eq_some_iff.mp hv
        have hz : ((qs.map dots).take i).length ≤ 900 := by have := List.length_take_le' i (qs.map dots); rw [List.length_map] at this; omega
        with_reducible refine n_sto_16 ok' hN (nm_l_by_sending_row _) ?_; refine s_cx ok' ?_; refine e_meth ?_; refine n_cell ok' hN (nm_l_by_sending_machine _) hc_machine (by (first | assumption | (refine At.mem ?_; (repeat (first | assumption | exact List.mem_cons_self | refine List.mem_cons_of_mem _ ?_))))) ?_
        (((with_reducible refine mt_push (by assumption) (by (repeat (first | assumption | exact List.mem_cons_self | refine List.mem_cons_of_mem _ ?_))) (by (repeat (first | assumption | exact List.mem_cons_self | refine List.mem_cons_of_mem _ ?_))) ?_); with_reducible refine cw1_fn (by assumption) (keep_115 _) ?_))
        with_reducible refine a_1 ?_; refine n_loc_16 ok' hN (nm_l_by_sending_row _) ?_
        refine f_push (n := n + 6) ok' (by (repeat (first | assumption | exact List.mem_cons_self | refine List.mem_cons_of_mem _ ?_))) (by (repeat (first | assumption | exact List.mem_cons_self | refine List.mem_cons_of_mem _ ?_))) (by (first | assumption | exact .head | exact .tail .head | exact .tail (.tail .head) | exact .tail (.tail (.tail .head)) | exact .tail (.tail (.tail (.tail .head))) | exact .tail (.tail (.tail (.tail (.tail .head)))) | exact .tail (.tail (.tail (.tail (.tail (.tail .head))))) | exact .tail (.tail (.tail (.tail (.tail (.tail (.tail .head)))))) | exact .tail (.tail (.tail (.tail (.tail (.tail (.tail (.tail .head))))))) | exact .tail (.tail (.tail (.tail (.tail (.tail (.tail (.tail (.tail .head)))))))) | exact .tail (.tail (.tail (.tail (.tail (.tail (.tail (.tail (.tail (.tail .head))))))))) | exact .tail (.tail (.tail (.tail (.tail (.tail (.tail (.tail (.tail (.tail (.tail .head)))))))))) | exact .tail (.tail (.tail (.tail (.tail (.tail (.tail (.tail (.tail (.tail (.tail (.tail .head))))))))))) | exact .tail (.tail (.tail (.tail (.tail (.tail (.tail (.tail (.tail (.tail (.tail (.tail (.tail .head)))))))))))))) hz ?_
        with_reducible refine s_nil ?_
        exact ⟨_, _, rfl, by rw [take_succ' hx']⟩
      · rintro aS lo led' ⟨tv, qv, rfl, rfl⟩
        rw [List.length_map, List.take_length]
        refine then_next ?_
        with_reducible refine s_nil ?_
        refine ⟨_, ?_, _, _, _, _, _, _, _, _, _, rfl, rfl⟩
        (repeat (first | exact List.Sublist.refl _ | with_reducible refine List.Sublist.cons_cons _ ?_ | refine List.Sublist.cons _ ?_))
  · rintro lo led' ⟨hv, wv, sv, rv, gv, bv, pv, tv, qv, rfl, rfl⟩
    refine then_next ?_
    with_reducible refine s_cr ?_; refine e_list ?_; refine a_2 ?_; refine n_loc_8 ok' hN (nm_l_by_sending_often _) ?_; refine n_loc_9 ok' hN (nm_l_by_sending_over _) ?_
    refine ⟨by (first | assumption | decide | omega | (simp; done) | (simp; omega)), fun (ad4 : Addr) => ?_⟩
    unfold sendAll at h
    exact ⟨_, List.Sublist.cons_cons _ (List.Sublist.cons_cons _ (List.Sublist.cons_cons _ (.cons _ (.cons _ (.cons _ hsub))))), h _ l1 l2 ps⟩
end
section
variable {prog : Program} {w : World} {c : Cx} {n : Nat} {lo : Lo} {led led' : Led} {R : AV → Lo → Led → Prop}
structure Plain (size : Nat) (xs ys : List Nat) (last wd : Nat) : Prop where
  told : sendAll size xs ys last = pairAll size xs ys
  low : zs (digs wd size (dval wd (bits xs size) * dval wd (bits ys size) % (2 ^ (wd * size) - 1))) = (pairAll size xs ys).1
  high : zs (digs wd size (dval wd (bits xs size) * dval wd (bits ys size) / (2 ^ (wd * size) - 1))) = (pairAll size xs ys).2
  kneser : KneserOk (sumsK (pairAll size xs ys).1 size) (turnsK (sumsK (pairAll size xs ys).1 size) size) xs ys size
noncomputable def PlainLaw : Prop := ∀ size xs ys last wd, (size = 6 ∨ size = 8 ∨ size = 12) → (wd = 3 ∨ wd = 4) → xs ≠ [] → xs.length ≤ 4 → xs.Pairwise (· < ·) → (∀ x ∈ xs, x < size) → ys ≠ [] → ys.length ≤ 4 → ys.Pairwise (· < ·) → (∀ x ∈ ys, x < size) → ys.getLast? = some last → Plain size xs ys last wd
theorem f_lawbody {ls : Addr} {ns : List Int} (hplain : PlainLaw) (hn : ns.length ≤ 63) {c' : Cx} (ok' : c'.Ok w (n + 21)) (hN : c'.env.scope.names = nmOf 215 w) (hl : ∀ c2 : Cx, (∀ b o, c'.base.get? b = some o → c2.base.get? b = some o) → ∀ led, IsL w c2 led ls (ns.map AV.int)) :
    ∃ bd, (fdOf 215 w).body = .stmts bd ∧ WpS prog w c' (execs bd c'.env) (fun fl _ led => retOf fl = .bool true ∧ ∃ p1 p2 p3, (54, .raw (tabObj p1)) ∈ led ∧ (47, .raw (tabObj p2)) ∈ led ∧ (162, .raw (tabObj p3)) ∈ led)
      [some (.ref ls), none, none, none, none, none, none, none, none, none, none, none, none, none, none] [(54, .raw (tabObj #[])), (47, .raw (tabObj #[])), (162, .raw (tabObj #[]))] := by
  refine ⟨?bd, ?hb, ?main⟩
  case hb => with_unfolding_all rfl
  case main =>
  with_reducible refine s_ca ?_; refine e_cg ok' hN (nm_law_law_cells _) (gl_law_cells _) (keep_law_cells _) ?_; refine a_1 ?_; refine n_loc_0 ok' hN (nm_law_script _) ?_
  refine f_cells (n := n + 16) (ns := ns) ok' hn hl (fun (dc : Addr) ms hm9 hm0 => ?_)
  with_reducible refine n_sto_1 ok' hN (nm_law_cells _) ?_
  have hsz : ∃ size : Nat, (size = 6 ∨ size = 8 ∨ size = 12) ∧ [AV.int 6, AV.int 8, AV.int 12][((ms.getD (0 : Int).toNat 0).fmod 3).toNat]? = some (.int size) := by
    have h1 := fmod_nonneg' (ms.getD (0 : Int).toNat 0) (b := 3) (by decide)
    have h2 := fmod_lt' (ms.getD (0 : Int).toNat 0) (b := 3) (by decide)
    generalize (ms.getD (0 : Int).toNat 0).fmod 3 = k at h1 h2
    rcases (by omega : k = 0 ∨ k = 1 ∨ k = 2) with rfl | rfl | rfl
    · exact ⟨6, .inl rfl, rfl⟩
    · exact ⟨8, .inr (.inl rfl), rfl⟩
    · exact ⟨12, .inr (.inr rfl), rfl⟩
  obtain ⟨size, hs, hsx⟩ := hsz
  have hs12 : size ≤ 12 := by omega
  have hs6 : 6 ≤ size := by omega
  have hc0 : (0 : Int).toNat < ms.length := by rw [hm9]; decide
  have hc1 : ms.length < 2 ^ 62 := by omega
  have hk0 := fmod_nonneg' (ms.getD (0 : Int).toNat 0) (b := 3) (by decide)
  have hk3 := fmod_lt' (ms.getD (0 : Int).toNat 0) (b := 3) (by decide)
  with_reducible refine s_ca ?_; refine e_sub ?_; refine e_tuple ?_; refine a_3 ?_; refine e_int ?_; refine e_int ?_; refine e_int ?_
  refine ⟨by (first | assumption | decide | omega | (simp; done) | (simp; omega)), fun (ad1 : Addr) => ?_⟩
  with_reducible refine e_bin ?_; refine e_sub ?_; refine n_loc_1 ok' hN (nm_law_cells _) ?_; refine e_int ?_
  first | with_reducible refine g_ints (by (first | assumption | (refine IsL.mem ?_; (repeat (first | assumption | exact List.mem_cons_self | refine List.mem_cons_of_mem _ ?_))))) (by omega) hc0 hc1 ?_ | refine g_tup (by (repeat (first | assumption | exact List.mem_cons_self | refine List.mem_cons_of_mem _ ?_))) (by omega) (by omega) hsx ?_
  with_reducible refine e_int ?_
  (first | with_reducible refine b_mod (by (first | assumption | decide | omega | (simp; done) | (simp; omega))) ?_ | with_reducible refine f_mod (by (first | assumption | decide | omega | (simp; done) | (simp; omega))) ?_)
  first | with_reducible refine g_ints (by (first | assumption | (refine IsL.mem ?_; (repeat (first | assumption | exact List.mem_cons_self | refine List.mem_cons_of_mem _ ?_))))) (by omega) hc0 hc1 ?_ | refine g_tup (by (repeat (first | assumption | exact List.mem_cons_self | refine List.mem_cons_of_mem _ ?_))) (by omega) (by omega) hsx ?_
  with_reducible refine n_sto_2 ok' hN (nm_law_size _) ?_; refine s_ca ?_; refine e_bin ?_; refine e_sub ?_; refine n_loc_1 ok' hN (nm_law_cells _) ?_; refine e_int ?_
  first | with_reducible refine g_ints (by (first | assumption | (refine IsL.mem ?_; (repeat (first | assumption | exact List.mem_cons_self | refine List.mem_cons_of_mem _ ?_))))) (by omega) hc0 hc1 ?_ | refine g_tup (by (repeat (first | assumption | exact List.mem_cons_self | refine List.mem_cons_of_mem _ ?_))) (by omega) (by omega) hsx ?_
  with_reducible refine e_int ?_
  (first | with_reducible refine b_div (by (first | assumption | decide | omega | (simp; done) | (simp; omega))) (by (first | assumption | decide | omega | (simp; done) | (simp; omega))) ?_)
  with_reducible refine n_sto_3 ok' hN (nm_law_spelled _) ?_
  obtain ⟨sp, hsp⟩ : ∃ sp : Nat, (ms.getD (0 : Int).toNat 0).fdiv 3 = (sp : Int) := by
    have := hm0 _ (getD_mem' hc0)
    rw [Int.fdiv_eq_ediv_of_nonneg _ (by decide)]
    exact ⟨((ms.getD (0 : Int).toNat 0) / 3).toNat, by omega⟩
  rw [hsp]
  have hb1 : sliceBounds (some 1) (some 5) none (ms.map AV.int).length = (((1 : Nat) : Int), ((5 : Nat) : Int), 1) := by rw [List.length_map, hm9]; decide
  have hb2 : sliceBounds (some 5) (some 9) none (ms.map AV.int).length = (((5 : Nat) : Int), ((9 : Nat) : Int), 1) := by rw [List.length_map, hm9]; decide
  with_reducible refine s_ca ?_; refine e_cg ok' hN (nm_law_law_places _) (gl_law_places _) (keep_law_places _) ?_; refine a_2 ?_
  refine e_slicel dc (ms.map AV.int) ?_
  with_reducible refine n_loc_1 ok' hN (nm_law_cells _) ?_
  refine ⟨rfl, ?_⟩
  with_reducible refine o_some ?_; refine e_int ?_
  refine ⟨_, rfl, ?_⟩
  with_reducible refine o_some ?_; refine e_int ?_
  refine ⟨_, rfl, ?_⟩
  refine ⟨by (first | assumption | (refine IsL.mem ?_; (repeat (first | assumption | exact List.mem_cons_self | refine List.mem_cons_of_mem _ ?_)))), by rw [List.length_map]; omega, 1, 5, hb1, fun (dr : Addr) => ?_⟩
  rw [← List.map_drop, ← List.map_take]
  with_reducible refine n_loc_2 ok' hN (nm_law_size _) ?_
  refine f_places (n := n + 16) (ns := (ms.drop 1).take (5 - 1)) ok' (by omega) (by rw [List.length_take, List.length_drop]; omega) (by (repeat (first | assumption | exact List.mem_cons_self | refine List.mem_cons_of_mem _ ?_))) (fun (dx : Addr) xs hx0 hx4 hxp hxs => ?_)
  with_reducible refine n_sto_4 ok' hN (nm_law_ones _) ?_; refine s_ca ?_; refine e_cg ok' hN (nm_law_law_places _) (gl_law_places _) (keep_law_places _) ?_; refine a_2 ?_
  refine e_slicel dc (ms.map AV.int) ?_
  with_reducible refine n_loc_1 ok' hN (nm_law_cells _) ?_
  refine ⟨rfl, ?_⟩
  with_reducible refine o_some ?_; refine e_int ?_
  refine ⟨_, rfl, ?_⟩
  with_reducible refine o_some ?_; refine e_int ?_
  refine ⟨_, rfl, ?_⟩
  refine ⟨by (first | assumption | (refine IsL.mem ?_; (repeat (first | assumption | exact List.mem_cons_self | refine List.mem_cons_of_mem _ ?_)))), by rw [List.length_map]; omega, 5, 9, hb2, fun (dr : Addr) => ?_⟩
  rw [← List.map_drop, ← List.map_take]
  with_reducible refine n_loc_2 ok' hN (nm_law_size _) ?_
  refine f_places (n := n + 16) (ns := (ms.drop 5).take (9 - 5)) ok' (by omega) (by rw [List.length_take, List.length_drop]; omega) (by (repeat (first | assumption | exact List.mem_cons_self | refine List.mem_cons_of_mem _ ?_))) (fun (dy : Addr) ys hy0 hy4 hyp hys => ?_)
  with_reducible refine n_sto_5 ok' hN (nm_law_others _) ?_
  obtain ⟨last, hlast⟩ : ∃ last, ys.getLast? = some last := ⟨_, List.getLast?_eq_some_getLast hy0⟩
  have hll : last < size := hys last (List.mem_of_getLast? hlast)
  obtain ⟨wd, hwd, hwi⟩ : ∃ wd : Nat, (wd = 3 ∨ wd = 4) ∧ 3 + ((sp : Int).fdiv 243).fmod 2 = (wd : Int) := by
    have h1 := fmod_nonneg' ((sp : Int).fdiv 243) (b := 2) (by decide)
    have h2 := fmod_lt' ((sp : Int).fdiv 243) (b := 2) (by decide)
    rcases (by omega : ((sp : Int).fdiv 243).fmod 2 = 0 ∨ ((sp : Int).fdiv 243).fmod 2 = 1) with e | e
    · exact ⟨3, .inl rfl, by rw [e]; rfl⟩
    · exact ⟨4, .inr rfl, by rw [e]; rfl⟩
  obtain ⟨pt, pl, ph, pk⟩ := hplain size xs ys last wd hs hwd hx0 hx4 hxp hxs hy0 hy4 hyp hys hlast
  have hlen := pairAll_len (size := size) (xs := xs) (ys := ys)
  refine WpS_pre [(dy, natsO ys), (dx, natsO xs), (54, .raw (tabObj #[])), (47, .raw (tabObj #[])), (162, .raw (tabObj #[]))] (by (repeat (first | exact List.Sublist.refl _ | with_reducible refine List.Sublist.cons_cons _ ?_ | refine List.Sublist.cons _ ?_))) ?_
  with_reducible refine s_ca ?_; refine e_cg ok' hN (nm_law_law_by_sending _) (gl_law_by_sending _) (keep_law_by_sending _) ?_; refine a_cons ?_; refine n_loc_4 ok' hN (nm_law_ones _) ?_; refine a_cons ?_; refine n_loc_5 ok' hN (nm_law_others _) ?_; refine a_cons ?_; refine n_loc_2 ok' hN (nm_law_size _) ?_; refine a_cons ?_; refine n_loc_3 ok' hN (nm_law_spelled _) ?_; refine a_nil ?_
  refine Call_perm _ (List.perm_middle (l₁ := [_, _, _, _])) ?_
  refine f_sending (n := n + 9) ok' hs hx0 hx4 hxs hlast hll (by (repeat (first | assumption | exact List.mem_cons_self | refine List.mem_cons_of_mem _ ?_))) (by (repeat (first | assumption | exact List.mem_cons_self | refine List.mem_cons_of_mem _ ?_))) (fun (dt t1 t2 : Addr) p3 => ?_)
  rw [pt]
  simp only [List.cons_append, List.nil_append]
  with_reducible refine n_sto_6 ok' hN (nm_law_told _) ?_; refine s_ca ?_; refine e_cg ok' hN (nm_law_law_by_division _) (gl_law_by_division _) (keep_law_by_division _) ?_; refine a_cons ?_; refine n_loc_4 ok' hN (nm_law_ones _) ?_; refine a_cons ?_; refine n_loc_5 ok' hN (nm_law_others _) ?_; refine a_cons ?_; refine n_loc_2 ok' hN (nm_law_size _) ?_; refine a_cons ?_; refine e_bin ?_; refine e_int ?_; refine e_bin ?_; refine e_bin ?_; refine n_loc_3 ok' hN (nm_law_spelled _) ?_; refine e_int ?_
  (first | with_reducible refine b_div (by (first | assumption | decide | omega | (simp; done) | (simp; omega))) (by (first | assumption | decide | omega | (simp; done) | (simp; omega))) ?_)
  with_reducible refine e_int ?_
  (first | with_reducible refine b_mod (by (first | assumption | decide | omega | (simp; done) | (simp; omega))) ?_ | with_reducible refine f_mod (by (first | assumption | decide | omega | (simp; done) | (simp; omega))) ?_)
  (first | with_reducible refine b_add ?_ | with_reducible refine f_add ?_ | with_reducible refine b_sadd (by (first | exact rfl | exact lit_dot | exact lit_quote | exact lit_back | exact lit_nl | exact lit_cr | exact lit_crlf | exact lit_empty | exact lit_white)) (by (first | exact rfl | exact lit_dot | exact lit_quote | exact lit_back | exact lit_nl | exact lit_cr | exact lit_crlf | exact lit_empty | exact lit_white)) (by (first | assumption | decide | omega | (simp; done) | (simp; omega))) ?_)
  with_reducible refine a_nil ?_
  rw [hwi]
  refine Call_perm _ (List.perm_append_comm (l₁ := [_, _, _, _, _, _]) (l₂ := [_, _])) ?_
  simp only [List.cons_append, List.nil_append]
  refine f_division (n := n + 1) ok' (by omega) (by omega) (by omega) (by omega) (by (repeat (first | assumption | exact List.mem_cons_self | refine List.mem_cons_of_mem _ ?_))) (by (repeat (first | assumption | exact List.mem_cons_self | refine List.mem_cons_of_mem _ ?_))) (fun (dd v1 v2 : Addr) p1 p2 => ?_)
  rw [pl, ph]
  with_reducible refine n_sto_7 ok' hN (nm_law_divided _) ?_; refine s_ca ?_; refine e_cg ok' hN (nm_law_law_by_pairs _) (gl_law_by_pairs _) (keep_law_by_pairs _) ?_; refine a_3 ?_; refine n_loc_4 ok' hN (nm_law_ones _) ?_; refine n_loc_5 ok' hN (nm_law_others _) ?_; refine n_loc_2 ok' hN (nm_law_size _) ?_
  refine f_pairs (n := n + 16) ok' (by omega) (by omega) (by (repeat (first | assumption | exact List.mem_cons_self | refine List.mem_cons_of_mem _ ?_))) (by (repeat (first | assumption | exact List.mem_cons_self | refine List.mem_cons_of_mem _ ?_))) (fun (du u1 u2 : Addr) => ?_)
  with_reducible refine n_sto_8 ok' hN (nm_law_due _) ?_
  generalize pairAll size xs ys = P at pk hlen ⊢
  obtain ⟨P1, P2⟩ := P
  obtain ⟨hP1, hP2⟩ := hlen
  dsimp only at pk hP1 hP2 ⊢
  with_reducible refine s_cons ?_; refine s_ret ?_; refine e_and ?_; refine e_cmp ?_; refine n_loc_6 ok' hN (nm_law_told _) ?_; refine n_loc_8 ok' hN (nm_law_due _) ?_
  refine c_eqpair ok' (by omega) (by (first | assumption | (refine IsL.mem ?_; (repeat (first | assumption | exact List.mem_cons_self | refine List.mem_cons_of_mem _ ?_))))) (by (first | assumption | (refine IsL.mem ?_; (repeat (first | assumption | exact List.mem_cons_self | refine List.mem_cons_of_mem _ ?_))))) (by (first | assumption | (refine IsL.mem ?_; (repeat (first | assumption | exact List.mem_cons_self | refine List.mem_cons_of_mem _ ?_))))) (by (first | assumption | (refine IsL.mem ?_; (repeat (first | assumption | exact List.mem_cons_self | refine List.mem_cons_of_mem _ ?_))))) (by (first | assumption | (refine IsL.mem ?_; (repeat (first | assumption | exact List.mem_cons_self | refine List.mem_cons_of_mem _ ?_))))) (by (first | assumption | (refine IsL.mem ?_; (repeat (first | assumption | exact List.mem_cons_self | refine List.mem_cons_of_mem _ ?_))))) ?_
  with_reducible refine t_bool ?_
  rw [decide_eq_true rfl, decide_eq_true rfl]
  refine iteT ?_
  with_reducible refine e_and ?_; refine e_cmp ?_; refine n_loc_7 ok' hN (nm_law_divided _) ?_; refine n_loc_8 ok' hN (nm_law_due _) ?_
  refine c_eqpair ok' (by omega) (by (first | assumption | (refine IsL.mem ?_; (repeat (first | assumption | exact List.mem_cons_self | refine List.mem_cons_of_mem _ ?_))))) (by (first | assumption | (refine IsL.mem ?_; (repeat (first | assumption | exact List.mem_cons_self | refine List.mem_cons_of_mem _ ?_))))) (by (first | assumption | (refine IsL.mem ?_; (repeat (first | assumption | exact List.mem_cons_self | refine List.mem_cons_of_mem _ ?_))))) (by (first | assumption | (refine IsL.mem ?_; (repeat (first | assumption | exact List.mem_cons_self | refine List.mem_cons_of_mem _ ?_))))) (by (first | assumption | (refine IsL.mem ?_; (repeat (first | assumption | exact List.mem_cons_self | refine List.mem_cons_of_mem _ ?_))))) (by (first | assumption | (refine IsL.mem ?_; (repeat (first | assumption | exact List.mem_cons_self | refine List.mem_cons_of_mem _ ?_))))) ?_
  with_reducible refine t_bool ?_
  rw [decide_eq_true rfl, decide_eq_true rfl]
  refine iteT ?_
  with_reducible refine e_bo1 ?_; refine e_cg ok' hN (nm_law_law_kneser _) (gl_law_kneser _) (keep_law_kneser _) ?_; refine a_cons ?_; refine e_sub ?_; refine n_loc_6 ok' hN (nm_law_told _) ?_; refine e_int ?_
  refine g_list (xs := [.ref t1, .ref t2]) (by (first | assumption | (refine IsL.mem ?_; (repeat (first | assumption | exact List.mem_cons_self | refine List.mem_cons_of_mem _ ?_))))) (by omega) (by omega) rfl ?_
  with_reducible refine a_cons ?_; refine n_loc_4 ok' hN (nm_law_ones _) ?_; refine a_cons ?_; refine n_loc_5 ok' hN (nm_law_others _) ?_; refine a_cons ?_; refine n_loc_2 ok' hN (nm_law_size _) ?_; refine a_nil ?_
  refine f_kneser (n := n + 7) ok' hs hP1 (by omega) (by omega) (by (repeat (first | assumption | exact List.mem_cons_self | refine List.mem_cons_of_mem _ ?_))) (by (repeat (first | assumption | exact List.mem_cons_self | refine List.mem_cons_of_mem _ ?_))) (by (repeat (first | assumption | exact List.mem_cons_self | refine List.mem_cons_of_mem _ ?_))) pk ?_
  with_reducible refine then_ret ?_
  exact ⟨rfl, p1, p2, p3, by (repeat (first | assumption | exact List.mem_cons_self | refine List.mem_cons_of_mem _ ?_)), by (repeat (first | assumption | exact List.mem_cons_self | refine List.mem_cons_of_mem _ ?_)), by (repeat (first | assumption | exact List.mem_cons_self | refine List.mem_cons_of_mem _ ?_))⟩
end
end Mine
namespace Mine
theorem addAt_get (l : List Int) (i : Nat) (d : Int) (k : Nat) : (addAt l i d)[k]? = if k = i then l[k]?.map (· + d) else l[k]? := by
  unfold addAt
  rw [List.getElem?_set]
  by_cases h : i = k
  · subst h
    rw [if_pos rfl, if_pos rfl]
    by_cases hl : i < l.length
    · rw [if_pos hl, List.getElem?_eq_getElem hl, List.getD_eq_getElem?_getD, List.getElem?_eq_getElem hl]; rfl
    · rw [if_neg hl, List.getElem?_eq_none (by omega)]; rfl
  · rw [if_neg h, if_neg (Ne.symm h)]
theorem addAt_comm (l : List Int) (i j : Nat) (d e : Int) : addAt (addAt l i d) j e = addAt (addAt l j e) i d := by
  refine List.ext_getElem? fun k => ?_
  rw [addAt_get, addAt_get, addAt_get, addAt_get]
  by_cases h1 : k = i
  · by_cases h2 : k = j
    · rw [if_pos h2, if_pos h1, if_pos h1, if_pos h2]
      cases l[k]? with
      | none => rfl
      | some x => simp only [Option.map_some]; congr 1; omega
    · rw [if_neg h2, if_pos h1, if_pos h1, if_neg h2]
  · by_cases h2 : k = j
    · rw [if_pos h2, if_neg h1, if_neg h1, if_pos h2]
    · rw [if_neg h2, if_neg h1, if_neg h1, if_neg h2]
theorem addAt_zero (l : List Int) (i : Nat) : addAt l i 0 = l := by
  refine List.ext_getElem? fun k => ?_
  rw [addAt_get]
  split
  · cases l[k]? with
    | none => rfl
    | some x => simp
  · rfl
noncomputable def stepT (size : Nat) (s : List Int × List Int) (t : Nat) : List Int × List Int := (addAt s.1 (t % size) 1, addAt s.2 (t % size) ((t / size : Nat) : Int))
theorem stepT_comm (size : Nat) (s : List Int × List Int) (t u : Nat) : stepT size (stepT size s t) u = stepT size (stepT size s u) t := by
  unfold stepT
  dsimp only
  rw [addAt_comm, addAt_comm s.2]
noncomputable def sumsOf (xs ys : List Nat) : List Nat := xs.flatMap fun a => ys.map fun b => a + b
theorem pairAll_eq (size : Nat) (xs ys : List Nat) : pairAll size xs ys = (sumsOf xs ys).foldl (stepT size) (List.replicate size 0, List.replicate size 0) := by
  unfold pairAll sumsOf
  rw [List.foldl_flatMap]
  congr 1
  funext s a
  unfold pairRow
  rw [List.foldl_map]
  rfl
theorem sendStep_eq {size j a : Nat} {s : List Int × List Int} (h : a + j < 2 * size) : sendStep size j s a = stepT size s (a + j) := by
  unfold sendStep stepT
  congr 1
  split
  · rename_i h1
    have : (a + j) / size = 1 := by
      refine Nat.div_eq_of_lt_le ?_ ?_ <;> omega
    rw [this]; rfl
  · rename_i h1
    rw [Nat.div_eq_of_lt (by omega)]
    exact (addAt_zero _ _).symm
theorem flat_swap (xs ys : List Nat) : (ys.flatMap fun j => xs.map fun a => a + j).Perm (xs.flatMap fun a => ys.map fun b => a + b) := by
  induction xs with
  | nil => simp
  | cons x r ih =>
    rw [List.flatMap_cons]
    refine List.Perm.trans ?_ (List.Perm.append_left _ ih)
    clear ih
    induction ys with
    | nil => simp
    | cons y q ih =>
      rw [List.flatMap_cons, List.flatMap_cons, List.map_cons, List.map_cons, List.cons_append, List.cons_append]
      refine List.Perm.cons _ ?_
      refine (List.Perm.append_left _ ih).trans ?_
      rw [← List.append_assoc, ← List.append_assoc]
      exact List.Perm.append_right _ List.perm_append_comm
theorem range_perm {ys : List Nat} {last : Nat} (hp : ys.Pairwise (· < ·)) (hl : ys.getLast? = some last) : ((List.range (last + 1)).filter fun j => ys.contains j).Perm ys := by
  refine (List.perm_ext_iff_of_nodup (List.Pairwise.filter _ List.nodup_range) (hp.imp fun h => Nat.ne_of_lt h)).mpr fun j => ?_
  rw [List.mem_filter, List.mem_range]
  refine ⟨fun h => by simpa using h.2, fun h => ⟨?_, by simpa using h⟩⟩
  obtain ⟨q, rfl⟩ : ∃ q, ys = q ++ [last] := by
    obtain ⟨q, hq⟩ := List.getLast?_eq_some_iff.mp hl
    exact ⟨q, hq⟩
  rcases List.mem_append.mp h with h | h
  · have := (List.pairwise_append.mp hp).2.2 j h last (by simp)
    omega
  · rw [List.mem_singleton.mp h]; omega
theorem sendAll_eq {size : Nat} {xs ys : List Nat} {last : Nat} (hx : ∀ a ∈ xs, a < size) (hp : ys.Pairwise (· < ·)) (hl : ys.getLast? = some last) (hy : ∀ b ∈ ys, b < size) : sendAll size xs ys last = pairAll size xs ys := by
  have hlt : last < size := hy last (List.mem_of_getLast? hl)
  rw [pairAll_eq]
  unfold sendAll
  have e1 : (List.range (last + 1)).foldl (sendRow size xs ys) (List.replicate size 0, List.replicate size 0) = (((List.range (last + 1)).filter fun j => ys.contains j).flatMap fun j => xs.map fun a => a + j).foldl (stepT size) (List.replicate size 0, List.replicate size 0) := by
    rw [List.foldl_flatMap, List.foldl_filter]
    have key : ∀ (l : List Nat) (s : List Int × List Int), (∀ j ∈ l, j < size) → l.foldl (sendRow size xs ys) s = l.foldl (fun s j => if ys.contains j = true then (xs.map fun a => a + j).foldl (stepT size) s else s) s := by
      intro l
      induction l with
      | nil => intro s _; rfl
      | cons j r ih =>
        intro s h
        rw [List.foldl_cons, List.foldl_cons, ih _ fun k hk => h k (.tail _ hk)]
        congr 1
        unfold sendRow
        split
        · rw [List.foldl_map]
          have hj := h j (.head _)
          have : ∀ (q : List Nat) (s : List Int × List Int), (∀ a ∈ q, a < size) → q.foldl (sendStep size j) s = q.foldl (fun s a => stepT size s (a + j)) s := by
            intro q
            induction q with
            | nil => intro s _; rfl
            | cons a q ih =>
              intro s h
              rw [List.foldl_cons, List.foldl_cons, ih _ fun k hk => h k (.tail _ hk), sendStep_eq (by have := h a (.head _); omega)]
          exact this xs s hx
        · rfl
    exact key _ _ fun j hj => by have := List.mem_range.mp hj; omega
  rw [e1]
  refine List.Perm.foldl_eq' (((range_perm hp hl).flatMap_right _).trans (flat_swap xs ys)) (fun x _ y _ z => stepT_comm size z x y) _
end Mine
namespace Mine
noncomputable def oftC (size : Nat) (P : List Nat) (k : Nat) : Nat := P.countP fun t => t % size == k
noncomputable def ovC (size : Nat) (P : List Nat) (k : Nat) : Nat := ((P.filter fun t => t % size == k).map fun t => t / size).sum
theorem oftC_cons (size t : Nat) (P : List Nat) (k : Nat) : oftC size (t :: P) k = oftC size P k + if k = t % size then 1 else 0 := by
  unfold oftC
  rw [List.countP_cons]
  by_cases h : k = t % size
  · rw [if_pos h, if_pos (by simp [h])]
  · rw [if_neg h, if_neg (by simpa using Ne.symm h)]
theorem ovC_cons (size t : Nat) (P : List Nat) (k : Nat) : ovC size (t :: P) k = ovC size P k + if k = t % size then t / size else 0 := by
  unfold ovC
  rw [List.filter_cons]
  by_cases h : k = t % size
  · rw [if_pos h, if_pos (by simp [h]), List.map_cons, List.sum_cons, Nat.add_comm]
  · rw [if_neg h, if_neg (by simpa using Ne.symm h)]; rfl
theorem fold_get (size : Nat) : ∀ (P : List Nat) (s : List Int × List Int) (k : Nat), (P.foldl (stepT size) s).1[k]? = s.1[k]?.map (· + (oftC size P k : Int)) ∧ (P.foldl (stepT size) s).2[k]? = s.2[k]?.map (· + (ovC size P k : Int))
  | [], s, k => by
    constructor
    · cases h : s.1[k]? <;> simp [oftC, h]
    · cases h : s.2[k]? <;> simp [ovC, h]
  | t :: P, s, k => by
    obtain ⟨h1, h2⟩ := fold_get size P (stepT size s t) k
    rw [List.foldl_cons]
    constructor
    · rw [h1, oftC_cons]
      show Option.map _ (addAt s.1 (t % size) 1)[k]? = _
      rw [addAt_get]
      split
      · cases s.1[k]? with
        | none => rfl
        | some x => simp only [Option.map_some]; congr 1; omega
      · cases s.1[k]? with
        | none => rfl
        | some x => simp
    · rw [h2, ovC_cons]
      show Option.map _ (addAt s.2 (t % size) ((t / size : Nat) : Int))[k]? = _
      rw [addAt_get]
      split
      · cases s.2[k]? with
        | none => rfl
        | some x => simp only [Option.map_some]; congr 1; omega
      · cases s.2[k]? with
        | none => rfl
        | some x => simp
theorem pair_lists (size : Nat) (xs ys : List Nat) : (pairAll size xs ys).1 = zs ((List.range size).map (oftC size (sumsOf xs ys))) ∧ (pairAll size xs ys).2 = zs ((List.range size).map (ovC size (sumsOf xs ys))) := by
  rw [pairAll_eq]
  constructor
  all_goals
    refine List.ext_getElem? fun k => ?_
    first | rw [(fold_get size _ _ k).1] | rw [(fold_get size _ _ k).2]
    dsimp only
    rw [List.getElem?_replicate, zs, List.getElem?_map, List.getElem?_map]
    by_cases hk : k < size
    · rw [if_pos hk, List.getElem?_eq_getElem (by rw [List.length_range]; exact hk), List.getElem_range]; simp
    · rw [if_neg hk, List.getElem?_eq_none (by rw [List.length_range]; omega)]; rfl
noncomputable def V (wd : Nat) (f : Nat → Nat) (n : Nat) : Nat := dval wd ((List.range n).map f)
theorem V_succ (wd : Nat) (f : Nat → Nat) (n : Nat) : V wd f (n + 1) = V wd f n + 2 ^ (wd * n) * f n := by
  unfold V
  rw [List.range_succ, List.map_append, dval_app, List.length_map, List.length_range]
  simp [dval]
theorem V_add (wd : Nat) (f g : Nat → Nat) (n : Nat) : V wd (fun k => f k + g k) n = V wd f n + V wd g n := by
  induction n with
  | zero => rfl
  | succ n ih => rw [V_succ, V_succ, V_succ, ih, Nat.mul_add]; omega
theorem V_ind (wd i c n : Nat) : V wd (fun k => if k = i then c else 0) n = if i < n then 2 ^ (wd * i) * c else 0 := by
  induction n with
  | zero => rfl
  | succ n ih =>
    rw [V_succ, ih]
    by_cases h : n = i
    · subst h; simp
    · by_cases h2 : i < n
      · rw [if_neg h, if_pos h2, if_pos (by omega)]; simp
      · rw [if_neg h, if_neg h2, if_neg (by omega)]; simp
theorem V_congr (wd : Nat) {f g : Nat → Nat} {n : Nat} (h : ∀ k, k < n → f k = g k) : V wd f n = V wd g n := by
  unfold V
  congr 1
  exact List.map_congr_left fun k hk => h k (List.mem_range.mp hk)
theorem V_zero (wd n : Nat) : V wd (fun _ => 0) n = 0 := by
  induction n with
  | zero => rfl
  | succ n ih => rw [V_succ, ih]; rfl
theorem V_le (wd c : Nat) {f : Nat → Nat} (n : Nat) (h : ∀ k, k < n → f k ≤ c) : V wd f n * (2 ^ wd - 1) ≤ c * (2 ^ (wd * n) - 1) := by
  induction n with
  | zero => simp [V, dval]
  | succ n ih =>
    have h1 := ih fun k hk => h k (by omega)
    have h2 := h n (by omega)
    rw [V_succ, Nat.add_mul, Nat.mul_succ, Nat.pow_add]
    have hp := Nat.two_pow_pos (wd * n)
    have hq := Nat.two_pow_pos wd
    have h3 : 2 ^ (wd * n) * f n * (2 ^ wd - 1) ≤ c * (2 ^ (wd * n) * (2 ^ wd - 1)) := by
      rw [Nat.mul_assoc, Nat.mul_comm (f n), ← Nat.mul_assoc, Nat.mul_comm _ (f n)]
      exact Nat.mul_le_mul_right _ h2
    have h4 : 2 ^ (wd * n) * 2 ^ wd - 1 = (2 ^ (wd * n) - 1) + 2 ^ (wd * n) * (2 ^ wd - 1) := by
      rw [Nat.mul_sub, Nat.mul_one, Nat.add_comm]
      exact (Nat.sub_add_sub_cancel (Nat.le_mul_of_pos_right _ hq) hp).symm
    rw [h4, Nat.mul_add]
    exact Nat.add_le_add h1 h3
noncomputable def pw (wd : Nat) (P : List Nat) : Nat := (P.map fun t => 2 ^ (wd * t)).sum
theorem pw_app (wd : Nat) (P Q : List Nat) : pw wd (P ++ Q) = pw wd P + pw wd Q := by simp [pw]
theorem pw_sums (wd : Nat) (xs ys : List Nat) : pw wd xs * pw wd ys = pw wd (sumsOf xs ys) := by
  induction xs with
  | nil => simp [pw, sumsOf]
  | cons x r ih =>
    unfold sumsOf at ih ⊢
    rw [List.flatMap_cons, pw_app, ← ih]
    have e : pw wd (ys.map fun b => x + b) = 2 ^ (wd * x) * pw wd ys := by
      clear ih
      induction ys with
      | nil => simp [pw]
      | cons y q ih =>
        simp only [pw, List.map_cons, List.sum_cons] at ih ⊢
        rw [ih, Nat.mul_add, Nat.mul_add, Nat.pow_add]
    rw [e, ← Nat.add_mul]
    congr 1
theorem bits_pw {wd : Nat} {xs : List Nat} {size : Nat} (hn : xs.Nodup) (hx : ∀ a ∈ xs, a < size) : dval wd (bits xs size) = pw wd xs := by
  show V wd (fun k => if xs.contains k then 1 else 0) size = pw wd xs
  induction xs with
  | nil => exact V_zero wd size
  | cons x r ih =>
    obtain ⟨h1, h2⟩ := List.nodup_cons.mp hn
    have e : ∀ k, k < size → (if (x :: r).contains k then 1 else 0) = (if r.contains k then 1 else 0) + (if k = x then 1 else 0) := by
      intro k _
      by_cases hk : k = x
      · subst hk
        have : r.contains k = false := by simpa using h1
        rw [this, List.contains_cons]; simp
      · have : (x :: r).contains k = r.contains k := by rw [List.contains_cons]; simp [hk]
        rw [this, if_neg hk]; rfl
    rw [V_congr wd e, V_add, V_ind, if_pos (hx x (.head _)), ih h2 fun a ha => hx a (.tail _ ha)]
    unfold pw
    rw [List.map_cons, List.sum_cons]
    omega
theorem pw_wheel (wd size : Nat) (hs : 0 < size) : ∀ P : List Nat, (∀ t ∈ P, t < 2 * size) → pw wd P = V wd (oftC size P) size + (2 ^ (wd * size) - 1) * V wd (ovC size P) size
  | [], _ => by
    have e1 : V wd (oftC size []) size = 0 := V_zero wd size
    have e2 : V wd (ovC size []) size = 0 := V_zero wd size
    rw [e1, e2]; rfl
  | t :: P, h => by
    have ih := pw_wheel wd size hs P fun u hu => h u (.tail _ hu)
    have ht := h t (.head _)
    have hr : t % size < size := Nat.mod_lt _ hs
    rw [V_congr wd (fun k _ => oftC_cons size t P k), V_congr wd (fun k _ => ovC_cons size t P k), V_add, V_add, V_ind, V_ind, if_pos hr, if_pos hr]
    have e : 2 ^ (wd * t) = 2 ^ (wd * (t % size)) + (2 ^ (wd * size) - 1) * (2 ^ (wd * (t % size)) * (t / size)) := by
      by_cases h1 : t < size
      · rw [Nat.mod_eq_of_lt h1, Nat.div_eq_of_lt h1]; simp
      · have h2 : t / size = 1 := by refine Nat.div_eq_of_lt_le ?_ ?_ <;> omega
        have h3 : t % size = t - size := by rw [Nat.mod_eq_sub_mod (by omega), Nat.mod_eq_of_lt (by omega)]
        rw [h2, h3, Nat.mul_one]
        have h4 : 2 ^ (wd * t) = 2 ^ (wd * size) * 2 ^ (wd * (t - size)) := by
          rw [← Nat.pow_add, ← Nat.mul_add]; congr 2; omega
        rw [h4, Nat.sub_mul, Nat.one_mul]
        have : 2 ^ (wd * (t - size)) ≤ 2 ^ (wd * size) * 2 ^ (wd * (t - size)) := Nat.le_mul_of_pos_left _ (Nat.two_pow_pos _)
        omega
    show pw wd (t :: P) = _
    have e3 : pw wd (t :: P) = 2 ^ (wd * t) + pw wd P := by simp [pw]
    rw [e3, ih, e, Nat.mul_add, Nat.mul_one]
    omega
end Mine
namespace Mine
theorem mod_inj {size a b c : Nat} (hs : size = 6 ∨ size = 8 ∨ size = 12) (hb : b < size) (hc : c < size) (h : (a + b) % size = (a + c) % size) : b = c := by
  rcases hs with rfl | rfl | rfl <;> omega
theorem count_one {size a k : Nat} (hs : size = 6 ∨ size = 8 ∨ size = 12) : ∀ ys : List Nat, ys.Nodup → (∀ b ∈ ys, b < size) → (ys.map fun b => a + b).countP (fun t => t % size == k) ≤ 1
  | [], _, _ => by simp
  | y :: r, hn, hy => by
    obtain ⟨h1, h2⟩ := List.nodup_cons.mp hn
    have ih := count_one (a := a) (k := k) hs r h2 fun b hb => hy b (.tail _ hb)
    rw [List.map_cons, List.countP_cons]
    by_cases h : (a + y) % size = k
    · have hz : (r.map fun b => a + b).countP (fun t => t % size == k) = 0 := by
        rw [List.countP_eq_zero]
        intro t ht he
        obtain ⟨b, hb, rfl⟩ := List.mem_map.mp ht
        have e : (a + b) % size = k := by simpa using he
        have := mod_inj hs (hy b (.tail _ hb)) (hy y (.head _)) (e.trans h.symm)
        exact h1 (this ▸ hb)
      rw [hz]; split <;> omega
    · rw [if_neg (by simpa using h)]; omega
theorem count_le {size k : Nat} (hs : size = 6 ∨ size = 8 ∨ size = 12) {ys : List Nat} (hn : ys.Nodup) (hy : ∀ b ∈ ys, b < size) : ∀ xs : List Nat, oftC size (sumsOf xs ys) k ≤ xs.length
  | [] => by simp [oftC, sumsOf]
  | x :: r => by
    have ih := count_le (k := k) hs hn hy r
    have h1 := count_one (a := x) (k := k) hs ys hn hy
    unfold oftC sumsOf at ih ⊢
    rw [List.flatMap_cons, List.countP_append, List.length_cons]
    omega
theorem over_le {size k : Nat} (P : List Nat) (h : ∀ t ∈ P, t < 2 * size) : ovC size P k ≤ oftC size P k := by
  induction P with
  | nil => simp [ovC, oftC]
  | cons t P ih =>
    rw [ovC_cons, oftC_cons]
    have := ih fun u hu => h u (.tail _ hu)
    have ht : t / size ≤ 1 := by
      have h1 := h t (.head _)
      rcases Nat.lt_or_ge t size with h2 | h2
      · rw [Nat.div_eq_of_lt h2]; omega
      · rw [Nat.div_eq_of_lt_le (k := 1) (by omega) (by omega)]; omega
    split <;> omega
theorem digs_V {wd n : Nat} {f : Nat → Nat} (h : ∀ k, k < n → f k < 2 ^ wd) : digs wd n (V wd f n) = (List.range n).map f := by
  have := digs_dval wd ((List.range n).map f) (by
    intro d hd
    obtain ⟨k, hk, rfl⟩ := List.mem_map.mp hd
    exact h k (List.mem_range.mp hk))
  rwa [List.length_map, List.length_range] at this
theorem sums_lt {size : Nat} {xs ys : List Nat} (hx : ∀ a ∈ xs, a < size) (hy : ∀ b ∈ ys, b < size) : ∀ t ∈ sumsOf xs ys, t < 2 * size := by
  intro t ht
  obtain ⟨a, ha, ht⟩ := List.mem_flatMap.mp ht
  obtain ⟨b, hb, rfl⟩ := List.mem_map.mp ht
  have := hx a ha
  have := hy b hb
  omega
theorem divided_eq {size wd : Nat} {xs ys : List Nat} (hs : size = 6 ∨ size = 8 ∨ size = 12) (hw : wd = 3 ∨ wd = 4) (hxn : xs.Nodup) (hx4 : xs.length ≤ 4) (hx : ∀ a ∈ xs, a < size) (hyn : ys.Nodup) (hy : ∀ b ∈ ys, b < size) :
    zs (digs wd size (dval wd (bits xs size) * dval wd (bits ys size) % (2 ^ (wd * size) - 1))) = (pairAll size xs ys).1 ∧ zs (digs wd size (dval wd (bits xs size) * dval wd (bits ys size) / (2 ^ (wd * size) - 1))) = (pairAll size xs ys).2 := by
  have hs0 : 0 < size := by omega
  have hP := sums_lt hx hy
  have hc : ∀ k, k < size → oftC size (sumsOf xs ys) k ≤ 4 := fun k _ => Nat.le_trans (count_le hs hyn hy xs) hx4
  have ho : ∀ k, k < size → ovC size (sumsOf xs ys) k ≤ 4 := fun k hk => Nat.le_trans (over_le _ hP) (hc k hk)
  rw [bits_pw hxn hx, bits_pw hyn hy, pw_sums, pw_wheel wd size hs0 _ hP, (pair_lists size xs ys).1, (pair_lists size xs ys).2]
  have hV := V_le wd 4 size hc
  have hM : 8 ≤ 2 ^ (wd * size) := by
    calc 8 = 2 ^ 3 := rfl
      _ ≤ 2 ^ (wd * size) := Nat.pow_le_pow_right (by decide) (by rcases hw with rfl | rfl <;> omega)
  have hlt : V wd (oftC size (sumsOf xs ys)) size < 2 ^ (wd * size) - 1 := by
    generalize 2 ^ (wd * size) = M at hV hM ⊢
    have h7 : 7 ≤ 2 ^ wd - 1 := by rcases hw with rfl | rfl <;> decide
    have : V wd (oftC size (sumsOf xs ys)) size * 7 ≤ V wd (oftC size (sumsOf xs ys)) size * (2 ^ wd - 1) := Nat.mul_le_mul_left _ h7
    omega
  have h16 : 4 < 2 ^ wd := by rcases hw with rfl | rfl <;> decide
  rw [Nat.add_mul_mod_self_left, Nat.mod_eq_of_lt hlt, Nat.add_mul_div_left _ _ (by omega), Nat.div_eq_of_lt hlt, Nat.zero_add]
  rw [digs_V fun k hk => Nat.lt_of_le_of_lt (hc k hk) h16, digs_V fun k hk => Nat.lt_of_le_of_lt (ho k hk) h16]
  exact ⟨rfl, rfl⟩
noncomputable def inS (size : Nat) (xs ys : List Nat) (k : Nat) : Bool := xs.any fun a => ys.any fun b => (a + b) % size == k
theorem often_pos (size : Nat) (xs ys : List Nat) {k : Nat} (hk : k < size) : decide (0 < (pairAll size xs ys).1.getD k 0) = inS size xs ys k := by
  rw [(pair_lists size xs ys).1, List.getD_eq_getElem?_getD, zs, List.getElem?_map, List.getElem?_map, List.getElem?_eq_getElem (by rw [List.length_range]; exact hk), List.getElem_range]
  show decide ((0 : Int) < ((oftC size (sumsOf xs ys) k : Nat) : Int)) = _
  have e : decide ((0 : Int) < ((oftC size (sumsOf xs ys) k : Nat) : Int)) = decide (0 < oftC size (sumsOf xs ys) k) := decide_eq_decide.mpr (by omega)
  rw [e]
  refine Bool.eq_iff_iff.mpr ?_
  rw [decide_eq_true_iff]
  unfold oftC inS sumsOf
  rw [List.countP_pos_iff, List.any_eq_true]
  constructor
  · rintro ⟨t, ht, hk⟩
    obtain ⟨a, ha, ht⟩ := List.mem_flatMap.mp ht
    obtain ⟨b, hb, rfl⟩ := List.mem_map.mp ht
    exact ⟨a, ha, List.any_eq_true.mpr ⟨b, hb, hk⟩⟩
  · rintro ⟨a, ha, h⟩
    obtain ⟨b, hb, hk⟩ := List.any_eq_true.mp h
    exact ⟨a + b, List.mem_flatMap.mpr ⟨a, ha, List.mem_map.mpr ⟨b, hb, rfl⟩⟩, hk⟩
theorem sumsK_eq (size : Nat) (xs ys : List Nat) : sumsK (pairAll size xs ys).1 size = (List.range size).filter (inS size xs ys) :=
  List.filter_congr fun k hk => often_pos size xs ys (List.mem_range.mp hk)
end Mine
namespace Mine
noncomputable def cnt (n : Nat) (P : Nat → Bool) : Nat := ((List.range n).filter P).length
noncomputable def stT (n : Nat) (S : Nat → Bool) (t : Nat) : Bool := (List.range n).all fun k => !S k || S ((k + t) % n)
noncomputable def wdT (n : Nat) (T A : Nat → Bool) (k : Nat) : Bool := (List.range n).any fun t => T t && A ((k + n - t) % n)
noncomputable def KS (n : Nat) (S A B : Nat → Bool) (la lb : Nat) : Prop :=
  cnt n (wdT n (stT n S) A) + cnt n (wdT n (stT n S) B) ≤ cnt n S + cnt n (stT n S) ∧
    (cnt n S < la + lb → cnt n S + cnt n (stT n S) = cnt n (wdT n (stT n S) A) + cnt n (wdT n (stT n S) B))
theorem cnt_congr {n : Nat} {P Q : Nat → Bool} (h : ∀ k, k < n → P k = Q k) : cnt n P = cnt n Q := by
  unfold cnt
  rw [List.filter_congr fun k hk => h k (List.mem_range.mp hk)]
theorem stT_congr {n : Nat} {S S' : Nat → Bool} (h : ∀ k, k < n → S k = S' k) (t : Nat) : stT n S t = stT n S' t := by
  unfold stT
  refine Bool.eq_iff_iff.mpr ?_
  rw [List.all_eq_true, List.all_eq_true]
  refine forall_congr' fun k => forall_congr' fun hk => ?_
  have hk := List.mem_range.mp hk
  rw [h k hk, h _ (Nat.mod_lt _ (by omega))]
theorem any_congr' {l : List Nat} {f g : Nat → Bool} (h : ∀ t ∈ l, f t = g t) : l.any f = l.any g := by
  induction l with
  | nil => rfl
  | cons a r ih => rw [List.any_cons, List.any_cons, h a (.head _), ih fun t ht => h t (.tail _ ht)]
theorem wdT_congr {n : Nat} {T T' A A' : Nat → Bool} (hT : ∀ k, k < n → T k = T' k) (hA : ∀ k, k < n → A k = A' k) (k : Nat) : wdT n T A k = wdT n T' A' k := by
  unfold wdT
  refine any_congr' fun t ht => ?_
  have ht := List.mem_range.mp ht
  rw [hT t ht, hA _ (Nat.mod_lt _ (by omega))]
theorem KS_congr {n : Nat} {S S' A A' B B' : Nat → Bool} {la lb : Nat} (hS : ∀ k, k < n → S k = S' k) (hA : ∀ k, k < n → A k = A' k) (hB : ∀ k, k < n → B k = B' k) (h : KS n S' A' B' la lb) : KS n S A B la lb := by
  unfold KS at h ⊢
  have e1 := cnt_congr hS
  have e2 : cnt n (stT n S) = cnt n (stT n S') := cnt_congr fun t _ => stT_congr hS t
  have e3 : ∀ {X X' : Nat → Bool}, (∀ k, k < n → X k = X' k) → cnt n (wdT n (stT n S) X) = cnt n (wdT n (stT n S') X') := fun hX => cnt_congr fun k _ => wdT_congr (fun t _ => stT_congr hS t) hX k
  rw [e1, e2, e3 hA, e3 hB]
  exact h
theorem perm6 : ∀ s, s < 6 → ((List.range 6).map fun k => (k + s) % 6).Perm (List.range 6) := by decide
theorem perm8 : ∀ s, s < 8 → ((List.range 8).map fun k => (k + s) % 8).Perm (List.range 8) := by decide
theorem perm12 : ∀ s, s < 12 → ((List.range 12).map fun k => (k + s) % 12).Perm (List.range 12) := by decide
theorem perm_rot {n s : Nat} (hn : n = 6 ∨ n = 8 ∨ n = 12) (hs : s < n) : ((List.range n).map fun k => (k + s) % n).Perm (List.range n) := by
  rcases hn with rfl | rfl | rfl
  · exact perm6 s hs
  · exact perm8 s hs
  · exact perm12 s hs
theorem cnt_rot {n s : Nat} (hn : n = 6 ∨ n = 8 ∨ n = 12) (hs : s < n) (P : Nat → Bool) : cnt n (fun k => P ((k + s) % n)) = cnt n P := by
  unfold cnt
  rw [← ((perm_rot hn hs).filter P).length_eq, List.filter_map, List.length_map]
  rfl
theorem rot_back {n s k : Nat} (hs : s ≤ n) (hk : k < n) : ((k + (n - s)) % n + s) % n = k := by
  rw [Nat.mod_add_mod, Nat.add_assoc, Nat.sub_add_cancel hs, Nat.add_mod_right, Nat.mod_eq_of_lt hk]
theorem rot_back2 {n s : Nat} (k t : Nat) (hs : s ≤ n) : (((k + (n - s)) % n + t) % n + s) % n = (k + t) % n := by
  rw [Nat.mod_add_mod, Nat.add_assoc _ t s, Nat.mod_add_mod, show k + (n - s) + (t + s) = k + t + n by omega, Nat.add_mod_right]
theorem rot_comm (n k s t : Nat) : ((k + s) % n + t) % n = ((k + t) % n + s) % n := by
  rw [Nat.mod_add_mod, Nat.mod_add_mod, Nat.add_right_comm]
theorem stT_rot {n s : Nat} (hn : n = 6 ∨ n = 8 ∨ n = 12) (hs : s < n) (S : Nat → Bool) {t : Nat} (ht : t < n) : stT n (fun k => S ((k + s) % n)) t = stT n S t := by
  unfold stT
  refine Bool.eq_iff_iff.mpr ?_
  rw [List.all_eq_true, List.all_eq_true]
  constructor
  · intro h k hk
    have hk := List.mem_range.mp hk
    have := h ((k + (n - s)) % n) (List.mem_range.mpr (Nat.mod_lt _ (by omega)))
    have e1 := rot_back (Nat.le_of_lt hs) hk
    have e2 := rot_back2 k t (Nat.le_of_lt hs)
    dsimp only at this
    rwa [e1, e2] at this
  · intro h k hk
    have hk := List.mem_range.mp hk
    have := h ((k + s) % n) (List.mem_range.mpr (Nat.mod_lt _ (by omega)))
    have e2 := rot_comm n k s t
    dsimp only
    rwa [e2] at this
theorem wdT_rot {n u : Nat} (hn : n = 6 ∨ n = 8 ∨ n = 12) (hu : u < n) (T A : Nat → Bool) {k : Nat} (hk : k < n) : wdT n T (fun k => A ((k + u) % n)) k = wdT n T A ((k + u) % n) := by
  unfold wdT
  refine any_congr' fun t ht => ?_
  have ht := List.mem_range.mp ht
  have e : ((k + n - t) % n + u) % n = ((k + u) % n + n - t) % n := by
    rw [Nat.add_sub_assoc (Nat.le_of_lt ht), Nat.add_sub_assoc (Nat.le_of_lt ht)]; exact rot_comm n k (n - t) u
  dsimp only
  rw [e]
theorem KS_rot {n s u v : Nat} (hn : n = 6 ∨ n = 8 ∨ n = 12) (hs : s < n) (hu : u < n) (hv : v < n) {S A B : Nat → Bool} {la lb : Nat} (h : KS n S A B la lb) :
    KS n (fun k => S ((k + s) % n)) (fun k => A ((k + u) % n)) (fun k => B ((k + v) % n)) la lb := by
  unfold KS at h ⊢
  have e1 := cnt_rot hn hs S
  have e2 : cnt n (stT n fun k => S ((k + s) % n)) = cnt n (stT n S) := cnt_congr fun t ht => stT_rot hn hs S ht
  have e3 : ∀ {u : Nat} (X : Nat → Bool), u < n → cnt n (wdT n (stT n fun k => S ((k + s) % n)) fun k => X ((k + u) % n)) = cnt n (wdT n (stT n S) X) := fun {u} X hu => by
    rw [← cnt_rot hn hu (wdT n (stT n S) X)]
    refine cnt_congr fun k hk => ?_
    rw [← wdT_rot hn hu (stT n S) X hk]
    exact wdT_congr (fun t ht => stT_rot hn hs S ht) (fun _ _ => rfl) k
  rw [e1, e2, e3 A hu, e3 B hv]
  exact h
theorem turnsK_eq (n : Nat) (Sp : Nat → Bool) : turnsK ((List.range n).filter Sp) n = (List.range n).filter (stT n Sp) := by
  unfold turnsK
  refine List.filter_congr fun t ht => ?_
  have ht := List.mem_range.mp ht
  refine Bool.eq_iff_iff.mpr ?_
  rw [decide_eq_true_iff, List.filter_eq_nil_iff]
  unfold stT
  rw [List.all_eq_true]
  constructor
  · intro h k hk
    cases hS : Sp k with
    | false => rfl
    | true =>
      have := h k (List.mem_filter.mpr ⟨hk, hS⟩)
      have h2 : (k + t) % n ∈ (List.range n).filter Sp := by simpa using this
      rw [(List.mem_filter.mp h2).2]; rfl
  · intro h k hk
    obtain ⟨h1, h2⟩ := List.mem_filter.mp hk
    have := h k h1
    rw [h2] at this
    have h3 : Sp ((k + t) % n) = true := by simpa using this
    have h4 : (k + t) % n ∈ (List.range n).filter Sp := List.mem_filter.mpr ⟨List.mem_range.mpr (Nat.mod_lt _ (by omega)), h3⟩
    simpa using List.mem_filter.mp h4
theorem widened_eq (n : Nat) (xs : List Nat) (T : Nat → Bool) : widened xs ((List.range n).filter T) n = cnt n (wdT n T fun k => xs.contains k) := by
  unfold widened cnt
  congr 1
  refine List.filter_congr fun k _ => ?_
  unfold wdT
  rw [← List.any_filter]
  generalize (List.range n).filter T = l
  induction l with
  | nil => rfl
  | cons a r ih =>
    rw [List.any_cons, List.filter_cons, ← ih]
    dsimp only
    cases xs.contains ((k + n - a) % n) with
    | true => rw [if_pos rfl, Bool.true_or]; rfl
    | false => rw [if_neg Bool.false_ne_true, Bool.false_or]
theorem kneserOk_of {n : Nat} {xs ys : List Nat} (h : KS n (inS n xs ys) (fun k => xs.contains k) (fun k => ys.contains k) xs.length ys.length) (hg : cnt n (stT n (inS n xs ys)) = 1 ∨ greyOk n ((List.range n).filter (inS n xs ys))) :
    KneserOk (sumsK (pairAll n xs ys).1 n) (turnsK (sumsK (pairAll n xs ys).1 n) n) xs ys n := by
  rw [sumsK_eq, turnsK_eq]
  unfold KneserOk
  rw [widened_eq, widened_eq]
  obtain ⟨h1, h2⟩ := h
  have e1 : ((List.range n).filter (inS n xs ys)).length = cnt n (inS n xs ys) := rfl
  have e2 : ((List.range n).filter (stT n (inS n xs ys))).length = cnt n (stT n (inS n xs ys)) := rfl
  rw [e1, e2]
  refine ⟨by omega, fun h3 => ?_, hg⟩
  have := h2 h3
  omega
end Mine
namespace Mine
noncomputable def rt (n F m t : Nat) : Nat := Nat.land (Nat.lor (Nat.shiftLeft m t) (Nat.shiftRight m (Nat.sub n t))) F
theorem rt_eq (n F m t : Nat) : rt n F m t = ((m <<< t) ||| (m >>> (n - t))) &&& F := rfl
theorem rt_bit {n m t k : Nat} (hm : m < 2 ^ n) (ht : t < n) (hk : k < n) : (rt n (2 ^ n - 1) m t).testBit k = m.testBit ((k + n - t) % n) := by
  rw [rt_eq, Nat.testBit_and, Nat.testBit_or, Nat.testBit_shiftLeft, Nat.testBit_shiftRight, Nat.testBit_two_pow_sub_one]
  have hb : ∀ i, n ≤ i → m.testBit i = false := fun i hi => Nat.testBit_lt_two_pow (Nat.lt_of_lt_of_le hm (Nat.pow_le_pow_right (by decide) hi))
  by_cases h : t ≤ k
  · have e : (k + n - t) % n = k - t := by
      rw [show k + n - t = (k - t) + n by omega, Nat.add_mod_right, Nat.mod_eq_of_lt (by omega)]
    rw [e, hb (n - t + k) (by omega)]
    simp [h, hk]
  · have e : (k + n - t) % n = n - t + k := by
      rw [Nat.mod_eq_of_lt (by omega)]; omega
    rw [e]
    simp [h, hk]
theorem rt_lt (n m t : Nat) : rt n (2 ^ n - 1) m t < 2 ^ n := by
  rw [rt_eq]
  have := Nat.and_le_right (n := (m <<< t) ||| (m >>> (n - t))) (m := 2 ^ n - 1)
  have := Nat.two_pow_pos n
  omega
noncomputable def accB (m : Nat) (l : List Nat) : Nat := l.foldl (fun m b => Nat.lor m (Nat.shiftLeft 1 b)) m
theorem one_shl (b : Nat) : Nat.shiftLeft 1 b = 2 ^ b := by show 1 <<< b = _; rw [Nat.shiftLeft_eq, Nat.one_mul]
theorem accB_bit : ∀ (l : List Nat) (m k : Nat), (accB m l).testBit k = (m.testBit k || l.contains k)
  | [], m, k => by simp [accB]
  | b :: l, m, k => by
    show (accB (m ||| Nat.shiftLeft 1 b) l).testBit k = _
    rw [accB_bit l, Nat.testBit_or, one_shl, Nat.testBit_two_pow, List.contains_cons, Bool.or_assoc]
    congr 2
    by_cases h : b = k
    · subst h; simp
    · rw [decide_eq_false h]; exact (beq_eq_false_iff_ne.mpr (Ne.symm h)).symm
theorem accB_lt {n : Nat} : ∀ (l : List Nat) (m : Nat), m < 2 ^ n → (∀ b ∈ l, b < n) → accB m l < 2 ^ n
  | [], m, hm, _ => hm
  | b :: l, m, hm, h => by
    show accB (m ||| Nat.shiftLeft 1 b) l < 2 ^ n
    refine accB_lt l _ (Nat.or_lt_two_pow hm ?_) fun c hc => h c (.tail _ hc)
    rw [one_shl]; exact Nat.pow_lt_pow_right (by decide) (h b (.head _))
noncomputable def accS (n F A S : Nat) (l : List Nat) : Nat := l.foldl (fun S b => Nat.lor S (rt n F A b)) S
theorem accS_bit {n A : Nat} (hA : A < 2 ^ n) {k : Nat} (hk : k < n) : ∀ (l : List Nat) (S : Nat), (∀ b ∈ l, b < n) → (accS n (2 ^ n - 1) A S l).testBit k = (S.testBit k || l.any fun b => A.testBit ((k + n - b) % n))
  | [], S, _ => by simp [accS]
  | b :: l, S, h => by
    show (accS n (2 ^ n - 1) A (S ||| rt n (2 ^ n - 1) A b) l).testBit k = _
    rw [accS_bit hA hk l _ fun c hc => h c (.tail _ hc), Nat.testBit_or, rt_bit hA (h b (.head _)) hk, List.any_cons, Bool.or_assoc]
theorem accS_lt {n A : Nat} : ∀ (l : List Nat) (S : Nat), S < 2 ^ n → accS n (2 ^ n - 1) A S l < 2 ^ n
  | [], S, h => h
  | b :: l, S, h => accS_lt l (S ||| rt n (2 ^ n - 1) A b) (Nat.or_lt_two_pow h (rt_lt n A b))
noncomputable def pcF (m : Nat) : Nat := Nat.mod (Nat.land (Nat.mul m 0x200040008001) 0x111111111111111) 15
noncomputable def pcR (n m : Nat) : Nat := Nat.rec 0 (fun k ih => Nat.add ih (Nat.land (Nat.shiftRight m k) 1)) n
theorem pcR_cnt (m : Nat) : ∀ n, pcR n m = cnt n m.testBit
  | 0 => rfl
  | n + 1 => by
    show pcR n m + ((m >>> n) &&& 1) = _
    rw [pcR_cnt m n]
    unfold cnt
    rw [List.range_succ, List.filter_append, List.length_append]
    congr 1
    rw [List.filter_cons]
    have e : m.testBit n = decide ((m >>> n) &&& 1 = 1) := by
      rw [Nat.testBit_eq_decide_div_mod_eq, Nat.and_one_is_mod, Nat.shiftRight_eq_div_pow]
    have h2 : (m >>> n) &&& 1 < 2 := by rw [Nat.and_one_is_mod]; exact Nat.mod_lt _ (by decide)
    rw [e]
    generalize (m >>> n) &&& 1 = b at h2
    rcases (by omega : b = 0 ∨ b = 1) with rfl | rfl
    · rfl
    · rfl
noncomputable def force (n : Nat) (f : Nat → Bool) : Bool := Nat.rec (f 0) (fun m _ => f (Nat.succ m)) n
theorem force_eq (n : Nat) (f : Nat → Bool) : force n f = f n := by cases n <;> rfl
noncomputable def allM (P : Nat → Bool) (k : Nat) : Nat → Bool := Nat.rec (motive := fun _ => Nat → Bool) (fun m => force m P) (fun k ih m => ih m && ih (Nat.add m (Nat.pow 2 k))) k
theorem allM_sound (P : Nat → Bool) : ∀ k m, allM P k m = true → ∀ j, j < 2 ^ k → P (m + j) = true
  | 0, m, h, j, hj => by
    obtain rfl : j = 0 := by simpa using hj
    exact (force_eq m P).symm.trans h
  | k + 1, m, h, j, hj => by
    have h' : (allM P k m && allM P k (m + 2 ^ k)) = true := h
    rw [Bool.and_eq_true] at h'
    by_cases hk : j < 2 ^ k
    · exact allM_sound P k m h'.1 j hk
    · have := allM_sound P k _ h'.2 (j - 2 ^ k) (by rw [Nat.pow_succ] at hj; omega)
      rwa [show m + 2 ^ k + (j - 2 ^ k) = m + j by omega] at this
theorem allM_all {P : Nat → Bool} {k : Nat} (h : allM P k 0 = true) {m : Nat} (hm : m < 2 ^ k) : P m = true := by
  have := allM_sound P k 0 h m hm
  rwa [Nat.zero_add] at this
noncomputable def nontriv (n F d1 d2 S : Nat) : Bool := Nat.beq (rt n F S d1) S || Nat.beq (rt n F S d2) S
noncomputable def noT (n F m : Nat) : Bool := Nat.rec true (fun t ih => (bif Nat.beq t 0 then true else Bool.not (Nat.beq (Nat.lor (rt n F m t) m) m)) && ih) n
theorem noT_sound (n F m : Nat) : ∀ j, Nat.rec (motive := fun _ => Bool) true (fun t ih => (bif Nat.beq t 0 then true else Bool.not (Nat.beq (Nat.lor (rt n F m t) m) m)) && ih) j = true → ∀ t, 0 < t → t < j → rt n F m t ||| m ≠ m
  | 0, _, t, _, h => by omega
  | j + 1, h, t, h0, hj => by
    have h' : ((bif Nat.beq j 0 then true else Bool.not (Nat.beq (Nat.lor (rt n F m j) m) m)) && _) = true := h
    rw [Bool.and_eq_true] at h'
    by_cases e : t = j
    · subst e
      have e2 : Nat.beq t 0 = false := by
        cases t with
        | zero => omega
        | succ t => rfl
      have h1 := h'.1
      rw [e2, cond_false] at h1
      intro he
      have : Nat.beq (Nat.lor (rt n F m t) m) m = true := by rw [show Nat.lor (rt n F m t) m = m from he]; exact Nat.beq_refl m
      rw [this] at h1
      cases h1
    · exact noT_sound n F m j h'.2 t h0 (by omega)
theorem stT_mask {n m t : Nat} (hm : m < 2 ^ n) (ht : t < n) : stT n m.testBit t = decide (rt n (2 ^ n - 1) m t ||| m = m) := by
  refine Bool.eq_iff_iff.mpr ?_
  rw [decide_eq_true_iff]
  unfold stT
  rw [List.all_eq_true]
  constructor
  · intro h
    refine Nat.eq_of_testBit_eq fun k => ?_
    rw [Nat.testBit_or]
    by_cases hk : k < n
    · rw [rt_bit hm ht hk]
      have := h ((k + n - t) % n) (List.mem_range.mpr (Nat.mod_lt _ (by omega)))
      have e : ((k + n - t) % n + t) % n = k := by
        by_cases h1 : t ≤ k
        · rw [show k + n - t = (k - t) + n by omega, Nat.add_mod_right, Nat.mod_eq_of_lt (a := k - t) (by omega), Nat.sub_add_cancel h1, Nat.mod_eq_of_lt hk]
        · rw [Nat.mod_eq_of_lt (a := k + n - t) (by omega), show k + n - t + t = k + n by omega, Nat.add_mod_right, Nat.mod_eq_of_lt hk]
      rw [e] at this
      cases h1 : m.testBit ((k + n - t) % n) with
      | false => rfl
      | true => rw [h1] at this; simpa using this.symm
    · have h1 : (rt n (2 ^ n - 1) m t).testBit k = false := Nat.testBit_lt_two_pow (Nat.lt_of_lt_of_le (rt_lt n m t) (Nat.pow_le_pow_right (by decide) (by omega)))
      rw [h1, Bool.false_or]
  · intro h k hk
    have hk := List.mem_range.mp hk
    cases h1 : m.testBit k with
    | false => rfl
    | true =>
      have hb : (rt n (2 ^ n - 1) m t ||| m).testBit ((k + t) % n) = m.testBit ((k + t) % n) := by rw [h]
      rw [Nat.testBit_or, rt_bit hm ht (Nat.mod_lt _ (by omega))] at hb
      have e : ((k + t) % n + n - t) % n = k := by
        by_cases h2 : k + t < n
        · rw [Nat.mod_eq_of_lt h2, show k + t + n - t = k + n by omega, Nat.add_mod_right, Nat.mod_eq_of_lt hk]
        · have e3 : (k + t) % n = k + t - n := by rw [Nat.mod_eq_sub_mod (by omega), Nat.mod_eq_of_lt (by omega)]
          rw [e3, show k + t - n + n - t = k by omega, Nat.mod_eq_of_lt hk]
      rw [e, h1, Bool.true_or] at hb
      rw [← hb]; rfl
end Mine
namespace Mine
noncomputable def tl (n F S : Nat) : List Nat := (List.range n).filter fun t => Nat.beq (Nat.lor (rt n F S t) S) S
noncomputable def kslow (n F S A B la lb : Nat) : Bool :=
  Nat.ble (Nat.add (pcF (accS n F A 0 (tl n F S))) (pcF (accS n F B 0 (tl n F S)))) (Nat.add (pcF S) (tl n F S).length) &&
    (Nat.ble (Nat.add la lb) (pcF S) || Nat.beq (Nat.add (pcF S) (tl n F S).length) (Nat.add (pcF (accS n F A 0 (tl n F S))) (pcF (accS n F B 0 (tl n F S)))))
noncomputable def chk (n F d1 d2 A la S B lb : Nat) : Bool :=
  bif nontriv n F d1 d2 S then Nat.beq S F || kslow n F S A B la lb else Nat.ble (Nat.add la lb) (Nat.succ (pcF S))
noncomputable def walkB (n F d1 d2 A la : Nat) (l : List Nat) : Nat → Nat → Nat → Nat → Bool :=
  List.rec (motive := fun _ => Nat → Nat → Nat → Nat → Bool) (fun _ _ _ _ => true) (fun b _ ih k S B c => Nat.rec true (fun k' _ =>
    force (Nat.lor S (rt n F A b)) fun S' => force (Nat.lor B (Nat.shiftLeft 1 b)) fun B' => chk n F d1 d2 A la S' B' (Nat.succ c) && ih k' S' B' (Nat.succ c) && ih (Nat.succ k') S B c) k) l
noncomputable def walkA (n F d1 d2 : Nat) (l₀ : List Nat) (l : List Nat) : Nat → Nat → Nat → Bool :=
  List.rec (motive := fun _ => Nat → Nat → Nat → Bool) (fun _ _ _ => true) (fun a _ ih k A c => Nat.rec true (fun k' _ =>
    force (Nat.lor A (Nat.shiftLeft 1 a)) fun A' => (chk n F d1 d2 A' (Nat.succ c) A' 1 1 && walkB n F d1 d2 A' (Nat.succ c) l₀ 3 A' 1 1) && ih k' A' (Nat.succ c) && ih (Nat.succ k') A c) k) l
noncomputable def chkAll (n F d1 d2 : Nat) (l : List Nat) : Bool := (chk n F d1 d2 1 1 1 1 1 && walkB n F d1 d2 1 1 l 3 1 1 1) && walkA n F d1 d2 l l 3 1 1
theorem walkB_sound (n F d1 d2 A la : Nat) : ∀ (l : List Nat) (k S B c : Nat), walkB n F d1 d2 A la l k S B c = true → ∀ r, r.Sublist l → r ≠ [] → r.length ≤ k → chk n F d1 d2 A la (accS n F A S r) (accB B r) (c + r.length) = true
  | [], k, S, B, c, _, r, hr, hne, _ => absurd (List.eq_nil_of_sublist_nil hr) hne
  | b :: l, 0, S, B, c, _, r, _, hne, hl => absurd (List.eq_nil_of_length_eq_zero (by omega)) hne
  | b :: l, k + 1, S, B, c, h, r, hr, hne, hl => by
    have h1 : (force (Nat.lor S (rt n F A b)) fun S' => force (Nat.lor B (Nat.shiftLeft 1 b)) fun B' => chk n F d1 d2 A la S' B' (Nat.succ c) && walkB n F d1 d2 A la l k S' B' (Nat.succ c) && walkB n F d1 d2 A la l (Nat.succ k) S B c) = true := h
    rw [force_eq, force_eq, Bool.and_eq_true, Bool.and_eq_true] at h1
    obtain ⟨⟨ha, hb⟩, hc⟩ := h1
    cases hr with
    | cons _ hr => exact walkB_sound n F d1 d2 A la l (k + 1) S B c hc r hr hne hl
    | cons_cons _ hr =>
      rename_i q
      cases q with
      | nil => exact ha
      | cons x q =>
        have := walkB_sound n F d1 d2 A la l k _ _ _ hb (x :: q) hr (by simp) (by simp only [List.length_cons] at hl ⊢; omega)
        rw [List.length_cons (a := b)]
        rw [show c + ((x :: q).length + 1) = Nat.succ c + (x :: q).length by omega]
        exact this
theorem walkA_sound (n F d1 d2 : Nat) (l₀ : List Nat) : ∀ (l : List Nat) (k A c : Nat), walkA n F d1 d2 l₀ l k A c = true → ∀ r, r.Sublist l → r ≠ [] → r.length ≤ k → (chk n F d1 d2 (accB A r) (c + r.length) (accB A r) 1 1 && walkB n F d1 d2 (accB A r) (c + r.length) l₀ 3 (accB A r) 1 1) = true
  | [], k, A, c, _, r, hr, hne, _ => absurd (List.eq_nil_of_sublist_nil hr) hne
  | b :: l, 0, A, c, _, r, _, hne, hl => absurd (List.eq_nil_of_length_eq_zero (by omega)) hne
  | b :: l, k + 1, A, c, h, r, hr, hne, hl => by
    have h1 : (force (Nat.lor A (Nat.shiftLeft 1 b)) fun A' => (chk n F d1 d2 A' (Nat.succ c) A' 1 1 && walkB n F d1 d2 A' (Nat.succ c) l₀ 3 A' 1 1) && walkA n F d1 d2 l₀ l k A' (Nat.succ c) && walkA n F d1 d2 l₀ l (Nat.succ k) A c) = true := h
    rw [force_eq, Bool.and_eq_true, Bool.and_eq_true] at h1
    obtain ⟨⟨ha, hb⟩, hc⟩ := h1
    cases hr with
    | cons _ hr => exact walkA_sound n F d1 d2 l₀ l (k + 1) A c hc r hr hne hl
    | cons_cons _ hr =>
      rename_i q
      cases q with
      | nil => exact ha
      | cons x q =>
        have := walkA_sound n F d1 d2 l₀ l k _ _ hb (x :: q) hr (by simp) (by simp only [List.length_cons] at hl ⊢; omega)
        rw [List.length_cons (a := b)]
        rw [show c + ((x :: q).length + 1) = Nat.succ c + (x :: q).length by omega]
        exact this
theorem chkAll_sound {n F d1 d2 : Nat} {l : List Nat} (h : chkAll n F d1 d2 l = true) {r q : List Nat} (hr : r.Sublist l) (hq : q.Sublist l) (hr3 : r.length ≤ 3) (hq3 : q.length ≤ 3) :
    chk n F d1 d2 (accB 1 r) (1 + r.length) (accS n F (accB 1 r) (accB 1 r) q) (accB 1 q) (1 + q.length) = true := by
  unfold chkAll at h
  rw [Bool.and_eq_true] at h
  have key : (chk n F d1 d2 (accB 1 r) (1 + r.length) (accB 1 r) 1 1 && walkB n F d1 d2 (accB 1 r) (1 + r.length) l 3 (accB 1 r) 1 1) = true := by
    by_cases e : r = []
    · subst e; exact h.1
    · exact walkA_sound n F d1 d2 l l 3 1 1 h.2 r hr e hr3
  rw [Bool.and_eq_true] at key
  by_cases e : q = []
  · subst e; exact key.1
  · exact walkB_sound n F d1 d2 (accB 1 r) (1 + r.length) l 3 (accB 1 r) 1 1 key.2 q hq e hq3
structure Wheel (n d1 d2 : Nat) : Prop where
  size : n = 6 ∨ n = 8 ∨ n = 12
  pc : ∀ m, m < 2 ^ n → pcF m = cnt n m.testBit
  st : ∀ m, m < 2 ^ n → nontriv n (2 ^ n - 1) d1 d2 m = false → ∀ t, 0 < t → t < n → rt n (2 ^ n - 1) m t ||| m ≠ m
  ch : chkAll n (2 ^ n - 1) d1 d2 (List.range' 1 (n - 1)) = true
theorem cnt_full {n : Nat} {P : Nat → Bool} (h : ∀ k, k < n → P k = true) : cnt n P = n := by
  unfold cnt
  rw [List.filter_eq_self.mpr fun k hk => h k (List.mem_range.mp hk), List.length_range]
theorem cnt_one {n : Nat} (hn : 0 < n) {P : Nat → Bool} (h0 : P 0 = true) (h : ∀ k, 0 < k → k < n → P k = false) : cnt n P = 1 := by
  obtain ⟨m, rfl⟩ : ∃ m, n = m + 1 := ⟨n - 1, by omega⟩
  unfold cnt
  rw [List.range_succ_eq_map, List.filter_cons, if_pos h0, List.length_cons, List.filter_eq_nil_iff.mpr, List.length_nil]
  intro a ha
  obtain ⟨b, hb, rfl⟩ := List.mem_map.mp ha
  have := List.mem_range.mp hb
  rw [h _ (Nat.succ_pos b) (by show b + 1 < m + 1; omega)]
  exact Bool.false_ne_true
theorem triv_one {n d1 d2 m : Nat} (W : Wheel n d1 d2) (hm : m < 2 ^ n) (h : nontriv n (2 ^ n - 1) d1 d2 m = false) : stT n m.testBit 0 = true ∧ ∀ t, 0 < t → t < n → stT n m.testBit t = false := by
  have hn : 0 < n := by rcases W.size with e | e | e <;> omega
  constructor
  · unfold stT
    rw [List.all_eq_true]
    intro k hk
    have hk := List.mem_range.mp hk
    rw [Nat.add_zero, Nat.mod_eq_of_lt hk]
    cases m.testBit k <;> rfl
  · intro t h0 ht
    rw [stT_mask hm ht]
    exact decide_eq_false (W.st m hm h t h0 ht)
theorem beq_iff {a b : Nat} : Nat.beq a b = true ↔ a = b := ⟨Nat.eq_of_beq_eq_true, fun h => by rw [h]; exact Nat.beq_refl b⟩
theorem tl_eq {n m : Nat} (hm : m < 2 ^ n) : tl n (2 ^ n - 1) m = (List.range n).filter (stT n m.testBit) := by
  unfold tl
  refine List.filter_congr fun t ht => ?_
  rw [stT_mask hm (List.mem_range.mp ht)]
  refine Bool.eq_iff_iff.mpr ?_
  rw [decide_eq_true_iff, beq_iff]
  exact Iff.rfl
theorem wd_mask {n A m : Nat} (hA : A < 2 ^ n) (hm : m < 2 ^ n) : cnt n (wdT n (stT n m.testBit) A.testBit) = cnt n (accS n (2 ^ n - 1) A 0 (tl n (2 ^ n - 1) m)).testBit := by
  refine cnt_congr fun k hk => ?_
  rw [accS_bit hA hk _ _ (fun b hb => by rw [tl_eq hm] at hb; exact List.mem_range.mp (List.mem_filter.mp hb).1), Nat.zero_testBit, Bool.false_or, tl_eq hm, List.any_filter]
  rfl
theorem chk_sound {n d1 d2 S A B la lb : Nat} (W : Wheel n d1 d2) (hS : S < 2 ^ n) (hA : A < 2 ^ n) (hB : B < 2 ^ n) (hla : cnt n A.testBit = la) (hlb : cnt n B.testBit = lb) (hA0 : A.testBit 0 = true) (hB0 : B.testBit 0 = true)
    (h : chk n (2 ^ n - 1) d1 d2 A la S B lb = true) : KS n S.testBit A.testBit B.testBit la lb := by
  have hn : 0 < n := by rcases W.size with e | e | e <;> omega
  unfold chk at h
  cases hnt : nontriv n (2 ^ n - 1) d1 d2 S with
  | false =>
    rw [hnt, cond_false] at h
    have h1 : la + lb ≤ pcF S + 1 := Nat.le_of_ble_eq_true h
    rw [W.pc S hS] at h1
    obtain ⟨t0, t1⟩ := triv_one W hS hnt
    have e1 := cnt_one hn t0 t1
    have e2 : ∀ X : Nat → Bool, cnt n (wdT n (stT n S.testBit) X) = cnt n X := fun X => cnt_congr fun k hk => by
      unfold wdT
      refine Bool.eq_iff_iff.mpr ?_
      rw [List.any_eq_true]
      constructor
      · rintro ⟨t, ht, hx⟩
        rw [Bool.and_eq_true] at hx
        have ht := List.mem_range.mp ht
        by_cases h0 : t = 0
        · subst h0
          have := hx.2
          rwa [Nat.sub_zero, Nat.add_mod_right, Nat.mod_eq_of_lt hk] at this
        · rw [t1 t (by omega) ht] at hx; exact absurd hx.1 Bool.false_ne_true
      · intro hx
        refine ⟨0, List.mem_range.mpr hn, ?_⟩
        rw [t0, Nat.sub_zero, Nat.add_mod_right, Nat.mod_eq_of_lt hk, hx]; rfl
    unfold KS
    rw [e2, e2, e1, hla, hlb]
    exact ⟨h1, fun h2 => by omega⟩
  | true =>
    rw [hnt, cond_true, Bool.or_eq_true] at h
    rcases h with h | h
    · have hF : S = 2 ^ n - 1 := beq_iff.mp h
      have hb : ∀ k, k < n → S.testBit k = true := fun k hk => by rw [hF, Nat.testBit_two_pow_sub_one, decide_eq_true hk]
      have hT : ∀ t, t < n → stT n S.testBit t = true := fun t ht => by
        unfold stT
        rw [List.all_eq_true]
        intro k hk
        rw [hb _ (Nat.mod_lt _ hn), Bool.or_true]
      have e2 : ∀ X : Nat → Bool, X 0 = true → cnt n (wdT n (stT n S.testBit) X) = n := fun X hX => cnt_full fun k hk => by
        unfold wdT
        rw [List.any_eq_true]
        refine ⟨k, List.mem_range.mpr hk, ?_⟩
        rw [hT k hk, show k + n - k = n by omega, Nat.mod_self, hX]; rfl
      unfold KS
      rw [e2 _ hA0, e2 _ hB0, cnt_full hb, cnt_full hT]
      exact ⟨Nat.le_refl _, fun _ => rfl⟩
    · unfold kslow at h
      rw [Bool.and_eq_true, Bool.or_eq_true] at h
      have eT : (tl n (2 ^ n - 1) S).length = cnt n (stT n S.testBit) := by rw [tl_eq hS]; rfl
      rw [W.pc S hS, W.pc _ (accS_lt _ _ (Nat.two_pow_pos n)), W.pc _ (accS_lt _ _ (Nat.two_pow_pos n)), ← wd_mask hA hS, ← wd_mask hB hS, eT] at h
      unfold KS
      refine ⟨Nat.le_of_ble_eq_true h.1, fun h2 => ?_⟩
      rcases h.2 with h3 | h3
      · have : la + lb ≤ cnt n S.testBit := Nat.le_of_ble_eq_true h3
        omega
      · exact beq_iff.mp h3
end Mine
namespace Mine
theorem pc6 : allM (fun m => Nat.beq (pcF m) (pcR 6 m)) 6 0 = true := by decide +kernel
theorem pc8 : allM (fun m => Nat.beq (pcF m) (pcR 8 m)) 8 0 = true := by decide +kernel
theorem pc12 : allM (fun m => Nat.beq (pcF m) (pcR 12 m)) 12 0 = true := by decide +kernel
theorem st6 : allM (fun m => nontriv 6 63 3 2 m || noT 6 63 m) 6 0 = true := by decide +kernel
theorem st8 : allM (fun m => nontriv 8 255 4 4 m || noT 8 255 m) 8 0 = true := by decide +kernel
theorem st12 : allM (fun m => nontriv 12 4095 6 4 m || noT 12 4095 m) 12 0 = true := by decide +kernel
theorem ch6 : chkAll 6 63 3 2 [1, 2, 3, 4, 5] = true := by decide +kernel
theorem ch8 : chkAll 8 255 4 4 [1, 2, 3, 4, 5, 6, 7] = true := by decide +kernel
theorem ch12 : chkAll 12 4095 6 4 [1, 2, 3, 4, 5, 6, 7, 8, 9, 10, 11] = true := by decide +kernel
theorem wheel_of {n F d1 d2 : Nat} {l : List Nat} (hn : n = 6 ∨ n = 8 ∨ n = 12) (hF : F = 2 ^ n - 1) (hl : l = List.range' 1 (n - 1)) (h1 : allM (fun m => Nat.beq (pcF m) (pcR n m)) n 0 = true) (h2 : allM (fun m => nontriv n F d1 d2 m || noT n F m) n 0 = true) (h3 : chkAll n F d1 d2 l = true) : Wheel n d1 d2 := by
  subst hF; subst hl
  refine ⟨hn, fun m hm => ?_, fun m hm hnt t h0 ht => ?_, h3⟩
  · rw [← pcR_cnt]; exact beq_iff.mp (allM_all h1 hm)
  · have := allM_all h2 hm
    rw [hnt, Bool.false_or] at this
    exact noT_sound n (2 ^ n - 1) m n this t h0 ht
theorem wheel6 : Wheel 6 3 2 := wheel_of (.inl rfl) (by decide) (by decide) pc6 st6 ch6
theorem wheel8 : Wheel 8 4 4 := wheel_of (.inr (.inl rfl)) (by decide) (by decide) pc8 st8 ch8
theorem wheel12 : Wheel 12 6 4 := wheel_of (.inr (.inr rfl)) (by decide) (by decide) pc12 st12 ch12
theorem sub_range : ∀ (f lo : Nat) (r : List Nat), r.Pairwise (· < ·) → (∀ b ∈ r, lo ≤ b ∧ b < lo + f) → r.Sublist (List.range' lo f)
  | 0, lo, [], _, _ => List.Sublist.refl _
  | 0, lo, b :: r, _, h => by have := h b (.head _); omega
  | f + 1, lo, [], _, _ => List.nil_sublist _
  | f + 1, lo, b :: r, hp, h => by
    rw [List.range'_succ]
    obtain ⟨h1, h2⟩ := List.pairwise_cons.mp hp
    have hb := h b (.head _)
    by_cases e : b = lo
    · subst e
      refine List.Sublist.cons_cons _ (sub_range f (b + 1) r h2 fun c hc => ?_)
      have := h1 c hc
      have := h c (.tail _ hc)
      omega
    · refine List.Sublist.cons _ (sub_range f (lo + 1) (b :: r) hp fun c hc => ?_)
      have := h c hc
      rcases List.mem_cons.mp hc with rfl | hc'
      · omega
      · have := h1 c hc'
        omega
theorem norm_of {n : Nat} {xs : List Nat} (hne : xs ≠ []) (h4 : xs.length ≤ 4) (hp : xs.Pairwise (· < ·)) (hx : ∀ a ∈ xs, a < n) : ∃ x r, x < n ∧ r.Sublist (List.range' 1 (n - 1)) ∧ r.length ≤ 3 ∧ xs = (0 :: r).map fun a => a + x := by
  match xs, hne with
  | x :: q, _ =>
    obtain ⟨h1, h2⟩ := List.pairwise_cons.mp hp
    refine ⟨x, q.map fun a => a - x, hx x (.head _), sub_range _ _ _ ?_ ?_, by rw [List.length_map]; simp at h4; omega, ?_⟩
    · rw [List.pairwise_map]
      refine (List.Pairwise.and_mem.mp h2).imp fun {a b} h => ?_
      have := h1 a h.1
      have := h.2.2
      omega
    · intro b hb
      obtain ⟨a, ha, rfl⟩ := List.mem_map.mp hb
      have := h1 a ha
      have := hx a (.tail _ ha)
      omega
    · rw [List.map_cons, List.map_map, Nat.zero_add]
      congr 1
      have : ∀ a ∈ q, a = ((fun a => a + x) ∘ fun a => a - x) a := fun a ha => by
        have := h1 a ha
        show a = a - x + x
        omega
      exact (List.map_congr_left this).symm.trans (List.map_id q) |>.symm
theorem contains_shift {n x k : Nat} {l : List Nat} (hn : n = 6 ∨ n = 8 ∨ n = 12) (hx : x < n) (hk : k < n) (hl : ∀ a ∈ l, a < n) (hlx : ∀ a ∈ l, a + x < n) : (l.map fun a => a + x).contains k = l.contains ((k + (n - x) % n) % n) := by
  refine Bool.eq_iff_iff.mpr ?_
  rw [List.contains_iff_mem, List.contains_iff_mem, List.mem_map]
  constructor
  · rintro ⟨a, ha, rfl⟩
    have h1 := hl a ha
    have : (a + x + (n - x) % n) % n = a := by
      rw [Nat.add_mod_mod, Nat.add_assoc, Nat.add_sub_cancel' (Nat.le_of_lt hx), Nat.add_mod_right, Nat.mod_eq_of_lt h1]
    rwa [this]
  · intro h
    refine ⟨_, h, ?_⟩
    have h2 := hlx _ h
    rw [Nat.add_mod_mod] at h2 ⊢
    rw [← Nat.mod_eq_of_lt h2, rot_back (Nat.le_of_lt hx) hk]
theorem inS_shift {n x y k : Nat} {l q : List Nat} (hn : n = 6 ∨ n = 8 ∨ n = 12) (hx : x < n) (hy : y < n) (hk : k < n) : inS n (l.map fun a => a + x) (q.map fun a => a + y) k = inS n l q ((k + (n - (x + y) % n) % n) % n) := by
  unfold inS
  rw [List.any_map]
  refine any_congr' fun a _ => ?_
  show List.any _ _ = _
  rw [List.any_map]
  refine any_congr' fun b _ => ?_
  show ((a + x + (b + y)) % n == k) = ((a + b) % n == _)
  refine Bool.eq_iff_iff.mpr ?_
  rw [beq_iff_eq, beq_iff_eq, Nat.add_mod_mod]
  have hs : (x + y) % n ≤ n := Nat.le_of_lt (Nat.mod_lt _ (Nat.lt_of_le_of_lt (Nat.zero_le _) hk))
  have e : (a + x + (b + y)) % n = ((a + b) % n + (x + y) % n) % n := by
    rw [← Nat.add_mod, Nat.add_add_add_comm]
  rw [e]
  constructor
  · intro h
    rw [← h, Nat.mod_add_mod, Nat.add_assoc, Nat.add_sub_cancel' hs, Nat.add_mod_right, Nat.mod_mod]
  · intro h
    rw [h]; exact rot_back hs hk
theorem mask_in {n : Nat} {r q : List Nat} (hn : n = 6 ∨ n = 8 ∨ n = 12) (hr : ∀ b ∈ r, b < n) (hq : ∀ b ∈ q, b < n) {k : Nat} (hk : k < n) : (accS n (2 ^ n - 1) (accB 1 r) (accB 1 r) q).testBit k = inS n (0 :: r) (0 :: q) k := by
  have hA : accB 1 r < 2 ^ n := accB_lt r 1 (Nat.one_lt_two_pow (by omega)) hr
  have hb : ∀ j, (accB 1 r).testBit j = (0 :: r).contains j := fun j => by
    rw [accB_bit, List.contains_cons]
    congr 1
    show Nat.testBit (2 ^ 0) j = _
    rw [Nat.testBit_two_pow]
    cases j with
    | zero => rfl
    | succ j => rfl
  rw [accS_bit hA hk q _ hq]
  have e : ((accB 1 r).testBit k || q.any fun b => (accB 1 r).testBit ((k + n - b) % n)) = (0 :: q).any fun b => (0 :: r).contains ((k + n - b) % n) := by
    rw [List.any_cons, Nat.sub_zero, Nat.add_mod_right, Nat.mod_eq_of_lt hk, hb]
    congr 1
    exact any_congr' fun b _ => hb _
  rw [e]
  unfold inS
  refine Bool.eq_iff_iff.mpr ?_
  rw [List.any_eq_true, List.any_eq_true]
  have hr' : ∀ b ∈ 0 :: r, b < n := fun b hb => by
    rcases List.mem_cons.mp hb with rfl | hb
    · omega
    · exact hr b hb
  have hq' : ∀ b ∈ 0 :: q, b < n := fun b hb => by
    rcases List.mem_cons.mp hb with rfl | hb
    · omega
    · exact hq b hb
  constructor
  · rintro ⟨b, hb, h⟩
    have hbn := hq' b hb
    have ha := List.contains_iff_mem.mp h
    refine ⟨_, ha, List.any_eq_true.mpr ⟨b, hb, beq_iff_eq.mpr ?_⟩⟩
    rw [Nat.add_sub_assoc (Nat.le_of_lt hbn)]
    exact rot_back (Nat.le_of_lt hbn) hk
  · rintro ⟨a, ha, h⟩
    obtain ⟨b, hb, h⟩ := List.any_eq_true.mp h
    have h := beq_iff_eq.mp h
    have hbn := hq' b hb
    have han := hr' a ha
    refine ⟨b, hb, List.contains_iff_mem.mpr ?_⟩
    have : (k + n - b) % n = a := by
      rw [← h, Nat.add_sub_assoc (Nat.le_of_lt hbn), Nat.mod_add_mod, Nat.add_assoc, Nat.add_sub_cancel' (Nat.le_of_lt hbn), Nat.add_mod_right, Nat.mod_eq_of_lt han]
    rw [this]; exact ha
theorem cnt_contains {n : Nat} {xs : List Nat} (hd : xs.Nodup) (hx : ∀ a ∈ xs, a < n) : cnt n (fun k => xs.contains k) = xs.length := by
  unfold cnt
  refine List.Perm.length_eq ((List.perm_ext_iff_of_nodup (List.Pairwise.filter _ List.nodup_range) hd).mpr fun j => ?_)
  rw [List.mem_filter, List.mem_range]
  exact ⟨fun h => List.contains_iff_mem.mp h.2, fun h => ⟨hx j h, List.contains_iff_mem.mpr h⟩⟩
theorem KS_all {n d1 d2 : Nat} (W : Wheel n d1 d2) {xs ys : List Nat} (hx0 : xs ≠ []) (hx4 : xs.length ≤ 4) (hxp : xs.Pairwise (· < ·)) (hx : ∀ a ∈ xs, a < n) (hy0 : ys ≠ []) (hy4 : ys.length ≤ 4) (hyp : ys.Pairwise (· < ·)) (hy : ∀ a ∈ ys, a < n) :
    KS n (inS n xs ys) (fun k => xs.contains k) (fun k => ys.contains k) xs.length ys.length := by
  have hn := W.size
  obtain ⟨x, r, hxn, hr, hr3, rfl⟩ := norm_of hx0 hx4 hxp hx
  obtain ⟨y, q, hyn, hq, hq3, rfl⟩ := norm_of hy0 hy4 hyp hy
  have hmem : ∀ {l : List Nat}, l.Sublist (List.range' 1 (n - 1)) → ∀ b ∈ l, b < n := fun h b hb => by
    have := List.mem_range'.mp (h.subset hb)
    omega
  have hrn := hmem hr
  have hqn := hmem hq
  have hnd : ∀ {l : List Nat}, l.Sublist (List.range' 1 (n - 1)) → (0 :: l).Nodup := fun {l} h => by
    refine List.nodup_cons.mpr ⟨fun h0 => ?_, h.nodup List.nodup_range'⟩
    have := List.mem_range'.mp (h.subset h0)
    omega
  have h0n : ∀ {l : List Nat}, (∀ b ∈ l, b < n) → ∀ b ∈ 0 :: l, b < n := fun h b hb => by
    rcases List.mem_cons.mp hb with rfl | hb
    · omega
    · exact h b hb
  have hA : accB 1 r < 2 ^ n := accB_lt r 1 (Nat.one_lt_two_pow (by omega)) hrn
  have hB : accB 1 q < 2 ^ n := accB_lt q 1 (Nat.one_lt_two_pow (by omega)) hqn
  have hb : ∀ (l : List Nat) j, (accB 1 l).testBit j = (0 :: l).contains j := fun l j => by
    rw [accB_bit, List.contains_cons]
    congr 1
    show Nat.testBit (2 ^ 0) j = _
    rw [Nat.testBit_two_pow]
    cases j with
    | zero => rfl
    | succ j => rfl
  have hc : ∀ l : List Nat, l.Sublist (List.range' 1 (n - 1)) → cnt n (accB 1 l).testBit = 1 + l.length := fun l hl => by
    rw [cnt_congr fun k _ => hb l k, cnt_contains (hnd hl) (h0n (hmem hl)), List.length_cons, Nat.add_comm]
  have K := chk_sound W (accS_lt q _ hA) hA hB (hc r hr) (hc q hq) (by rw [hb]; rfl) (by rw [hb]; rfl) (chkAll_sound W.ch hr hq hr3 hq3)
  have K1 : KS n (inS n (0 :: r) (0 :: q)) (fun k => (0 :: r).contains k) (fun k => (0 :: q).contains k) (1 + r.length) (1 + q.length) :=
    KS_congr (fun k hk => (mask_in hn hrn hqn hk).symm) (fun k _ => (hb r k).symm) (fun k _ => (hb q k).symm) K
  have hn0 : 0 < n := by omega
  have K2 := KS_rot hn (Nat.mod_lt (n - (x + y) % n) hn0) (Nat.mod_lt (n - x) hn0) (Nat.mod_lt (n - y) hn0) K1
  rw [List.length_map, List.length_map, List.length_cons, List.length_cons, Nat.add_comm r.length, Nat.add_comm q.length]
  refine KS_congr (fun k hk => inS_shift hn hxn hyn hk) (fun k hk => contains_shift hn hxn hk (h0n hrn) fun a ha => hx _ (List.mem_map.mpr ⟨a, ha, rfl⟩)) (fun k hk => contains_shift hn hyn hk (h0n hqn) fun a ha => hy _ (List.mem_map.mpr ⟨a, ha, rfl⟩)) K2
end Mine
namespace Mine
open PySem
noncomputable def colL (n : Nat) : List (Nat × Nat × Nat) :=
  if n = 6 then [(4, 0, 0), (4, 4, 0), (0, 4, 0), (0, 4, 4), (0, 0, 4), (4, 0, 4)]
  else if n = 8 then [(4, 0, 0), (4, 3, 0), (2, 4, 0), (0, 4, 1), (0, 4, 4), (0, 1, 4), (2, 0, 4), (4, 0, 3)]
  else [(4, 0, 0), (4, 2, 0), (4, 4, 0), (2, 4, 0), (0, 4, 0), (0, 4, 2), (0, 4, 4), (0, 2, 4), (0, 0, 4), (2, 0, 4), (4, 0, 4), (4, 0, 2)]
noncomputable def colN (n k : Nat) : Nat × Nat × Nat := (colL n).getD k (0, 0, 0)
noncomputable def qf (m : Nat) : UInt64 := Float64.ofFrac false m 64
noncomputable def colC (n k : Nat) : Bool := Float64.div (colour n k).1 f16 == qf (colN n k).1 && Float64.div (colour n k).2.1 f16 == qf (colN n k).2.1 && Float64.div (colour n k).2.2 f16 == qf (colN n k).2.2 &&
  Nat.ble (colN n k).1 4 && Nat.ble (colN n k).2.1 4 && Nat.ble (colN n k).2.2 4
theorem col6 : (List.range 6).all (colC 6) = true := by decide +kernel
theorem col8 : (List.range 8).all (colC 8) = true := by decide +kernel
theorem col12 : (List.range 12).all (colC 12) = true := by decide +kernel
theorem addC : ((List.range 45).all fun m => (List.range 5).all fun j => Float64.add (qf m) (qf j) == qf (m + j)) = true := by decide +kernel
theorem mmC : ((List.range 49).all fun m => eqF (min3 (qf m) (qf m) (qf m)) (max3 (qf m) (qf m) (qf m))) = true := by decide +kernel
theorem q0 : f0 = qf 0 := by decide +kernel
theorem add_q {m j : Nat} (hm : m ≤ 44) (hj : j ≤ 4) : Float64.add (qf m) (qf j) = qf (m + j) := by
  have := List.all_eq_true.mp (List.all_eq_true.mp addC m (List.mem_range.mpr (by omega))) j (List.mem_range.mpr (by omega))
  exact beq_iff_eq.mp this
theorem col_all {n k : Nat} (hn : n = 6 ∨ n = 8 ∨ n = 12) (hk : k < n) : colC n k = true := by
  rcases hn with rfl | rfl | rfl
  · exact List.all_eq_true.mp col6 k (List.mem_range.mpr hk)
  · exact List.all_eq_true.mp col8 k (List.mem_range.mpr hk)
  · exact List.all_eq_true.mp col12 k (List.mem_range.mpr hk)
theorem grey_fold {n : Nat} (hn : n = 6 ∨ n = 8 ∨ n = 12) : ∀ (xs : List Nat) (a b c : Nat), (∀ k ∈ xs, k < n) → a + 4 * xs.length ≤ 48 → b + 4 * xs.length ≤ 48 → c + 4 * xs.length ≤ 48 →
    xs.foldl (greyStep n) (qf a, qf b, qf c) = (qf (a + (xs.map fun k => (colN n k).1).sum), qf (b + (xs.map fun k => (colN n k).2.1).sum), qf (c + (xs.map fun k => (colN n k).2.2).sum))
  | [], a, b, c, _, _, _, _ => by simp
  | k :: r, a, b, c, h, ha, hb, hc => by
    have hC := col_all hn (h k (.head _))
    unfold colC at hC
    simp only [Bool.and_eq_true, beq_iff_eq] at hC
    obtain ⟨⟨⟨⟨⟨h1, h2⟩, h3⟩, h4⟩, h5⟩, h6⟩ := hC
    have h4 := Nat.le_of_ble_eq_true h4
    have h5 := Nat.le_of_ble_eq_true h5
    have h6 := Nat.le_of_ble_eq_true h6
    rw [List.length_cons] at ha hb hc
    have e : greyStep n (qf a, qf b, qf c) k = (qf (a + (colN n k).1), qf (b + (colN n k).2.1), qf (c + (colN n k).2.2)) := by
      unfold greyStep
      dsimp only
      rw [h1, h2, h3, add_q (by omega) h4, add_q (by omega) h5, add_q (by omega) h6]
    rw [List.foldl_cons, e, grey_fold hn r _ _ _ (fun j hj => h j (.tail _ hj)) (by omega) (by omega) (by omega)]
    simp only [List.map_cons, List.sum_cons, Nat.add_assoc]
noncomputable def gInt (n m : Nat) : Bool :=
  Nat.beq (((List.range n).filter m.testBit).map fun k => (colN n k).1).sum (((List.range n).filter m.testBit).map fun k => (colN n k).2.1).sum &&
  Nat.beq (((List.range n).filter m.testBit).map fun k => (colN n k).1).sum (((List.range n).filter m.testBit).map fun k => (colN n k).2.2).sum
theorem gr6 : allM (fun m => bif nontriv 6 63 3 2 m then gInt 6 m else true) 6 0 = true := by decide +kernel
theorem gr8 : allM (fun m => bif nontriv 8 255 4 4 m then gInt 8 m else true) 8 0 = true := by decide +kernel
theorem gr12 : allM (fun m => bif nontriv 12 4095 6 4 m then gInt 12 m else true) 12 0 = true := by decide +kernel
theorem grey_of {n m : Nat} (hn : n = 6 ∨ n = 8 ∨ n = 12) (h : gInt n m = true) : greyOk n ((List.range n).filter m.testBit) := by
  unfold gInt at h
  rw [Bool.and_eq_true] at h
  have h1 := beq_iff.mp h.1
  have h2 := beq_iff.mp h.2
  have hl : ((List.range n).filter m.testBit).length ≤ 12 := by
    have := List.length_filter_le m.testBit (List.range n)
    rw [List.length_range] at this
    omega
  have hf := grey_fold hn ((List.range n).filter m.testBit) 0 0 0 (fun k hk => List.mem_range.mp (List.mem_filter.mp hk).1) (by omega) (by omega) (by omega)
  rw [← h1, ← h2, Nat.zero_add, ← q0] at hf
  have hb : (((List.range n).filter m.testBit).map fun k => (colN n k).1).sum ≤ 48 := by
    have : ∀ l : List Nat, (∀ k ∈ l, k < n) → (l.map fun k => (colN n k).1).sum ≤ 4 * l.length := by
      intro l
      induction l with
      | nil => intro _; simp
      | cons k r ih =>
        intro hk
        have h3 := ih fun j hj => hk j (.tail _ hj)
        have hC := col_all hn (hk k (.head _))
        unfold colC at hC
        simp only [Bool.and_eq_true] at hC
        have h4 := Nat.le_of_ble_eq_true hC.1.1.2
        rw [List.map_cons, List.sum_cons, List.length_cons]
        omega
    have := this _ (fun k (hk : k ∈ (List.range n).filter m.testBit) => List.mem_range.mp (List.mem_filter.mp hk).1)
    omega
  unfold greyOk greyOf
  rw [hf]
  exact List.all_eq_true.mp mmC _ (List.mem_range.mpr (by omega))
theorem grey_all {n d1 d2 : Nat} (W : Wheel n d1 d2) (hg : allM (fun m => bif nontriv n (2 ^ n - 1) d1 d2 m then gInt n m else true) n 0 = true) (Sp : Nat → Bool) : cnt n (stT n Sp) = 1 ∨ greyOk n ((List.range n).filter Sp) := by
  have hn0 : 0 < n := by rcases W.size with e | e | e <;> omega
  have hm : accB 0 ((List.range n).filter Sp) < 2 ^ n := accB_lt _ 0 (Nat.two_pow_pos n) fun b hb => List.mem_range.mp (List.mem_filter.mp hb).1
  have hb : ∀ k, k < n → (accB 0 ((List.range n).filter Sp)).testBit k = Sp k := fun k hk => by
    rw [accB_bit, Nat.zero_testBit, Bool.false_or]
    refine Bool.eq_iff_iff.mpr ?_
    rw [List.contains_iff_mem, List.mem_filter]
    exact ⟨fun h => h.2, fun h => ⟨List.mem_range.mpr hk, h⟩⟩
  cases hnt : nontriv n (2 ^ n - 1) d1 d2 (accB 0 ((List.range n).filter Sp)) with
  | false =>
    left
    obtain ⟨t0, t1⟩ := triv_one W hm hnt
    rw [← cnt_one hn0 t0 t1]
    exact cnt_congr fun t _ => (stT_congr hb t).symm
  | true =>
    right
    have := allM_all hg hm
    rw [hnt, cond_true] at this
    have h2 := grey_of W.size this
    rwa [List.filter_congr fun k hk => hb k (List.mem_range.mp hk)] at h2
theorem plain_law : PlainLaw := by
  intro size xs ys last wd hs hw hx0 hx4 hxp hx hy0 hy4 hyp hy hl
  obtain ⟨h1, h2⟩ := divided_eq hs hw (hxp.imp fun h => Nat.ne_of_lt h) hx4 hx (hyp.imp fun h => Nat.ne_of_lt h) hy
  refine ⟨sendAll_eq hx hyp hl hy, h1, h2, ?_⟩
  rcases hs with rfl | rfl | rfl
  · exact kneserOk_of (KS_all wheel6 hx0 hx4 hxp hx hy0 hy4 hyp hy) (grey_all wheel6 gr6 _)
  · exact kneserOk_of (KS_all wheel8 hx0 hx4 hxp hx hy0 hy4 hyp hy) (grey_all wheel8 gr8 _)
  · exact kneserOk_of (KS_all wheel12 hx0 hx4 hxp hx hy0 hy4 hyp hy) (grey_all wheel12 gr12 _)
end Mine
namespace Mine
open PySem PySem.Spec PySem.Calls PyProof.Rows PySem.W
theorem run_top {prog : Program} {w : World} (hplain : PlainLaw) {base : Heap} {L : Addr} {A : Around} {env : Env} {s : Shared} {Q : Flow → Shared → Prop} {E : Value → Shared → Prop} {m : Str → Option Value} {bd : List Stmt} {ls : Addr} {vs : List Value} {ns : List Int} {tA tB tC : Obj}
    (ok : Cx.Ok w ⟨base, L, A, env⟩ 30) (hN : env.scope.names = nmOf 215 w) (F : Fr base L s.heap m) (hm : ∀ x, (m x).map er = look env.scope.names [some (.ref ls), none, none, none, none, none, none, none, none, none, none, none, none, none, none] x)
    (N : News base L s.heap [(54, tA), (47, tB), (162, tC)]) (hA : tA = tabObj #[]) (hB : tB = tabObj #[]) (hC : tC = tabObj #[]) (hl : base.IsList ls vs.toArray) (hI : IntsAre vs ns) (hn : ns.length ≤ 63) (hbd : (fdOf 215 w).body = .stmts bd)
    (kk : ∀ f h' tk' m', retOf (erF f) = .bool true → Fr base L h' m' → (∃ p, h'.get? 54 = some (tabObj p)) → (∃ p, h'.get? 47 = some (tabObj p)) → (∃ p, h'.get? 162 = some (tabObj p)) → Q f { s with heap := h', toks := tk' }) :
    wpAny (model prog w) A (execs bd env) Q E s := by
  obtain ⟨bd', hb', hW⟩ := f_lawbody (prog := prog) (w := w) (n := 9) (ls := ls) (ns := ns) hplain hn (c' := ⟨base, L, A, env⟩) ok hN (fun c2 hx led => by
    have := IsL.base (w := w) (c := c2) (led := led) (vs := vs) (a := ls) (let ⟨o, e, q⟩ := hl; ⟨o, hx _ _ e, q⟩)
    rwa [ints_AV hI] at this)
  obtain rfl : bd' = bd := FuncBody.stmts.inj (hb'.symm.trans hbd)
  subst hA; subst hB; subst hC
  have rep : Rep w ⟨base, L, A, env⟩ [some (.ref ls), none, none, none, none, none, none, none, none, none, none, none, none, none, none] ([(54, .raw (tabObj #[])), (47, .raw (tabObj #[])), (162, .raw (tabObj #[]))] ++ []) s.heap :=
    Rep.ofNews hm F N ⟨rfl, rfl, rfl, rfl, rfl, rfl, trivial⟩ (by simp)
  refine hW [] s _ _ rep ?_
  rintro f lo' led' h' tk' ⟨hr, p1, p2, p3, m1, m2, m3⟩ rep'
  obtain ⟨m', F', _⟩ := rep'.toFr
  refine kk f h' tk' m' hr F' ⟨p1, ?_⟩ ⟨p2, ?_⟩ ⟨p3, ?_⟩
  · obtain ⟨_, _, o, ho, rfl⟩ := rep'.own _ (List.mem_append_left _ m1); exact ho
  · obtain ⟨_, _, o, ho, rfl⟩ := rep'.own _ (List.mem_append_left _ m2); exact ho
  · obtain ⟨_, _, o, ho, rfl⟩ := rep'.own _ (List.mem_append_left _ m3); exact ho
theorem ret_true {f : Flow} (h : retOf (erF f) = .bool true) : ∃ v, f = .ret v ∧ er v = .bool true := by
  cases f with
  | ret v => exact ⟨v, rfl, h⟩
  | next => cases h
  | brk => cases h
  | cont => cases h
theorem look_one {nm : Str} {k : NameKind} {ns : List (Str × NameKind)} {a : Value} {lo : Lo} (h : ∀ v ∈ lo, v = none) (x : Str) : Option.map er (List.lookup x [(nm, a)].reverse) = look ((nm, k) :: ns) (some (er a) :: lo) x := by
  show Option.map er (List.lookup x [(nm, a)]) = _
  unfold look
  rw [List.lookup_cons]
  by_cases e : x = nm
  · subst e; simp
  · have e' : (x == nm) = false := beq_eq_false_iff_ne.mpr e
    rw [e', if_neg e, look_none h]; rfl
theorem top (hplain : PlainLaw) : PySem.Challenge.rw_sl0018_01.Holds := Mine.hd (by
  k_go0
  rename_i ns hs hlay0 hL1 hr1 hl2 as4 as3 ls vs as0 hL ra w1 r0 hI hr hcond hcond2 hD h₁ X' T' K' F' cH1 cH2 N' l0
  refine run_top hplain ?ok ?hN F' ?hm N' ?hA ?hB ?hC lifted hI ?hn ?hbd ?kk
  case ok => exact ⟨X', ⟨_, _, _, _, _, T'⟩, rfl, Nat.le_of_ble_eq_true rfl, Nat.le_of_ble_eq_true rfl, rfl, rfl, rfl, rfl⟩
  case hN => with_unfolding_all rfl
  case hm => exact fun x => look_one (by simp) x
  case hA => rfl
  case hB => rfl
  case hC => rfl
  case hn => omega
  case hbd => with_unfolding_all rfl
  case kk =>
    intro f h' tk' m' hr F h54 h47 h162
    refine ⟨?_, h54, h47, h162, trivial⟩
    obtain ⟨v, rfl, hv⟩ := ret_true hr
    obtain rfl := er_bool hv
    exact goodW_bool F (by assumption) (fun _ => by rfl) (by first | kernel_rfl | with_unfolding_all rfl | (simp [RowW.claim, OpenRow.toRowW, OpenLaw.row, WShape.has]; trace_state; done)))
end Mine
theorem PySem.Challenge.cw_sl0018_01_holds : PySem.Challenge.rw_sl0018_01.Holds :=
  Mine.top Mine.plain_law
