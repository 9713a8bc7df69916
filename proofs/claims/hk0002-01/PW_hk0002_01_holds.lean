import PyProof.Rows.All
import Wide.All
import OpenK.AllK
import Wide.FinOn
import PySem.Challenge.RW_hk0002_01
set_option Elab.async false
set_option maxRecDepth 100000
set_option linter.unusedVariables false

namespace Mine
section
open PySem PySem.W PyProof.Rows
set_option maxHeartbeats 8000000 in
open_top hd for PySem.Challenge.rw_hk0002_01
end
end Mine

-- Base
section
open PySem PySem.Calls PySem.Spec PyProof.Rows
namespace Mine

def isDictO (o : Obj) : Bool := match o.data with
  | .dict .. => true
  | _ => false
/-- an object as a program makes it; a dict at the address of the modules is none -/
def plainO (i : Addr) (o : Obj) : Bool := o.dict.isNone && o.slots.isEmpty && (!isDictO o || i != sysModules)
/-- the heap with the objects at W, and all that are not plain, taken away -/
def hide (W : List Addr) (h : Heap) : Heap := ⟨h.objs.mapIdx fun i o => if i ∈ W ∨ plainO i o = false then { o with data := .freed } else o, h.life⟩

theorem hide_some {W : List Addr} {h : Heap} {b : Addr} {o : Obj} : (hide W h).get? b = some o ↔ b ∉ W ∧ h.get? b = some o ∧ plainO b o = true := by
  obtain ⟨objs, l⟩ := h
  simp only [hide, Heap.get?, Array.getElem?_mapIdx]
  cases e : objs[b]? with
  | none => simp
  | some o' =>
    obtain ⟨c, d, dt, sl⟩ := o'
    by_cases hb : b ∈ W ∨ plainO b ⟨c, d, dt, sl⟩ = false
    · simp only [Option.map_some, hb, if_true]
      constructor
      · intro x; cases x
      · rintro ⟨h1, h2, h3⟩
        have hp : plainO b ⟨c, d, dt, sl⟩ = false := hb.resolve_left h1
        have e2 : (⟨c, d, dt, sl⟩ : Obj) = o ∨ False := by
          cases dt <;> first | exact .inl (Option.some.inj h2) | cases h2
        rcases e2 with e2 | e2
        · rw [← e2, hp] at h3; cases h3
        · exact e2.elim
    · have hb' := hb
      rw [not_or] at hb'
      have hp : plainO b ⟨c, d, dt, sl⟩ = true := by cases q : plainO b ⟨c, d, dt, sl⟩ with | true => rfl | false => exact absurd q hb'.2
      simp only [Option.map_some, hb, if_false]
      constructor
      · intro x
        refine ⟨hb'.1, x, ?_⟩
        have e2 : (⟨c, d, dt, sl⟩ : Obj) = o := by
          cases dt <;> first | exact Option.some.inj x | cases x
        rw [← e2]; exact hp
      · exact fun x => x.2.1

theorem plain_seq {b : Addr} {o : Obj} {c : Value} {vs : Array Value} {n : Nat} (hp : plainO b o = true) (hc : o.cls = c) (hd : o.data = .seq vs n) : o = { cls := c, data := .seq vs n } := by
  obtain ⟨c', d, dt, sl⟩ := o
  simp only [plainO, Bool.and_eq_true, Option.isNone_iff_eq_none, Array.isEmpty_iff] at hp
  obtain ⟨⟨rfl, rfl⟩, _⟩ := hp
  simp only at hc hd
  subst hc hd
  rfl
theorem plain_dict {b : Addr} {o : Obj} {c : Value} {vs : Array DictEntry} {n : Nat} (hp : plainO b o = true) (hc : o.cls = c) (hd : o.data = .dict vs n) : o = { cls := c, data := .dict vs n } := by
  obtain ⟨c', d, dt, sl⟩ := o
  simp only [plainO, Bool.and_eq_true, Option.isNone_iff_eq_none, Array.isEmpty_iff] at hp
  obtain ⟨⟨rfl, rfl⟩, _⟩ := hp
  simp only at hc hd
  subst hc hd
  rfl

theorem plain_low {b : Addr} {o : Obj} {vs : Array DictEntry} {n : Nat} (hp : plainO b o = true) (hd : o.data = .dict vs n) : (b == sysModules) = false := by
  have h1 : isDictO o = true := by unfold isDictO; rw [hd]
  unfold plainO at hp
  rw [h1] at hp
  simp at hp
  exact beq_eq_false_iff_ne.mpr hp.2

abbrev Ext (h h' : Heap) : Prop := ∀ b o, h.get? b = some o → h'.get? b = some o
def Kp (W : List Addr) (h : Heap) (W' : List Addr) (h' : Heap) : Prop := ∀ b o, b ∉ W → h.get? b = some o → b ∉ W' ∧ h'.get? b = some o

theorem Kp.hide {W W' : List Addr} {h h' : Heap} (k : Kp W h W' h') : ∀ b o, (hide W h).get? b = some o → (hide W' h').get? b = some o :=
  fun b o e => let ⟨h1, h2, h3⟩ := hide_some.mp e; let ⟨h4, h5⟩ := k b o h1 h2; hide_some.mpr ⟨h4, h5, h3⟩
theorem Kp.trans {W W' W'' : List Addr} {h h' h'' : Heap} (k : Kp W h W' h') (k' : Kp W' h' W'' h'') : Kp W h W'' h'' :=
  fun b o hb e => let ⟨h1, h2⟩ := k b o hb e; k' b o h1 h2
theorem Kp.of_ext {W : List Addr} {h h' : Heap} (k : Ext h h') : Kp W h W h' := fun b o hb e => ⟨hb, k b o e⟩
theorem Kp.refl {W : List Addr} {h : Heap} : Kp W h W h := fun b o hb e => ⟨hb, e⟩
theorem Kp.drop {W W' : List Addr} {h : Heap} (hs : ∀ b ∈ W', b ∈ W) : Kp W h W' h := fun b o hb e => ⟨fun x => hb (hs b x), e⟩
theorem none_of_size {h : Heap} {a : Addr} (ha : h.objs.size ≤ a) : h.get? a = none := by
  cases e : h.get? a with
  | none => rfl
  | some o => exact absurd (Heap.lt_size e) (Nat.not_lt.mpr ha)
theorem ext_size {h h' : Heap} (k : Ext h h') {a : Addr} (ha : h'.get? a = none) : h.get? a = none := by
  cases e : h.get? a with
  | none => rfl
  | some o => rw [k a o e] at ha; cases ha

def RD (W : List Addr) (h : Heap) (v : Value) (d : PyData) : Prop := ∃ as, Reads (hide W h) v d as
def RDs (W : List Addr) (h : Heap) (vs : List Value) (ds : List PyData) : Prop := ∃ as, ReadsAll (hide W h) vs ds as

section
variable {W W' : List Addr} {h h' : Heap} {v : Value} {vs : List Value} {d : PyData} {ds : List PyData}
theorem RD.kp (k : Kp W h W' h') (r : RD W h v d) : RD W' h' v d := let ⟨as, r⟩ := r; ⟨as, Reads.keeps k.hide r⟩
theorem RDs.kp (k : Kp W h W' h') (r : RDs W h vs ds) : RDs W' h' vs ds := let ⟨as, r⟩ := r; ⟨as, ReadsAll.keeps k.hide r⟩
theorem RD.ext (k : Ext h h') (r : RD W h v d) : RD W h' v d := r.kp (Kp.of_ext k)
theorem RDs.ext (k : Ext h h') (r : RDs W h vs ds) : RDs W h' vs ds := r.kp (Kp.of_ext k)
theorem RD.plain (r : RD W h v d) : ∃ as, Reads h v d as := let ⟨as, r⟩ := r; ⟨as, Reads.keeps (fun b o e => (hide_some.mp e).2.1) r⟩
theorem RDs.nil : RDs W h [] [] := ⟨_, .nil⟩
theorem RDs.cons (a : RD W h v d) (b : RDs W h vs ds) : RDs W h (v :: vs) (d :: ds) := let ⟨_, a⟩ := a; let ⟨_, b⟩ := b; ⟨_, .cons a b⟩
theorem RDs.cons_inv (r : RDs W h vs (d :: ds)) : ∃ v vs', vs = v :: vs' ∧ RD W h v d ∧ RDs W h vs' ds := by
  obtain ⟨as, r⟩ := r
  cases r with
  | cons a b => exact ⟨_, _, rfl, ⟨_, a⟩, ⟨_, b⟩⟩
theorem RDs.cons_inv' (r : RDs W h (v :: vs) ds) : ∃ d ds', ds = d :: ds' ∧ RD W h v d ∧ RDs W h vs ds' := by
  obtain ⟨as, r⟩ := r
  cases r with
  | cons a b => exact ⟨_, _, rfl, ⟨_, a⟩, ⟨_, b⟩⟩
theorem RDs.nil_inv (r : RDs W h vs []) : vs = [] := by
  obtain ⟨as, r⟩ := r
  cases r; rfl
theorem RDs.length : ∀ {vs : List Value} {ds : List PyData}, RDs W h vs ds → vs.length = ds.length
  | [], ds, ⟨_, r⟩ => by cases r; rfl
  | v :: vs, ds, r => by
    obtain ⟨d, ds', rfl, _, r'⟩ := r.cons_inv'
    simp [RDs.length r']
theorem RDs.get : ∀ {vs : List Value} {ds : List PyData}, RDs W h vs ds → ∀ (i : Nat) (v : Value), vs[i]? = some v → ∃ d, ds[i]? = some d ∧ RD W h v d
  | [], ds, r, i, v, e => by simp at e
  | u :: vs, ds, r, i, v, e => by
    obtain ⟨d, ds', rfl, r1, r'⟩ := r.cons_inv'
    cases i with
    | zero => simp at e; subst e; exact ⟨d, rfl, r1⟩
    | succ j => simpa using RDs.get r' j v (by simpa using e)
theorem RDs.snoc : ∀ {vs : List Value} {ds : List PyData}, RDs W h vs ds → RD W h v d → RDs W h (vs ++ [v]) (ds ++ [d])
  | [], ds, r, x => by
    obtain ⟨_, r⟩ := r
    cases r; exact .cons x .nil
  | u :: vs, ds, r, x => by
    obtain ⟨d', ds', rfl, r1, r'⟩ := r.cons_inv'
    exact .cons r1 (RDs.snoc r' x)
theorem RDs.append : ∀ {vs us : List Value} {ds es : List PyData}, RDs W h vs ds → RDs W h us es → RDs W h (vs ++ us) (ds ++ es)
  | [], us, ds, es, r, x => by
    obtain ⟨_, r⟩ := r
    cases r; exact x
  | u :: vs, us, ds, es, r, x => by
    obtain ⟨d', ds', rfl, r1, r'⟩ := r.cons_inv'
    exact .cons r1 (RDs.append r' x)
theorem RDs.of_get : ∀ {vs : List Value} {ds : List PyData}, vs.length = ds.length → (∀ (i : Nat) (v : Value) (d : PyData), vs[i]? = some v → ds[i]? = some d → RD W h v d) → RDs W h vs ds
  | [], [], _, _ => .nil
  | v :: vs, d :: ds, e, k => .cons (k 0 v d rfl rfl) (RDs.of_get (by simpa using e) fun i v d e1 e2 => k (i + 1) v d (by simpa using e1) (by simpa using e2))

theorem rd_int (i : Int) (t : Tok) : RD W h (.int i t) (.int i) := ⟨_, .int i t⟩
theorem rd_bool (b : Bool) : RD W h (.bool b) (.bool b) := ⟨_, .bool b⟩
theorem rd_none : RD W h .none .none := ⟨_, .none⟩
theorem rd_str (x : Str) (t : Tok) : RD W h (.str x t) (.str x) := ⟨_, .str x t⟩
theorem RD.int_inv {i : Int} (r : RD W h v (.int i)) : ∃ t, v = .int i t := by obtain ⟨_, r⟩ := r; cases r; exact ⟨_, rfl⟩
theorem RD.bool_inv {b : Bool} (r : RD W h v (.bool b)) : v = .bool b := by obtain ⟨_, r⟩ := r; cases r; rfl
theorem RD.str_inv {x : Str} (r : RD W h v (.str x)) : ∃ t, v = .str x t := by obtain ⟨_, r⟩ := r; cases r; exact ⟨_, rfl⟩
theorem RD.none_inv (r : RD W h v .none) : v = .none := by obtain ⟨_, r⟩ := r; cases r; rfl
theorem rd_list {a : Addr} {vs : Array Value} {n : Nat} (ha : a ∉ W) (ho : h.get? a = some { cls := .type "list", data := .seq vs n }) (r : RDs W h vs.toList ds) :
    RD W h (.ref a) (.list ds) := let ⟨_, r⟩ := r; ⟨_, .list (hide_some.mpr ⟨ha, ho, rfl⟩) rfl rfl r⟩
theorem rd_tuple {a : Addr} {vs : Array Value} {n : Nat} (ha : a ∉ W) (ho : h.get? a = some { cls := .type "tuple", data := .seq vs n }) (r : RDs W h vs.toList ds) :
    RD W h (.ref a) (.tuple ds) := let ⟨_, r⟩ := r; ⟨_, .tuple (hide_some.mpr ⟨ha, ho, rfl⟩) rfl rfl r⟩
theorem rd_dict {a : Addr} {es : Array DictEntry} {n : Nat} {kvs : List (PyData × PyData)} (ha : a ∉ W) (h1 : (a == sysModules) = false) (ho : h.get? a = some { cls := .type "dict", data := .dict es n }) (r1 : RDs W h (es.toList.map (·.key)) (kvs.map (·.1)))
    (r2 : RDs W h (es.toList.map (·.val)) (kvs.map (·.2))) : RD W h (.ref a) (.dict kvs) := let ⟨_, r1⟩ := r1; let ⟨_, r2⟩ := r2; ⟨_, .dict (hide_some.mpr ⟨ha, ho, by simp [plainO, isDictO, bne, h1]⟩) rfl rfl r1 r2⟩
theorem RD.list_inv (r : RD W h v (.list ds)) : ∃ a vs, v = .ref a ∧ a ∉ W ∧ h.PlainList a vs ∧ RDs W h vs.toList ds := by
  obtain ⟨_, r⟩ := r
  cases r with
  | list h1 h2 h3 h4 =>
    obtain ⟨a1, a2, a3⟩ := hide_some.mp h1
    exact ⟨_, _, rfl, a1, ⟨_, by rw [a2, plain_seq a3 h2 h3]⟩, ⟨_, h4⟩⟩
theorem RD.tuple_inv (r : RD W h v (.tuple ds)) : ∃ a vs n, v = .ref a ∧ a ∉ W ∧ h.get? a = some { cls := .type "tuple", data := .seq vs n } ∧ RDs W h vs.toList ds := by
  obtain ⟨_, r⟩ := r
  cases r with
  | tuple h1 h2 h3 h4 =>
    obtain ⟨a1, a2, a3⟩ := hide_some.mp h1
    exact ⟨_, _, _, rfl, a1, by rw [a2, plain_seq a3 h2 h3], ⟨_, h4⟩⟩
theorem RD.dict_inv {kvs : List (PyData × PyData)} (r : RD W h v (.dict kvs)) : ∃ a es n, v = .ref a ∧ a ∉ W ∧ (a == sysModules) = false ∧ h.get? a = some { cls := .type "dict", data := .dict es n } ∧ RDs W h (es.toList.map (·.key)) (kvs.map (·.1)) ∧ RDs W h (es.toList.map (·.val)) (kvs.map (·.2)) := by
  obtain ⟨_, r⟩ := r
  cases r with
  | dict h1 h2 h3 h4 h5 =>
    obtain ⟨a1, a2, a3⟩ := hide_some.mp h1
    exact ⟨_, _, _, rfl, a1, plain_low a3 h3, by rw [a2, plain_dict a3 h2 h3], ⟨_, h4⟩, ⟨_, h5⟩⟩
theorem rd_isList {a : Addr} {vs : Array Value} (ha : a ∉ W) (hl : h.PlainList a vs) (r : RDs W h vs.toList ds) : RD W h (.ref a) (.list ds) :=
  let ⟨_, ho⟩ := hl; rd_list ha ho r
end

theorem RDs.ints {W : List Addr} {h : Heap} : ∀ {vs : List Value} {ns : List Int}, RDs W h vs (ns.map .int) → IntsAre vs ns
  | vs, [], r => by rw [r.nil_inv]; exact .nil
  | vs, n :: ns, r => by
    obtain ⟨v, vs', rfl, r1, r2⟩ := r.cons_inv
    obtain ⟨t, rfl⟩ := r1.int_inv
    exact .cons _ _ (RDs.ints r2)
theorem rds_ints {W : List Addr} {h : Heap} : ∀ {vs : List Value} {ns : List Int}, IntsAre vs ns → RDs W h vs (ns.map .int)
  | _, _, .nil => .nil
  | _, _, .cons _ _ r => .cons (rd_int _ _) (rds_ints r)

def Kps (s s' : Shared) : Prop := ∃ h' tk, s' = { s with heap := h', toks := tk } ∧ Ext s.heap h'
theorem Kps.refl (s : Shared) : Kps s s := ⟨s.heap, s.toks, rfl, fun _ _ e => e⟩
theorem Kps.trans {s s' s'' : Shared} (a : Kps s s') (b : Kps s' s'') : Kps s s'' := by
  obtain ⟨h, t, rfl, k⟩ := a
  obtain ⟨h', t', rfl, k'⟩ := b
  exact ⟨h', t', rfl, fun b o e => k' b o (k b o e)⟩
theorem Kps.ext {s s' : Shared} (a : Kps s s') : Ext s.heap s'.heap := by
  obtain ⟨h, t, rfl, k⟩ := a
  exact k
theorem Kps.mk' {s : Shared} {h : Heap} {t : Nat} (k : Ext s.heap h) : Kps s { s with heap := h, toks := t } := ⟨h, t, rfl, k⟩
theorem Kps.tok {s : Shared} {t : Nat} : Kps s { s with toks := t } := ⟨s.heap, t, rfl, fun _ _ e => e⟩
theorem ext_push {h : Heap} {o : Obj} : Ext h (h.push o) := fun _ _ e => Heap.get?_push_of_some o e
theorem ext_le {h h' : Heap} (hs : h.objs.size ≤ h'.objs.size) {W : List Addr} (hw : ∀ b ∈ W, b < h.objs.size) : ∀ b ∈ W, b < h'.objs.size := fun b hb => Nat.lt_of_lt_of_le (hw b hb) hs

/-- what a name may hold: data that is read without touching the hidden objects, or a value as it is -/
inductive PV where
  | dat (d : PyData)
  | val (v : Value)
def PVis (W : List Addr) (h : Heap) (v : Value) : PV → Prop
  | .dat d => RD W h v d
  | .val u => v = u
theorem PVis.kp {W W' : List Addr} {h h' : Heap} {v : Value} {p : PV} (k : Kp W h W' h') (r : PVis W h v p) : PVis W' h' v p := by
  cases p with
  | dat d => exact RD.kp k r
  | val u => exact r

def Own (sc : Scope) (env : Env) (b : Addr) : Prop := b = env.locals ∨ ∃ n, sc.names.lookup n = some .cell ∧ env.cells.lookup n = some b
def All (env : Env) (b : Addr) : Prop := b = env.locals ∨ ∃ n, env.cells.lookup n = some b
theorem Own.all {sc : Scope} {env : Env} {b : Addr} (h : Own sc env b) : All env b := h.imp id fun ⟨n, _, e⟩ => ⟨n, e⟩
def kindIs (e : Option NameKind) : NameKind → Prop
  | .free => e = some .cell ∨ e = some .free
  | k => e = some k

/-- a frame: its names, what they hold, and that nothing hidden is lost -/
structure Fs (H₀ : Heap) (sc : Scope) (ρ : List (Str × PV)) (env : Env) (W : List Addr) (h : Heap) : Prop where
  fn : env.scope.kind = .function
  hk : ∀ x k, sc.names.lookup x = some k → kindIs (env.kindOf x) k
  gl : env.globals = mainGlobals
  bi : env.builtins = builtinsNs
  top : Ext H₀ h
  al : ∀ b ∈ W, ∃ o, h.get? b = some o
  own : ∀ b, Own sc env b → b ∈ W
  new : ∀ b, Own sc env b → H₀.get? b = none
  dl : ∀ n, env.cells.lookup n ≠ some env.locals
  dc : ∀ n n' c, env.cells.lookup n = some c → env.cells.lookup n' = some c → n = n'
  ns : ∃ m, h.Ns env.locals m ∧ ∀ x p, ρ.lookup x = some p → sc.names.lookup x = some .local → ∃ v, m x = some v ∧ PVis W h v p
  cs : ∀ x c, env.cells.lookup x = some c → ∃ u, h.IsCell c u ∧ ∀ p, ρ.lookup x = some p → sc.names.lookup x ≠ some .local → ∃ v, u = some v ∧ PVis W h v p
  ck : ∀ x, sc.names.lookup x = some .cell → ∃ c, env.cells.lookup x = some c
  kd : ∀ x p, ρ.lookup x = some p → sc.names.lookup x = some .local ∨ ((sc.names.lookup x = some .cell ∨ sc.names.lookup x = some .free) ∧ ∃ c, env.cells.lookup x = some c)

section
variable {H₀ : Heap} {sc : Scope} {ρ : List (Str × PV)} {env : Env} {W : List Addr} {h h' : Heap}
theorem Fs.ext (F : Fs H₀ sc ρ env W h) (k : Ext h h') : Fs H₀ sc ρ env W h' where
  fn := F.fn
  hk := F.hk
  gl := F.gl
  bi := F.bi
  top := fun b o e => k b o (F.top b o e)
  al := fun b hb => let ⟨o, e⟩ := F.al b hb; ⟨o, k b o e⟩
  own := F.own
  new := F.new
  dl := F.dl
  dc := F.dc
  ns := let ⟨m, n, x⟩ := F.ns; ⟨m, n.keeps k, fun y p e l => let ⟨v, a, b⟩ := x y p e l; ⟨v, a, b.kp (Kp.of_ext k)⟩⟩
  cs := fun x c e => let ⟨u, i, y⟩ := F.cs x c e; ⟨u, i.keeps k, fun p l l' => let ⟨v, a, b⟩ := y p l l'; ⟨v, a, b.kp (Kp.of_ext k)⟩⟩
  ck := F.ck
  kd := F.kd
theorem Fs.keeps {s s' : Shared} (F : Fs H₀ sc ρ env W s.heap) (k : Kps s s') : Fs H₀ sc ρ env W s'.heap := F.ext k.ext
theorem Fs.move (F : Fs H₀ sc ρ env W h) {W' : List Addr} (k : Kp W h W' h') (ho : ∀ b o, All env b → h.get? b = some o → h'.get? b = some o) (ht : ∀ b o, H₀.get? b = some o → h'.get? b = some o) (hw : ∀ b, Own sc env b → b ∈ W') (ha : ∀ b ∈ W', ∃ o, h'.get? b = some o) :
    Fs H₀ sc ρ env W' h' where
  fn := F.fn
  hk := F.hk
  gl := F.gl
  bi := F.bi
  top := ht
  al := ha
  own := hw
  new := F.new
  dl := F.dl
  dc := F.dc
  ns := let ⟨m, ⟨o, es, ep, eo, r⟩, x⟩ := F.ns; ⟨m, ⟨o, es, ep, ho _ _ (.inl rfl) eo, r⟩, fun y p e l => let ⟨v, a, b⟩ := x y p e l; ⟨v, a, b.kp k⟩⟩
  cs := fun x c e => let ⟨u, ⟨o, eo, i⟩, y⟩ := F.cs x c e; ⟨u, ⟨o, ho _ _ (.inr ⟨x, e⟩) eo, i⟩, fun p l l' => let ⟨v, a, b⟩ := y p l l'; ⟨v, a, b.kp k⟩⟩
  ck := F.ck
  kd := F.kd
/-- fewer hidden objects; fewer names, or names told otherwise -/
theorem Fs.less {W' : List Addr} (F : Fs H₀ sc ρ env W h) (hs : ∀ b ∈ W', b ∈ W) (ho : ∀ b, Own sc env b → b ∈ W') : Fs H₀ sc ρ env W' h where
  fn := F.fn
  hk := F.hk
  gl := F.gl
  bi := F.bi
  top := F.top
  al := fun b hb => F.al b (hs b hb)
  own := ho
  new := F.new
  dl := F.dl
  dc := F.dc
  ns := let ⟨m, n, x⟩ := F.ns; ⟨m, n, fun y p e l => let ⟨v, a, b⟩ := x y p e l; ⟨v, a, b.kp (Kp.drop hs)⟩⟩
  cs := fun x c e => let ⟨u, i, y⟩ := F.cs x c e; ⟨u, i, fun p l l' => let ⟨v, a, b⟩ := y p l l'; ⟨v, a, b.kp (Kp.drop hs)⟩⟩
  ck := F.ck
  kd := F.kd
theorem Fs.names {ρ' : List (Str × PV)} (F : Fs H₀ sc ρ env W h) (hr : ∀ x p, ρ'.lookup x = some p → ∃ q, ρ.lookup x = some q ∧ ∀ v, PVis W h v q → PVis W h v p) : Fs H₀ sc ρ' env W h where
  fn := F.fn
  hk := F.hk
  gl := F.gl
  bi := F.bi
  top := F.top
  al := F.al
  own := F.own
  new := F.new
  dl := F.dl
  dc := F.dc
  ns := let ⟨m, n, x⟩ := F.ns; ⟨m, n, fun y p e l => let ⟨q, e', i⟩ := hr y p e; let ⟨v, a, b⟩ := x y q e' l; ⟨v, a, i v b⟩⟩
  cs := fun x c e => let ⟨u, i, y⟩ := F.cs x c e; ⟨u, i, fun p l l' => let ⟨q, e', j⟩ := hr x p l; let ⟨v, a, b⟩ := y q e' l'; ⟨v, a, j v b⟩⟩
  ck := F.ck
  kd := fun x p e => let ⟨q, e', _⟩ := hr x p e; F.kd x q e'
end

section
variable {M : Model} {A : Around} {E : Value → Shared → Prop} {s : Shared} {H₀ : Heap} {sc : Scope} {ρ : List (Str × PV)} {env : Env} {W : List Addr}
theorem load_fs {x : Str} {p : PV} {Q : Value → Shared → Prop} (F : Fs H₀ sc ρ env W s.heap) (hx : ρ.lookup x = some p) (h : ∀ v, PVis W s.heap v p → Q v s)
    (hd : (x == ("__classdict__" : Str)) = false) : wpAny M A (loadName env x) Q E s := by
  have hk := F.fn
  rcases F.kd x p hx with hl | ⟨hl, c, hc⟩
  · obtain ⟨m, n, y⟩ := F.ns
    obtain ⟨v, hv, pv⟩ := y x p hx hl
    exact wpAny_loadName_local hk (F.hk x _ hl) n hv (h v pv)
  · obtain ⟨u, i, y⟩ := F.cs x c hc
    obtain ⟨v, rfl, pv⟩ := y p hx (by rcases hl with hl | hl <;> rw [hl] <;> decide)
    have hl' : env.kindOf x = some .cell ∨ env.kindOf x = some .free := by
      rcases hl with hl | hl
      · exact .inl (F.hk x _ hl)
      · exact F.hk x _ hl
    rcases hl' with hl | hl
    · exact wpAny_loadName_cell hk hl hc i (h v pv)
    · exact wpAny_loadName_free hk hl hc i (h v pv) hd

def updρ (ρ : List (Str × PV)) (x : Str) (p : PV) : List (Str × PV) := (x, p) :: ρ

theorem store_fs {x : Str} {p : PV} {v : Value} {Q : Unit → Shared → Prop} (F : Fs H₀ sc ρ env W s.heap) (hx : sc.names.lookup x = some .local ∨ sc.names.lookup x = some .cell) (hp : PVis W s.heap v p)
    (h : ∀ h' tk, Fs H₀ sc ((x, p) :: ρ) env W h' → (∀ b, ¬ Own sc env b → h'.get? b = s.heap.get? b) → Q () { s with heap := h', toks := tk }) : wpAny M A (storeName env x v) Q E s := by
  have hk := F.fn
  have low : ∀ {h' : Heap} {a : Addr}, Own sc env a → Heap.SameBut a s.heap h' → (∃ o, h'.get? a = some o) → ∀ b ∈ W, ∃ o, h'.get? b = some o := fun {h' a} ha hs hn' b hb => by
    by_cases e : b = a
    · subst e; exact hn'
    · obtain ⟨o, eo⟩ := F.al b hb; exact ⟨o, (hs.2 b e).trans eo⟩
  have kp : ∀ {h' : Heap} {a : Addr}, Own sc env a → Heap.SameBut a s.heap h' → Kp W s.heap W h' := fun {h' a} ha hs b o hb e => ⟨hb, (hs.2 b fun q => hb (q ▸ F.own a ha)).trans e⟩
  have tp : ∀ {h' : Heap} {a : Addr}, Own sc env a → Heap.SameBut a s.heap h' → Ext H₀ h' := fun {h' a} ha hs b o e => (hs.2 b fun q => by
    have := F.new a ha; rw [← q, e] at this; cases this).trans (F.top b o e)
  rcases hx with hl | hl
  · obtain ⟨m, n, y⟩ := F.ns
    have hL : Own sc env env.locals := .inl rfl
    refine wpAny_storeName_local (F.hk x _ hl) n (fun h' n' hs => h h' _ ?_ fun b hb => hs.2 b fun q => hb (.inl q)) (by rw [hk]; rfl)
    refine ⟨F.fn, F.hk, F.gl, F.bi, tp hL hs, low hL hs (let ⟨o, _, _, e, _⟩ := n'; ⟨o, e⟩), F.own, F.new, F.dl, F.dc, ⟨_, n', fun z q e l => ?_⟩, fun z c e => ?_, F.ck, fun z q e => ?_⟩
    · by_cases hz : z = x
      · subst hz
        rw [List.lookup_cons, beq_self_eq_true] at e
        cases e
        exact ⟨v, if_pos rfl, hp.kp (kp hL hs)⟩
      · rw [List.lookup_cons, beq_eq_false_iff_ne.mpr hz] at e
        obtain ⟨u, a, b⟩ := y z q e l
        exact ⟨u, by simp only [if_neg hz]; exact a, b.kp (kp hL hs)⟩
    · obtain ⟨u, i, j⟩ := F.cs z c e
      have hne : c ≠ env.locals := fun q => F.dl z (q ▸ e)
      refine ⟨u, i.sameBut hs hne, fun q l l' => ?_⟩
      by_cases hz : z = x
      · subst hz; exact absurd hl l'
      · rw [List.lookup_cons, beq_eq_false_iff_ne.mpr hz] at l
        obtain ⟨v', a, b⟩ := j q l l'
        exact ⟨v', a, b.kp (kp hL hs)⟩
    · by_cases hz : z = x
      · subst hz; exact .inl hl
      · rw [List.lookup_cons, beq_eq_false_iff_ne.mpr hz] at e
        exact F.kd z q e
  · obtain ⟨c, hc⟩ := F.ck x hl
    obtain ⟨u₀, i₀, _⟩ := F.cs x c hc
    have hC : Own sc env c := .inr ⟨x, hl, hc⟩
    refine wpAny_storeName_cell hk (F.hk x _ hl) hc i₀ fun h' i' hs => h h' _ ?_ fun b hb => hs.2 b fun q => hb (q ▸ hC)
    refine ⟨F.fn, F.hk, F.gl, F.bi, tp hC hs, low hC hs (let ⟨o, e, _⟩ := i'; ⟨o, e⟩), F.own, F.new, F.dl, F.dc, ?_, fun z c' e => ?_, F.ck, fun z q e => ?_⟩
    · obtain ⟨m, n, y⟩ := F.ns
      have hne : env.locals ≠ c := fun q => F.dl x (q ▸ hc)
      refine ⟨m, n.sameBut hs hne, fun z q e l => ?_⟩
      by_cases hz : z = x
      · subst hz; rw [hl] at l; cases l
      · rw [List.lookup_cons, beq_eq_false_iff_ne.mpr hz] at e
        obtain ⟨v', a, b⟩ := y z q e l
        exact ⟨v', a, b.kp (kp hC hs)⟩
    · by_cases hz : z = x
      · subst hz
        obtain rfl : c = c' := Option.some.inj (hc.symm.trans e)
        refine ⟨some v, i', fun q l l' => ⟨v, rfl, ?_⟩⟩
        rw [List.lookup_cons, beq_self_eq_true] at l
        cases l
        exact hp.kp (kp hC hs)
      · obtain ⟨u, i, j⟩ := F.cs z c' e
        refine ⟨u, i.sameBut hs fun q => hz (F.dc z x c (q ▸ e) hc), fun q l l' => ?_⟩
        rw [List.lookup_cons, beq_eq_false_iff_ne.mpr hz] at l
        obtain ⟨v', a, b⟩ := j q l l'
        exact ⟨v', a, b.kp (kp hC hs)⟩
    · by_cases hz : z = x
      · subst hz; exact .inr ⟨.inl hl, c, hc⟩
      · rw [List.lookup_cons, beq_eq_false_iff_ne.mpr hz] at e
        exact F.kd z q e
end

end Mine
end

-- Ev
section
open PySem PySem.Calls PySem.Spec PyProof.Rows
namespace Mine

structure Wo where
  prog : Program
  w : World
  A : Around
  H : Heap

/-- room for k frames more -/
def Rm (k : Nat) (A : Around) : Prop := A.handled = none ∧ A.units + 3 * k + 200 < cLine ∧ A.depth + k < recursionLimit

abbrev Nm := List (Str × PV)

def Ev (Z : Wo) (sc : Scope) (ρ : Nm) (e : Expr) (d : PyData) : Prop :=
  ∀ (env : Env) (W : List Addr) (s : Shared) (Q : Value → Shared → Prop) (E : Value → Shared → Prop), Fs Z.H sc ρ env W s.heap →
    (∀ v s', Kps s s' → RD W s'.heap v d → Q v s') → wpAny (model Z.prog Z.w) Z.A (eval e env) Q E s
def EvL (Z : Wo) (sc : Scope) (ρ : Nm) (es : List Expr) (ds : List PyData) : Prop :=
  ∀ (env : Env) (W : List Addr) (pos : Pos) (s : Shared) (Q : List Value → Shared → Prop) (E : Value → Shared → Prop), Fs Z.H sc ρ env W s.heap →
    (∀ vs s', Kps s s' → RDs W s'.heap vs ds → Q vs s') → wpAny (model Z.prog Z.w) Z.A (spliced (backTo pos (starEach es env))) Q E s
def EvT (Z : Wo) (sc : Scope) (ρ : Nm) (e : Expr) (b : Bool) : Prop :=
  ∀ (env : Env) (W : List Addr) (s : Shared) (Q : Bool → Shared → Prop) (E : Value → Shared → Prop), Fs Z.H sc ρ env W s.heap →
    (∀ s', Kps s s' → Q b s') → wpAny (model Z.prog Z.w) Z.A (isTrue e env (eval e env)) Q E s

section
variable {Z : Wo} {sc : Scope} {ρ : Nm}

theorem Ev.name {x : Str} {pos : Pos} {d : PyData} (hx : ρ.lookup x = some (.dat d)) (hd : (x == ("__debug__" : Str)) = false := by rfl) (hc : (x == ("__classdict__" : Str)) = false := by rfl) :
    Ev Z sc ρ (.Name x pos) d := fun env W s Q E F h => wpAny_Name (load_fs F hx (fun v r => h v s (Kps.refl s) r) hc) hd
theorem Ev.int (i : Int) (k : Nat) (pos : Pos) : Ev Z sc ρ (.Constant (.int i) k pos) (.int i) := fun env W s Q E F h => wpAny_Constant_int (h _ _ Kps.tok (rd_int _ _))
theorem Ev.str (x : Str) (k : Nat) (pos : Pos) : Ev Z sc ρ (.Constant (.str x) k pos) (.str x) := fun env W s Q E F h => Constant_str (h _ _ Kps.tok (rd_str _ _))
theorem Ev.bool (b : Bool) (k : Nat) (pos : Pos) : Ev Z sc ρ (.Constant (.bool b) k pos) (.bool b) := fun env W s Q E F h => fun _ _ _ => h _ _ (Kps.refl s) (rd_bool _)
theorem Ev.none (k : Nat) (pos : Pos) : Ev Z sc ρ (.Constant .none k pos) .none := fun env W s Q E F h => fun _ _ _ => h _ _ (Kps.refl s) rd_none

theorem EvL.nil : EvL Z sc ρ [] [] := fun env W pos s Q E F h => spliced_nil (h _ _ (Kps.refl s) .nil)
theorem EvL.cons {e : Expr} {es : List Expr} {d : PyData} {ds : List PyData} (h1 : Ev Z sc ρ e d) (h2 : EvL Z sc ρ es ds) (hs : ∀ env, starEach (e :: es) env = (false, eval e env) :: starEach es env := by intro _; rfl) :
    EvL Z sc ρ (e :: es) (d :: ds) := fun env W pos s Q E F h => by
  rw [hs]
  show wpAny _ _ (spliced ((false, eval e env) :: backTo pos (starEach es env))) _ _ _
  exact spliced_cons (h1 env W s _ E F fun v s₁ k₁ r₁ => h2 env W pos s₁ _ E (F.keeps k₁) fun vs s₂ k₂ r₂ => h _ _ (k₁.trans k₂) (.cons (r₁.ext k₂.ext) r₂))

theorem new_seq {W : List Addr} {s : Shared} {vs : List Value} {ds : List PyData} {c : String} (al : ∀ b ∈ W, ∃ o, s.heap.get? b = some o) (r : RDs W s.heap vs ds) :
    s.heap.objs.size ∉ W ∧ (s.heap.push { cls := .type c, data := .seq vs.toArray }).get? s.heap.objs.size = some { cls := .type c, data := .seq vs.toArray } ∧
    RDs W (s.heap.push { cls := .type c, data := .seq vs.toArray }) vs.toArray.toList ds :=
  ⟨fun hb => by obtain ⟨o, e⟩ := al _ hb; exact Nat.lt_irrefl _ (Heap.lt_size e), Heap.get?_push_size _ rfl, by rw [List.toList_toArray]; exact r.ext ext_push⟩

theorem newList_rd {M : Model} {A : Around} {E : Value → Shared → Prop} {W : List Addr} {s : Shared} {vs : List Value} {ds : List PyData} {Q : Value → Shared → Prop} (al : ∀ b ∈ W, ∃ o, s.heap.get? b = some o) (r : RDs W s.heap vs ds)
    (hsz : ds.length ≤ sizeLine) (h : Kps s { s with heap := s.heap.push { cls := .type "list", data := .seq vs.toArray } } → RD W (s.heap.push { cls := .type "list", data := .seq vs.toArray }) (.ref s.heap.objs.size) (.list ds) →
      Q (.ref s.heap.objs.size) { s with heap := s.heap.push { cls := .type "list", data := .seq vs.toArray } }) : wpAny M A (newList vs) Q E s := by
  obtain ⟨a, b, c⟩ := new_seq (c := "list") al r
  exact wpAny_newObj_type (h (Kps.mk' ext_push) (rd_list a b c)) (by show vs.toArray.size ≤ sizeLine; rw [List.size_toArray, r.length]; exact hsz)
theorem newTuple_rd {M : Model} {A : Around} {E : Value → Shared → Prop} {W : List Addr} {s : Shared} {vs : List Value} {ds : List PyData} {Q : Value → Shared → Prop} (al : ∀ b ∈ W, ∃ o, s.heap.get? b = some o) (r : RDs W s.heap vs ds)
    (hsz : ds.length ≤ sizeLine) (h : Kps s { s with heap := s.heap.push { cls := .type "tuple", data := .seq vs.toArray } } → RD W (s.heap.push { cls := .type "tuple", data := .seq vs.toArray }) (.ref s.heap.objs.size) (.tuple ds) →
      Q (.ref s.heap.objs.size) { s with heap := s.heap.push { cls := .type "tuple", data := .seq vs.toArray } }) : wpAny M A (newTuple vs) Q E s := by
  obtain ⟨a, b, c⟩ := new_seq (c := "tuple") al r
  exact wpAny_newObj_type (h (Kps.mk' ext_push) (rd_tuple a b c)) (by show vs.toArray.size ≤ sizeLine; rw [List.size_toArray, r.length]; exact hsz)

theorem Ev.list {es : List Expr} {ds : List PyData} {pos : Pos} (h : EvL Z sc ρ es ds) (hsz : ds.length ≤ sizeLine) : Ev Z sc ρ (.List es pos) (.list ds) := fun env W s Q E F hQ =>
  List_ (h env W pos s _ E F fun vs s₁ k₁ r₁ => newList_rd (F.keeps k₁).al r₁ hsz fun k₂ r₂ => hQ _ _ (k₁.trans k₂) r₂)
theorem Ev.tuple {es : List Expr} {ds : List PyData} {k : Nat} {pos : Pos} (h : EvL Z sc ρ es ds) (hsz : ds.length ≤ sizeLine) : Ev Z sc ρ (.Tuple es k pos) (.tuple ds) := fun env W s Q E F hQ =>
  Tuple_ (h env W pos s _ E F fun vs s₁ k₁ r₁ => newTuple_rd (F.keeps k₁).al r₁ hsz fun k₂ r₂ => hQ _ _ (k₁.trans k₂) r₂)

/-- what an operation on data gives -/
def OpJ (Z : Wo) (t : Value → Value → Sem Value) (a b d : PyData) : Prop :=
  ∀ (W : List Addr) (s : Shared) (u v : Value) (Q : Value → Shared → Prop) (E : Value → Shared → Prop), (∀ b ∈ W, ∃ o, s.heap.get? b = some o) → RD W s.heap u a → RD W s.heap v b →
    (∀ x s', Kps s s' → RD W s'.heap x d → Q x s') → wpAny (model Z.prog Z.w) Z.A (t u v) Q E s

theorem Ev.cmp {l r : Expr} {op : CmpOp} {pos : Pos} {a b d : PyData} (h1 : Ev Z sc ρ l a) (h2 : Ev Z sc ρ r b) (ho : OpJ Z (compareOp op) a b d) (hm : behindInMarks op r = false := by with_unfolding_all rfl) :
    Ev Z sc ρ (.Compare l [op] [r] pos) d := fun env W s Q E F h =>
  wpAny_Compare1 (h1 env W s _ E F fun u s₁ k₁ r₁ => h2 env W s₁ _ E (F.keeps k₁) fun v s₂ k₂ r₂ => ho W s₂ u v _ E ((F.keeps k₁).keeps k₂).al (r₁.ext k₂.ext) r₂ fun x s₃ k₃ r₃ => h _ _ ((k₁.trans k₂).trans k₃) r₃) hm
theorem EvT.cmp {l r : Expr} {op : CmpOp} {pos : Pos} {a b : PyData} {c : Bool} (h1 : Ev Z sc ρ l a) (h2 : Ev Z sc ρ r b) (ho : OpJ Z (compareOp op) a b (.bool c)) (hm : behindInMarks op r = false := by with_unfolding_all rfl) :
    EvT Z sc ρ (.Compare l [op] [r] pos) c := fun env W s Q E F h =>
  wpAny_isTrue_Compare1 (h1 env W s _ E F fun u s₁ k₁ r₁ => h2 env W s₁ _ E (F.keeps k₁) fun v s₂ k₂ r₂ => ho W s₂ u v _ E ((F.keeps k₁).keeps k₂).al (r₁.ext k₂.ext) r₂ fun x s₃ k₃ r₃ => by
    rw [r₃.bool_inv]; exact wpAny_truthy_bool (h _ ((k₁.trans k₂).trans k₃))) hm
theorem Ev.bin {l r : Expr} {op : Operator} {pos : Pos} {a b d : PyData} (h1 : Ev Z sc ρ l a) (h2 : Ev Z sc ρ r b) (ho : OpJ Z (binaryOp op) a b d) : Ev Z sc ρ (.BinOp l op r pos) d := fun env W s Q E F h =>
  wpAny_BinOp (h1 env W s _ E F fun u s₁ k₁ r₁ => h2 env W s₁ _ E (F.keeps k₁) fun v s₂ k₂ r₂ => ho W s₂ u v _ E ((F.keeps k₁).keeps k₂).al (r₁.ext k₂.ext) r₂ fun x s₃ k₃ r₃ => h _ _ ((k₁.trans k₂).trans k₃) r₃)

theorem OpJ.eq {a b : PyData} (rm : Rm 0 Z.A) (ha : SeqAt.shaped a = true) (hb : SeqAt.shaped b = true) : OpJ Z (compareOp .Eq) a b (.bool (PyData.eqv a b)) := fun W s u v Q E _ ru rv h => by
  obtain ⟨_, ru⟩ := ru.plain
  obtain ⟨_, rv⟩ := rv.plain
  exact eq_dataH ru rv ha hb (by have := rm.2.1; omega) (h _ _ (Kps.refl s) (rd_bool _))
theorem OpJ.ne {a b : PyData} (rm : Rm 0 Z.A) (ha : SeqAt.shaped a = true) (hb : SeqAt.shaped b = true) : OpJ Z (compareOp .NotEq) a b (.bool (!PyData.eqv a b)) := fun W s u v Q E _ ru rv h => by
  obtain ⟨_, ru⟩ := ru.plain
  obtain ⟨_, rv⟩ := rv.plain
  exact ne_dataH ru rv ha hb (by have := rm.2.1; omega) (h _ _ (Kps.refl s) (rd_bool _))
theorem OpJ.isIn {a : PyData} {xs : List PyData} (rm : Rm 0 Z.A) (ha : SeqAt.shaped a = true) (hb : PyData.canLayAll0 xs = true) : OpJ Z (compareOp .In) a (.list xs) (.bool (xs.any fun y => PyData.eqv y a)) := fun W s u v Q E _ ru rv h => by
  obtain ⟨_, ru⟩ := ru.plain
  obtain ⟨_, rv⟩ := rv.plain
  exact SeqAt.in_list_reads rv ru hb (SeqAt.canLay_of_shaped ha) (room_in_shaped ha (by have := rm.2.1; omega)) (h _ _ (Kps.refl s) (rd_bool _))
theorem OpJ.notIn {a : PyData} {xs : List PyData} (rm : Rm 0 Z.A) (ha : SeqAt.shaped a = true) (hb : PyData.canLayAll0 xs = true) : OpJ Z (compareOp .NotIn) a (.list xs) (.bool (!xs.any fun y => PyData.eqv y a)) := fun W s u v Q E _ ru rv h => by
  obtain ⟨_, ru⟩ := ru.plain
  obtain ⟨_, rv⟩ := rv.plain
  exact SeqAt.notIn_list_reads rv ru hb (SeqAt.canLay_of_shaped ha) (room_in_shaped ha (by have := rm.2.1; omega)) (h _ _ (Kps.refl s) (rd_bool _))

theorem EvT.and2 {a b : Expr} {pos : Pos} {x y : Bool} (h1 : EvT Z sc ρ a x) (h2 : x = true → EvT Z sc ρ b y) : EvT Z sc ρ (.BoolOp .And [a, b] pos) (x && y) := fun env W s Q E F h => by
  refine isTrue_and (h1 env W s _ E F fun s₁ k₁ => ?_)
  cases x with
  | false => exact h _ k₁
  | true =>
    refine isTrue_and (h2 rfl env W s₁ _ E (F.keeps k₁) fun s₂ k₂ => ?_)
    cases y with
    | false => exact h _ (k₁.trans k₂)
    | true => exact isTrue_and_nil (h _ (k₁.trans k₂))
theorem EvT.or2 {a b : Expr} {pos : Pos} {x y : Bool} (h1 : EvT Z sc ρ a x) (h2 : x = false → EvT Z sc ρ b y) : EvT Z sc ρ (.BoolOp .Or [a, b] pos) (x || y) := fun env W s Q E F h => by
  refine isTrue_or (h1 env W s _ E F fun s₁ k₁ => ?_)
  cases x with
  | true => exact h _ k₁
  | false =>
    refine isTrue_or (h2 rfl env W s₁ _ E (F.keeps k₁) fun s₂ k₂ => ?_)
    cases y with
    | true => exact h _ (k₁.trans k₂)
    | false => exact isTrue_or_nil (h _ (k₁.trans k₂))
theorem EvT.bool {e : Expr} {b : Bool} (h1 : Ev Z sc ρ e (.bool b)) (he : ∀ env whole, isTrue e env whole = (do let v ← whole; standAt e.pos; holding [v] (truthy v)) := by intro _ _; rfl) : EvT Z sc ρ e b := fun env W s Q E F h =>
  isTrue_plain (h1 env W s _ E F fun v s₁ k₁ r₁ => by rw [r₁.bool_inv]; exact wpAny_truthy_bool (h _ k₁)) (he env _)
theorem Ev.ite {t a b : Expr} {pos : Pos} {c : Bool} {d : PyData} (h1 : EvT Z sc ρ t c) (h2 : c = true → Ev Z sc ρ a d) (h3 : c = false → Ev Z sc ρ b d) : Ev Z sc ρ (.IfExp t a b pos) d := fun env W s Q E F h =>
  wpAny_IfExp (h1 env W s _ E F fun s₁ k₁ => by
    cases c with
    | true => exact h2 rfl env W s₁ _ E (F.keeps k₁) fun v s₂ k₂ r => h _ _ (k₁.trans k₂) r
    | false => exact h3 rfl env W s₁ _ E (F.keeps k₁) fun v s₂ k₂ r => h _ _ (k₁.trans k₂) r)

/-- subscripts -/
theorem Ev.sub {v i : Expr} {pos : Pos} {a b d : PyData} (h1 : Ev Z sc ρ v a) (h2 : Ev Z sc ρ i b) (ho : OpJ Z (subscriptTail v i) a b d) : Ev Z sc ρ (.Subscript v i pos) d := fun env W s Q E F h => by
  refine Subscript_ (h1 env W s _ E F fun x s₁ k₁ r₁ => h2 env W s₁ _ E (F.keeps k₁) fun y s₂ k₂ r₂ => ho W s₂ x y _ E ((F.keeps k₁).keeps k₂).al (r₁.ext k₂.ext) r₂ fun z s₃ k₃ r₃ => h _ _ ((k₁.trans k₂).trans k₃) r₃)

/-- calls -/
def GV (H : Heap) (x : Str) (v : Value) : Prop := ∃ mg mb, H.Ns mainGlobals mg ∧ H.Ns builtinsNs mb ∧ (mg x = some v ∨ (mg x = Option.none ∧ mb x = some v))
inductive Callee (H : Heap) : Value → Prop
  | fn (a : Addr) (o : Obj) (fd : FuncData) : H.get? a = some o → o.data = .func fd → Callee H (.ref a)
  | bi (id : String) : Callee H (.builtin id)
  | ty (T : String) : Callee H (.type T)
def CallOK (Z : Wo) (fv : Value) (ds : List PyData) (d : PyData) : Prop :=
  ∀ (W : List Addr) (s : Shared) (vs : List Value) (Q : Value → Shared → Prop) (E : Value → Shared → Prop), Ext Z.H s.heap → (∀ b ∈ W, ∃ o, s.heap.get? b = some o) → RDs W s.heap vs ds →
    (∀ v s', Kps s s' → RD W s'.heap v d → Q v s') → wpAny (model Z.prog Z.w) Z.A (call fv vs) Q E s

theorem load_gv {M : Model} {A : Around} {E : Value → Shared → Prop} {s : Shared} {H₀ : Heap} {env : Env} {W : List Addr} {x : Str} {pos : Pos} {v : Value} {Q : Value → Shared → Prop} (F : Fs H₀ sc ρ env W s.heap)
    (g : GV H₀ x v) (hk : sc.names.lookup x = some .globalImplicit) (h : Q v s) (hd : (x == ("__debug__" : Str)) = false := by rfl) : wpAny M A (eval (.Name x pos) env) Q E s := by
  obtain ⟨mg, mb, n1, n2, g⟩ := g
  have e1 := F.gl
  have e2 := F.bi
  refine Name_function_global F.fn (F.hk x _ hk) ?_ hd
  rcases g with g | ⟨g, g'⟩
  · exact loadGlobal_global (by rw [e1]; exact n1.keeps F.top) g h
  · exact loadGlobal_builtin (by rw [e1]; exact n1.keeps F.top) g (by rw [e2]; exact n2.keeps F.top) g' h

theorem call_with {fv : Value} {pos : Pos} {e : Expr} {es : List Expr} {env : Env} {s : Shared} {Q : Value → Shared → Prop} {E : Value → Shared → Prop} (hc : Callee Z.H fv) (top : Ext Z.H s.heap)
    (h : wpAny (model Z.prog Z.w) Z.A (spliced (backTo pos (starEach (e :: es) env))) (fun vs s₁ => Ext s.heap s₁.heap ∧ wpAny (model Z.prog Z.w) Z.A (call fv vs) Q E s₁) E s)
    (hs : starEach (e :: es) env = (false, eval e env) :: starEach es env) (hp : (backTo pos (starEach es env)).any (·.1) = false) :
    wpAny (model Z.prog Z.w) Z.A (callWith pos fv [] (backTo pos (starEach (e :: es) env)) []) Q E s := by
  rw [hs] at h ⊢
  have hp' : (backTo pos ((false, eval e env) :: starEach es env)).any (·.1) = false := by show (false || (backTo pos (starEach es env)).any (·.1)) = false; rw [hp]; rfl
  cases hc with
  | fn a o fd h1 h2 => exact callWith_function (o := o) (fd := fd) (evalArgs_plain (wpAny_mono h (fun vs s₁ x => ⟨⟨x.1 _ _ (top _ _ h1), h2⟩, x.2⟩) fun _ _ x => x))
  | bi id => exact callWith_builtin hp' (evalArgs_plain (wpAny_mono h (fun vs s₁ x => x.2) fun _ _ x => x))
  | ty T => exact PyProof.Rows.callWith_type hp' (evalArgs_plain (wpAny_mono h (fun vs s₁ x => x.2) fun _ _ x => x))

theorem Ev.call {f : Str} {np pos : Pos} {e : Expr} {es : List Expr} {fv : Value} {ds : List PyData} {d : PyData} (g : GV Z.H f fv) (hk : sc.names.lookup f = some .globalImplicit) (hc : Callee Z.H fv)
    (ha : EvL Z sc ρ (e :: es) ds) (hf : CallOK Z fv ds d) (hs : ∀ env, starEach (e :: es) env = (false, eval e env) :: starEach es env := by intro _; rfl)
    (hp : ∀ env pos, (backTo pos (starEach es env)).any (·.1) = false := by intro _ _; rfl) (hd : (f == ("__debug__" : Str)) = false := by rfl) : Ev Z sc ρ (.Call (.Name f np) (e :: es) [] pos) d := fun env W s Q E F h =>
  Call_Name rfl (load_gv F g hk (call_with hc F.top (ha env W pos s _ E F fun vs s₁ k₁ r₁ => ⟨k₁.ext, hf W s₁ vs _ E (F.keeps k₁).top (F.keeps k₁).al r₁ fun v s₂ k₂ r₂ => h _ _ (k₁.trans k₂) r₂⟩) (hs env) (hp env pos)) hd)
end
end Mine
end

-- Comp1
section
open PySem PySem.Calls PySem.Spec PyProof.Rows
namespace Mine

def ownedTuples : List String := ["enumerate", "zip", "dict_itemiterator", "dict_reverseitemiterator", "odict_iterator", "itertools.zip_longest", "itertools.pairwise"]

/-- an iterator object that is to give the data ds -/
structure It (Z : Wo) (W : List Addr) (h : Heap) (I : Addr) (ds : List PyData) : Prop where
  ex : ∃ (fp : List Addr) (P : Nat → Value → Prop) (St : Nat → Heap → Prop), Walks Z.prog Z.w Z.A I fp [I] ds.length P St ∧ St 0 h ∧ (∀ b ∈ fp, b = I ∨ (b ∉ W ∧ ∃ o, h.get? b = some o)) ∧
    (∀ i v d, P i v → ds[i]? = some d → RD (I :: W) h v d) ∧ (∀ i h, St i h → ∃ o T, h.get? I = some o ∧ o.cls = .type T ∧ ownedTuples.contains T = false)
  nw : I ∉ W

def EvI (Z : Wo) (sc : Scope) (ρ : Nm) (e : Expr) (ds : List PyData) : Prop :=
  ∀ (env : Env) (W : List Addr) (s : Shared) (Q : Value → Shared → Prop) (E : Value → Shared → Prop), Fs Z.H sc ρ env W s.heap →
    (∀ I s', Kps s s' → s.heap.get? I = none → It Z W s'.heap I ds → Q (.ref I) s') → wpAny (model Z.prog Z.w) Z.A (eval e env) (fun x s₁ => wpAny (model Z.prog Z.w) Z.A (pyIter x) Q E s₁) E s

theorem isListIter_al {h : Heap} {I l : Addr} {i : Nat} (x : h.IsListIter I l i) : ∃ o T, h.get? I = some o ∧ o.cls = .type T ∧ ownedTuples.contains T = false := by
  obtain ⟨o, e, c, _⟩ := x
  exact ⟨o, _, e, c, by decide⟩

section
variable {Z : Wo} {sc : Scope} {ρ : Nm}

theorem iter_list (rm : Rm 0 Z.A) {W : List Addr} {s : Shared} {v : Value} {ds : List PyData} {Q : Value → Shared → Prop} {E : Value → Shared → Prop} (al : ∀ b ∈ W, ∃ o, s.heap.get? b = some o) (r : RD W s.heap v (.list ds))
    (h : ∀ I s', Kps s s' → s.heap.get? I = none → It Z W s'.heap I ds → Q (.ref I) s') : wpAny (model Z.prog Z.w) Z.A (pyIter v) Q E s := by
  obtain ⟨a, vs, rfl, ha, hl, rs⟩ := r.list_inv
  have hl' := hl
  replace hl := hl.isList
  obtain ⟨o, ho, _⟩ := id hl
  have hne : a ≠ s.heap.objs.size := Nat.ne_of_lt (Heap.lt_size ho)
  have hnw : s.heap.objs.size ∉ W := fun hb => by obtain ⟨o, e⟩ := al _ hb; exact Nat.lt_irrefl _ (Heap.lt_size e)
  have hlen : vs.size = ds.length := by rw [← rs.length]; simp
  have Wk : Walks Z.prog Z.w Z.A s.heap.objs.size [s.heap.objs.size, a] [s.heap.objs.size] ds.length (fun i v => vs[i]? = some v) (fun i h => h.IsListIter s.heap.objs.size a i ∧ h.IsList a vs) :=
    hlen ▸ Walks.list rm.1 _ a hne vs
  refine wpAny_pyIter_list hl (h s.heap.objs.size _ (Kps.mk' ext_push) (none_of_size (Nat.le_refl _)) ⟨⟨_, _, _, Wk, ⟨⟨_, Heap.get?_push_size _ rfl, rfl, rfl⟩, hl.push _⟩, ?_, ?_, fun i h x => isListIter_al x.1⟩, hnw⟩)
  · intro b hb
    rcases List.mem_cons.mp hb with rfl | hb
    · exact .inl rfl
    · rcases List.mem_cons.mp hb with rfl | hb
      · exact .inr ⟨ha, o, Heap.get?_push_of_some _ ho⟩
      · cases hb
  · intro i v d e ed
    obtain ⟨d', e', r⟩ := rs.get i v (by simpa using e)
    obtain rfl : d' = d := Option.some.inj (e'.symm.trans ed)
    refine r.kp fun b o hb eb => ⟨fun hm => ?_, Heap.get?_push_of_some _ eb⟩
    rcases List.mem_cons.mp hm with rfl | hm
    · exact Nat.lt_irrefl _ (Heap.lt_size eb)
    · exact hb hm

theorem EvI.list (rm : Rm 0 Z.A) {e : Expr} {ds : List PyData} (h : Ev Z sc ρ e (.list ds)) : EvI Z sc ρ e ds := fun env W s Q E F hQ =>
  h env W s _ E F fun v s₁ k₁ r₁ => iter_list rm (F.keeps k₁).al r₁ fun I s₂ k₂ hI it => hQ I s₂ (k₁.trans k₂) (ext_size k₁.ext hI) it

def upto (n : Nat) : List PyData := (List.range n).map fun i => .int (Int.ofNat i)

theorem iter_range (rm : Rm 0 Z.A) {W : List Addr} {s : Shared} {n : Nat} {t : Tok} {Q : Value → Shared → Prop} {E : Value → Shared → Prop} (al : ∀ b ∈ W, ∃ o, s.heap.get? b = some o) (hn : n < 1000)
    (h : ∀ I s', Kps s s' → s.heap.get? I = none → It Z W s'.heap I (upto n) → Q (.ref I) s') : wpAny (model Z.prog Z.w) Z.A (call (.type "range") [.int n t]) (fun x s₁ => wpAny (model Z.prog Z.w) Z.A (pyIter x) Q E s₁) E s := by
  have h1 : Builtin.Range.rangeSize 0 (n : Int) 1 = n := by
    unfold Builtin.Range.rangeSize
    simp
    omega
  refine call_range_1 (wpAny_pyIter_range (a := 0) (b := n) (c := 1) (Heap.get?_push_size _ rfl) ?_ ?_)
  · unfold Builtin.Range.small
    rw [h1]
    unfold Builtin.Range.rangeFitsLong
    simp
    omega
  · rw [h1]
    generalize hP : s.heap.push { cls := Value.type "range", data := Data.fields #[Value.int 0 s.toks, Value.int (↑n) t, Value.int 1 (s.toks + 1)] } = H
    have hx : Ext s.heap H := hP ▸ ext_push
    have hsz : H.objs.size = s.heap.objs.size + 1 := by rw [← hP, Heap.size_push]
    have hl : (upto n).length = n := by simp [upto]
    have Wk : Walks Z.prog Z.w Z.A H.objs.size [H.objs.size] [H.objs.size] (upto n).length (fun i v => ∃ t, v = .int ((0 : Int) + (i : Int) * 1) t)
        (fun i h => IsRangeIter h H.objs.size ((0 : Int) + (i : Nat) * 1) ((n : Int) - (i : Nat)) 1) := by rw [hl]; exact Walks.range rm.1 H.objs.size 0 1 n
    refine h H.objs.size _ (Kps.mk' fun b o e => Heap.get?_push_of_some _ (hx b o e)) (none_of_size (by omega)) ⟨⟨_, _, _, Wk, ?_, ?_, ?_, ?_⟩, ?_⟩
    · show IsRangeIter (H.push _) H.objs.size _ _ _
      have := Heap.get?_push_size H (o := { cls := .type "range_iterator", data := .fields #[rawInt 0, rawInt n, rawInt 1] }) rfl
      simpa [IsRangeIter] using this
    · intro b hb; exact .inl (by simpa using hb)
    · rintro i v d ⟨t, rfl⟩ ed
      obtain ⟨hi, rfl⟩ : i < n ∧ d = .int (Int.ofNat i) := by
        unfold upto at ed
        rw [List.getElem?_map] at ed
        by_cases hi : i < n
        · rw [List.getElem?_range hi] at ed
          exact ⟨hi, (Option.some.inj ed).symm⟩
        · rw [List.getElem?_eq_none (by simpa using hi)] at ed; cases ed
      have e : (0 : Int) + (i : Int) * 1 = Int.ofNat i := by simp
      rw [e]
      exact rd_int _ _
    · rintro i h x; exact ⟨_, _, x, rfl, by decide⟩
    · intro hb
      obtain ⟨o, e⟩ := al _ hb
      have hlt : (H.objs.size : Nat) < s.heap.objs.size := Heap.lt_size e
      omega
end
end Mine
end

-- Comp2
section
open PySem PySem.Calls PySem.Spec PyProof.Rows
namespace Mine

def TgJ (Z : Wo) (sc : Scope) (t : Expr) (d : PyData) (tb : Nm) : Prop :=
  ∀ (env : Env) (ρ : Nm) (W : List Addr) (s : Shared) (v : Value) (Q : Unit → Shared → Prop) (E : Value → Shared → Prop), Fs Z.H sc ρ env W s.heap → RD W s.heap v d →
    (∀ h tk, Fs Z.H sc (tb ++ ρ) env W h → (∀ b o, ¬ Own sc env b → s.heap.get? b = some o → h.get? b = some o) → Q () { s with heap := h, toks := tk }) → wpAny (model Z.prog Z.w) Z.A (assign t env v) Q E s

def TsJ (Z : Wo) (sc : Scope) (ρ : Nm) (ifs : List Expr) (b : Bool) : Prop :=
  ∀ (env : Env) (W : List Addr) (s : Shared) (Q : Bool → Shared → Prop) (E : Value → Shared → Prop), Fs Z.H sc ρ env W s.heap → (∀ s', Kps s s' → Q b s') →
    wpAny (model Z.prog Z.w) Z.A (forIn ifs true fun c r => if r = true then do let ok ← isTrue c env (eval c env); pure (ForInStep.yield ok) else pure (ForInStep.yield r)) Q E s

section
variable {Z : Wo} {sc : Scope} {ρ : Nm}
theorem TsJ.nil : TsJ Z sc ρ [] true := fun env W s Q E F h => wpAny_tests_nil (h s (Kps.refl s))
theorem TsJ.one {c : Expr} {b : Bool} (hc : EvT Z sc ρ c b) : TsJ Z sc ρ [c] b := fun env W s Q E F h => wpAny_tests_one (hc env W s Q E F h)

theorem TgJ.name {x : Str} {pos : Pos} {d : PyData} (hx : sc.names.lookup x = some .local ∨ sc.names.lookup x = some .cell) : TgJ Z sc (.Name x pos) d [(x, .dat d)] := fun env ρ W s v Q E F r h =>
  wpAny_assign_Name (store_fs (p := .dat d) F hx r fun h' tk F' k => h h' tk F' fun b o nb e => (k b nb).trans e)

theorem assign_two {env : Env} {f g : Value → Sem Unit} {u v : Value} {s : Shared} {Q : Unit → Shared → Prop} {E : Value → Shared → Prop} (h : wpAny (model Z.prog Z.w) Z.A (f u) (fun _ s₁ => wpAny (model Z.prog Z.w) Z.A (g v) Q E s₁) E s) :
    wpAny (model Z.prog Z.w) Z.A (assignInOrder [f, g] [u, v]) Q E s :=
  wpAny_bind (wpAny_holding (wpAny_mono h (fun _ s₁ h₁ => wpAny_bind (wpAny_holding (wpAny_mono h₁ (fun _ s₂ h₂ => wpAny_pure h₂) fun _ _ x => x))) fun _ _ x => x))

theorem TgJ.pair (rm : Rm 0 Z.A) {x y : Str} {p1 p2 pos : Pos} {k : Nat} {a b : PyData} (hx : sc.names.lookup x = some .local ∨ sc.names.lookup x = some .cell) (hy : sc.names.lookup y = some .local ∨ sc.names.lookup y = some .cell) :
    TgJ Z sc (.Tuple [.Name x p1, .Name y p2] k pos) (.tuple [a, b]) [(y, .dat b), (x, .dat a)] := fun env ρ W s v Q E F r h => by
  obtain ⟨t, vs, n, rfl, ht, ho, rs⟩ := r.tuple_inv
  obtain ⟨u, vs', e1, r1, rs⟩ := rs.cons_inv
  obtain ⟨v, vs'', e2, r2, rs⟩ := rs.cons_inv
  rw [rs.nil_inv] at e2
  subst e2
  refine wpAny_assign_Tuple rm.1 (items := vs) ⟨_, ho, rfl, n, rfl⟩ ?_ rfl fun h₁ hx₁ => ?_
  · have : vs.toList.length = 2 := by rw [e1]; rfl
    show 2 = vs.size
    rw [← Array.length_toList]; exact this.symm
  have k₁ : Kps s { s with heap := h₁ } := ⟨h₁, s.toks, rfl, fun b o e => hx₁ b o (Nat.ne_of_lt (Heap.lt_size e)) e⟩
  rw [e1]
  have F₁ : Fs Z.H sc ρ env W h₁ := F.ext k₁.ext
  show wpAny _ _ (assignInOrder [assign (.Name x p1) env, assign (.Name y p2) env] [u, v]) Q E _
  refine assign_two (env := env) (wpAny_assign_Name (store_fs (p := .dat a) (s := { s with heap := h₁ }) F₁ hx (r1.ext k₁.ext) fun h₂ tk₂ F₂ k₂ => ?_))
  have kp₂ : Kp W h₁ W h₂ := fun b o nb e => ⟨nb, (k₂ b fun q => nb (F.own b q)).trans e⟩
  refine wpAny_assign_Name (store_fs (p := .dat b) (s := { s with heap := h₂, toks := tk₂ }) F₂ hy ((r2.ext k₁.ext).kp kp₂) fun h₃ tk₃ F₃ k₃ => ?_)
  exact h h₃ tk₃ F₃ fun b o nb e => (k₃ b nb).trans ((k₂ b nb).trans (k₁.ext b o e))
end

def compBody (elt : Expr) (gens : List Comprehension) (scope : Scope) (pos : Pos) (k : Nat) (acc : Value) (env : Env) : Sem Unit :=
  match gens[k]? with
  | some g' => do
    let x ← eval g'.iter env
    standAt g'.iter.pos
    let x ← if g'.is_async != 0 then foldedIterable g'.iter x else foldedSetIterable g'.iter env x
    let _ ← runOwn (.compStart (.ListComp elt gens scope pos) k (← holding [x] (if g'.is_async != 0 then asyncIter x else pyIter x)) acc env) env
  | none => do
    let _ ← call (.builtin "list.append") [acc, ← eval elt env]

/-- what is left behind the tests of a clause adds `out` to the list at D -/
def GenJ (Z : Wo) (elt : Expr) (gens : List Comprehension) (scope : Scope) (pos : Pos) (sc : Scope) (ρ : Nm) (k : Nat) (out : List PyData) : Prop :=
  ∀ (env : Env) (W : List Addr) (s : Shared) (D : Addr) (ys : Array Value) (ds : List PyData) (Q : Unit → Shared → Prop) (E : Value → Shared → Prop), Fs Z.H sc ρ env W s.heap → D ∈ W → ¬ All env D →
    Z.H.get? D = none → s.heap.PlainList D ys → RDs W s.heap ys.toList ds → ds.length + out.length ≤ sizeLine →
    (∀ h tk ys', Fs Z.H sc ρ env W h → h.PlainList D ys' → RDs W h ys'.toList (ds ++ out) → (∀ b o, ¬ Own sc env b → b ≠ D → s.heap.get? b = some o → h.get? b = some o) → Q () { s with heap := h, toks := tk }) →
    wpAny (model Z.prog Z.w) Z.A (compBody elt gens scope pos k (.ref D) env) Q E s

section
variable {Z : Wo} {sc : Scope} {ρ : Nm} {elt : Expr} {gens : List Comprehension} {scope : Scope} {pos : Pos} {k : Nat}

theorem kp_list {W : List Addr} {h h' : Heap} {D : Addr} (hD : D ∈ W) (hs : Heap.SameBut D h h') : Kp W h W h' := fun b o nb e => ⟨nb, (hs.2 b fun q => nb (q ▸ hD)).trans e⟩

theorem GenJ.emit {d : PyData} (hk : gens[k]? = none) (h : Ev Z sc ρ elt d) : GenJ Z elt gens scope pos sc ρ k [d] := fun env W s D ys ds Q E F hD nD hH hl rs hsz hQ => by
  unfold compBody
  rw [hk]
  refine wpAny_bind (h env W s _ E F fun v s₁ k₁ r₁ => wpAny_bind ?_)
  have hlen : ys.size = ds.length := by rw [← rs.length]; simp
  have hl₁ : s₁.heap.PlainList D ys := let ⟨n, e⟩ := hl; ⟨n, k₁.ext _ _ e⟩
  have F₁ := F.keeps k₁
  obtain ⟨h₁, tk₁, rfl, k₁'⟩ := k₁
  refine wpAny_list_append_plain (hsz := by rw [hlen]; simp at hsz; omega) hl₁ fun h₂ hl₂ hs₂ => wpAny_pure (hQ h₂ tk₁ (ys.push v) ?_ hl₂ ?_ ?_)
  · refine F₁.move (kp_list hD hs₂) (fun b o ob e => (hs₂.2 b fun q => nD (q ▸ ob)).trans e) (fun b o e => (hs₂.2 b fun q => by rw [q, hH] at e; cases e).trans (F₁.top b o e)) F.own fun b hb => ?_
    by_cases q : b = D
    · subst q; obtain ⟨n, e⟩ := hl₂; exact ⟨_, e⟩
    · obtain ⟨o, e⟩ := F₁.al b hb; exact ⟨o, (hs₂.2 b q).trans e⟩
  · rw [Array.toList_push]
    exact ((rs.ext k₁').kp (kp_list hD hs₂)).snoc (r₁.kp (kp_list hD hs₂))
  · exact fun b o nb nd e => (hs₂.2 b nd).trans (k₁' b o e)

theorem flat_take {f : PyData → List PyData} {ds : List PyData} {i : Nat} {d : PyData} (h : ds[i]? = some d) : (ds.take (i + 1)).flatMap f = (ds.take i).flatMap f ++ f d := by
  rw [List.take_add_one, h]; simp
theorem flat_take_le {f : PyData → List PyData} (ds : List PyData) (i : Nat) : ((ds.take i).flatMap f).length ≤ (ds.flatMap f).length := by
  conv => rhs; rw [← List.take_append_drop i ds]
  rw [List.flatMap_append, List.length_append]
  omega

theorem codeAny_start {A : Around} {prog : Program} {w : World} {R : Result → Shared → Prop} {s : Shared} {g : Comprehension} {I : Addr} {acc : Value} {env : Env} (hg : gens[k]? = some g) (ha : g.is_async = 0)
    (hself : ∀ (Q : Value → Shared → Prop) (E : Value → Shared → Prop), Q (.ref I) s → wpAny (model prog w) A (pyIter (.ref I)) Q E s)
    (h : codeAny (model prog w) A (.compLoop (.ListComp elt gens scope pos) k (.ref I) acc env) R s) : codeAny (model prog w) A (.compStart (.ListComp elt gens scope pos) k (.ref I) acc env) R s := by
  refine codeAny_of_tree ?_
  show wpAny _ _ ((compStart (.ListComp elt gens scope pos) k (.ref I) acc env).onRaise (fun x => do noteFrame x env; standAt theWindowsPlace)) _ _ s
  refine wpAny_notedAt ?_
  unfold compStart
  simp only [show clausesOf (.ListComp elt gens scope pos) = gens from rfl, hg, Option.elim_some, ha, bne_self_eq_false, Bool.false_eq_true, if_false]
  refine wpAny_bind (wpAny_askSetting (wpAny_ite ?_))
  split
  · first
      | exact wpAny_bind (wpAny_pure (wpAny_pure (And.intro rfl h)))
      | exact wpAny_pure (And.intro rfl h)
  · refine wpAny_bind (wpAny_rule ?_)
    refine wpAny_bind (wpAny_standAt (wpAny_bind (hself _ _ ?_)))
    exact wpAny_pure (And.intro rfl h)
end
end Mine
end

-- Comp3
section
open PySem PySem.Calls PySem.Spec PyProof.Rows
namespace Mine
section
variable {Z : Wo} {sc : Scope} {ρ : Nm} {elt : Expr} {gens : List Comprehension} {scope : Scope} {pos : Pos} {k : Nat}

theorem own_go {target : Expr} {I : Addr} {v : Value} {s : Shared} {Q : Unit → Shared → Prop} {E : Value → Shared → Prop} {o : Obj} {T : String} (ho : s.heap.get? I = some o) (hc : o.cls = .type T) (hT : ownedTuples.contains T = false)
    (h : Q () s) : wpAny (model Z.prog Z.w) Z.A (letOwnedTupleGo target (.ref I) v) Q E s := by
  have key : ∀ a : Addr, wpAny (model Z.prog Z.w) Z.A (do
      let o ← load I
      match o.cls, o.data with
      | .type n, .fields vs =>
        if ["enumerate", "zip", "dict_itemiterator", "dict_reverseitemiterator", "odict_iterator", "itertools.zip_longest", "itertools.pairwise"].contains n && vs[0]? == some (rawInt a) then
          rule "for.unpacks-the-owned-tuple"
          updateField I 0 .none
      | _, _ => pure ()) Q E s := by
    intro a
    refine wpAny_bind (wpAny_load ho ?_)
    rw [hc]
    split
    · rename_i n vs e1 e2
      have e3 : n = T := by injection e1 with e1; exact e1.symm
      subst e3
      have e : (["enumerate", "zip", "dict_itemiterator", "dict_reverseitemiterator", "odict_iterator", "itertools.zip_longest", "itertools.pairwise"].contains n) = false := hT
      rw [e, Bool.false_and, if_neg Bool.false_ne_true]
      exact wpAny_pure h
    · exact wpAny_pure h
  unfold letOwnedTupleGo
  split
  · split
    · rename_i r a e; injection e with e1 e2; injection e1 with e1; subst e1; exact key _
    · exact wpAny_pure h
  · split
    · rename_i r a e; injection e with e1 e2; injection e1 with e1; subst e1; exact key _
    · exact wpAny_pure h
  · exact wpAny_pure h

def CompInv (Z : Wo) (sc : Scope) (ρ : Nm) (env : Env) (W : List Addr) (s : Shared) (I D : Addr) (ds₀ ds : List PyData) (p : PyData → Bool) (f : PyData → List PyData) (St : Nat → Heap → Prop) (n : Nat) (s' : Shared) : Prop :=
  ∃ h tk i ys', s' = { s with heap := h, toks := tk } ∧ i ≤ ds.length ∧ n = ds.length + 1 - i ∧ St i h ∧ Fs Z.H sc ρ env (I :: W) h ∧ h.PlainList D ys' ∧
    RDs (I :: W) h ys'.toList (ds₀ ++ (ds.take i).flatMap fun d => if p d then f d else []) ∧ (∀ b o, ¬ Own sc env b → b ≠ D → b ≠ I → s.heap.get? b = some o → h.get? b = some o)

theorem comp_loop {g : Comprehension} {ds : List PyData} {tb : PyData → Nm} {p : PyData → Bool} {f : PyData → List PyData} (hg : gens[k]? = some g) (ha : g.is_async = 0) (hsl : ∀ env x, foldedSetIterable g.iter env x = pure x)
    (htg : ∀ d ∈ ds, TgJ Z sc g.target d (tb d)) (hfr : ∀ d ∈ ds, ∀ x q, ρ.lookup x = some q → (tb d ++ ρ).lookup x = some q) (hts : ∀ d ∈ ds, TsJ Z sc (tb d ++ ρ) g.ifs (p d))
    (hb : ∀ d ∈ ds, p d = true → GenJ Z elt gens scope pos sc (tb d ++ ρ) (k + 1) (f d))
    {env : Env} {W : List Addr} {s : Shared} {I D : Addr} {ys : Array Value} {ds₀ : List PyData} {R : Result → Shared → Prop} (it : It Z W s.heap I ds) (F : Fs Z.H sc ρ env (I :: W) s.heap) (hI : Z.H.get? I = none) (nI : ¬ All env I)
    (hD : D ∈ W) (nD : ¬ All env D) (hH : Z.H.get? D = none) (hl : s.heap.PlainList D ys) (rs : RDs (I :: W) s.heap ys.toList ds₀) (hsz : ds₀.length + (ds.flatMap fun d => if p d then f d else []).length ≤ sizeLine)
    (hR : ∀ h tk ys', Fs Z.H sc ρ env W h → h.PlainList D ys' → RDs W h ys'.toList (ds₀ ++ ds.flatMap fun d => if p d then f d else []) → (∀ b o, ¬ Own sc env b → b ≠ D → b ≠ I → s.heap.get? b = some o → h.get? b = some o) →
      R (.ok .next) { s with heap := h, toks := tk }) :
    codeAny (model Z.prog Z.w) Z.A (.compStart (.ListComp elt gens scope pos) k (.ref I) (.ref D) env) R s := by
  obtain ⟨⟨fp, P, St, Wk, st0, hfp, hP, hal⟩, nw⟩ := it
  have hDI : D ≠ I := fun q => nw (q ▸ hD)
  refine codeAny_start hg ha (fun Q E q => Wk.self 0 s Q E st0 q) ?_
  refine codeAny_loop rfl (CompInv Z sc ρ env W s I D ds₀ ds p f St) ?_ (ds.length + 1)
    ⟨s.heap, s.toks, 0, ys, rfl, Nat.zero_le _, rfl, st0, F, hl, by simpa using rs, fun _ _ _ _ _ e => e⟩
  rintro n s' ⟨h, tk, i, ys', rfl, hi, rfl, st, F', hl', rs', kp'⟩
  show wpAny _ _ ((compTurn (.ListComp elt gens scope pos) k (.ref I) (.ref D) env).onRaise (fun x => do noteFrame x env; theTreesLotGoes x)) _ _ _
  refine wpAny_noted ?_
  unfold compTurn
  simp only [hg, ha, bne_self_eq_false, Bool.false_eq_true, if_false]
  refine wpAny_bind (wpAny_standAt (wpAny_bind ?_))
  by_cases hlt : i < ds.length
  · refine Wk.item i _ _ _ hlt st fun v h₁ tk₁ hPv st₁ k₁ => ?_
    have hd : ds[i]? = some ds[i] := List.getElem?_eq_getElem hlt
    have hm : ds[i] ∈ ds := List.getElem_mem hlt
    generalize ds[i] = d at hd hm
    have kp₁ : Kp (I :: W) h (I :: W) h₁ := fun b o nb e => ⟨nb, k₁ b o (fun q => nb (by rw [List.mem_singleton.mp q]; exact List.mem_cons_self)) e⟩
    obtain ⟨oI, T, eI, cI, hT⟩ := hal _ _ st₁
    have F₁ : Fs Z.H sc ρ env (I :: W) h₁ := F'.move kp₁ (fun b o ob e => k₁ b o (fun q => nI (by rw [← List.mem_singleton.mp q]; exact ob)) e)
      (fun b o e => k₁ b o (fun q => by rw [List.mem_singleton.mp q, hI] at e; cases e) (F'.top b o e)) F'.own (fun b hb => by
        by_cases q : b = I
        · subst q; exact ⟨oI, eI⟩
        · obtain ⟨o, e⟩ := F'.al b hb; exact ⟨o, k₁ b o (fun q' => q (List.mem_singleton.mp q')) e⟩)
    have base : Kp (I :: W) s.heap (I :: W) h := fun b o nb e => ⟨nb, kp' b o (fun q => nb (F'.own b q)) (fun q => nb (q ▸ List.mem_cons_of_mem _ hD)) (fun q => nb (q ▸ List.mem_cons_self)) e⟩
    have hl₁ : h₁.PlainList D ys' := let ⟨n, e⟩ := hl'; ⟨n, k₁ D _ (fun q => hDI (List.mem_singleton.mp q)) e⟩
    refine wpAny_bind (own_go (s := { s with heap := h₁, toks := tk₁ }) eI cI hT (wpAny_bind ?_))
    refine htg d hm env ρ (I :: W) { s with heap := h₁, toks := tk₁ } v _ _ F₁ (((hP i v d hPv hd).kp base).kp kp₁) fun h₂ tk₂ F₂ k₂ => ?_
    have kp₂ : Kp (I :: W) h₁ (I :: W) h₂ := fun b o nb e => ⟨nb, k₂ b o (fun q => nb (F₁.own b q)) e⟩
    have st₂ : St (i + 1) h₂ := Wk.frame _ _ _ st₁ fun b hb o e => k₂ b o (fun q => by
      rcases hfp b hb with rfl | ⟨hb', _⟩
      · exact nI q.all
      · rcases List.mem_cons.mp (F.own b q) with rfl | hw
        · exact nI q.all
        · exact hb' hw) e
    have hl₂ : h₂.PlainList D ys' := let ⟨n, e⟩ := hl₁; ⟨n, k₂ D _ (fun q => nD q.all) e⟩
    refine wpAny_bind (hts d hm env (I :: W) { s with heap := h₂, toks := tk₂ } _ _ F₂ fun s₃ k₃ => ?_)
    have F₃ := F₂.keeps k₃
    have hl₃ : s₃.heap.PlainList D ys' := let ⟨n, e⟩ := hl₂; ⟨n, k₃.ext D _ e⟩
    have st₃ : St (i + 1) s₃.heap := Wk.frame _ _ _ st₂ fun b hb o e => k₃.ext b o e
    have rs₃ := (((rs'.kp kp₁).kp kp₂).ext k₃.ext)
    have kp₃ : ∀ b o, ¬ Own sc env b → b ≠ D → b ≠ I → s.heap.get? b = some o → s₃.heap.get? b = some o := fun b o nb nd ni e => k₃.ext b o (k₂ b o nb (k₁ b o (fun q => ni (List.mem_singleton.mp q)) (kp' b o nb nd ni e)))
    have drop : ∀ {h' : Heap}, Fs Z.H sc (tb d ++ ρ) env (I :: W) h' → Fs Z.H sc ρ env (I :: W) h' := fun F => F.names fun x q e => ⟨q, hfr d hm x q e, fun v r => r⟩
    cases hp : p d with
    | false =>
      simp only [Bool.false_eq_true, if_false]
      obtain ⟨h₃, tk₃, rfl, _⟩ := k₃
      refine wpAny_pure ⟨rfl, ds.length + 1 - (i + 1), by omega, h₃, tk₃, i + 1, ys', rfl, hlt, rfl, st₃, drop F₃, hl₃, ?_, kp₃⟩
      rw [flat_take hd, hp]
      simpa using rs₃
    | true =>
      simp only [if_true]
      have hb' := hb d hm hp env (I :: W) s₃ D ys' _ (fun _ s₄ => ∃ m, m < ds.length + 1 - i ∧ CompInv Z sc ρ env W s I D ds₀ ds p f St m s₄)
        (notedBy (model Z.prog Z.w) Z.A env fun e s' => R (.error e) s') F₃ (List.mem_cons_of_mem _ hD) nD hH hl₃ rs₃ (by
          have e1 := flat_take_le (f := fun d => if p d then f d else []) ds (i + 1)
          rw [flat_take hd, hp] at e1
          simp only [List.length_append, if_true] at e1 ⊢
          omega) fun h₄ tk₄ ys₄ F₄ hl₄ rs₄ k₄ => by
        obtain ⟨h₃, tk₃, rfl, _⟩ := k₃
        refine ⟨ds.length + 1 - (i + 1), by omega, h₄, tk₄, i + 1, ys₄, rfl, hlt, rfl, Wk.frame _ _ _ st₃ fun b hb o e => k₄ b o (fun q => ?_) (fun q => ?_) e, drop F₄, hl₄, ?_, fun b o nb nd ni e => k₄ b o nb nd (kp₃ b o nb nd ni e)⟩
        · rcases hfp b hb with rfl | ⟨hb', _⟩
          · exact nI q.all
          · rcases List.mem_cons.mp (F.own b q) with rfl | hw
            · exact nI q.all
            · exact hb' hw
        · rcases hfp b hb with rfl | ⟨hb', _⟩
          · exact hDI q.symm
          · exact hb' (q ▸ hD)
        · rw [flat_take hd, hp]
          simpa [List.append_assoc] using rs₄
      unfold compBody at hb'
      cases hk : gens[k + 1]? with
      | none =>
        rw [hk] at hb'
        dsimp only at hb' ⊢
        exact wpAny_bind (wpAny_mono hb' (fun _ s₅ h₅ => wpAny_pure ⟨rfl, h₅⟩) fun _ _ x => x)
      | some g' =>
        rw [hk] at hb'
        dsimp only at hb' ⊢
        have hb2 := wpAny_bind (f := fun _ => again (Code.compLoop (elt.ListComp gens scope pos) k (Value.ref I) (Value.ref D) env)) (wpAny_mono hb' (fun _ s₅ h₅ => wpAny_pure (a := Fin.again (Code.compLoop (elt.ListComp gens scope pos) k (Value.ref I) (Value.ref D) env))
          (Q := (fun fin s' => match fin with
            | .done f => R (.ok f) s'
            | .again c' => c' = Code.compLoop (elt.ListComp gens scope pos) k (Value.ref I) (Value.ref D) env ∧ ∃ m, m < ds.length + 1 - i ∧ CompInv Z sc ρ env W s I D ds₀ ds p f St m s')) ⟨rfl, h₅⟩) fun _ _ x => x)
        refine Eq.mp (congrArg (fun t => wpAny _ _ t _ _ _) ?_) hb2
        by_cases hc : (g'.is_async != 0) = true <;> simp only [hc, if_true, if_false, bind_assoc, pure_bind, Bool.false_eq_true]
  · have hin : i = ds.length := by omega
    subst hin
    refine Wk.done _ _ _ st fun h₁ tk₁ k₁ => wpAny_pure ?_
    have kp₁ : Kp (I :: W) h W h₁ := fun b o nb e => ⟨fun q => nb (List.mem_cons_of_mem _ q), k₁ b o (fun q => nb (by rw [List.mem_singleton.mp q]; exact List.mem_cons_self)) e⟩
    show R (.ok .next) { s with heap := h₁, toks := tk₁ }
    have ow : ∀ b, Own sc env b → b ∈ W := fun b ob => by
      rcases List.mem_cons.mp (F'.own b ob) with rfl | hb
      · exact absurd ob.all nI
      · exact hb
    refine hR h₁ tk₁ ys' ?_ (let ⟨n, e⟩ := hl'; ⟨n, k₁ D _ (fun q => hDI (List.mem_singleton.mp q)) e⟩) ?_ fun b o nb nd ni e => k₁ b o (fun q => ni (List.mem_singleton.mp q)) (kp' b o nb nd ni e)
    · refine F'.move kp₁ (fun b o ob e => k₁ b o (fun q => nI (by rw [← List.mem_singleton.mp q]; exact ob)) e)
        (fun b o e => k₁ b o (fun q => by rw [List.mem_singleton.mp q, hI] at e; cases e) (F'.top b o e)) ow (fun b hb => ?_)
      obtain ⟨o, e⟩ := F'.al b (List.mem_cons_of_mem _ hb)
      exact ⟨o, k₁ b o (fun q => nw (by rw [← List.mem_singleton.mp q]; exact hb)) e⟩
    · rw [List.take_length] at rs'
      exact rs'.kp kp₁
end
end Mine
end

-- Comp4
section
open PySem PySem.Calls PySem.Spec PyProof.Rows
namespace Mine

theorem Fs.hideNew {H₀ : Heap} {sc : Scope} {ρ : Nm} {env : Env} {W : List Addr} {h h' : Heap} {I : Addr} (F : Fs H₀ sc ρ env W h) (k : Ext h h') (hI : h.get? I = none) (al : ∃ o, h'.get? I = some o) :
    Fs H₀ sc ρ env (I :: W) h' ∧ ¬ All env I ∧ H₀.get? I = none := by
  have nI : ¬ All env I := fun q => by
    rcases q with rfl | ⟨x, q⟩
    · obtain ⟨_, ⟨o, _, _, e, _⟩, _⟩ := F.ns; rw [hI] at e; cases e
    · obtain ⟨_, ⟨o, e, _⟩, _⟩ := F.cs x I q; rw [hI] at e; cases e
  refine ⟨F.move (fun b o nb e => ⟨fun hm => ?_, k b o e⟩) (fun b o _ e => k b o e) (fun b o e => k b o (F.top b o e)) (fun b ob => List.mem_cons_of_mem _ (F.own b ob)) (fun b hb => ?_), nI, ext_size F.top hI⟩
  · rcases List.mem_cons.mp hm with rfl | hm
    · rw [hI] at e; cases e
    · exact nb hm
  · rcases List.mem_cons.mp hb with rfl | hb
    · exact al
    · obtain ⟨o, e⟩ := F.al b hb; exact ⟨o, k b o e⟩

theorem It.al {Z : Wo} {W : List Addr} {h : Heap} {I : Addr} {ds : List PyData} (it : It Z W h I ds) : ∃ o, h.get? I = some o := by
  obtain ⟨⟨fp, P, St, Wk, st0, hfp, hP, hal⟩, nw⟩ := it
  obtain ⟨o, _, e, _⟩ := hal _ _ st0
  exact ⟨o, e⟩
theorem It.ext {Z : Wo} {W : List Addr} {h h' : Heap} {I : Addr} {ds : List PyData} (it : It Z W h I ds) (k : Ext h h') : It Z W h' I ds := by
  obtain ⟨⟨fp, P, St, Wk, st0, hfp, hP, hal⟩, nw⟩ := it
  exact ⟨⟨fp, P, St, Wk, Wk.frame _ _ _ st0 fun b _ o e => k b o e, fun b hb => (hfp b hb).imp id fun ⟨a, o, e⟩ => ⟨a, o, k b o e⟩, fun i v d a b => (hP i v d a b).ext k, hal⟩, nw⟩
/-- more hidden objects, all of them new -/
theorem It.more {Z : Wo} {W : List Addr} {h : Heap} {I : Addr} {ds : List PyData} {N : List Addr} {h' : Heap} (it : It Z W h I ds) (k : Ext h h') (hN : ∀ b ∈ N, h.get? b = none) : It Z (N ++ W) h' I ds := by
  have it' := it.al
  obtain ⟨⟨fp, P, St, Wk, st0, hfp, hP, hal⟩, nw⟩ := it
  have hI : I ∉ N := fun q => by obtain ⟨o, e⟩ := it'; rw [hN I q] at e; cases e
  have h1 : ∀ b ∈ fp, b = I ∨ (b ∉ N ++ W ∧ ∃ o, h'.get? b = some o) := fun b hb => by
    rcases hfp b hb with rfl | ⟨a, o, e⟩
    · exact .inl rfl
    · refine .inr ⟨fun hm => ?_, o, k b o e⟩
      rcases List.mem_append.mp hm with hm | hm
      · rw [hN b hm] at e; cases e
      · exact a hm
  have h2 : ∀ i v d, P i v → ds[i]? = some d → RD (I :: (N ++ W)) h' v d := fun i v d a b => (hP i v d a b).kp fun b o nb e => ⟨fun hm => by
    rcases List.mem_cons.mp hm with rfl | hm
    · exact nb List.mem_cons_self
    · rcases List.mem_append.mp hm with hm | hm
      · rw [hN b hm] at e; cases e
      · exact nb (List.mem_cons_of_mem _ hm), k b o e⟩
  exact ⟨⟨fp, P, St, Wk, Wk.frame _ _ _ st0 fun b _ o e => k b o e, h1, h2, hal⟩, fun hm => (List.mem_append.mp hm).elim hI nw⟩

section
variable {Z : Wo} {sc : Scope} {ρ : Nm} {elt : Expr} {gens : List Comprehension} {scope : Scope} {pos : Pos} {k : Nat}

theorem GenJ.step {g : Comprehension} {ds : List PyData} {tb : PyData → Nm} {p : PyData → Bool} {f : PyData → List PyData} (hg : gens[k]? = some g) (ha : g.is_async = 0) (hsl : ∀ env x, foldedSetIterable g.iter env x = pure x)
    (hi : EvI Z sc ρ g.iter ds) (htg : ∀ d ∈ ds, TgJ Z sc g.target d (tb d)) (hfr : ∀ d ∈ ds, ∀ x q, ρ.lookup x = some q → (tb d ++ ρ).lookup x = some q) (hts : ∀ d ∈ ds, TsJ Z sc (tb d ++ ρ) g.ifs (p d))
    (hb : ∀ d ∈ ds, p d = true → GenJ Z elt gens scope pos sc (tb d ++ ρ) (k + 1) (f d)) : GenJ Z elt gens scope pos sc ρ k (ds.flatMap fun d => if p d then f d else []) := fun env W s D ys ds₀ Q E F hD nD hH hl rs hsz hQ => by
  unfold compBody
  rw [hg]
  simp only [ha, bne_self_eq_false, Bool.false_eq_true, if_false]
  have he := hi env W s (fun it s₂ => wpAny (model Z.prog Z.w) Z.A (runOwn (.compStart (.ListComp elt gens scope pos) k it (.ref D) env) env) (fun _ s' => Q () s') E s₂) E F fun I s' ks hI it => by
    obtain ⟨F', nI, hHI⟩ := F.hideNew ks.ext hI it.al
    obtain ⟨h', tk', rfl, kx⟩ := ks
    refine wpAny_runOwn (comp_loop hg ha hsl htg hfr hts hb it F' hHI nI hD nD hH (let ⟨n, e⟩ := hl; ⟨n, kx _ _ e⟩) (rs.kp fun b o nb e => ⟨fun hm => ?_, kx b o e⟩) hsz fun h₂ tk₂ ys₂ F₂ hl₂ rs₂ kp₂ => ?_)
    · rcases List.mem_cons.mp hm with rfl | hm
      · rw [hI] at e; cases e
      · exact nb hm
    · exact hQ h₂ tk₂ ys₂ F₂ hl₂ rs₂ fun b o nb nd e => kp₂ b o nb nd (fun q => by rw [q, hI] at e; cases e) (kx b o e)
  refine wpAny_bind (wpAny_mono he (fun x s₁ h₁ => wpAny_bind (wpAny_standAt ?_)) fun _ _ x => x)
  rw [hsl]
  refine wpAny_bind (wpAny_pure (wpAny_bind (wpAny_holding (wpAny_mono h₁ (fun it s₂ h₂ => wpAny_bind (wpAny_mono h₂ (fun _ s₃ h₃ => wpAny_pure h₃) fun _ _ x => x)) fun _ _ x => x))))

def freesOf (scope : Scope) : List Str := (scope.names.filter fun y => y.2 == NameKind.free).map (·.1)
def pick (xs : List Str) (ρ : Nm) : Nm := xs.filterMap fun x => (ρ.lookup x).map fun p => (x, p)
/-- what a comprehension's scope must be like -/
def compOk (scope sc : Scope) (ρ : Nm) : Bool :=
  scope.kind == .function && (freesOf scope).all (fun x => (ρ.lookup x).isSome && (sc.names.lookup x == some .cell || sc.names.lookup x == some .free) && scope.names.lookup x == some .free) &&
    scope.names.all (fun y => y.2 != .local || scope.names.lookup y.1 == some .local) && scope.names.all (fun y => y.2 != .cell || scope.names.lookup y.1 == some .cell)

theorem pick_lookup {xs : List Str} {ρ : Nm} {x : Str} {p : PV} (h : (pick xs ρ).lookup x = some p) : x ∈ xs ∧ ρ.lookup x = some p := by
  induction xs with
  | nil => cases h
  | cons y r ih =>
    unfold pick at h ih
    rw [List.filterMap_cons] at h
    cases e : ρ.lookup y with
    | none =>
      rw [e] at h
      obtain ⟨a, b⟩ := ih h
      exact ⟨List.mem_cons_of_mem _ a, b⟩
    | some q =>
      rw [e] at h
      simp only [Option.map_some, List.lookup_cons] at h
      cases hb : x == y with
      | true =>
        rw [hb] at h
        have hxy : x = y := eq_of_beq hb
        subst hxy
        exact ⟨List.mem_cons_self, e.trans h⟩
      | false =>
        rw [hb] at h
        obtain ⟨a, b⟩ := ih h
        exact ⟨List.mem_cons_of_mem _ a, b⟩

/-- closures -/
def closes (cells : List (Str × Addr)) : List (Str × NameKind) → List (Str × Addr) → List (Str × Addr)
  | [], acc => acc
  | (n, k) :: r, acc => if k == .free then (match cells.lookup n with | some c => closes cells r ((n, c) :: acc) | none => closes cells r acc) else closes cells r acc

theorem closureFor_eq {env : Env} {scope : Scope} (h : ∀ y ∈ scope.names, y.2 = .free → ∃ c, env.cells.lookup y.1 = some c) : closureFor scope env = pure (closes env.cells scope.names []) := by
  unfold closureFor
  have key : ∀ (names : List (Str × NameKind)) (acc : List (Str × Addr)), (∀ y ∈ names, y.2 = .free → ∃ c, env.cells.lookup y.1 = some c) →
      (forIn (m := Sem) names acc fun x cs => if (x.2 == NameKind.free) = true then do let a ← cellOf env x.1; pure (ForInStep.yield ((x.1, a) :: cs)) else pure (ForInStep.yield cs)) = pure (closes env.cells names acc) := by
    intro names
    induction names with
    | nil => intro acc _; rfl
    | cons y r ih =>
      obtain ⟨n, kd⟩ := y
      intro acc hn
      rw [List.forIn_cons]
      have hr : ∀ y ∈ r, y.2 = .free → ∃ c, env.cells.lookup y.1 = some c := fun y hy => hn y (List.mem_cons_of_mem _ hy)
      by_cases hk : kd = .free
      · subst hk
        obtain ⟨c, hc⟩ := hn (n, .free) List.mem_cons_self rfl
        unfold closes
        simp only [beq_self_eq_true, if_true, cellOf, hc, pure_bind]
        exact ih _ hr
      · have : (kd == NameKind.free) = false := by simpa using hk
        unfold closes
        simp only [this, Bool.false_eq_true, if_false, pure_bind]
        exact ih _ hr
  simpa using key scope.names [] h

theorem closes_sub {cells : List (Str × Addr)} : ∀ (names : List (Str × NameKind)) (acc : List (Str × Addr)), (∀ n c, acc.lookup n = some c → cells.lookup n = some c) → ∀ n c, (closes cells names acc).lookup n = some c → cells.lookup n = some c
  | [], acc, h => h
  | (n, k) :: r, acc, h => by
    unfold closes
    split
    · split
      · rename_i c hc
        refine closes_sub r _ fun m d e => ?_
        rw [List.lookup_cons] at e
        cases hb : m == n with
        | true => rw [hb] at e; cases e; rw [eq_of_beq hb]; exact hc
        | false => rw [hb] at e; exact h m d e
      · exact closes_sub r _ h
    · exact closes_sub r _ h
theorem closes_keep {cells : List (Str × Addr)} : ∀ (names : List (Str × NameKind)) (acc : List (Str × Addr)) (n : Str), (∃ c, acc.lookup n = some c) → ∃ c, (closes cells names acc).lookup n = some c
  | [], acc, n, h => h
  | (m, k) :: r, acc, n, h => by
    unfold closes
    split
    · split
      · refine closes_keep r _ n ?_
        rw [List.lookup_cons]
        cases hb : n == m with
        | true => exact ⟨_, rfl⟩
        | false => exact h
      · exact closes_keep r _ n h
    · exact closes_keep r _ n h
theorem closes_has {cells : List (Str × Addr)} : ∀ (names : List (Str × NameKind)) (acc : List (Str × Addr)) (n : Str), (n, NameKind.free) ∈ names → (∃ c, cells.lookup n = some c) → ∃ c, (closes cells names acc).lookup n = some c
  | [], _, _, h, _ => nomatch h
  | (m, k) :: r, acc, n, h, hc => by
    unfold closes
    rcases List.mem_cons.mp h with e | h
    · cases e
      obtain ⟨c, hc⟩ := hc
      simp only [beq_self_eq_true, if_true, hc]
      exact closes_keep r _ m ⟨c, by simp⟩
    · split
      · split
        · exact closes_has r _ n h hc
        · exact closes_has r _ n h hc
      · exact closes_has r _ n h hc
end

theorem closes_mem {cells : List (Str × Addr)} : ∀ (names : List (Str × NameKind)) (acc : List (Str × Addr)) (n : Str) (c : Addr), (closes cells names acc).lookup n = some c → (n, NameKind.free) ∈ names ∨ acc.lookup n = some c
  | [], acc, n, c, h => .inr h
  | (m, k) :: r, acc, n, c, h => by
    unfold closes at h
    split at h
    · rename_i hk
      split at h
      · rcases closes_mem r _ n c h with h1 | h1
        · exact .inl (List.mem_cons_of_mem _ h1)
        · rw [List.lookup_cons] at h1
          cases hb : n == m with
          | true => rw [eq_of_beq hb, eq_of_beq hk]; exact .inl List.mem_cons_self
          | false => rw [hb] at h1; exact .inr h1
      · exact (closes_mem r _ n c h).imp (List.mem_cons_of_mem _) id
    · exact (closes_mem r _ n c h).imp (List.mem_cons_of_mem _) id

theorem relabel_lookup {env : Env} {P : Str → Bool} : ∀ {names : List (Str × NameKind)} {x : Str} {k : NameKind}, names.lookup x = some k →
    (names.map fun (n, k) => if (k == NameKind.free && P n) then (n, NameKind.cell) else (n, k)).lookup x = some (if (k == NameKind.free && P x) then NameKind.cell else k)
  | [], _, _, h => nomatch h
  | (n, k') :: r, x, k, h => by
    have ih := @relabel_lookup env P r x k
    rw [List.lookup_cons] at h
    show List.lookup x ((if (k' == NameKind.free && P n) = true then (n, NameKind.cell) else (n, k')) :: _) = _
    cases hx : x == n with
    | true =>
      rw [hx] at h; cases h
      have e := eq_of_beq hx
      subst e
      by_cases hc : (k' == NameKind.free && P x) = true
      · rw [if_pos hc, if_pos hc]; simp
      · rw [if_neg hc, if_neg hc]; simp
    | false =>
      rw [hx] at h
      by_cases hc : (k' == NameKind.free && P n) = true
      · rw [if_pos hc]; simp only [List.lookup_cons, hx]; exact ih h
      · rw [if_neg hc]; simp only [List.lookup_cons, hx]; exact ih h

structure AccOk (acc : List (Str × Addr)) (h : Heap) : Prop where
  lt : ∀ x c, acc.lookup x = some c → c < h.objs.size
  inj : ∀ x y c, acc.lookup x = some c → acc.lookup y = some c → x = y

theorem cells_gen : ∀ (names : List (Str × NameKind)) (h : Heap) (acc : List (Str × Addr)), AccOk acc h →
    AccOk (cellsFrom h.objs.size names acc) (pushCells h names) ∧ h.objs.size ≤ (pushCells h names).objs.size ∧
    (∀ x c, (cellsFrom h.objs.size names acc).lookup x = some c → acc.lookup x = some c ∨ (h.objs.size ≤ c ∧ (pushCells h names).IsCell c none ∧ (x, NameKind.cell) ∈ names)) ∧
    (∀ x, (∃ c, acc.lookup x = some c) → ∃ c, (cellsFrom h.objs.size names acc).lookup x = some c) ∧
    (∀ x, (x, NameKind.cell) ∈ names → ∃ c, (cellsFrom h.objs.size names acc).lookup x = some c)
  | [], h, acc, a => ⟨a, Nat.le_refl _, fun _ _ e => .inl e, fun _ e => e, fun _ e => nomatch e⟩
  | (n, k) :: r, h, acc, a => by
    unfold cellsFrom pushCells
    by_cases hk : k = .cell
    · subst hk
      simp only [beq_self_eq_true, if_true]
      have a' : AccOk ((n, h.objs.size) :: acc) (h.push { cls := .type "cell", data := .cell none }) := by
        refine ⟨fun x c e => ?_, fun x y c e e' => ?_⟩
        · rw [Heap.size_push]
          rw [List.lookup_cons] at e
          cases hb : x == n with
          | true => rw [hb] at e; cases e; exact Nat.lt_succ_self _
          | false => rw [hb] at e; exact Nat.lt_succ_of_lt (a.lt x c e)
        · rw [List.lookup_cons] at e e'
          cases hb : x == n with
          | true =>
            rw [hb] at e; cases e
            cases hb' : y == n with
            | true => rw [eq_of_beq hb, eq_of_beq hb']
            | false => rw [hb'] at e'; exact absurd (a.lt y _ e') (Nat.lt_irrefl _)
          | false =>
            rw [hb] at e
            cases hb' : y == n with
            | true => rw [hb'] at e'; cases e'; exact absurd (a.lt x _ e) (Nat.lt_irrefl _)
            | false => rw [hb'] at e'; exact a.inj x y c e e'
      have ih := cells_gen r _ _ a'
      rw [Heap.size_push] at ih
      obtain ⟨i1, i2, i3, i4, i5⟩ := ih
      refine ⟨i1, Nat.le_of_succ_le i2, fun x c e => ?_, fun x ⟨c, e⟩ => i4 x ?_, fun x hx => ?_⟩
      · rcases i3 x c e with e' | ⟨e1, e2, e3⟩
        · rw [List.lookup_cons] at e'
          cases hb : x == n with
          | true =>
            rw [hb] at e'; cases e'
            rw [eq_of_beq hb]
            exact .inr ⟨Nat.le_refl _, ⟨_, pushCells_keeps r _ _ _ (Heap.get?_push_size _ rfl), rfl⟩, List.mem_cons_self⟩
          | false => rw [hb] at e'; exact .inl e'
        · exact .inr ⟨Nat.le_of_succ_le e1, e2, List.mem_cons_of_mem _ e3⟩
      · rw [List.lookup_cons]
        cases hb : x == n with
        | true => exact ⟨_, rfl⟩
        | false => exact ⟨c, e⟩
      · rcases List.mem_cons.mp hx with e | hx
        · cases e; exact i4 _ ⟨h.objs.size, by simp⟩
        · exact i5 x hx
    · have hkb : (k == NameKind.cell) = false := by simpa using hk
      simp only [hkb, Bool.false_eq_true, if_false]
      obtain ⟨i1, i2, i3, i4, i5⟩ := cells_gen r h acc a
      refine ⟨i1, i2, fun x c e => (i3 x c e).imp id fun ⟨e1, e2, e3⟩ => ⟨e1, e2, List.mem_cons_of_mem _ e3⟩, i4, fun x hx => ?_⟩
      rcases List.mem_cons.mp hx with e | hx
      · cases e; exact absurd rfl hk
      · exact i5 x hx
end Mine
end

-- Comp5
section
open PySem PySem.Calls PySem.Spec PyProof.Rows
namespace Mine

theorem new_cenv {M : Model} {A : Around} {E : Value → Shared → Prop} {s : Shared} {scope : Scope} {env : Env} {cl : List (Str × Addr)} {Q : Env → Shared → Prop}
    (h : Q (newEnv scope s.heap.objs.size env.globals (cellsFrom (s.heap.objs.size + 1) scope.names cl) env.qual none .none (some env) builtinsNs)
      { s with heap := pushCells (s.heap.push { cls := .type "dict", data := .dict #[] }) scope.names }) : wpAny M A (newFunctionEnv scope env.globals cl [] env.qual none .none (some env)) Q E s := by
  simp only [newFunctionEnv, Option.isSome_some, if_true]
  refine wpAny_bind (wpAny_alloc ?_)
  refine wpAny_bind (wpAny_layCells _ (fun name kind cells => by cases hkc : kind == NameKind.cell <;> simp) _ _ _ _ ?_)
  rw [show ({ s with heap := s.heap.push { cls := .type "dict", data := .dict #[] } } : Shared).heap.objs.size = s.heap.objs.size + 1 from Heap.size_push ..]
  refine wpAny_bind ?_
  rw [List.forIn_nil]
  exact wpAny_pure (wpAny_pure h)

section
variable {Z : Wo} {sc : Scope} {ρ : Nm}

theorem compOk_free {scope : Scope} (h : compOk scope sc ρ = true) {x : Str} (hx : x ∈ freesOf scope) :
    (ρ.lookup x).isSome = true ∧ (sc.names.lookup x = some .cell ∨ sc.names.lookup x = some .free) ∧ scope.names.lookup x = some .free := by
  unfold compOk at h
  simp only [Bool.and_eq_true, List.all_eq_true, Bool.or_eq_true, beq_iff_eq] at h
  obtain ⟨⟨a, b⟩, c⟩ := h.1.1.2 x hx
  exact ⟨a, b, c⟩
theorem compOk_cell {scope : Scope} (h : compOk scope sc ρ = true) {x : Str} (hx : (x, NameKind.cell) ∈ scope.names) : scope.names.lookup x = some .cell := by
  unfold compOk at h
  simp only [Bool.and_eq_true, List.all_eq_true, Bool.or_eq_true, beq_iff_eq] at h
  have := h.2 _ hx
  simpa using this
theorem compOk_local {scope : Scope} (h : compOk scope sc ρ = true) : ∀ y ∈ scope.names, y.2 = .local → scope.names.lookup y.1 = some .local := fun y hy e => by
  unfold compOk at h
  simp only [Bool.and_eq_true, List.all_eq_true, Bool.or_eq_true, beq_iff_eq] at h
  have := h.1.2 _ hy
  rw [e] at this
  simpa using this
theorem compOk_kind {scope : Scope} (h : compOk scope sc ρ = true) : scope.kind = .function := by
  unfold compOk at h
  simp only [Bool.and_eq_true, beq_iff_eq] at h
  exact h.1.1.1
theorem mem_frees {scope : Scope} {x : Str} (h : (x, NameKind.free) ∈ scope.names) : x ∈ freesOf scope := by
  unfold freesOf
  exact List.mem_map.mpr ⟨(x, .free), List.mem_filter.mpr ⟨h, by simp⟩, rfl⟩

/-- the frame of a comprehension -/
theorem Fs.comp {scope : Scope} {env : Env} {W : List Addr} {h h₁ : Heap} {I D : Addr} (F : Fs Z.H sc ρ env W h) (hok : compOk scope sc ρ = true) (k : Ext h h₁) (hI : h.get? I = none) (aI : ∃ o, h₁.get? I = some o)
    {h₂ h₃ : Heap} {o₀ : Obj} (e₂ : h₂ = h₁.push o₀) (hfree : o₀.isFreed = false) (eD : D = h₁.objs.size) (e₃ : h₃ = h₂.push { cls := .type "dict", data := .dict #[] }) {cl cs : List (Str × Addr)} (ecl : cl = closes env.cells scope.names [])
    (ecs : cs = cellsFrom h₃.objs.size scope.names cl) {env' : Env} (ev : env' = { newEnv scope h₂.objs.size env.globals cs env.qual none .none (some env) builtinsNs with scope := relabel scope env }) {h₄ : Heap} (e₄ : h₄ = pushCells h₃ scope.names) :
    ∃ N : List Addr, (∀ b ∈ N, h₁.get? b = none) ∧ D ∈ N ∧ ¬ All env' D ∧ h₂.objs.size ∈ N ∧ Fs Z.H scope (pick (freesOf scope) ρ) env' (I :: (N ++ W)) h₄ ∧ ¬ All env' I ∧ Ext h₁ h₄ ∧ h₄.get? D = some o₀ ∧ D ≠ h₂.objs.size ∧ (∀ b, Own scope env' b → h₁.get? b = none) ∧ env'.locals = h₂.objs.size := by
  have s₂ : h₂.objs.size = h₁.objs.size + 1 := by rw [e₂, Heap.size_push]
  have s₃ : h₃.objs.size = h₁.objs.size + 2 := by rw [e₃, Heap.size_push, s₂]
  have x₂ : Ext h₁ h₂ := e₂ ▸ ext_push
  have x₃ : Ext h₂ h₃ := e₃ ▸ ext_push
  have x₄ : Ext h₃ h₄ := fun b o e => e₄ ▸ pushCells_keeps _ _ b o e
  have x : Ext h₁ h₄ := fun b o e => x₄ b o (x₃ b o (x₂ b o e))
  have hsub : ∀ n c, cl.lookup n = some c → env.cells.lookup n = some c := fun n c e => closes_sub scope.names [] (fun _ _ e => nomatch e) n c (ecl ▸ e)
  have cellAt : ∀ n c, env.cells.lookup n = some c → ∃ o, h₁.get? c = some o := fun n c e => let ⟨u, ⟨o, eo, _⟩, _⟩ := F.cs n c e; ⟨o, k c o eo⟩
  have acc : AccOk cl h₃ := ⟨fun n c e => by obtain ⟨o, eo⟩ := cellAt n c (hsub n c e); exact Heap.lt_size (x₃ _ _ (x₂ _ _ eo)), fun n m c e e' => F.dc n m c (hsub n c e) (hsub m c e')⟩
  obtain ⟨g1, g2, g3, g4, g5⟩ := cells_gen scope.names h₃ cl acc
  rw [← ecs] at g1 g3 g4 g5
  rw [← e₄] at g1 g3
  have fresh : ∀ b, h₁.objs.size ≤ b → h₁.get? b = none := fun b hb => none_of_size hb
  have hfn : scope.kind = .function := by
    unfold compOk at hok
    simp only [Bool.and_eq_true, beq_iff_eq] at hok
    exact hok.1.1.1
  have eL : env'.locals = h₂.objs.size := by rw [ev]; rfl
  have eC : env'.cells = cs := by rw [ev]; rfl
  have hC : h₄.Ns h₂.objs.size fun _ => none := by
    have := Heap.Ns.new h₂ (.type "dict")
    rw [← e₃] at this
    exact this.keeps x₄
  have aD : h₄.get? D = some o₀ := x₄ _ _ (x₃ _ _ (by rw [e₂, eD]; exact Heap.get?_push_size _ hfree))
  have hDC : D ≠ h₂.objs.size := by rw [eD, s₂]; exact Nat.ne_of_lt (Nat.lt_succ_self _)
  have lI : I < h₁.objs.size := let ⟨o, e⟩ := aI; Heap.lt_size e
  -- each cell: of the frame around, or new
  have cells : ∀ n c, cs.lookup n = some c → (env.cells.lookup n = some c ∧ c < h₁.objs.size ∧ scope.names.lookup n = some .free) ∨ (h₁.objs.size + 2 ≤ c ∧ h₄.IsCell c none ∧ (n, NameKind.cell) ∈ scope.names) := fun n c e => by
    rcases g3 n c e with e' | ⟨a, b, d⟩
    · obtain ⟨o, eo⟩ := cellAt n c (hsub n c e')
      refine .inl ⟨hsub n c e', Heap.lt_size eo, ?_⟩
      rcases closes_mem scope.names [] n c (ecl ▸ e') with hm | hm
      · exact (compOk_free hok (mem_frees hm)).2.2
      · cases hm
    · exact .inr ⟨s₃ ▸ a, b, d⟩
  let N := h₂.objs.size :: D :: (scope.names.filterMap fun y => cs.lookup y.1).filter (fun c => h₁.objs.size + 2 ≤ c)
  have hN : ∀ b ∈ N, h₁.objs.size ≤ b := fun b hb => by
    rcases List.mem_cons.mp hb with rfl | hb
    · rw [s₂]; exact Nat.le_succ _
    · rcases List.mem_cons.mp hb with rfl | hb
      · rw [eD]; exact Nat.le_refl _
      · have := of_decide_eq_true (List.mem_filter.mp hb).2
        exact Nat.le_trans (Nat.le_add_right _ 2) this
  have nD : ¬ All env' D := fun q => by
    rcases q with q | ⟨n, q⟩
    · exact hDC (q.trans eL)
    · rw [eC] at q
      have eD' : @Eq Nat D h₁.objs.size := eD
      rcases cells n D q with ⟨_, a, _⟩ | ⟨a, _⟩
      · have a' : @LT.lt Nat _ D h₁.objs.size := a
        omega
      · have a' : @LE.le Nat _ (h₁.objs.size + 2) D := a
        omega
  have nI : ¬ All env' I := fun q => by
    rcases q with q | ⟨n, q⟩
    · have q' : @Eq Nat I h₂.objs.size := q.trans eL
      have lI' : @LT.lt Nat _ I h₁.objs.size := lI
      omega
    · rw [eC] at q
      rcases cells n I q with ⟨a, _, _⟩ | ⟨a, _⟩
      · obtain ⟨u, ⟨o, eo, _⟩, _⟩ := F.cs n I a; rw [hI] at eo; cases eo
      · have a' : @LE.le Nat _ (h₁.objs.size + 2) I := a
        have lI' : @LT.lt Nat _ I h₁.objs.size := lI
        omega
  have own' : ∀ b, Own scope env' b → b ∈ N ∧ h₁.objs.size ≤ b := fun b hb => by
    have hm : b ∈ N := by
      rcases hb with hb | ⟨n, hn, hb⟩
      · rw [hb, eL]; exact List.mem_cons_self
      · rw [eC] at hb
        rcases cells n b hb with ⟨_, _, a⟩ | ⟨a, _, _⟩
        · rw [a] at hn; cases hn
        · exact List.mem_cons_of_mem _ (List.mem_cons_of_mem _ (List.mem_filter.mpr ⟨List.mem_filterMap.mpr ⟨(n, .cell), mem_of_lookup hn, hb⟩, decide_eq_true a⟩))
    exact ⟨hm, hN b hm⟩
  have kp : Kp W h (I :: (N ++ W)) h₄ := fun b o nb e => ⟨fun hm => by
    rcases List.mem_cons.mp hm with rfl | hm
    · rw [hI] at e; cases e
    · rcases List.mem_append.mp hm with hm | hm
      · have := hN b hm
        exact Nat.lt_irrefl _ (Nat.lt_of_lt_of_le (Heap.lt_size (k b o e)) this)
      · exact nb hm, x b o (k b o e)⟩
  refine ⟨N, fun b hb => fresh b (hN b hb), List.mem_cons_of_mem _ List.mem_cons_self, nD, List.mem_cons_self, ?_, nI, x, aD, hDC, fun b ob => fresh b (own' b ob).2, eL⟩
  have hkk : ∀ x k, scope.names.lookup x = some k → kindIs (env'.kindOf x) k := fun x k e => by
    have e1 : env'.kindOf x = (scope.names.map fun (n, k) => if (k == NameKind.free && (env.scope.kind == .function && env.kindOf n == some .cell)) then (n, NameKind.cell) else (n, k)).lookup x := by
      rw [ev]
      show ((relabel scope env).names).lookup x = _
      unfold relabel
      simp only [Bool.and_assoc]
    rw [e1, relabel_lookup (env := env) (P := fun n => env.scope.kind == .function && env.kindOf n == some .cell) e]
    cases k <;> first | rfl | (show (some _ = some _ ∨ some _ = some _); split; exact .inl rfl; exact .inr rfl)
  have pk : ∀ x p, (pick (freesOf scope) ρ).lookup x = some p → ρ.lookup x = some p ∧ (sc.names.lookup x = some .cell ∨ sc.names.lookup x = some .free) ∧ scope.names.lookup x = some .free := fun x p e => by
    obtain ⟨a, b⟩ := pick_lookup e
    obtain ⟨_, c, d⟩ := compOk_free hok a
    exact ⟨b, c, d⟩
  refine ⟨?_, hkk, ?_, ?_, fun b o e => x b o (k b o (F.top b o e)), fun b hb => ?_, fun b hb => List.mem_cons_of_mem _ (List.mem_append_left _ (own' b hb).1), fun b hb => ?_, fun n e => ?_, fun n n' c e e' => ?_, ⟨_, eL ▸ hC, fun x p e l => ?_⟩, fun x c e => ?_, fun x e => ?_, fun x p e => ?_⟩
  · rw [ev]; exact hfn
  · rw [ev]; exact F.gl
  · rw [ev]; exact F.bi
  · rcases List.mem_cons.mp hb with rfl | hb
    · obtain ⟨o, e⟩ := aI; exact ⟨o, x _ _ e⟩
    · rcases List.mem_append.mp hb with hb | hb
      · rcases List.mem_cons.mp hb with rfl | hb
        · obtain ⟨o, _, _, e, _⟩ := hC; exact ⟨o, e⟩
        · rcases List.mem_cons.mp hb with rfl | hb
          · exact ⟨_, aD⟩
          · obtain ⟨hm, hle⟩ := List.mem_filter.mp hb
            obtain ⟨y, hy, hl⟩ := List.mem_filterMap.mp hm
            have hle' := of_decide_eq_true hle
            rcases cells y.1 b hl with ⟨_, a, _⟩ | ⟨_, ⟨o, e, _⟩, _⟩
            · exact absurd (Nat.lt_of_lt_of_le a (Nat.le_trans (Nat.le_add_right _ 2) hle')) (Nat.lt_irrefl _)
            · exact ⟨o, e⟩
      · obtain ⟨o, e⟩ := F.al b hb; exact ⟨o, x _ _ (k _ _ e)⟩
  · exact ext_size (fun b o e => k b o (F.top b o e)) (fresh b (own' b hb).2)
  · rw [eC, eL] at e
    rcases cells n _ e with ⟨_, a, _⟩ | ⟨a, _⟩
    · have a' : h₂.objs.size < h₁.objs.size := a
      omega
    · have a' : h₁.objs.size + 2 ≤ h₂.objs.size := a
      omega
  · rw [eC] at e e'; exact g1.inj n n' c e e'
  · rw [(pk x p e).2.2] at l; cases l
  · rw [eC] at e
    rcases cells x c e with ⟨a, b, d⟩ | ⟨a, b, d⟩
    · obtain ⟨u, ic, j⟩ := F.cs x c a
      refine ⟨u, (ic.keeps k).keeps ‹Ext h₁ h₄›, fun p l l' => ?_⟩
      obtain ⟨p1, p2, p3⟩ := pk x p l
      obtain ⟨v, e1, e2⟩ := j p p1 (by rcases p2 with p2 | p2 <;> rw [p2] <;> decide)
      exact ⟨v, e1, e2.kp kp⟩
    · refine ⟨none, b, fun p l l' => ?_⟩
      obtain ⟨p1, p2, p3⟩ := pk x p l
      rw [compOk_cell hok d] at p3
      cases p3
  · rw [eC]; exact g5 x (mem_of_lookup e)
  · obtain ⟨p1, p2, p3⟩ := pk x p e
    refine .inr ⟨.inr p3, ?_⟩
    rw [eC]
    obtain ⟨_, hc⟩ := (F.kd x p p1).resolve_left (by rcases p2 with p2 | p2 <;> rw [p2] <;> decide)
    refine g4 x ?_
    rw [ecl]
    exact closes_has scope.names [] x (mem_of_lookup p3) hc
end
end Mine
end

-- Comp6
section
open PySem PySem.Calls PySem.Spec PyProof.Rows
namespace Mine
section
variable {Z : Wo} {sc : Scope} {ρ : Nm}

theorem comp_core {env : Env} {W : List Addr} {s : Shared} {use : Option (Value → Sem Unit)} {Q : Value → Shared → Prop} {E : Value → Shared → Prop} {elt : Expr} {g : Comprehension} {gs : List Comprehension} {scope : Scope} {pos cpos : Pos}
    {ds : List PyData} {tb : PyData → Nm} {p : PyData → Bool} {f : PyData → List PyData} (F : Fs Z.H sc ρ env W s.heap) (hi : EvI Z sc ρ g.iter ds) (ha : g.is_async = 0) (hsl : ∀ env x, foldedSetIterable g.iter env x = pure x)
    (hok : compOk scope sc ρ = true) (htg : ∀ d ∈ ds, TgJ Z scope g.target d (tb d))
    (hfr : ∀ d ∈ ds, ∀ x q, (pick (freesOf scope) ρ).lookup x = some q → (tb d ++ pick (freesOf scope) ρ).lookup x = some q)
    (hts : ∀ d ∈ ds, TsJ Z scope (tb d ++ pick (freesOf scope) ρ) g.ifs (p d)) (hb : ∀ d ∈ ds, p d = true → GenJ Z elt (g :: gs) scope pos scope (tb d ++ pick (freesOf scope) ρ) 1 (f d))
    (hsz : (ds.flatMap fun d => if p d then f d else []).length ≤ sizeLine)
    (hQ : ∀ D C h tk ys m, s.heap.get? D = none → s.heap.get? C = none → C ≠ D → Ext s.heap h → h.Ns C m → h.PlainList D ys → RDs (C :: D :: W) h ys.toList (ds.flatMap fun d => if p d then f d else []) →
      compPost (model Z.prog Z.w) Z.A E use Q (.ref D) C (.ok .next) { s with heap := h, toks := tk }) :
    wpAny (model Z.prog Z.w) Z.A (comprehension (.ListComp elt (g :: gs) scope pos) scope env cpos (newList []) false (eval g.iter env) use) Q E s := by
  refine wpAny_comprehension_free (g := g) (gs := gs) (cl := closes env.cells scope.names []) rfl (hsl env) (closureFor_eq fun y hy e => ?_) (compOk_kind hok) (compOk_local hok) ?_
  · have hf : y.1 ∈ freesOf scope := mem_frees (by rw [← e]; exact hy)
    obtain ⟨a, b, c⟩ := compOk_free hok hf
    obtain ⟨q, hq⟩ := Option.isSome_iff_exists.mp a
    exact ((F.kd _ q hq).resolve_left (by rcases b with b | b <;> rw [b] <;> decide)).2
  refine hi env W s _ E F fun I s₂ k₂ hI it => ?_
  refine wpAny_newObj_type (new_cenv ?_)
  obtain ⟨h₁, tk₁, rfl, x₁⟩ := k₂
  dsimp only at it ⊢
  generalize e₂ : h₁.push { cls := .type "list", dict := none, data := .seq ([] : List Value).toArray } = h₂
  generalize e₃ : h₂.push { cls := .type "dict", data := .dict #[] } = h₃
  have s₃ : h₃.objs.size = h₂.objs.size + 1 := by rw [← e₃, Heap.size_push]
  rw [← s₃]
  generalize ev : ({ newEnv scope h₂.objs.size env.globals (cellsFrom h₃.objs.size scope.names (closes env.cells scope.names [])) env.qual none .none (some env) builtinsNs with scope := relabel scope env } : Env) = env'
  generalize e₄ : pushCells h₃ scope.names = h₄
  obtain ⟨N, hN, hD, nD, hC, F', nI, x₄, aD, hDC, own', eL⟩ := F.comp hok x₁ hI it.al e₂.symm rfl rfl e₃.symm rfl rfl ev.symm e₄.symm
  have hDn : s.heap.get? h₁.objs.size = none := ext_size x₁ (hN _ hD)
  have hCn : s.heap.get? h₂.objs.size = none := ext_size x₁ (hN _ hC)
  have hl₄ : h₄.PlainList h₁.objs.size #[] := ⟨0, aD⟩
  have x : Ext s.heap h₄ := fun b o e => x₄ b o (x₁ b o e)
  refine comp_loop (gens := g :: gs) (k := 0) (ds₀ := []) (W := N ++ W) rfl ha hsl htg hfr hts hb (s := { s with heap := h₄, toks := tk₁ }) (it.more x₄ hN) F' (ext_size F.top hI) nI (List.mem_append_left _ hD) nD (ext_size F.top hDn) hl₄ .nil (by simpa using hsz)
    fun h' tk' ys' F₅ hl₅ rs₅ kp₅ => ?_
  obtain ⟨m, hn, _⟩ := F₅.ns
  rw [eL] at hn
  rw [List.nil_append] at rs₅
  refine hQ h₁.objs.size h₂.objs.size h' tk' ys' m hDn hCn (fun q => hDC q.symm) (fun b o e => kp₅ b o (fun q => ?_) (fun q => ?_) (fun q => ?_) (x b o e)) hn hl₅ (rs₅.kp (Kp.drop fun b hb => ?_))
  · have := x₁ b o e
    rw [own' b q] at this; cases this
  · rw [q, hDn] at e; cases e
  · rw [q, hI] at e; cases e
  · rcases List.mem_cons.mp hb with rfl | hb
    · exact List.mem_append_left _ hC
    · rcases List.mem_cons.mp hb with rfl | hb
      · exact List.mem_append_left _ hD
      · exact List.mem_append_right _ hb

theorem Ev.comp {elt : Expr} {g : Comprehension} {gs : List Comprehension} {scope : Scope} {pos : Pos} {ds : List PyData} {tb : PyData → Nm} {p : PyData → Bool} {f : PyData → List PyData} (hi : EvI Z sc ρ g.iter ds) (ha : g.is_async = 0)
    (hsl : ∀ env x, foldedSetIterable g.iter env x = pure x) (hok : compOk scope sc ρ = true) (htg : ∀ d ∈ ds, TgJ Z scope g.target d (tb d))
    (hfr : ∀ d ∈ ds, ∀ x q, (pick (freesOf scope) ρ).lookup x = some q → (tb d ++ pick (freesOf scope) ρ).lookup x = some q)
    (hts : ∀ d ∈ ds, TsJ Z scope (tb d ++ pick (freesOf scope) ρ) g.ifs (p d)) (hb : ∀ d ∈ ds, p d = true → GenJ Z elt (g :: gs) scope pos scope (tb d ++ pick (freesOf scope) ρ) 1 (f d))
    (hsz : (ds.flatMap fun d => if p d then f d else []).length ≤ sizeLine) : Ev Z sc ρ (.ListComp elt (g :: gs) scope pos) (.list (ds.flatMap fun d => if p d then f d else [])) := fun env W s Q E F h => by
  rw [eval_ListComp]
  have e : firstAsync (g :: gs) = false := by
    obtain ⟨a, b, c, d⟩ := g
    show (d != 0) = false
    have : d = 0 := ha
    rw [this]; rfl
  rw [e]
  have e2 : firstIter (g :: gs) env = eval g.iter env := by obtain ⟨a, b, c, d⟩ := g; rfl
  rw [e2]
  refine comp_core F hi ha hsl hok htg hfr hts hb hsz fun D C h' tk ys m hD hC hCD x hn hl rs => ⟨m, hn, fun h'' hs => ?_⟩
  have x' : Ext s.heap h'' := fun b o e => (hs.2 b fun q => by rw [q, hC] at e; cases e).trans (x b o e)
  refine h (.ref D) _ ⟨h'', tk, rfl, x'⟩ (rd_isList (fun q => ?_) (let ⟨n, e⟩ := hl; ⟨n, (hs.2 D (Ne.symm hCD)).trans e⟩) (rs.kp fun b o nb e => ⟨fun q => nb (List.mem_cons_of_mem _ (List.mem_cons_of_mem _ q)), (hs.2 b fun q => nb (by rw [q]; exact List.mem_cons_self)).trans e⟩))
  obtain ⟨o, e⟩ := F.al D q
  rw [hD] at e; cases e

theorem flat_one {ds : List PyData} {p : PyData → Bool} {q : PyData → PyData} : (ds.flatMap fun d => if p d then [q d] else []) = (ds.filter p).map q := by
  induction ds with
  | nil => rfl
  | cons d r ih => cases h : p d <;> simp [List.flatMap_cons, h, ih]

/-- one clause -/
theorem Ev.comp1 {elt target iter : Expr} {ifs : List Expr} {scope : Scope} {pos : Pos} {ds : List PyData} {tb : PyData → Nm} {p : PyData → Bool} {q : PyData → PyData} (hi : EvI Z sc ρ iter ds)
    (hok : compOk scope sc ρ = true) (htg : ∀ d ∈ ds, TgJ Z scope target d (tb d))
    (hfr : ∀ d ∈ ds, ∀ x q, (pick (freesOf scope) ρ).lookup x = some q → (tb d ++ pick (freesOf scope) ρ).lookup x = some q)
    (hts : ∀ d ∈ ds, TsJ Z scope (tb d ++ pick (freesOf scope) ρ) ifs (p d)) (hb : ∀ d ∈ ds, p d = true → Ev Z scope (tb d ++ pick (freesOf scope) ρ) elt (q d))
    (hsz : ds.length ≤ sizeLine) (hsl : ∀ env x, foldedSetIterable iter env x = pure x := by intro _ _; rfl) : Ev Z sc ρ (.ListComp elt [⟨target, iter, ifs, 0⟩] scope pos) (.list ((ds.filter p).map q)) := by
  rw [← flat_one]
  refine Ev.comp (g := ⟨target, iter, ifs, 0⟩) hi rfl hsl hok htg hfr hts (fun d hd hp => GenJ.emit rfl (hb d hd hp)) ?_
  rw [flat_one, List.length_map]
  exact Nat.le_trans (List.length_filter_le _ _) hsz
end
end Mine
end

-- Fn
section
open PySem PySem.Calls PySem.Spec PyProof.Rows
namespace Mine

theorem bindL_other {kindOf : Str → Option NameKind} {x : Str} : ∀ (binds : List (Str × Value)) (m : Str → Option Value), x ∉ binds.map (·.1) → bindL kindOf binds m x = m x
  | [], m, _ => rfl
  | (n, v) :: r, m, h => by
    unfold bindL
    have h1 : x ≠ n := fun q => h (by simp [q])
    rw [bindL_other r _ (fun q => h (List.mem_cons_of_mem _ q))]
    split
    · exact if_neg h1
    · rfl
theorem bindC_other {kindOf : Str → Option NameKind} {x : Str} : ∀ (binds : List (Str × Value)) (m : Str → Option Value), x ∉ binds.map (·.1) → bindC kindOf binds m x = m x
  | [], m, _ => rfl
  | (n, v) :: r, m, h => by
    unfold bindC
    have h1 : x ≠ n := fun q => h (by simp [q])
    rw [bindC_other r _ (fun q => h (List.mem_cons_of_mem _ q))]
    split
    · rfl
    · exact if_neg h1
theorem bindL_at {kindOf : Str → Option NameKind} {x : Str} {v : Value} : ∀ (binds : List (Str × Value)) (m : Str → Option Value), (binds.map (·.1)).Nodup → binds.lookup x = some v → kindOf x = some .local → bindL kindOf binds m x = some v
  | [], m, _, h, _ => nomatch h
  | (n, u) :: r, m, hn, h, hk => by
    rw [List.map_cons, List.nodup_cons] at hn
    unfold bindL
    rw [List.lookup_cons] at h
    cases hb : x == n with
    | true =>
      rw [hb] at h; cases h
      have e := eq_of_beq hb
      subst e
      rw [bindL_other r _ hn.1, if_pos hk, if_pos rfl]
    | false => rw [hb] at h; exact bindL_at r _ hn.2 h hk
theorem bindC_at {kindOf : Str → Option NameKind} {x : Str} {v : Value} : ∀ (binds : List (Str × Value)) (m : Str → Option Value), (binds.map (·.1)).Nodup → binds.lookup x = some v → kindOf x ≠ some .local → bindC kindOf binds m x = some v
  | [], m, _, h, _ => nomatch h
  | (n, u) :: r, m, hn, h, hk => by
    rw [List.map_cons, List.nodup_cons] at hn
    unfold bindC
    rw [List.lookup_cons] at h
    cases hb : x == n with
    | true =>
      rw [hb] at h; cases h
      have e := eq_of_beq hb
      subst e
      rw [bindC_other r _ hn.1, if_neg hk, if_pos rfl]
    | false => rw [hb] at h; exact bindC_at r _ hn.2 h hk

/-- a body under way: s₀ the state at the call, N the objects of the call that may change -/
structure Bs (Z : Wo) (s₀ : Shared) (W₀ N : List Addr) (sc : Scope) (ρ : Nm) (env : Env) (s : Shared) : Prop where
  F : Fs Z.H sc ρ env (N ++ W₀) s.heap
  K : Kps s₀ s
  nw : ∀ b ∈ N, s₀.heap.get? b = none
  oN : ∀ b, All env b → b ∈ N
  tp : Ext Z.H s₀.heap

/-- a def of the text, as the heap holds it -/
structure DefAt (H : Heap) (a : Addr) (fd : FuncData) (body : List Stmt) : Prop where
  ob : ∃ o, H.get? a = some o ∧ o.data = .func fd
  code : H.CodeRec fd.code fd.qualname
  nolim : H.NoLimit
  body : fd.body = .stmts body
  clo : fd.closure = []
  gl : fd.globals = mainGlobals
  bi : fd.builtins = builtinsNs
  co : fd.scope.isCoroutine = false
  gen : fd.scope.isGenerator = false
  fn : fd.scope.kind = .function

theorem DefAt.callee {H : Heap} {a : Addr} {fd : FuncData} {body : List Stmt} (d : DefAt H a fd body) : Callee H (.ref a) := let ⟨o, h1, h2⟩ := d.ob; .fn a o fd h1 h2

theorem enter_def {Z : Wo} {a : Addr} {fd : FuncData} {body : List Stmt} (D : DefAt Z.H a fd body) {k : Nat} (rm : Rm (k + 1) Z.A) {s : Shared} {W : List Addr} {vals : List Value} {binds : List (Str × Value)} {ρ : Nm} {Q : Value → Shared → Prop} {E : Value → Shared → Prop}
    (top : Ext Z.H s.heap) (al : ∀ b ∈ W, ∃ o, s.heap.get? b = some o) (hbind : ∀ (Q : List (Str × Value) → Shared → Prop) (E : Value → Shared → Prop), Q binds s → wpAny (model Z.prog Z.w) Z.A.in1 (bindArgs fd ⟨vals, []⟩) Q E s)
    (hkind : ∀ x ∈ binds, fd.scope.names.lookup x.1 = some .local ∨ fd.scope.names.lookup x.1 = some .cell) (hnd : (binds.map (·.1)).Nodup)
    (hρ : ∀ x p, ρ.lookup x = some p → ∃ v, binds.lookup x = some v ∧ PVis W s.heap v p)
    (h : ∀ env N s₁, Rm k (Z.A.deeper env) → Bs { Z with A := Z.A.deeper env } s W N fd.scope ρ env s₁ →
      wpAny (model Z.prog Z.w) (Z.A.deeper env) (execs body env) (fun f s' => Q (match f with | .ret v => v | _ => .none) s') (fun _ _ => False) s₁) :
    wpAny (model Z.prog Z.w) Z.A (call (.ref a) vals) Q E s := by
  obtain ⟨o, ho, hd⟩ := D.ob
  refine wpAny_call (codeAny_call_function (by have := rm.2.2; omega) (top _ _ ho) hd D.co D.gen D.body (D.code.keeps top) (hbind _ _ ?_))
  rw [D.clo]
  have g := cells_gen fd.scope.names (s.heap.push { cls := .type "frame", data := .dict #[] }) [] ⟨fun _ _ e => (nomatch e), fun _ _ _ e => (nomatch e)⟩
  rw [Heap.size_push] at g
  obtain ⟨_, _, _, _, g5⟩ := g
  refine wpAny_newFunctionEnv_cells D.fn (fun x hx => (hkind x hx).imp id fun e => ⟨e, ?_⟩) fun env he s₁ X => ⟨(D.nolim.keeps top).keeps X.toInCall.keep, codeAny_func ?_⟩
  · obtain ⟨c, hc⟩ := g5 x.1 (mem_of_lookup e)
    rw [hc]; rfl
  refine wpAny_mono (h env (env.locals :: fd.scope.names.filterMap fun y => env.cells.lookup y.1) s₁ ⟨rm.1, by have := rm.2.1; show Z.A.units + 3 + 3 * k + 200 < cLine; omega, by have := rm.2.2; show Z.A.depth + 1 + k < recursionLimit; omega⟩ ?_) (fun f s' x => ?_) fun _ _ x => x.elim
  · subst he
    have hL : ∀ b, s.heap.objs.size ≤ b → s.heap.get? b = none := fun b hb => none_of_size hb
    have hmemN : ∀ n c, (cellsFrom (s.heap.objs.size + 1) fd.scope.names []).lookup n = some c → n ∈ fd.scope.names.map (·.1) := fun n c e => by
      have g' := cells_gen fd.scope.names (s.heap.push { cls := .type "frame", data := .dict #[] }) [] ⟨fun _ _ e => (nomatch e), fun _ _ _ e => (nomatch e)⟩
      rw [Heap.size_push] at g'
      rcases g'.2.2.1 n c e with e' | ⟨_, _, e'⟩
      · cases e'
      · exact List.mem_map.mpr ⟨_, e', rfl⟩
    have allN : ∀ b, All (newEnv fd.scope s.heap.objs.size fd.globals (cellsFrom (s.heap.objs.size + 1) fd.scope.names []) (fd.qualname ++ ".<locals>.") (some a) fd.code none fd.builtins) b →
        b ∈ (newEnv fd.scope s.heap.objs.size fd.globals (cellsFrom (s.heap.objs.size + 1) fd.scope.names []) (fd.qualname ++ ".<locals>.") (some a) fd.code none fd.builtins).locals ::
          fd.scope.names.filterMap fun y => (newEnv fd.scope s.heap.objs.size fd.globals (cellsFrom (s.heap.objs.size + 1) fd.scope.names []) (fd.qualname ++ ".<locals>.") (some a) fd.code none fd.builtins).cells.lookup y.1 := fun b hb => by
      rcases hb with rfl | ⟨n, e⟩
      · exact List.mem_cons_self
      · obtain ⟨y, hy, hyn⟩ := List.mem_map.mp (hmemN n b e)
        exact List.mem_cons_of_mem _ (List.mem_filterMap.mpr ⟨y, hy, by rw [hyn]; exact e⟩)
    have nwN : ∀ b ∈ (newEnv fd.scope s.heap.objs.size fd.globals (cellsFrom (s.heap.objs.size + 1) fd.scope.names []) (fd.qualname ++ ".<locals>.") (some a) fd.code none fd.builtins).locals ::
          fd.scope.names.filterMap fun y => (newEnv fd.scope s.heap.objs.size fd.globals (cellsFrom (s.heap.objs.size + 1) fd.scope.names []) (fd.qualname ++ ".<locals>.") (some a) fd.code none fd.builtins).cells.lookup y.1, s.heap.objs.size ≤ b := fun b hb => by
      rcases List.mem_cons.mp hb with rfl | hb
      · exact Nat.le_refl _
      · obtain ⟨y, _, e⟩ := List.mem_filterMap.mp hb
        exact Nat.le_of_lt (X.above _ _ (mem_of_lookup e))
    have kp : Kp W s.heap ((newEnv fd.scope s.heap.objs.size fd.globals (cellsFrom (s.heap.objs.size + 1) fd.scope.names []) (fd.qualname ++ ".<locals>.") (some a) fd.code none fd.builtins).locals ::
          (fd.scope.names.filterMap fun y => (newEnv fd.scope s.heap.objs.size fd.globals (cellsFrom (s.heap.objs.size + 1) fd.scope.names []) (fd.qualname ++ ".<locals>.") (some a) fd.code none fd.builtins).cells.lookup y.1) ++ W) s₁.heap := fun b o nb e =>
      ⟨fun hm => by
        rcases List.mem_append.mp hm with hm | hm
        · have := hL b (nwN b hm); rw [this] at e; cases e
        · exact nb hm, X.toInCall.keep b o e⟩
    refine ⟨⟨D.fn, fun x kd e => ?_, D.gl, D.bi, fun b o e => X.toInCall.keep b o (top b o e), fun b hb => ?_, fun b hb => List.mem_append_left _ (allN b hb.all), fun b hb => ext_size top (hL b (nwN b (allN b hb.all))), fun n e => ?_, fun n n' c e e' => ?_, ⟨_, X.toInCall.ns, fun x p e l => ?_⟩, fun x c e => ?_, fun x e => ?_, fun x p e => ?_⟩, ?_, fun b hb => hL b (nwN b hb), allN, top⟩
    · have e' : Env.kindOf (newEnv fd.scope s.heap.objs.size fd.globals (cellsFrom (s.heap.objs.size + 1) fd.scope.names []) (fd.qualname ++ ".<locals>.") (some a) fd.code none fd.builtins) x = some kd := e
      cases kd <;> first | exact e' | exact Or.inr e'
    · rcases List.mem_append.mp hb with hb | hb
      · rcases List.mem_cons.mp hb with rfl | hb
        · obtain ⟨o, _, _, e, _⟩ := X.toInCall.ns; exact ⟨o, e⟩
        · obtain ⟨y, _, e⟩ := List.mem_filterMap.mp hb
          obtain ⟨o, e, _⟩ := X.cell _ _ e; exact ⟨o, e⟩
      · obtain ⟨o, e⟩ := al b hb; exact ⟨o, X.toInCall.keep b o e⟩
    · exact Nat.lt_irrefl _ (X.above _ _ (mem_of_lookup e))
    · exact name_of_addr X.apart (mem_of_lookup e) (mem_of_lookup e')
    · obtain ⟨v, e1, e2⟩ := hρ x p e
      exact ⟨v, bindL_at _ _ hnd e1 l, e2.kp kp⟩
    · refine ⟨_, X.cell x c e, fun p l l' => ?_⟩
      obtain ⟨v, e1, e2⟩ := hρ x p l
      exact ⟨v, bindC_at _ _ hnd e1 l', e2.kp kp⟩
    · exact g5 x (mem_of_lookup e)
    · obtain ⟨v, e1, e2⟩ := hρ x p e
      rcases hkind _ (mem_of_lookup e1) with l | l
      · exact .inl l
      · exact .inr ⟨.inl l, g5 x (mem_of_lookup l)⟩
    · obtain ⟨h', tk, e⟩ := X.toInCall.same
      exact ⟨h', tk, e, by have := X.toInCall.keep; rw [e] at this; exact this⟩
  · cases f <;> exact x
end Mine
end

-- Bi
section
open PySem PySem.Calls PySem.Spec PyProof.Rows
namespace Mine
section
variable {Z : Wo}

theorem OpJ.addInt {a b : Int} : OpJ Z (binaryOp .Add) (.int a) (.int b) (.int (a + b)) := fun W s u v Q E _ ru rv h => by
  obtain ⟨t, rfl⟩ := ru.int_inv
  obtain ⟨t', rfl⟩ := rv.int_inv
  exact PyProof.Rows.add_int (h _ _ Kps.tok (rd_int _ _))
theorem OpJ.subInt {a b : Int} : OpJ Z (binaryOp .Sub) (.int a) (.int b) (.int (a - b)) := fun W s u v Q E _ ru rv h => by
  obtain ⟨t, rfl⟩ := ru.int_inv
  obtain ⟨t', rfl⟩ := rv.int_inv
  exact PyProof.Rows.sub_int (h _ _ Kps.tok (rd_int _ _))
theorem OpJ.modInt {a b : Int} (hb : b ≠ 0) : OpJ Z (binaryOp .Mod) (.int a) (.int b) (.int (a.fmod b)) := fun W s u v Q E _ ru rv h => by
  obtain ⟨t, rfl⟩ := ru.int_inv
  obtain ⟨t', rfl⟩ := rv.int_inv
  exact PyProof.Rows.mod_int hb (h _ _ Kps.tok (rd_int _ _))
theorem OpJ.divInt {a b : Int} (hb : b ≠ 0) (hp : Builtin.divisionGoesByPylong a b = false) : OpJ Z (binaryOp .FloorDiv) (.int a) (.int b) (.int (a.fdiv b)) := fun W s u v Q E _ ru rv h => by
  obtain ⟨t, rfl⟩ := ru.int_inv
  obtain ⟨t', rfl⟩ := rv.int_inv
  exact PyProof.Rows.floordiv_int hb (h _ _ Kps.tok (rd_int _ _)) (.inl hp)
theorem OpJ.ltInt {a b : Int} : OpJ Z (compareOp .Lt) (.int a) (.int b) (.bool (decide (a < b))) := fun W s u v Q E _ ru rv h => by
  obtain ⟨t, rfl⟩ := ru.int_inv
  obtain ⟨t', rfl⟩ := rv.int_inv
  exact PyProof.Rows.lt_int (h _ _ (Kps.refl s) (rd_bool _))
theorem OpJ.isNone {d : PyData} {b : Bool} (hd : ∀ W h v, RD W h v d → (v == Value.none) = b) : OpJ Z (compareOp .Is) d .none (.bool b) := fun W s u v Q E _ ru rv h => by
  obtain rfl := rv.none_inv
  exact PyProof.Rows.is_none_gen (by rw [hd W s.heap u ru]; exact h _ _ (Kps.refl s) (rd_bool _))
theorem OpJ.isNoneNone : OpJ Z (compareOp .Is) .none .none (.bool true) := OpJ.isNone fun W h v r => by rw [r.none_inv]; rfl
theorem OpJ.isNoneInt {i : Int} : OpJ Z (compareOp .Is) (.int i) .none (.bool false) := OpJ.isNone fun W h v r => by obtain ⟨t, rfl⟩ := r.int_inv; rfl

theorem OpJ.addList {xs ys : List PyData} (hsz : xs.length + ys.length ≤ sizeLine) : OpJ Z (binaryOp .Add) (.list xs) (.list ys) (.list (xs ++ ys)) := fun W s u v Q E al ru rv h => by
  obtain ⟨a, vs, rfl, ha, ⟨n, ho⟩, rs⟩ := ru.list_inv
  obtain ⟨b, us, rfl, hb, ⟨n', ho'⟩, rs'⟩ := rv.list_inv
  have h1 : vs.size = xs.length := by rw [← rs.length]; simp
  have h2 : us.size = ys.length := by rw [← rs'.length]; simp
  have r := rs.append rs'
  rw [← Array.toList_append] at r
  obtain ⟨a1, a2, a3⟩ := new_seq (c := "list") al r
  refine PySem.P.add_list ho ho' ?_ (by rw [h1, h2]; exact hsz)
  refine h _ _ (Kps.mk' ext_push) (rd_list a1 (vs := vs ++ us) (n := 0) ?_ (r.ext ext_push))
  exact Heap.get?_push_size _ rfl

theorem sub_tail {v i : Expr} {s : Shared} {o k : Value} {T id : String} {Q : Value → Shared → Prop} {E : Value → Shared → Prop} (hT : s.TypeIs o T) (hl : typeLookup (.type T) "__getitem__" = pure (some (.builtin id)))
    (hs : ∃ ops, subscripted i false o k = operate ops (getItem o k)) (h : wpAny (model Z.prog Z.w) Z.A (getItem o k) Q E s) : wpAny (model Z.prog Z.w) Z.A (subscriptTail v i o k) Q E s := by
  unfold subscriptTail
  refine wpAny_bind ?_
  rw [getitemInPython_of_ne hT.not_modules]
  refine wpAny_bind (wpAny_specialOf hT hl ?_)
  obtain ⟨ops, hs⟩ := hs
  have fin : wpAny (model Z.prog Z.w) Z.A (subscripted i false o k) (fun r s₃ => wpAny (model Z.prog Z.w) Z.A (letTemporaryGo v o r >>= fun _ => pure r) Q E s₃) E s := by
    rw [hs]
    exact wpAny_operating (wpAny_mono h (fun r s₃ h₃ => wpAny_bind (wpAny_letTemporaryGo (wpAny_pure h₃))) fun _ _ x => x)
  first
    | exact wpAny_pure (wpAny_bind fin)
    | exact wpAny_bind (wpAny_pure (wpAny_bind fin))
    | exact wpAny_bind fin

theorem OpJ.item {v i : Expr} {xs : List PyData} {k : Nat} {d : PyData} (hk : k < 1000000) (hx : xs[k]? = some d) (hs : ∀ o k, subscripted i false o k = operate [o, k] (getItem o k) := by intro _ _; rfl) :
    OpJ Z (subscriptTail v i) (.list xs) (.int k) d := fun W s u w Q E al ru rv h => by
  obtain ⟨a, vs, rfl, ha, hl, rs⟩ := ru.list_inv
  obtain ⟨t, rfl⟩ := rv.int_inv
  have hlen : vs.toList.length = xs.length := rs.length
  have hlt : k < xs.length := (List.getElem?_eq_some_iff.mp hx).1
  have hv : vs.toList[k]? = some vs.toList[k] := List.getElem?_eq_getElem (by omega)
  obtain ⟨d', e, r⟩ := rs.get k _ hv
  obtain rfl : d' = d := Option.some.inj (e.symm.trans hx)
  refine sub_tail hl.isList.typeIs slot_list_getitem.lookup ⟨_, hs _ _⟩ (wpAny_getItem_list hl.isList (by omega) (by omega) (x := vs.toList[k]) (by simpa using hv) (h _ _ (Kps.refl s) r))
theorem OpJ.itemT {v i : Expr} {xs : List PyData} {k : Nat} {d : PyData} (hk : k < 1000000) (hx : xs[k]? = some d) (hs : ∀ o k, subscripted i false o k = operate [o, k] (getItem o k) := by intro _ _; rfl) :
    OpJ Z (subscriptTail v i) (.tuple xs) (.int k) d := fun W s u w Q E al ru rv h => by
  obtain ⟨a, vs, n, rfl, ha, ho, rs⟩ := ru.tuple_inv
  obtain ⟨t, rfl⟩ := rv.int_inv
  have hlen : vs.toList.length = xs.length := rs.length
  have hlt : k < xs.length := (List.getElem?_eq_some_iff.mp hx).1
  have hv : vs.toList[k]? = some vs.toList[k] := List.getElem?_eq_getElem (by omega)
  obtain ⟨d', e, r⟩ := rs.get k _ hv
  obtain rfl : d' = d := Option.some.inj (e.symm.trans hx)
  have hT : s.TypeIs (.ref a) "tuple" := ⟨_, ho, rfl⟩
  have hsz : vs.size = xs.length := by rw [← hlen]; simp
  refine sub_tail hT slot_tuple_getitem.lookup ⟨_, hs _ _⟩ (PyProof.Rows.getItem_tuple (items := vs) (j := k) ⟨_, ho, rfl, n, rfl⟩ (by omega) (by omega) ?_ (x := vs.toList[k]) (by simpa using hv) (h _ _ (Kps.refl s) r))
  unfold seqIndex?
  simp
  omega

theorem call_len (rm : Rm 0 Z.A) {xs : List PyData} (hsz : xs.length < 1000000) : CallOK Z (.builtin "len") [.list xs] (.int xs.length) := fun W s vs Q E top al rs h => by
  obtain ⟨v, vs', rfl, r, rs⟩ := rs.cons_inv
  rw [rs.nil_inv]
  obtain ⟨a, us, rfl, ha, hl, rs⟩ := r.list_inv
  have hlen : us.size = xs.length := by rw [← rs.length]; simp
  refine call_len_list hl.isList (by omega) ?_
  rw [hlen]
  exact h _ _ Kps.tok (rd_int _ _)
theorem call_max (rm : Rm 0 Z.A) {a b : Int} : CallOK Z (.builtin "max") [.int a, .int b] (.int (max a b)) := fun W s vs Q E top al rs h => by
  obtain ⟨v, vs', rfl, r, rs⟩ := rs.cons_inv
  obtain ⟨u, vs', rfl, r', rs⟩ := rs.cons_inv
  rw [rs.nil_inv]
  obtain ⟨t, rfl⟩ := r.int_inv
  obtain ⟨t', rfl⟩ := r'.int_inv
  refine max_two_ints rm.1 fun h' tk k => ?_
  by_cases hb : b > a
  · rw [if_pos hb]
    exact h _ _ (Kps.mk' k) (by rw [show max a b = b by omega]; exact rd_int _ _)
  · rw [if_neg hb]
    exact h _ _ (Kps.mk' k) (by rw [show max a b = a by omega]; exact rd_int _ _)
theorem call_min (rm : Rm 0 Z.A) {a b : Int} : CallOK Z (.builtin "min") [.int a, .int b] (.int (min a b)) := fun W s vs Q E top al rs h => by
  obtain ⟨v, vs', rfl, r, rs⟩ := rs.cons_inv
  obtain ⟨u, vs', rfl, r', rs⟩ := rs.cons_inv
  rw [rs.nil_inv]
  obtain ⟨t, rfl⟩ := r.int_inv
  obtain ⟨t', rfl⟩ := r'.int_inv
  refine min_two_ints rm.1 fun h' tk k => ?_
  by_cases hb : b < a
  · rw [if_pos hb]
    exact h _ _ (Kps.mk' k) (by rw [show min a b = b by omega]; exact rd_int _ _)
  · rw [if_neg hb]
    exact h _ _ (Kps.mk' k) (by rw [show min a b = a by omega]; exact rd_int _ _)
theorem call_sum (rm : Rm 0 Z.A) {ns : List Int} : CallOK Z (.builtin "sum") [.list (ns.map .int)] (.int ns.sum) := fun W s vs Q E top al rs h => by
  obtain ⟨v, vs', rfl, r, rs⟩ := rs.cons_inv
  rw [rs.nil_inv]
  obtain ⟨a, us, rfl, ha, hl, rs⟩ := r.list_inv
  have hi := rs.ints
  obtain ⟨xs, hx⟩ := PySem.AllInts.items (vs := us) hi.allInts
  refine sum_intListG rm.1 (xs := xs) (hx ▸ hl.isList) fun h' tk t' k => ?_
  have e : preSum (numAt xs) xs.size = ns.sum := by
    rw [preSum_eq, List.take_of_length_le (by simp), ← nums_intItems, ← hx, hi.numsOf]
  rw [e]
  exact h _ _ (Kps.mk' k) (rd_int _ _)

theorem sorted_unique {l₁ l₂ : List Int} (hp : l₁.Perm l₂) (h1 : l₁.Pairwise (· ≤ ·)) (h2 : l₂.Pairwise (· ≤ ·)) : l₁ = l₂ :=
  hp.eq_of_pairwise (fun a b _ _ h h' => Int.le_antisymm h h') h1 h2

theorem call_sorted (rm : Rm 0 Z.A) {ns out : List Int} (hsz : ns.length < 64) (hp : out.Perm ns) (ho : out.Pairwise (· ≤ ·)) : CallOK Z (.builtin "sorted") [.list (ns.map .int)] (.list (out.map .int)) := fun W s vs Q E top al rs h => by
  obtain ⟨v, vs', rfl, r, rs⟩ := rs.cons_inv
  rw [rs.nil_inv]
  obtain ⟨a, us, rfl, ha, hl, rs⟩ := r.list_inv
  have hi := rs.ints
  refine sorted_ints (vs := us.toList) (by rw [Array.toArray_toList]; exact hl.isList) hi (by rw [rs.length]; simpa using hsz) fun o' ns' hi' hp' hs' => ?_
  have e : ns' = out := sorted_unique (hp'.trans hp.symm) hs' ho
  subst e
  obtain ⟨n, hat⟩ := sortedAll_at s.heap us.toList o'
  have hnW : s.heap.objs.size + 1 ∉ W := fun hb => by
    obtain ⟨o, e⟩ := al _ hb
    have : @LT.lt Nat _ (s.heap.objs.size + 1) s.heap.objs.size := Heap.lt_size e
    omega
  exact h _ _ ⟨_, s.toks, rfl, fun b o e => sortedAll_old e⟩ (rd_list hnW hat (rds_ints hi'))
end
end Mine
end

-- St
section
open PySem PySem.Calls PySem.Spec PyProof.Rows
namespace Mine
section
variable {Z : Wo} {sc : Scope} {ρ : Nm}

theorem size_notin {h : Heap} {W : List Addr} (al : ∀ b ∈ W, ∃ o, h.get? b = some o) {a : Addr} (ha : h.objs.size ≤ a) : a ∉ W := fun hb => by
  obtain ⟨o, e⟩ := al _ hb
  exact Nat.lt_irrefl _ (Nat.lt_of_lt_of_le (Heap.lt_size e) ha)

/-- a slice of a list -/
theorem slice_tail {v i : Expr} {W : List Addr} {s : Shared} {l : Addr} {items : Array Value} {vl vu vk : Value} {lo hi st : Option Int} {ds : List PyData} {Q : Value → Shared → Prop} {E : Value → Shared → Prop} (al : ∀ b ∈ W, ∃ o, s.heap.get? b = some o)
    (hl : s.heap.IsList l items) (pl : IsPart vl lo) (pu : IsPart vu hi) (pk : IsPart vk st) (h0 : st ≠ some 0) (hsz : items.size ≤ sizeLine) (hs : ∃ ops, subscripted i false (.ref l) (.ref s.heap.objs.size) = operate ops (getItem (.ref l) (.ref s.heap.objs.size)))
    (rs : RDs W s.heap (slicePick items lo hi st).toList ds) (h : ∀ v s', Kps s s' → RD W s'.heap v (.list ds) → Q v s') :
    wpAny (model Z.prog Z.w) Z.A (subscriptTail v i (.ref l) (.ref s.heap.objs.size)) Q E { s with heap := s.heap.push { cls := .type "slice", data := .fields #[vl, vu, vk] } } := by
  refine sub_tail (Heap.IsList.typeIs (s := { s with heap := s.heap.push { cls := .type "slice", data := .fields #[vl, vu, vk] } }) (hl.push _)) list_getitem_lookup hs
    (wpAny_getItem_list_slice (hl.push _) (Heap.IsSliceOf.new ..) pl pu pk h0 ?_ hsz)
  have x : Ext s.heap ((s.heap.push { cls := .type "slice", data := .fields #[vl, vu, vk] }).push { cls := .type "list", data := .seq (slicePick items lo hi st) }) := fun b o e => Heap.get?_push_of_some _ (Heap.get?_push_of_some _ e)
  refine h _ _ ⟨_, s.toks, rfl, x⟩ (rd_list (n := 0) (size_notin al (by rw [Heap.size_push]; exact Nat.le_succ _)) (Heap.get?_push_size _ rfl) (rs.ext x))

theorem RDs.reverse {W : List Addr} {h : Heap} : ∀ {vs : List Value} {ds : List PyData}, RDs W h vs ds → RDs W h vs.reverse ds.reverse
  | [], ds, r => by obtain ⟨_, r⟩ := r; cases r; exact .nil
  | v :: vs, ds, r => by
    obtain ⟨d, ds', rfl, r1, r2⟩ := r.cons_inv'
    rw [List.reverse_cons, List.reverse_cons]
    exact (RDs.reverse r2).snoc r1
theorem RDs.take {W : List Addr} {h : Heap} : ∀ {vs : List Value} {ds : List PyData} (n : Nat), RDs W h vs ds → RDs W h (vs.take n) (ds.take n)
  | _, _, 0, _ => .nil
  | [], ds, n + 1, r => by obtain ⟨_, r⟩ := r; cases r; exact .nil
  | v :: vs, ds, n + 1, r => by
    obtain ⟨d, ds', rfl, r1, r2⟩ := r.cons_inv'
    exact .cons r1 (RDs.take n r2)

theorem Ev.rev {v : Expr} {p1 p2 p3 p4 : Pos} {k : Nat} {xs : List PyData} (h1 : Ev Z sc ρ v (.list xs)) (hsz : xs.length ≤ sizeLine) :
    Ev Z sc ρ (.Subscript v (.Slice Option.none Option.none (some (.UnaryOp .USub (.Constant (.int 1) k p1) p2)) p3) p4) (.list xs.reverse) := fun env W s Q E F h => by
  refine Subscript_ (h1 env W s _ E F fun x s₁ k₁ r₁ => ?_)
  obtain ⟨l, vs, rfl, hl, ⟨n, ho⟩, rs⟩ := r₁.list_inv
  refine wpAny_Slice ?_
  rw [evalPart_none, evalPart_some]
  refine wpAny_pure (wpAny_pure (UnaryOp_ (wpAny_Constant_int (PyProof.Rows.neg_int ?_))))
  have F₁ := F.keeps k₁
  obtain ⟨h₁, tk₁, rfl, x₁⟩ := k₁
  refine slice_tail (s := { s with heap := h₁, toks := tk₁ + 1 + 1 }) (W := W) (items := vs) F₁.al (Heap.PlainList.isList ⟨n, ho⟩) .none .none (.int _ _) (by decide) (by rw [← Array.length_toList, rs.length]; exact hsz) ⟨_, rfl⟩ (ds := xs.reverse) (by
    rw [show (-1 : Int) = -1 from rfl, PySem.W.krv_pick]
    exact rs.reverse) fun v s' k r => h v s' ?_ r
  obtain ⟨h₂, tk₂, rfl, x₂⟩ := k
  exact ⟨h₂, tk₂, rfl, fun b o e => x₂ b o (x₁ b o e)⟩

variable {s₀ : Shared} {W₀ N : List Addr} {env : Env} {s : Shared}
theorem Bs.keeps {s' : Shared} (B : Bs Z s₀ W₀ N sc ρ env s) (k : Kps s s') : Bs Z s₀ W₀ N sc ρ env s' := ⟨B.F.keeps k, B.K.trans k, B.nw, B.oN, B.tp⟩
theorem Bs.names {ρ' : Nm} (B : Bs Z s₀ W₀ N sc ρ env s) (h : ∀ x p, ρ'.lookup x = some p → ρ.lookup x = some p) : Bs Z s₀ W₀ N sc ρ' env s := ⟨B.F.names fun x p e => ⟨p, h x p e, fun v r => r⟩, B.K, B.nw, B.oN, B.tp⟩

theorem Bs.top (B : Bs Z s₀ W₀ N sc ρ env s) : Ext Z.H s.heap := fun b o e => B.K.ext b o (B.tp b o e)
theorem Bs.res (B : Bs Z s₀ W₀ N sc ρ env s) {v : Value} {d : PyData} (r : RD (N ++ W₀) s.heap v d) : RD W₀ s.heap v d := r.kp (Kp.drop fun b hb => List.mem_append_right _ hb)

theorem Bs.store {x : Str} {v : Value} {p : PV} {M : Model} {A : Around} {Q : Unit → Shared → Prop} {E : Value → Shared → Prop} (B : Bs Z s₀ W₀ N sc ρ env s) (hp : PVis (N ++ W₀) s.heap v p) (hx : sc.names.lookup x = some .local ∨ sc.names.lookup x = some .cell)
    (h : ∀ h' tk, Bs Z s₀ W₀ N sc ((x, p) :: ρ) env { s with heap := h', toks := tk } → (∀ b, ¬ All env b → h'.get? b = s.heap.get? b) → Q () { s with heap := h', toks := tk }) :
    wpAny M A (storeName env x v) Q E s := by
  refine store_fs B.F hx hp fun h' tk F' k => h h' tk ⟨F', ?_, B.nw, B.oN, B.tp⟩ fun b nb => k b fun q => nb q.all
  obtain ⟨h₁, t₁, e, x₁⟩ := B.K
  refine ⟨h', tk, by rw [e], fun b o eb => ?_⟩
  have nb : ¬ Own sc env b := fun q => by have := B.nw b (B.oN b q.all); rw [this] at eb; cases eb
  rw [k b nb, e]
  exact x₁ b o eb

/-- x = e -/
theorem Bs.assign {x : Str} {px pos : Pos} {e : Expr} {d : PyData} {Q : Flow → Shared → Prop} {E : Value → Shared → Prop} (B : Bs Z s₀ W₀ N sc ρ env s) (he : Ev Z sc ρ e d) (hx : sc.names.lookup x = some .local ∨ sc.names.lookup x = some .cell)
    (hs : swapsWith e (some (.Name x px)) pos.line env = pure false)
    (h : ∀ s', Bs Z s₀ W₀ N sc ((x, .dat d) :: ρ) env s' → (∀ b o, ¬ All env b → s.heap.get? b = some o → s'.heap.get? b = some o) → Q .next s') : wpAny (model Z.prog Z.w) Z.A (exec (.Assign [.Name x px] e pos) env) Q E s :=
  wpAny_Assign_Name (he env _ s _ E B.F fun v s₁ k₁ r₁ => (B.keeps k₁).store (p := .dat d) r₁ hx fun h' tk B' k => h _ B' fun b o nb e => (k b nb).trans (k₁.ext b o e)) hs

/-- return e -/
theorem Bs.ret {pos : Pos} {e : Expr} {d : PyData} {Q : Flow → Shared → Prop} {E : Value → Shared → Prop} (B : Bs Z s₀ W₀ N sc ρ env s) (he : Ev Z sc ρ e d) (h : ∀ v s', Kps s₀ s' → RD W₀ s'.heap v d → Q (.ret v) s') :
    wpAny (model Z.prog Z.w) Z.A (exec (.Return (some e) pos) env) Q E s :=
  wpAny_Return_some (he env _ s _ E B.F fun v s₁ k₁ r₁ => h v s₁ (B.K.trans k₁) ((B.keeps k₁).res r₁))

theorem Bs.ifs {t : Expr} {a b : List Stmt} {pos : Pos} {c : Bool} {Q : Flow → Shared → Prop} {E : Value → Shared → Prop} (B : Bs Z s₀ W₀ N sc ρ env s) (ht : EvT Z sc ρ t c)
    (h1 : c = true → ∀ s', Kps s s' → Bs Z s₀ W₀ N sc ρ env s' → wpAny (model Z.prog Z.w) Z.A (execs a env) Q E s') (h2 : c = false → ∀ s', Kps s s' → Bs Z s₀ W₀ N sc ρ env s' → wpAny (model Z.prog Z.w) Z.A (execs b env) Q E s') :
    wpAny (model Z.prog Z.w) Z.A (exec (.If t a b pos) env) Q E s := by
  refine wpAny_If (ht env _ s _ E B.F fun s₁ k₁ => ?_)
  cases c with
  | true => exact h1 rfl s₁ k₁ (B.keeps k₁)
  | false => exact h2 rfl s₁ k₁ (B.keeps k₁)

/-- a list of one's own: D holds ys, and these read as ds -/
structure ML (W₀ N : List Addr) (D : Addr) (ds : List PyData) (h : Heap) : Prop where
  ex : ∃ ys, h.PlainList D ys ∧ RDs (N ++ W₀) h ys.toList ds
theorem ML.move {W₀ N : List Addr} {D : Addr} {ds : List PyData} {h h' : Heap} (m : ML W₀ N D ds h) (hD : ∀ o, h.get? D = some o → h'.get? D = some o) (k : Kp (N ++ W₀) h (N ++ W₀) h') : ML W₀ N D ds h' :=
  let ⟨ys, ⟨n, e⟩, r⟩ := m.ex; ⟨ys, ⟨n, hD _ e⟩, r.kp k⟩
theorem ML.ext {W₀ N : List Addr} {D : Addr} {ds : List PyData} {h h' : Heap} (m : ML W₀ N D ds h) (k : Ext h h') : ML W₀ N D ds h' := m.move (fun o e => k D o e) (Kp.of_ext k)
theorem ML.more {W₀ N : List Addr} {D I : Addr} {ds : List PyData} {h h' : Heap} (m : ML W₀ N D ds h) (k : Ext h h') (hI : h.get? I = none) : ML W₀ (I :: N) D ds h' :=
  let ⟨ys, ⟨n, e⟩, r⟩ := m.ex; ⟨ys, ⟨n, k _ _ e⟩, r.kp fun b o nb e => ⟨fun hm => by
    rcases List.mem_cons.mp hm with rfl | hm
    · rw [hI] at e; cases e
    · exact nb hm, k b o e⟩⟩
theorem ML.less {W₀ N : List Addr} {D I : Addr} {ds : List PyData} {h : Heap} (m : ML W₀ (I :: N) D ds h) : ML W₀ N D ds h :=
  let ⟨ys, e, r⟩ := m.ex; ⟨ys, e, r.kp (Kp.drop fun b hb => List.mem_cons_of_mem _ hb)⟩

/-- x = [e, ..], the list one's own from here on -/
theorem Bs.newList {x : Str} {px p pos : Pos} {es : List Expr} {ds : List PyData} {Q : Flow → Shared → Prop} {E : Value → Shared → Prop} (B : Bs Z s₀ W₀ N sc ρ env s) (he : EvL Z sc ρ es ds) (hsz : ds.length ≤ sizeLine) (hx : sc.names.lookup x = some .local ∨ sc.names.lookup x = some .cell)
    (h : ∀ D s', Bs Z s₀ W₀ (D :: N) sc ((x, .val (.ref D)) :: ρ) env s' → ML W₀ (D :: N) D ds s'.heap → ¬ All env D → D ∉ N ++ W₀ → Q .next s') : wpAny (model Z.prog Z.w) Z.A (exec (.Assign [.Name x px] (.List es p) pos) env) Q E s := by
  refine wpAny_Assign_Name (List_ (he env _ p s _ E B.F fun vs s₁ k₁ r₁ => ?_)) rfl
  have B₁ := B.keeps k₁
  refine newList_rd B₁.F.al r₁ hsz fun k₂ r₂ => ?_
  have hnone : s₁.heap.get? s₁.heap.objs.size = none := none_of_size (Nat.le_refl _)
  obtain ⟨F', nD, _⟩ := B₁.F.hideNew k₂.ext hnone ⟨_, Heap.get?_push_size _ rfl⟩
  have B₂ : Bs Z s₀ W₀ (s₁.heap.objs.size :: N) sc ρ env { s₁ with heap := s₁.heap.push { cls := .type "list", data := .seq vs.toArray } } :=
    ⟨F', B₁.K.trans k₂, fun b hb => by
      rcases List.mem_cons.mp hb with rfl | hb
      · exact ext_size B₁.K.ext hnone
      · exact B.nw b hb, fun b hb => List.mem_cons_of_mem _ (B.oN b hb), B.tp⟩
  have hDN : s₁.heap.objs.size ∉ N ++ W₀ := size_notin B₁.F.al (Nat.le_refl _)
  have m : ML W₀ (s₁.heap.objs.size :: N) s₁.heap.objs.size ds (s₁.heap.push { cls := .type "list", data := .seq vs.toArray }) :=
    ⟨vs.toArray, ⟨0, Heap.get?_push_size _ rfl⟩, by
      rw [List.toList_toArray]
      exact r₁.kp fun b o nb e => ⟨fun hm => by
        rcases List.mem_cons.mp hm with rfl | hm
        · rw [hnone] at e; cases e
        · exact nb hm, Heap.get?_push_of_some _ e⟩⟩
  refine B₂.store (p := .val (.ref s₁.heap.objs.size)) rfl hx fun h' tk B' k => h _ _ B' (m.move (fun o e => (k _ nD).trans e) fun b o nb e => ⟨nb, (k b fun q => nb (List.mem_append_left _ (List.mem_cons_of_mem _ (B.oN b q)))).trans e⟩) nD hDN
end
end Mine
end

-- Lp
section
open PySem PySem.Calls PySem.Spec PyProof.Rows
namespace Mine
section
variable {Z : Wo} {sc : Scope} {ρ : Nm} {s₀ : Shared} {W₀ N : List Addr} {env : Env} {s : Shared}

theorem Bs.more {I : Addr} {s' : Shared} (B : Bs Z s₀ W₀ N sc ρ env s) (k : Kps s s') (hI : s.heap.get? I = none) (al : ∃ o, s'.heap.get? I = some o) : Bs Z s₀ W₀ (I :: N) sc ρ env s' ∧ ¬ All env I ∧ I ∉ N := by
  obtain ⟨F', nD, _⟩ := B.F.hideNew k.ext hI al
  refine ⟨⟨F', B.K.trans k, fun b hb => ?_, fun b hb => List.mem_cons_of_mem _ (B.oN b hb), B.tp⟩, nD, fun hb => ?_⟩
  · rcases List.mem_cons.mp hb with rfl | hb
    · exact ext_size B.K.ext hI
    · exact B.nw b hb
  · obtain ⟨o, e⟩ := B.F.al I (List.mem_append_left _ hb)
    rw [hI] at e; cases e

/-- only the object I (no name's) has changed -/
theorem Bs.touch {I : Addr} {h : Heap} {tk : Nat} (B : Bs Z s₀ W₀ (I :: N) sc ρ env s) (nI : ¬ All env I) (k : ∀ b o, b ≠ I → s.heap.get? b = some o → h.get? b = some o) (al : ∃ o, h.get? I = some o) :
    Bs Z s₀ W₀ (I :: N) sc ρ env { s with heap := h, toks := tk } := by
  have hn : s₀.heap.get? I = none := B.nw I List.mem_cons_self
  have K : Kps s₀ { s with heap := h, toks := tk } := by
    obtain ⟨h₁, t₁, e, x₁⟩ := B.K
    refine ⟨h, tk, by rw [e], fun b o eb => k b o (fun q => ?_) (by rw [e]; exact x₁ b o eb)⟩
    rw [q, hn] at eb; cases eb
  refine ⟨B.F.move (fun b o nb e => ⟨nb, k b o (fun q => nb (by rw [q]; exact List.mem_cons_self)) e⟩) (fun b o ob e => k b o (fun q => nI (q ▸ ob)) e) (fun b o e => K.ext b o (B.tp b o e)) B.F.own (fun b hb => ?_), K, B.nw, B.oN, B.tp⟩
  by_cases q : b = I
  · subst q; exact al
  · obtain ⟨o, e⟩ := B.F.al b hb; exact ⟨o, k b o q e⟩
theorem Bs.drop {I : Addr} {h : Heap} {tk : Nat} (B : Bs Z s₀ W₀ (I :: N) sc ρ env s) (nI : ¬ All env I) (nN : I ∉ N ++ W₀) (k : ∀ b o, b ≠ I → s.heap.get? b = some o → h.get? b = some o) :
    Bs Z s₀ W₀ N sc ρ env { s with heap := h, toks := tk } := by
  have hn : s₀.heap.get? I = none := B.nw I List.mem_cons_self
  have oN : ∀ b, All env b → b ∈ N := fun b hb => (List.mem_cons.mp (B.oN b hb)).resolve_left fun q => nI (q ▸ hb)
  have K : Kps s₀ { s with heap := h, toks := tk } := by
    obtain ⟨h₁, t₁, e, x₁⟩ := B.K
    refine ⟨h, tk, by rw [e], fun b o eb => k b o (fun q => ?_) (by rw [e]; exact x₁ b o eb)⟩
    rw [q, hn] at eb; cases eb
  refine ⟨B.F.move (fun b o nb e => ⟨fun q => nb (List.mem_cons_of_mem _ q), k b o (fun q => nb (by rw [q]; exact List.mem_cons_self)) e⟩) (fun b o ob e => k b o (fun q => nI (q ▸ ob)) e) (fun b o e => K.ext b o (B.tp b o e))
    (fun b ob => List.mem_append_left _ (oN b ob.all)) (fun b hb => ?_), K, fun b hb => B.nw b (List.mem_cons_of_mem _ hb), oN, B.tp⟩
  obtain ⟨o, e⟩ := B.F.al b (List.mem_cons_of_mem _ hb)
  exact ⟨o, k b o (fun q => nN (q ▸ hb)) e⟩

def ForInv (Z : Wo) (sc : Scope) (s₀ : Shared) (W₀ N : List Addr) (env : Env) (ρJ : Nat → Nm) (K : Addr → Nat → Heap → Prop) (St : Nat → Heap → Prop) (I : Addr) (n : Nat) (base : Shared) (k : Nat) (s' : Shared) : Prop :=
  ∃ i, i ≤ n ∧ k = n + 1 - i ∧ St i s'.heap ∧ Bs Z s₀ W₀ (I :: N) sc (ρJ i) env s' ∧ K I i s'.heap ∧ Kp (I :: (N ++ W₀)) base.heap (I :: (N ++ W₀)) s'.heap

/-- a for loop over data, its turn by an invariant -/
theorem Bs.forIn {x : Str} {px pos : Pos} {iter : Expr} {body : List Stmt} {ds : List PyData} {Q : Flow → Shared → Prop} {E : Value → Shared → Prop} (ρJ : Nat → Nm) (K : Addr → Nat → Heap → Prop)
    (B : Bs Z s₀ W₀ N sc ρ env s) (hi : EvI Z sc ρ iter ds) (hx : sc.names.lookup x = some .local ∨ sc.names.lookup x = some .cell) (hρ : ∀ y p, (ρJ 0).lookup y = some p → ρ.lookup y = some p)
    (h0 : ∀ I s', Kps s s' → s.heap.get? I = none → K I 0 s'.heap)
    (hK : ∀ I i h h', I ∉ N → K I i h → (∀ b o, ¬ All env b → b ≠ I → h.get? b = some o → h'.get? b = some o) → K I i h')
    (turn : ∀ I i d s' E', I ∉ N → ¬ All env I → ds[i]? = some d → Bs Z s₀ W₀ (I :: N) sc ((x, .dat d) :: ρJ i) env s' → K I i s'.heap → wpAny (model Z.prog Z.w) Z.A (execs body env) (fun f s'' => match f with
      | .next => Bs Z s₀ W₀ (I :: N) sc (ρJ (i + 1)) env s'' ∧ K I (i + 1) s''.heap ∧ (∀ b o, b ∉ N → s'.heap.get? b = some o → s''.heap.get? b = some o)
      | .cont => False
      | .brk => False
      | .ret v => Q (.ret v) s'') E' s')
    (hend : ∀ I s', I ∉ N → Bs Z s₀ W₀ N sc (ρJ ds.length) env s' → K I ds.length s'.heap → Q .next s')
    (hsl : ∀ env x, foldedSetIterable iter env x = pure x := by intro _ _; rfl) : wpAny (model Z.prog Z.w) Z.A (exec (.For (.Name x px) iter body [] pos) env) Q E s := by
  refine wpAny_For (hi env _ s _ E B.F fun I s₁ k₁ hI it => ?_) (hsl env)
  obtain ⟨B₁, nI, nN⟩ := B.more k₁ hI it.al
  have K₀ := h0 I s₁ k₁ hI
  obtain ⟨⟨fp, P, St, Wk, st0, hfp, hP, hal⟩, nw⟩ := it
  refine codeAny_forLoop (ForInv Z sc s₀ W₀ N env ρJ K St I ds.length s₁) ?_ (ds.length + 1) ⟨0, Nat.zero_le _, rfl, st0, B₁.names hρ, K₀, Kp.refl⟩
  rintro n s' ⟨i, hi', rfl, st, B', K', kp'⟩
  obtain ⟨h', tk', rfl⟩ : ∃ h' tk', s' = { s₀ with heap := h', toks := tk' } := let ⟨h', t, e, _⟩ := B'.K; ⟨h', t, e⟩
  by_cases hlt : i < ds.length
  · refine Wk.item i _ _ _ hlt st fun v h₂ tk₂ hPv st₂ k₂ => ?_
    have hd : ds[i]? = some ds[i] := List.getElem?_eq_getElem hlt
    generalize ds[i] = d at hd
    have k₂' : ∀ b o, b ≠ I → h'.get? b = some o → h₂.get? b = some o := fun b o nb e => k₂ b o (fun q => nb (List.mem_singleton.mp q)) e
    obtain ⟨oI, T, eI, _, _⟩ := hal _ _ st₂
    have B₂ := B'.touch (tk := tk₂) nI k₂' ⟨oI, eI⟩
    have K₂ : K I i h₂ := hK I i _ _ nN K' fun b o _ nb e => k₂' b o nb e
    have kp₂ : Kp (I :: (N ++ W₀)) h' (I :: (N ++ W₀)) h₂ := fun b o nb e => ⟨nb, k₂' b o (fun q => nb (by rw [q]; exact List.mem_cons_self)) e⟩
    refine wpAny_assign_Name (B₂.store (p := .dat d) (((hP i v d hPv hd).kp kp').kp kp₂) hx fun h₃ tk₃ B₃ k₃ => ?_)
    have k₃' : ∀ b o, ¬ All env b → h₂.get? b = some o → h₃.get? b = some o := fun b o nb e => (k₃ b nb).trans e
    have K₃ : K I i h₃ := hK I i _ _ nN K₂ fun b o nb _ e => k₃' b o nb e
    have oN : ∀ b, All env b → b ∈ N := fun b hb => (List.mem_cons.mp (B.oN b hb |> List.mem_cons_of_mem I)).resolve_left fun q => nI (q ▸ hb)
    have st₃ : St (i + 1) h₃ := Wk.frame _ _ _ st₂ fun b hb o e => k₃' b o (fun q => by
      rcases hfp b hb with rfl | ⟨hb', _⟩
      · exact nI q
      · exact hb' (List.mem_append_left _ (oN b q))) e
    refine wpAny_mono (turn I i d _ _ nN nI hd B₃ K₃) (fun f s₄ h₄ => ?_) fun _ _ x => x
    cases f with
    | next =>
      obtain ⟨B₄, K₄, k₄⟩ := h₄
      refine ⟨ds.length + 1 - (i + 1), by omega, i + 1, hlt, rfl, Wk.frame _ _ _ st₃ fun b hb o e => k₄ b o (fun q => ?_) e, B₄, K₄, kp'.trans (kp₂.trans fun b o nb e => ⟨nb, k₄ b o (fun q => nb (List.mem_cons_of_mem _ (List.mem_append_left _ q))) (k₃' b o (fun q => nb (List.mem_cons_of_mem _ (List.mem_append_left _ (oN b q)))) e)⟩)⟩
      rcases hfp b hb with rfl | ⟨hb', _⟩
      · exact nN q
      · exact hb' (List.mem_append_left _ q)
    | cont => exact h₄.elim
    | brk => exact h₄.elim
    | ret v => exact h₄
  · have hin : i = ds.length := by omega
    subst hin
    refine Wk.done _ _ _ st fun h₂ tk₂ k₂ => wpAny_execs_nil ?_
    have k₂' : ∀ b o, b ≠ I → h'.get? b = some o → h₂.get? b = some o := fun b o nb e => k₂ b o (fun q => nb (List.mem_singleton.mp q)) e
    exact hend I _ nN (B'.drop nI nw k₂') (hK I _ _ _ nN K' fun b o _ nb e => k₂' b o nb e)
end
end Mine
end

-- Df
section
open PySem PySem.Calls PySem.Spec PyProof.Rows
namespace Mine

def stmtAt (i : Nat) : Option Stmt := PySem.Challenge.pw_hk0002_01.main.body[i]?
def bodyAt (i : Nat) : List Stmt := match stmtAt i with
  | some (.FunctionDef _ _ b _ _ _ _ _ _ _) => b
  | _ => []
def argsAt (i : Nat) : Arguments := match stmtAt i with
  | some (.FunctionDef _ a _ _ _ _ _ _ _ _) => a
  | _ => ⟨[], [], none, [], [], none, []⟩
def scopeAt (i : Nat) : Scope := match stmtAt i with
  | some (.FunctionDef _ _ _ _ _ _ s _ _ _) => s
  | _ => { kind := .function, names := [], isGenerator := false, isCoroutine := false, more := [] }

/-- the def of the text at i, at the address a -/
structure DefI (H : Heap) (i : Nat) (a : Addr) (fd : FuncData) : Prop where
  D : DefAt H a fd (bodyAt i)
  sc : fd.scope = scopeAt i
  ps : fd.params = argsAt i

section
variable {H : Heap} {a : Addr} {fd : FuncData}
theorem bind_1 (d : DefI H 1 a fd) (h1 : fd.defaults = .none) (h2 : fd.kwdefaults = .none) (v u : Value) : bindArgs fd ⟨[v, u], []⟩ = pure [(("target" : Str), v), (("source" : Str), u)] := by
  obtain ⟨_, _, e⟩ := d
  cases fd; dsimp only at h1 h2 e; subst h1 h2 e; rfl
theorem bind_2 (d : DefI H 2 a fd) (h1 : fd.defaults = .none) (h2 : fd.kwdefaults = .none) (v : Value) : bindArgs fd ⟨[v], []⟩ = pure [(("callers" : Str), v)] := by
  obtain ⟨_, _, e⟩ := d
  cases fd; dsimp only at h1 h2 e; subst h1 h2 e; rfl
theorem bind_7 (d : DefI H 7 a fd) (h1 : fd.defaults = .none) (h2 : fd.kwdefaults = .none) (v : Value) : bindArgs fd ⟨[v], []⟩ = pure [(("numbers" : Str), v)] := by
  obtain ⟨_, _, e⟩ := d
  cases fd; dsimp only at h1 h2 e; subst h1 h2 e; rfl
theorem bind_8 (d : DefI H 8 a fd) (h1 : fd.defaults = .none) (h2 : fd.kwdefaults = .none) (v u : Value) : bindArgs fd ⟨[v, u], []⟩ = pure [(("steps" : Str), v), (("place" : Str), u)] := by
  obtain ⟨_, _, e⟩ := d
  cases fd; dsimp only at h1 h2 e; subst h1 h2 e; rfl
theorem bind_9 (d : DefI H 9 a fd) (h1 : fd.defaults = .none) (h2 : fd.kwdefaults = .none) (v u : Value) : bindArgs fd ⟨[v, u], []⟩ = pure [(("steps" : Str), v), (("place" : Str), u)] := by
  obtain ⟨_, _, e⟩ := d
  cases fd; dsimp only at h1 h2 e; subst h1 h2 e; rfl
theorem bind_10 (d : DefI H 10 a fd) (h1 : fd.defaults = .none) (h2 : fd.kwdefaults = .none) (v : Value) : bindArgs fd ⟨[v], []⟩ = pure [(("steps" : Str), v)] := by
  obtain ⟨_, _, e⟩ := d
  cases fd; dsimp only at h1 h2 e; subst h1 h2 e; rfl
theorem bind_11 (d : DefI H 11 a fd) (h1 : fd.defaults = .none) (h2 : fd.kwdefaults = .none) (v u : Value) : bindArgs fd ⟨[v, u], []⟩ = pure [(("steps" : Str), v), (("place" : Str), u)] := by
  obtain ⟨_, _, e⟩ := d
  cases fd; dsimp only at h1 h2 e; subst h1 h2 e; rfl
end
/-- the world of the law: its defs and the names it calls -/
structure Lw (H : Heap) : Prop where
  d1 : ∃ fd, DefI H 1 21 fd ∧ fd.defaults = .none ∧ fd.kwdefaults = .none
  d2 : ∃ fd, DefI H 2 28 fd ∧ fd.defaults = .none ∧ fd.kwdefaults = .none
  d4 : ∃ fd, DefI H 4 37 fd ∧ fd.defaults = .ref 29 ∧ fd.kwdefaults = .ref 30
  d5 : ∃ fd, DefI H 5 46 fd ∧ fd.defaults = .ref 38 ∧ fd.kwdefaults = .ref 39
  d7 : ∃ fd, DefI H 7 53 fd ∧ fd.defaults = .none ∧ fd.kwdefaults = .none
  d8 : ∃ fd, DefI H 8 58 fd ∧ fd.defaults = .none ∧ fd.kwdefaults = .none
  d9 : ∃ fd, DefI H 9 63 fd ∧ fd.defaults = .none ∧ fd.kwdefaults = .none
  d10 : ∃ fd, DefI H 10 68 fd ∧ fd.defaults = .none ∧ fd.kwdefaults = .none
  d11 : ∃ fd, DefI H 11 73 fd ∧ fd.defaults = .none ∧ fd.kwdefaults = .none
  o29 : ∃ t n, H.get? 29 = some { cls := .type "tuple", data := .seq #[.int 0 t, .none] n }
  o38 : ∃ t n, H.get? 38 = some { cls := .type "tuple", data := .seq #[.int 0 t, .none] n }
  o30 : ∃ m, H.Ns 30 m ∧ m "key" = some .none
  o39 : ∃ m, H.Ns 39 m ∧ m "key" = some .none
  g1 : GV H "add_callers" (.ref 21)
  g2 : GV H "count_calls" (.ref 28)
  g4 : GV H "insort_left" (.ref 37)
  g5 : GV H "bisect_left" (.ref 46)
  g7 : GV H "_law_steps" (.ref 53)
  g8 : GV H "_law_reached" (.ref 58)
  g9 : GV H "_law_ends" (.ref 63)
  g10 : GV H "_law_ways" (.ref 68)
  g11 : GV H "_law_number" (.ref 73)
  bmax : GV H "max" (.builtin "max")
  bmin : GV H "min" (.builtin "min")
  blen : GV H "len" (.builtin "len")
  bsum : GV H "sum" (.builtin "sum")
  bsorted : GV H "sorted" (.builtin "sorted")
  brange : GV H "range" (.type "range")
  bdict : GV H "dict" (.type "dict")
  btuple : GV H "tuple" (.type "tuple")
  bisin : GV H "isinstance" (.builtin "isinstance")

def Ret (s₀ : Shared) (W : List Addr) (d : PyData) (f : Flow) (s : Shared) : Prop := ∃ v, f = .ret v ∧ Kps s₀ s ∧ RD W s.heap v d
/-- what a body gives -/
def Body (Z : Wo) (i : Nat) (ρ : Nm) (d : PyData) : Prop :=
  ∀ (env : Env) (N W : List Addr) (s₀ s : Shared) (E : Value → Shared → Prop), Bs Z s₀ W N (scopeAt i) ρ env s → wpAny (model Z.prog Z.w) Z.A (execs (bodyAt i) env) (Ret s₀ W d) E s

section
variable {Z : Wo} {a : Addr} {fd : FuncData} {i k : Nat}
theorem enter_i (D : DefI Z.H i a fd) (rm : Rm (k + 1) Z.A) {s : Shared} {W : List Addr} {vals : List Value} {binds : List (Str × Value)} {ρ : Nm} {Q : Value → Shared → Prop} {E : Value → Shared → Prop}
    (top : Ext Z.H s.heap) (al : ∀ b ∈ W, ∃ o, s.heap.get? b = some o) (hbind : ∀ (Q : List (Str × Value) → Shared → Prop) (E : Value → Shared → Prop), Q binds s → wpAny (model Z.prog Z.w) Z.A.in1 (bindArgs fd ⟨vals, []⟩) Q E s)
    (hkind : ∀ x ∈ binds, (scopeAt i).names.lookup x.1 = some .local ∨ (scopeAt i).names.lookup x.1 = some .cell) (hnd : (binds.map (·.1)).Nodup)
    (hρ : ∀ x p, ρ.lookup x = some p → ∃ v, binds.lookup x = some v ∧ PVis W s.heap v p)
    (h : ∀ env N s₁, Rm k (Z.A.deeper env) → Bs { Z with A := Z.A.deeper env } s W N (scopeAt i) ρ env s₁ →
      wpAny (model Z.prog Z.w) (Z.A.deeper env) (execs (bodyAt i) env) (fun f s' => Q (match f with | .ret v => v | _ => .none) s') (fun _ _ => False) s₁) :
    wpAny (model Z.prog Z.w) Z.A (call (.ref a) vals) Q E s := by
  have e := D.sc
  refine enter_def D.D rm top al hbind (by rw [e]; exact hkind) hnd hρ (by rw [e]; exact h)

theorem call_i1 (D : DefI Z.H i a fd) (rm : Rm (k + 1) Z.A) {n : Str} {d1 d : PyData} (hb : ∀ v, bindArgs fd ⟨[v], []⟩ = pure [(n, v)]) (hn : (scopeAt i).names.lookup n = some .local ∨ (scopeAt i).names.lookup n = some .cell)
    (h : ∀ env, Rm k (Z.A.deeper env) → Body { Z with A := Z.A.deeper env } i [(n, .dat d1)] d) : CallOK Z (.ref a) [d1] d := fun W s vs Q E top al rs hQ => by
  obtain ⟨v, vs', rfl, r, rs⟩ := rs.cons_inv
  rw [rs.nil_inv]
  refine enter_i D rm top al (fun Q E hq => by rw [hb]; exact wpAny_pure hq) (fun x hx => by rw [List.mem_singleton.mp hx]; exact hn) (by simp) (fun x p e => ?_) fun env N s₁ rm' B => wpAny_mono (h env rm' env N W s s₁ _ B) (fun f s' hf => ?_) fun _ _ x => x
  · rw [List.lookup_cons] at e
    cases hx : x == n with
    | true => rw [hx] at e; cases e; exact ⟨v, by rw [List.lookup_cons, hx], r⟩
    | false => rw [hx] at e; cases e
  · obtain ⟨v, rfl, k', r'⟩ := hf
    exact hQ _ _ k' r'
theorem call_i2 (D : DefI Z.H i a fd) (rm : Rm (k + 1) Z.A) {n m : Str} {d1 d2 d : PyData} (hb : ∀ v u, bindArgs fd ⟨[v, u], []⟩ = pure [(n, v), (m, u)]) (hn : (scopeAt i).names.lookup n = some .local ∨ (scopeAt i).names.lookup n = some .cell)
    (hm : (scopeAt i).names.lookup m = some .local ∨ (scopeAt i).names.lookup m = some .cell) (hne : n ≠ m)
    (h : ∀ env, Rm k (Z.A.deeper env) → Body { Z with A := Z.A.deeper env } i [(n, .dat d1), (m, .dat d2)] d) : CallOK Z (.ref a) [d1, d2] d := fun W s vs Q E top al rs hQ => by
  obtain ⟨v, vs', rfl, r, rs⟩ := rs.cons_inv
  obtain ⟨u, vs', rfl, r2, rs⟩ := rs.cons_inv
  rw [rs.nil_inv]
  refine enter_i D rm top al (fun Q E hq => by rw [hb]; exact wpAny_pure hq) (fun x hx => ?_) (by simp [hne]) (fun x p e => ?_) fun env N s₁ rm' B => wpAny_mono (h env rm' env N W s s₁ _ B) (fun f s' hf => ?_) fun _ _ x => x
  · rcases List.mem_cons.mp hx with rfl | hx
    · exact hn
    · rw [List.mem_singleton.mp hx]; exact hm
  · rw [List.lookup_cons] at e
    cases hx : x == n with
    | true => rw [hx] at e; cases e; exact ⟨v, by rw [List.lookup_cons, hx], r⟩
    | false =>
      rw [hx, List.lookup_cons] at e
      dsimp only at e
      cases hx2 : x == m with
      | true => rw [hx2] at e; cases e; exact ⟨u, by rw [List.lookup_cons, hx, List.lookup_cons, hx2], r2⟩
      | false => rw [hx2] at e; cases e
  · obtain ⟨v, rfl, k', r'⟩ := hf
    exact hQ _ _ k' r'
end
end Mine
end

-- Mt
section
open PySem PySem.Calls PySem.Spec PyProof.Rows
namespace Mine
section
variable {Z : Wo} {sc : Scope} {ρ : Nm} {s₀ : Shared} {W W₀ N : List Addr} {env : Env} {s : Shared}

theorem Bs.touchAny {I : Addr} {h : Heap} {tk : Nat} (B : Bs Z s₀ W₀ N sc ρ env s) (hI : I ∈ N) (nI : ¬ All env I) (k : ∀ b o, b ≠ I → s.heap.get? b = some o → h.get? b = some o) (al : ∃ o, h.get? I = some o) :
    Bs Z s₀ W₀ N sc ρ env { s with heap := h, toks := tk } := by
  have hn : s₀.heap.get? I = none := B.nw I hI
  have K : Kps s₀ { s with heap := h, toks := tk } := by
    obtain ⟨h₁, t₁, e, x₁⟩ := B.K
    refine ⟨h, tk, by rw [e], fun b o eb => k b o (fun q => ?_) (by rw [e]; exact x₁ b o eb)⟩
    rw [q, hn] at eb; cases eb
  refine ⟨B.F.move (fun b o nb e => ⟨nb, k b o (fun q => nb (by rw [q]; exact List.mem_append_left _ hI)) e⟩) (fun b o ob e => k b o (fun q => nI (q ▸ ob)) e) (fun b o e => K.ext b o (B.tp b o e)) B.F.own (fun b hb => ?_), K, B.nw, B.oN, B.tp⟩
  by_cases q : b = I
  · subst q; exact al
  · obtain ⟨o, e⟩ := B.F.al b hb; exact ⟨o, k b o q e⟩

theorem Fs.inter {H₀ : Heap} {h : Heap} (F : Fs H₀ sc ρ env W h) : interactive env = false := by
  unfold interactive; rw [F.fn]; rfl

theorem own_method1 {x : Str} {p1 p2 p3 : Pos} {D : Addr} {ys : Array Value} {e : Expr} {d : PyData} {name : Str} {id : String} {Q : Value → Shared → Prop} {E : Value → Shared → Prop} (F : Fs Z.H sc ρ env W s.heap) (hx : ρ.lookup x = some (.val (.ref D)))
    (hl : s.heap.PlainList D ys) (he : Ev Z sc ρ e d) (slot : Slot "list" name id) (ty : typeOf (.builtin id) = pure (.type "method_descriptor"))
    (h : ∀ v s', Kps s s' → RD W s'.heap v d → wpAny (model Z.prog Z.w) Z.A (call (.builtin id) [.ref D, v]) Q E s')
    (hs : starEach [e] env = [(false, eval e env)]) (hline : (p2.endLine == p3.line) = true) (hd : (x == ("__debug__" : Str)) = false) (hc : (x == ("__classdict__" : Str)) = false) :
    wpAny (model Z.prog Z.w) Z.A (eval (.Call (.Attribute (.Name x p1) name p2) [e] [] p3) env) Q E s := by
  refine Call_method1 rfl hs hline (wpAny_Name (load_fs F hx (fun v r => ?_) hc) hd)
  obtain rfl : v = .ref D := r
  obtain ⟨n, ho⟩ := hl
  refine ⟨"list", id, PySem.F.plainAttrs_list, slot, ty, ⟨_, ho, rfl⟩, fun a q => by cases q; exact ⟨_, ho, rfl⟩, callWith_builtin rfl (evalArgs_plain (spliced_cons (he env W s _ E F fun v s₁ k₁ r₁ => spliced_nil ?_)))⟩
  exact h v s₁ k₁ r₁

theorem own_method2 {x : Str} {p1 p2 p3 : Pos} {D : Addr} {ys : Array Value} {e₁ e₂ : Expr} {d₁ d₂ : PyData} {name : Str} {id : String} {Q : Value → Shared → Prop} {E : Value → Shared → Prop} (F : Fs Z.H sc ρ env W s.heap) (hx : ρ.lookup x = some (.val (.ref D)))
    (hl : s.heap.PlainList D ys) (he : Ev Z sc ρ e₁ d₁) (he₂ : Ev Z sc ρ e₂ d₂) (slot : Slot "list" name id) (ty : typeOf (.builtin id) = pure (.type "method_descriptor"))
    (h : ∀ v u s', Kps s s' → RD W s'.heap v d₁ → RD W s'.heap u d₂ → wpAny (model Z.prog Z.w) Z.A (call (.builtin id) [.ref D, v, u]) Q E s')
    (hs : starEach [e₁, e₂] env = [(false, eval e₁ env), (false, eval e₂ env)]) (hline : (p2.endLine == p3.line) = true) (hd : (x == ("__debug__" : Str)) = false) (hc : (x == ("__classdict__" : Str)) = false) :
    wpAny (model Z.prog Z.w) Z.A (eval (.Call (.Attribute (.Name x p1) name p2) [e₁, e₂] [] p3) env) Q E s := by
  refine Call_method2 rfl hs hline (wpAny_Name (load_fs F hx (fun v r => ?_) hc) hd)
  obtain rfl : v = .ref D := r
  obtain ⟨n, ho⟩ := hl
  refine ⟨"list", id, PySem.F.plainAttrs_list, slot, ty, ⟨_, ho, rfl⟩, fun a q => by cases q; exact ⟨_, ho, rfl⟩, callWith_builtin rfl (evalArgs_plain (spliced_cons (he env W s _ E F fun v s₁ k₁ r₁ => spliced_cons (he₂ env W s₁ _ E (F.keeps k₁) fun u s₂ k₂ r₂ => spliced_nil ?_))))⟩
  exact h v u s₂ (k₁.trans k₂) (r₁.ext k₂.ext) r₂

/-- x.append(e) on a list of one's own -/
theorem Bs.append {x : Str} {p1 p2 p3 pos : Pos} {D : Addr} {ds : List PyData} {e : Expr} {d : PyData} {Q : Flow → Shared → Prop} {E : Value → Shared → Prop} (B : Bs Z s₀ W₀ N sc ρ env s) (hx : ρ.lookup x = some (.val (.ref D)))
    (m : ML W₀ N D ds s.heap) (hD : D ∈ N) (nD : ¬ All env D) (he : Ev Z sc ρ e d) (hsz : ds.length < sizeLine)
    (h : ∀ s', Bs Z s₀ W₀ N sc ρ env s' → ML W₀ N D (ds ++ [d]) s'.heap → (∀ b o, b ≠ D → s.heap.get? b = some o → s'.heap.get? b = some o) → Q .next s')
    (hs : starEach [e] env = [(false, eval e env)]) (hline : (p2.endLine == p3.line) = true) (hd : (x == ("__debug__" : Str)) = false) (hc : (x == ("__classdict__" : Str)) = false) :
    wpAny (model Z.prog Z.w) Z.A (exec (.Expr (.Call (.Attribute (.Name x p1) "append" p2) [e] [] p3) pos) env) Q E s := by
  obtain ⟨ys, hl, rs⟩ := m.ex
  refine wpAny_Expr (own_method1 B.F hx hl he slot_list_append PySem.F.type_list_append (fun v s₁ k₁ r₁ => ?_) hs hline hd hc) B.F.inter
  obtain ⟨n, ho⟩ := hl
  have hlen : ys.size = ds.length := by rw [← rs.length]; simp
  refine append_at (k₁.ext _ _ ho) (fun h' hs' ho' => ?_) (by omega)
  have B₁ := B.keeps k₁
  have k : ∀ b o, b ≠ D → s₁.heap.get? b = some o → h'.get? b = some o := fun b o nb e => (hs'.2 b nb).trans e
  have kp : Kp (N ++ W₀) s₁.heap (N ++ W₀) h' := fun b o nb e => ⟨nb, k b o (fun q => nb (by rw [q]; exact List.mem_append_left _ hD)) e⟩
  refine h _ (B₁.touchAny (tk := s₁.toks) hD nD k ⟨_, ho'⟩) ⟨_, ⟨_, ho'⟩, ?_⟩ fun b o nb e => k b o nb (k₁.ext b o e)
  rw [Array.toList_push]
  exact ((rs.ext k₁.ext).kp kp).snoc (r₁.kp kp)

/-- x.extend(e) on a list of one's own -/
theorem Bs.extend {x : Str} {p1 p2 p3 pos : Pos} {D : Addr} {ds es : List PyData} {e : Expr} {Q : Flow → Shared → Prop} {E : Value → Shared → Prop} (B : Bs Z s₀ W₀ N sc ρ env s) (hx : ρ.lookup x = some (.val (.ref D)))
    (m : ML W₀ N D ds s.heap) (hD : D ∈ N) (nD : ¬ All env D) (he : Ev Z sc ρ e (.list es)) (hsz : ds.length + es.length ≤ sizeLine)
    (h : ∀ s', Bs Z s₀ W₀ N sc ρ env s' → ML W₀ N D (ds ++ es) s'.heap → (∀ b o, b ≠ D → s.heap.get? b = some o → s'.heap.get? b = some o) → Q .next s')
    (hs : starEach [e] env = [(false, eval e env)]) (hline : (p2.endLine == p3.line) = true) (hd : (x == ("__debug__" : Str)) = false) (hc : (x == ("__classdict__" : Str)) = false) :
    wpAny (model Z.prog Z.w) Z.A (exec (.Expr (.Call (.Attribute (.Name x p1) "extend" p2) [e] [] p3) pos) env) Q E s := by
  obtain ⟨ys, hl, rs⟩ := m.ex
  refine wpAny_Expr (own_method1 B.F hx hl he PySem.F.slot_list_extend PySem.F.type_list_extend (fun v s₁ k₁ r₁ => ?_) hs hline hd hc) B.F.inter
  obtain ⟨n, ho⟩ := hl
  obtain ⟨b, us, rfl, hb, ⟨n', ho'⟩, rs'⟩ := r₁.list_inv
  have hlen : ys.size = ds.length := by rw [← rs.length]; simp
  have hlen' : us.size = es.length := by rw [← rs'.length]; simp
  have hsz' : ys.size + us.size ≤ sizeLine := by omega
  have B₁ := B.keeps k₁
  have ho₁ := k₁.ext _ _ ho
  refine call_meets PySem.F.slot_list_extend ⟨_, ho₁, rfl⟩ PySem.F.entry_list_extend (PySem.F.args_list_extend_2 _ _) (AutoSeq1.list_extend_list_list_0 D ys n b us n' (extend_door hsz') (Nat.le_trans (Nat.le_add_right _ _) hsz')) ⟨ho₁, ho', ?_⟩
  generalize eh : s₁.heap.update D (Obj.mapSeq fun x => x ++ us) = h'
  have hs' : Heap.SameBut D s₁.heap h' := eh ▸ Heap.SameBut.update ..
  have hD' : h'.PlainList D (ys ++ us) := ⟨_, by rw [← eh, Heap.get?_update_self _ ho₁ (by rw [mapSeq_app]; rfl), mapSeq_app]⟩
  have k : ∀ b o, b ≠ D → s₁.heap.get? b = some o → h'.get? b = some o := fun b o nb e => (hs'.2 b nb).trans e
  have kp : Kp (N ++ W₀) s₁.heap (N ++ W₀) h' := fun b o nb e => ⟨nb, k b o (fun q => nb (by rw [q]; exact List.mem_append_left _ hD)) e⟩
  refine h _ (B₁.touchAny (tk := s₁.toks) hD nD k (let ⟨n, e⟩ := hD'; ⟨_, e⟩)) ⟨_, hD', ?_⟩ fun b o nb e => k b o nb (k₁.ext b o e)
  rw [Array.toList_append]
  exact ((rs.ext k₁.ext).kp kp).append (rs'.kp kp)
end
end Mine
end

-- Dt
section
open PySem PySem.Calls PySem.Spec PyProof.Rows
namespace Mine

abbrev izs (ns : List Int) : List PyData := ns.map .int
def prd (p : Int × Int) : PyData := .tuple [.int p.1, .int p.2]
abbrev prs (fs : List (Int × Int)) : List PyData := fs.map prd
abbrev intss (ls : List (List Int)) : List PyData := ls.map fun l => .list (izs l)

theorem canLay_ints : ∀ ns : List Int, PyData.canLayAll0 (izs ns) = true
  | [] => by simp [PyData.canLayAll0]
  | n :: ns => by simp only [izs, List.map_cons, PyData.canLayAll0, PyData.canLay0, Bool.true_and]; exact canLay_ints ns
theorem canLay_prs : ∀ fs : List (Int × Int), PyData.canLayAll0 (prs fs) = true
  | [] => by simp [PyData.canLayAll0]
  | n :: ns => by simp only [prs, prd, List.map_cons, PyData.canLayAll0, PyData.canLay0, Bool.true_and, Bool.and_true]; exact canLay_prs ns
theorem depth_ints : ∀ ns : List Int, PyData.depthAll (izs ns) = 0
  | [] => by simp [PyData.depthAll]
  | n :: ns => by simp only [izs, List.map_cons, PyData.depthAll, PyData.depth]; rw [depth_ints ns]; rfl
theorem depth_prs : ∀ fs : List (Int × Int), PyData.depthAll (prs fs) ≤ 1
  | [] => by simp [PyData.depthAll]
  | n :: ns => by
    have := depth_prs ns
    simp only [prs, prd, List.map_cons, PyData.depthAll, PyData.depth] at this ⊢
    omega
theorem shaped_int (i : Int) : SeqAt.shaped (.int i) = true := by simp [SeqAt.shaped, PyData.canLay0, PyData.depth]
theorem shaped_bool (b : Bool) : SeqAt.shaped (.bool b) = true := by simp [SeqAt.shaped, PyData.canLay0, PyData.depth]
theorem shaped_ints (ns : List Int) : SeqAt.shaped (.list (izs ns)) = true := by
  simp only [SeqAt.shaped, PyData.canLay0, PyData.depth, Bool.and_eq_true]
  exact ⟨canLay_ints ns, decide_eq_true (by rw [depth_ints]; omega)⟩
theorem shaped_prs (fs : List (Int × Int)) : SeqAt.shaped (.list (prs fs)) = true := by
  simp only [SeqAt.shaped, PyData.canLay0, PyData.depth, Bool.and_eq_true]
  exact ⟨canLay_prs fs, decide_eq_true (by have := depth_prs fs; omega)⟩
theorem shaped_prd (p : Int × Int) : SeqAt.shaped (prd p) = true := by
  simp [SeqAt.shaped, prd, PyData.canLay0, PyData.depth, PyData.canLayAll0, PyData.depthAll]
theorem eqv_int (a b : Int) : PyData.eqv (.int a) (.int b) = decide (a = b) := by
  simp only [PyData.eqv]; by_cases h : a = b <;> simp [h]
theorem eqv_bool (a b : Bool) : PyData.eqv (.bool a) (.bool b) = decide (a = b) := by
  simp only [PyData.eqv]; cases a <;> cases b <;> rfl
theorem eqv_ints : ∀ ns ms : List Int, PyData.eqvAll (izs ns) (izs ms) = decide (ns = ms)
  | [], [] => by simp [PyData.eqvAll]
  | [], _ :: _ => by simp [PyData.eqvAll]
  | _ :: _, [] => by simp [PyData.eqvAll]
  | a :: ns, b :: ms => by
    have := eqv_ints ns ms
    simp only [izs, List.map_cons, PyData.eqvAll, eqv_int] at this ⊢
    rw [this]; by_cases h1 : a = b <;> by_cases h2 : ns = ms <;> simp [h1, h2]
theorem eqv_list (ns ms : List Int) : PyData.eqv (.list (izs ns)) (.list (izs ms)) = decide (ns = ms) := by simp only [PyData.eqv]; exact eqv_ints ns ms
theorem eqv_prd (p q : Int × Int) : PyData.eqv (prd p) (prd q) = decide (p = q) := by
  obtain ⟨a, b⟩ := p; obtain ⟨c, d⟩ := q
  simp only [prd, PyData.eqv, PyData.eqvAll, Bool.and_true]
  by_cases h1 : a = c <;> by_cases h2 : b = d <;> simp [h1, h2]
theorem any_prs (fs : List (Int × Int)) (p : Int × Int) : ((prs fs).any fun y => PyData.eqv y (prd p)) = decide (p ∈ fs) := by
  induction fs with
  | nil => simp
  | cons q r ih =>
    simp only [prs, List.map_cons, List.any_cons, eqv_prd] at ih ⊢
    rw [ih]
    by_cases h1 : q = p
    · subst h1; simp
    · have h2 : ¬ p = q := fun e => h1 e.symm
      simp [h1, h2]
theorem any_ints (ns : List Int) (i : Int) : ((izs ns).any fun y => PyData.eqv y (.int i)) = decide (i ∈ ns) := by
  induction ns with
  | nil => simp
  | cons q r ih =>
    simp only [izs, List.map_cons, List.any_cons, eqv_int] at ih ⊢
    rw [ih]
    by_cases h1 : q = i
    · subst h1; simp
    · have h2 : ¬ i = q := fun e => h1 e.symm
      simp [h1, h2]

section
variable {Z : Wo} {sc : Scope} {ρ : Nm} {s₀ : Shared} {W W₀ N : List Addr} {env : Env} {s : Shared}

theorem Bs.of_fs {ρ' : Nm} {h : Heap} {tk : Nat} (B : Bs Z s₀ W₀ N sc ρ env s) (F' : Fs Z.H sc ρ' env (N ++ W₀) h) (k : ∀ b o, ¬ Own sc env b → s.heap.get? b = some o → h.get? b = some o) :
    Bs Z s₀ W₀ N sc ρ' env { s with heap := h, toks := tk } := by
  refine ⟨F', ?_, B.nw, B.oN, B.tp⟩
  obtain ⟨h₁, t₁, e, x₁⟩ := B.K
  refine ⟨h, tk, by rw [e], fun b o eb => k b o (fun q => ?_) (by rw [e]; exact x₁ b o eb)⟩
  have := B.nw b (B.oN b q.all); rw [this] at eb; cases eb

/-- x, y = e (stored the other way round) -/
theorem Bs.pairS {x y : Str} {p1 p2 tp pos : Pos} {k : Nat} {value : Expr} {a b : PyData} {Q : Flow → Shared → Prop} {E : Value → Shared → Prop} (B : Bs Z s₀ W₀ N sc ρ env s) (rm : Rm 0 Z.A) (hv : Ev Z sc ρ value (.tuple [a, b]))
    (hx : sc.names.lookup x = some .local) (hy : sc.names.lookup y = some .local)
    (h : ∀ s', Bs Z s₀ W₀ N sc ((x, .dat a) :: (y, .dat b) :: ρ) env s' → (∀ b o, ¬ All env b → s.heap.get? b = some o → s'.heap.get? b = some o) → Q .next s')
    (hs : swapsWithSole [.Tuple [.Name x p1, .Name y p2] k tp] value pos.line env = pure false)
    (hw : swappedStores [.Tuple [.Name x p1, .Name y p2] k tp] value env = pure (some [x, y])) : wpAny (model Z.prog Z.w) Z.A (exec (.Assign [.Tuple [.Name x p1, .Name y p2] k tp] value pos) env) Q E s := by
  refine Assign_Tuple_swapped (hv env _ s _ E B.F fun v s₁ k₁ r => ?_) hs hw
  obtain ⟨t, vs, n, rfl, ht, ho, rs⟩ := r.tuple_inv
  obtain ⟨u, vs', e1, r1, rs⟩ := rs.cons_inv
  obtain ⟨w, vs'', e2, r2, rs⟩ := rs.cons_inv
  rw [rs.nil_inv] at e2
  subst e2
  have hsz : vs.size = 2 := by rw [← Array.length_toList, e1]; rfl
  have B₁ := B.keeps k₁
  show wpAny _ _ (unpackItems (.ref t) 2 none) _ _ _
  rw [← hsz]
  refine unpackItems_tuple (items := vs) rm.1 ⟨_, ho, rfl, n, rfl⟩ fun h₁ hx₁ => ?_
  have k₂ : Kps s₁ { s₁ with heap := h₁ } := ⟨h₁, s₁.toks, rfl, fun b o e => hx₁ b o (Nat.ne_of_lt (Heap.lt_size e)) e⟩
  have B₂ := B₁.keeps k₂
  rw [e1]
  show wpAny _ _ (assignInOrder [fun v => bindName env y v, fun v => bindName env x v] [w, u]) _ _ _
  refine assign_two (f := fun v => bindName env y v) (g := fun v => bindName env x v) (env := env) (wpAny_bindName (B₂.store (p := .dat b) (r2.ext k₂.ext) (.inl hy) fun h₃ tk₃ B₃ k₃ => ?_))
  refine wpAny_bindName (B₃.store (p := .dat a) ((r1.ext k₂.ext).kp fun b o nb e => ⟨nb, (k₃ b fun q => nb (List.mem_append_left _ (B₂.oN b q))).trans e⟩) (.inl hx) fun h₄ tk₄ B₄ k₄ => h _ B₄ fun b o nb e => ?_)
  exact (k₄ b nb).trans ((k₃ b nb).trans (k₂.ext b o (k₁.ext b o e)))
/-- x, y = e (stored in order) -/
theorem Bs.pairN {x y : Str} {p1 p2 tp pos : Pos} {k : Nat} {value : Expr} {a b : PyData} {Q : Flow → Shared → Prop} {E : Value → Shared → Prop} (B : Bs Z s₀ W₀ N sc ρ env s) (rm : Rm 0 Z.A) (hv : Ev Z sc ρ value (.tuple [a, b]))
    (hx : sc.names.lookup x = some .local ∨ sc.names.lookup x = some .cell) (hy : sc.names.lookup y = some .local ∨ sc.names.lookup y = some .cell)
    (h : ∀ s', Bs Z s₀ W₀ N sc ((y, .dat b) :: (x, .dat a) :: ρ) env s' → (∀ b o, ¬ All env b → s.heap.get? b = some o → s'.heap.get? b = some o) → Q .next s')
    (hs : swapsWithSole [.Tuple [.Name x p1, .Name y p2] k tp] value pos.line env = pure false)
    (hw : swappedStores [.Tuple [.Name x p1, .Name y p2] k tp] value env = pure none) : wpAny (model Z.prog Z.w) Z.A (exec (.Assign [.Tuple [.Name x p1, .Name y p2] k tp] value pos) env) Q E s := by
  refine Assign_Tuple (hv env _ s _ E B.F fun v s₁ k₁ r => ?_) hs hw
  have B₁ := B.keeps k₁
  refine TgJ.pair rm hx hy env ρ _ s₁ v _ E B₁.F r fun h₂ tk₂ F₂ k₂ => h _ (B₁.of_fs F₂ k₂) fun b o nb e => k₂ b o (fun q => nb q.all) (k₁.ext b o e)
end
end Mine
end

-- Op
section
open PySem PySem.Calls PySem.Spec PyProof.Rows
namespace Mine
section
variable {Z : Wo} {sc : Scope} {ρ : Nm} {s₀ : Shared} {W W₀ N : List Addr} {env : Env} {s : Shared}

/-- for the time of one expression, a list of one's own is data like other data -/
theorem Fs.opens {H₀ : Heap} {h : Heap} {x : Str} {D : Addr} {ys : Array Value} {ds : List PyData} (F : Fs H₀ sc ρ env W h) (hx : ρ.lookup x = some (.val (.ref D))) (hl : h.PlainList D ys) (rs : RDs W h ys.toList ds) (nD : ¬ Own sc env D) :
    Fs H₀ sc ((x, .dat (.list ds)) :: ρ) env (W.filter (· != D)) h := by
  have hs : ∀ b ∈ W.filter (· != D), b ∈ W := fun b hb => (List.mem_filter.mp hb).1
  refine (F.less hs fun b ob => List.mem_filter.mpr ⟨F.own b ob, bne_iff_ne.mpr fun q => nD (q ▸ ob)⟩).names fun y p e => ?_
  rw [List.lookup_cons] at e
  cases hy : y == x with
  | false => rw [hy] at e; exact ⟨p, e, fun v r => r⟩
  | true =>
    rw [hy] at e; cases e
    rw [eq_of_beq hy]
    refine ⟨_, hx, fun v r => ?_⟩
    obtain rfl : v = .ref D := r
    exact rd_isList (fun hm => by simpa using (List.mem_filter.mp hm).2) hl (rs.kp (Kp.drop hs))

theorem Bs.ifsO {x : Str} {D : Addr} {ds : List PyData} {t : Expr} {a b : List Stmt} {pos : Pos} {c : Bool} {Q : Flow → Shared → Prop} {E : Value → Shared → Prop} (B : Bs Z s₀ W₀ N sc ρ env s) (hx : ρ.lookup x = some (.val (.ref D))) (m : ML W₀ N D ds s.heap) (nD : ¬ All env D)
    (ht : EvT Z sc ((x, .dat (.list ds)) :: ρ) t c)
    (h1 : c = true → ∀ s', Kps s s' → Bs Z s₀ W₀ N sc ρ env s' → wpAny (model Z.prog Z.w) Z.A (execs a env) Q E s') (h2 : c = false → ∀ s', Kps s s' → Bs Z s₀ W₀ N sc ρ env s' → wpAny (model Z.prog Z.w) Z.A (execs b env) Q E s') :
    wpAny (model Z.prog Z.w) Z.A (exec (.If t a b pos) env) Q E s := by
  obtain ⟨ys, hl, rs⟩ := m.ex
  refine wpAny_If (ht env _ s _ E (B.F.opens hx hl rs fun q => nD q.all) fun s₁ k₁ => ?_)
  cases c with
  | true => exact h1 rfl s₁ k₁ (B.keeps k₁)
  | false => exact h2 rfl s₁ k₁ (B.keeps k₁)

theorem Bs.retO {x : Str} {D : Addr} {ds : List PyData} {pos : Pos} {e : Expr} {d : PyData} {Q : Flow → Shared → Prop} {E : Value → Shared → Prop} (B : Bs Z s₀ W₀ N sc ρ env s) (hx : ρ.lookup x = some (.val (.ref D))) (m : ML W₀ N D ds s.heap) (nD : ¬ All env D) (hD : D ∉ W₀)
    (he : Ev Z sc ((x, .dat (.list ds)) :: ρ) e d) (h : ∀ v s', Kps s₀ s' → RD W₀ s'.heap v d → Q (.ret v) s') : wpAny (model Z.prog Z.w) Z.A (exec (.Return (some e) pos) env) Q E s := by
  obtain ⟨ys, hl, rs⟩ := m.ex
  refine wpAny_Return_some (he env _ s _ E (B.F.opens hx hl rs fun q => nD q.all) fun v s₁ k₁ r₁ => h v s₁ (B.K.trans k₁) (r₁.kp (Kp.drop fun b hb => List.mem_filter.mpr ⟨List.mem_append_right _ hb, (bne_iff_ne (a := b) (b := D)).mpr fun q => hD (by rw [← q]; exact hb)⟩)))

theorem own_methodO {x : Str} {p1 p2 p3 : Pos} {D : Addr} {ys : Array Value} {ds : List PyData} {e : Expr} {d : PyData} {name : Str} {id : String} {Q : Value → Shared → Prop} {E : Value → Shared → Prop} (F : Fs Z.H sc ρ env W s.heap) (hx : ρ.lookup x = some (.val (.ref D)))
    (hl : s.heap.PlainList D ys) (rs : RDs W s.heap ys.toList ds) (nD : ¬ Own sc env D) (he : Ev Z sc ((x, .dat (.list ds)) :: ρ) e d) (slot : Slot "list" name id) (ty : typeOf (.builtin id) = pure (.type "method_descriptor"))
    (h : ∀ v s', Kps s s' → RD (W.filter (· != D)) s'.heap v d → wpAny (model Z.prog Z.w) Z.A (call (.builtin id) [.ref D, v]) Q E s')
    (hs : starEach [e] env = [(false, eval e env)]) (hline : (p2.endLine == p3.line) = true) (hd : (x == ("__debug__" : Str)) = false) (hc : (x == ("__classdict__" : Str)) = false) :
    wpAny (model Z.prog Z.w) Z.A (eval (.Call (.Attribute (.Name x p1) name p2) [e] [] p3) env) Q E s := by
  refine Call_method1 rfl hs hline (wpAny_Name (load_fs F hx (fun v r => ?_) hc) hd)
  obtain rfl : v = .ref D := r
  have F' := F.opens hx hl rs nD
  obtain ⟨n, ho⟩ := hl
  refine ⟨"list", id, PySem.F.plainAttrs_list, slot, ty, ⟨_, ho, rfl⟩, fun a q => by cases q; exact ⟨_, ho, rfl⟩, callWith_builtin rfl (evalArgs_plain (spliced_cons (he env _ s _ E F' fun v s₁ k₁ r₁ => spliced_nil ?_)))⟩
  exact h v s₁ k₁ r₁

/-- x.extend(e), where e reads x itself and gives numbers -/
theorem Bs.extendO {x : Str} {p1 p2 p3 pos : Pos} {D : Addr} {ds : List PyData} {es : List Int} {e : Expr} {Q : Flow → Shared → Prop} {E : Value → Shared → Prop} (B : Bs Z s₀ W₀ N sc ρ env s) (hx : ρ.lookup x = some (.val (.ref D)))
    (m : ML W₀ N D ds s.heap) (hD : D ∈ N) (nD : ¬ All env D) (he : Ev Z sc ((x, .dat (.list ds)) :: ρ) e (.list (izs es))) (hsz : ds.length + es.length ≤ sizeLine)
    (h : ∀ s', Bs Z s₀ W₀ N sc ρ env s' → ML W₀ N D (ds ++ izs es) s'.heap → (∀ b o, b ≠ D → s.heap.get? b = some o → s'.heap.get? b = some o) → Q .next s')
    (hs : starEach [e] env = [(false, eval e env)]) (hline : (p2.endLine == p3.line) = true) (hd : (x == ("__debug__" : Str)) = false) (hc : (x == ("__classdict__" : Str)) = false) :
    wpAny (model Z.prog Z.w) Z.A (exec (.Expr (.Call (.Attribute (.Name x p1) "extend" p2) [e] [] p3) pos) env) Q E s := by
  obtain ⟨ys, hl, rs⟩ := m.ex
  refine wpAny_Expr (own_methodO B.F hx hl rs (fun q => nD q.all) he PySem.F.slot_list_extend PySem.F.type_list_extend (fun v s₁ k₁ r₁ => ?_) hs hline hd hc) B.F.inter
  obtain ⟨n, ho⟩ := hl
  obtain ⟨b, us, rfl, hb, ⟨n', ho'⟩, rs'⟩ := r₁.list_inv
  have hlen : ys.size = ds.length := by rw [← rs.length]; simp
  have hlen' : us.size = es.length := by have := rs'.length; simpa using this
  have hsz' : ys.size + us.size ≤ sizeLine := by omega
  have B₁ := B.keeps k₁
  have ho₁ := k₁.ext _ _ ho
  refine call_meets PySem.F.slot_list_extend ⟨_, ho₁, rfl⟩ PySem.F.entry_list_extend (PySem.F.args_list_extend_2 _ _) (AutoSeq1.list_extend_list_list_0 D ys n b us n' (extend_door hsz') (Nat.le_trans (Nat.le_add_right _ _) hsz')) ⟨ho₁, ho', ?_⟩
  generalize eh : s₁.heap.update D (Obj.mapSeq fun x => x ++ us) = h'
  have hs' : Heap.SameBut D s₁.heap h' := eh ▸ Heap.SameBut.update ..
  have hD' : h'.PlainList D (ys ++ us) := ⟨_, by rw [← eh, Heap.get?_update_self _ ho₁ (by rw [mapSeq_app]; rfl), mapSeq_app]⟩
  have k : ∀ b o, b ≠ D → s₁.heap.get? b = some o → h'.get? b = some o := fun b o nb e => (hs'.2 b nb).trans e
  have kp : Kp (N ++ W₀) s₁.heap (N ++ W₀) h' := fun b o nb e => ⟨nb, k b o (fun q => nb (by rw [q]; exact List.mem_append_left _ hD)) e⟩
  refine h _ (B₁.touchAny (tk := s₁.toks) hD nD k (let ⟨n, e⟩ := hD'; ⟨_, e⟩)) ⟨_, hD', ?_⟩ fun b o nb e => k b o nb (k₁.ext b o e)
  rw [Array.toList_append]
  exact ((rs.ext k₁.ext).kp kp).append (rds_ints rs'.ints)
end
end Mine
end

-- Sw
section
open PySem PySem.Calls PySem.Spec PyProof.Rows
namespace Mine
theorem swapped_two {x y : Str} {p1 p2 tp vp : Pos} {k k2 : Nat} {a b : Expr} {env : Env} (hx : env.kindOf x = some .local) (hy : env.kindOf y = some .local) (hb : env.blockKind = .function) (hl : p2.line = p1.line) (hne : (y == x) = false)
    (ha1 : ∀ v p, a ≠ .Starred v p) (hb1 : ∀ v p, b ≠ .Starred v p) (hf : foldedForSure 8 a = false) (hc : constantsAlone 8 a = false) : swappedStores [.Tuple [.Name x p1, .Name y p2] k tp] (.Tuple [a, b] k2 vp) env = pure (some [x, y]) := by
  have hfm : ∀ f : Expr → Option Str, f (.Name x p1) = some x → f (.Name y p2) = some y → [Expr.Name x p1, Expr.Name y p2].filterMap f = [x, y] := fun f h1 h2 => by
    simp [h1, h2]
  have hany : ∀ f : Expr → Bool, f a = false → f b = false → [a, b].any f = false := fun f h1 h2 => by
    simp [h1, h2]
  have he : ([x, y].eraseDups.length != [x, y].length) = false := by
    rw [List.eraseDups_cons]
    simp only [List.filter_cons, hne]
    rfl
  unfold swappedStores
  dsimp only
  rw [hfm, hany, hb]
  · simp only [List.all_cons, hf, hc, Bool.false_and, he]
    rfl
  · cases a <;> first | rfl | exact absurd rfl (ha1 _ _)
  · cases b <;> first | rfl | exact absurd rfl (hb1 _ _)
  · simp [hx, Expr.pos]
  · simp [hy, Expr.pos, hl]

/-- each name of the first holds the same in the second -/
def SubN : Nm → Nm → Prop
  | [], _ => True
  | q :: r, ρ => ρ.lookup q.1 = some q.2 ∧ SubN r ρ
theorem SubN.go : ∀ {ρ' ρ : Nm}, SubN ρ' ρ → ∀ x p, ρ'.lookup x = some p → ρ.lookup x = some p
  | [], _, _, x, p, e => nomatch e
  | (n, q) :: r, ρ, h, x, p, e => by
    rw [List.lookup_cons] at e
    cases hx : x == n with
    | true => rw [hx] at e; cases e; rw [eq_of_beq hx]; exact h.1
    | false => rw [hx] at e; exact h.2.go x p e
theorem any_prs' (fs : List (Int × Int)) (a b : Int) : ((prs fs).any fun y => PyData.eqv y (.tuple [.int a, .int b])) = decide ((a, b) ∈ fs) := any_prs fs (a, b)
theorem Rm.le {j k : Nat} {A : Around} (h : Rm k A) (hj : j ≤ k) : Rm j A := ⟨h.1, by have := h.2.1; omega, by have := h.2.2; omega⟩
section
variable {Z : Wo} {sc : Scope} {ρ : Nm} {env : Env} {W : List Addr} {s : Shared}
theorem Ev.as {e : Expr} {d d' : PyData} (h : Ev Z sc ρ e d) (q : d = d') : Ev Z sc ρ e d' := q ▸ h
theorem EvT.as {e : Expr} {b b' : Bool} (h : EvT Z sc ρ e b) (q : b = b') : EvT Z sc ρ e b' := q ▸ h
theorem EvT.on {e : Expr} {b : Bool} {Q : Bool → Shared → Prop} {E : Value → Shared → Prop} (F : Fs Z.H sc ρ env W s.heap) (h : EvT Z sc ρ e b) (hq : ∀ s', Kps s s' → Q b s') : wpAny (model Z.prog Z.w) Z.A (isTrue e env (eval e env)) Q E s := h env W s Q E F hq
theorem Ev.on {e : Expr} {d : PyData} {Q : Value → Shared → Prop} {E : Value → Shared → Prop} (F : Fs Z.H sc ρ env W s.heap) (h : Ev Z sc ρ e d) (hq : ∀ v s', Kps s s' → RD W s'.heap v d → Q v s') : wpAny (model Z.prog Z.w) Z.A (eval e env) Q E s := h env W s Q E F hq
end
theorem ints_get {ns : List Int} {i : Nat} {d : PyData} (h : (izs ns)[i]? = some d) : ∃ n, ns[i]? = some n ∧ d = .int n := by
  rw [List.getElem?_map] at h
  cases e : ns[i]? with
  | none => rw [e] at h; cases h
  | some n => rw [e] at h; exact ⟨n, rfl, (Option.some.inj h).symm⟩

theorem sizeLine_big : 16000000 ≤ sizeLine := by rw [sizeLine_eq]; omega

theorem le_small {n : Nat} (h : n ≤ 16000000) : n ≤ sizeLine := Nat.le_trans h sizeLine_big
theorem ML.frame {W₀ N : List Addr} {D I : Addr} {ds : List PyData} {h h' : Heap} {env : Env} (m : ML W₀ (I :: N) D ds h) (oN : ∀ b, All env b → b ∈ N) (nD : ¬ All env D) (hDI : D ≠ I) (k : ∀ b o, ¬ All env b → b ≠ I → h.get? b = some o → h'.get? b = some o) : ML W₀ (I :: N) D ds h' :=
  m.move (fun o e => k D o nD hDI e) fun b o nb e => ⟨nb, k b o (fun q => nb (List.mem_append_left _ (List.mem_cons_of_mem _ (oN b q)))) (fun q => nb (by rw [q]; exact List.mem_append_left _ List.mem_cons_self)) e⟩
theorem ML.fr {W₀ N : List Addr} {D : Addr} {ds : List PyData} {h h' : Heap} {env : Env} (m : ML W₀ N D ds h) (oN : ∀ b, All env b → b ∈ N) (nD : ¬ All env D) (k : ∀ b o, ¬ All env b → h.get? b = some o → h'.get? b = some o) : ML W₀ N D ds h' :=
  m.move (fun o e => k D o nD e) fun b o nb e => ⟨nb, k b o (fun q => nb (List.mem_append_left _ (oN b q))) e⟩
theorem kindOf_local {H₀ : Heap} {sc : Scope} {ρ : Nm} {env : Env} {W : List Addr} {h : Heap} (F : Fs H₀ sc ρ env W h) {x : Str} (hx : sc.names.lookup x = some .local) : env.kindOf x = some .local := F.hk x _ hx
theorem kindOf_cell {H₀ : Heap} {sc : Scope} {ρ : Nm} {env : Env} {W : List Addr} {h : Heap} (F : Fs H₀ sc ρ env W h) {x : Str} (hx : sc.names.lookup x = some .cell) : env.kindOf x = some .cell := F.hk x _ hx
theorem blockKind_fn {H₀ : Heap} {sc : Scope} {ρ : Nm} {env : Env} {W : List Addr} {h : Heap} (F : Fs H₀ sc ρ env W h) : env.blockKind = .function := by
  unfold Env.blockKind; rw [F.fn]; rfl

end Mine
end

-- W7
section
open PySem PySem.Calls PySem.Spec PyProof.Rows
namespace Mine

def ordp (a b : Int) : Int × Int := (max a b, min a b)
def stepAdd (fs : List (Int × Int)) (n : Int) : List (Int × Int) :=
  if n.fmod 7 ≠ (n.fdiv 7).fmod 7 ∧ ordp (n.fmod 7) ((n.fdiv 7).fmod 7) ∉ fs then fs ++ [ordp (n.fmod 7) ((n.fdiv 7).fmod 7)] else fs
def stepsOf (ns : List Int) : List (Int × Int) := ns.foldl stepAdd []
theorem stepsOf_take {ns : List Int} {i : Nat} {n : Int} (h : ns[i]? = some n) : stepsOf (ns.take (i + 1)) = stepAdd (stepsOf (ns.take i)) n := by
  unfold stepsOf
  rw [List.take_add_one, h]; simp
theorem stepAdd_len (fs : List (Int × Int)) (n : Int) : (stepAdd fs n).length ≤ fs.length + 1 := by
  unfold stepAdd; split <;> simp
theorem steps_len (ns : List Int) : (stepsOf ns).length ≤ ns.length := by
  unfold stepsOf
  have : ∀ (ns : List Int) (fs : List (Int × Int)), (ns.foldl stepAdd fs).length ≤ fs.length + ns.length := fun ns => by
    induction ns with
    | nil => simp
    | cons n r ih => intro fs; have := ih (stepAdd fs n); have := stepAdd_len fs n; simp only [List.foldl_cons, List.length_cons]; omega
  simpa using this ns []

theorem body_7 {Z : Wo} (L : Lw Z.H) (rm : Rm 0 Z.A) {ns : List Int} (hn : ns.length < 1000) : Body Z 7 [("numbers", .dat (.list (izs ns)))] (.list (prs (stepsOf ns))) := fun env N W s₀ s E B => by
  refine wpAny_execs_cons (B.newList (x := "found") EvL.nil (Nat.zero_le _) (.inl rfl) fun D s₁ B₁ m₁ nD hDN => ?_)
  refine wpAny_execs_cons (Bs.forIn (x := "number") (ρJ := fun _ => [("found", .val (.ref D)), ("numbers", .dat (.list (izs ns)))]) (K := fun I i h => ML W (I :: D :: N) D (prs (stepsOf (ns.take i))) h)
    B₁ (EvI.list rm (Ev.name rfl)) (.inl rfl) (fun _ _ e => e) (fun I s' k hI => m₁.more k.ext hI) (fun I i h h' hI m k => m.frame B₁.oN nD (fun q => hI (by rw [← q]; exact List.mem_cons_self)) k) (fun I i d s' E' hI nI hd B' m => ?_) fun I s' hI B' m => ?_)
  · obtain ⟨n, hn', rfl⟩ := ints_get hd
    have hi : i < ns.length := (List.getElem?_eq_some_iff.mp hn').1
    have hsz : (stepsOf (ns.take i)).length < 1000 := by have := steps_len (ns.take i); rw [List.length_take] at this; omega
    have hDI : D ∈ I :: D :: N := List.mem_cons_of_mem _ List.mem_cons_self
    refine wpAny_execs_cons (B'.pairS (x := "one") (y := "other") rm (Ev.tuple (.cons (Ev.bin (Ev.name rfl) (Ev.int _ _ _) (OpJ.modInt (by decide))) (.cons (Ev.bin (Ev.bin (Ev.name rfl) (Ev.int _ _ _) (OpJ.divInt (by decide) (PyProof.noPylong_of_log2 (by decide)))) (Ev.int _ _ _) (OpJ.modInt (by decide))) .nil)) (le_small (by simp))) rfl rfl (fun s₂ B₂ k₂ => ?_) rfl ?_)
    · have m₂ := m.fr B'.oN nD k₂
      refine wpAny_execs_cons (B₂.ifsO (x := "found") rfl m₂ nD (EvT.and2 (EvT.cmp (Ev.name rfl) (Ev.name rfl) (OpJ.ne rm (shaped_int _) (shaped_int _))) fun _ => EvT.cmp (Ev.tuple (.cons (Ev.call L.bmax rfl (.bi _) (.cons (Ev.name rfl) (.cons (Ev.name rfl) .nil)) (call_max rm)) (.cons (Ev.call L.bmin rfl (.bi _) (.cons (Ev.name rfl) (.cons (Ev.name rfl) .nil)) (call_min rm)) .nil)) (le_small (by simp))) (Ev.name rfl) (OpJ.notIn rm (shaped_prd (max _ _, min _ _)) (canLay_prs _))) (fun hc s₃ k₃ B₃ => ?_) fun hc s₃ k₃ B₃ => ?_)
      · have m₃ := m₂.ext k₃.ext
        rw [eqv_int, any_prs'] at hc
        have hc' : n.fmod 7 ≠ (n.fdiv 7).fmod 7 ∧ ordp (n.fmod 7) ((n.fdiv 7).fmod 7) ∉ stepsOf (ns.take i) := by simpa [ordp] using hc
        refine wpAny_execs_cons (B₃.append (x := "found") rfl m₃ hDI nD (Ev.tuple (.cons (Ev.call L.bmax rfl (.bi _) (.cons (Ev.name rfl) (.cons (Ev.name rfl) .nil)) (call_max rm)) (.cons (Ev.call L.bmin rfl (.bi _) (.cons (Ev.name rfl) (.cons (Ev.name rfl) .nil)) (call_min rm)) .nil)) (le_small (by simp))) (Nat.lt_of_lt_of_le (by rw [List.length_map]; exact hsz) (le_small (by decide))) (fun s₄ B₄ m₄ k₄ => ?_) rfl rfl rfl rfl)
        refine wpAny_execs_nil (wpAny_execs_nil ⟨B₄.names (SubN.go ⟨rfl, rfl, trivial⟩), ?_, fun b o nb e => ?_⟩)
        · show ML W (I :: D :: N) D (prs (stepsOf (ns.take (i + 1)))) _
          rw [stepsOf_take hn', stepAdd, if_pos hc', prs, List.map_append]
          exact m₄
        · exact k₄ b o (fun q => nb (by rw [q]; exact List.mem_cons_self)) (k₃.ext b o (k₂ b o (fun q => nb (B₁.oN b q)) e))
      · rw [eqv_int, any_prs'] at hc
        have hc' : ¬ (n.fmod 7 ≠ (n.fdiv 7).fmod 7 ∧ ordp (n.fmod 7) ((n.fdiv 7).fmod 7) ∉ stepsOf (ns.take i)) := by
          intro h; simp [h.1, ordp] at hc; exact h.2 hc
        refine wpAny_execs_nil (wpAny_execs_nil ⟨B₃.names (SubN.go ⟨rfl, rfl, trivial⟩), ?_, fun b o nb e => ?_⟩)
        · show ML W (I :: D :: N) D (prs (stepsOf (ns.take (i + 1)))) _
          rw [stepsOf_take hn', stepAdd, if_neg hc']
          exact m₂.ext k₃.ext
        · exact k₃.ext b o (k₂ b o (fun q => nb (B₁.oN b q)) e)
    · exact swapped_two (kindOf_local B'.F rfl) (kindOf_local B'.F rfl) (blockKind_fn B'.F) rfl rfl (fun _ _ e => nomatch e) (fun _ _ e => nomatch e) rfl rfl
  · have m' := m.less
    rw [show (izs ns).length = ns.length by simp, List.take_length] at m'
    exact wpAny_execs_cons (B'.retO (x := "found") rfl m' nD (fun hb => hDN (List.mem_append_right _ hb)) (Ev.name rfl) fun v s'' k r => ⟨v, rfl, k, r⟩)
end Mine
end

-- W5
section
open PySem PySem.Calls PySem.Spec PyProof.Rows
namespace Mine

theorem bindsD {s : Shared} {fd : FuncData} {args : Args} {binds : List (Str × Value)} {T K : Addr} {o : Obj} {items : Array Value} {n : Nat} {m : Str → Option Value} {v : Value} {x : Str}
    {k : Option (Array Value) → Sem (List (Str × Value))} {k2 : Option Value → Sem (List (Str × Value))} (hd : fd.defaults = .ref T) (ho : s.heap.get? T = some o) (hs : o.data = .seq items n) (hm : s.heap.Ns K m) (hv : m x = some v)
    (h₁ : bindArgs fd args = seqItems? fd.defaults >>= k) (h₂ : k (some items) = nsGet K x >>= k2) (h₃ : k2 (some v) = pure binds) : BindsTo s fd args binds :=
  fun _ _ _ _ hq => by
    rw [h₁, hd]
    refine wpAny_bind (wpAny_seqItems ho hs ?_)
    rw [h₂]
    refine wpAny_bind (wpAny_nsGet hm ?_)
    rw [hv, h₃]
    exact wpAny_pure hq

/-- where x goes: how many at the front are less -/
def bis (xs : List Int) (x : Int) : Nat := (xs.takeWhile fun y => decide (y < x)).length
theorem bis_eq {x : Int} : ∀ {xs : List Int} {r : Nat}, (∀ k y, k < r → xs[k]? = some y → y < x) → (∀ y, xs[r]? = some y → ¬ y < x) → r ≤ xs.length → bis xs x = r
  | [], r, _, _, h => by simp at h; subst h; rfl
  | y :: ys, 0, _, h, _ => by
    have := h y rfl
    simp [bis, this]
  | y :: ys, r + 1, h1, h2, h3 => by
    have hy := h1 0 y (Nat.succ_pos _) rfl
    have ih := bis_eq (xs := ys) (r := r) (fun k z hk e => h1 (k + 1) z (Nat.succ_lt_succ hk) (by simpa using e)) (fun z e => h2 z (by simpa using e)) (by simpa using h3)
    simp only [bis, List.takeWhile_cons, decide_eq_true hy, if_true, List.length_cons] at ih ⊢
    rw [ih]

theorem sorted_get {xs : List Int} (hs : xs.Pairwise (· ≤ ·)) {i j : Nat} {a b : Int} (hij : i ≤ j) (ha : xs[i]? = some a) (hb : xs[j]? = some b) : a ≤ b := by
  obtain ⟨hi, rfl⟩ := List.getElem?_eq_some_iff.mp ha
  obtain ⟨hj, rfl⟩ := List.getElem?_eq_some_iff.mp hb
  rcases Nat.lt_or_eq_of_le hij with h | h
  · exact List.pairwise_iff_getElem.mp hs i j hi hj h
  · subst h; exact Int.le_refl _

theorem tail_5 {Z : Wo} (rm : Rm 0 Z.A) {xs : List Int} {x : Int} (hs : xs.Pairwise (· ≤ ·)) (hn : xs.length < 1000) {env : Env} {N W : List Addr} {s₀ s : Shared} {E : Value → Shared → Prop}
    (B : Bs Z s₀ W N (scopeAt 5) [("hi", .dat (.int xs.length)), ("lo", .dat (.int 0)), ("a", .dat (.list (izs xs))), ("x", .dat (.int x)), ("key", .dat .none)] env s) :
    wpAny (model Z.prog Z.w) Z.A (execs ((bodyAt 5).drop 2) env) (Ret s₀ W (.int (bis xs x))) E s := by
  refine wpAny_execs_cons (B.ifs (EvT.cmp (Ev.name rfl) (Ev.none _ _) OpJ.isNoneNone) (fun _ s₁ k₁ B₁ => ?_) fun h => nomatch h)
  refine wpAny_execs_cons (wpAny_While (codeAny_whileLoop (fun n s => ∃ lo hi : Nat, n = hi - lo ∧ lo ≤ hi ∧ hi ≤ xs.length ∧ (∀ k y, k < lo → xs[k]? = some y → y < x) ∧ (∀ k y, hi ≤ k → xs[k]? = some y → ¬ y < x) ∧
    Bs Z s₀ W N (scopeAt 5) [("hi", .dat (.int hi)), ("lo", .dat (.int lo)), ("a", .dat (.list (izs xs))), ("x", .dat (.int x))] env s) ?_ (xs.length - 0) ⟨0, xs.length, rfl, Nat.zero_le _, Nat.le_refl _, fun k y h _ => absurd h (Nat.not_lt_zero _),
      fun k y (h : xs.length ≤ k) (e : xs[k]? = some y) => (by rw [List.getElem?_eq_none h] at e; cases e), B₁.names (SubN.go ⟨rfl, rfl, rfl, rfl, trivial⟩)⟩))
  rintro n s₂ ⟨lo, hi, rfl, h1, h2, h3, h4, B₂⟩
  refine EvT.on B₂.F (EvT.cmp (Ev.name rfl) (Ev.name rfl) OpJ.ltInt) fun s₃ k₃ => ?_
  have B₃ := B₂.keeps k₃
  by_cases hlt : lo < hi
  · rw [decide_eq_true (by omega), if_pos rfl]
    have hmid : (((lo : Int) + (hi : Int)).fdiv 2) = (((lo + hi) / 2 : Nat) : Int) := by
      rw [Int.fdiv_eq_ediv_of_nonneg _ (by decide)]; omega
    have hmlt : (lo + hi) / 2 < xs.length := by omega
    refine wpAny_execs_cons (B₃.assign ((Ev.bin (Ev.bin (Ev.name rfl) (Ev.name rfl) OpJ.addInt) (Ev.int _ _ _) (OpJ.divInt (by decide) (PyProof.noPylong_of_log2 (by decide)))).as (congrArg PyData.int hmid)) (.inl rfl) rfl fun s₄ B₄ k₄ => ?_)
    have hg : (izs xs)[(lo + hi) / 2]? = some (.int xs[(lo + hi) / 2]) := by
      rw [List.getElem?_map, List.getElem?_eq_getElem hmlt]; rfl
    have hg' : xs[(lo + hi) / 2]? = some xs[(lo + hi) / 2] := List.getElem?_eq_getElem hmlt
    generalize xs[(lo + hi) / 2] = y at hg hg'
    refine wpAny_execs_cons (B₄.ifs (EvT.cmp (Ev.sub (Ev.name rfl) (Ev.name rfl) (OpJ.item (by omega) hg)) (Ev.name rfl) OpJ.ltInt) (fun hc s₅ k₅ B₅ => ?_) fun hc s₅ k₅ B₅ => ?_)
    · have hy := of_decide_eq_true hc
      refine wpAny_execs_cons (B₅.assign (Ev.bin (Ev.name rfl) (Ev.int _ _ _) OpJ.addInt) (.inl rfl) rfl fun s₆ B₆ k₆ => wpAny_execs_nil (wpAny_execs_nil ?_))
      refine ⟨hi - ((lo + hi) / 2 + 1), by omega, (lo + hi) / 2 + 1, hi, rfl, by omega, h2, fun k z hk e => ?_, h4, B₆.names (SubN.go ⟨rfl, rfl, rfl, rfl, trivial⟩)⟩
      exact Int.lt_of_le_of_lt (sorted_get hs (by omega) e hg') hy
    · have hy := of_decide_eq_false hc
      refine wpAny_execs_cons (B₅.assign (Ev.name rfl) (.inl rfl) rfl fun s₆ B₆ k₆ => wpAny_execs_nil (wpAny_execs_nil ?_))
      refine ⟨(lo + hi) / 2 - lo, by omega, lo, (lo + hi) / 2, rfl, by omega, by omega, h3, fun k z hk e => ?_, B₆.names (SubN.go ⟨rfl, rfl, rfl, rfl, trivial⟩)⟩
      intro hz
      exact hy (Int.lt_of_le_of_lt (sorted_get hs (by omega) hg' e) hz)
  · rw [decide_eq_false (by omega), if_neg (by decide)]
    refine wpAny_execs_nil (wpAny_execs_nil (wpAny_execs_cons (B₃.ret (Ev.name rfl) fun v s₄ k r => ⟨v, rfl, k, ?_⟩)))
    rw [bis_eq (r := lo) h3 (fun y e => h4 lo y (by omega) e) (by omega)]
    exact r
end Mine
end

-- W5b
section
open PySem PySem.Calls PySem.Spec PyProof.Rows
namespace Mine

abbrev bisN (xs : List Int) (x : Int) : Nm := [("a", .dat (.list (izs xs))), ("x", .dat (.int x)), ("lo", .dat (.int 0)), ("hi", .dat .none), ("key", .dat .none)]

theorem body_5 {Z : Wo} (L : Lw Z.H) (rm : Rm 0 Z.A) {xs : List Int} {x : Int} (hs : xs.Pairwise (· ≤ ·)) (hn : xs.length < 1000) : Body Z 5 (bisN xs x) (.int (bis xs x)) := fun env N W s₀ s E B => by
  refine wpAny_execs_cons (B.ifs (EvT.cmp (Ev.name rfl) (Ev.int _ _ _) OpJ.ltInt) (fun h => absurd h (by decide)) fun _ s₁ k₁ B₁ => wpAny_execs_nil ?_)
  refine wpAny_execs_cons (B₁.ifs (EvT.cmp (Ev.name rfl) (Ev.none _ _) OpJ.isNoneNone) (fun _ s₂ k₂ B₂ => ?_) fun h => nomatch h)
  refine wpAny_execs_cons (B₂.assign (Ev.call L.blen rfl (.bi _) (.cons (Ev.name rfl) .nil) (call_len rm (by simpa using (by omega : xs.length < 1000000)))) (.inl rfl) rfl fun s₃ B₃ k₃ => wpAny_execs_nil ?_)
  refine tail_5 rm hs hn (B₃.names (SubN.go ⟨by simp, rfl, rfl, rfl, rfl, trivial⟩))

theorem binds_5 {s : Shared} {fd : FuncData} {a : Addr} {H : Heap} (L : Lw H) (D : DefI H 5 a fd) (h1 : fd.defaults = .ref 38) (h2 : fd.kwdefaults = .ref 39) (top : Ext H s.heap) {va vx : Value} :
    ∃ t, BindsTo s fd ⟨[va, vx], []⟩ [("a", va), ("x", vx), ("lo", .int 0 t), ("hi", .none), ("key", .none)] := by
  obtain ⟨t, n, ho⟩ := L.o38
  obtain ⟨m, hm, hv⟩ := L.o39
  obtain ⟨_, _, e⟩ := D
  cases fd; dsimp only at h1 h2 e; subst h1 h2 e
  refine ⟨t, fun M A E Q hq => ?_⟩
  unfold bindArgs
  show wpAny M A (seqItems? (.ref 38) >>= _) Q E s
  refine wpAny_bind (wpAny_seqItems (top _ _ ho) rfl ?_)
  show wpAny M A ((forIn (m := Sem) [("key" : Str)] (([("a", va), ("x", vx), ("lo", .int 0 t), ("hi", .none)] : List (Str × Value)), ([] : List Str)) _) >>= _) Q E s
  rw [List.forIn_cons]
  refine wpAny_bind (wpAny_bind ?_)
  show wpAny M A (nsGet 39 ("key" : Str) >>= _) _ E s
  refine wpAny_bind (wpAny_nsGet (hm.keeps top) ?_)
  rw [hv]
  exact wpAny_pure (wpAny_pure (wpAny_pure hq))

theorem binds_5b {s : Shared} {fd : FuncData} {a : Addr} {H : Heap} (L : Lw H) (D : DefI H 5 a fd) (h1 : fd.defaults = .ref 38) (h2 : fd.kwdefaults = .ref 39) (top : Ext H s.heap) {va vx vl vh : Value} :
    BindsTo s fd ⟨[va, vx, vl, vh], []⟩ [("a", va), ("x", vx), ("lo", vl), ("hi", vh), ("key", .none)] := by
  obtain ⟨t, n, ho⟩ := L.o38
  obtain ⟨m, hm, hv⟩ := L.o39
  obtain ⟨_, _, e⟩ := D
  cases fd; dsimp only at h1 h2 e; subst h1 h2 e
  refine fun M A E Q hq => ?_
  unfold bindArgs
  show wpAny M A (seqItems? (.ref 38) >>= _) Q E s
  refine wpAny_bind (wpAny_seqItems (top _ _ ho) rfl ?_)
  show wpAny M A ((forIn (m := Sem) [("key" : Str)] (([("a", va), ("x", vx), ("lo", vl), ("hi", vh)] : List (Str × Value)), ([] : List Str)) _) >>= _) Q E s
  rw [List.forIn_cons]
  refine wpAny_bind (wpAny_bind ?_)
  show wpAny M A (nsGet 39 ("key" : Str) >>= _) _ E s
  refine wpAny_bind (wpAny_nsGet (hm.keeps top) ?_)
  rw [hv]
  exact wpAny_pure (wpAny_pure (wpAny_pure hq))

theorem binds_4 {s : Shared} {fd : FuncData} {a : Addr} {H : Heap} (L : Lw H) (D : DefI H 4 a fd) (h1 : fd.defaults = .ref 29) (h2 : fd.kwdefaults = .ref 30) (top : Ext H s.heap) {va vx : Value} :
    ∃ t, BindsTo s fd ⟨[va, vx], []⟩ [("a", va), ("x", vx), ("lo", .int 0 t), ("hi", .none), ("key", .none)] := by
  obtain ⟨t, n, ho⟩ := L.o29
  obtain ⟨m, hm, hv⟩ := L.o30
  obtain ⟨_, _, e⟩ := D
  cases fd; dsimp only at h1 h2 e; subst h1 h2 e
  refine ⟨t, fun M A E Q hq => ?_⟩
  unfold bindArgs
  show wpAny M A (seqItems? (.ref 29) >>= _) Q E s
  refine wpAny_bind (wpAny_seqItems (top _ _ ho) rfl ?_)
  show wpAny M A ((forIn (m := Sem) [("key" : Str)] (([("a", va), ("x", vx), ("lo", .int 0 t), ("hi", .none)] : List (Str × Value)), ([] : List Str)) _) >>= _) Q E s
  rw [List.forIn_cons]
  refine wpAny_bind (wpAny_bind ?_)
  show wpAny M A (nsGet 30 ("key" : Str) >>= _) _ E s
  refine wpAny_bind (wpAny_nsGet (hm.keeps top) ?_)
  rw [hv]
  exact wpAny_pure (wpAny_pure (wpAny_pure hq))

/-- the five names of the two defs of bisect -/
theorem five {Z : Wo} {i : Nat} {a : Addr} {fd : FuncData} {k : Nat} (D : DefI Z.H i a fd) (rm : Rm (k + 1) Z.A) {s : Shared} {W : List Addr} {vals : List Value} {va vx vl vh : Value} {pa px pl ph : PV} {Q : Value → Shared → Prop} {E : Value → Shared → Prop}
    (hb : BindsTo s fd ⟨vals, []⟩ [("a", va), ("x", vx), ("lo", vl), ("hi", vh), ("key", .none)])
    (hk : ∀ x ∈ (["a", "x", "lo", "hi", "key"] : List Str), (scopeAt i).names.lookup x = some .local)
    (top : Ext Z.H s.heap) (al : ∀ b ∈ W, ∃ o, s.heap.get? b = some o) (ra : PVis W s.heap va pa) (rx : PVis W s.heap vx px) (rl : PVis W s.heap vl pl) (rh : PVis W s.heap vh ph)
    (h : ∀ env N s₁, Rm k (Z.A.deeper env) → Bs { Z with A := Z.A.deeper env } s W N (scopeAt i) [("a", pa), ("x", px), ("lo", pl), ("hi", ph), ("key", .dat .none)] env s₁ →
      wpAny (model Z.prog Z.w) (Z.A.deeper env) (execs (bodyAt i) env) (fun f s' => Q (match f with | .ret v => v | _ => .none) s') (fun _ _ => False) s₁) :
    wpAny (model Z.prog Z.w) Z.A (call (.ref a) vals) Q E s := by
  refine enter_i D rm top al (fun Q E hq => hb _ _ E Q hq) (fun x hx => .inl (hk x.1 ?_)) (by show (["a", "x", "lo", "hi", "key"] : List Str).Nodup; decide) (fun x p e => ?_) h
  · simp only [List.mem_cons, List.not_mem_nil, or_false] at hx ⊢
    rcases hx with rfl | rfl | rfl | rfl | rfl <;> simp
  · simp only [List.lookup_cons] at e ⊢
    cases h1 : x == ("a" : Str) with
    | true => rw [h1] at e; cases e; exact ⟨_, rfl, ra⟩
    | false =>
      rw [h1] at e; dsimp only at e ⊢
      cases h2 : x == ("x" : Str) with
      | true => rw [h2] at e; cases e; exact ⟨_, rfl, rx⟩
      | false =>
        rw [h2] at e; dsimp only at e ⊢
        cases h3 : x == ("lo" : Str) with
        | true => rw [h3] at e; cases e; exact ⟨_, rfl, rl⟩
        | false =>
          rw [h3] at e; dsimp only at e ⊢
          cases h4 : x == ("hi" : Str) with
          | true => rw [h4] at e; cases e; exact ⟨_, rfl, rh⟩
          | false =>
            rw [h4] at e; dsimp only at e ⊢
            cases h5 : x == ("key" : Str) with
            | true => rw [h5] at e; cases e; exact ⟨_, rfl, rd_none⟩
            | false => rw [h5] at e; cases e

theorem call_5 {Z : Wo} (L : Lw Z.H) {k : Nat} (rm : Rm (k + 1) Z.A) {xs : List Int} {x : Int} (hs : xs.Pairwise (· ≤ ·)) (hn : xs.length < 1000) : CallOK Z (.ref 46) [.list (izs xs), .int x] (.int (bis xs x)) := fun W s vs Q E top al rs hQ => by
  obtain ⟨v, vs', rfl, r, rs⟩ := rs.cons_inv
  obtain ⟨u, vs', rfl, r2, rs⟩ := rs.cons_inv
  rw [rs.nil_inv]
  obtain ⟨fd, D, h1, h2⟩ := L.d5
  obtain ⟨t, hb⟩ := binds_5 L D h1 h2 top (va := v) (vx := u)
  refine five D rm hb (by decide) top al (pa := .dat (.list (izs xs))) (px := .dat (.int x)) (pl := .dat (.int 0)) (ph := .dat .none) r r2 (rd_int _ _) rd_none fun env N s₁ rm' B => wpAny_mono (body_5 (Z := { Z with A := Z.A.deeper env }) L (Rm.le rm' (Nat.zero_le _)) hs hn env N W s s₁ _ B) (fun f s' hf => ?_) fun _ _ x => x
  obtain ⟨v, rfl, k', r'⟩ := hf
  exact hQ _ _ k' r'
theorem call_5b {Z : Wo} (L : Lw Z.H) {k : Nat} (rm : Rm (k + 1) Z.A) {xs : List Int} {x : Int} (hs : xs.Pairwise (· ≤ ·)) (hn : xs.length < 1000) : CallOK Z (.ref 46) [.list (izs xs), .int x, .int 0, .none] (.int (bis xs x)) := fun W s vs Q E top al rs hQ => by
  obtain ⟨v, vs', rfl, r, rs⟩ := rs.cons_inv
  obtain ⟨u, vs', rfl, r2, rs⟩ := rs.cons_inv
  obtain ⟨l, vs', rfl, r3, rs⟩ := rs.cons_inv
  obtain ⟨h, vs', rfl, r4, rs⟩ := rs.cons_inv
  rw [rs.nil_inv]
  obtain ⟨fd, D, h1, h2⟩ := L.d5
  have hb := binds_5b L D h1 h2 top (va := v) (vx := u) (vl := l) (vh := h)
  refine five D rm hb (by decide) top al (pa := .dat (.list (izs xs))) (px := .dat (.int x)) (pl := .dat (.int 0)) (ph := .dat .none) r r2 r3 r4 fun env N s₁ rm' B => wpAny_mono (body_5 (Z := { Z with A := Z.A.deeper env }) L (Rm.le rm' (Nat.zero_le _)) hs hn env N W s s₁ _ B) (fun f s' hf => ?_) fun _ _ x => x
  obtain ⟨v, rfl, k', r'⟩ := hf
  exact hQ _ _ k' r'
end Mine
end

-- W4
section
open PySem PySem.Calls PySem.Spec PyProof.Rows
namespace Mine

def ins (xs : List Int) (x : Int) : List Int := xs.take (bis xs x) ++ x :: xs.drop (bis xs x)
theorem bis_le (xs : List Int) (x : Int) : bis xs x ≤ xs.length := (List.takeWhile_sublist _).length_le

theorem ins_arr {its : Array Value} {k : Nat} {y : Value} (hk : k ≤ its.size) :
    ((fun xs : Array Value => have k := if (k : Int) < 0 then ((k : Int) + (xs.size : Int)).toNat else min (k : Int).toNat xs.size; (xs.extract 0 k).push y ++ xs.extract k) its) = (its.toList.take k ++ y :: its.toList.drop k).toArray := by
  have h1 : ¬ (k : Int) < 0 := by omega
  simp only [if_neg h1, Int.toNat_natCast, Nat.min_eq_left hk]
  apply Array.ext'
  simp [List.take_of_length_le]
theorem mapSeq_is (f : Array Value → Array Value) (its : Array Value) (n : Nat) : ∃ n', Obj.mapSeq f { cls := .type "list", data := .seq its n } = { cls := .type "list", data := .seq (f its) n' } := ⟨_, rfl⟩

theorem intsAre_get {vs : List Value} {ns : List Int} (h : IntsAre vs ns) : vs.length = ns.length := by
  induction h with
  | nil => rfl
  | cons _ _ _ ih => simp [ih]
theorem ia_app {vs us : List Value} {ns ms : List Int} (h : IntsAre vs ns) (h' : IntsAre us ms) : IntsAre (vs ++ us) (ns ++ ms) := by
  induction h with
  | nil => exact h'
  | cons _ _ _ ih => exact .cons _ _ ih
theorem ia_tk {vs : List Value} {ns : List Int} (h : IntsAre vs ns) (k : Nat) : IntsAre (vs.take k) (ns.take k) := by
  induction h generalizing k with
  | nil => simp; exact .nil
  | cons _ _ _ ih => cases k with
    | zero => exact .nil
    | succ k => exact .cons _ _ (ih k)
theorem ia_dp {vs : List Value} {ns : List Int} (h : IntsAre vs ns) (k : Nat) : IntsAre (vs.drop k) (ns.drop k) := by
  induction h generalizing k with
  | nil => simp; exact .nil
  | cons _ _ h ih => cases k with
    | zero => exact .cons _ _ h
    | succ k => exact ih k

theorem Bs.assignO {Z : Wo} {sc : Scope} {ρ : Nm} {s₀ : Shared} {W₀ N : List Addr} {env : Env} {s : Shared} {y x : Str} {D : Addr} {ys : Array Value} {ds : List PyData} {px pos : Pos} {e : Expr} {i : Int} {Q : Flow → Shared → Prop} {E : Value → Shared → Prop} (B : Bs Z s₀ W₀ N sc ρ env s)
    (hy : ρ.lookup y = some (.val (.ref D))) (hl : s.heap.PlainList D ys) (rs : RDs (N ++ W₀) s.heap ys.toList ds) (nD : ¬ All env D) (he : Ev Z sc ((y, .dat (.list ds)) :: ρ) e (.int i)) (hx : sc.names.lookup x = some .local ∨ sc.names.lookup x = some .cell)
    (hs : swapsWith e (some (.Name x px)) pos.line env = pure false)
    (h : ∀ s', Bs Z s₀ W₀ N sc ((x, .dat (.int i)) :: ρ) env s' → (∀ b o, ¬ All env b → s.heap.get? b = some o → s'.heap.get? b = some o) → Q .next s') : wpAny (model Z.prog Z.w) Z.A (exec (.Assign [.Name x px] e pos) env) Q E s :=
  wpAny_Assign_Name (Ev.on (B.F.opens hy hl rs fun q => nD q.all) he fun v s₁ k₁ r₁ => (B.keeps k₁).store (p := .dat (.int i)) (by obtain ⟨t, rfl⟩ := r₁.int_inv; exact rd_int _ _) hx fun h' tk B' k => h _ B' fun b o nb e => (k b nb).trans (k₁.ext b o e)) hs

theorem insert_at0 {prog : Program} {w : World} {A : Around} {E : Value → Shared → Prop} {s : Shared} {D : Addr} {ys : Array Value} {n : Nat} {x : Int} {u : Tok} {y : Value} {Q : Value → Shared → Prop} (ho : s.heap.get? D = some { cls := .type "list", data := .seq ys n }) (hsz : ys.size ≤ sizeLine)
    (hf : Builtin.List.listFitsIndex x = true) (h : ∀ h', Heap.SameBut D s.heap h' → h'.PlainList D ((fun xs : Array Value => have k := if x < 0 then (x + (xs.size : Int)).toNat else min x.toNat xs.size; (xs.extract 0 k).push y ++ xs.extract k) ys) → Q .none { s with heap := h' }) :
    wpAny (model prog w) A (call (.builtin "list.insert") [.ref D, .int x u, y]) Q E s := by
  refine call_meets PySem.F.slot_list_insert ⟨_, ho, rfl⟩ PySem.F.entry_list_insert (PySem.F.args_list_insert_3 _ _ _) (PySem.AutoSeq1.list_insert_list_int_val_1 D _ n x u y (by simp [hf]) hsz) ⟨ho, h _ (Heap.SameBut.update ..) ?_⟩
  obtain ⟨n', en⟩ := mapSeq_is (fun xs : Array Value => have k := if x < 0 then (x + (xs.size : Int)).toNat else min x.toNat xs.size; (xs.extract 0 k).push y ++ xs.extract k) ys n
  exact ⟨n', by rw [Heap.get?_update_self _ ho (by rw [en]; rfl), en]⟩
theorem insert_at {prog : Program} {w : World} {A : Around} {E : Value → Shared → Prop} {s : Shared} {D : Addr} {ys : Array Value} {n k : Nat} {u : Tok} {y : Value} {Q : Value → Shared → Prop} (ho : s.heap.get? D = some { cls := .type "list", data := .seq ys n }) (hk : k ≤ ys.size) (hsz : ys.size ≤ sizeLine)
    (hb : k < 100000) (h : ∀ h', Heap.SameBut D s.heap h' → h'.PlainList D (ys.toList.take k ++ y :: ys.toList.drop k).toArray → Q .none { s with heap := h' }) : wpAny (model prog w) A (call (.builtin "list.insert") [.ref D, .int (k : Int) u, y]) Q E s := by
  refine insert_at0 ho hsz (by unfold Builtin.List.listFitsIndex; simp; omega) fun h' hs hp => h h' hs ?_
  rw [ins_arr hk] at hp
  exact hp

theorem call_4 {Z : Wo} (L : Lw Z.H) {k : Nat} (rm : Rm (k + 2) Z.A) {xs : List Int} {x : Int} (hs : xs.Pairwise (· ≤ ·)) (hn : xs.length < 999) {s : Shared} {W : List Addr} {D : Addr} {ys : Array Value} {v : Value} {Q : Value → Shared → Prop} {E : Value → Shared → Prop}
    (top : Ext Z.H s.heap) (al : ∀ b ∈ W, ∃ o, s.heap.get? b = some o) (hD : D ∈ W) (hl : s.heap.PlainList D ys) (rs : RDs W s.heap ys.toList (izs xs)) (r : RD W s.heap v (.int x))
    (hQ : ∀ h' tk ys', h'.PlainList D ys' → IntsAre ys'.toList (ins xs x) → (∀ b o, b ≠ D → s.heap.get? b = some o → h'.get? b = some o) → Q .none { s with heap := h', toks := tk }) :
    wpAny (model Z.prog Z.w) Z.A (call (.ref 37) [.ref D, v]) Q E s := by
  obtain ⟨fd, F, h1, h2⟩ := L.d4
  obtain ⟨t, hb⟩ := binds_4 L F h1 h2 top (va := .ref D) (vx := v)
  have hiy := rs.ints
  refine five F rm hb (by decide) top al (pa := .val (.ref D)) (px := .dat (.int x)) (pl := .dat (.int 0)) (ph := .dat .none) rfl r (rd_int _ _) rd_none fun env N s₁ rm' B => ?_
  have rm0 : Rm 0 (Z.A.deeper env) := rm'.le (Nat.zero_le _)
  obtain ⟨n, ho⟩ := hl
  have nD : ¬ All env D := fun q => by have := B.nw D (B.oN D q); rw [ho] at this; cases this
  refine wpAny_execs_cons (B.ifs (EvT.cmp (Ev.name rfl) (Ev.none _ _) OpJ.isNoneNone) (fun _ s₂ k₂ B₂ => ?_) fun h => nomatch h)
  refine wpAny_execs_cons (B₂.assignO (y := "a") (ds := izs xs) (i := (bis xs x : Nat)) rfl ⟨n, B₂.K.ext _ _ ho⟩ (rds_ints hiy) nD (Ev.call L.g5 rfl (let ⟨fd, D, _⟩ := L.d5; D.D.callee) (.cons (Ev.name rfl) (.cons (Ev.name rfl) (.cons (Ev.name rfl) (.cons (Ev.name rfl) .nil)))) (call_5b (Z := { Z with A := Z.A.deeper env }) L rm' hs (by omega))) (.inl rfl) rfl fun s₃ B₃ k₃ => wpAny_execs_nil ?_)
  have ho₃ := B₃.K.ext _ _ ho
  refine wpAny_execs_cons (wpAny_Expr (own_method2 B₃.F (D := D) rfl ⟨n, ho₃⟩ (Ev.name (d := .int (bis xs x : Nat)) rfl) (Ev.name (d := .int x) rfl) PySem.F.slot_list_insert PySem.F.type_list_insert (fun i u s₄ k₄ ri ru => ?_) rfl rfl rfl rfl) B₃.F.inter)
  obtain ⟨ti, rfl⟩ := ri.int_inv
  obtain ⟨tu, rfl⟩ := ru.int_inv
  have B₄ := B₃.keeps k₄
  have ho₄ := B₄.K.ext _ _ ho
  have hlen : ys.size = xs.length := by have := rs.length; simpa using this
  have hle : bis xs x ≤ ys.size := by rw [hlen]; exact bis_le xs x
  have hsz : ys.size ≤ sizeLine := Nat.le_trans (by omega : ys.size ≤ 16000000) (le_small (Nat.le_refl _))
  have hb : (bis xs x : Int) < 9000 := by omega
  refine insert_at ho₄ hle hsz (by omega) fun h' hs' hD' => ?_
  obtain ⟨h₄, t₄, e₄, x₄⟩ := B₄.K
  refine wpAny_execs_nil ?_
  have fin := hQ h' t₄ _ hD' (by rw [List.toList_toArray]; exact ia_app (ia_tk hiy _) (.cons _ _ (ia_dp hiy _))) fun b o nb e => (hs'.2 b nb).trans (by rw [e₄]; exact x₄ b o e)
  rw [e₄]
  exact fin
end Mine
end

-- Fo
section
open PySem PySem.Calls PySem.Spec PyProof.Rows
namespace Mine
section
variable {Z : Wo} {sc : Scope} {ρ : Nm} {s₀ : Shared} {W₀ N : List Addr} {env : Env} {s : Shared}

/-- a for loop over a list of one's own that grows under way -/
theorem Bs.forOwn {f x : Str} {pf px pos : Pos} {body : List Stmt} {D : Addr} {ds : List PyData} {bound : Nat} {Q : Flow → Shared → Prop} {E : Value → Shared → Prop} (J : Nat → List PyData → Prop) (hJ : ∀ i ds, J i ds → i ≤ ds.length ∧ ds.length ≤ bound)
    (B : Bs Z s₀ W₀ N sc ρ env s) (rm : Rm 0 Z.A) (hf : ρ.lookup f = some (.val (.ref D))) (m : ML W₀ N D ds s.heap) (hD : D ∈ N) (nD : ¬ All env D) (hx : sc.names.lookup x = some .local ∨ sc.names.lookup x = some .cell) (hxf : ∀ d, SubN ρ ((x, .dat d) :: ρ)) (h0 : J 0 ds)
    (turn : ∀ I i ds d s' E', I ∉ N → J i ds → ds[i]? = some d → Bs Z s₀ W₀ (I :: N) sc ((x, .dat d) :: ρ) env s' → ML W₀ (I :: N) D ds s'.heap → wpAny (model Z.prog Z.w) Z.A (execs body env) (fun f s'' => match f with
      | .next => ∃ ds', J (i + 1) ds' ∧ Bs Z s₀ W₀ (I :: N) sc ρ env s'' ∧ ML W₀ (I :: N) D ds' s''.heap ∧ (∀ b o, b ∉ N → s'.heap.get? b = some o → s''.heap.get? b = some o)
      | .cont => False
      | .brk => False
      | .ret v => Q (.ret v) s'') E' s')
    (hend : ∀ ds s', J ds.length ds → Bs Z s₀ W₀ N sc ρ env s' → ML W₀ N D ds s'.heap → Q .next s')
    (hd : (f == ("__debug__" : Str)) = false) (hc : (f == ("__classdict__" : Str)) = false) : wpAny (model Z.prog Z.w) Z.A (exec (.For (.Name x px) (.Name f pf) body [] pos) env) Q E s := by
  refine wpAny_For (wpAny_Name (load_fs B.F hf (fun v r => ?_) hc) hd) (fun _ => rfl)
  obtain rfl : v = .ref D := r
  have m0 := m
  obtain ⟨ys, hl, rs⟩ := m.ex
  refine wpAny_pyIter_list hl.isList ?_
  have hI : s.heap.get? s.heap.objs.size = none := none_of_size (Nat.le_refl _)
  have k₁ : Kps s { s with heap := s.heap.push { cls := .type "list_iterator", data := .fields #[.ref D, rawInt 0] } } := Kps.mk' ext_push
  obtain ⟨B₁, nI, nN⟩ := B.more k₁ hI ⟨_, Heap.get?_push_size _ rfl⟩
  have nW : s.heap.objs.size ∉ N ++ W₀ := size_notin B.F.al (Nat.le_refl _)
  have it₁ : (s.heap.push { cls := .type "list_iterator", data := .fields #[.ref D, rawInt 0] }).IsListIter s.heap.objs.size D 0 := ⟨_, Heap.get?_push_size _ rfl, rfl, rfl⟩
  have m₁ := m0.more k₁.ext hI
  generalize s.heap.objs.size = I at *
  have hDI : D ≠ I := fun q => nN (q ▸ hD)
  have oN := B.oN
  refine codeAny_forLoop (fun k s' => ∃ i ds, k = bound + 1 - i ∧ J i ds ∧ Bs Z s₀ W₀ (I :: N) sc ρ env s' ∧ ML W₀ (I :: N) D ds s'.heap ∧ s'.heap.IsListIter I D i) ?_ (bound + 1) ⟨0, ds, rfl, h0, B₁, m₁, it₁⟩
  rintro n s' ⟨i, ds, rfl, hj, B', m', it⟩
  obtain ⟨ys', hl', rs'⟩ := m'.ex
  have hlen : ys'.size = ds.length := by rw [← rs'.length]; simp
  by_cases hlt : i < ds.length
  · refine wpAny_pyNext_list_item it hl'.isList (x := ys'[i]'(by omega)) (by simp) fun h₂ it₂ hs₂ => ?_
    have hv : ys'.toList[i]? = some (ys'[i]'(by omega)) := by simp
    obtain ⟨d, ed, rd⟩ := rs'.get i _ hv
    generalize (ys'[i]'(by omega)) = v at rd
    have k₂ : ∀ b o, b ≠ I → s'.heap.get? b = some o → h₂.get? b = some o := fun b o nb e => (hs₂.2 b nb).trans e
    have B₂ := B'.touch (tk := s'.toks) nI k₂ (let ⟨o, e, _⟩ := it₂; ⟨o, e⟩)
    have kp₂ : Kp (I :: N ++ W₀) s'.heap (I :: N ++ W₀) h₂ := fun b o nb e => ⟨nb, k₂ b o (fun q => nb (by rw [q]; exact List.mem_append_left _ List.mem_cons_self)) e⟩
    have m₂ : ML W₀ (I :: N) D ds h₂ := m'.move (fun o e => k₂ D o hDI e) kp₂
    refine wpAny_assign_Name (B₂.store (p := .dat d) (rd.kp kp₂) hx fun h₃ tk₃ B₃ k₃ => ?_)
    have k₃' : ∀ b o, ¬ All env b → h₂.get? b = some o → h₃.get? b = some o := fun b o nb e => (k₃ b nb).trans e
    have m₃ : ML W₀ (I :: N) D ds h₃ := m₂.fr B₂.oN nD k₃'
    refine wpAny_mono (turn I i ds d _ _ nN hj ed B₃ m₃) (fun f s₄ h₄ => ?_) fun _ _ x => x
    cases f with
    | next =>
      obtain ⟨ds', j', B₄, m₄, k₄⟩ := h₄
      have hb := (hJ _ _ j')
      refine ⟨bound + 1 - (i + 1), by omega, i + 1, ds', rfl, j', B₄, m₄, ?_⟩
      obtain ⟨o, e, r⟩ := it₂
      exact ⟨o, k₄ I o nN (k₃' I o nI e), r⟩
    | cont => exact h₄.elim
    | brk => exact h₄.elim
    | ret v => exact h₄
  · have hin : i = ds.length := by have := (hJ _ _ hj).1; omega
    subst hin
    refine wpAny_pyNext_list_end rm.1 it hl'.isList (by simp; omega) fun h₂ he => wpAny_execs_nil ?_
    have k₂ : ∀ b o, b ≠ I → s'.heap.get? b = some o → h₂.get? b = some o := fun b o nb e => he b o nb e
    have m₂ : ML W₀ (I :: N) D ds h₂ := m'.move (fun o e => k₂ D o hDI e) fun b o nb e => ⟨nb, k₂ b o (fun q => nb (by rw [q]; exact List.mem_append_left _ List.mem_cons_self)) e⟩
    exact hend ds _ hj (B'.drop (tk := s'.toks) nI nW k₂) m₂.less
end
end Mine
end

-- Dp
section
open PySem PySem.Calls PySem.Spec PyProof.Rows
open Sem (wp)
namespace Mine

theorem list_no_keys : typeLookup (.type "list") "keys" = pure none := am_miss_of_fast (by decide +kernel)

theorem getAttrQ_list {prog : Program} {w : World} {A : Around} {E : Value → Shared → Prop} {s : Shared} {a : Addr} {xs : Array Value} {k : Nat} {Q : Option Value → Shared → Prop}
    (hx : s.heap.get? a = some { cls := .type "list", data := .seq xs k }) (hA : A.handled = none)
    (h : ∀ h' tk, (∀ b o, s.heap.get? b = some o → h'.get? b = some o) → Q none { s with heap := h', toks := tk }) :
    wpAny (model prog w) A (getAttr? (.ref a) "keys") Q E s := by
  obtain ⟨hp, g, d, tk, os⟩ := s
  have hT : ∀ tk', (⟨hp, g, d, tk', os⟩ : Shared).TypeIs (.ref a) "list" := fun _ => ⟨_, hx, rfl⟩
  have f1 := sub_AttributeError
  have f3 := PySem.F.slot_list_getattribute.lookup
  have f4 := PySem.F.slot_list_getattribute.bind (.ref a)
  have f5 := am_list_getattr_none
  have hname : (["__module__", "__name__", "__qualname__", "__doc__", "__annotations__"] : List Str).contains "keys" = false := by decide
  unfold getAttr? getAttrBy? getAttrBy
  repeat (any_goals (first | assumption | exact hT _ | ((with_reducible show wpAny _ _ (call (Value.builtin "list.__getattribute__") _ _) _ _ _); refine call_meets PySem.F.slot_list_getattribute (hT _) am_entry_list_getattribute (PySem.F.args_list_getattribute_2 _ _) (meets_getattribute_miss_list a xs k #[] "keys" _ list_no_keys hname) ⟨hx, hA, fun h' tk' e hx' => ?_⟩) | wp_step))
  obtain ⟨t', u', he⟩ := hx'.there
  show wpAny _ _ (getattributeRaised _ _ _ _ _ _ _) _ _ _
  unfold getattributeRaised
  repeat (any_goals (first | assumption | wp_step))
  exact h _ _ hx'.keeps
end Mine
end

-- Dp2
section
open PySem PySem.Calls PySem.Spec PyProof.Rows
open Sem (wp)
namespace Mine

theorem plain_upd_loop : plainId "dict.update.loop" = true := by decide +kernel
theorem entry_upd_loop : entryFor table "dict.update.loop" = some Builtin.«dict.update.loop» := entryFor_of_fast (by kernel_rfl)

theorem stored_keys {kvs : List (Int × Value)} {k : Int} {v : Value} (j : Int) : j ∈ (stored kvs k v).map (·.1) ↔ j ∈ kvs.map (·.1) ∨ j = k := by
  unfold stored
  split
  · rename_i h
    have e : (kvs.map fun kv => if kv.1 = k then (kv.1, v) else kv).map (·.1) = kvs.map (·.1) := by
      rw [List.map_map]; apply List.map_congr_left; intro kv _; simp only [Function.comp]; split <;> rfl
    rw [e]
    constructor
    · exact .inl
    · rintro (h' | rfl)
      · exact h'
      · simp only [List.any_eq_true, decide_eq_true_eq] at h
        obtain ⟨kv, h1, h2⟩ := h
        exact List.mem_map.mpr ⟨kv, h1, h2⟩
  · simp
theorem stored_len {kvs : List (Int × Value)} {k : Int} {v : Value} : (stored kvs k v).length ≤ kvs.length + 1 := by
  unfold stored; split <;> simp

theorem upd_loop {prog : Program} {w : World} {A : Around} {R : Result → Shared → Prop} (hh : A.handled = none) {d I l : Addr} {vs : Array Value} {ks : List Int} {h₀ : Heap} (hdI : d ≠ I) (hdl : d ≠ l) (hlI : l ≠ I) (hsz : vs.size < 1000000)
    (hks : ∀ (i : Nat) (v : Value), vs[i]? = some v → ∃ (a : Addr) (k : Int) (t : Tok) (u : Value) (n : Nat), v = Value.ref a ∧ a ≠ d ∧ a ≠ I ∧ h₀.get? a = some { cls := .type "tuple", data := .seq #[.int k t, u] n } ∧ ks[i]? = some k) (hl : ks.length = vs.size) :
    ∀ (m i : Nat) (s : Shared) (kvs : List (Int × Value)) (u : Tok), vs.size - i = m → i ≤ vs.size → s.heap.IsListIter I l i → s.heap.IsList l vs → s.heap.DictOf (intKind prog w) d kvs → (∀ k, k ∈ kvs.map (·.1) ↔ k ∈ ks.take i) → kvs.length ≤ i →
      (∀ b o, b ≠ d → b ≠ I → h₀.get? b = some o → s.heap.get? b = some o) →
      (∀ h' tk kvs', h'.DictOf (intKind prog w) d kvs' → (∀ k, k ∈ kvs'.map (·.1) ↔ k ∈ ks) → kvs'.length ≤ vs.size → (∀ b o, b ≠ d → b ≠ I → h₀.get? b = some o → h'.get? b = some o) → R (.ok (.ret .none)) { s with heap := h', toks := tk }) →
      codeAny (model prog w) A (.builtin "dict.update.loop" ⟨[.ref d, .ref I, .int i u, .none], []⟩) R s := by
  intro m
  induction m with
  | zero =>
    intro i s kvs u hm hi hit hls hd hk hlen hkeep hR
    have hin : i = vs.size := by omega
    refine codeAny_builtin entry_upd_loop ?_
    rw [Around.under_plainId plain_upd_loop _]
    show wpAny _ A.in1 (pyNext (.ref I) >>= _) _ _ s
    refine wpAny_bind (wpAny_pyNext_list_end hh hit hls (by simp; omega) fun h' he => ?_)
    show wpAny _ _ (Builtin.Dict.addKeywords d [] >>= _) _ _ _
    refine wpAny_bind (wpAny_pure (wpAny_pure ?_))
    have hd' : h'.DictOf (intKind prog w) d kvs := by
      obtain ⟨o, es, ep, ho, r⟩ := hd
      exact ⟨o, es, ep, he d o hdI ho, r⟩
    exact hR h' s.toks kvs hd' (fun k => by rw [hk, List.take_of_length_le (by omega)]) (by omega) fun b o nb nI e => he b o nI (hkeep b o nb nI e)
  | succ m ih =>
    intro i s kvs u hm hi hit hls hd hk hlen hkeep hR
    have hlt : i < vs.size := by omega
    have hv : vs[i]? = some vs[i] := by simp [hlt]
    generalize vs[i] = v at hv
    obtain ⟨a, k, t, x, n, rfl, had, haI, ha, hki⟩ := hks i v hv
    refine codeAny_builtin entry_upd_loop ?_
    rw [Around.under_plainId plain_upd_loop _]
    show wpAny _ A.in1 (pyNext (.ref I) >>= _) _ _ s
    refine wpAny_bind (wpAny_pyNext_list_item hit hls hv fun h' hit' hs' => ?_)
    have ha' : h'.get? a = some { cls := .type "tuple", data := .seq #[.int k t, x] n } := (hs'.2 a haI).trans (hkeep a _ had haI ha)
    have hd' : h'.DictOf (intKind prog w) d kvs := by
      obtain ⟨o, es, ep, ho, r⟩ := hd
      exact ⟨o, es, ep, (hs'.2 d hdI).trans ho, r⟩
    have hmT : (⟨h', s.gens, s.drawn, s.toks, s.os⟩ : Shared).TypeIs (.ref a) "tuple" := ⟨_, ha', rfl⟩
    have hmL : h'.IsList l vs := hls.extBut hs'.extBut (fun q => hlI q)
    refine wpAny_bind (wpAny_holding (wpAny_bind (wpAny_tryCatch ?_)))
    unfold Builtin.Dict.pairItems
    refine wpAny_bind (wpAny_typeOf hmT ?_)
    rw [if_pos (by decide)]
    refine wpAny_bind (wpAny_seqItems ha' rfl ?_)
    refine wpAny_pure ?_
    show wpAny _ _ (holding [.int k t, x] (dictSet d (.int k t) x)) _ _ _
    refine wpAny_holding (wpAny_dictSet_pairs (knd := intKind prog w) (k := k) (by simp [intKind, Value.isInt]) hd' (fun h'' hd'' hs'' => ?_) (by rw [sizeLine_eq]; omega))
    refine wpAny_pure ⟨plainId_quiet plain_upd_loop _, ih (i + 1) _ _ _ (by omega) hlt ?_ ?_ hd'' (fun j => ?_) ?_ (fun b o nb nI e => (hs''.2 b nb).trans ((hs'.2 b nI).trans (hkeep b o nb nI e))) fun h₃ tk₃ kvs' hd₃ hk₃ hl₃ hkeep₃ => hR h₃ tk₃ kvs' hd₃ hk₃ hl₃ hkeep₃⟩
    · obtain ⟨o, e, r⟩ := hit'; exact ⟨o, (hs''.2 I (Ne.symm hdI)).trans e, r⟩
    · exact hmL.extBut hs''.extBut (fun q => hdl q.symm)
    · rw [stored_keys, hk, List.take_add_one, hki]; simp
    · have := stored_len (kvs := kvs) (k := k) (v := x); omega
end Mine
end

-- Dp3
section
open PySem PySem.Calls PySem.Spec PyProof.Rows
open Sem (wp)
namespace Mine

theorem call_dict_pairs {prog : Program} {w : World} {A : Around} {E : Value → Shared → Prop} {s : Shared} (hh : A.handled = none) {l : Addr} {vs : Array Value} {n₀ : Nat} {ks : List Int} {Q : Value → Shared → Prop} (hsz : vs.size < 1000000)
    (hl : s.heap.get? l = some { cls := .type "list", data := .seq vs n₀ })
    (hks : ∀ (i : Nat) (v : Value), vs[i]? = some v → ∃ (a : Addr) (k : Int) (t : Tok) (u : Value) (n : Nat), v = Value.ref a ∧ s.heap.get? a = some { cls := .type "tuple", data := .seq #[.int k t, u] n } ∧ ks[i]? = some k) (hlen : ks.length = vs.size)
    (h : ∀ h' tk kvs', h'.DictOf (intKind prog w) s.heap.objs.size kvs' → (∀ k, k ∈ kvs'.map (·.1) ↔ k ∈ ks) → kvs'.length ≤ vs.size → (∀ b o, s.heap.get? b = some o → h'.get? b = some o) → Q (.ref s.heap.objs.size) { s with heap := h', toks := tk }) :
    wpAny (model prog w) A (call (.type "dict") [.ref l]) Q E s := by
  refine callType_codes (Q₁ := fun obj s₁ => obj = .ref s.heap.objs.size ∧ s₁ = { s with heap := s.heap.push { cls := .type "dict", data := .dict #[] } }) PySem.F.kt_called_dict (PySem.F.kt_typeCall_dict_1 _) PySem.F.entry_dict_init (kt_code_dict_new _ ⟨rfl, rfl⟩) ?_
  rintro obj s₁ ⟨rfl, rfl⟩
  have hnew : (s.heap.push { cls := .type "dict", data := .dict #[] }).DictOf (intKind prog w) s.heap.objs.size [] := Heap.DictOf.new s.heap
  have hl' := Heap.get?_push_of_some { cls := .type "dict", data := .dict #[] } hl
  have hld : l ≠ s.heap.objs.size := Nat.ne_of_lt (Heap.lt_size hl)
  have x₁ : Ext s.heap (s.heap.push { cls := .type "dict", data := .dict #[] }) := ext_push
  have hs₁ : (s.heap.push { cls := .type "dict", data := .dict #[] }).objs.size = s.heap.objs.size + 1 := Heap.size_push ..
  generalize s.heap.push { cls := .type "dict", data := .dict #[] } = h₁ at *
  refine ⟨hnew.typeIs, PySem.F.args_dict_init_2 _ _, ?_⟩
  unfold Builtin.«dict.__init__»
  refine wpAny_bind ?_
  unfold Builtin.Dict.selfAndRest
  refine wpAny_bind (wpAny_notOrdered_dict hnew.typeIs ?_)
  show wpAny _ _ (pure (s.heap.objs.size, [Value.ref l])) _ _ _
  refine wpAny_pure ?_
  show wpAny _ _ (Builtin.Dict.updateFrom "dict.__init__" s.heap.objs.size (.ref l) [] .none) _ _ _
  unfold Builtin.Dict.updateFrom
  refine wpAny_bind (wpAny_typeOf (T := "list") ⟨_, hl', rfl⟩ ?_)
  rw [if_pos (by decide)]
  refine wpAny_bind (getAttrQ_list hl' hh fun h₂ tk₂ x₂ => ?_)
  show wpAny _ _ (rule _ >>= fun _ => pyIter (.ref l) >>= _) _ _ _
  refine wpAny_bind (wpAny_rule (wpAny_bind (wpAny_pyIter_list (items := vs) ⟨_, x₂ _ _ hl', rfl, n₀, rfl⟩ ?_)))
  have hd₂ : h₂.DictOf (intKind prog w) s.heap.objs.size [] := by
    obtain ⟨o, es, ep, ho, r⟩ := hnew; exact ⟨o, es, ep, x₂ _ _ ho, r⟩
  have hlt₂ : @LT.lt Nat _ s.heap.objs.size h₂.objs.size := by obtain ⟨o, es, ep, ho, r⟩ := hd₂; exact Heap.lt_size ho
  refine wpAny_pure ⟨plainId_quiet plain_upd_loop _, upd_loop (A := A.in1) (h₀ := s.heap) hh (vs := vs) (ks := ks) (l := l) (Nat.ne_of_lt hlt₂) (fun q => hld q.symm) (Nat.ne_of_lt (Heap.lt_size (x₂ _ _ hl'))) hsz (fun i v e => ?_) hlen _ 0 _ [] 0 rfl (Nat.zero_le _) ⟨_, Heap.get?_push_size _ rfl, rfl, rfl⟩ ⟨_, Heap.get?_push_of_some _ (x₂ _ _ hl'), rfl, n₀, rfl⟩ ?_ (by simp) (Nat.zero_le _) (fun b o _ _ e => Heap.get?_push_of_some _ (x₂ _ _ (x₁ _ _ e))) fun h' tk kvs' hd' hk' hlen' kp' => ?_⟩
  · obtain ⟨a, k, t, u, n, rfl, ha, hk⟩ := hks i v e
    exact ⟨a, k, t, u, n, rfl, Nat.ne_of_lt (Heap.lt_size ha), Nat.ne_of_lt (Heap.lt_size (x₂ _ _ (x₁ _ _ ha))), ha, hk⟩
  · obtain ⟨o, es, ep, ho, r⟩ := hd₂; exact ⟨o, es, ep, Heap.get?_push_of_some _ ho, r⟩
  · exact ⟨rfl, h h' tk kvs' hd' hk' hlen' fun b o e => kp' b o (Nat.ne_of_lt (Heap.lt_size e)) (Nat.ne_of_lt (Nat.lt_trans (Heap.lt_size e) hlt₂)) e⟩

theorem ia_of_get : ∀ {vs : List Value} {ns : List Int}, vs.length = ns.length → (∀ (i : Nat) (v : Value), vs[i]? = some v → ∃ k t, v = Value.int k t ∧ ns[i]? = some k) → IntsAre vs ns
  | [], [], _, _ => .nil
  | v :: vs, n :: ns, hl, h => by
    obtain ⟨k, t, rfl, e⟩ := h 0 v rfl
    obtain rfl : n = k := Option.some.inj e
    exact .cons _ _ (ia_of_get (by simpa using hl) fun i v e => h (i + 1) v (by simpa using e))

theorem sorted_dict {prog : Program} {w : World} {A : Around} {E : Value → Shared → Prop} {s : Shared} (hh : A.handled = none) {d : Addr} {kvs : List (Int × Value)} {Q : Value → Shared → Prop} (hS : (d == sysModules) = false) (hd : s.heap.DictOf (intKind prog w) d kvs) (h64 : kvs.length < 64)
    (h : ∀ L h' tk (out : Array Value) (ns : List Int), s.heap.get? L = none → (∀ b o, s.heap.get? b = some o → h'.get? b = some o) → h'.PlainList L out → IntsAre out.toList ns → ns.Perm (kvs.map (·.1)) → ns.Pairwise (· ≤ ·) → Q (.ref L) { s with heap := h', toks := tk }) :
    wpAny (model prog w) A (call (.builtin "sorted") [.ref d]) Q E s := by
  obtain ⟨ep, hat⟩ := hd.dictAt
  refine call_function_entry kind_sorted plain_sorted entry_sorted (args_sorted1 _) ?_
  unfold Builtin.«sorted»
  refine wpAny_bind (m := checkCount "sorted" 1 1 _) (wpAny_pure ?_)
  refine wpAny_bind (PySem.W.kdu_collect (A := A.in1) (PySem.W.kdl_dict (knd := intKind prog w) (kvs := kvs) (ep := ep) hS) hh hat (by rw [sizeLine_eq]; omega) fun h' tk acc hk hacc => ?_)
  have hl : acc.toList.length = kvs.length := by rw [Array.length_toList]; exact hacc.1
  refine wpAny_bind (wpAny_newList ?_ (by rw [hl, sizeLine_eq]; omega))
  have hoL : (h'.push { cls := .type "list", data := .seq acc.toList.toArray }).get? h'.objs.size = some { cls := .type "list", data := .seq acc.toList.toArray } := Heap.get?_push_size _ rfl
  have hI : IntsAre acc.toList (kvs.map (·.1)) := by
    refine ia_of_get (by rw [hl, List.length_map]) fun i v e => ?_
    obtain ⟨k, x, e1, e2⟩ := hacc.2 i v (by rw [← Array.getElem?_toList]; exact e)
    cases v with
    | int j t =>
      refine ⟨j, t, rfl, ?_⟩
      have : k = j := (by simpa [intKind, Value.isInt] using e2 : j = k).symm
      rw [List.getElem?_map, e1, this]; rfl
    | _ => simp [intKind, Value.isInt] at e2
  refine wpAny_bind (wpAny_holding (wpAny_call_entry slot_list_sort ⟨_, hoL, rfl⟩ entry_list_sort (list_sort_tree hoL hI (by omega) fun out ns' a1 a2 a3 => ⟨_, rfl, ?_⟩) (args_list_sort _)))
  obtain ⟨n₂, y2⟩ := sortedHeap_at (out := out) hoL
  refine wpAny_pure ⟨_, rfl, h h'.objs.size _ tk out ns' ?_ (fun b o e => ?_) ⟨n₂, y2⟩ a1 a2 a3⟩
  rotate_left
  · have hlt := Heap.lt_size (hk _ _ e)
    exact (sortedHeap_old (Nat.ne_of_lt hlt) (by rw [Heap.size_push]; exact Nat.lt_succ_of_lt hlt)).trans (Heap.get?_push_of_some _ (hk _ _ e))
  exact ext_size hk (none_of_size (Nat.le_refl _))

theorem not_sys {H h : Heap} {x : Str} {v : Value} (g : GV H x v) (k : Ext H h) {a : Addr} (ha : h.get? a = none) (hs : @LE.le Nat _ h.objs.size a) : (a == sysModules) = false := by
  obtain ⟨mg, mb, ⟨o, _, _, e, _⟩, _⟩ := g
  have h1 : @LT.lt Nat _ 3 h.objs.size := Heap.lt_size (k _ _ e)
  have h2 : @LT.lt Nat _ 1 a := by omega
  exact beq_eq_false_iff_ne.mpr (Nat.ne_of_gt h2)

theorem perm_of {out ns : List Int} {ks : List Int} (ho : out.Pairwise (· < ·)) (hn : ns.Nodup) (hm : ∀ k, k ∈ out ↔ k ∈ ns) : out.Perm ns :=
  (List.perm_ext_iff_of_nodup (ho.imp fun h => Int.ne_of_lt h) hn).mpr hm

section
variable {Z : Wo} {sc : Scope} {ρ : Nm}
def pair1 (k : Int) : PyData := .tuple [.int k, .int 1]
theorem Ev.sortedDict (L : Lw Z.H) (rm : Rm 0 Z.A) {np1 np2 pos1 pos2 : Pos} {e : Expr} {ks out : List Int} (hk : sc.names.lookup ("sorted" : Str) = some .globalImplicit) (hk2 : sc.names.lookup ("dict" : Str) = some .globalImplicit) (he : Ev Z sc ρ e (.list (ks.map pair1))) (hlen : ks.length < 64)
    (ho : out.Pairwise (· < ·)) (hm : ∀ k, k ∈ out ↔ k ∈ ks) (hs1 : ∀ env, starEach [e] env = [(false, eval e env)]) :
    Ev Z sc ρ (.Call (.Name "sorted" np1) [.Call (.Name "dict" np2) [e] [] pos2] [] pos1) (.list (izs out)) := fun env W s Q E F h => by
  refine Call_Name rfl (load_gv F L.bsorted hk (call_with (Z := Z) (.bi _) F.top ?_ rfl rfl) rfl)
  show wpAny _ _ (spliced [(false, eval (.Call (.Name "dict" np2) [e] [] pos2) env)]) _ _ _
  refine spliced_cons (Call_Name rfl (load_gv F L.bdict hk2 (call_with (Z := Z) (.ty _) F.top ?_ (hs1 env) rfl) rfl))
  rw [hs1]
  show wpAny _ _ (spliced [(false, eval e env)]) _ _ _
  refine spliced_cons (Ev.on F he fun v s₁ k₁ r₁ => spliced_nil ⟨k₁.ext, ?_⟩)
  obtain ⟨l, vs, rfl, hl, ⟨n₀, hpl⟩, rs⟩ := r₁.list_inv
  have hvl : vs.size = ks.length := by have := rs.length; simpa using this
  have F₁ := F.keeps k₁
  refine call_dict_pairs (ks := ks) rm.1 (by omega) hpl (fun i v e => ?_) hvl.symm fun h₂ tk₂ kvs hd hkv hle x₂ => spliced_nil ⟨fun b o e => x₂ b o (k₁.ext b o e), ?_⟩
  · obtain ⟨d, ed, rd⟩ := rs.get i v (by simpa using e)
    rw [List.getElem?_map] at ed
    cases ek : ks[i]? with
    | none => rw [ek] at ed; cases ed
    | some k =>
      rw [ek] at ed
      obtain rfl : pair1 k = d := Option.some.inj ed
      obtain ⟨a, us, n, rfl, _, ha, ru⟩ := RD.tuple_inv rd
      obtain ⟨x, us', e1, r1, ru⟩ := ru.cons_inv
      obtain ⟨y, us'', e2, r2, ru⟩ := ru.cons_inv
      rw [ru.nil_inv] at e2
      obtain ⟨t, rfl⟩ := r1.int_inv
      refine ⟨a, k, t, y, n, rfl, ?_, rfl⟩
      rw [ha, show us = #[.int k t, y] from Array.ext' (by rw [e1, e2])]
  · have hsys : (s₁.heap.objs.size == sysModules) = false := not_sys L.bdict F₁.top (none_of_size (Nat.le_refl _)) (Nat.le_refl _)
    obtain ⟨o, es, ep, hdo, hex, hde, hke, hpe, hnd⟩ := id hd
    refine sorted_dict rm.1 hsys hd (by omega) fun D h₃ tk₃ out' ns hDn x₃ hpl' hia hperm hsrt => ?_
    have e : out = ns := sorted_unique ((perm_of (ks := ks) ho hnd fun k => (hm k).trans (hkv k).symm).trans hperm.symm) (ho.imp fun h => Int.le_of_lt h) hsrt
    subst e
    have k₃ : Kps s { s₁ with heap := h₃, toks := tk₃ } := by
      obtain ⟨h₁, t₁, rfl, x₁⟩ := k₁
      exact ⟨h₃, tk₃, rfl, fun b o e => x₃ b o (x₂ b o (x₁ b o e))⟩
    refine h (.ref D) { s₁ with heap := h₃, toks := tk₃ } k₃ (rd_isList (fun hb => ?_) hpl' (rds_ints hia))
    obtain ⟨o, e⟩ := F₁.al D hb
    have := x₂ D o e
    rw [hDn] at this; cases this
end
end Mine
end

-- Cp
section
open PySem PySem.Calls PySem.Spec PyProof.Rows
namespace Mine
section
variable {Z : Wo} {sc : Scope} {ρ : Nm}

theorem filter_tt {α : Type} (l : List α) : (l.filter fun _ => true) = l := List.filter_eq_self.mpr fun _ _ => rfl
def dInt : PyData → Int
  | .int i => i
  | _ => 0
def dPrd : PyData → Int × Int
  | .tuple [.int a, .int b] => (a, b)
  | _ => (0, 0)
theorem dPrd_prd (p : Int × Int) : dPrd (prd p) = p := rfl

theorem map_dec {α : Type} {enc : α → PyData} {dec : PyData → α} (hdec : ∀ x, dec (enc x) = x) {p : α → Bool} {q : α → PyData} (xs : List α) : (((xs.map enc).filter fun d => p (dec d)).map fun d => q (dec d)) = (xs.filter p).map q := by
  induction xs with
  | nil => rfl
  | cons x r ih =>
    simp only [List.map_cons, List.filter_cons, hdec]
    cases h : p x with
    | true => simp only [if_true, List.map_cons, hdec, ih]
    | false => simp only [Bool.false_eq_true, if_false, ih]

/-- one clause, over data of one kind -/
theorem Ev.compT {α : Type} (enc : α → PyData) (dec : PyData → α) (hdec : ∀ x, dec (enc x) = x) {elt target iter : Expr} {ifs : List Expr} {scope : Scope} {pos : Pos} {xs : List α} {tb : α → Nm} {p : α → Bool} {q : α → PyData} (hi : EvI Z sc ρ iter (xs.map enc))
    (hok : compOk scope sc ρ = true) (htg : ∀ x ∈ xs, TgJ Z scope target (enc x) (tb x))
    (hfr : ∀ x ∈ xs, SubN (pick (freesOf scope) ρ) (tb x ++ pick (freesOf scope) ρ))
    (hts : ∀ x ∈ xs, TsJ Z scope (tb x ++ pick (freesOf scope) ρ) ifs (p x)) (hb : ∀ x ∈ xs, p x = true → Ev Z scope (tb x ++ pick (freesOf scope) ρ) elt (q x))
    (hsz : xs.length ≤ sizeLine) (hsl : ∀ env x, foldedSetIterable iter env x = pure x := by intro _ _; rfl) : Ev Z sc ρ (.ListComp elt [⟨target, iter, ifs, 0⟩] scope pos) (.list ((xs.filter p).map q)) := by
  rw [← map_dec hdec xs]
  refine Ev.comp1 (tb := fun d => tb (dec d)) hi hok (fun d hd => ?_) (fun d hd => ?_) (fun d hd => ?_) (fun d hd hp => ?_) (by rw [List.length_map]; exact hsz) hsl <;> obtain ⟨x, hx, rfl⟩ := List.mem_map.mp hd
  · rw [hdec]; exact htg x hx
  · rw [hdec]; exact (hfr x hx).go
  · rw [hdec]; exact hts x hx
  · rw [hdec] at hp ⊢; exact hb x hx hp

/-- [elt for x, y in pairs if ..] -/
theorem Ev.compP (rm : Rm 0 Z.A) {elt iter : Expr} {ifs : List Expr} {scope : Scope} {pos p1 p2 tp : Pos} {k : Nat} {x y : Str} {ps : List (Int × Int)} {p : Int × Int → Bool} {q : Int × Int → PyData} (hi : Ev Z sc ρ iter (.list (prs ps)))
    (hok : compOk scope sc ρ = true) (hx : scope.names.lookup x = some .local) (hy : scope.names.lookup y = some .local)
    (hfr : ∀ a b : Int, SubN (pick (freesOf scope) ρ) ([(y, .dat (.int b)), (x, .dat (.int a))] ++ pick (freesOf scope) ρ))
    (hts : ∀ s ∈ ps, TsJ Z scope ([(y, .dat (.int s.2)), (x, .dat (.int s.1))] ++ pick (freesOf scope) ρ) ifs (p s)) (hb : ∀ s ∈ ps, p s = true → Ev Z scope ([(y, .dat (.int s.2)), (x, .dat (.int s.1))] ++ pick (freesOf scope) ρ) elt (q s))
    (hsz : ps.length ≤ sizeLine) (hsl : ∀ env x, foldedSetIterable iter env x = pure x := by intro _ _; rfl) : Ev Z sc ρ (.ListComp elt [⟨.Tuple [.Name x p1, .Name y p2] k tp, iter, ifs, 0⟩] scope pos) (.list ((ps.filter p).map q)) :=
  Ev.compT prd dPrd dPrd_prd (EvI.list rm hi) hok (fun s hs => TgJ.pair rm (.inl hx) (.inl hy)) (fun s hs => hfr s.1 s.2) hts hb hsz hsl
/-- [elt for x in numbers if ..] -/
theorem Ev.compN {elt iter : Expr} {ifs : List Expr} {scope : Scope} {pos p1 : Pos} {x : Str} {ns : List Int} {p : Int → Bool} {q : Int → PyData} (hi : EvI Z sc ρ iter (izs ns))
    (hok : compOk scope sc ρ = true) (hx : scope.names.lookup x = some .local ∨ scope.names.lookup x = some .cell)
    (hfr : ∀ a : Int, SubN (pick (freesOf scope) ρ) ([(x, .dat (.int a))] ++ pick (freesOf scope) ρ))
    (hts : ∀ s ∈ ns, TsJ Z scope ([(x, .dat (.int s))] ++ pick (freesOf scope) ρ) ifs (p s)) (hb : ∀ s ∈ ns, p s = true → Ev Z scope ([(x, .dat (.int s))] ++ pick (freesOf scope) ρ) elt (q s))
    (hsz : ns.length ≤ sizeLine) (hsl : ∀ env x, foldedSetIterable iter env x = pure x := by intro _ _; rfl) : Ev Z sc ρ (.ListComp elt [⟨.Name x p1, iter, ifs, 0⟩] scope pos) (.list ((ns.filter p).map q)) :=
  Ev.compT .int dInt (fun _ => rfl) hi hok (fun s hs => TgJ.name hx) (fun s hs => hfr s) hts hb hsz hsl
end
end Mine
end

-- W8
section
open PySem PySem.Calls PySem.Spec PyProof.Rows
namespace Mine

inductive Rch (st : List (Int × Int)) : Int → Int → Prop
  | refl (a : Int) : Rch st a a
  | step {a b c : Int} : Rch st a b → (b, c) ∈ st → Rch st a c
def In7 (i : Int) : Prop := 0 ≤ i ∧ i < 7
def InR (st : List (Int × Int)) : Prop := ∀ p ∈ st, In7 p.1 ∧ In7 p.2
open Classical in
noncomputable def rchL (st : List (Int × Int)) (a : Int) : List Int := ((List.range 7).map Int.ofNat).filter fun y => decide (Rch st a y)
theorem Rch.in7 {st : List (Int × Int)} (h : InR st) {a b : Int} (ha : In7 a) (r : Rch st a b) : In7 b := by
  induction r with
  | refl => exact ha
  | step _ e _ => exact (h _ e).2
theorem mem_rchL {st : List (Int × Int)} (h : InR st) {a : Int} (ha : In7 a) {y : Int} : y ∈ rchL st a ↔ Rch st a y := by
  unfold rchL
  simp only [List.mem_filter, decide_eq_true_eq]
  constructor
  · exact fun x => x.2
  · intro r
    obtain ⟨h1, h2⟩ := r.in7 h ha
    refine ⟨List.mem_map.mpr ⟨y.toNat, List.mem_range.mpr (by omega), by simp; omega⟩, r⟩
theorem sorted_rchL (st : List (Int × Int)) (a : Int) : (rchL st a).Pairwise (· < ·) := by
  unfold rchL
  refine List.Pairwise.filter _ ?_
  decide

/-- where the search stands -/
structure Sch (st : List (Int × Int)) (a : Int) (i : Nat) (fs : List Int) : Prop where
  le : i ≤ fs.length
  st0 : a ∈ fs
  ok : ∀ y ∈ fs, Rch st a y
  cl : ∀ j h, j < i → fs[j]? = some h → ∀ p ∈ st, p.1 = h → p.2 ∈ fs
  sz : fs.length ≤ 1 + (st.filter fun p => decide (p.2 ∈ fs)).length
theorem Sch.start (st : List (Int × Int)) (a : Int) : Sch st a 0 [a] := ⟨Nat.zero_le _, by simp, fun y hy => by rw [List.mem_singleton.mp hy]; exact .refl a, fun j h hj => absurd hj (Nat.not_lt_zero _), by simp⟩
def nextOf (st : List (Int × Int)) (fs : List Int) (h : Int) : List Int := (st.filter fun p => decide (p.1 = h) && !decide (p.2 ∈ fs)).map (·.2)
theorem filter_two {α : Type} {p q r : α → Bool} (l : List α) (h1 : ∀ x ∈ l, p x = true → r x = true) (h2 : ∀ x ∈ l, q x = true → r x = true) (h3 : ∀ x ∈ l, p x = true → q x = true → False) : (l.filter p).length + (l.filter q).length ≤ (l.filter r).length := by
  induction l with
  | nil => simp
  | cons x l ih =>
    have ih' := ih (fun y hy => h1 y (List.mem_cons_of_mem _ hy)) (fun y hy => h2 y (List.mem_cons_of_mem _ hy)) (fun y hy => h3 y (List.mem_cons_of_mem _ hy))
    have a := h1 x List.mem_cons_self
    have b := h2 x List.mem_cons_self
    have c := h3 x List.mem_cons_self
    simp only [List.filter_cons]
    cases hp : p x <;> cases hq : q x <;> cases hr : r x <;> simp_all <;> omega
theorem Sch.next {st : List (Int × Int)} {a : Int} {i : Nat} {fs : List Int} {h : Int} (s : Sch st a i fs) (e : fs[i]? = some h) : Sch st a (i + 1) (fs ++ nextOf st fs h) := by
  have hi := (List.getElem?_eq_some_iff.mp e).1
  have hm : h ∈ fs := List.mem_of_getElem? e
  refine ⟨by rw [List.length_append]; omega, List.mem_append_left _ s.st0, fun y hy => ?_, fun j x hj ex p hp hpx => ?_, ?_⟩
  · rcases List.mem_append.mp hy with hy | hy
    · exact s.ok y hy
    · obtain ⟨p, hp, rfl⟩ := List.mem_map.mp hy
      simp only [List.mem_filter, Bool.and_eq_true, decide_eq_true_eq] at hp
      exact .step (s.ok h hm) (by rw [← hp.2.1]; exact hp.1)
  · rcases Nat.lt_or_ge j i with hj' | hj'
    · rw [List.getElem?_append_left (by omega)] at ex
      exact List.mem_append_left _ (s.cl j x hj' ex p hp hpx)
    · obtain rfl : j = i := by omega
      rw [List.getElem?_append_left hi, e] at ex
      obtain rfl : h = x := Option.some.inj ex
      by_cases hq : p.2 ∈ fs
      · exact List.mem_append_left _ hq
      · exact List.mem_append_right _ (List.mem_map.mpr ⟨p, List.mem_filter.mpr ⟨hp, by simp [hpx, hq]⟩, rfl⟩)
  · rw [List.length_append, nextOf, List.length_map]
    have := filter_two (p := fun p => decide (p.2 ∈ fs)) (q := fun p => decide (p.1 = h) && !decide (p.2 ∈ fs)) (r := fun p : Int × Int => decide (p.2 ∈ fs ++ (st.filter fun p => decide (p.1 = h) && !decide (p.2 ∈ fs)).map (·.2))) st (fun x hx hp => ?_) (fun x hx hq => ?_) (fun x hx hp hq => ?_)
    · have := s.sz; omega
    · simp only [decide_eq_true_eq] at hp ⊢; exact List.mem_append_left _ hp
    · simp only [decide_eq_true_eq]
      exact List.mem_append_right _ (List.mem_map.mpr ⟨x, List.mem_filter.mpr ⟨hx, hq⟩, rfl⟩)
    · simp_all
theorem Sch.done {st : List (Int × Int)} {a : Int} {fs : List Int} (s : Sch st a fs.length fs) (y : Int) : Rch st a y ↔ y ∈ fs := by
  constructor
  · intro r
    induction r with
    | refl => exact s.st0
    | step _ e ih =>
      obtain ⟨j, hj⟩ := List.getElem?_of_mem ih
      exact s.cl j _ (List.getElem?_eq_some_iff.mp hj).1 hj _ e rfl
  · exact s.ok y
theorem Sch.bound {st : List (Int × Int)} {a : Int} {i : Nat} {fs : List Int} (s : Sch st a i fs) : fs.length ≤ 1 + st.length := by
  have := s.sz
  have := List.length_filter_le (fun p : Int × Int => decide (p.2 ∈ fs)) st
  omega

theorem body_8 {Z : Wo} (L : Lw Z.H) (rm : Rm 0 Z.A) {st : List (Int × Int)} {a : Int} (hr : InR st) (ha : In7 a) (hn : st.length ≤ 40) : Body Z 8 [("steps", .dat (.list (prs st))), ("place", .dat (.int a))] (.list (izs (rchL st a))) := fun env N W s₀ s E B => by
  refine wpAny_execs_cons (B.newList (x := "found") (EvL.cons (Ev.name rfl) EvL.nil) (le_small (by simp)) (.inr rfl) fun D s₁ B₁ m₁ nD hDN => ?_)
  have B₁' := B₁.names (ρ' := [("found", .val (.ref D)), ("steps", .dat (.list (prs st))), ("place", .dat (.int a))]) (SubN.go ⟨rfl, rfl, rfl, trivial⟩)
  refine wpAny_execs_cons (B₁'.forOwn (f := "found") (x := "here") (bound := 1 + st.length) (fun i ds => ∃ fs, ds = izs fs ∧ Sch st a i fs) (fun i ds ⟨fs, e, s⟩ => ⟨by rw [e, List.length_map]; exact s.le, by rw [e, List.length_map]; exact s.bound⟩) rm rfl m₁ List.mem_cons_self nD (.inr rfl)
    (fun d => ⟨rfl, rfl, rfl, trivial⟩) ⟨[a], rfl, Sch.start st a⟩ (fun I i ds d s' E' hI hj hd B' m' => ?_) (fun ds s' hj B' m' => ?_) rfl rfl)
  · obtain ⟨fs, rfl, sch⟩ := hj
    obtain ⟨h, hh, rfl⟩ := ints_get hd
    have hb := sch.bound
    have hb' : (izs fs ++ izs (nextOf st fs h)).length ≤ 41 := by have := (sch.next hh).bound; rw [← List.map_append, List.length_map]; omega
    refine wpAny_execs_cons (B'.extendO (x := "found") (es := nextOf st fs h) rfl m' (List.mem_cons_of_mem _ List.mem_cons_self) nD ?_ (by rw [← List.length_map (f := PyData.int) (as := nextOf st fs h), ← List.length_append]; exact le_small (Nat.le_trans hb' (by decide))) (fun s₂ B₂ m₂ k₂ => ?_) rfl rfl rfl rfl)
    · refine Ev.as (Ev.compP rm (p := fun p => decide (p.1 = h) && !decide (p.2 ∈ fs)) (q := fun p => .int p.2) (Ev.name rfl) rfl rfl rfl (fun a b => ⟨rfl, rfl, trivial⟩) (fun p hp => TsJ.one (EvT.as (EvT.and2 (EvT.cmp (Ev.name rfl) (Ev.name rfl) (OpJ.eq rm (shaped_int _) (shaped_int _))) fun _ => EvT.cmp (Ev.name rfl) (Ev.name rfl) (OpJ.notIn rm (shaped_int _) (canLay_ints _))) (by rw [eqv_int, any_ints]))) (fun p hp hc => Ev.name rfl) (le_small (by omega))) ?_
      simp [nextOf, izs]
    · refine wpAny_execs_nil ⟨_, ⟨_, (List.map_append ..).symm, sch.next hh⟩, B₂.names (SubN.go ⟨rfl, rfl, rfl, trivial⟩), m₂, fun b o nb e => k₂ b o (fun q => nb (by rw [q]; exact List.mem_cons_self)) e⟩
  · obtain ⟨fs, rfl, sch⟩ := hj
    rw [List.length_map] at sch
    have hb := sch.bound
    refine wpAny_execs_cons (B'.retO (x := "found") rfl m' nD (fun hb => hDN (List.mem_append_right _ hb)) (Ev.sortedDict L rm (ks := fs) rfl rfl ?_ (by omega) (sorted_rchL st a) (fun k => (mem_rchL hr ha).trans (sch.done k)) fun _ => rfl) fun v s'' k r => ⟨v, rfl, k, r⟩)
    refine Ev.as (Ev.compN (p := fun _ => true) (q := pair1) (EvI.list rm (Ev.name rfl)) rfl (.inl rfl) (fun a => trivial) (fun k hk => TsJ.nil) (fun k hk _ => Ev.tuple (.cons (Ev.name rfl) (.cons (Ev.int _ _ _) .nil)) (le_small (by simp))) (le_small (by omega))) ?_
    rw [filter_tt]
end Mine
end

-- W9
section
open PySem PySem.Calls PySem.Spec PyProof.Rows
namespace Mine

theorem call_7 {Z : Wo} (L : Lw Z.H) {k : Nat} (rm : Rm (k + 1) Z.A) {ns : List Int} (hn : ns.length < 1000) : CallOK Z (.ref 53) [.list (izs ns)] (.list (prs (stepsOf ns))) := by
  obtain ⟨fd, D, h1, h2⟩ := L.d7
  exact call_i1 D rm (bind_7 D h1 h2) (.inl rfl) fun env rm' => body_7 (Z := { Z with A := Z.A.deeper env }) L (rm'.le (Nat.zero_le _)) hn
theorem call_8 {Z : Wo} (L : Lw Z.H) {k : Nat} (rm : Rm (k + 1) Z.A) {st : List (Int × Int)} {a : Int} (hr : InR st) (ha : In7 a) (hn : st.length ≤ 40) : CallOK Z (.ref 58) [.list (prs st), .int a] (.list (izs (rchL st a))) := by
  obtain ⟨fd, D, h1, h2⟩ := L.d8
  exact call_i2 D rm (bind_8 D h1 h2) (.inl rfl) (.inl rfl) (by decide) fun env rm' => body_8 (Z := { Z with A := Z.A.deeper env }) L (rm'.le (Nat.zero_le _)) hr ha hn
theorem Lw.c8 {H : Heap} (L : Lw H) : Callee H (.ref 58) := let ⟨fd, D, _⟩ := L.d8; D.D.callee
theorem Lw.c4 {H : Heap} (L : Lw H) : Callee H (.ref 37) := let ⟨fd, D, _⟩ := L.d4; D.D.callee
theorem Lw.c5 {H : Heap} (L : Lw H) : Callee H (.ref 46) := let ⟨fd, D, _⟩ := L.d5; D.D.callee
theorem Lw.c7 {H : Heap} (L : Lw H) : Callee H (.ref 53) := let ⟨fd, D, _⟩ := L.d7; D.D.callee

def lowsOf (st : List (Int × Int)) (a : Int) : List Int := (st.filter fun p => decide (p.1 = a)).map (·.2)
def isEnd (st : List (Int × Int)) (a : Int) : Bool := decide (lowsOf st a = [])
noncomputable def endsL (st : List (Int × Int)) (a : Int) : List Int := (rchL st a).filter (isEnd st)

/-- [low for high, low in steps if high == x] -/
theorem Ev.lows {Z : Wo} {sc : Scope} {ρ : Nm} (rm : Rm 0 Z.A) {st : List (Int × Int)} {a : Int} {scope : Scope} {pos p1 p2 p3 p4 p5 p6 p7 tp : Pos} {k : Nat} {x steps : Str} (hn : st.length ≤ 1000) (hs : ρ.lookup steps = some (.dat (.list (prs st))))
    (hok : compOk scope sc ρ = true) (hh : scope.names.lookup ("high" : Str) = some .local) (hl : scope.names.lookup ("low" : Str) = some .local) (hfr : pick (freesOf scope) ρ = [(x, .dat (.int a))]) (hx1 : (x == ("high" : Str)) = false) (hx2 : (x == ("low" : Str)) = false)
    (hd1 : (steps == ("__debug__" : Str)) = false) (hc1 : (steps == ("__classdict__" : Str)) = false) (hd2 : (x == ("__debug__" : Str)) = false) (hc2 : (x == ("__classdict__" : Str)) = false) :
    Ev Z sc ρ (.ListComp (.Name "low" p3) [⟨.Tuple [.Name "high" p1, .Name "low" p2] k tp, .Name steps p4, [.Compare (.Name "high" p5) [.Eq] [.Name x p6] p7], 0⟩] scope pos) (.list (izs (lowsOf st a))) := by
  refine Ev.as (Ev.compP rm (p := fun p => decide (p.1 = a)) (q := fun p => .int p.2) (Ev.name hs hd1 hc1) hok hh hl (fun a b => ?_) (fun p hp => TsJ.one (EvT.as (EvT.cmp (Ev.name rfl) (Ev.name (d := .int a) ?_ hd2 hc2) (OpJ.eq rm (shaped_int _) (shaped_int _))) (eqv_int _ _))) (fun p hp hc => Ev.name rfl) (le_small (by omega))) ?_
  · rw [hfr]
    refine ⟨?_, trivial⟩
    simp [List.lookup_cons, hx1, hx2]
  · rw [hfr]
    simp [List.lookup_cons, hx1, hx2]
  · simp [lowsOf]

noncomputable def ordOf (st : List (Int × Int)) (a : Int) (i : Nat) : List Int := (((rchL st a).reverse.take i).filter (isEnd st)).reverse
theorem ordOf_done (st : List (Int × Int)) (a : Int) : ordOf st a (rchL st a).length = endsL st a := by
  unfold ordOf endsL
  rw [List.take_of_length_le (by simp), List.filter_reverse, List.reverse_reverse]
theorem ordOf_next {st : List (Int × Int)} {a h : Int} {i : Nat} (e : (rchL st a).reverse[i]? = some h) : ordOf st a (i + 1) = if isEnd st h then h :: ordOf st a i else ordOf st a i := by
  unfold ordOf
  rw [List.take_add_one, e]
  cases hc : isEnd st h <;> simp [hc]
theorem desc_rch (st : List (Int × Int)) (a : Int) : (rchL st a).reverse.Pairwise (· > ·) := List.pairwise_reverse.mpr (sorted_rchL st a)
theorem ordOf_sorted (st : List (Int × Int)) (a : Int) (i : Nat) : (ordOf st a i).Pairwise (· < ·) := by
  unfold ordOf
  exact List.pairwise_reverse.mpr (((desc_rch st a).sublist (List.take_sublist _ _)).sublist (List.filter_sublist))
theorem ordOf_gt {st : List (Int × Int)} {a h : Int} {i : Nat} (e : (rchL st a).reverse[i]? = some h) : ∀ y ∈ ordOf st a i, h < y := by
  intro y hy
  unfold ordOf at hy
  have hy' := (List.mem_filter.mp (List.mem_reverse.mp hy)).1
  obtain ⟨j, hj⟩ := List.getElem?_of_mem hy'
  have hji : j < i := by
    have := (List.getElem?_eq_some_iff.mp hj).1
    rw [List.length_take] at this; omega
  rw [List.getElem?_take_of_lt hji] at hj
  obtain ⟨h1, rfl⟩ := List.getElem?_eq_some_iff.mp hj
  obtain ⟨h2, rfl⟩ := List.getElem?_eq_some_iff.mp e
  exact List.pairwise_iff_getElem.mp (desc_rch st a) j i h1 h2 hji
theorem ins_front {xs : List Int} {h : Int} (hl : ∀ y ∈ xs, h < y) : ins xs h = h :: xs := by
  have : bis xs h = 0 := bis_eq (fun k y hk => absurd hk (Nat.not_lt_zero _)) (fun y e => by have := hl y (List.mem_of_getElem? e); omega) (Nat.zero_le _)
  unfold ins
  rw [this]; rfl
theorem rchL_len (st : List (Int × Int)) (a : Int) : (rchL st a).length ≤ 7 := by
  unfold rchL
  refine Nat.le_trans (List.length_filter_le _ _) (by simp)
theorem ordOf_len (st : List (Int × Int)) (a : Int) (i : Nat) : (ordOf st a i).length ≤ 7 := by
  unfold ordOf
  rw [List.length_reverse]
  refine Nat.le_trans (List.length_filter_le _ _) (Nat.le_trans (by rw [List.length_take]; exact Nat.min_le_right _ _) ?_)
  rw [List.length_reverse]; exact rchL_len st a

theorem body_9 {Z : Wo} (L : Lw Z.H) (rm : Rm 2 Z.A) {st : List (Int × Int)} {a : Int} (hr : InR st) (ha : In7 a) (hn : st.length ≤ 40) : Body Z 9 [("steps", .dat (.list (prs st))), ("place", .dat (.int a))] (.list (izs (endsL st a))) := fun env N W s₀ s E B => by
  have rm0 := rm.le (Nat.zero_le _)
  have rl := rchL_len st a
  refine wpAny_execs_cons (B.newList (x := "order") EvL.nil (Nat.zero_le _) (.inl rfl) fun D s₁ B₁ m₁ nD hDN => ?_)
  refine wpAny_execs_cons (Bs.forIn (x := "here") (ρJ := fun _ => [("order", .val (.ref D)), ("steps", .dat (.list (prs st))), ("place", .dat (.int a))]) (K := fun I i h => ML W (I :: D :: N) D (izs (ordOf st a i)) h)
    B₁ (EvI.list rm0 (Ev.rev (Ev.call L.g8 rfl L.c8 (.cons (Ev.name rfl) (.cons (Ev.name rfl) .nil)) (call_8 (k := 1) L rm hr ha hn)) (le_small (by rw [List.length_map]; omega)))) (.inr rfl) (fun _ _ e => e) (fun I s' k hI => m₁.more k.ext hI) (fun I i h h' hI m k => m.frame B₁.oN nD (fun q => hI (by rw [← q]; exact List.mem_cons_self)) k) (fun I i d s' E' hI nI hd B' m => ?_) fun I s' hI B' m => ?_)
  · have hd' : (izs (rchL st a).reverse)[i]? = some d := by rw [izs, List.map_reverse]; exact hd
    obtain ⟨h, hh, rfl⟩ := ints_get hd'
    have hDI : D ∈ I :: D :: N := List.mem_cons_of_mem _ List.mem_cons_self
    refine wpAny_execs_cons (B'.ifs (EvT.as (EvT.cmp (Ev.lows rm0 (a := h) (by omega) rfl rfl rfl rfl rfl rfl rfl rfl rfl rfl rfl) (Ev.list EvL.nil (Nat.zero_le _)) (OpJ.eq rm0 (shaped_ints _) (shaped_ints []))) (eqv_list _ [])) (fun hc s₂ k₂ B₂ => ?_) fun hc s₂ k₂ B₂ => ?_)
    · have m₂ := m.ext k₂.ext
      obtain ⟨ys, hl, rs⟩ := m₂.ex
      refine wpAny_execs_cons (wpAny_Expr (Call_Name rfl (load_gv B₂.F L.g4 rfl (call_with (Z := Z) L.c4 B₂.F.top ?_ rfl rfl) rfl)) B₂.F.inter)
      refine spliced_cons (wpAny_Name (load_fs B₂.F (x := "order") rfl (fun v r => ?_) rfl) rfl)
      obtain rfl : v = .ref D := r
      refine spliced_cons (Ev.on B₂.F (Ev.name (x := "here") (d := .int h) rfl) fun u s₃ k₃ ru => spliced_nil ⟨k₃.ext, ?_⟩)
      have B₃ := B₂.keeps k₃
      refine call_4 L rm (xs := ordOf st a i) (x := h) ((ordOf_sorted st a i).imp fun h => Int.le_of_lt h) (by have := ordOf_len st a i; omega) B₃.F.top B₃.F.al (List.mem_append_left _ hDI) (let ⟨n, e⟩ := hl; ⟨n, k₃.ext _ _ e⟩) (rs.ext k₃.ext) ru fun h' tk ys' hl' hia k => ?_
      have B₄ := B₃.touchAny (tk := tk) hDI nD k (let ⟨n, e⟩ := hl'; ⟨_, e⟩)
      refine wpAny_execs_nil (wpAny_execs_nil ⟨B₄.names (SubN.go ⟨rfl, rfl, rfl, trivial⟩), ⟨ys', hl', ?_⟩, fun b o nb e => ?_⟩)
      · rw [ordOf_next hh, if_pos (show isEnd st h = true from hc), ← ins_front (ordOf_gt hh)]
        exact rds_ints hia
      · exact k b o (fun q => nb (by rw [q]; exact List.mem_cons_self)) (k₃.ext b o (k₂.ext b o e))
    · refine wpAny_execs_nil (wpAny_execs_nil ⟨B₂.names (SubN.go ⟨rfl, rfl, rfl, trivial⟩), ?_, fun b o nb e => k₂.ext b o e⟩)
      show ML W (I :: D :: N) D (izs (ordOf st a (i + 1))) _
      rw [ordOf_next hh, if_neg (by rw [show isEnd st h = false from hc]; decide)]
      exact m.ext k₂.ext
  · have m' := m.less
    rw [show (izs (rchL st a)).reverse.length = (rchL st a).length by simp, ordOf_done] at m'
    exact wpAny_execs_cons (B'.retO (x := "order") rfl m' nD (fun hb => hDN (List.mem_append_right _ hb)) (Ev.name rfl) fun v s'' k r => ⟨v, rfl, k, r⟩)
theorem call_9 {Z : Wo} (L : Lw Z.H) {k : Nat} (rm : Rm (k + 3) Z.A) {st : List (Int × Int)} {a : Int} (hr : InR st) (ha : In7 a) (hn : st.length ≤ 40) : CallOK Z (.ref 63) [.list (prs st), .int a] (.list (izs (endsL st a))) := by
  obtain ⟨fd, D, h1, h2⟩ := L.d9
  exact call_i2 D rm (bind_9 D h1 h2) (.inl rfl) (.inl rfl) (by decide) fun env rm' => body_9 (Z := { Z with A := Z.A.deeper env }) L (rm'.le (by omega)) hr ha hn
end Mine
end

-- W11
section
open PySem PySem.Calls PySem.Spec PyProof.Rows
namespace Mine

/-- x = [low for high, low in steps if high == y] -/
theorem Bs.assignLows {Z : Wo} {sc : Scope} {ρ : Nm} {s₀ : Shared} {W₀ N : List Addr} {env : Env} {s : Shared} {Q : Flow → Shared → Prop} {E : Value → Shared → Prop} (B : Bs Z s₀ W₀ N sc ρ env s) (rm : Rm 0 Z.A) {st : List (Int × Int)} {a : Int} {scope : Scope} {pos p1 p2 p3 p4 p5 p6 p7 tp px apos : Pos} {k : Nat} {x y steps : Str} (hn : st.length ≤ 1000) (hs : ρ.lookup steps = some (.dat (.list (prs st))))
    (hok : compOk scope sc ρ = true) (hh : scope.names.lookup ("high" : Str) = some .local) (hl : scope.names.lookup ("low" : Str) = some .local) (hfr : pick (freesOf scope) ρ = [(y, .dat (.int a))]) (hx1 : (y == ("high" : Str)) = false) (hx2 : (y == ("low" : Str)) = false)
    (hd1 : (steps == ("__debug__" : Str)) = false) (hc1 : (steps == ("__classdict__" : Str)) = false) (hd2 : (y == ("__debug__" : Str)) = false) (hc2 : (y == ("__classdict__" : Str)) = false) (hx : sc.names.lookup x = some .local)
    (hw : env.blockKind = .function → env.kindOf x = some .local → swapsWith (.ListComp (.Name "low" p3) [⟨.Tuple [.Name "high" p1, .Name "low" p2] k tp, .Name steps p4, [.Compare (.Name "high" p5) [.Eq] [.Name y p6] p7], 0⟩] scope pos) (some (.Name x px)) apos.line env = pure true)
    (h : ∀ s', Bs Z s₀ W₀ N sc ((x, .dat (.list (izs (lowsOf st a)))) :: ρ) env s' → (∀ b o, ¬ All env b → s.heap.get? b = some o → s'.heap.get? b = some o) → Q .next s') :
    wpAny (model Z.prog Z.w) Z.A (exec (.Assign [.Name x px] (.ListComp (.Name "low" p3) [⟨.Tuple [.Name "high" p1, .Name "low" p2] k tp, .Name steps p4, [.Compare (.Name "high" p5) [.Eq] [.Name y p6] p7], 0⟩] scope pos) apos) env) Q E s := by
  rw [exec_Assign_Name_used _ _ _ _ (hw (blockKind_fn B.F) (kindOf_local B.F hx))]
  refine wpAny_bind (wpAny_standAt (wpAny_bind ?_))
  show wpAny _ _ (do let _ ← comprehension (.ListComp (.Name "low" p3) [⟨.Tuple [.Name "high" p1, .Name "low" p2] k tp, .Name steps p4, [.Compare (.Name "high" p5) [.Eq] [.Name y p6] p7], 0⟩] scope pos) scope env _ (PySem.newList []) false (eval (.Name steps p4) env) (some (PySem.assign (.Name x px) env))) _ _ s
  have hout : ((prs st).flatMap fun d => if decide ((dPrd d).1 = a) then [PyData.int (dPrd d).2] else []) = izs (lowsOf st a) := by
    rw [flat_one, map_dec (enc := prd) (dec := dPrd) dPrd_prd (p := fun p => decide (p.1 = a)) (q := fun p => .int p.2)]
    simp [lowsOf]
  have hlen : (izs (lowsOf st a)).length ≤ sizeLine := by
    rw [List.length_map, lowsOf, List.length_map]
    exact le_small (Nat.le_trans (List.length_filter_le _ _) (by omega))
  refine wpAny_bind (wpAny_mono (comp_core (Q := fun _ s' => Q .next s') (g := ⟨.Tuple [.Name "high" p1, .Name "low" p2] k tp, .Name steps p4, [.Compare (.Name "high" p5) [.Eq] [.Name y p6] p7], 0⟩) (gs := []) (ds := prs st) (tb := fun d => [("low", .dat (.int (dPrd d).2)), ("high", .dat (.int (dPrd d).1))]) (p := fun d => decide ((dPrd d).1 = a)) (f := fun d => [.int (dPrd d).2]) B.F (EvI.list rm (Ev.name hs hd1 hc1)) rfl (fun _ _ => rfl) hok
    (fun d hd => ?_) (fun d hd => ?_) (fun d hd => ?_) (fun d hd hp => ?_) (by rw [hout]; exact hlen) (fun D C h₁ tk ys m hDn hCn hCD xk hC hpl rs => ?_)) (fun _ s' q => wpAny_pure (wpAny_pure q)) fun _ _ e => e)
  · obtain ⟨p, hp, rfl⟩ := List.mem_map.mp hd
    exact TgJ.pair rm (.inl hh) (.inl hl)
  · rw [hfr]
    exact SubN.go ⟨by simp [List.lookup_cons, hx1, hx2], trivial⟩
  · exact TsJ.one (EvT.as (EvT.cmp (Ev.name rfl) (Ev.name (d := .int a) (by rw [hfr]; simp [List.lookup_cons, hx1, hx2]) hd2 hc2) (OpJ.eq rm (shaped_int _) (shaped_int _))) (eqv_int _ _))
  · exact GenJ.emit rfl (Ev.name rfl)
  · rw [hout] at rs
    obtain ⟨oC, _, _, eC, _⟩ := id hC
    have k₁ : Kps s { s with heap := h₁, toks := tk } := Kps.mk' xk
    obtain ⟨B₁, nC, nCN⟩ := B.more k₁ hCn ⟨_, eC⟩
    have hCW : C ∉ N ++ W₀ := fun hb => by obtain ⟨o, e⟩ := B.F.al C hb; rw [hCn] at e; cases e
    have hDW : D ∉ C :: N ++ W₀ := fun hb => by
      rcases List.mem_cons.mp hb with q | hb
      · exact hCD q.symm
      · obtain ⟨o, e⟩ := B.F.al D hb; rw [hDn] at e; cases e
    refine wpAny_assign_Name (B₁.store (p := .dat (.list (izs (lowsOf st a)))) (rd_isList hDW hpl (rds_ints rs.ints)) (.inl hx) fun h₂ tk₂ B₂ k₂ => ?_)
    obtain ⟨o, e1, e2, e3, r⟩ := hC
    refine ⟨m, ⟨o, e1, e2, (k₂ C nC).trans e3, r⟩, fun h₃ hs₃ => ?_⟩
    have k₃ : ∀ b o, b ≠ C → h₂.get? b = some o → h₃.get? b = some o := fun b o nb e => (hs₃.2 b nb).trans e
    refine h _ (B₂.drop (tk := tk₂) nC hCW k₃) fun b o nb e => k₃ b o (fun q => by rw [q, hCn] at e; cases e) ((k₂ b nb).trans (xk b o e))

end Mine
end

-- W11b
section
open PySem PySem.Calls PySem.Spec PyProof.Rows
namespace Mine

def Desc (st : List (Int × Int)) : Prop := ∀ p ∈ st, p.2 < p.1
def numN (st : List (Int × Int)) : Nat → Int → Int
  | 0, _ => 1
  | n + 1, a => if lowsOf st a = [] then 1 else ((lowsOf st a).map (numN st n)).sum
def num (st : List (Int × Int)) (a : Int) : Int := numN st 7 a
theorem mem_lows {st : List (Int × Int)} {a y : Int} : y ∈ lowsOf st a ↔ (a, y) ∈ st := by
  unfold lowsOf
  simp only [List.mem_map, List.mem_filter, decide_eq_true_eq]
  constructor
  · rintro ⟨⟨b, c⟩, ⟨h1, rfl⟩, rfl⟩; exact h1
  · intro h; exact ⟨(a, y), ⟨h, rfl⟩, rfl⟩
theorem numN_stable {st : List (Int × Int)} (hr : InR st) (hd : Desc st) : ∀ (n m : Nat) (a : Int), In7 a → a < n → a < m → numN st n a = numN st m a
  | 0, _, a, h, h1, _ => by have := h.1; omega
  | _ + 1, 0, a, h, _, h2 => by have := h.1; omega
  | n + 1, m + 1, a, h, h1, h2 => by
    unfold numN
    split
    · rfl
    · congr 1
      apply List.map_congr_left
      intro y hy
      have hm := mem_lows.mp hy
      have := hd _ hm
      exact numN_stable hr hd n m y (hr _ hm).2 (by dsimp at this; omega) (by dsimp at this; omega)
theorem num_eq {st : List (Int × Int)} (hr : InR st) (hd : Desc st) {a : Int} (ha : In7 a) : num st a = if lowsOf st a = [] then 1 else ((lowsOf st a).map (num st)).sum := by
  have e : num st a = numN st 8 a := numN_stable hr hd 7 8 a ha ha.2 (by have := ha.2; omega)
  rw [e]
  rfl
theorem lows_len (st : List (Int × Int)) (a : Int) : (lowsOf st a).length ≤ st.length := by
  rw [lowsOf, List.length_map]; exact List.length_filter_le _ _

theorem body_11 {Z : Wo} (L : Lw Z.H) (rm : Rm 0 Z.A) {st : List (Int × Int)} {a : Int} (hr : InR st) (hd : Desc st) (ha : In7 a) (hn : st.length ≤ 40) (ih : ∀ y ∈ lowsOf st a, CallOK Z (.ref 73) [.list (prs st), .int y] (.int (num st y))) :
    Body Z 11 [("steps", .dat (.list (prs st))), ("place", .dat (.int a))] (.int (num st a)) := fun env N W s₀ s E B => by
  refine wpAny_execs_cons (B.assignLows rm (x := "below") (a := a) (by omega) rfl rfl rfl rfl rfl rfl rfl rfl rfl rfl rfl rfl (fun e1 e2 => ?_) fun s₁ B₁ k₁ => ?_)
  · unfold swapsWith
    simp only [e1, e2]
    rfl
  · have hcal : Callee Z.H (.ref 73) := let ⟨fd, D, _⟩ := L.d11; D.D.callee
    refine wpAny_execs_cons (B₁.ret (Ev.as (Ev.ite (d := .int (num st a)) (EvT.as (EvT.cmp (Ev.name rfl) (Ev.list EvL.nil (Nat.zero_le _)) (OpJ.eq rm (shaped_ints _) (shaped_ints []))) (eqv_list _ [])) (fun hc => ?_) fun hc => ?_) rfl) fun v s'' k r => ⟨v, rfl, k, r⟩)
    · have hc' := of_decide_eq_true hc
      rw [num_eq hr hd ha, if_pos hc']
      exact Ev.int _ _ _
    · have hc' := of_decide_eq_false hc
      rw [num_eq hr hd ha, if_neg hc']
      refine Ev.call L.bsum rfl (.bi _) (.cons (Ev.as (Ev.compN (p := fun _ => true) (q := fun y => .int (num st y)) (EvI.list rm (Ev.name rfl)) rfl (.inl rfl) (fun a => ⟨rfl, trivial⟩) (fun k hk => TsJ.nil) (fun k hk _ => Ev.call L.g11 rfl hcal (.cons (Ev.name rfl) (.cons (Ev.name rfl) .nil)) (ih k hk)) (le_small (by have := lows_len st a; omega))) ?_) .nil) (call_sum rm)
      rw [filter_tt, List.map_map]; rfl

theorem call_11 {st : List (Int × Int)} (hr : InR st) (hd : Desc st) (hn : st.length ≤ 40) : ∀ (n : Nat) (Z : Wo) (L : Lw Z.H) (rm : Rm n Z.A) (a : Int), In7 a → a < n → CallOK Z (.ref 73) [.list (prs st), .int a] (.int (num st a))
  | 0, _, _, _, a, h, h1 => by have := h.1; omega
  | n + 1, Z, L, rm, a, ha, hlt => by
    obtain ⟨fd, D, h1, h2⟩ := L.d11
    refine call_i2 D rm (bind_11 D h1 h2) (.inr rfl) (.inr rfl) (by decide) fun env rm' => body_11 (Z := { Z with A := Z.A.deeper env }) L (rm'.le (Nat.zero_le _)) hr hd ha hn fun y hy => ?_
    have hm := mem_lows.mp hy
    have := hd _ hm
    exact call_11 hr hd hn n { Z with A := Z.A.deeper env } L rm' y (hr _ hm).2 (by dsimp at this; omega)
end Mine
end

-- Di
section
open PySem PySem.Calls PySem.Spec PyProof.Rows
namespace Mine

abbrev RawD (h : Heap) (d : Addr) (es : Array DictEntry) (ep : Nat) : Prop := h.get? d = some { cls := .type "dict", data := .dict es ep }
/-- an iterator over the keys (or the values) of a dict -/
def RawI (T : String) (h : Heap) (it d : Addr) (i n ep : Nat) : Prop := ∃ o, h.get? it = some o ∧ o.cls = .type T ∧ o.data = .fields #[.ref d, .int i 0, .int n 0, .int ep 0]

section
variable {prog : Program} {w : World} {A : Around} {E : Value → Shared → Prop} {s : Shared}
theorem iter_rawD {d : Addr} {es : Array DictEntry} {ep : Nat} {Q : Value → Shared → Prop} (hd : (d == sysModules) = false) (hm : RawD s.heap d es ep)
    (hQ : Q (.ref s.heap.objs.size) { s with heap := s.heap.push { cls := .type "dict_keyiterator", data := .fields #[.ref d, .int 0 0, .int es.size 0, .int ep 0] } }) :
    wpAny (model prog w) A (pyIter (.ref d)) Q E s := by
  have hT : s.TypeIs (.ref d) "dict" := ⟨_, hm, rfl⟩
  refine wpAny_pyIter_slot hT PySem.F.slot_dict_iter (wpAny_call_entry PySem.F.slot_dict_iter hT PySem.F.entry_dict_iter ?_ (PySem.F.args_dict_iter_1 _))
  unfold Builtin.«dict.__iter__» Builtin.Dict.dictSlotNone
  refine wpAny_bind (wpAny_bind (wpAny_notOrdered_dict hT ?_))
  show wpAny _ _ (pure (Value.ref d)) _ _ _
  refine wpAny_pure ?_
  show wpAny _ _ (Builtin.Dict.showsAll d >>= _) _ _ _
  refine wpAny_bind (wpAny_of_eq (a := ()) (by unfold Builtin.Dict.showsAll; rw [hd]; rfl) ?_)
  refine wpAny_bind (wpAny_dictEntries hm rfl (wpAny_bind (wpAny_dictEpoch hm rfl ?_)))
  exact wpAny_bind (wpAny_newObj_type (wpAny_pure ⟨_, rfl, "dict_keyiterator", _, ⟨_, Heap.get?_push_size _ rfl, rfl⟩, PySem.F.slot_dict_keyiterator_next.lookup, hQ⟩))

theorem nameWhole {it : Addr} {T : String} {Q : String → Shared → Prop} (hT : s.TypeIs (.ref it) T) (h1 : (Value.type T == Value.type "builtin_function_or_method") = false) (h2 : typeName (.type T) = pure T) (h : Q T s) : wpAny (model prog w) A (typeNameOfWhole (.ref it)) Q E s := by
  unfold typeNameOfWhole shownTypeOf
  refine wpAny_bind (wpAny_bind (wpAny_typeOf hT ?_))
  simp only [h1, Bool.false_eq_true, if_false]
  refine wpAny_pure ?_
  rw [show typeNameWhole (.type T) = typeName (.type T) from rfl, h2]
  exact wpAny_pure h
theorem oneOf {it : Addr} {T : String} {ts : List String} {ms : List Value} {Q : Bool → Shared → Prop} (hT : s.TypeIs (.ref it) T) (hm : mroOf (.type T) = pure ms) (h : Q (ts.any fun t => ms.contains (.type t)) s) : wpAny (model prog w) A (Builtin.Dict_items.isOneOf (.ref it) ts) Q E s := by
  unfold Builtin.Dict_items.isOneOf
  refine wpAny_bind (wpAny_typeOf hT ?_)
  rw [hm]
  exact wpAny_bind (wpAny_pure (wpAny_pure h))

/-- what the two kinds of iterator have in common -/
structure DIter (T : String) (sel : DictEntry → Value) : Prop where
  n1 : (Value.type T == Value.type "builtin_function_or_method") = false
  n2 : typeName (.type T) = pure T
  n3 : mroOf (.type T) = pure [.type T, .type "object"]
  own : Builtin.Dict_items.ownsTuple T = false
  bk : (["dict_reversekeyiterator", "dict_reversevalueiterator", "dict_reverseitemiterator"].any fun t => [Value.type T, Value.type "object"].contains (.type t)) = false
theorem diKeys : DIter "dict_keyiterator" (·.key) := ⟨by decide, by unfold typeName; rw [find?_eq_fast]; kernel_rfl, by rw [mroOf_type]; kernel_rfl, by decide, by decide⟩
theorem diVals : DIter "dict_valueiterator" (·.val) := ⟨by decide, by unfold typeName; rw [find?_eq_fast]; kernel_rfl, by rw [mroOf_type]; kernel_rfl, by decide, by decide⟩
theorem RawI.ty {T : String} {it d : Addr} {i n ep : Nat} (x : RawI T s.heap it d i n ep) : s.TypeIs (.ref it) T := let ⟨o, a, b, _⟩ := x; ⟨o, a, b⟩

theorem next_raw_key {it d : Addr} {i ep : Nat} {es : Array DictEntry} {e : DictEntry} {Q : Option Value → Shared → Prop} (hit : RawI "dict_keyiterator" s.heap it d i es.size ep) (hm : RawD s.heap d es ep) (hx : es[i]? = some e)
    (hQ : ∀ h', RawI "dict_keyiterator" h' it d (i + 1) es.size ep → Heap.SameBut it s.heap h' → Q (some e.key) { s with heap := h' }) : wpAny (model prog w) A (pyNext (.ref it)) Q E s := by
  have D := diKeys
  obtain ⟨o, ho, hc, hd⟩ := id hit
  unfold pyNext
  refine wpAny_bind (wpAny_attempt (wpAny_callSpecial?_slot (name := Str.ofString "__next__") hit.ty PySem.F.slot_dict_keyiterator_next
    (wpAny_call_entry PySem.F.slot_dict_keyiterator_next hit.ty PySem.F.entry_dict_keyiterator_next ?_ (PySem.F.args_dict_keyiterator_next_1 _))))
  refine wpAny_bind (wpAny_pure (wpAny_bind (wpAny_bind (wpAny_bind (nameWhole hit.ty D.n1 D.n2 (wpAny_pure (wpAny_bind (wpAny_fieldsOf ho hd ?_))))))))
  simp only [D.own, Bool.false_eq_true, if_false]
  show wpAny _ _ (if (Value.ref d == Value.none) = true then _ else _) _ _ s
  rw [if_neg (show ¬ ((Value.ref d == Value.none) = true) from fun q => Bool.false_ne_true q)]
  refine wpAny_bind (wpAny_pure (wpAny_bind (wpAny_dictEntries hm rfl ?_)))
  rw [if_neg (by simp)]
  refine wpAny_bind (wpAny_pure (wpAny_bind (wpAny_dictEpoch hm rfl ?_)))
  rw [if_neg (by simp)]
  refine wpAny_pure ?_
  have hi : ¬ ((i : Int) < 0) := by omega
  simp only [hi, if_false, Int.toNat_natCast, hx]
  refine wpAny_bind (wpAny_bind (nameWhole hit.ty D.n1 D.n2 (wpAny_pure ?_)))
  refine wpAny_bind (oneOf hit.ty D.n3 ?_)
  show wpAny _ _ (setField (.ref it) 1 (rawInt ((i : Int) + 1)) >>= _) _ _ s
  refine wpAny_bind (wpAny_setField ho hd (by simp) ?_)
  have hit' : RawI "dict_keyiterator" (s.heap.update it (Obj.mapFields (·.setIfInBounds 1 (rawInt ((i : Int) + 1))))) it d (i + 1) es.size ep :=
    ⟨_, Heap.get?_update_self _ ho (Obj.isFreed_of_fields (Obj.data_mapFields hd _)), (Obj.cls_mapFields ..).trans hc, by rw [Obj.data_mapFields hd]; simp [rawInt]⟩
  have hs' : Heap.SameBut it s.heap (s.heap.update it (Obj.mapFields (·.setIfInBounds 1 (rawInt ((i : Int) + 1))))) := Heap.SameBut.update ..
  generalize s.heap.update it (Obj.mapFields (·.setIfInBounds 1 (rawInt ((i : Int) + 1)))) = h₁ at hit' hs'
  refine wpAny_bind (wpAny_holding (wpAny_bind (oneOf (s := { s with heap := h₁ }) hit'.ty D.n3 ?_)))
  show wpAny _ _ (pure e.key) _ _ _
  exact wpAny_pure (wpAny_pure ⟨_, rfl, wpAny_pure (hQ _ hit' hs')⟩)
theorem next_raw_val {it d : Addr} {i ep : Nat} {es : Array DictEntry} {e : DictEntry} {Q : Option Value → Shared → Prop} (hit : RawI "dict_valueiterator" s.heap it d i es.size ep) (hm : RawD s.heap d es ep) (hx : es[i]? = some e)
    (hQ : ∀ h', RawI "dict_valueiterator" h' it d (i + 1) es.size ep → Heap.SameBut it s.heap h' → Q (some e.val) { s with heap := h' }) : wpAny (model prog w) A (pyNext (.ref it)) Q E s := by
  have D := diVals
  obtain ⟨o, ho, hc, hd⟩ := id hit
  unfold pyNext
  refine wpAny_bind (wpAny_attempt (wpAny_callSpecial?_slot (name := Str.ofString "__next__") hit.ty PySem.F.slot_dict_valueiterator_next
    (wpAny_call_entry PySem.F.slot_dict_valueiterator_next hit.ty PySem.F.entry_dict_valueiterator_next ?_ (PySem.F.args_dict_valueiterator_next_1 _))))
  refine wpAny_bind (wpAny_pure (wpAny_bind (wpAny_bind (wpAny_bind (nameWhole hit.ty D.n1 D.n2 (wpAny_pure (wpAny_bind (wpAny_fieldsOf ho hd ?_))))))))
  simp only [D.own, Bool.false_eq_true, if_false]
  show wpAny _ _ (if (Value.ref d == Value.none) = true then _ else _) _ _ s
  rw [if_neg (show ¬ ((Value.ref d == Value.none) = true) from fun q => Bool.false_ne_true q)]
  refine wpAny_bind (wpAny_pure (wpAny_bind (wpAny_dictEntries hm rfl ?_)))
  rw [if_neg (by simp)]
  refine wpAny_bind (wpAny_pure (wpAny_bind (wpAny_dictEpoch hm rfl ?_)))
  rw [if_neg (by simp)]
  refine wpAny_pure ?_
  have hi : ¬ ((i : Int) < 0) := by omega
  simp only [hi, if_false, Int.toNat_natCast, hx]
  refine wpAny_bind (wpAny_bind (nameWhole hit.ty D.n1 D.n2 (wpAny_pure ?_)))
  refine wpAny_bind (oneOf hit.ty D.n3 ?_)
  show wpAny _ _ (setField (.ref it) 1 (rawInt ((i : Int) + 1)) >>= _) _ _ s
  refine wpAny_bind (wpAny_setField ho hd (by simp) ?_)
  have hit' : RawI "dict_valueiterator" (s.heap.update it (Obj.mapFields (·.setIfInBounds 1 (rawInt ((i : Int) + 1))))) it d (i + 1) es.size ep :=
    ⟨_, Heap.get?_update_self _ ho (Obj.isFreed_of_fields (Obj.data_mapFields hd _)), (Obj.cls_mapFields ..).trans hc, by rw [Obj.data_mapFields hd]; simp [rawInt]⟩
  have hs' : Heap.SameBut it s.heap (s.heap.update it (Obj.mapFields (·.setIfInBounds 1 (rawInt ((i : Int) + 1))))) := Heap.SameBut.update ..
  generalize s.heap.update it (Obj.mapFields (·.setIfInBounds 1 (rawInt ((i : Int) + 1)))) = h₁ at hit' hs'
  refine wpAny_bind (wpAny_holding (wpAny_bind (oneOf (s := { s with heap := h₁ }) hit'.ty D.n3 ?_)))
  refine wpAny_bind (oneOf (s := { s with heap := h₁ }) hit'.ty D.n3 ?_)
  show wpAny _ _ (pure e.val) _ _ _
  exact wpAny_pure (wpAny_pure ⟨_, rfl, wpAny_pure (hQ _ hit' hs')⟩)

theorem raise_stop {α : Type} {Q : α → Shared → Prop} (hh : A.handled = none) (h : ∀ h' e, (∀ b o, s.heap.get? b = some o → h'.get? b = some o) → Shared.TypeIs { s with heap := h' } (.ref e) "StopIteration" → E (.ref e) { s with heap := h' }) :
    wpAny (model prog w) A (newExc (.type "StopIteration") [] >>= fun x => (raiseNew x : Sem α)) Q E s := by
  refine wpAny_bind ?_
  unfold newExc newTuple
  refine wpAny_bind (wpAny_newObj_type ?_ (by size_fits))
  refine wpAny_bind (m := firstArgMember _ _) (wpAny_of_eq (a := Value.none) (by first | rfl | (simp only [firstArgMember]; rfl)) ?_)
  refine wpAny_newObj_type ?_ (by size_fits)
  unfold raiseNew
  refine wpAny_bind (wpAny_handled ?_)
  rw [hh]
  refine wpAny_bind (wpAny_pure (wpAny_throw (h _ _ (fun b o e => Heap.get?_push_of_some _ (Heap.get?_push_of_some _ e)) ⟨_, Heap.get?_push_size _ rfl, rfl⟩)))

theorem stop_raw_key {it d : Addr} {i ep : Nat} {es : Array DictEntry} {Q : Option Value → Shared → Prop} (hh : A.handled = none) (hit : RawI "dict_keyiterator" s.heap it d i es.size ep) (hm : RawD s.heap d es ep) (hx : es[i]? = none)
    (hQ : ∀ h', (∀ b o, b ≠ it → s.heap.get? b = some o → h'.get? b = some o) → Q none { s with heap := h' }) : wpAny (model prog w) A (pyNext (.ref it)) Q E s := by
  have D := diKeys
  obtain ⟨o, ho, hc, hd⟩ := id hit
  unfold pyNext
  refine wpAny_bind (wpAny_attempt (wpAny_callSpecial?_slot (name := Str.ofString "__next__") hit.ty PySem.F.slot_dict_keyiterator_next
    (wpAny_call_entry PySem.F.slot_dict_keyiterator_next hit.ty PySem.F.entry_dict_keyiterator_next ?_ (PySem.F.args_dict_keyiterator_next_1 _))))
  refine wpAny_bind (wpAny_pure (wpAny_bind (wpAny_bind (wpAny_bind (nameWhole hit.ty D.n1 D.n2 (wpAny_pure (wpAny_bind (wpAny_fieldsOf ho hd ?_))))))))
  simp only [D.own, Bool.false_eq_true, if_false]
  show wpAny _ _ (if (Value.ref d == Value.none) = true then _ else _) _ _ s
  rw [if_neg (show ¬ ((Value.ref d == Value.none) = true) from fun q => Bool.false_ne_true q)]
  refine wpAny_bind (wpAny_pure (wpAny_bind (wpAny_dictEntries hm rfl ?_)))
  rw [if_neg (by simp)]
  refine wpAny_bind (wpAny_pure (wpAny_bind (wpAny_dictEpoch hm rfl ?_)))
  rw [if_neg (by simp)]
  refine wpAny_pure ?_
  have hi : ¬ ((i : Int) < 0) := by omega
  simp only [hi, if_false, Int.toNat_natCast, hx]
  refine wpAny_bind (wpAny_bind (nameWhole hit.ty D.n1 D.n2 (wpAny_pure ?_)))
  show wpAny _ _ (setField (.ref it) 0 .none >>= _) _ _ s
  refine wpAny_bind (wpAny_setField ho hd (by simp) ?_)
  have hs' : Heap.SameBut it s.heap (s.heap.update it (Obj.mapFields (·.setIfInBounds 0 .none))) := Heap.SameBut.update ..
  generalize s.heap.update it (Obj.mapFields (·.setIfInBounds 0 .none)) = h₁ at hs'
  refine raise_stop (s := { s with heap := h₁ }) hh fun h' e k hT => ?_
  refine wpAny_bind (wpAny_isInstance (T := "StopIteration") (b := true) hT isSubtype_stop (wpAny_pure (hQ h' fun b o nb eb => k b o ((hs'.2 b nb).trans eb))))

theorem stop_raw_val {it d : Addr} {i ep : Nat} {es : Array DictEntry} {Q : Option Value → Shared → Prop} (hh : A.handled = none) (hit : RawI "dict_valueiterator" s.heap it d i es.size ep) (hm : RawD s.heap d es ep) (hx : es[i]? = none)
    (hQ : ∀ h', (∀ b o, b ≠ it → s.heap.get? b = some o → h'.get? b = some o) → Q none { s with heap := h' }) : wpAny (model prog w) A (pyNext (.ref it)) Q E s := by
  have D := diVals
  obtain ⟨o, ho, hc, hd⟩ := id hit
  unfold pyNext
  refine wpAny_bind (wpAny_attempt (wpAny_callSpecial?_slot (name := Str.ofString "__next__") hit.ty PySem.F.slot_dict_valueiterator_next
    (wpAny_call_entry PySem.F.slot_dict_valueiterator_next hit.ty PySem.F.entry_dict_valueiterator_next ?_ (PySem.F.args_dict_valueiterator_next_1 _))))
  refine wpAny_bind (wpAny_pure (wpAny_bind (wpAny_bind (wpAny_bind (nameWhole hit.ty D.n1 D.n2 (wpAny_pure (wpAny_bind (wpAny_fieldsOf ho hd ?_))))))))
  simp only [D.own, Bool.false_eq_true, if_false]
  show wpAny _ _ (if (Value.ref d == Value.none) = true then _ else _) _ _ s
  rw [if_neg (show ¬ ((Value.ref d == Value.none) = true) from fun q => Bool.false_ne_true q)]
  refine wpAny_bind (wpAny_pure (wpAny_bind (wpAny_dictEntries hm rfl ?_)))
  rw [if_neg (by simp)]
  refine wpAny_bind (wpAny_pure (wpAny_bind (wpAny_dictEpoch hm rfl ?_)))
  rw [if_neg (by simp)]
  refine wpAny_pure ?_
  have hi : ¬ ((i : Int) < 0) := by omega
  simp only [hi, if_false, Int.toNat_natCast, hx]
  refine wpAny_bind (wpAny_bind (nameWhole hit.ty D.n1 D.n2 (wpAny_pure ?_)))
  show wpAny _ _ (setField (.ref it) 0 .none >>= _) _ _ s
  refine wpAny_bind (wpAny_setField ho hd (by simp) ?_)
  have hs' : Heap.SameBut it s.heap (s.heap.update it (Obj.mapFields (·.setIfInBounds 0 .none))) := Heap.SameBut.update ..
  generalize s.heap.update it (Obj.mapFields (·.setIfInBounds 0 .none)) = h₁ at hs'
  refine raise_stop (s := { s with heap := h₁ }) hh fun h' e k hT => ?_
  refine wpAny_bind (wpAny_isInstance (T := "StopIteration") (b := true) hT isSubtype_stop (wpAny_pure (hQ h' fun b o nb eb => k b o ((hs'.2 b nb).trans eb))))

theorem iter_rawV {v d : Addr} {es : Array DictEntry} {ep : Nat} {ov : Obj} {Q : Value → Shared → Prop} (hov : s.heap.get? v = some ov) (hcv : ov.cls = .type "dict_values") (hdv : ov.data = .fields #[.ref d]) (hm : RawD s.heap d es ep)
    (hQ : Q (.ref s.heap.objs.size) { s with heap := s.heap.push { cls := .type "dict_valueiterator", data := .fields #[.ref d, .int 0 0, .int es.size 0, .int ep 0] } }) :
    wpAny (model prog w) A (pyIter (.ref v)) Q E s := by
  have hT : s.TypeIs (.ref v) "dict_values" := ⟨_, hov, hcv⟩
  refine wpAny_pyIter_slot hT PySem.F.slot_dict_values_iter (wpAny_call_entry PySem.F.slot_dict_values_iter hT PySem.F.entry_dict_values_iter ?_ (PySem.F.args_dict_values_iter_1 _))
  unfold Builtin.«dict_values.__iter__» Builtin.Dict_items.dictOf Builtin.Dict_items.newIterator
  refine wpAny_bind (wpAny_pure (wpAny_bind (wpAny_bind (wpAny_field hov hdv (x := .ref d) rfl (wpAny_pure (wpAny_bind ?_))))))
  refine wpAny_bind (wpAny_dictEntries hm rfl (wpAny_bind (wpAny_dictEpoch hm rfl ?_)))
  have hown := diVals.own
  simp only [hown, Bool.false_eq_true, if_false]
  exact wpAny_newObj_type (wpAny_pure ⟨_, rfl, "dict_valueiterator", _, ⟨_, Heap.get?_push_size _ rfl, rfl⟩, PySem.F.slot_dict_valueiterator_next.lookup, hQ⟩)

theorem meets_rawV (d : Addr) (hd : (d == sysModules) = false) (es : Array DictEntry) (ep : Nat) :
    MeetsIn prog w (Builtin.«dict.values» ⟨[.ref d], []⟩) (fun _ R s => RawD s.heap d es ep ∧ R (.ok (.ret (.ref s.heap.objs.size))) { s with heap := s.heap.push { cls := .type "dict_values", data := .fields #[.ref d] } }) :=
  .of_wp fun A R s ⟨hm, h⟩ => by
    have hT : s.TypeIs (.ref d) "dict" := ⟨_, hm, rfl⟩
    refine wpAny_bind ?_
    unfold Builtin.Dict.noArgs
    refine wpAny_bind (wpAny_notOrdered_dict hT ?_)
    show wpAny _ _ (pure d) _ _ s
    refine wpAny_pure ?_
    show wpAny _ _ (Builtin.Dict.showsAll d >>= _) _ _ s
    refine wpAny_bind (wpAny_of_eq (a := ()) (by unfold Builtin.Dict.showsAll; rw [hd]; rfl) ?_)
    exact wpAny_bind (wpAny_newObj_type (wpAny_pure ⟨_, rfl, h⟩))
theorem meets_rawT (d : Addr) (hd : (d == sysModules) = false) (es : Array DictEntry) (ep : Nat) :
    MeetsIn prog w (Builtin.«dict.items» ⟨[.ref d], []⟩) (fun _ R s => RawD s.heap d es ep ∧ R (.ok (.ret (.ref s.heap.objs.size))) { s with heap := s.heap.push { cls := .type "dict_items", data := .fields #[.ref d] } }) :=
  .of_wp fun A R s ⟨hm, h⟩ => by
    have hT : s.TypeIs (.ref d) "dict" := ⟨_, hm, rfl⟩
    refine wpAny_bind ?_
    unfold Builtin.Dict.noArgs
    refine wpAny_bind (wpAny_notOrdered_dict hT ?_)
    show wpAny _ _ (pure d) _ _ s
    refine wpAny_pure ?_
    show wpAny _ _ (Builtin.Dict.showsAll d >>= _) _ _ s
    refine wpAny_bind (wpAny_of_eq (a := ()) (by unfold Builtin.Dict.showsAll; rw [hd]; rfl) ?_)
    exact wpAny_bind (wpAny_newObj_type (wpAny_pure ⟨_, rfl, h⟩))
end
end Mine
end

-- Di2
section
open PySem PySem.Calls PySem.Spec PyProof.Rows
namespace Mine
section
variable {prog : Program} {w : World} {A : Around} {E : Value → Shared → Prop} {s : Shared}

theorem iter_rawT {v d : Addr} {es : Array DictEntry} {ep : Nat} {ov : Obj} {Q : Value → Shared → Prop} (hov : s.heap.get? v = some ov) (hcv : ov.cls = .type "dict_items") (hdv : ov.data = .fields #[.ref d]) (hm : RawD s.heap d es ep)
    (hQ : Q (.ref s.heap.objs.size) { s with heap := s.heap.push { cls := .type "dict_itemiterator", data := .fields #[.none, .bool false, .ref d, .int 0 0, .int es.size 0, .int ep 0, .none, .none] } }) :
    wpAny (model prog w) A (pyIter (.ref v)) Q E s := by
  have hT : s.TypeIs (.ref v) "dict_items" := ⟨_, hov, hcv⟩
  refine wpAny_pyIter_slot hT PySem.F.slot_dict_items_iter (wpAny_call_entry PySem.F.slot_dict_items_iter hT PySem.F.entry_dict_items_iter ?_ (PySem.F.args_dict_items_iter_1 _))
  unfold Builtin.«dict_items.__iter__» Builtin.Dict_items.dictOf Builtin.Dict_items.newIterator
  refine wpAny_bind (wpAny_pure (wpAny_bind (wpAny_bind (wpAny_field hov hdv (x := .ref d) rfl (wpAny_pure (wpAny_bind ?_))))))
  refine wpAny_bind (wpAny_dictEntries hm rfl (wpAny_bind (wpAny_dictEpoch hm rfl ?_)))
  have hown : Builtin.Dict_items.ownsTuple "dict_itemiterator" = true := by decide
  simp only [hown, if_true]
  exact wpAny_newObj_type (wpAny_pure ⟨_, rfl, "dict_itemiterator", _, ⟨_, Heap.get?_push_size _ rfl, rfl⟩, PySem.F.slot_dict_itemiterator_next.lookup, hQ⟩) (by simp only [sizeOk, Builtin.Dict_items.ownedTupleFields, List.size_toArray, List.length_append, List.length_cons, List.length_nil, sizeLine_eq]; omega)

theorem itemName : typeName (.type "dict_itemiterator") = pure "dict_itemiterator" := by unfold typeName; rw [find?_eq_fast]; kernel_rfl
theorem itemMro : mroOf (.type "dict_itemiterator") = pure [.type "dict_itemiterator", .type "object"] := by rw [mroOf_type]; kernel_rfl

theorem next_rawT {it d : Addr} {i ep : Nat} {es : Array DictEntry} {e : DictEntry} {ok ov : Value} {Q : Option Value → Shared → Prop} (hit : IsItemIter s.heap it d i es.size ep ok ov) (hm : RawD s.heap d es ep) (hx : es[i]? = some e)
    (hQ : ∀ h', IsItemIterOut h' it d (i + 1) es.size ep e.key e.val s.heap.objs.size → h'.get? s.heap.objs.size = some { cls := .type "tuple", data := .seq #[e.key, e.val] } →
      (∀ b o, b ≠ it → s.heap.get? b = some o → h'.get? b = some o) → Q (some (.ref s.heap.objs.size)) { s with heap := h' }) : wpAny (model prog w) A (pyNext (.ref it)) Q E s := by
  obtain ⟨hp, g, dr, tk, os⟩ := s
  have hT : Shared.TypeIs ⟨hp, g, dr, tk, os⟩ (.ref it) "dict_itemiterator" := ⟨_, hit, rfl⟩
  have hown : Builtin.Dict_items.ownsTuple "dict_itemiterator" = true := by decide
  unfold pyNext
  refine wpAny_bind (wpAny_attempt (wpAny_callSpecial?_slot (name := Str.ofString "__next__") hT PySem.F.slot_dict_itemiterator_next
    (wpAny_call_entry PySem.F.slot_dict_itemiterator_next hT PySem.F.entry_dict_itemiterator_next ?_ (PySem.F.args_dict_itemiterator_next_1 _))))
  refine wpAny_bind (wpAny_pure (wpAny_bind (wpAny_bind (wpAny_bind (nameWhole hT (by decide) itemName (wpAny_pure (wpAny_bind (wpAny_fieldsOf hit rfl ?_))))))))
  simp only [hown, if_true]
  show wpAny _ _ (if (Value.ref d == Value.none) = true then _ else _) _ _ _
  rw [if_neg (show ¬ ((Value.ref d == Value.none) = true) from fun q => Bool.false_ne_true q)]
  refine wpAny_bind (wpAny_pure (wpAny_bind (wpAny_dictEntries hm rfl ?_)))
  rw [if_neg (by simp)]
  refine wpAny_bind (wpAny_pure (wpAny_bind (wpAny_dictEpoch hm rfl ?_)))
  rw [if_neg (by simp)]
  refine wpAny_pure ?_
  have hi : ¬ ((i : Int) < 0) := by omega
  simp only [hi, if_false, Int.toNat_natCast, hx]
  refine wpAny_bind (wpAny_bind (nameWhole hT (by decide) itemName (wpAny_pure ?_)))
  refine wpAny_bind (oneOf hT itemMro ?_)
  show wpAny _ _ (setField (.ref it) 3 (rawInt ((i : Int) + 1)) >>= _) _ _ _
  refine wpAny_bind (wpAny_setField_rec hit (by simp) fun h₁ he₁ hs₁ => ?_)
  replace he₁ : IsItemIter h₁ it d (i + 1) es.size ep ok ov := by
    have e : ((i + 1 : Nat) : Int) = (i : Int) + 1 := by omega
    unfold IsItemIter; rw [e]; simpa [rawInt] using he₁
  have hT₁ : Shared.TypeIs ⟨h₁, g, dr, tk, os⟩ (.ref it) "dict_itemiterator" := ⟨_, he₁, rfl⟩
  refine wpAny_bind (wpAny_holding (wpAny_bind (oneOf hT₁ itemMro (wpAny_bind (oneOf hT₁ itemMro ?_)))))
  show wpAny _ _ (Builtin.Dict_items.pairFromOwner (.ref it) 6 e.key e.val) _ _ ⟨h₁, g, dr, tk, os⟩
  unfold Builtin.Dict_items.pairFromOwner
  refine wpAny_bind (wpAny_newTuple ?_)
  have hz : h₁.objs.size = hp.objs.size := hs₁.1
  have hne : hp.objs.size ≠ it := Nat.ne_of_gt (Heap.lt_size hit)
  have he₂ : IsItemIter (h₁.push { cls := .type "tuple", data := .seq #[e.key, e.val] }) it d (i + 1) es.size ep ok ov := Heap.get?_push_of_some _ he₁
  have ht₂ : (h₁.push { cls := .type "tuple", data := .seq #[e.key, e.val] }).get? hp.objs.size = some { cls := .type "tuple", data := .seq #[e.key, e.val] } := by rw [← hz]; exact Heap.get?_push_size _ rfl
  have hk₂ : ∀ b o, b ≠ it → hp.get? b = some o → (h₁.push { cls := .type "tuple", data := .seq #[e.key, e.val] }).get? b = some o := fun b o nb eb => Heap.get?_push_of_some _ ((hs₁.2 b nb).trans eb)
  show wpAny _ _ (Builtin.Dict_items.ownedTupleIsFree (.ref it) >>= _) _ _ ⟨h₁.push { cls := .type "tuple", data := .seq #[e.key, e.val] }, g, dr, tk, os⟩
  rw [hz]
  generalize h₁.push { cls := .type "tuple", data := .seq #[e.key, e.val] } = h₂ at he₂ ht₂ hk₂
  refine wpAny_bind ?_
  unfold Builtin.Dict_items.ownedTupleIsFree
  refine wpAny_bind (wpAny_field he₂ rfl (x := .none) rfl (wpAny_pure ?_))
  simp only [if_true]
  refine wpAny_bind (wpAny_field he₂ rfl (x := ok) rfl (wpAny_bind (wpAny_field he₂ rfl (x := ov) rfl ?_)))
  refine wpAny_bind (wpAny_setField_rec he₂ (by simp) fun h₃ he₃ hs₃ => ?_)
  replace he₃ : IsItemIter h₃ it d (i + 1) es.size ep e.key ov := he₃
  refine wpAny_bind (wpAny_setField_rec he₃ (by simp) fun h₄ he₄ hs₄ => ?_)
  replace he₄ : IsItemIter h₄ it d (i + 1) es.size ep e.key e.val := he₄
  refine wpAny_bind (wpAny_setField_rec he₄ (by simp) fun h₅ he₅ hs₅ => ?_)
  replace he₅ : IsItemIterOut h₅ it d (i + 1) es.size ep e.key e.val hp.objs.size := he₅
  refine wpAny_bind (wpAny_setField_rec he₅ (by simp) fun h₆ he₆ hs₆ => ?_)
  replace he₆ : IsItemIterOut h₆ it d (i + 1) es.size ep e.key e.val hp.objs.size := he₆
  have kk : ∀ b, b ≠ it → h₆.get? b = h₂.get? b := fun b nb => ((hs₆.2 b nb).trans (hs₅.2 b nb)).trans ((hs₄.2 b nb).trans (hs₃.2 b nb))
  exact wpAny_bind (wpAny_letGo (wpAny_pure (wpAny_pure ⟨_, rfl, wpAny_pure (hQ h₆ he₆ ((kk _ hne).trans ht₂) fun b o nb eb => (kk b nb).trans (hk₂ b o nb eb))⟩)))

theorem stop_rawT {it d : Addr} {i ep : Nat} {es : Array DictEntry} {ok ov : Value} {Q : Option Value → Shared → Prop} (hh : A.handled = none) (hit : IsItemIter s.heap it d i es.size ep ok ov) (hm : RawD s.heap d es ep) (hx : es[i]? = none)
    (hQ : ∀ h', (∀ b o, b ≠ it → s.heap.get? b = some o → h'.get? b = some o) → Q none { s with heap := h' }) : wpAny (model prog w) A (pyNext (.ref it)) Q E s := by
  have hT : s.TypeIs (.ref it) "dict_itemiterator" := ⟨_, hit, rfl⟩
  have hown : Builtin.Dict_items.ownsTuple "dict_itemiterator" = true := by decide
  unfold pyNext
  refine wpAny_bind (wpAny_attempt (wpAny_callSpecial?_slot (name := Str.ofString "__next__") hT PySem.F.slot_dict_itemiterator_next
    (wpAny_call_entry PySem.F.slot_dict_itemiterator_next hT PySem.F.entry_dict_itemiterator_next ?_ (PySem.F.args_dict_itemiterator_next_1 _))))
  refine wpAny_bind (wpAny_pure (wpAny_bind (wpAny_bind (wpAny_bind (nameWhole hT (by decide) itemName (wpAny_pure (wpAny_bind (wpAny_fieldsOf hit rfl ?_))))))))
  simp only [hown, if_true]
  show wpAny _ _ (if (Value.ref d == Value.none) = true then _ else _) _ _ s
  rw [if_neg (show ¬ ((Value.ref d == Value.none) = true) from fun q => Bool.false_ne_true q)]
  refine wpAny_bind (wpAny_pure (wpAny_bind (wpAny_dictEntries hm rfl ?_)))
  rw [if_neg (by simp)]
  refine wpAny_bind (wpAny_pure (wpAny_bind (wpAny_dictEpoch hm rfl ?_)))
  rw [if_neg (by simp)]
  refine wpAny_pure ?_
  have hi : ¬ ((i : Int) < 0) := by omega
  simp only [hi, if_false, Int.toNat_natCast, hx]
  refine wpAny_bind (wpAny_bind (nameWhole hT (by decide) itemName (wpAny_pure ?_)))
  show wpAny _ _ (setField (.ref it) 2 .none >>= _) _ _ s
  refine wpAny_bind (wpAny_setField hit rfl (by simp) ?_)
  have hs' : Heap.SameBut it s.heap (s.heap.update it (Obj.mapFields (·.setIfInBounds 2 .none))) := Heap.SameBut.update ..
  generalize s.heap.update it (Obj.mapFields (·.setIfInBounds 2 .none)) = h₁ at hs'
  refine raise_stop (s := { s with heap := h₁ }) hh fun h' e k hT => ?_
  refine wpAny_bind (wpAny_isInstance (T := "StopIteration") (b := true) hT isSubtype_stop (wpAny_pure (hQ h' fun b o nb eb => k b o ((hs'.2 b nb).trans eb))))
end
end Mine
end

-- Di3
section
open PySem PySem.Calls PySem.Spec PyProof.Rows
namespace Mine

theorem RawI.at {T : String} {h h' : Heap} {it d : Addr} {i n ep : Nat} (x : RawI T h it d i n ep) (e : ∀ o, h.get? it = some o → h'.get? it = some o) : RawI T h' it d i n ep := let ⟨o, a, r⟩ := x; ⟨o, e o a, r⟩

section
variable {prog : Program} {w : World} {A : Around}
theorem walks_key (hh : A.handled = none) (I d : Addr) (hne : d ≠ I) (es : Array DictEntry) (ep : Nat) :
    Walks prog w A I [I, d] [I] es.size (fun i v => ∃ e, es[i]? = some e ∧ v = e.key) (fun i h => RawI "dict_keyiterator" h I d i es.size ep ∧ RawD h d es ep) where
  sub := fun b hb => by simp at hb; simp [hb]
  frame := fun _ _ _ st hk => ⟨st.1.at fun o e => hk I (by simp) o e, hk d (by simp) _ st.2⟩
  item := fun i s Q E hi st hQ => next_raw_key st.1 st.2 (e := es[i]) (by simp [hi]) fun h' hit' hs' =>
    hQ _ h' s.toks ⟨es[i], by simp [hi], rfl⟩ ⟨hit', (hs'.2 d hne).trans st.2⟩ fun b o hb e => (hs'.2 b fun q => hb (by simp [q])).trans e
  done := fun s Q E st hQ => stop_raw_key hh st.1 st.2 (by simp) fun h' he' => hQ h' s.toks fun b o hb e => he' b o (fun q => hb (by simp [q])) e
  self := fun _ _ _ _ st hQ => wpAny_pyIter_keyiter st.1 hQ
theorem walks_val (hh : A.handled = none) (I d : Addr) (hne : d ≠ I) (es : Array DictEntry) (ep : Nat) :
    Walks prog w A I [I, d] [I] es.size (fun i v => ∃ e, es[i]? = some e ∧ v = e.val) (fun i h => RawI "dict_valueiterator" h I d i es.size ep ∧ RawD h d es ep) where
  sub := fun b hb => by simp at hb; simp [hb]
  frame := fun _ _ _ st hk => ⟨st.1.at fun o e => hk I (by simp) o e, hk d (by simp) _ st.2⟩
  item := fun i s Q E hi st hQ => next_raw_val st.1 st.2 (e := es[i]) (by simp [hi]) fun h' hit' hs' =>
    hQ _ h' s.toks ⟨es[i], by simp [hi], rfl⟩ ⟨hit', (hs'.2 d hne).trans st.2⟩ fun b o hb e => (hs'.2 b fun q => hb (by simp [q])).trans e
  done := fun s Q E st hQ => stop_raw_val hh st.1 st.2 (by simp) fun h' he' => hQ h' s.toks fun b o hb e => he' b o (fun q => hb (by simp [q])) e
  self := fun _ _ _ _ st hQ => wpAny_pyIter_valiter st.1 hQ
end

section
variable {Z : Wo} {sc : Scope} {ρ : Nm}

theorem map_at {es : Array DictEntry} {i : Nat} {f : DictEntry → Value} {e : DictEntry} (he : es[i]? = some e) : (es.toList.map f)[i]? = some (f e) := by
  rw [List.getElem?_map, Array.getElem?_toList, he]; rfl

theorem dict_it {W : List Addr} {h : Heap} {d I : Addr} {es : Array DictEntry} {ep : Nat} {T : String} {f : DictEntry → Value} {ds : List PyData} {A : Around} (eA : A = Z.A)
    (Wk : Walks Z.prog Z.w A I [I, d] [I] es.size (fun i v => ∃ e, es[i]? = some e ∧ v = f e) (fun i h => RawI T h I d i es.size ep ∧ RawD h d es ep)) (hT : ownedTuples.contains T = false)
    (hI : h.get? I = none) (hW : I ∉ W) (hd : RawD h d es ep) (dW : d ∉ W) (rs : RDs W h (es.toList.map f) ds) (h' : Heap) (x : Ext h h') (hit : RawI T h' I d 0 es.size ep) : It Z W h' I ds := by
  subst eA
  have hlen : es.size = ds.length := by rw [← rs.length]; simp
  refine ⟨⟨_, (fun i v => ∃ e, es[i]? = some e ∧ v = f e), (fun i h => RawI T h I d i es.size ep ∧ RawD h d es ep), by rw [← hlen]; exact Wk, ⟨hit, x _ _ hd⟩, fun b hb => ?_, fun i v dd e ed => ?_, fun i h st => let ⟨o, a, b, _⟩ := st.1; ⟨o, T, a, b, hT⟩⟩, hW⟩
  · rcases List.mem_cons.mp hb with rfl | hb
    · exact .inl rfl
    · rcases List.mem_cons.mp hb with rfl | hb
      · exact .inr ⟨dW, _, x _ _ hd⟩
      · cases hb
  · obtain ⟨e, he, rfl⟩ := e
    obtain ⟨d', e', r⟩ := rs.get i _ (map_at he)
    obtain rfl : d' = dd := Option.some.inj (e'.symm.trans ed)
    exact r.kp fun b o nb eb => ⟨fun hm => by
      rcases List.mem_cons.mp hm with rfl | hm
      · rw [hI] at eb; cases eb
      · exact nb hm, x b o eb⟩

theorem EvI.dictKeys (rm : Rm 0 Z.A) {e : Expr} {kvs : List (PyData × PyData)} (he : Ev Z sc ρ e (.dict kvs)) : EvI Z sc ρ e (kvs.map (·.1)) := fun env W s Q E F hQ =>
  he env W s _ E F fun v s₁ k₁ r₁ => by
    obtain ⟨d, es, ep, rfl, dW, hs, hd, r1, r2⟩ := r₁.dict_inv
    have F₁ := F.keeps k₁
    have hI : s₁.heap.get? s₁.heap.objs.size = none := none_of_size (Nat.le_refl _)
    have k₂ : Kps s₁ { s₁ with heap := s₁.heap.push { cls := .type "dict_keyiterator", data := .fields #[.ref d, .int 0 0, .int es.size 0, .int ep 0] } } := Kps.mk' ext_push
    refine iter_rawD hs hd (hQ _ _ (k₁.trans k₂) (ext_size k₁.ext hI) (dict_it rfl (walks_key rm.1 _ d (Nat.ne_of_lt (Heap.lt_size hd)) es ep) (by decide) hI (size_notin F₁.al (Nat.le_refl _)) hd dW r1 _ k₂.ext ⟨_, Heap.get?_push_size _ rfl, rfl, rfl⟩))

theorem EvI.dictVals (rm : Rm 0 Z.A) {x : Str} {p1 p2 p3 : Pos} {kvs : List (PyData × PyData)} (hx : ρ.lookup x = some (.dat (.dict kvs))) (hline : (p2.endLine == p3.line) = true) (hd' : (x == ("__debug__" : Str)) = false) (hc : (x == ("__classdict__" : Str)) = false) :
    EvI Z sc ρ (.Call (.Attribute (.Name x p1) "values" p2) [] [] p3) (kvs.map (·.2)) := fun env W s Q E F hQ => by
  refine Call_method0 rfl hline (wpAny_Name (load_fs F hx (fun v r => ?_) hc) hd')
  obtain ⟨d, es, ep, rfl, dW, hs, hd, r1, r2⟩ := RD.dict_inv r
  have k₁ : Kps s { s with heap := s.heap.push { cls := .type "dict_values", data := .fields #[.ref d] } } := Kps.mk' ext_push
  refine ⟨"dict", "dict.values", PySem.F.plainAttrs_dict, PySem.F.slot_dict_values, PySem.F.type_dict_values, ⟨_, hd, rfl⟩, fun a q => by cases q; exact ⟨_, hd, rfl⟩, method_meetsIn PySem.F.slot_dict_values PySem.F.entry_dict_values rfl (PySem.evalArgs_none ⟨rfl, ⟨_, hd, rfl⟩, PySem.F.args_dict_values_1 _, _, meets_rawV d hs es ep, hd, ?_⟩)⟩
  have F₁ := F.keeps k₁
  have hd₁ := k₁.ext _ _ hd
  have r2₁ := r2.ext k₁.ext
  have hvw : (s.heap.push { cls := .type "dict_values", data := .fields #[.ref d] }).get? s.heap.objs.size = some { cls := .type "dict_values", data := .fields #[.ref d] } := Heap.get?_push_size _ rfl
  generalize s.heap.push { cls := .type "dict_values", data := .fields #[.ref d] } = h₁ at k₁ F₁ hd₁ r2₁ hvw
  have hI : h₁.get? h₁.objs.size = none := none_of_size (Nat.le_refl _)
  have k₂ : Kps { s with heap := h₁ } { s with heap := h₁.push { cls := .type "dict_valueiterator", data := .fields #[.ref d, .int 0 0, .int es.size 0, .int ep 0] } } := Kps.mk' (s := { s with heap := h₁ }) ext_push
  exact iter_rawV (s := { s with heap := h₁ }) hvw rfl rfl hd₁ (hQ _ _ (k₁.trans k₂) (ext_size k₁.ext hI) (dict_it rfl (walks_val rm.1 _ d (Nat.ne_of_lt (Heap.lt_size hd₁)) es ep) (by decide) hI (size_notin F₁.al (Nat.le_refl _)) hd₁ dW r2₁ _ k₂.ext ⟨_, Heap.get?_push_size _ rfl, rfl, rfl⟩))
end
end Mine
end

-- W2
section
open PySem PySem.Calls PySem.Spec PyProof.Rows
namespace Mine

def kd (e : Int) : PyData := .tuple [.str "to", .int e, .str "end"]
abbrev tabKV (T : List (Int × Int)) : List (PyData × PyData) := T.map fun p => (kd p.1, .int p.2)
abbrev tabD (T : List (Int × Int)) : PyData := .dict (tabKV T)
def cnt (T : List (Int × Int)) : Int := (T.map (·.2)).sum

theorem Bs.augAdd {Z : Wo} {sc : Scope} {ρ : Nm} {s₀ : Shared} {W₀ N : List Addr} {env : Env} {s : Shared} {x : Str} {px pos : Pos} {e : Expr} {a b : Int} {Q : Flow → Shared → Prop} {E : Value → Shared → Prop} (B : Bs Z s₀ W₀ N sc ρ env s) (hx : ρ.lookup x = some (.dat (.int a))) (he : Ev Z sc ρ e (.int b))
    (hl : sc.names.lookup x = some .local ∨ sc.names.lookup x = some .cell) (h : ∀ s', Bs Z s₀ W₀ N sc ((x, .dat (.int (a + b))) :: ρ) env s' → (∀ b o, ¬ All env b → s.heap.get? b = some o → s'.heap.get? b = some o) → Q .next s') (hc : (x == ("__classdict__" : Str)) = false) :
    wpAny (model Z.prog Z.w) Z.A (exec (.AugAssign (.Name x px) .Add e pos) env) Q E s := by
  refine wpAny_AugAssign_Name (load_fs B.F hx (fun v r => Ev.on B.F he fun u s₁ k₁ ru => ?_) hc)
  obtain ⟨t, rfl⟩ := RD.int_inv r
  obtain ⟨t', rfl⟩ := ru.int_inv
  refine PyProof.Rows.iadd_int ?_
  have k₂ : Kps s₁ { s₁ with toks := s₁.toks + 1 } := Kps.tok
  exact ((B.keeps k₁).keeps k₂).store (p := .dat (.int (a + b))) (rd_int _ _) hl fun h' tk B' k => h _ B' fun b o nb e => (k b nb).trans (k₁.ext b o e)

theorem sum_take {T : List (Int × Int)} {i : Nat} {p : Int × Int} (h : T[i]? = some p) : cnt (T.take (i + 1)) = cnt (T.take i) + p.2 := by
  unfold cnt
  rw [List.take_add_one, h]; simp

theorem body_2 {Z : Wo} (L : Lw Z.H) (rm : Rm 0 Z.A) (T : List (Int × Int)) : Body Z 2 [("callers", .dat (tabD T))] (.int (cnt T)) := fun env N W s₀ s E B => by
  refine wpAny_execs_cons (B.assign (Ev.int _ _ _) (.inl rfl) rfl fun s₁ B₁ k₁ => ?_)
  refine wpAny_execs_cons (Bs.forIn (x := "calls") (ρJ := fun i => [("nc", .dat (.int (cnt (T.take i)))), ("callers", .dat (tabD T))]) (K := fun I i h => True) B₁ (EvI.dictVals rm rfl rfl rfl rfl) (.inl rfl) (SubN.go ⟨rfl, rfl, trivial⟩) (fun _ _ _ _ => trivial) (fun _ _ _ _ _ _ _ => trivial) (fun I i d s' E' hI nI hd B' m => ?_) fun I s' hI B' m => ?_)
  · have hd' : ∃ p, T[i]? = some p ∧ d = .int p.2 := by
      simp only [tabKV, List.map_map, List.getElem?_map] at hd
      cases e : T[i]? with
      | none => rw [e] at hd; cases hd
      | some p => rw [e] at hd; exact ⟨p, rfl, (Option.some.inj hd).symm⟩
    obtain ⟨p, hp, rfl⟩ := hd'
    refine wpAny_execs_cons (B'.augAdd (x := "nc") rfl (Ev.name rfl) (.inl rfl) (fun s₂ B₂ k₂ => wpAny_execs_nil ⟨?_, trivial, fun b o nb e => k₂ b o (fun q => nb ?_) e⟩) rfl)
    · rw [sum_take hp]
      exact B₂.names (SubN.go ⟨rfl, rfl, trivial⟩)
    · exact (List.mem_cons.mp (B'.oN b q)).resolve_left fun q' => nI (q' ▸ q)
  · have e : T.take (List.map (fun x => x.snd) (tabKV T)).length = T := List.take_of_length_le (by simp)
    rw [e] at B'
    exact wpAny_execs_cons (B'.ret (Ev.name rfl) fun v s'' k r => ⟨v, rfl, k, r⟩)
theorem call_2 {Z : Wo} (L : Lw Z.H) {k : Nat} (rm : Rm (k + 1) Z.A) (T : List (Int × Int)) : CallOK Z (.ref 28) [tabD T] (.int (cnt T)) := by
  obtain ⟨fd, D, h1, h2⟩ := L.d2
  exact call_i1 D rm (bind_2 D h1 h2) (.inl rfl) fun env rm' => body_2 (Z := { Z with A := Z.A.deeper env }) L (rm'.le (Nat.zero_le _)) T
end Mine
end

-- Md
section
open PySem PySem.Calls PySem.Spec PyProof.Rows
namespace Mine

def isWord : Str ⊕ Int → Value → Bool
  | .inl x, v => Value.isStrOf x v
  | .inr i, v => Value.isInt i v
section
variable {prog : Program} {w : World} {A : Around} {E : Value → Shared → Prop} {s : Shared}
theorem eqb_int_str {a : Int} {t : Tok} {b : Str} {u : Tok} {Q : Bool → Shared → Prop} (h : Q false s) : wpAny (model prog w) A (eqBool (.int a t) (.str b u)) Q E s := by
  unfold eqBool
  refine wpAny_holding ?_
  show wpAny _ _ (if (Value.int a t == Value.str b u) = true then _ else _) Q E s
  rw [if_neg (by simp)]
  exact wpAny_bind (PySem.EqMixed.eq_int_str (wpAny_truthy_bool h))
theorem eqb_str_int {a : Str} {t : Tok} {b : Int} {u : Tok} {Q : Bool → Shared → Prop} (h : Q false s) : wpAny (model prog w) A (eqBool (.str a t) (.int b u)) Q E s := by
  unfold eqBool
  refine wpAny_holding ?_
  show wpAny _ _ (if (Value.str a t == Value.int b u) = true then _ else _) Q E s
  rw [if_neg (by simp)]
  exact wpAny_bind (PySem.EqMixed.eq_str_int (wpAny_truthy_bool h))
end
def wordKind (prog : Program) (w : World) : KeyKind prog w (Str ⊕ Int) where
  is := isWord
  hash := fun | .inl x => hashStr w x | .inr i => hashInt i
  inj := fun v a b ha hb => by
    cases a with
    | inl x => obtain ⟨t, rfl⟩ := Value.isStrOf_shape ha; cases b with
      | inl y => exact congrArg Sum.inl (Value.isStrOf_inj (.str x t) x y ha hb)
      | inr j => simp [isWord, Value.isInt] at hb
    | inr i => obtain ⟨t, rfl⟩ := Value.isInt_shape ha; cases b with
      | inl y => simp [isWord, Value.isStrOf] at hb
      | inr j => exact congrArg Sum.inr (Value.isInt_inj (.int i t) i j ha hb)
  byValue := fun k v h => by
    cases k with
    | inl x => obtain ⟨t, rfl⟩ := Value.isStrOf_shape h; rfl
    | inr i => obtain ⟨t, rfl⟩ := Value.isInt_shape h; rfl
  pyHash := fun {A E s k v Q} hv h => by
    cases k with
    | inl x => obtain ⟨t, rfl⟩ := Value.isStrOf_shape hv; exact wpAny_pyHash_str h
    | inr i => obtain ⟨t, rfl⟩ := Value.isInt_shape hv; exact wpAny_pyHash_int h
  eqBool := fun {A E s a b u v Q} hu hv h => by
    cases a with
    | inl x => obtain ⟨t, rfl⟩ := Value.isStrOf_shape hu; cases b with
      | inl y => obtain ⟨t', rfl⟩ := Value.isStrOf_shape hv; exact wpAny_eqBool_str (by simpa using h)
      | inr j => obtain ⟨t', rfl⟩ := Value.isInt_shape hv; exact eqb_str_int (by simpa using h)
    | inr i => obtain ⟨t, rfl⟩ := Value.isInt_shape hu; cases b with
      | inl y => obtain ⟨t', rfl⟩ := Value.isStrOf_shape hv; exact eqb_int_str (by simpa using h)
      | inr j => obtain ⟨t', rfl⟩ := Value.isInt_shape hv; exact wpAny_eqBool_int (by simpa [Bool.beq_eq_decide_eq] using h)
  «strs» := fun k x t v h => by
    cases k with
    | inl y =>
      have h' : Value.isStrOf y (.str x t) = true := h
      have e : x = y := by simpa [Value.isStrOf] using h'
      subst e
      cases v <;> rfl
    | inr i => simp [isWord, Value.isInt] at h
abbrev wk (Z : Wo) : HeapKind Z.prog Z.w (List (Str ⊕ Int)) := tupleKind (wordKind Z.prog Z.w)
def kw (e : Int) : List (Str ⊕ Int) := [.inl "to", .inr e, .inl "end"]
theorem kw_inj {a b : Int} : kw a = kw b ↔ a = b := by simp [kw]

abbrev XE := List (Str ⊕ Int) × Addr × Value
/-- the entries of a table, and what they read as -/
def Ent (W : List Addr) (h : Heap) (x : XE) (p : Int × Int) : Prop := x.1 = kw p.1 ∧ RD W h (.ref x.2.1) (kd p.1) ∧ RD W h x.2.2 (.int p.2)
inductive Ents (W : List Addr) (h : Heap) : List XE → List (Int × Int) → Prop
  | nil : Ents W h [] []
  | cons {x : XE} {p : Int × Int} {xs : List XE} {T : List (Int × Int)} : Ent W h x p → Ents W h xs T → Ents W h (x :: xs) (p :: T)
theorem Ent.kp {W W' : List Addr} {h h' : Heap} {x : XE} {p : Int × Int} (k : Kp W h W' h') (e : Ent W h x p) : Ent W' h' x p := ⟨e.1, e.2.1.kp k, e.2.2.kp k⟩
theorem Ents.kp {W W' : List Addr} {h h' : Heap} {xs : List XE} {T : List (Int × Int)} (k : Kp W h W' h') (e : Ents W h xs T) : Ents W' h' xs T := by
  induction e with
  | nil => exact .nil
  | cons a _ ih => exact .cons (a.kp k) ih
theorem Ents.len {W : List Addr} {h : Heap} {xs : List XE} {T : List (Int × Int)} (e : Ents W h xs T) : xs.length = T.length := by
  induction e with
  | nil => rfl
  | cons _ _ ih => simp [ih]
theorem Ents.keys {W : List Addr} {h : Heap} {xs : List XE} {T : List (Int × Int)} (e : Ents W h xs T) : xs.map (·.1) = T.map fun p => kw p.1 := by
  induction e with
  | nil => rfl
  | cons a _ ih => simp [ih, a.1]
theorem Ents.rk {W : List Addr} {h : Heap} {xs : List XE} {T : List (Int × Int)} (e : Ents W h xs T) : RDs W h (xs.map fun x => .ref x.2.1) ((tabKV T).map (·.1)) := by
  induction e with
  | nil => exact .nil
  | cons a _ ih => exact .cons a.2.1 ih
theorem Ents.rv {W : List Addr} {h : Heap} {xs : List XE} {T : List (Int × Int)} (e : Ents W h xs T) : RDs W h (xs.map fun x => x.2.2) ((tabKV T).map (·.2)) := by
  induction e with
  | nil => exact .nil
  | cons a _ ih => exact .cons a.2.2 ih
theorem Ents.snoc {W : List Addr} {h : Heap} {xs : List XE} {T : List (Int × Int)} {x : XE} {p : Int × Int} (e : Ents W h xs T) (a : Ent W h x p) : Ents W h (xs ++ [x]) (T ++ [p]) := by
  induction e with
  | nil => exact .cons a .nil
  | cons b _ ih => exact .cons b ih
theorem Ents.mem {W : List Addr} {h : Heap} {xs : List XE} {T : List (Int × Int)} (e : Ents W h xs T) : ∀ x ∈ xs, ∃ p, Ent W h x p := by
  induction e with
  | nil => intro x hx; cases hx
  | cons a _ ih =>
    intro x hx
    rcases List.mem_cons.mp hx with rfl | hx
    · exact ⟨_, a⟩
    · exact ih x hx

theorem key_is {prog : Program} {w : World} {W : List Addr} {h : Heap} {a : Addr} {e : Int} (r : RD W h (.ref a) (kd e)) : (tupleKind (wordKind prog w)).is h (kw e) a ∧ a ∉ W ∧ ∃ us n, h.get? a = some { cls := .type "tuple", data := .seq us n } := by
  obtain ⟨b, us, n, q, nb, ho, ru⟩ := RD.tuple_inv r
  injection q with q
  subst q
  obtain ⟨x, us1, e1, r1, ru⟩ := ru.cons_inv
  obtain ⟨y, us2, e2, r2, ru⟩ := ru.cons_inv
  obtain ⟨z, us3, e3, r3, ru⟩ := ru.cons_inv
  rw [ru.nil_inv] at e3
  obtain ⟨t1, rfl⟩ := r1.str_inv
  obtain ⟨t2, rfl⟩ := r2.int_inv
  obtain ⟨t3, rfl⟩ := r3.str_inv
  refine ⟨⟨_, us, n, ho, rfl, rfl, ?_⟩, nb, us, n, ho⟩
  rw [e1, e2, e3]
  exact .cons (by simp [wordKind, isWord, Value.isStrOf]) (.cons (by simp [wordKind, isWord, Value.isInt]) (.cons (by simp [wordKind, isWord, Value.isStrOf]) .nil))

/-- n at the key e -/
def tset (T : List (Int × Int)) (e n : Int) : List (Int × Int) := if e ∈ T.map (·.1) then T.map (fun p => if p.1 = e then (p.1, n) else p) else T ++ [(e, n)]
def tget (T : List (Int × Int)) (e : Int) : Option Int := T.lookup e
theorem Ents.at {W : List Addr} {h : Heap} {xs : List XE} {T : List (Int × Int)} (q : Ents W h xs T) (e : Int) : (e ∈ T.map (·.1) ↔ (atKey xs (kw e)).isSome) ∧ (∀ b v, atKey xs (kw e) = some (b, v) → ∃ n, tget T e = some n ∧ RD W h v (.int n)) := by
  induction q with
  | nil => simp [atKey]
  | @cons x p xs T a _ ih =>
    by_cases hp : p.1 = e
    · have h1 : atKey (x :: xs) (kw e) = some x.2 := by simp [atKey, List.find?_cons, a.1, hp]
      constructor
      · simp [h1, hp]
      · intro b v hb
        rw [h1] at hb
        have hv : x.2.2 = v := by rw [Option.some.inj hb]
        refine ⟨p.2, ?_, hv ▸ a.2.2⟩
        unfold tget
        obtain ⟨p1, p2⟩ := p
        simp only at hp
        simp [List.lookup_cons, hp]
    · have h1 : atKey (x :: xs) (kw e) = atKey xs (kw e) := by
        have : ¬ kw p.1 = kw e := fun q => hp (kw_inj.mp q)
        simp [atKey, List.find?_cons, a.1, this]
      rw [h1]
      constructor
      · have : ¬ e = p.1 := fun q => hp q.symm
        rw [← ih.1]; simp [this]
      · intro b v hb
        obtain ⟨n, e1, e2⟩ := ih.2 b v hb
        refine ⟨n, ?_, e2⟩
        unfold tget at e1 ⊢
        obtain ⟨p1, p2⟩ := p
        simp only at hp
        rw [List.lookup_cons, show (e == p1) = false from beq_eq_false_iff_ne.mpr fun q => hp q.symm]
        exact e1
theorem Ents.put {W : List Addr} {h : Heap} {xs : List XE} {T : List (Int × Int)} (q : Ents W h xs T) {e n : Int} {v : Value} (rv : RD W h v (.int n)) : Ents W h (xs.map (putAt (kw e) v)) (T.map fun p => if p.1 = e then (p.1, n) else p) := by
  induction q with
  | nil => exact .nil
  | @cons x p xs T a _ ih =>
    refine .cons ?_ ih
    by_cases hp : p.1 = e
    · have h1 : x.1 = kw e := by rw [a.1, hp]
      simp only [putAt, h1, if_true, hp]
      exact ⟨rfl, by have := a.2.1; rw [hp] at this; exact this, rv⟩
    · have h1 : ¬ x.1 = kw e := by rw [a.1]; exact fun q => hp (kw_inj.mp q)
      simp only [putAt, h1, if_false, hp]
      exact a
theorem Ents.store {W : List Addr} {h : Heap} {xs : List XE} {T : List (Int × Int)} (q : Ents W h xs T) {e n : Int} {a : Addr} {v : Value} (rk : RD W h (.ref a) (kd e)) (rv : RD W h v (.int n)) : Ents W h (storedH xs (kw e) a v) (tset T e n) := by
  have hq := (q.at e).1
  unfold storedH tset
  by_cases hm : e ∈ T.map (·.1)
  · rw [if_pos hm, if_pos (hq.mp hm)]
    exact q.put rv
  · rw [if_neg hm, if_neg fun x => hm (hq.mpr x)]
    exact q.snoc ⟨rfl, rk, rv⟩
theorem tset_len (T : List (Int × Int)) (e n : Int) : (tset T e n).length ≤ T.length + 1 := by
  unfold tset; split <;> simp

/-- a dict of one's own -/
structure MD (Z : Wo) (W₀ N : List Addr) (D : Addr) (T : List (Int × Int)) (h : Heap) : Prop where
  ex : ∃ xs es ep, h.get? D = some { cls := .type "dict", data := .dict es ep } ∧ es.toList = xs.map (entryOfKey (wk Z)) ∧ Ents (N ++ W₀) h xs T ∧ (T.map (·.1)).Nodup
  lo : (D == sysModules) = false
section
variable {Z : Wo} {W₀ N : List Addr} {D : Addr} {T : List (Int × Int)} {h h' : Heap}
theorem MD.move (m : MD Z W₀ N D T h) (hD : ∀ o, h.get? D = some o → h'.get? D = some o) (k : Kp (N ++ W₀) h (N ++ W₀) h') : MD Z W₀ N D T h' :=
  let ⟨xs, es, ep, e, q, r, n⟩ := m.ex; ⟨⟨xs, es, ep, hD _ e, q, r.kp k, n⟩, m.lo⟩
theorem MD.ext (m : MD Z W₀ N D T h) (k : Ext h h') : MD Z W₀ N D T h' := m.move (fun o e => k D o e) (Kp.of_ext k)
theorem MD.more {I : Addr} (m : MD Z W₀ N D T h) (k : Ext h h') (hI : h.get? I = none) : MD Z W₀ (I :: N) D T h' :=
  let ⟨xs, es, ep, e, q, r, n⟩ := m.ex; ⟨⟨xs, es, ep, k _ _ e, q, r.kp fun b o nb e => ⟨fun hm => by
    rcases List.mem_cons.mp hm with rfl | hm
    · rw [hI] at e; cases e
    · exact nb hm, k b o e⟩, n⟩, m.lo⟩
theorem MD.less {I : Addr} (m : MD Z W₀ (I :: N) D T h) : MD Z W₀ N D T h :=
  let ⟨xs, es, ep, e, q, r, n⟩ := m.ex; ⟨⟨xs, es, ep, e, q, r.kp (Kp.drop fun b hb => List.mem_cons_of_mem _ hb), n⟩, m.lo⟩
theorem MD.frame {I : Addr} {env : Env} (m : MD Z W₀ (I :: N) D T h) (oN : ∀ b, All env b → b ∈ N) (nD : ¬ All env D) (hDI : D ≠ I) (k : ∀ b o, ¬ All env b → b ≠ I → h.get? b = some o → h'.get? b = some o) : MD Z W₀ (I :: N) D T h' :=
  m.move (fun o e => k D o nD hDI e) fun b o nb e => ⟨nb, k b o (fun q => nb (List.mem_append_left _ (List.mem_cons_of_mem _ (oN b q)))) (fun q => nb (by rw [q]; exact List.mem_append_left _ List.mem_cons_self)) e⟩
theorem MD.fr {env : Env} (m : MD Z W₀ N D T h) (oN : ∀ b, All env b → b ∈ N) (nD : ¬ All env D) (k : ∀ b o, ¬ All env b → h.get? b = some o → h'.get? b = some o) : MD Z W₀ N D T h' :=
  m.move (fun o e => k D o nD e) fun b o nb e => ⟨nb, k b o (fun q => nb (List.mem_append_left _ (oN b q))) e⟩
theorem nodup_kw {T : List (Int × Int)} : (T.map fun p => kw p.1).Nodup ↔ (T.map (·.1)).Nodup := by
  simp only [List.Nodup, List.pairwise_map, ne_eq, kw_inj]
theorem MD.dictOf (m : MD Z W₀ N D T h) : ∃ xs, h.DictOfH (wk Z) D xs ∧ Ents (N ++ W₀) h xs T := by
  obtain ⟨xs, es, ep, e, q, r, n⟩ := m.ex
  refine ⟨xs, ⟨_, es, ep, e, ⟨rfl, rfl, rfl⟩, rfl, q, fun x hx => ?_, ?_⟩, r⟩
  · obtain ⟨p, hp⟩ := r.mem x hx
    rw [hp.1]
    exact (key_is hp.2.1).1
  · rw [r.keys]; exact nodup_kw.mpr n
theorem MD.data (m : MD Z W₀ N D T h) (hD : D ∉ W₀) : RD W₀ h (.ref D) (tabD T) := by
  obtain ⟨xs, es, ep, e, q, r, n⟩ := m.ex
  have r' := r.kp (Kp.drop (W' := W₀) fun b hb => List.mem_append_right _ hb)
  refine rd_dict hD m.lo e ?_ ?_
  · rw [q, List.map_map]; exact r'.rk
  · rw [q, List.map_map]; exact r'.rv
theorem MD.of {xs : List XE} (hd : h.DictOfH (wk Z) D xs) (r : Ents (N ++ W₀) h xs T) (lo : (D == sysModules) = false) : MD Z W₀ N D T h := by
  obtain ⟨o, es, ep, e, hex, hda, q, _, n⟩ := hd
  refine ⟨⟨xs, es, ep, ?_, q, r, ?_⟩, lo⟩
  · obtain ⟨c, d, dt, sl⟩ := o
    obtain ⟨h1, h2, h3⟩ := hex
    simp only at h1 h2 h3 hda
    subst h1 h2 h3 hda
    exact e
  · rw [r.keys] at n; exact nodup_kw.mp n
end
end Mine
end

-- Fi
section
open PySem PySem.Calls PySem.Spec PyProof.Rows
namespace Mine
section
variable {Z : Wo} {sc : Scope} {ρ : Nm} {s₀ : Shared} {W₀ N : List Addr} {env : Env} {s : Shared}

/-- for xk, xv in x.items(), where x is data -/
theorem Bs.forItems {x xk xv : Str} {p1 p2 p3 pk pv tp pos : Pos} {q : Nat} {body : List Stmt} {kvs : List (PyData × PyData)} {Q : Flow → Shared → Prop} {E : Value → Shared → Prop} (ρJ : Nat → Nm) (K : Addr → Nat → Heap → Prop)
    (B : Bs Z s₀ W₀ N sc ρ env s) (rm : Rm 0 Z.A) (hx : ρ.lookup x = some (.dat (.dict kvs))) (hxk : sc.names.lookup xk = some .local ∨ sc.names.lookup xk = some .cell) (hxv : sc.names.lookup xv = some .local ∨ sc.names.lookup xv = some .cell) (hρ : ∀ y p, (ρJ 0).lookup y = some p → ρ.lookup y = some p)
    (h0 : ∀ I s', Kps s s' → s.heap.get? I = none → K I 0 s'.heap)
    (hK : ∀ I i h h', I ∉ N → K I i h → (∀ b o, ¬ All env b → b ≠ I → h.get? b = some o → h'.get? b = some o) → K I i h')
    (turn : ∀ I i dk dv s' E', I ∉ N → ¬ All env I → kvs[i]? = some (dk, dv) → Bs Z s₀ W₀ (I :: N) sc ((xv, .dat dv) :: (xk, .dat dk) :: ρJ i) env s' → K I i s'.heap → wpAny (model Z.prog Z.w) Z.A (execs body env) (fun f s'' => match f with
      | .next => Bs Z s₀ W₀ (I :: N) sc (ρJ (i + 1)) env s'' ∧ K I (i + 1) s''.heap ∧ (∀ b o, b ∉ N → s'.heap.get? b = some o → s''.heap.get? b = some o)
      | .cont => False
      | .brk => False
      | .ret v => Q (.ret v) s'') E' s')
    (hend : ∀ I s', I ∉ N → Bs Z s₀ W₀ N sc (ρJ kvs.length) env s' → K I kvs.length s'.heap → Q .next s')
    (hline : (p2.endLine == p3.line) = true) (hd' : (x == ("__debug__" : Str)) = false) (hc : (x == ("__classdict__" : Str)) = false) :
    wpAny (model Z.prog Z.w) Z.A (exec (.For (.Tuple [.Name xk pk, .Name xv pv] q tp) (.Call (.Attribute (.Name x p1) "items" p2) [] [] p3) body [] pos) env) Q E s := by
  refine wpAny_For (Call_method0 rfl hline (wpAny_Name (load_fs B.F hx (fun v r => ?_) hc) hd')) (fun _ => rfl)
  obtain ⟨d, es, ep, rfl, dW, hsys, hd, r1, r2⟩ := RD.dict_inv r
  refine ⟨"dict", "dict.items", PySem.F.plainAttrs_dict, PySem.F.slot_dict_items, PySem.F.type_dict_items, ⟨_, hd, rfl⟩, fun a q => by cases q; exact ⟨_, hd, rfl⟩, method_meetsIn PySem.F.slot_dict_items PySem.F.entry_dict_items rfl (PySem.evalArgs_none ⟨rfl, ⟨_, hd, rfl⟩, PySem.F.args_dict_items_1 _, _, meets_rawT d hsys es ep, hd, ?_⟩)⟩
  have k₁ : Kps s { s with heap := s.heap.push { cls := .type "dict_items", data := .fields #[.ref d] } } := Kps.mk' ext_push
  have hvw : (s.heap.push { cls := .type "dict_items", data := .fields #[.ref d] }).get? s.heap.objs.size = some { cls := .type "dict_items", data := .fields #[.ref d] } := Heap.get?_push_size _ rfl
  have hs₁ : (s.heap.push { cls := .type "dict_items", data := .fields #[.ref d] }).objs.size = s.heap.objs.size + 1 := Heap.size_push ..
  generalize hV : s.heap.push { cls := .type "dict_items", data := .fields #[.ref d] } = h₁ at *
  refine iter_rawT (s := { s with heap := h₁ }) hvw rfl rfl (k₁.ext _ _ hd) ?_
  have k₂ : Kps s { s with heap := h₁.push { cls := .type "dict_itemiterator", data := .fields #[.none, .bool false, .ref d, .int 0 0, .int es.size 0, .int ep 0, .none, .none] } } := k₁.trans (Kps.mk' (s := { s with heap := h₁ }) ext_push)
  have hI : s.heap.get? h₁.objs.size = none := none_of_size (by omega)
  have hit₀ : IsItemIter (h₁.push { cls := .type "dict_itemiterator", data := .fields #[.none, .bool false, .ref d, .int 0 0, .int es.size 0, .int ep 0, .none, .none] }) h₁.objs.size d 0 es.size ep .none .none := Heap.get?_push_size _ rfl
  obtain ⟨B₁, nI, nN⟩ := B.more k₂ hI ⟨_, hit₀⟩
  have K₀ := h0 h₁.objs.size _ k₂ hI
  have nW : h₁.objs.size ∉ N ++ W₀ := size_notin B.F.al (by omega)
  have hd₂ := k₂.ext _ _ hd
  have mv : Kp (N ++ W₀) s.heap (h₁.objs.size :: (N ++ W₀)) (h₁.push { cls := .type "dict_itemiterator", data := .fields #[.none, .bool false, .ref d, .int 0 0, .int es.size 0, .int ep 0, .none, .none] }) := fun b o nb e => ⟨fun hm => by
    rcases List.mem_cons.mp hm with rfl | hm
    · rw [hI] at e; cases e
    · exact nb hm, k₂.ext b o e⟩
  have r1' := r1.kp mv
  have r2' := r2.kp mv
  have dI : d ≠ h₁.objs.size := fun q => by rw [← q] at hI; rw [hd] at hI; cases hI
  generalize h₁.push { cls := .type "dict_itemiterator", data := .fields #[.none, .bool false, .ref d, .int 0 0, .int es.size 0, .int ep 0, .none, .none] } = h₂ at *
  show codeAny (model Z.prog Z.w) Z.A _ _ { s with heap := h₂ }
  generalize h₁.objs.size = I at *
  have hlen : es.size = kvs.length := by have := r1.length; simpa using this
  have oN := B.oN
  refine codeAny_forLoop_any (fun k s' => ∃ i ok ov, i ≤ kvs.length ∧ k = kvs.length + 1 - i ∧ IsItemIter s'.heap I d i es.size ep ok ov ∧ Bs Z s₀ W₀ (I :: N) sc (ρJ i) env s' ∧ K I i s'.heap ∧ Kp (I :: (N ++ W₀)) h₂ (I :: (N ++ W₀)) s'.heap) ?_ (kvs.length + 1)
    ⟨0, _, _, Nat.zero_le _, rfl, hit₀, B₁.names hρ, K₀, Kp.refl⟩
  rintro n s' ⟨i, ok, ov, hi', rfl, hit, B', K', kp'⟩
  have dW' : d ∉ I :: (N ++ W₀) := fun hm => by
    rcases List.mem_cons.mp hm with q | hm
    · exact dI q
    · exact dW hm
  have hd' : RawD s'.heap d es ep := (kp' d _ dW' hd₂).2
  obtain ⟨h', tk', rfl⟩ : ∃ h' tk', s' = { s₀ with heap := h', toks := tk' } := let ⟨h', t, e, _⟩ := B'.K; ⟨h', t, e⟩
  by_cases hlt : i < kvs.length
  · have he : es[i]? = some es[i] := by simp [hlen, hlt]
    generalize es[i]'(by omega) = e at he
    have hkv : kvs[i]? = some kvs[i] := List.getElem?_eq_getElem hlt
    generalize kvs[i] = kv at hkv
    obtain ⟨dk, dv⟩ := kv
    obtain ⟨d1, e1, rk⟩ := r1'.get i _ (map_at he)
    obtain ⟨d2, e2, rv⟩ := r2'.get i _ (map_at he)
    obtain rfl : dk = d1 := by rw [List.getElem?_map, hkv] at e1; exact Option.some.inj e1
    obtain rfl : dv = d2 := by rw [List.getElem?_map, hkv] at e2; exact Option.some.inj e2
    replace rk := rk.kp kp'
    replace rv := rv.kp kp'
    refine next_rawT hit hd' he fun h₃ hit₃ ht₃ k₃ => ?_
    have hItup : @Eq Nat h'.objs.size I → False := fun q => by have := Heap.lt_size hit; rw [← q] at this; exact Nat.lt_irrefl _ this
    refine wpAny_letOwnedTupleGo_items hit₃ fun h₄ hit₄ hs₄ => ?_
    have ht₄ : h₄.get? h'.objs.size = some { cls := .type "tuple", data := .seq #[e.key, e.val] } := (hs₄.2 _ hItup).trans ht₃
    have k₄ : ∀ b o, b ≠ I → h'.get? b = some o → h₄.get? b = some o := fun b o nb eb => (hs₄.2 b nb).trans (k₃ b o nb eb)
    refine wpAny_assign_Tuple rm.1 (items := #[e.key, e.val]) ⟨_, ht₄, rfl, 0, rfl⟩ rfl rfl fun h₅ hx₅ => ?_
    have k₅ : ∀ b o, b ≠ I → h'.get? b = some o → h₅.get? b = some o := fun b o nb eb => hx₅ b o (Nat.ne_of_lt (Heap.lt_size (k₄ b o nb eb))) (k₄ b o nb eb)
    have hit₅ : IsItemIter h₅ I d (i + 1) es.size ep e.key e.val := hx₅ I _ (Nat.ne_of_lt (Heap.lt_size hit₄)) hit₄
    have B₅ : Bs Z s₀ W₀ (I :: N) sc (ρJ i) env { s₀ with heap := h₅, toks := tk' } := B'.touch (tk := tk') nI k₅ ⟨_, hit₅⟩
    have K₅ : K I i h₅ := hK I i _ _ nN K' fun b o _ nb e => k₅ b o nb e
    have kp₅ : Kp (I :: (N ++ W₀)) h' (I :: (N ++ W₀)) h₅ := fun b o nb e => ⟨nb, k₅ b o (fun q => nb (by rw [q]; exact List.mem_cons_self)) e⟩
    show wpAny _ _ (assignInOrder [PySem.assign (.Name xk pk) env, PySem.assign (.Name xv pv) env] [e.key, e.val]) _ _ _
    refine assign_two (env := env) (wpAny_assign_Name (B₅.store (p := .dat dk) (rk.kp kp₅) hxk fun h₆ tk₆ B₆ q₆ => ?_))
    have kp₆ : Kp (I :: (N ++ W₀)) h₅ (I :: (N ++ W₀)) h₆ := fun b o nb e => ⟨nb, (q₆ b fun q => nb (List.mem_cons_of_mem _ (List.mem_append_left _ (oN b q)))).trans e⟩
    refine wpAny_assign_Name (B₆.store (p := .dat dv) ((rv.kp kp₅).kp kp₆) hxv fun h₇ tk₇ B₇ q₇ => ?_)
    have k₇ : ∀ b o, ¬ All env b → h₅.get? b = some o → h₇.get? b = some o := fun b o nb e => (q₇ b nb).trans ((q₆ b nb).trans e)
    have K₇ : K I i h₇ := hK I i _ _ nN K₅ fun b o nb _ e => k₇ b o nb e
    refine wpAny_mono (turn I i dk dv _ _ nN nI hkv B₇ K₇) (fun f s₈ h₈ => ?_) fun _ _ x => x
    cases f with
    | next =>
      obtain ⟨B₈, K₈, k₈⟩ := h₈
      refine ⟨kvs.length + 1 - (i + 1), by omega, i + 1, _, _, hlt, rfl, k₈ I _ nN (k₇ I _ nI hit₅), B₈, K₈, kp'.trans (kp₅.trans fun b o nb e => ⟨nb, k₈ b o (fun q => nb (List.mem_cons_of_mem _ (List.mem_append_left _ q))) (k₇ b o (fun q => nb (List.mem_cons_of_mem _ (List.mem_append_left _ (oN b q)))) e)⟩)⟩
    | cont => exact h₈.elim
    | brk => exact h₈.elim
    | ret v => exact h₈
  · have hin : i = kvs.length := by omega
    subst hin
    refine stop_rawT rm.1 hit hd' (by simp; omega) fun h₃ k₃ => wpAny_execs_nil ?_
    exact hend I _ nN (B'.drop (tk := tk') nI nW k₃) (hK I _ _ _ nN K' fun b o _ nb e => k₃ b o nb e)
end
end Mine
end

-- W1
section
open PySem PySem.Calls PySem.Spec PyProof.Rows
namespace Mine
section
variable {Z : Wo} {sc : Scope} {ρ : Nm} {s₀ : Shared} {W₀ N : List Addr} {env : Env} {s : Shared}

theorem room_in (rm : Rm 0 Z.A) : (wk Z).room Z.A.in1 := tupleKind_room_in1 (knd := wordKind Z.prog Z.w) (by have := rm.2.1; omega)

/-- x = {} -/
theorem Bs.newDict {x : Str} {px p pos : Pos} {y : Str} {gv : Value} {Q : Flow → Shared → Prop} {E : Value → Shared → Prop} (B : Bs Z s₀ W₀ N sc ρ env s) (g : GV Z.H y gv) (hx : sc.names.lookup x = some .local ∨ sc.names.lookup x = some .cell)
    (h : ∀ D s', Bs Z s₀ W₀ (D :: N) sc ((x, .val (.ref D)) :: ρ) env s' → MD Z W₀ (D :: N) D [] s'.heap → ¬ All env D → D ∉ N ++ W₀ → Q .next s') : wpAny (model Z.prog Z.w) Z.A (exec (.Assign [.Name x px] (.Dict [] [] p) pos) env) Q E s := by
  refine wpAny_Assign_Name (wpAny_Dict_empty ?_) rfl
  have hnone : s.heap.get? s.heap.objs.size = none := none_of_size (Nat.le_refl _)
  have k₁ : Kps s { s with heap := s.heap.push { cls := .type "dict", data := .dict #[] } } := Kps.mk' ext_push
  obtain ⟨B₁, nD, nN⟩ := B.more k₁ hnone ⟨_, Heap.get?_push_size _ rfl⟩
  have m : MD Z W₀ (s.heap.objs.size :: N) s.heap.objs.size [] (s.heap.push { cls := .type "dict", data := .dict #[] }) :=
    ⟨⟨[], #[], 0, Heap.get?_push_size _ rfl, rfl, .nil, .nil⟩, not_sys g B.F.top hnone (Nat.le_refl _)⟩
  refine B₁.store (p := .val (.ref s.heap.objs.size)) rfl hx fun h' tk B' k => h _ _ B' (m.fr B₁.oN nD fun b o nb e => (k b nb).trans e) nD (size_notin B.F.al (Nat.le_refl _))

theorem set_own {D : Addr} {T : List (Int × Int)} {a n : Int} {b : Addr} {v : Value} {Q : Unit → Shared → Prop} {E : Value → Shared → Prop} (rm : Rm 0 Z.A) (m : MD Z W₀ N D T s.heap) (hD : D ∈ N) (hlen : T.length < 1000) (rk : RD (N ++ W₀) s.heap (.ref b) (kd a)) (rv : RD (N ++ W₀) s.heap v (.int n))
    (hQ : ∀ h' tk, MD Z W₀ N D (tset T a n) h' → Heap.SameBut D s.heap h' → Q () { s with heap := h', toks := tk }) : wpAny (model Z.prog Z.w) Z.A (setItem (.ref D) (.ref b) v) Q E s := by
  obtain ⟨xs, hd, r⟩ := m.dictOf
  refine wpAny_setItem_heap (knd := wk Z) (room_in rm) (key_is rk).1 hd (fun h' hd' hs => ?_) (le_small (by rw [r.len]; omega))
  have kp : Kp (N ++ W₀) s.heap (N ++ W₀) h' := fun b o nb e => ⟨nb, (hs.2 b fun q => nb (by rw [q]; exact List.mem_append_left _ hD)).trans e⟩
  exact hQ h' _ (MD.of hd' ((r.kp kp).store (rk.kp kp) (rv.kp kp)) m.lo) hs

/-- x[k] = e -/
theorem Bs.setItem {x k : Str} {p1 p2 p3 pos : Pos} {e : Expr} {D : Addr} {T : List (Int × Int)} {a n : Int} {Q : Flow → Shared → Prop} {E : Value → Shared → Prop} (B : Bs Z s₀ W₀ N sc ρ env s) (rm : Rm 0 Z.A) (hx : ρ.lookup x = some (.val (.ref D))) (hk : ρ.lookup k = some (.dat (kd a))) (he : Ev Z sc ρ e (.int n))
    (m : MD Z W₀ N D T s.heap) (hD : D ∈ N) (nD : ¬ All env D) (hlen : T.length < 1000) (hs : swapsWith e (some (.Subscript (.Name x p1) (.Name k p2) p3)) pos.line env = pure false)
    (h : ∀ s', Bs Z s₀ W₀ N sc ρ env s' → MD Z W₀ N D (tset T a n) s'.heap → (∀ b o, b ≠ D → s.heap.get? b = some o → s'.heap.get? b = some o) → Q .next s')
    (d1 : (x == ("__debug__" : Str)) = false) (c1 : (x == ("__classdict__" : Str)) = false) (d2 : (k == ("__debug__" : Str)) = false) (c2 : (k == ("__classdict__" : Str)) = false) :
    wpAny (model Z.prog Z.w) Z.A (exec (.Assign [.Subscript (.Name x p1) (.Name k p2) p3] e pos) env) Q E s := by
  refine wpAny_Assign_Subscript (Ev.on B.F he fun v s₁ k₁ rv => wpAny_Name (load_fs (B.F.keeps k₁) hx (fun u ru => ?_) c1) d1) hs
  obtain rfl : u = .ref D := ru
  refine Ev.on (B.F.keeps k₁) (Ev.name hk d2 c2) fun key s₂ k₂ rk => ?_
  obtain ⟨b, us, n', rfl, _⟩ := RD.tuple_inv rk
  have B₂ := (B.keeps k₁).keeps k₂
  refine set_own rm (m.ext fun b o e => k₂.ext b o (k₁.ext b o e)) hD hlen rk (rv.ext k₂.ext) fun h' tk m' hs' => ?_
  have k' : ∀ b o, b ≠ D → s₂.heap.get? b = some o → h'.get? b = some o := fun b o nb e => (hs'.2 b nb).trans e
  exact h _ (B₂.touchAny (tk := tk) hD nD k' (let ⟨_, _, _, e, _⟩ := m'.ex; ⟨_, e⟩)) m' fun b o nb e => k' b o nb (k₂.ext b o (k₁.ext b o e))

/-- x[k] += e, where k is there -/
theorem Bs.augItem {x k : Str} {p1 p2 p3 pos : Pos} {e : Expr} {D : Addr} {T : List (Int × Int)} {a n : Int} {Q : Flow → Shared → Prop} {E : Value → Shared → Prop} (B : Bs Z s₀ W₀ N sc ρ env s) (rm : Rm 0 Z.A) (hx : ρ.lookup x = some (.val (.ref D))) (hk : ρ.lookup k = some (.dat (kd a))) (he : Ev Z sc ρ e (.int n))
    (m : MD Z W₀ N D T s.heap) (hD : D ∈ N) (nD : ¬ All env D) (hlen : T.length < 1000) (hin : a ∈ T.map (·.1))
    (h : ∀ s', Bs Z s₀ W₀ N sc ρ env s' → MD Z W₀ N D (tset T a ((tget T a).getD 0 + n)) s'.heap → (∀ b o, b ≠ D → s.heap.get? b = some o → s'.heap.get? b = some o) → Q .next s')
    (d1 : (x == ("__debug__" : Str)) = false) (c1 : (x == ("__classdict__" : Str)) = false) (d2 : (k == ("__debug__" : Str)) = false) (c2 : (k == ("__classdict__" : Str)) = false) :
    wpAny (model Z.prog Z.w) Z.A (exec (.AugAssign (.Subscript (.Name x p1) (.Name k p2) p3) .Add e pos) env) Q E s := by
  refine wpAny_AugAssign_Subscript (wpAny_Name (load_fs B.F hx (fun u ru => ?_) c1) d1)
  obtain rfl : u = .ref D := ru
  refine Ev.on B.F (Ev.name hk d2 c2) fun key s₂ k₂ rk => ?_
  obtain ⟨b, us, n', rfl, _⟩ := RD.tuple_inv rk
  have m₂ := m.ext k₂.ext
  obtain ⟨xs, hd, r⟩ := m₂.dictOf
  obtain ⟨⟨ao, vo⟩, hp⟩ := Option.isSome_iff_exists.mp ((r.at a).1.mp hin)
  obtain ⟨n₁, e1, rv⟩ := (r.at a).2 _ _ hp
  obtain ⟨t, rfl⟩ := rv.int_inv
  refine wpAny_getItem_heap (knd := wk Z) (room_in rm) (key_is rk).1 hd hp ?_
  have k₃ : Kps s₂ { s₂ with toks := s₂.toks + (wk Z).draws (kw a) } := Kps.tok
  refine Ev.on ((B.F.keeps k₂).keeps k₃) he fun v s₄ k₄ rv' => ?_
  obtain ⟨t', rfl⟩ := rv'.int_inv
  refine PyProof.Rows.iadd_int ?_
  have k₅ : Kps s₄ { s₄ with toks := s₄.toks + 1 } := Kps.tok
  have B₅ := (((B.keeps k₂).keeps k₃).keeps k₄).keeps k₅
  refine set_own (s := { s₄ with toks := s₄.toks + 1 }) rm (m₂.ext fun b o e => k₄.ext b o e) hD hlen (rk.ext k₄.ext) (rd_int (n₁ + n) _) fun h' tk m' hs' => ?_
  have k' : ∀ b o, b ≠ D → s₄.heap.get? b = some o → h'.get? b = some o := fun b o nb e => (hs'.2 b nb).trans e
  refine h _ (B₅.touchAny (tk := tk) hD nD k' (let ⟨_, _, _, e, _⟩ := m'.ex; ⟨_, e⟩)) ?_ fun b o nb e => k' b o nb (k₄.ext b o (k₂.ext b o e))
  rw [e1]; exact m'

/-- if k in x: .. else: .. -/
theorem Bs.ifIn {x k : Str} {p1 p2 p3 pos : Pos} {s1 s2 : List Stmt} {D : Addr} {T : List (Int × Int)} {a : Int} {Q : Flow → Shared → Prop} {E : Value → Shared → Prop} (B : Bs Z s₀ W₀ N sc ρ env s) (rm : Rm 0 Z.A) (hx : ρ.lookup x = some (.val (.ref D))) (hk : ρ.lookup k = some (.dat (kd a)))
    (m : MD Z W₀ N D T s.heap)
    (h1 : a ∈ T.map (·.1) → ∀ s', Kps s s' → Bs Z s₀ W₀ N sc ρ env s' → wpAny (model Z.prog Z.w) Z.A (execs s1 env) Q E s') (h2 : a ∉ T.map (·.1) → ∀ s', Kps s s' → Bs Z s₀ W₀ N sc ρ env s' → wpAny (model Z.prog Z.w) Z.A (execs s2 env) Q E s')
    (d1 : (x == ("__debug__" : Str)) = false) (c1 : (x == ("__classdict__" : Str)) = false) (d2 : (k == ("__debug__" : Str)) = false) (c2 : (k == ("__classdict__" : Str)) = false) (hm : behindInMarks .In (.Name x p2) = false) :
    wpAny (model Z.prog Z.w) Z.A (exec (.If (.Compare (.Name k p1) [.In] [.Name x p2] p3) s1 s2 pos) env) Q E s := by
  refine wpAny_If (wpAny_isTrue_Compare1 (Ev.on B.F (Ev.name hk d2 c2) fun key s₁ k₁ rk => wpAny_Name (load_fs (B.F.keeps k₁) hx (fun u ru => ?_) c1) d1) hm)
  obtain rfl : u = .ref D := ru
  obtain ⟨b, us, n', rfl, _⟩ := RD.tuple_inv rk
  obtain ⟨xs, hd, r⟩ := (m.ext k₁.ext).dictOf
  refine wpAny_in_heap (knd := wk Z) (room_in rm) (key_is rk).1 m.lo hd (wpAny_truthy_bool ?_)
  have k₂ : Kps s₁ { s₁ with toks := s₁.toks + (wk Z).draws (kw a) } := Kps.tok
  have hq := (r.at a).1
  cases hc : (atKey xs (kw a)).isSome with
  | true => exact h1 (hq.mpr hc) _ (k₁.trans k₂) ((B.keeps k₁).keeps k₂)
  | false => exact h2 (fun q => by rw [hq.mp q] at hc; cases hc) _ (k₁.trans k₂) ((B.keeps k₁).keeps k₂)

/-- isinstance(x, tuple) of a number -/
theorem Ev.isTup {x : Str} {p1 p2 p3 p4 : Pos} {n : Int} (L : Lw Z.H) (hk : sc.names.lookup ("isinstance" : Str) = some .globalImplicit) (hk2 : sc.names.lookup ("tuple" : Str) = some .globalImplicit) (hx : ρ.lookup x = some (.dat (.int n))) (d1 : (x == ("__debug__" : Str)) = false) (c1 : (x == ("__classdict__" : Str)) = false) :
    Ev Z sc ρ (.Call (.Name "isinstance" p1) [.Name x p2, .Name "tuple" p3] [] p4) (.bool false) := fun env W s Q E F h => by
  refine Call_Name rfl (load_gv F L.bisin hk (call_with (Z := Z) (.bi _) F.top ?_ rfl rfl) rfl)
  refine spliced_cons (Ev.on F (Ev.name hx d1 c1) fun v s₁ k₁ r => spliced_cons (load_gv (F.keeps k₁) L.btuple hk2 (spliced_nil ⟨k₁.ext, ?_⟩) rfl))
  obtain ⟨t, rfl⟩ := r.int_inv
  exact PySem.IsiPair.int_tuple (h _ _ (k₁.trans Kps.tok) (rd_bool _))
end

def tadd (T : List (Int × Int)) (p : Int × Int) : List (Int × Int) := if p.1 ∈ T.map (·.1) then tset T p.1 ((tget T p.1).getD 0 + p.2) else tset T p.1 p.2
def tcopy (A : List (Int × Int)) : List (Int × Int) := A.foldl (fun T p => tset T p.1 p.2) []
def tmerge (A B : List (Int × Int)) : List (Int × Int) := B.foldl tadd (tcopy A)
theorem fold_next {f : List (Int × Int) → Int × Int → List (Int × Int)} {T₀ A : List (Int × Int)} {i : Nat} {p : Int × Int} (h : A[i]? = some p) : (A.take (i + 1)).foldl f T₀ = f ((A.take i).foldl f T₀) p := by
  rw [List.take_add_one, h]; simp
theorem fold_len {f : List (Int × Int) → Int × Int → List (Int × Int)} (hf : ∀ T p, (f T p).length ≤ T.length + 1) : ∀ (A T₀ : List (Int × Int)), (A.foldl f T₀).length ≤ T₀.length + A.length
  | [], T₀ => by simp
  | p :: A, T₀ => by have := fold_len hf A (f T₀ p); have := hf T₀ p; simp only [List.foldl_cons, List.length_cons]; omega
theorem tadd_len (T : List (Int × Int)) (p : Int × Int) : (tadd T p).length ≤ T.length + 1 := by
  unfold tadd; split <;> exact tset_len _ _ _
theorem tab_get {T : List (Int × Int)} {i : Nat} {dk dv : PyData} (h : (tabKV T)[i]? = some (dk, dv)) : ∃ p, T[i]? = some p ∧ dk = kd p.1 ∧ dv = .int p.2 := by
  simp only [tabKV, List.getElem?_map] at h
  cases e : T[i]? with
  | none => rw [e] at h; cases h
  | some p => rw [e] at h; injection Option.some.inj h with h1 h2; exact ⟨p, rfl, h1.symm, h2.symm⟩

theorem body_1 {Z : Wo} (L : Lw Z.H) (rm : Rm 0 Z.A) {TA TB : List (Int × Int)} (hA : TA.length < 400) (hB : TB.length < 400) : Body Z 1 [("target", .dat (tabD TA)), ("source", .dat (tabD TB))] (tabD (tmerge TA TB)) := fun env N W s₀ s E B => by
  refine wpAny_execs_cons (B.newDict (x := "new_callers") L.bdict (.inl rfl) fun D s₁ B₁ m₁ nD hDN => ?_)
  refine wpAny_execs_cons (Bs.forItems (x := "target") (xk := "func") (xv := "caller") (ρJ := fun _ => [("new_callers", .val (.ref D)), ("target", .dat (tabD TA)), ("source", .dat (tabD TB))]) (K := fun I i h => MD Z W (I :: D :: N) D (tcopy (TA.take i)) h)
    B₁ rm rfl (.inl rfl) (.inl rfl) (fun _ _ e => e) (fun I s' k hI => m₁.more k.ext hI) (fun I i h h' hI m k => m.frame B₁.oN nD (fun q => hI (by rw [← q]; exact List.mem_cons_self)) k) (fun I i dk dv s' E' hI nI hd B' m => ?_) (fun I s' hI B' m => ?_) rfl rfl rfl)
  · obtain ⟨p, hp, rfl, rfl⟩ := tab_get hd
    have hDI : D ∈ I :: D :: N := List.mem_cons_of_mem _ List.mem_cons_self
    have hl : (tcopy (TA.take i)).length < 1000 := by
      have := fold_len (f := fun T p => tset T p.1 p.2) (fun T p => tset_len _ _ _) (TA.take i) []
      rw [List.length_take] at this
      unfold tcopy
      simp only [List.length_nil] at this
      omega
    refine wpAny_execs_cons (B'.setItem (x := "new_callers") (k := "func") rm rfl rfl (Ev.name rfl) m hDI nD hl rfl (fun s₂ B₂ m₂ k₂ => wpAny_execs_nil ⟨B₂.names (SubN.go ⟨rfl, rfl, rfl, trivial⟩), ?_, fun b o nb e => k₂ b o (fun q => nb (by rw [q]; exact List.mem_cons_self)) e⟩) rfl rfl rfl rfl)
    show MD Z W (I :: D :: N) D (tcopy (TA.take (i + 1))) _
    unfold tcopy
    rw [fold_next hp]
    exact m₂
  have m' := m.less
  rw [show (tabKV TA).length = TA.length by simp, List.take_length] at m'
  have hcl : (tcopy TA).length < 400 := by
    have := fold_len (f := fun T p => tset T p.1 p.2) (fun T p => tset_len _ _ _) TA []
    unfold tcopy; simp only [List.length_nil] at this; omega
  refine wpAny_execs_cons (Bs.forItems (x := "source") (xk := "func") (xv := "caller") (ρJ := fun _ => [("new_callers", .val (.ref D)), ("source", .dat (tabD TB))]) (K := fun I i h => MD Z W (I :: D :: N) D ((TB.take i).foldl tadd (tcopy TA)) h)
    B' rm rfl (.inl rfl) (.inl rfl) (SubN.go ⟨rfl, rfl, trivial⟩) (fun I s' k hI => m'.more k.ext hI) (fun I i h h' hI m k => m.frame B₁.oN nD (fun q => hI (by rw [← q]; exact List.mem_cons_self)) k) (fun I i dk dv s' E' hI nI hd B' m => ?_) (fun I s' hI B' m => ?_) rfl rfl rfl)
  · obtain ⟨p, hp, rfl, rfl⟩ := tab_get hd
    have hDI : D ∈ I :: D :: N := List.mem_cons_of_mem _ List.mem_cons_self
    have hl : ((TB.take i).foldl tadd (tcopy TA)).length < 1000 := by
      have := fold_len tadd_len (TB.take i) (tcopy TA)
      rw [List.length_take] at this
      omega
    refine wpAny_execs_cons (B'.ifIn (x := "new_callers") (k := "func") rm rfl rfl m (fun hin s₂ k₂ B₂ => ?_) (fun hin s₂ k₂ B₂ => ?_) rfl rfl rfl rfl rfl)
    · refine wpAny_execs_cons (B₂.ifs (EvT.bool (Ev.isTup L rfl rfl rfl rfl rfl)) (fun h => nomatch h) fun _ s₃ k₃ B₃ => ?_)
      refine wpAny_execs_cons (B₃.augItem (x := "new_callers") (k := "func") rm rfl rfl (Ev.name rfl) ((m.ext k₂.ext).ext k₃.ext) hDI nD hl hin (fun s₄ B₄ m₄ k₄ => wpAny_execs_nil (wpAny_execs_nil (wpAny_execs_nil ⟨B₄.names (SubN.go ⟨rfl, rfl, trivial⟩), ?_, fun b o nb e => k₄ b o (fun q => nb (by rw [q]; exact List.mem_cons_self)) (k₃.ext b o (k₂.ext b o e))⟩))) rfl rfl rfl rfl)
      show MD Z W (I :: D :: N) D ((TB.take (i + 1)).foldl tadd (tcopy TA)) _
      rw [fold_next hp, tadd, if_pos hin]
      exact m₄
    · refine wpAny_execs_cons (B₂.setItem (x := "new_callers") (k := "func") rm rfl rfl (Ev.name rfl) (m.ext k₂.ext) hDI nD hl rfl (fun s₄ B₄ m₄ k₄ => wpAny_execs_nil (wpAny_execs_nil ⟨B₄.names (SubN.go ⟨rfl, rfl, trivial⟩), ?_, fun b o nb e => k₄ b o (fun q => nb (by rw [q]; exact List.mem_cons_self)) (k₂.ext b o e)⟩)) rfl rfl rfl rfl)
      show MD Z W (I :: D :: N) D ((TB.take (i + 1)).foldl tadd (tcopy TA)) _
      rw [fold_next hp, tadd, if_neg hin]
      exact m₄
  have m'' := m.less
  rw [show (tabKV TB).length = TB.length by simp, List.take_length] at m''
  refine wpAny_execs_cons (wpAny_Return_some (wpAny_Name (load_fs B'.F (x := "new_callers") rfl (fun v r => ?_) rfl) rfl))
  obtain rfl : v = .ref D := r
  exact ⟨_, rfl, B'.K, m''.data fun hb => hDN (List.mem_append_right _ hb)⟩
theorem call_1 {Z : Wo} (L : Lw Z.H) {k : Nat} (rm : Rm (k + 1) Z.A) {TA TB : List (Int × Int)} (hA : TA.length < 400) (hB : TB.length < 400) : CallOK Z (.ref 21) [tabD TA, tabD TB] (tabD (tmerge TA TB)) := by
  obtain ⟨fd, D, h1, h2⟩ := L.d1
  exact call_i2 D rm (bind_1 D h1 h2) (.inl rfl) (.inl rfl) (by decide) fun env rm' => body_1 (Z := { Z with A := Z.A.deeper env }) L (rm'.le (Nat.zero_le _)) hA hB
end Mine
end

-- Tb
section
open PySem PySem.Calls PySem.Spec PyProof.Rows
namespace Mine

abbrev tk (T : List (Int × Int)) : List Int := T.map (·.1)
theorem upd_keys (T : List (Int × Int)) (e n : Int) : tk (T.map fun p => if p.1 = e then (p.1, n) else p) = tk T := by
  unfold tk
  rw [List.map_map]
  apply List.map_congr_left
  intro p _
  simp only [Function.comp]
  split <;> rfl
theorem mem_tset (T : List (Int × Int)) (e n x : Int) : x ∈ tk (tset T e n) ↔ x ∈ tk T ∨ x = e := by
  unfold tset
  split
  · rename_i h
    rw [upd_keys]
    constructor
    · exact .inl
    · rintro (h' | rfl)
      · exact h'
      · exact h
  · simp [tk]
theorem nodup_tset {T : List (Int × Int)} (h : (tk T).Nodup) (e n : Int) : (tk (tset T e n)).Nodup := by
  unfold tset
  split
  · rw [upd_keys]; exact h
  · rename_i he
    unfold tk
    rw [List.map_append]
    refine List.nodup_append.mpr ⟨h, by simp, fun a ha b hb => ?_⟩
    simp at hb
    subst hb
    exact fun q => he (q ▸ ha)
theorem cnt_new {T : List (Int × Int)} {e n : Int} (h : e ∉ tk T) : cnt (tset T e n) = cnt T + n := by
  unfold tset
  rw [if_neg h]
  simp [cnt]
theorem cnt_upd : ∀ {T : List (Int × Int)} {e n : Int}, (tk T).Nodup → e ∈ tk T → cnt (T.map fun p => if p.1 = e then (p.1, (tget T e).getD 0 + n) else p) = cnt T + n := by
  have key : ∀ (T : List (Int × Int)) (e m : Int), e ∉ tk T → (T.map fun p => if p.1 = e then (p.1, m) else p) = T := fun T e m h => by
    conv => rhs; rw [← List.map_id T]
    apply List.map_congr_left
    intro p hp
    rw [if_neg fun q => h (List.mem_map.mpr ⟨p, hp, q⟩)]; rfl
  intro T
  induction T with
  | nil => intro e n _ h; cases h
  | cons p T ih =>
    intro e n hn he
    have hn' := List.nodup_cons.mp hn
    by_cases hp : p.1 = e
    · have h1 : e ∉ tk T := hp ▸ hn'.1
      have h2 : tget (p :: T) e = some p.2 := by
        obtain ⟨p1, p2⟩ := p
        simp only at hp
        unfold tget; simp [List.lookup_cons, hp]
      rw [List.map_cons, if_pos hp, key T e _ h1, h2]
      simp only [cnt, List.map_cons, List.sum_cons, Option.getD_some]
      omega
    · have h1 : e ∈ tk T := (List.mem_cons.mp he).resolve_left fun q => hp q.symm
      have h2 : tget (p :: T) e = tget T e := by
        obtain ⟨p1, p2⟩ := p
        simp only at hp
        unfold tget
        rw [List.lookup_cons, show (e == p1) = false from beq_eq_false_iff_ne.mpr fun q => hp q.symm]
      rw [List.map_cons, if_neg hp, h2]
      have := ih (n := n) hn'.2 h1
      simp only [cnt, List.map_cons, List.sum_cons] at this ⊢
      omega
theorem cnt_tadd {T : List (Int × Int)} (h : (tk T).Nodup) (p : Int × Int) : cnt (tadd T p) = cnt T + p.2 := by
  unfold tadd
  by_cases hm : p.1 ∈ tk T
  · rw [if_pos hm]
    unfold tset
    rw [if_pos hm]
    exact cnt_upd h hm
  · rw [if_neg hm]; exact cnt_new hm
theorem nodup_tadd {T : List (Int × Int)} (h : (tk T).Nodup) (p : Int × Int) : (tk (tadd T p)).Nodup := by
  unfold tadd; split <;> exact nodup_tset h _ _
theorem mem_tadd (T : List (Int × Int)) (p : Int × Int) (x : Int) : x ∈ tk (tadd T p) ↔ x ∈ tk T ∨ x = p.1 := by
  unfold tadd; split <;> exact mem_tset _ _ _ _

theorem fold_tadd : ∀ (B T : List (Int × Int)), (tk T).Nodup → (tk (B.foldl tadd T)).Nodup ∧ cnt (B.foldl tadd T) = cnt T + cnt B ∧ ∀ x, x ∈ tk (B.foldl tadd T) ↔ x ∈ tk T ∨ x ∈ tk B
  | [], T, h => ⟨h, by simp [cnt], by simp [tk]⟩
  | p :: B, T, h => by
    obtain ⟨a, b, c⟩ := fold_tadd B (tadd T p) (nodup_tadd h p)
    refine ⟨a, ?_, fun x => ?_⟩
    · rw [List.foldl_cons, b, cnt_tadd h]; simp [cnt]; omega
    · rw [List.foldl_cons, c, mem_tadd]
      simp only [tk, List.map_cons, List.mem_cons]
      rw [or_assoc]
theorem fold_tset : ∀ (B T : List (Int × Int)), (tk (T ++ B)).Nodup → B.foldl (fun T p => tset T p.1 p.2) T = T ++ B
  | [], T, _ => by simp
  | p :: B, T, h => by
    have h' : (tk T).Nodup ∧ (tk (p :: B)).Nodup ∧ ∀ a ∈ tk T, ∀ b ∈ tk (p :: B), a ≠ b := by
      unfold tk at h ⊢
      rw [List.map_append] at h
      exact List.nodup_append.mp h
    have hne : p.1 ∉ tk T := fun q => h'.2.2 _ q _ (by simp [tk]) rfl
    have e : tset T p.1 p.2 = T ++ [p] := by unfold tset; rw [if_neg hne]
    rw [List.foldl_cons, e, fold_tset B (T ++ [p]) (by simpa using h)]
    simp
theorem tcopy_eq {A : List (Int × Int)} (h : (tk A).Nodup) : tcopy A = A := by
  unfold tcopy
  rw [fold_tset A [] (by simpa using h)]; rfl
theorem tmerge_ok {A : List (Int × Int)} (B : List (Int × Int)) (h : (tk A).Nodup) : (tk (tmerge A B)).Nodup ∧ cnt (tmerge A B) = cnt A + cnt B ∧ ∀ x, x ∈ tk (tmerge A B) ↔ x ∈ tk A ∨ x ∈ tk B := by
  unfold tmerge
  rw [tcopy_eq h]
  exact fold_tadd B A h

/-- a table as the law knows it -/
def TabOK (T : List (Int × Int)) : Prop := (tk T).Nodup ∧ ∀ x ∈ tk T, In7 x
theorem nodup_le : ∀ (l m : List Int), l.Nodup → (∀ x ∈ l, x ∈ m) → l.length ≤ m.length
  | [], m, _, _ => Nat.zero_le _
  | x :: l, m, hn, h => by
    obtain ⟨h1, h2⟩ := List.nodup_cons.mp hn
    have hx := h x List.mem_cons_self
    have := nodup_le l (m.erase x) h2 fun y hy => (List.mem_erase_of_ne (a := y) (b := x) fun q => h1 (by rw [← q]; exact hy)).mpr (h y (List.mem_cons_of_mem _ hy))
    rw [List.length_erase_of_mem hx] at this
    have hp := List.length_pos_of_mem hx
    simp only [List.length_cons]
    omega
theorem in7_mem {x : Int} (h : In7 x) : x ∈ ([0, 1, 2, 3, 4, 5, 6] : List Int) := by
  obtain ⟨h1, h2⟩ := h
  simp only [List.mem_cons, List.not_mem_nil, or_false]
  omega
theorem len7 {l : List Int} (hn : l.Nodup) (h : ∀ x ∈ l, In7 x) : l.length ≤ 7 := nodup_le l [0, 1, 2, 3, 4, 5, 6] hn fun x hx => in7_mem (h x hx)
theorem TabOK.len {T : List (Int × Int)} (h : TabOK T) : T.length ≤ 7 := by have := len7 h.1 h.2; simpa [tk] using this
theorem TabOK.merge {A B : List (Int × Int)} (ha : TabOK A) (hb : TabOK B) : TabOK (tmerge A B) := by
  obtain ⟨a, _, c⟩ := tmerge_ok B ha.1
  exact ⟨a, fun x hx => ((c x).mp hx).elim (ha.2 x) (hb.2 x)⟩
theorem TabOK.nil : TabOK [] := ⟨by simp [tk], fun x h => by simp [tk] at h⟩
theorem TabOK.one {e n : Int} (h : In7 e) : TabOK [(e, n)] := ⟨by simp [tk], fun x hx => by simp [tk] at hx; rw [hx]; exact h⟩

/-- the tables, as they are made -/
def tab0 (st : List (Int × Int)) (a : Int) : List (Int × Int) := if lowsOf st a ≠ [] then [] else [(a, 1)]
def tabAt (Ts : List (List (Int × Int))) (y : Int) : List (Int × Int) := Ts.getD y.toNat []
def mkTab (st : List (Int × Int)) (Ts : List (List (Int × Int))) (a : Int) : List (Int × Int) := (lowsOf st a).foldl (fun T y => tmerge T (tabAt Ts y)) (tab0 st a)
def tabs (st : List (Int × Int)) : Nat → List (List (Int × Int))
  | 0 => []
  | n + 1 => tabs st n ++ [mkTab st (tabs st n) n]
theorem tabs_len (st : List (Int × Int)) : ∀ n, (tabs st n).length = n
  | 0 => rfl
  | n + 1 => by simp [tabs, tabs_len st n]
theorem tabAt_ok {Ts : List (List (Int × Int))} (h : ∀ T ∈ Ts, TabOK T) (y : Int) : TabOK (tabAt Ts y) := by
  unfold tabAt
  rw [List.getD_eq_getElem?_getD]
  cases e : Ts[y.toNat]? with
  | none => exact TabOK.nil
  | some T => exact h T (List.mem_of_getElem? e)
theorem foldTab_ok {Ts : List (List (Int × Int))} (h : ∀ T ∈ Ts, TabOK T) : ∀ (ys : List Int) (T : List (Int × Int)), TabOK T → TabOK (ys.foldl (fun T y => tmerge T (tabAt Ts y)) T)
  | [], T, hT => hT
  | y :: ys, T, hT => foldTab_ok h ys _ (hT.merge (tabAt_ok h y))
theorem tab0_ok {st : List (Int × Int)} {a : Int} (h : In7 a) : TabOK (tab0 st a) := by
  unfold tab0; split
  · exact .nil
  · exact .one h
theorem tabs_ok (st : List (Int × Int)) : ∀ n, n ≤ 7 → ∀ T ∈ tabs st n, TabOK T
  | 0, _, T, h => by cases h
  | n + 1, hn, T, h => by
    rcases List.mem_append.mp h with h | h
    · exact tabs_ok st n (by omega) T h
    · rw [List.mem_singleton.mp h]
      exact foldTab_ok (tabs_ok st n (by omega)) _ _ (tab0_ok ⟨by omega, by omega⟩)
end Mine
end

-- W10
section
open PySem PySem.Calls PySem.Spec PyProof.Rows
namespace Mine

def rng (n : Nat) : List Int := (List.range n).map Int.ofNat
theorem upto_rng (n : Nat) : upto n = izs (rng n) := by unfold upto izs rng; rw [List.map_map]; rfl
theorem rng_get {n i : Nat} {d : PyData} (h : (izs (rng n))[i]? = some d) : i < n ∧ d = .int (i : Int) := by
  obtain ⟨m, hm, rfl⟩ := ints_get h
  unfold rng at hm
  rw [List.getElem?_map] at hm
  by_cases hi : i < n
  · rw [List.getElem?_range hi] at hm
    exact ⟨hi, by rw [← Option.some.inj hm]; rfl⟩
  · rw [List.getElem?_eq_none (by simpa using hi)] at hm; cases hm

section
variable {Z : Wo} {sc : Scope} {ρ : Nm}
theorem EvI.range (L : Lw Z.H) (rm : Rm 0 Z.A) {p1 p2 : Pos} {e : Expr} {n : Nat} (hk : sc.names.lookup ("range" : Str) = some .globalImplicit) (he : Ev Z sc ρ e (.int (n : Int))) (hn : n < 1000) (hs : ∀ env, starEach [e] env = [(false, eval e env)]) :
    EvI Z sc ρ (.Call (.Name "range" p1) [e] [] p2) (izs (rng n)) := fun env W s Q E F hQ => by
  refine Call_Name rfl (load_gv F L.brange hk (call_with (Z := Z) (.ty _) F.top ?_ (hs env) rfl) rfl)
  rw [hs]
  refine spliced_cons (Ev.on F he fun v s₁ k₁ r => spliced_nil ⟨k₁.ext, ?_⟩)
  obtain ⟨t, rfl⟩ := r.int_inv
  refine iter_range rm (F.keeps k₁).al hn fun I s' k hI it => hQ I s' (k₁.trans k) (ext_size k₁.ext hI) ?_
  rw [upto_rng] at it; exact it

theorem Ev.dictEmpty (L : Lw Z.H) {p : Pos} : Ev Z sc ρ (.Dict [] [] p) (tabD []) := fun env W s Q E F h => by
  have hnone : s.heap.get? s.heap.objs.size = Option.none := none_of_size (Nat.le_refl _)
  exact wpAny_Dict_empty (h _ _ (Kps.mk' ext_push) (rd_dict (size_notin F.al (Nat.le_refl _)) (not_sys L.bdict F.top hnone (Nat.le_refl _)) (Heap.get?_push_size _ rfl) .nil .nil))

theorem dset_own {s : Shared} {W₀ N : List Addr} {D : Addr} {T : List (Int × Int)} {a n : Int} {b : Addr} {v : Value} {Q : Unit → Shared → Prop} {E : Value → Shared → Prop} (rm : Rm 0 Z.A) (m : MD Z W₀ N D T s.heap) (hD : D ∈ N) (hlen : T.length < 1000) (rk : RD (N ++ W₀) s.heap (.ref b) (kd a)) (rv : RD (N ++ W₀) s.heap v (.int n))
    (hQ : ∀ h' tk, MD Z W₀ N D (tset T a n) h' → Heap.SameBut D s.heap h' → Q () { s with heap := h', toks := tk }) : wpAny (model Z.prog Z.w) Z.A (dictSet D (.ref b) v) Q E s := by
  obtain ⟨xs, hd, r⟩ := m.dictOf
  refine wpAny_dictSet_heap (knd := wk Z) (by have := rm.2.1; show Z.A.units < cLine; omega) (key_is rk).1 hd (fun h' hd' hs => ?_) (le_small (by rw [r.len]; omega))
  have kp : Kp (N ++ W₀) s.heap (N ++ W₀) h' := fun b o nb e => ⟨nb, (hs.2 b fun q => nb (by rw [q]; exact List.mem_append_left _ hD)).trans e⟩
  exact hQ h' _ (MD.of hd' ((r.kp kp).store (rk.kp kp) (rv.kp kp)) m.lo) hs

theorem Ev.dictOne (L : Lw Z.H) (rm : Rm 0 Z.A) {k v : Expr} {p : Pos} {a n : Int} (hk : Ev Z sc ρ k (kd a)) (hv : Ev Z sc ρ v (.int n)) : Ev Z sc ρ (.Dict [some k] [v] p) (tabD [(a, n)]) := fun env W s Q E F h => by
  refine wpAny_Dict_any rfl rfl (by simp) (by simp) ?_
  have hnone : s.heap.get? s.heap.objs.size = Option.none := none_of_size (Nat.le_refl _)
  have k₁ : Kps s { s with heap := s.heap.push { cls := .type "dict", data := .dict #[] } } := Kps.mk' ext_push
  obtain ⟨F₁, nD, _⟩ := F.hideNew k₁.ext hnone ⟨_, Heap.get?_push_size _ rfl⟩
  have m : MD Z W [s.heap.objs.size] s.heap.objs.size [] (s.heap.push { cls := .type "dict", data := .dict #[] }) :=
    ⟨⟨[], #[], 0, Heap.get?_push_size _ rfl, rfl, .nil, .nil⟩, not_sys L.bdict F.top hnone (Nat.le_refl _)⟩
  have nW : s.heap.objs.size ∉ W := size_notin F.al (Nat.le_refl _)
  refine pairTrees_cons_walk (Ev.on (s := { s with heap := s.heap.push { cls := .type "dict", data := .dict #[] } }) F₁ hk fun u s₂ k₂ rk => Ev.on (F₁.keeps k₂) hv fun x s₃ k₃ rv => pairTrees_nil_walk ?_)
  obtain ⟨b, us, n', rfl, _⟩ := RD.tuple_inv rk
  unfold storeAll
  rw [List.forIn_cons]
  refine wpAny_bind (wpAny_bind (dset_own (N := [s.heap.objs.size]) (W₀ := W) rm (m.ext fun b o e => k₃.ext b o (k₂.ext b o e)) (by simp) (by simp) (rk.ext k₃.ext) rv fun h' tk m' hs' => wpAny_pure (wpAny_pure ?_)))
  have K : Kps s { s₃ with heap := h', toks := tk } := by
    obtain ⟨h₃, t₃, rfl, x₃⟩ := k₁.trans (k₂.trans k₃)
    refine ⟨h', tk, rfl, fun b o e => (hs'.2 b fun q => ?_).trans (x₃ b o e)⟩
    rw [q, hnone] at e; cases e
  exact h _ _ K (m'.data nW)
end

theorem RDs.imp {W W' : List Addr} {h h' : Heap} : ∀ {vs : List Value} {ds : List PyData}, (∀ v d, d ∈ ds → RD W h v d → RD W' h' v d) → RDs W h vs ds → RDs W' h' vs ds
  | vs, [], _, r => by rw [r.nil_inv]; exact .nil
  | vs, d :: ds, hi, r => by
    obtain ⟨v, vs', rfl, r1, r2⟩ := r.cons_inv
    exact .cons (hi v d List.mem_cons_self r1) (RDs.imp (fun v d hd => hi v d (List.mem_cons_of_mem _ hd)) r2)
/-- a table read past a list is a table read without it -/
theorem tab_close {W : List Addr} {h : Heap} {D : Addr} {ys : Array Value} {v : Value} {T : List (Int × Int)} (r : RD (W.filter (· != D)) h v (tabD T)) (hl : h.PlainList D ys) : RD W h v (tabD T) := by
  obtain ⟨n, hD⟩ := hl
  have out : ∀ b o, b ∉ W.filter (· != D) → h.get? b = some o → o.cls ≠ .type "list" → b ∉ W := fun b o nb e hc hb => by
    by_cases q : b = D
    · rw [q, hD] at e; cases e; exact hc rfl
    · exact nb (List.mem_filter.mpr ⟨hb, (bne_iff_ne (a := b) (b := D)).mpr q⟩)
  obtain ⟨a, es, ep, rfl, na, hs, ha, r1, r2⟩ := r.dict_inv
  refine rd_dict (out a _ na ha (fun q => by injection q with q; exact absurd q (by decide))) hs ha (r1.imp fun u d hd ru => ?_) (r2.imp fun u d hd ru => ?_)
  · obtain ⟨q, hq, rfl⟩ := List.mem_map.mp hd
    obtain ⟨p, hp, rfl⟩ := List.mem_map.mp hq
    obtain ⟨b, us, m, rfl, nb, hb, ru⟩ := RD.tuple_inv ru
    refine rd_tuple (out b _ nb hb (fun q => by injection q with q; exact absurd q (by decide))) hb (ru.imp fun u d hd ru => ?_)
    simp only [List.mem_cons, List.not_mem_nil, or_false] at hd
    rcases hd with rfl | rfl | rfl
    · obtain ⟨t, rfl⟩ := ru.str_inv; exact rd_str _ _
    · obtain ⟨t, rfl⟩ := ru.int_inv; exact rd_int _ _
    · obtain ⟨t, rfl⟩ := ru.str_inv; exact rd_str _ _
  · obtain ⟨q, hq, rfl⟩ := List.mem_map.mp hd
    obtain ⟨p, hp, rfl⟩ := List.mem_map.mp hq
    obtain ⟨t, rfl⟩ := ru.int_inv
    exact rd_int _ _

theorem Bs.assignOT {Z : Wo} {sc : Scope} {ρ : Nm} {s₀ : Shared} {W₀ N : List Addr} {env : Env} {s : Shared} {y x : Str} {D : Addr} {ds : List PyData} {px pos : Pos} {e : Expr} {T : List (Int × Int)} {Q : Flow → Shared → Prop} {E : Value → Shared → Prop} (B : Bs Z s₀ W₀ N sc ρ env s)
    (hy : ρ.lookup y = some (.val (.ref D))) (m : ML W₀ N D ds s.heap) (nD : ¬ All env D) (he : Ev Z sc ((y, .dat (.list ds)) :: ρ) e (tabD T)) (hx : sc.names.lookup x = some .local ∨ sc.names.lookup x = some .cell)
    (hs : swapsWith e (some (.Name x px)) pos.line env = pure false)
    (h : ∀ s', Bs Z s₀ W₀ N sc ((x, .dat (tabD T)) :: ρ) env s' → (∀ b o, ¬ All env b → s.heap.get? b = some o → s'.heap.get? b = some o) → Q .next s') : wpAny (model Z.prog Z.w) Z.A (exec (.Assign [.Name x px] e pos) env) Q E s := by
  obtain ⟨ys, hl, rs⟩ := m.ex
  refine wpAny_Assign_Name (Ev.on (B.F.opens hy hl rs fun q => nD q.all) he fun v s₁ k₁ r₁ => (B.keeps k₁).store (p := .dat (tabD T)) (tab_close r₁ (let ⟨n, e⟩ := hl; ⟨n, k₁.ext _ _ e⟩)) hx fun h' tk B' k => h _ B' fun b o nb e => (k b nb).trans (k₁.ext b o e)) hs

theorem Lw.c1 {H : Heap} (L : Lw H) : Callee H (.ref 21) := let ⟨fd, D, _⟩ := L.d1; D.D.callee
theorem mem_lows7 {st : List (Int × Int)} (hr : InR st) {a y : Int} (h : y ∈ lowsOf st a) : In7 y := (hr _ (mem_lows.mp h)).2

theorem body_10 {Z : Wo} (L : Lw Z.H) (rm : Rm 1 Z.A) {st : List (Int × Int)} (hr : InR st) (hd : Desc st) (hn : st.length ≤ 40) : Body Z 10 [("steps", .dat (.list (prs st)))] (.list ((tabs st 7).map tabD)) := fun env N W s₀ s E B => by
  have rm0 := rm.le (Nat.zero_le _)
  refine wpAny_execs_cons (B.newList (x := "tables") EvL.nil (Nat.zero_le _) (.inl rfl) fun D s₁ B₁ m₁ nD hDN => ?_)
  refine wpAny_execs_cons (Bs.forIn (x := "place") (ρJ := fun _ => [("tables", .val (.ref D)), ("steps", .dat (.list (prs st)))]) (K := fun I i h => ML W (I :: D :: N) D ((tabs st i).map tabD) h)
    B₁ (EvI.range L rm0 (n := 7) rfl (Ev.int _ _ _) (by omega) fun _ => rfl) (.inr rfl) (fun _ _ e => e) (fun I s' k hI => m₁.more k.ext hI) (fun I i h h' hI m k => m.frame B₁.oN nD (fun q => hI (by rw [← q]; exact List.mem_cons_self)) k) (fun I i d s' E' hI nI hd' B' m => ?_) (fun I s' hI B' m => ?_))
  · obtain ⟨hi, rfl⟩ := rng_get hd'
    have hDI : D ∈ I :: D :: N := List.mem_cons_of_mem _ List.mem_cons_self
    have h7 : In7 (i : Int) := ⟨by omega, by omega⟩
    refine wpAny_execs_cons (B'.assignLows rm0 (x := "below") (a := (i : Int)) (by omega) rfl rfl rfl rfl rfl rfl rfl rfl rfl rfl rfl rfl (fun e1 e2 => ?_) fun s₂ B₂ k₂ => ?_)
    · unfold swapsWith
      simp only [e1, e2]
      rfl
    have m₂ := m.fr B'.oN nD k₂
    refine wpAny_execs_cons (B₂.assign (x := "table") (d := tabD (tab0 st i)) (Ev.ite (EvT.as (EvT.cmp (Ev.name rfl) (Ev.list EvL.nil (Nat.zero_le _)) (OpJ.ne rm0 (shaped_ints _) (shaped_ints []))) (congrArg (!·) (eqv_list _ []))) (fun hc => ?_) fun hc => ?_) (.inl rfl) rfl fun s₃ B₃ k₃ => ?_)
    · have hc' : lowsOf st i ≠ [] := by simpa using hc
      unfold tab0
      rw [if_pos hc']
      exact Ev.dictEmpty L
    · have hc' : ¬ lowsOf st i ≠ [] := by simpa using hc
      unfold tab0
      rw [if_neg hc']
      exact Ev.dictOne L rm0 (Ev.tuple (.cons (Ev.str _ _ _) (.cons (Ev.name rfl) (.cons (Ev.str _ _ _) .nil))) (le_small (by simp))) (Ev.int _ _ _)
    have m₃ := m₂.fr B₂.oN nD k₃
    have oks := tabs_ok st i (by omega)
    refine wpAny_execs_cons (Bs.forIn (x := "low") (ρJ := fun j => [("table", .dat (tabD (((lowsOf st i).take j).foldl (fun T y => tmerge T (tabAt (tabs st i) y)) (tab0 st i)))), ("below", .dat (.list (izs (lowsOf st i)))), ("tables", .val (.ref D)), ("steps", .dat (.list (prs st)))]) (K := fun I' j h => ML W (I' :: I :: D :: N) D ((tabs st i).map tabD) h ∧ s₃.heap.get? I' = none ∧ ∀ b o, b ∉ D :: N → s₃.heap.get? b = some o → h.get? b = some o)
      B₃ (EvI.list rm0 (Ev.name rfl)) (.inl rfl) (SubN.go ⟨rfl, rfl, rfl, rfl, trivial⟩) (fun I' s' k hI' => ⟨m₃.more k.ext hI', hI', fun b o _ e => k.ext b o e⟩) (fun I' j h h' hI' m k => ⟨m.1.frame B₃.oN nD (fun q => hI' (by rw [← q]; exact List.mem_cons_of_mem _ List.mem_cons_self)) k, m.2.1, fun b o nb e => k b o (fun q => nb (B₁.oN b q)) (fun q => by rw [q, m.2.1] at e; cases e) (m.2.2 b o nb e)⟩) (fun I' j d s' E' hI' nI' hdd B'' m' => ?_) fun I' s' hI' B'' m' => ?_)
    · obtain ⟨y, hy, rfl⟩ := ints_get hdd
      have hym := List.mem_of_getElem? hy
      have h7y := mem_lows7 hr hym
      have hyi : y < i := hd _ (mem_lows.mp hym)
      have hyn : y.toNat < i := by have := h7y.1; omega
      have ok1 := foldTab_ok oks ((lowsOf st i).take j) _ (tab0_ok (st := st) h7)
      have hyc : y = (y.toNat : Int) := by have := h7y.1; omega
      have hget : ((tabs st i).map tabD)[y.toNat]? = some (tabD (tabAt (tabs st i) y)) := by
        rw [List.getElem?_map]
        unfold tabAt
        rw [List.getD_eq_getElem?_getD]
        have : y.toNat < (tabs st i).length := by rw [tabs_len]; exact hyn
        rw [List.getElem?_eq_getElem this]; rfl
      refine wpAny_execs_cons (B''.assignOT (y := "tables") (x := "table") rfl m'.1 nD (Ev.call L.g1 rfl L.c1 (.cons (Ev.name rfl) (.cons (Ev.sub (a := .list ((tabs st i).map tabD)) (b := .int (y.toNat : Int)) (Ev.name rfl) (Ev.as (Ev.name rfl) (congrArg PyData.int hyc)) (OpJ.item (by omega) hget)) .nil)) (call_1 (k := 0) L rm (by have := ok1.len; omega) (by have := (tabAt_ok oks y).len; omega))) (.inl rfl) rfl fun s₄ B₄ k₄ => wpAny_execs_nil ⟨?_, ⟨m'.1.fr B''.oN nD k₄, m'.2.1, fun b o nb e => k₄ b o (fun q => nb (B₁.oN b q)) (m'.2.2 b o nb e)⟩, fun b o nb e => k₄ b o (fun q => nb (B₃.oN b q)) e⟩)
      refine B₄.names (SubN.go ⟨?_, rfl, rfl, rfl, trivial⟩)
      rw [List.take_add_one, hy]
      simp only [Option.toList_some, List.foldl_append, List.foldl_cons, List.foldl_nil]
      rfl
    · have m'' := m'.1.less
      rw [show (izs (lowsOf st i)).length = (lowsOf st i).length by simp, List.take_length] at B''
      refine wpAny_execs_cons (B''.append (x := "tables") rfl m'' hDI nD (Ev.name rfl) (Nat.lt_of_lt_of_le (by rw [List.length_map, tabs_len]; exact hi) (le_small (by decide))) (fun s₅ B₅ m₅ k₅ => wpAny_execs_nil ⟨B₅.names (SubN.go ⟨rfl, rfl, trivial⟩), ?_, fun b o nb e => ?_⟩) rfl rfl rfl rfl)
      · show ML W (I :: D :: N) D ((tabs st (i + 1)).map tabD) _
        rw [tabs, List.map_append]
        exact m₅
      · exact k₅ b o (fun q => nb (by rw [q]; exact List.mem_cons_self)) (m'.2.2 b o nb (k₃ b o (fun q => nb (B₁.oN b q)) (k₂ b o (fun q => nb (B₁.oN b q)) e)))
  · have m' := m.less
    exact wpAny_execs_cons (B'.retO (x := "tables") rfl m' nD (fun hb => hDN (List.mem_append_right _ hb)) (Ev.name rfl) fun v s'' k r => ⟨v, rfl, k, r⟩)
theorem call_10 {Z : Wo} (L : Lw Z.H) {k : Nat} (rm : Rm (k + 2) Z.A) {st : List (Int × Int)} (hr : InR st) (hd : Desc st) (hn : st.length ≤ 40) : CallOK Z (.ref 68) [.list (prs st)] (.list ((tabs st 7).map tabD)) := by
  obtain ⟨fd, D, h1, h2⟩ := L.d10
  exact call_i1 D rm (bind_10 D h1 h2) (.inl rfl) fun env rm' => body_10 (Z := { Z with A := Z.A.deeper env }) L (rm'.le (by omega)) hr hd hn
end Mine
end

-- W12a
section
open PySem PySem.Calls PySem.Spec PyProof.Rows
namespace Mine
section
variable {Z : Wo} {sc : Scope} {ρ : Nm}

theorem Ev.upTo {v : Expr} {p1 p3 p4 : Pos} {k n : Nat} {xs : List PyData} (h1 : Ev Z sc ρ v (.list xs)) (hsz : xs.length ≤ sizeLine) (hn : n < 1000) :
    Ev Z sc ρ (.Subscript v (.Slice Option.none (some (.Constant (.int (n : Int)) k p1)) Option.none p3) p4) (.list (xs.take n)) := fun env W s Q E F h => by
  refine Subscript_ (h1 env W s _ E F fun x s₁ k₁ r₁ => ?_)
  obtain ⟨l, vs, rfl, hl, ⟨n', ho⟩, rs⟩ := r₁.list_inv
  refine wpAny_Slice ?_
  rw [evalPart_none, evalPart_some]
  refine wpAny_pure (wpAny_Constant_int (wpAny_pure ?_))
  have F₁ := F.keeps k₁
  obtain ⟨h₁, tk₁, rfl, x₁⟩ := k₁
  refine slice_tail (s := { s with heap := h₁, toks := tk₁ + 1 }) (W := W) (items := vs) F₁.al (Heap.PlainList.isList ⟨n', ho⟩) .none (.int _ _) .none (by simp) (by rw [← Array.length_toList, rs.length]; exact hsz) ⟨_, rfl⟩ (ds := xs.take n) ?_ fun v s' k r => h v s' ?_ r
  · rw [slicePick_upto', List.toList_toArray]; exact rs.take n
  · obtain ⟨h₂, tk₂, rfl, x₂⟩ := k
    exact ⟨h₂, tk₂, rfl, fun b o e => x₂ b o (x₁ b o e)⟩

theorem eqv_nil (xs : List PyData) : PyData.eqv (.list xs) (.list []) = xs.isEmpty := by
  cases xs <;> simp [PyData.eqv, PyData.eqvAll]

/-- the ends of all places -/
noncomputable def endsT (st : List (Int × Int)) : List (List Int) := (rng 7).map (endsL st)
abbrev lists (ls : List (List Int)) : List PyData := ls.map fun l => .list (izs l)
theorem endsT_get {st : List (Int × Int)} {i : Nat} (hi : i < 7) : (lists (endsT st))[i]? = some (.list (izs (endsL st i))) := by
  unfold lists endsT rng
  rw [List.getElem?_map, List.getElem?_map, List.getElem?_map, List.getElem?_range hi]; rfl
/-- ends[place] -/
theorem Ev.endsAt {st : List (Int × Int)} {i : Nat} {p1 p2 p3 : Pos} {x y : Str} (hi : i < 7) (hx : ρ.lookup x = some (.dat (.list (lists (endsT st))))) (hy : ρ.lookup y = some (.dat (.int (i : Int)))) (d1 : (x == ("__debug__" : Str)) = false) (c1 : (x == ("__classdict__" : Str)) = false) (d2 : (y == ("__debug__" : Str)) = false) (c2 : (y == ("__classdict__" : Str)) = false) :
    Ev Z sc ρ (.Subscript (.Name x p1) (.Name y p2) p3) (.list (izs (endsL st i))) := Ev.sub (Ev.name hx d1 c1) (Ev.name hy d2 c2) (OpJ.item (by omega) (endsT_get hi))
theorem Ev.tabAt' {st : List (Int × Int)} {i : Nat} {p1 p2 p3 : Pos} {x y : Str} (hi : i < 7) (hx : ρ.lookup x = some (.dat (.list ((tabs st 7).map tabD)))) (hy : ρ.lookup y = some (.dat (.int (i : Int)))) (d1 : (x == ("__debug__" : Str)) = false) (c1 : (x == ("__classdict__" : Str)) = false) (d2 : (y == ("__debug__" : Str)) = false) (c2 : (y == ("__classdict__" : Str)) = false) :
    Ev Z sc ρ (.Subscript (.Name x p1) (.Name y p2) p3) (tabD (tabAt (tabs st 7) i)) := Ev.sub (Ev.name hx d1 c1) (Ev.name hy d2 c2) (OpJ.item (by omega) (by
      rw [List.getElem?_map]
      unfold tabAt
      rw [List.getD_eq_getElem?_getD]
      have : i < (tabs st 7).length := by rw [tabs_len]; exact hi
      simp only [Int.toNat_natCast]
      rw [List.getElem?_eq_getElem this]; rfl))
theorem endsL_sorted (st : List (Int × Int)) (a : Int) : (endsL st a).Pairwise (· < ·) := (sorted_rchL st a).sublist List.filter_sublist
theorem endsL_sorted' (st : List (Int × Int)) (a : Int) : (endsL st a).Pairwise (· ≤ ·) := (endsL_sorted st a).imp fun h => Int.le_of_lt h
theorem endsL_len (st : List (Int × Int)) (a : Int) : (endsL st a).length ≤ 7 := Nat.le_trans (List.length_filter_le _ _) (rchL_len st a)

def bothOf (st : List (Int × Int)) : List (Int × Int) := st ++ st.map fun p => (p.2, p.1)
noncomputable def moreOf (st : List (Int × Int)) : List (Int × Int) := st ++ ((rng 7).filter fun p => !decide (endsL st p = [p])).map fun p => (p, (endsL st p).headD 0)
noncomputable def common (st : List (Int × Int)) (a b : Int) : List Int := (rchL st a).filter fun y => decide (y ∈ rchL st b)
noncomputable def nearI (st : List (Int × Int)) : List Int := (rng 7).flatMap fun p => (lowsOf st p).flatMap fun a => (lowsOf st p).flatMap fun b => if decide (common st a b = []) then [1] else []
noncomputable def nearB (st : List (Int × Int)) : Bool := decide (nearI st = [])

/-- what the law's body comes down to -/
structure LawOK (st : List (Int × Int)) : Prop where
  r : InR st
  d : Desc st
  l : st.length ≤ 9
  tab : ∀ i : Nat, i < 7 → (endsL st i).Perm (tk (tabAt (tabs st 7) i))
  cnt : ∀ i : Nat, i < 7 → cnt (tabAt (tabs st 7) i) = num st i
  ne : ∀ i : Nat, i < 7 → endsL st i ≠ []
  near : nearB st = decide ((rng 7).filter (fun p => !decide (((endsL st p).length : Int) = 1)) = [])
  meet : nearB st = true → ∀ one other : Nat, other < one → one < 7 → (!decide (common st one other = [])) = decide ((other : Int) ∈ rchL (bothOf st) one)
  more : nearB st = true → ∀ i : Nat, i < 7 → endsL (moreOf st) i = endsL st i
end
end Mine
end

-- W12b
section
open PySem PySem.Calls PySem.Spec PyProof.Rows
namespace Mine
section
variable {Z : Wo} {sc : Scope} {ρ : Nm} {s₀ : Shared} {W₀ N : List Addr} {env : Env} {s : Shared}

/-- a for loop over data that keeps all but the names -/
theorem Bs.forS {x : Str} {px pos : Pos} {iter : Expr} {body : List Stmt} {ds : List PyData} {Q : Flow → Shared → Prop} {E : Value → Shared → Prop} (ρJ : Nat → Nm) (N' : List Addr)
    (B : Bs Z s₀ W₀ N sc ρ env s) (hi : EvI Z sc ρ iter ds) (hx : sc.names.lookup x = some .local ∨ sc.names.lookup x = some .cell) (hρ : SubN (ρJ 0) ρ) (hN : ∀ b, All env b → b ∈ N') (hNs : ∀ b ∈ N', b ∈ N)
    (turn : ∀ I i d s' E', ds[i]? = some d → Bs Z s₀ W₀ (I :: N) sc ((x, .dat d) :: ρJ i) env s' → wpAny (model Z.prog Z.w) Z.A (execs body env) (fun f s'' => match f with
      | .next => Bs Z s₀ W₀ (I :: N) sc (ρJ (i + 1)) env s'' ∧ (∀ b o, b ∉ N' → s'.heap.get? b = some o → s''.heap.get? b = some o)
      | .cont => False
      | .brk => False
      | .ret v => Q (.ret v) s'') E' s')
    (hend : ∀ s', Bs Z s₀ W₀ N sc (ρJ ds.length) env s' → (∀ b o, b ∉ N' → s.heap.get? b = some o → s'.heap.get? b = some o) → Q .next s')
    (hsl : ∀ env x, foldedSetIterable iter env x = pure x := by intro _ _; rfl) : wpAny (model Z.prog Z.w) Z.A (exec (.For (.Name x px) iter body [] pos) env) Q E s := by
  refine Bs.forIn ρJ (fun I j h => s.heap.get? I = none ∧ ∀ b o, b ∉ N' → s.heap.get? b = some o → h.get? b = some o) B hi hx hρ.go (fun I s' k hI => ⟨hI, fun b o _ e => k.ext b o e⟩)
    (fun I i h h' hI m k => ⟨m.1, fun b o nb e => k b o (fun q => nb (hN b q)) (fun q => by rw [q, m.1] at e; cases e) (m.2 b o nb e)⟩) (fun I i d s' E' hI nI hd B' m => ?_) (fun I s' hI B' m => hend s' B' m.2) hsl
  refine wpAny_mono (turn I i d s' E' hd B') (fun f s'' hf => ?_) fun _ _ x => x
  cases f with
  | next => exact ⟨hf.1, ⟨m.1, fun b o nb e => hf.2 b o nb (m.2 b o nb e)⟩, fun b o nb e => hf.2 b o (fun q => nb (hNs b q)) e⟩
  | cont => exact hf.elim
  | brk => exact hf.elim
  | ret v => exact hf

theorem bis_at {xs : List Int} (hs : xs.Pairwise (· < ·)) {j : Nat} {x : Int} (h : xs[j]? = some x) : bis xs x = j := by
  obtain ⟨hj, rfl⟩ := List.getElem?_eq_some_iff.mp h
  refine bis_eq (fun k y hk e => ?_) (fun y e => ?_) (Nat.le_of_lt hj)
  · obtain ⟨hk', rfl⟩ := List.getElem?_eq_some_iff.mp e
    exact List.pairwise_iff_getElem.mp hs k j hk' hj hk
  · rw [h] at e
    rw [Option.some.inj e]
    omega
def dKd : PyData → Int
  | .tuple [_, .int e, _] => e
  | _ => 0
theorem Lw.c2 {H : Heap} (L : Lw H) : Callee H (.ref 28) := let ⟨fd, D, _⟩ := L.d2; D.D.callee
theorem Lw.c9 {H : Heap} (L : Lw H) : Callee H (.ref 63) := let ⟨fd, D, _⟩ := L.d9; D.D.callee
theorem Lw.c10 {H : Heap} (L : Lw H) : Callee H (.ref 68) := let ⟨fd, D, _⟩ := L.d10; D.D.callee
theorem Lw.c11 {H : Heap} (L : Lw H) : Callee H (.ref 73) := let ⟨fd, D, _⟩ := L.d11; D.D.callee

noncomputable abbrev lawN (st : List (Int × Int)) : Nm := [("ends", .dat (.list (lists (endsT st)))), ("tables", .dat (.list ((tabs st 7).map tabD))), ("steps", .dat (.list (prs st)))]

/-- the first loop of the law -/
theorem loop1 (L : Lw Z.H) (rm : Rm 12 Z.A) {st : List (Int × Int)} (ok : LawOK st) {px pos : Pos} {Q : Flow → Shared → Prop} {E : Value → Shared → Prop} (B : Bs Z s₀ W₀ N (scopeAt 12) (lawN st) env s)
    (h : ∀ s', Bs Z s₀ W₀ N (scopeAt 12) (lawN st) env s' → wpAny (model Z.prog Z.w) Z.A (execs ((bodyAt 12).drop 3) env) Q E s') : wpAny (model Z.prog Z.w) Z.A (execs ((bodyAt 12).drop 2) env) Q E s := by
  have rm0 := rm.le (Nat.zero_le _)
  have hst := ok.l
  refine wpAny_execs_cons (Bs.forS (x := "place") (fun _ => lawN st) N B (EvI.range L rm0 (n := 7) rfl (Ev.int _ _ _) (by omega) fun _ => rfl) (.inl rfl) ⟨rfl, rfl, rfl, trivial⟩ B.oN (fun _ h => h) (fun I i d s' E' hd B' => ?_) fun s' B' k => h s' B')
  obtain ⟨hi, rfl⟩ := rng_get hd
  have h7 : In7 (i : Int) := ⟨by omega, by omega⟩
  have el := endsL_len st i
  have es := endsL_sorted st i
  have tl : (tk (tabAt (tabs st 7) i)).length ≤ 7 := by rw [← (ok.tab i hi).length_eq]; exact el
  refine wpAny_execs_cons (B'.ifs (c := false) (EvT.as (EvT.or2 (EvT.cmp (Ev.endsAt hi rfl rfl rfl rfl rfl rfl) (Ev.call L.bsorted rfl (.bi _) (.cons (Ev.endsAt hi rfl rfl rfl rfl rfl rfl) .nil) (call_sorted rm0 (out := endsL st i) (by omega) (List.Perm.refl _) (endsL_sorted' st i))) (OpJ.ne rm0 (shaped_ints _) (shaped_ints _))) fun _ => EvT.cmp (Ev.call L.bsorted rfl (.bi _) (.cons (Ev.as (d' := .list (izs (tk (tabAt (tabs st 7) i)))) (Ev.compT (sc := scopeAt 12) (ρ := ("place", .dat (.int (i : Int))) :: lawN st) kd dKd (fun _ => rfl) (xs := tk (tabAt (tabs st 7) i)) (tb := fun e => [("word", .dat (kd e))]) (p := fun _ => true) (q := fun e => .int e) ?_ rfl (fun e he => TgJ.name (.inl rfl)) (fun e he => trivial) (fun e he => TsJ.nil) (fun e he _ => Ev.sub (Ev.name rfl) (Ev.int _ _ _) (OpJ.itemT (k := 1) (by omega) rfl)) (le_small (by omega))) ?_) .nil) (call_sorted rm0 (out := endsL st i) (by omega) (ok.tab i hi) (endsL_sorted' st i))) (Ev.endsAt hi rfl rfl rfl rfl rfl rfl) (OpJ.ne rm0 (shaped_ints _) (shaped_ints _))) ?_) (fun h => nomatch h) fun _ s₂ k₂ B₂ => wpAny_execs_nil ?_)
  · rw [show (tk (tabAt (tabs st 7) i)).map kd = (tabKV (tabAt (tabs st 7) i)).map (·.1) by simp [tk, tabKV]]
    exact EvI.dictKeys rm0 (Ev.tabAt' hi rfl rfl rfl rfl rfl rfl)
  · rw [filter_tt]
  · rw [eqv_list]; simp
  · refine wpAny_execs_cons (B₂.ifs (c := false) (EvT.as (EvT.or2 (EvT.cmp (Ev.call L.g2 rfl L.c2 (.cons (Ev.tabAt' hi rfl rfl rfl rfl rfl rfl) .nil) (call_2 (k := 11) L rm _)) (Ev.call L.g11 rfl L.c11 (.cons (Ev.name rfl) (.cons (Ev.name rfl) .nil)) (call_11 ok.r ok.d (by omega) 12 Z L rm i h7 (by omega))) (OpJ.ne rm0 (shaped_int _) (shaped_int _))) fun _ => EvT.cmp (Ev.endsAt hi rfl rfl rfl rfl rfl rfl) (Ev.list EvL.nil (Nat.zero_le _)) (OpJ.eq rm0 (shaped_ints _) (shaped_ints []))) ?_) (fun h => nomatch h) fun _ s₃ k₃ B₃ => wpAny_execs_nil ?_)
    · rw [eqv_int, ok.cnt i hi, show PyData.eqv (.list (izs (endsL st i))) (.list []) = decide (endsL st i = []) from eqv_list _ []]
      simp [ok.ne i hi]
    · refine wpAny_execs_cons (Bs.forS (x := "end") (fun _ => ("place", .dat (.int (i : Int))) :: lawN st) N B₃ (EvI.list rm0 (Ev.endsAt hi rfl rfl rfl rfl rfl rfl)) (.inl rfl) ⟨rfl, rfl, rfl, rfl, trivial⟩ B.oN (fun _ h => List.mem_cons_of_mem _ h) (fun I' j d s'' E'' hd' B'' => ?_) fun s'' B'' k => wpAny_execs_nil ⟨B''.names (SubN.go ⟨rfl, rfl, rfl, trivial⟩), fun b o nb e => k b o nb (k₃.ext b o (k₂.ext b o e))⟩)
      obtain ⟨e, he, rfl⟩ := ints_get hd'
      have hj := (List.getElem?_eq_some_iff.mp he).1
      have hb := bis_at es he
      have hmin : min (bis (endsL st i) e : Int) ((((izs (endsL st i)).length : Nat) : Int) - 1) = ((j : Nat) : Int) := by
        rw [hb, List.length_map]; omega
      have hg : (izs (endsL st i))[j]? = some (.int e) := by rw [List.getElem?_map, he]; rfl
      refine wpAny_execs_cons (B''.ifs (c := false) (EvT.as (EvT.cmp (Ev.sub (b := .int (j : Int)) (Ev.endsAt hi rfl rfl rfl rfl rfl rfl) (Ev.as (Ev.call L.bmin rfl (.bi _) (.cons (Ev.call L.g5 rfl L.c5 (.cons (Ev.endsAt hi rfl rfl rfl rfl rfl rfl) (.cons (Ev.name rfl) .nil)) (call_5 (k := 11) L rm (endsL_sorted' st i) (by omega))) (.cons (Ev.bin (Ev.call L.blen rfl (.bi _) (.cons (Ev.endsAt hi rfl rfl rfl rfl rfl rfl) .nil) (call_len rm0 (by rw [List.length_map]; omega))) (Ev.int _ _ _) OpJ.subInt) .nil)) (call_min rm0)) (congrArg PyData.int hmin)) (OpJ.item (by omega) hg)) (Ev.name rfl) (OpJ.ne rm0 (shaped_int _) (shaped_int _))) ?_) (fun h => nomatch h) fun _ s₄ k₄ B₄ => wpAny_execs_nil (wpAny_execs_nil ⟨B₄.names (SubN.go ⟨rfl, rfl, rfl, rfl, trivial⟩), fun b o nb e => k₄.ext b o e⟩))
      rw [eqv_int]; simp
end
end Mine
end

-- W12c
section
open PySem PySem.Calls PySem.Spec PyProof.Rows
namespace Mine
theorem len_flat {α β : Type} {l : List α} {g : α → List β} {k : Nat} (h : ∀ x ∈ l, (g x).length ≤ k) : (l.flatMap g).length ≤ l.length * k := by
  induction l with
  | nil => simp
  | cons x l ih =>
    have := ih fun y hy => h y (List.mem_cons_of_mem _ hy)
    have := h x List.mem_cons_self
    simp only [List.flatMap_cons, List.length_append, List.length_cons, Nat.succ_mul]
    omega
theorem flat_izs {l : List Int} {g : Int → List Int} {G : PyData → List PyData} (h : ∀ x ∈ l, G (.int x) = izs (g x)) : (izs l).flatMap G = izs (l.flatMap g) := by
  induction l with
  | nil => rfl
  | cons x l ih =>
    simp only [izs, List.map_cons, List.flatMap_cons, List.map_append] at ih ⊢
    rw [ih fun y hy => h y (List.mem_cons_of_mem _ hy), h x List.mem_cons_self]
noncomputable def nearD2 (st : List (Int × Int)) (d da : PyData) : List PyData := (izs (lowsOf st (dInt d))).flatMap fun db => if decide (common st (dInt da) (dInt db) = []) then [.int 1] else []
noncomputable def nearD1 (st : List (Int × Int)) (d : PyData) : List PyData := (izs (lowsOf st (dInt d))).flatMap fun da => if true then nearD2 st d da else []
noncomputable def nearD (st : List (Int × Int)) : List PyData := (izs (rng 7)).flatMap fun d => if true then nearD1 st d else []
theorem nearD_eq (st : List (Int × Int)) : nearD st = izs (nearI st) := by
  unfold nearD nearI
  refine flat_izs fun p _ => ?_
  rw [if_pos rfl]
  unfold nearD1
  refine flat_izs fun a _ => ?_
  rw [if_pos rfl]
  unfold nearD2
  refine flat_izs fun b _ => ?_
  show (if decide (common st a b = []) then [PyData.int 1] else []) = _
  by_cases hc : common st a b = [] <;> simp [hc]
theorem nearI_len {st : List (Int × Int)} (h : st.length ≤ 9) : (nearI st).length ≤ 567 := by
  unfold nearI
  have h1 : ∀ p a b : Int, (if decide (common st a b = []) then [(1 : Int)] else []).length ≤ 1 := fun p a b => by split <;> simp
  have hl : ∀ p, (lowsOf st p).length ≤ 9 := fun p => Nat.le_trans (lows_len st p) h
  have h2 : ∀ p a : Int, ((lowsOf st p).flatMap fun b => if decide (common st a b = []) then [(1 : Int)] else []).length ≤ 9 := fun p a => Nat.le_trans (len_flat fun b _ => h1 p a b) (by have := hl p; omega)
  have h3 : ∀ p : Int, ((lowsOf st p).flatMap fun a => (lowsOf st p).flatMap fun b => if decide (common st a b = []) then [(1 : Int)] else []).length ≤ 81 := fun p => Nat.le_trans (len_flat fun a _ => h2 p a) (by have := hl p; omega)
  refine Nat.le_trans (len_flat fun p _ => h3 p) ?_
  simp [rng]

section
variable {Z : Wo} {sc : Scope} {ρ : Nm} {s₀ : Shared} {W₀ N : List Addr} {env : Env} {s : Shared}

/-- [y for y in _law_reached(steps, a) if y in _law_reached(steps, b)] -/
theorem Ev.common (L : Lw Z.H) (rm : Rm 12 Z.A) {st : List (Int × Int)} {a b : Int} {scope : Scope} {p1 p2 p3 p4 p5 p6 p7 p8 p9 q1 q2 q3 q4 : Pos} {x an bn : Str} (hr : InR st) (ha : In7 a) (hb : In7 b) (hn : st.length ≤ 40)
    (hks : sc.names.lookup ("_law_reached" : Str) = some .globalImplicit) (hkc : scope.names.lookup ("_law_reached" : Str) = some .globalImplicit) (hx : scope.names.lookup x = some .local)
    (hs : ρ.lookup ("steps" : Str) = some (.dat (.list (prs st)))) (han : ρ.lookup an = some (.dat (.int a))) (hok : compOk scope sc ρ = true) (hfr : pick (freesOf scope) ρ = [(bn, .dat (.int b)), ("steps", .dat (.list (prs st)))]) (h1 : (bn == x) = false) (h2 : (("steps" : Str) == x) = false) (h3 : (("steps" : Str) == bn) = false)
    (d1 : (an == ("__debug__" : Str)) = false) (c1 : (an == ("__classdict__" : Str)) = false) (d2 : (bn == ("__debug__" : Str)) = false) (c2 : (bn == ("__classdict__" : Str)) = false) (d3 : (x == ("__debug__" : Str)) = false) (c3 : (x == ("__classdict__" : Str)) = false) :
    Ev Z sc ρ (.ListComp (.Name x p1) [⟨.Name x p2, .Call (.Name "_law_reached" p3) [.Name "steps" p4, .Name an p5] [] p6, [.Compare (.Name x p7) [.In] [.Call (.Name "_law_reached" p8) [.Name "steps" p9, .Name bn q1] [] q2] q3], 0⟩] scope q4) (.list (izs (Mine.common st a b))) := by
  have rm0 := rm.le (Nat.zero_le _)
  refine Ev.as (Ev.compN (ns := rchL st a) (p := fun y => decide (y ∈ rchL st b)) (q := fun y => .int y) (EvI.list rm0 (Ev.call L.g8 hks L.c8 (.cons (Ev.name hs) (.cons (Ev.name han d1 c1) .nil)) (call_8 (k := 11) L rm hr ha hn))) hok (.inl hx) (fun y => ?_) (fun y hy => TsJ.one (EvT.as (EvT.cmp (Ev.name ?_ d3 c3) (Ev.call L.g8 hkc L.c8 (.cons (Ev.name ?_) (.cons (Ev.name ?_ d2 c2) .nil)) (call_8 (k := 11) L rm hr hb hn)) (OpJ.isIn rm0 (shaped_int y) (canLay_ints _))) (any_ints _ _))) (fun y hy _ => Ev.name ?_ d3 c3) (le_small (by have := rchL_len st a; omega))) ?_
  · rw [hfr]
    exact ⟨by simp [List.lookup_cons, h1], by simp [List.lookup_cons, h2, h3], trivial⟩
  · simp [List.lookup_cons]
  · rw [hfr]; simp [List.lookup_cons, h2, h3]
  · rw [hfr]; simp [List.lookup_cons, h1]
  · simp [List.lookup_cons]
  · rfl

/-- near = .. -/
theorem near_ev (L : Lw Z.H) (rm : Rm 12 Z.A) {st : List (Int × Int)} (ok : LawOK st) {px pos : Pos} {Q : Flow → Shared → Prop} {E : Value → Shared → Prop} (B : Bs Z s₀ W₀ N (scopeAt 12) (lawN st) env s)
    (h : ∀ s', Bs Z s₀ W₀ N (scopeAt 12) (("near", .dat (.bool (nearB st))) :: lawN st) env s' → wpAny (model Z.prog Z.w) Z.A (execs ((bodyAt 12).drop 4) env) Q E s') : wpAny (model Z.prog Z.w) Z.A (execs ((bodyAt 12).drop 3) env) Q E s := by
  have rm0 := rm.le (Nat.zero_le _)
  have hst := ok.l
  have hsz : (nearD st).length ≤ sizeLine := by
    rw [nearD_eq, List.length_map]
    exact le_small (Nat.le_trans (nearI_len hst) (by decide))
  refine wpAny_execs_cons (B.assign (x := "near") (d := .bool (nearB st)) (Ev.as (Ev.cmp (Ev.as (Ev.comp (ds := izs (rng 7)) (tb := fun d => [("place", .dat d)]) (p := fun _ => true) (f := nearD1 st) (EvI.range L rm0 (n := 7) rfl (Ev.int _ _ _) (by omega) fun _ => rfl) rfl (fun _ _ => rfl) rfl (fun d hd => TgJ.name (.inr rfl)) (fun d hd => SubN.go ⟨rfl, trivial⟩) (fun d hd => TsJ.nil) (fun d hd _ => ?_) hsz) (congrArg PyData.list (nearD_eq st))) (Ev.list EvL.nil (Nat.zero_le _)) (OpJ.eq rm0 (shaped_ints _) (shaped_ints []))) ?_) (.inl rfl) rfl fun s' B' _ => h s' B')
  · obtain ⟨p, hp, rfl⟩ := List.mem_map.mp hd
    refine GenJ.step (ds := izs (lowsOf st p)) (tb := fun d => [("a", .dat d)]) (p := fun _ => true) (f := nearD2 st (.int p)) rfl rfl (fun _ _ => rfl) (EvI.list rm0 (Ev.lows rm0 (a := p) (by omega) rfl rfl rfl rfl rfl rfl rfl rfl rfl rfl rfl)) (fun d hd => TgJ.name (.inl rfl)) (fun d hd => SubN.go ⟨rfl, rfl, trivial⟩) (fun d hd => TsJ.nil) (fun da hda _ => ?_)
    obtain ⟨a, ha, rfl⟩ := List.mem_map.mp hda
    refine GenJ.step (ds := izs (lowsOf st p)) (tb := fun d => [("b", .dat d)]) (p := fun db => decide (common st a (dInt db) = [])) (f := fun _ => [.int 1]) rfl rfl (fun _ _ => rfl) (EvI.list rm0 (Ev.lows rm0 (a := p) (by omega) rfl rfl rfl rfl rfl rfl rfl rfl rfl rfl rfl)) (fun d hd => TgJ.name (.inr rfl)) (fun d hd => SubN.go ⟨rfl, rfl, rfl, trivial⟩) (fun db hdb => ?_) (fun db hdb hc => GenJ.emit rfl (Ev.int _ _ _))
    obtain ⟨b, hb, rfl⟩ := List.mem_map.mp hdb
    exact TsJ.one (EvT.as (EvT.cmp (Ev.common L rm ok.r (mem_lows7 ok.r ha) (mem_lows7 ok.r hb) (by omega) rfl rfl rfl rfl rfl rfl rfl rfl rfl rfl rfl rfl rfl rfl rfl rfl) (Ev.list EvL.nil (Nat.zero_le _)) (OpJ.eq rm0 (shaped_ints _) (shaped_ints []))) (eqv_list _ []))
  · exact congrArg PyData.bool (eqv_list (nearI st) [])
end
end Mine
end

-- W12d
section
open PySem PySem.Calls PySem.Spec PyProof.Rows
namespace Mine
theorem rng_mem {y : Int} {n : Nat} (h : y ∈ rng n) : ∃ i : Nat, i < n ∧ y = (i : Int) := by
  obtain ⟨i, hi, rfl⟩ := List.mem_map.mp h
  exact ⟨i, List.mem_range.mp hi, rfl⟩
theorem mem_endsL {st : List (Int × Int)} (hr : InR st) {a : Int} (ha : In7 a) {y : Int} (h : y ∈ endsL st a) : In7 y :=
  ((mem_rchL hr ha).mp (List.mem_filter.mp h).1).in7 hr ha
theorem bothOf_ok {st : List (Int × Int)} (hr : InR st) : InR (bothOf st) := fun p hp => by
  rcases List.mem_append.mp hp with hp | hp
  · exact hr p hp
  · obtain ⟨q, hq, rfl⟩ := List.mem_map.mp hp
    exact ⟨(hr q hq).2, (hr q hq).1⟩
theorem head_mem {st : List (Int × Int)} {y : Int} (h : endsL st y ≠ []) : (endsL st y).headD 0 ∈ endsL st y := by
  cases e : endsL st y with
  | nil => exact absurd e h
  | cons a l => simp
theorem moreOf_ok {st : List (Int × Int)} (ok : LawOK st) : InR (moreOf st) := fun p hp => by
  rcases List.mem_append.mp hp with hp | hp
  · exact ok.r p hp
  · obtain ⟨y, hy, rfl⟩ := List.mem_map.mp hp
    obtain ⟨i, hi, rfl⟩ := rng_mem (List.mem_filter.mp hy).1
    have h7 : In7 (i : Int) := ⟨by omega, by omega⟩
    exact ⟨h7, mem_endsL ok.r h7 (head_mem (ok.ne i hi))⟩
theorem moreOf_len {st : List (Int × Int)} (h : st.length ≤ 9) : (moreOf st).length ≤ 16 := by
  unfold moreOf
  rw [List.length_append, List.length_map]
  have := List.length_filter_le (fun p => !decide (endsL st p = [p])) (rng 7)
  have e : (rng 7).length = 7 := by simp [rng]
  omega
theorem filter_none {l : List Int} {p : Int → Bool} (h : ∀ x ∈ l, p x = false) : l.filter p = [] := List.filter_eq_nil_iff.mpr fun x hx => by rw [h x hx]; decide

section
variable {Z : Wo} {sc : Scope} {ρ : Nm} {s₀ : Shared} {W₀ N : List Addr} {env : Env} {s : Shared}

abbrev Fin12 (Z : Wo) (s₀ : Shared) (W₀ : List Addr) (f : Flow) (s : Shared) : Prop := Ret s₀ W₀ (.bool true) f s

theorem last_if (L : Lw Z.H) (rm : Rm 12 Z.A) {st : List (Int × Int)} (ok : LawOK st) {E : Value → Shared → Prop} (B : Bs Z s₀ W₀ N (scopeAt 12) (("near", .dat (.bool (nearB st))) :: lawN st) env s) : wpAny (model Z.prog Z.w) Z.A (execs ((bodyAt 12).drop 4) env) (Ret s₀ W₀ (.bool true)) E s := by
  have rm0 := rm.le (Nat.zero_le _)
  have hst := ok.l
  have h7 : ∀ i : Nat, i < 7 → In7 (i : Int) := fun i hi => ⟨by omega, by omega⟩
  have l7 : (rng 7).length ≤ sizeLine := le_small (by simp [rng])
  refine wpAny_execs_cons (B.ifs (c := false) (EvT.as (EvT.cmp (Ev.name rfl) (Ev.cmp (Ev.compN (p := fun y => !decide (((endsL st y).length : Int) = 1)) (q := fun y => .int y) (EvI.range L rm0 (n := 7) rfl (Ev.int _ _ _) (by omega) fun _ => rfl) rfl (.inl rfl) (fun y => ⟨rfl, trivial⟩) (fun y hy => ?_) (fun y hy _ => Ev.name rfl) l7) (Ev.list EvL.nil (Nat.zero_le _)) (OpJ.eq rm0 (shaped_ints _) (shaped_ints []))) (OpJ.ne rm0 (shaped_bool _) (shaped_bool _))) ?_) (fun h => nomatch h) fun _ s₁ k₁ B₁ => wpAny_execs_nil ?_)
  · obtain ⟨i, hi, rfl⟩ := rng_mem hy
    have el := endsL_len st i
    exact TsJ.one (EvT.as (EvT.cmp (Ev.call L.blen rfl (.bi _) (.cons (Ev.endsAt hi rfl rfl rfl rfl rfl rfl) .nil) (call_len rm0 (by rw [List.length_map]; omega))) (Ev.int _ _ _) (OpJ.ne rm0 (shaped_int _) (shaped_int _))) (by rw [eqv_int, List.length_map]))
  · rw [eqv_bool, eqv_nil, ok.near]
    generalize (rng 7).filter (fun p => !decide (((endsL st p).length : Int) = 1)) = F
    cases F <;> simp
  refine wpAny_execs_cons (B₁.ifs (EvT.bool (Ev.name rfl)) (fun hnear s₂ k₂ B₂ => ?_) fun hnear s₂ k₂ B₂ => wpAny_execs_nil (wpAny_execs_cons (B₂.ret (Ev.bool _ _ _) fun v s'' k r => ⟨v, rfl, k, r⟩)))
  have rb := bothOf_ok ok.r
  have lb : (bothOf st).length ≤ 18 := by unfold bothOf; rw [List.length_append, List.length_map]; omega
  refine wpAny_execs_cons (B₂.assign (x := "both") (d := .list (prs (bothOf st))) (Ev.as (Ev.bin (Ev.name rfl) (Ev.compP rm0 (p := fun _ => true) (q := fun p => .tuple [.int p.2, .int p.1]) (Ev.name rfl) rfl rfl rfl (fun a b => trivial) (fun p hp => TsJ.nil) (fun p hp _ => Ev.tuple (.cons (Ev.name rfl) (.cons (Ev.name rfl) .nil)) (le_small (by simp))) (le_small (by omega))) (OpJ.addList ?_)) ?_) (.inl rfl) rfl fun s₃ B₃ k₃ => ?_)
  · rw [filter_tt, List.length_map, List.length_map]; exact le_small (by omega)
  · rw [filter_tt, bothOf]
    refine congrArg PyData.list ?_
    show _ = List.map prd (st ++ _)
    rw [List.map_append, List.map_map]; rfl
  refine wpAny_execs_cons (Bs.forS (x := "one") (fun _ => ("both", .dat (.list (prs (bothOf st)))) :: lawN st) N B₃ (EvI.range L rm0 (n := 7) rfl (Ev.int _ _ _) (by omega) fun _ => rfl) (.inl rfl) ⟨rfl, rfl, rfl, rfl, trivial⟩ B.oN (fun _ h => h) (fun I i d s' E' hd B' => ?_) fun s₄ B₄ k₄ => ?_)
  · obtain ⟨hi, rfl⟩ := rng_get hd
    refine wpAny_execs_cons (Bs.forS (x := "other") (fun _ => ("one", .dat (.int (i : Int))) :: ("both", .dat (.list (prs (bothOf st)))) :: lawN st) N B' (EvI.range L rm0 (n := i) rfl (Ev.name rfl) (by omega) fun _ => rfl) (.inr rfl) ⟨rfl, rfl, rfl, rfl, rfl, trivial⟩ B.oN (fun _ h => List.mem_cons_of_mem _ h) (fun I' j d s'' E'' hd' B'' => ?_) fun s'' B'' k'' => wpAny_execs_nil ⟨B''.names (SubN.go ⟨rfl, rfl, rfl, rfl, trivial⟩), k''⟩)
    obtain ⟨hj, rfl⟩ := rng_get hd'
    refine wpAny_execs_cons (B''.assign (x := "meet") (d := .bool (!decide (common st i j = []))) (Ev.as (Ev.cmp (Ev.common L rm ok.r (h7 i hi) (h7 j (by omega)) (by omega) rfl rfl rfl rfl rfl rfl rfl rfl rfl rfl rfl rfl rfl rfl rfl rfl) (Ev.list EvL.nil (Nat.zero_le _)) (OpJ.ne rm0 (shaped_ints _) (shaped_ints []))) (congrArg (fun b => PyData.bool (!b)) (eqv_list _ []))) (.inl rfl) rfl fun s₅ B₅ k₅ => ?_)
    refine wpAny_execs_cons (B₅.ifs (c := false) (EvT.as (EvT.cmp (Ev.name rfl) (Ev.cmp (Ev.name rfl) (Ev.call L.g8 rfl L.c8 (.cons (Ev.name rfl) (.cons (Ev.name rfl) .nil)) (call_8 (k := 11) L rm rb (h7 i hi) (by omega))) (OpJ.isIn rm0 (shaped_int _) (canLay_ints _))) (OpJ.ne rm0 (shaped_bool _) (shaped_bool _))) ?_) (fun h => nomatch h) fun _ s₆ k₆ B₆ => wpAny_execs_nil (wpAny_execs_nil ⟨B₆.names (SubN.go ⟨rfl, rfl, rfl, rfl, rfl, trivial⟩), fun b o nb e => k₆.ext b o (k₅ b o (fun q => nb (B.oN b q)) e)⟩))
    rw [eqv_bool, any_ints, ok.meet hnear i j hj hi]
    simp
  have rmo := moreOf_ok ok
  have lm := moreOf_len hst
  refine wpAny_execs_cons (B₄.assign (x := "more") (d := .list (prs (moreOf st))) (Ev.as (Ev.bin (Ev.name rfl) (Ev.compN (p := fun y => !decide (endsL st y = [y])) (q := fun y => .tuple [.int y, .int ((endsL st y).headD 0)]) (EvI.range L rm0 (n := 7) rfl (Ev.int _ _ _) (by omega) fun _ => rfl) rfl (.inl rfl) (fun y => ⟨rfl, trivial⟩) (fun y hy => ?_) (fun y hy _ => ?_) l7) (OpJ.addList ?_)) ?_) (.inr rfl) rfl fun s₅ B₅ k₅ => ?_)
  · obtain ⟨i, hi, rfl⟩ := rng_mem hy
    exact TsJ.one (EvT.as (EvT.cmp (Ev.endsAt hi rfl rfl rfl rfl rfl rfl) (Ev.list (.cons (Ev.name rfl) .nil) (le_small (by simp))) (OpJ.ne rm0 (shaped_ints _) (shaped_ints [(i : Int)]))) (congrArg (!·) (eqv_list _ [(i : Int)])))
  · obtain ⟨i, hi, rfl⟩ := rng_mem hy
    refine Ev.tuple (.cons (Ev.name rfl) (.cons (Ev.sub (Ev.endsAt hi rfl rfl rfl rfl rfl rfl) (Ev.int 0 _ _) (OpJ.item (k := 0) (by omega) ?_)) .nil)) (le_small (by simp))
    cases e : endsL st i with
    | nil => exact absurd e (ok.ne i hi)
    | cons a l => rfl
  · rw [List.length_map, List.length_map]
    have := moreOf_len hst
    unfold moreOf at this
    rw [List.length_append, List.length_map] at this
    exact le_small (by omega)
  · refine congrArg PyData.list ?_
    show _ = List.map prd (st ++ _)
    rw [List.map_append, List.map_map]; rfl
  refine wpAny_execs_cons (B₅.ifs (c := false) (EvT.as (EvT.cmp (Ev.compN (p := fun y => !decide (endsL (moreOf st) y = endsL st y)) (q := fun y => .int y) (EvI.range L rm0 (n := 7) rfl (Ev.int _ _ _) (by omega) fun _ => rfl) rfl (.inl rfl) (fun y => ⟨rfl, rfl, trivial⟩) (fun y hy => ?_) (fun y hy _ => Ev.name rfl) l7) (Ev.list EvL.nil (Nat.zero_le _)) (OpJ.ne rm0 (shaped_ints _) (shaped_ints []))) ?_) (fun h => nomatch h) fun _ s₆ k₆ B₆ => wpAny_execs_nil (wpAny_execs_nil (wpAny_execs_cons (B₆.ret (Ev.bool _ _ _) fun v s'' k r => ⟨v, rfl, k, r⟩))))
  · obtain ⟨i, hi, rfl⟩ := rng_mem hy
    exact TsJ.one (EvT.as (EvT.cmp (Ev.call L.g9 rfl L.c9 (.cons (Ev.name rfl) (.cons (Ev.name rfl) .nil)) (call_9 (k := 9) L rm rmo (h7 i hi) (by omega))) (Ev.endsAt hi rfl rfl rfl rfl rfl rfl) (OpJ.ne rm0 (shaped_ints _) (shaped_ints _))) (congrArg (!·) (eqv_list _ _)))
  · rw [filter_none fun y hy => ?_]
    · rfl
    · obtain ⟨i, hi, rfl⟩ := rng_mem hy
      simp [ok.more hnear i hi]
end
end Mine
end

-- W12
section
open PySem PySem.Calls PySem.Spec PyProof.Rows
namespace Mine
theorem swapped_cell {x y : Str} {p1 p2 tp vp : Pos} {k k2 : Nat} {a b : Expr} {env : Env} (hx : env.kindOf x = some .cell) : swappedStores [.Tuple [.Name x p1, .Name y p2] k tp] (.Tuple [a, b] k2 vp) env = pure none := by
  have key : ∀ f : Expr → Option Str, f (.Name x p1) = none → ([Expr.Name x p1, Expr.Name y p2].filterMap f).length ≠ [Expr.Name x p1, Expr.Name y p2].length := fun f h1 => by
    simp only [List.filterMap_cons, h1]
    split <;> simp
  unfold swappedStores
  dsimp only
  split
  · rfl
  split
  · rfl
  split
  · rfl
  · rename_i h
    exfalso
    apply h
    rw [Bool.or_eq_true]
    exact .inl (bne_iff_ne.mpr (key _ (by simp [hx])))

section
variable {Z : Wo} {sc : Scope} {ρ : Nm} {s₀ : Shared} {W₀ N : List Addr} {env : Env} {s : Shared}
theorem body_12 (L : Lw Z.H) (rm : Rm 12 Z.A) {ns : List Int} (hn : ns.length ≤ 63) (ok : LawOK (stepsOf (ns.take 9))) : Body Z 12 [("script", .dat (.list (izs ns)))] (.bool true) := fun env N W s₀ s E B => by
  have rm0 := rm.le (Nat.zero_le _)
  have hst := ok.l
  refine wpAny_execs_cons (B.assign (x := "steps") (Ev.call L.g7 rfl L.c7 (.cons (Ev.as (Ev.upTo (n := 9) (Ev.name rfl) (le_small (by rw [List.length_map]; omega)) (by omega)) (d' := .list (izs (ns.take 9))) (by rw [← List.map_take])) .nil) (call_7 (k := 11) L rm (by rw [List.length_take]; omega))) (.inr rfl) rfl fun s₁ B₁ k₁ => ?_)
  generalize stepsOf (ns.take 9) = st at *
  refine wpAny_execs_cons (B₁.pairN (x := "ends") (y := "tables") (a := .list (lists (endsT st))) (b := .list ((tabs st 7).map tabD)) rm0 (Ev.tuple (.cons (Ev.as (Ev.compN (p := fun _ => true) (q := fun y => .list (izs (endsL st y))) (EvI.range L rm0 (n := 7) rfl (Ev.int _ _ _) (by omega) fun _ => rfl) rfl (.inl rfl) (fun y => ⟨rfl, trivial⟩) (fun y hy => TsJ.nil) (fun y hy _ => ?_) (le_small (by simp [rng]))) ?_) (.cons (Ev.call L.g10 rfl L.c10 (.cons (Ev.name rfl) .nil) (call_10 (k := 10) L rm ok.r ok.d (by omega))) .nil)) (le_small (by simp))) (.inr rfl) (.inl rfl) (fun s₂ B₂ k₂ => ?_) rfl (swapped_cell (kindOf_cell B₁.F rfl)))
  · obtain ⟨i, hi, rfl⟩ := rng_mem hy
    exact Ev.call L.g9 rfl L.c9 (.cons (Ev.name rfl) (.cons (Ev.name rfl) .nil)) (call_9 (k := 9) L rm ok.r ⟨by omega, by omega⟩ (by omega))
  · rw [filter_tt]
    unfold lists endsT
    rw [List.map_map]; rfl
  · refine loop1 (Z := Z) (px := ⟨0, 0, 0, 0⟩) (pos := ⟨0, 0, 0, 0⟩) L rm ok (B₂.names (SubN.go ⟨rfl, rfl, rfl, trivial⟩)) fun s₃ B₃ => ?_
    exact near_ev (Z := Z) (px := ⟨0, 0, 0, 0⟩) (pos := ⟨0, 0, 0, 0⟩) L rm ok B₃ fun s₄ B₄ => last_if L rm ok B₄
end
end Mine
end

-- Pl
section
open PySem PySem.Calls PySem.Spec PyProof.Rows
namespace Mine

theorem fmod7 (n : Int) : In7 (n.fmod 7) := by
  rw [Int.fmod_eq_emod_of_nonneg _ (by decide)]
  exact ⟨Int.emod_nonneg _ (by decide), Int.emod_lt_of_pos _ (by decide)⟩
theorem stepAdd_ok {fs : List (Int × Int)} {n : Int} (h : InR fs ∧ Desc fs) : InR (stepAdd fs n) ∧ Desc (stepAdd fs n) := by
  unfold stepAdd
  split
  · rename_i hc
    have h1 := fmod7 n
    have h2 := fmod7 (n.fdiv 7)
    refine ⟨fun p hp => ?_, fun p hp => ?_⟩
    · rcases List.mem_append.mp hp with hp | hp
      · exact h.1 p hp
      · rw [List.mem_singleton.mp hp]
        unfold ordp In7 at *
        dsimp only
        omega
    · rcases List.mem_append.mp hp with hp | hp
      · exact h.2 p hp
      · rw [List.mem_singleton.mp hp]
        have := hc.1
        unfold ordp
        dsimp only
        omega
  · exact h
theorem stepsOf_ok (ns : List Int) : InR (stepsOf ns) ∧ Desc (stepsOf ns) := by
  unfold stepsOf
  have : ∀ (ns : List Int) (fs : List (Int × Int)), InR fs ∧ Desc fs → InR (ns.foldl stepAdd fs) ∧ Desc (ns.foldl stepAdd fs) := fun ns => by
    induction ns with
    | nil => exact fun fs h => h
    | cons n r ih => exact fun fs h => ih _ (stepAdd_ok h)
  exact this ns [] ⟨fun p h => (nomatch h), fun p h => (nomatch h)⟩

section
variable {st : List (Int × Int)}
theorem Rch.trans {a b c : Int} (h : Rch st a b) (h' : Rch st b c) : Rch st a c := by
  induction h' with
  | refl => exact h
  | step _ e ih => exact .step ih e
theorem Rch.head {a b c : Int} (h : (a, b) ∈ st) (h' : Rch st b c) : Rch st a c := Rch.trans (.step (.refl a) h) h'
theorem Rch.cases {a c : Int} (h : Rch st a c) : a = c ∨ ∃ b, (a, b) ∈ st ∧ Rch st b c := by
  induction h with
  | refl => exact .inl rfl
  | step h e ih =>
    rename_i b c
    rcases ih with rfl | ⟨d, h1, h2⟩
    · exact .inr ⟨c, e, .refl c⟩
    · exact .inr ⟨d, h1, .step h2 e⟩
theorem Rch.mono {st' : List (Int × Int)} (hs : ∀ p ∈ st, p ∈ st') {a b : Int} (h : Rch st a b) : Rch st' a b := by
  induction h with
  | refl => exact .refl _
  | step _ e ih => exact .step ih (hs _ e)
theorem isEnd_iff {a : Int} : isEnd st a = true ↔ ∀ b, (a, b) ∉ st := by
  unfold isEnd
  rw [decide_eq_true_eq]
  constructor
  · intro h b hb
    have := mem_lows.mpr hb
    rw [h] at this; cases this
  · intro h
    cases e : lowsOf st a with
    | nil => rfl
    | cons y l => exact absurd (mem_lows.mp (by rw [e]; exact List.mem_cons_self)) (h y)
theorem mem_ends (hr : InR st) {a : Int} (ha : In7 a) {y : Int} : y ∈ endsL st a ↔ Rch st a y ∧ isEnd st y = true := by
  unfold endsL
  rw [List.mem_filter, mem_rchL hr ha]
theorem ends_of_end (hr : InR st) {a : Int} (ha : In7 a) (he : isEnd st a = true) {y : Int} : y ∈ endsL st a ↔ y = a := by
  rw [mem_ends hr ha]
  constructor
  · rintro ⟨h, _⟩
    rcases h.cases with rfl | ⟨b, hb, _⟩
    · rfl
    · exact absurd hb (isEnd_iff.mp he b)
  · rintro rfl
    exact ⟨.refl _, he⟩
theorem ends_of_step (hr : InR st) {a : Int} (ha : In7 a) (he : isEnd st a = false) {y : Int} : y ∈ endsL st a ↔ ∃ b, (a, b) ∈ st ∧ y ∈ endsL st b := by
  rw [mem_ends hr ha]
  constructor
  · rintro ⟨h, h2⟩
    rcases h.cases with rfl | ⟨b, hb, h3⟩
    · rw [he] at h2; cases h2
    · exact ⟨b, hb, (mem_ends hr (hr _ hb).2).mpr ⟨h3, h2⟩⟩
  · rintro ⟨b, hb, hy⟩
    obtain ⟨h3, h4⟩ := (mem_ends hr (hr _ hb).2).mp hy
    exact ⟨.head hb h3, h4⟩

/-- by the height of a place -/
theorem by_height {P : Int → Prop} (hr : InR st) (hd : Desc st) (step : ∀ a, In7 a → (∀ b, (a, b) ∈ st → P b) → P a) : ∀ a, In7 a → P a := by
  have : ∀ (n : Nat) (a : Int), In7 a → a < n → P a := fun n => by
    induction n with
    | zero => intro a h h1; have := h.1; omega
    | succ n ih =>
      intro a h h1
      exact step a h fun b hb => ih b (hr _ hb).2 (by have := hd _ hb; dsimp at this; omega)
  exact fun a h => this 7 a h h.2

theorem ends_ne (hr : InR st) (hd : Desc st) : ∀ a, In7 a → endsL st a ≠ [] := by
  refine by_height hr hd fun a ha ih => ?_
  cases he : isEnd st a with
  | true => exact List.ne_nil_of_mem ((ends_of_end hr ha he).mpr rfl)
  | false =>
    have : ∃ b, (a, b) ∈ st := Classical.byContradiction fun hn => by
      have := isEnd_iff.mpr fun b hb => hn ⟨b, hb⟩
      rw [this] at he; cases he
    obtain ⟨b, hb⟩ := this
    obtain ⟨y, hy⟩ := List.exists_mem_of_ne_nil _ (ih b hb)
    exact List.ne_nil_of_mem ((ends_of_step hr ha he).mpr ⟨b, hb, hy⟩)
end
section
variable {st : List (Int × Int)}
/-- Newman -/
theorem newman (hr : InR st) (hd : Desc st) (lc : ∀ p a b, In7 p → (p, a) ∈ st → (p, b) ∈ st → ∃ c, Rch st a c ∧ Rch st b c) : ∀ a, In7 a → ∀ x y, x ∈ endsL st a → y ∈ endsL st a → x = y := by
  refine by_height hr hd fun a ha ih x y hx hy => ?_
  cases he : isEnd st a with
  | true => rw [(ends_of_end hr ha he).mp hx, (ends_of_end hr ha he).mp hy]
  | false =>
    obtain ⟨b, hb, hxb⟩ := (ends_of_step hr ha he).mp hx
    obtain ⟨c, hc, hyc⟩ := (ends_of_step hr ha he).mp hy
    obtain ⟨d, hbd, hcd⟩ := lc a b c ha hb hc
    have h7b := (hr _ hb).2
    have h7d := hbd.in7 hr h7b
    obtain ⟨z, hz⟩ := List.exists_mem_of_ne_nil _ (ends_ne hr hd d h7d)
    obtain ⟨hz1, hz2⟩ := (mem_ends hr h7d).mp hz
    have e1 := ih b hb x z hxb ((mem_ends hr h7b).mpr ⟨hbd.trans hz1, hz2⟩)
    have e2 := ih c hc y z hyc ((mem_ends hr (hr _ hc).2).mpr ⟨hcd.trans hz1, hz2⟩)
    rw [e1, e2]
theorem mem_common (hr : InR st) {a b y : Int} (ha : In7 a) (hb : In7 b) : y ∈ common st a b ↔ Rch st a y ∧ Rch st b y := by
  unfold common
  rw [List.mem_filter, mem_rchL hr ha, decide_eq_true_eq, mem_rchL hr hb]
theorem mem_rng {i : Int} : i ∈ rng 7 ↔ In7 i := by
  constructor
  · intro h
    obtain ⟨j, hj, rfl⟩ := List.mem_map.mp h
    have := List.mem_range.mp hj
    exact ⟨by simp, by simp; omega⟩
  · rintro ⟨h1, h2⟩
    exact List.mem_map.mpr ⟨i.toNat, List.mem_range.mpr (by omega), by simp; omega⟩
theorem nearB_iff (hr : InR st) : nearB st = true ↔ ∀ p a b, In7 p → (p, a) ∈ st → (p, b) ∈ st → ∃ c, Rch st a c ∧ Rch st b c := by
  unfold nearB nearI
  rw [decide_eq_true_eq]
  simp only [List.flatMap_eq_nil_iff]
  constructor
  · intro h p a b hp ha hb
    have := h p (mem_rng.mpr hp) a (mem_lows.mpr ha) b (mem_lows.mpr hb)
    by_cases hc : common st a b = []
    · simp [hc] at this
    · obtain ⟨c, hc⟩ := List.exists_mem_of_ne_nil _ hc
      exact ⟨c, (mem_common hr (hr _ ha).2 (hr _ hb).2).mp hc⟩
  · intro h p hp a ha b hb
    obtain ⟨c, h1, h2⟩ := h p a b (mem_rng.mp hp) (mem_lows.mp ha) (mem_lows.mp hb)
    have hm : c ∈ common st a b := (mem_common hr (mem_lows7 hr ha) (mem_lows7 hr hb)).mpr ⟨h1, h2⟩
    have hn : common st a b ≠ [] := List.ne_nil_of_mem hm
    simp [hn]
theorem len_one {l : List Int} (hn : l ≠ []) (hs : l.Pairwise (· < ·)) : l.length = 1 ↔ ∀ x y, x ∈ l → y ∈ l → x = y := by
  cases l with
  | nil => exact absurd rfl hn
  | cons a l =>
    cases l with
    | nil => simp
    | cons b l =>
      have h1 : a < b := (List.pairwise_cons.mp hs).1 b List.mem_cons_self
      constructor
      · intro h; simp at h
      · intro h
        have := h a b List.mem_cons_self (List.mem_cons_of_mem _ List.mem_cons_self)
        omega
theorem uniq_iff (hr : InR st) (hd : Desc st) : nearB st = true ↔ ∀ a, In7 a → ∀ x y, x ∈ endsL st a → y ∈ endsL st a → x = y := by
  rw [nearB_iff hr]
  constructor
  · exact newman hr hd
  · intro h p a b hp ha hb
    have h7a := (hr _ ha).2
    have h7b := (hr _ hb).2
    have he : isEnd st p = false := by
      cases e : isEnd st p with
      | true => exact absurd ha (isEnd_iff.mp e a)
      | false => rfl
    obtain ⟨x, hx⟩ := List.exists_mem_of_ne_nil _ (ends_ne hr hd a h7a)
    obtain ⟨y, hy⟩ := List.exists_mem_of_ne_nil _ (ends_ne hr hd b h7b)
    have := h p hp x y ((ends_of_step hr hp he).mpr ⟨a, ha, hx⟩) ((ends_of_step hr hp he).mpr ⟨b, hb, hy⟩)
    subst this
    exact ⟨x, ((mem_ends hr h7a).mp hx).1, ((mem_ends hr h7b).mp hy).1⟩
theorem near_law (hr : InR st) (hd : Desc st) : nearB st = decide ((rng 7).filter (fun p => !decide (((endsL st p).length : Int) = 1)) = []) := by
  apply Bool.eq_iff_iff.mpr
  rw [uniq_iff hr hd, decide_eq_true_eq, List.filter_eq_nil_iff]
  have key : ∀ a, In7 a → (((endsL st a).length : Int) = 1 ↔ ∀ x y, x ∈ endsL st a → y ∈ endsL st a → x = y) := fun a ha => by
    rw [← len_one (ends_ne hr hd a ha) (endsL_sorted st a)]
    omega
  constructor
  · intro h a ha
    simp [(key a (mem_rng.mp ha)).mpr (h a (mem_rng.mp ha))]
  · intro h a ha
    have := h a (mem_rng.mpr ha)
    simp at this
    exact (key a ha).mp this

/-- Church and Rosser -/
theorem meet_law (hr : InR st) (hd : Desc st) (hn : nearB st = true) {a b : Int} (ha : In7 a) (hb : In7 b) : (!decide (common st a b = [])) = decide (b ∈ rchL (bothOf st) a) := by
  have hu := (uniq_iff hr hd).mp hn
  have hrb : InR (bothOf st) := fun p hp => by
    rcases List.mem_append.mp hp with hp | hp
    · exact hr p hp
    · obtain ⟨q, hq, rfl⟩ := List.mem_map.mp hp
      exact ⟨(hr q hq).2, (hr q hq).1⟩
  have fw : ∀ {x y : Int}, Rch st x y → Rch (bothOf st) x y := fun h => h.mono fun p hp => List.mem_append_left _ hp
  have bw : ∀ {x y : Int}, Rch st x y → Rch (bothOf st) y x := fun h => by
    induction h with
    | refl => exact .refl _
    | step _ e ih => exact .head (List.mem_append_right _ (List.mem_map.mpr ⟨_, e, rfl⟩)) ih
  apply Bool.eq_iff_iff.mpr
  rw [Bool.not_eq_true', decide_eq_false_iff_not, decide_eq_true_eq, mem_rchL hrb ha]
  constructor
  · intro h
    obtain ⟨c, hc⟩ := List.exists_mem_of_ne_nil _ h
    obtain ⟨h1, h2⟩ := (mem_common hr ha hb).mp hc
    exact (fw h1).trans (bw h2)
  · intro h
    -- the end of every place on the way is the same
    have key : ∀ {y : Int}, Rch (bothOf st) a y → In7 y ∧ ∀ z, z ∈ endsL st y ↔ z ∈ endsL st a := fun h => by
      induction h with
      | refl => exact ⟨ha, fun z => Iff.rfl⟩
      | step h e ih =>
        rename_i y w
        obtain ⟨h7, ih⟩ := ih
        have down : ∀ {p q : Int}, In7 p → (p, q) ∈ st → ∀ z, z ∈ endsL st q ↔ z ∈ endsL st p := fun {p q} hp hpq z => by
          have hq := (hr _ hpq).2
          have sub : ∀ z, z ∈ endsL st q → z ∈ endsL st p := fun z hz => by
            obtain ⟨h1, h2⟩ := (mem_ends hr hq).mp hz
            exact (mem_ends hr hp).mpr ⟨.head hpq h1, h2⟩
          refine ⟨sub z, fun hz => ?_⟩
          obtain ⟨x, hx⟩ := List.exists_mem_of_ne_nil _ (ends_ne hr hd q hq)
          rw [hu p hp z x hz (sub x hx)]; exact hx
        rcases List.mem_append.mp e with e | e
        · exact ⟨(hr _ e).2, fun z => (down h7 e z).trans (ih z)⟩
        · obtain ⟨q, hq, hqe⟩ := List.mem_map.mp e
          obtain ⟨q1, q2⟩ := q
          injection hqe with e1 e2
          subst e1 e2
          have h7w := (hr _ hq).1
          exact ⟨h7w, fun z => ((down h7w hq z).symm).trans (ih z)⟩
    obtain ⟨x, hx⟩ := List.exists_mem_of_ne_nil _ (ends_ne hr hd b hb)
    have hx' := ((key h).2 x).mp hx
    exact List.ne_nil_of_mem ((mem_common hr ha hb).mpr ⟨((mem_ends hr ha).mp hx').1, ((mem_ends hr hb).mp hx).1⟩)

theorem more_law (hr : InR st) (hd : Desc st) (hn : nearB st = true) {a : Int} (ha : In7 a) : endsL (moreOf st) a = endsL st a := by
  have he7 : ∀ y, In7 y → (endsL st y).headD 0 ∈ endsL st y := fun y hy => by
    cases e : endsL st y with
    | nil => exact absurd e (ends_ne hr hd y hy)
    | cons a l => simp
  have mem_more : ∀ {p q : Int}, (p, q) ∈ moreOf st ↔ (p, q) ∈ st ∨ (In7 p ∧ endsL st p ≠ [p] ∧ q = (endsL st p).headD 0) := fun {p q} => by
    unfold moreOf
    rw [List.mem_append]
    refine or_congr Iff.rfl ?_
    constructor
    · intro h
      obtain ⟨y, hy, e⟩ := List.mem_map.mp h
      obtain ⟨h1, h2⟩ := List.mem_filter.mp hy
      injection e with e1 e2
      subst e1 e2
      exact ⟨mem_rng.mp h1, by simpa using h2, rfl⟩
    · rintro ⟨h1, h2, rfl⟩
      exact List.mem_map.mpr ⟨p, List.mem_filter.mpr ⟨mem_rng.mpr h1, by simpa using h2⟩, rfl⟩
  have hrm : InR (moreOf st) := fun p hp => by
    obtain ⟨p1, p2⟩ := p
    rcases mem_more.mp hp with h | ⟨h1, _, rfl⟩
    · exact hr _ h
    · exact ⟨h1, ((mem_ends hr h1).mp (he7 p1 h1)).1.in7 hr h1⟩
  have rch : ∀ {y : Int}, Rch (moreOf st) a y ↔ Rch st a y := fun {y} => by
    constructor
    · intro h
      induction h with
      | refl => exact .refl _
      | step h e ih =>
        rcases mem_more.mp e with e | ⟨h1, _, rfl⟩
        · exact .step ih e
        · exact ih.trans ((mem_ends hr h1).mp (he7 _ h1)).1
    · exact fun h => h.mono fun p hp => List.mem_append_left _ hp
  have hend : ∀ y, In7 y → isEnd (moreOf st) y = isEnd st y := fun y hy => by
    apply Bool.eq_iff_iff.mpr
    rw [isEnd_iff, isEnd_iff]
    constructor
    · exact fun h b hb => h b (mem_more.mpr (.inl hb))
    · intro h b hb
      rcases mem_more.mp hb with hb | ⟨_, h2, _⟩
      · exact h b hb
      · apply h2
        have he := isEnd_iff.mpr h
        have hm := fun z => ends_of_end hr hy he (y := z)
        have hs := endsL_sorted st y
        cases e : endsL st y with
        | nil => exact absurd e (ends_ne hr hd y hy)
        | cons x l =>
          rw [e] at hs
          have hx : x = y := (hm x).mp (by rw [e]; exact List.mem_cons_self)
          cases l with
          | nil => rw [hx]
          | cons z l =>
            have hz : z = y := (hm z).mp (by rw [e]; exact List.mem_cons_of_mem _ List.mem_cons_self)
            have := (List.pairwise_cons.mp hs).1 z List.mem_cons_self
            omega
  refine sorted_unique ?_ (endsL_sorted' _ _) (endsL_sorted' _ _)
  refine (List.perm_ext_iff_of_nodup ((endsL_sorted _ _).imp fun h => Int.ne_of_lt h) ((endsL_sorted _ _).imp fun h => Int.ne_of_lt h)).mpr fun y => ?_
  rw [mem_ends hrm ha, mem_ends hr ha, rch]
  constructor
  · rintro ⟨h1, h2⟩
    exact ⟨h1, by rw [← hend y (h1.in7 hr ha)]; exact h2⟩
  · rintro ⟨h1, h2⟩
    exact ⟨h1, by rw [hend y (h1.in7 hr ha)]; exact h2⟩

/-- the tables -/
theorem tabs_get : ∀ (n i : Nat), i < n → (tabs st n)[i]? = some (mkTab st (tabs st i) i)
  | 0, i, h => by omega
  | n + 1, i, h => by
    show (tabs st n ++ [mkTab st (tabs st n) n])[i]? = _
    by_cases hi : i < n
    · rw [List.getElem?_append_left (by rw [tabs_len]; exact hi)]
      exact tabs_get n i hi
    · obtain rfl : i = n := by omega
      rw [List.getElem?_append_right (by rw [tabs_len]; exact Nat.le_refl _), tabs_len]
      simp
theorem tabAt_tabs {n : Nat} {y : Int} (h0 : 0 ≤ y) (h : y < n) : tabAt (tabs st n) y = mkTab st (tabs st y.toNat) y := by
  unfold tabAt
  rw [List.getD_eq_getElem?_getD, tabs_get n y.toNat (by omega)]
  simp only [Option.getD_some]
  rw [Int.toNat_of_nonneg h0]
theorem fold_ok {Ts : List (List (Int × Int))} (h : ∀ T ∈ Ts, TabOK T) : ∀ (ys : List Int) (T : List (Int × Int)), TabOK T →
    cnt (ys.foldl (fun T y => tmerge T (tabAt Ts y)) T) = cnt T + (ys.map fun y => cnt (tabAt Ts y)).sum ∧ ∀ x, x ∈ tk (ys.foldl (fun T y => tmerge T (tabAt Ts y)) T) ↔ x ∈ tk T ∨ ∃ y ∈ ys, x ∈ tk (tabAt Ts y)
  | [], T, hT => by simp
  | y :: ys, T, hT => by
    obtain ⟨a, b, c⟩ := tmerge_ok (tabAt Ts y) hT.1
    obtain ⟨h1, h2⟩ := fold_ok h ys (tmerge T (tabAt Ts y)) (hT.merge (tabAt_ok h y))
    refine ⟨?_, fun x => ?_⟩
    · rw [List.foldl_cons, h1, b, List.map_cons, List.sum_cons]; omega
    · rw [List.foldl_cons, h2, c]
      simp [or_assoc]
theorem tab_law (hr : InR st) (hd : Desc st) : ∀ a, In7 a → TabOK (tabAt (tabs st 7) a) ∧ cnt (tabAt (tabs st 7) a) = num st a ∧ ∀ x, x ∈ tk (tabAt (tabs st 7) a) ↔ x ∈ endsL st a := by
  refine by_height hr hd fun a ha ih => ?_
  have hok := tabAt_ok (tabs_ok st 7 (by omega)) a
  refine ⟨hok, ?_⟩
  have e0 := tabAt_tabs (st := st) (n := 7) ha.1 ha.2
  have oks := tabs_ok st a.toNat (by have := ha.2; omega)
  obtain ⟨h1, h2⟩ := fold_ok oks (lowsOf st a) (tab0 st a) (tab0_ok ha)
  have low : ∀ y ∈ lowsOf st a, tabAt (tabs st a.toNat) y = tabAt (tabs st 7) y := fun y hy => by
    have h7 := mem_lows7 hr hy
    have hlt := hd _ (mem_lows.mp hy)
    dsimp at hlt
    rw [tabAt_tabs h7.1 (by omega), tabAt_tabs (n := 7) h7.1 h7.2]
  rw [e0]
  unfold mkTab
  refine ⟨?_, fun x => ?_⟩
  · rw [h1, num_eq hr hd ha]
    by_cases hl : lowsOf st a = []
    · rw [if_pos hl, hl]; simp [tab0, hl, cnt]
    · rw [if_neg hl]
      have : (lowsOf st a).map (fun y => cnt (tabAt (tabs st a.toNat) y)) = (lowsOf st a).map (num st) := List.map_congr_left fun y hy => by
        rw [low y hy]; exact (ih y (mem_lows.mp hy)).2.1
      rw [this]
      simp [tab0, hl, cnt]
  · rw [h2]
    cases he : isEnd st a with
    | true =>
      have hl : lowsOf st a = [] := of_decide_eq_true he
      rw [ends_of_end hr ha he, hl]
      simp [tab0, hl, tk]
    | false =>
      have hl : lowsOf st a ≠ [] := of_decide_eq_false he
      rw [ends_of_step hr ha he]
      constructor
      · rintro (h | ⟨y, hy, h⟩)
        · simp [tab0, hl, tk] at h
        · rw [low y hy] at h
          exact ⟨y, mem_lows.mp hy, ((ih y (mem_lows.mp hy)).2.2 x).mp h⟩
      · rintro ⟨y, hy, h⟩
        exact .inr ⟨y, mem_lows.mpr hy, by rw [low y (mem_lows.mpr hy)]; exact ((ih y hy).2.2 x).mpr h⟩

theorem law_all (ns : List Int) : LawOK (stepsOf (ns.take 9)) := by
  obtain ⟨hr, hd⟩ := stepsOf_ok (ns.take 9)
  have h7 : ∀ i : Nat, i < 7 → In7 (i : Int) := fun i hi => ⟨by omega, by omega⟩
  refine ⟨hr, hd, ?_, fun i hi => ?_, fun i hi => (tab_law hr hd i (h7 i hi)).2.1, fun i hi => ends_ne hr hd i (h7 i hi), near_law hr hd, fun hn one other ho h1 => meet_law hr hd hn (h7 one h1) (h7 other (by omega)), fun hn i hi => more_law hr hd hn (h7 i hi)⟩
  · have := steps_len (ns.take 9)
    rw [List.length_take] at this
    omega
  · obtain ⟨h1, _, h3⟩ := tab_law hr hd i (h7 i hi)
    exact perm_of (ks := []) (endsL_sorted _ _) h1.1 fun k => (h3 k).symm
end
end Mine
end

-- Hx
section
open PySem PySem.Calls PySem.Spec PyProof.Rows
namespace Mine
theorem ns_val {h : Heap} {a : Addr} {m : Str → Option Value} {es : Array DictEntry} {n : Nat} {c : Value} (hn : h.Ns a m) (ho : h.get? a = some { cls := c, data := .dict es n }) {x : Str} {v : Option Value} (hf : nsFind es x = v) : m x = v := by
  obtain ⟨o, es', ep, e, r, _, f⟩ := hn
  rw [ho] at e
  obtain rfl := Option.some.inj e
  simp only [Data.dict.injEq] at r
  rw [← f x, ← r.1]; exact hf
section
variable {P : Params} {H : Heap} {mg mb : Str → Option Value}
theorem hx_d1 (KX : (hd.heap_39 P).In H) (nl : H.NoLimit) : ∃ fd, DefI H 1 21 fd ∧ fd.defaults = .none ∧ fd.kwdefaults = .none :=
  ⟨_, ⟨⟨⟨_, KX 21 _ rfl, rfl⟩, ⟨20, _, _, _, rfl, KX 20 _ rfl, rfl, rfl⟩, nl, rfl, rfl, rfl, rfl, rfl, rfl, rfl⟩, rfl, rfl⟩, rfl, rfl⟩
theorem hx_d2 (KX : (hd.heap_39 P).In H) (nl : H.NoLimit) : ∃ fd, DefI H 2 28 fd ∧ fd.defaults = .none ∧ fd.kwdefaults = .none :=
  ⟨_, ⟨⟨⟨_, KX 28 _ rfl, rfl⟩, ⟨27, _, _, _, rfl, KX 27 _ rfl, rfl, rfl⟩, nl, rfl, rfl, rfl, rfl, rfl, rfl, rfl⟩, rfl, rfl⟩, rfl, rfl⟩
theorem hx_d4 (KX : (hd.heap_39 P).In H) (nl : H.NoLimit) : ∃ fd, DefI H 4 37 fd ∧ fd.defaults = .ref 29 ∧ fd.kwdefaults = .ref 30 :=
  ⟨_, ⟨⟨⟨_, KX 37 _ rfl, rfl⟩, ⟨36, _, _, _, rfl, KX 36 _ rfl, rfl, rfl⟩, nl, rfl, rfl, rfl, rfl, rfl, rfl, rfl⟩, rfl, rfl⟩, rfl, rfl⟩
theorem hx_d5 (KX : (hd.heap_39 P).In H) (nl : H.NoLimit) : ∃ fd, DefI H 5 46 fd ∧ fd.defaults = .ref 38 ∧ fd.kwdefaults = .ref 39 :=
  ⟨_, ⟨⟨⟨_, KX 46 _ rfl, rfl⟩, ⟨45, _, _, _, rfl, KX 45 _ rfl, rfl, rfl⟩, nl, rfl, rfl, rfl, rfl, rfl, rfl, rfl⟩, rfl, rfl⟩, rfl, rfl⟩
theorem hx_d7 (KX : (hd.heap_39 P).In H) (nl : H.NoLimit) : ∃ fd, DefI H 7 53 fd ∧ fd.defaults = .none ∧ fd.kwdefaults = .none :=
  ⟨_, ⟨⟨⟨_, KX 53 _ rfl, rfl⟩, ⟨52, _, _, _, rfl, KX 52 _ rfl, rfl, rfl⟩, nl, rfl, rfl, rfl, rfl, rfl, rfl, rfl⟩, rfl, rfl⟩, rfl, rfl⟩
theorem hx_d8 (KX : (hd.heap_39 P).In H) (nl : H.NoLimit) : ∃ fd, DefI H 8 58 fd ∧ fd.defaults = .none ∧ fd.kwdefaults = .none :=
  ⟨_, ⟨⟨⟨_, KX 58 _ rfl, rfl⟩, ⟨57, _, _, _, rfl, KX 57 _ rfl, rfl, rfl⟩, nl, rfl, rfl, rfl, rfl, rfl, rfl, rfl⟩, rfl, rfl⟩, rfl, rfl⟩
theorem hx_d9 (KX : (hd.heap_39 P).In H) (nl : H.NoLimit) : ∃ fd, DefI H 9 63 fd ∧ fd.defaults = .none ∧ fd.kwdefaults = .none :=
  ⟨_, ⟨⟨⟨_, KX 63 _ rfl, rfl⟩, ⟨62, _, _, _, rfl, KX 62 _ rfl, rfl, rfl⟩, nl, rfl, rfl, rfl, rfl, rfl, rfl, rfl⟩, rfl, rfl⟩, rfl, rfl⟩
theorem hx_d10 (KX : (hd.heap_39 P).In H) (nl : H.NoLimit) : ∃ fd, DefI H 10 68 fd ∧ fd.defaults = .none ∧ fd.kwdefaults = .none :=
  ⟨_, ⟨⟨⟨_, KX 68 _ rfl, rfl⟩, ⟨67, _, _, _, rfl, KX 67 _ rfl, rfl, rfl⟩, nl, rfl, rfl, rfl, rfl, rfl, rfl, rfl⟩, rfl, rfl⟩, rfl, rfl⟩
theorem hx_d11 (KX : (hd.heap_39 P).In H) (nl : H.NoLimit) : ∃ fd, DefI H 11 73 fd ∧ fd.defaults = .none ∧ fd.kwdefaults = .none :=
  ⟨_, ⟨⟨⟨_, KX 73 _ rfl, rfl⟩, ⟨72, _, _, _, rfl, KX 72 _ rfl, rfl, rfl⟩, nl, rfl, rfl, rfl, rfl, rfl, rfl, rfl⟩, rfl, rfl⟩, rfl, rfl⟩
theorem hx_g21 (KX : (hd.heap_39 P).In H) (g : H.Ns mainGlobals mg) (b : H.Ns builtinsNs mb) : GV H "add_callers" (.ref 21) := ⟨mg, mb, g, b, .inl (ns_val g (KX 3 _ rfl) rfl)⟩
theorem hx_g28 (KX : (hd.heap_39 P).In H) (g : H.Ns mainGlobals mg) (b : H.Ns builtinsNs mb) : GV H "count_calls" (.ref 28) := ⟨mg, mb, g, b, .inl (ns_val g (KX 3 _ rfl) rfl)⟩
theorem hx_g37 (KX : (hd.heap_39 P).In H) (g : H.Ns mainGlobals mg) (b : H.Ns builtinsNs mb) : GV H "insort_left" (.ref 37) := ⟨mg, mb, g, b, .inl (ns_val g (KX 3 _ rfl) rfl)⟩
theorem hx_g46 (KX : (hd.heap_39 P).In H) (g : H.Ns mainGlobals mg) (b : H.Ns builtinsNs mb) : GV H "bisect_left" (.ref 46) := ⟨mg, mb, g, b, .inl (ns_val g (KX 3 _ rfl) rfl)⟩
theorem hx_g53 (KX : (hd.heap_39 P).In H) (g : H.Ns mainGlobals mg) (b : H.Ns builtinsNs mb) : GV H "_law_steps" (.ref 53) := ⟨mg, mb, g, b, .inl (ns_val g (KX 3 _ rfl) rfl)⟩
theorem hx_g58 (KX : (hd.heap_39 P).In H) (g : H.Ns mainGlobals mg) (b : H.Ns builtinsNs mb) : GV H "_law_reached" (.ref 58) := ⟨mg, mb, g, b, .inl (ns_val g (KX 3 _ rfl) rfl)⟩
theorem hx_g63 (KX : (hd.heap_39 P).In H) (g : H.Ns mainGlobals mg) (b : H.Ns builtinsNs mb) : GV H "_law_ends" (.ref 63) := ⟨mg, mb, g, b, .inl (ns_val g (KX 3 _ rfl) rfl)⟩
theorem hx_g68 (KX : (hd.heap_39 P).In H) (g : H.Ns mainGlobals mg) (b : H.Ns builtinsNs mb) : GV H "_law_ways" (.ref 68) := ⟨mg, mb, g, b, .inl (ns_val g (KX 3 _ rfl) rfl)⟩
theorem hx_g73 (KX : (hd.heap_39 P).In H) (g : H.Ns mainGlobals mg) (b : H.Ns builtinsNs mb) : GV H "_law_number" (.ref 73) := ⟨mg, mb, g, b, .inl (ns_val g (KX 3 _ rfl) rfl)⟩
theorem hx_b_max (KX : (hd.heap_39 P).In H) (g : H.Ns mainGlobals mg) (b : H.Ns builtinsNs mb) (bi : ∀ x : Str, x ≠ "__name__" → mb x = bootBuiltins x) : GV H "max" (.builtin "max") := ⟨mg, mb, g, b, .inr ⟨ns_val g (KX 3 _ rfl) rfl, (bi _ (by decide)).trans PyProof.Rows.Boot.«max»⟩⟩
theorem hx_b_min (KX : (hd.heap_39 P).In H) (g : H.Ns mainGlobals mg) (b : H.Ns builtinsNs mb) (bi : ∀ x : Str, x ≠ "__name__" → mb x = bootBuiltins x) : GV H "min" (.builtin "min") := ⟨mg, mb, g, b, .inr ⟨ns_val g (KX 3 _ rfl) rfl, (bi _ (by decide)).trans PyProof.Rows.Boot.«min»⟩⟩
theorem hx_b_len (KX : (hd.heap_39 P).In H) (g : H.Ns mainGlobals mg) (b : H.Ns builtinsNs mb) (bi : ∀ x : Str, x ≠ "__name__" → mb x = bootBuiltins x) : GV H "len" (.builtin "len") := ⟨mg, mb, g, b, .inr ⟨ns_val g (KX 3 _ rfl) rfl, (bi _ (by decide)).trans PyProof.Rows.Boot.«len»⟩⟩
theorem hx_b_sum (KX : (hd.heap_39 P).In H) (g : H.Ns mainGlobals mg) (b : H.Ns builtinsNs mb) (bi : ∀ x : Str, x ≠ "__name__" → mb x = bootBuiltins x) : GV H "sum" (.builtin "sum") := ⟨mg, mb, g, b, .inr ⟨ns_val g (KX 3 _ rfl) rfl, (bi _ (by decide)).trans PyProof.Rows.Boot.«sum»⟩⟩
theorem hx_b_sorted (KX : (hd.heap_39 P).In H) (g : H.Ns mainGlobals mg) (b : H.Ns builtinsNs mb) (bi : ∀ x : Str, x ≠ "__name__" → mb x = bootBuiltins x) : GV H "sorted" (.builtin "sorted") := ⟨mg, mb, g, b, .inr ⟨ns_val g (KX 3 _ rfl) rfl, (bi _ (by decide)).trans PyProof.Rows.Boot.«sorted»⟩⟩
theorem hx_b_range (KX : (hd.heap_39 P).In H) (g : H.Ns mainGlobals mg) (b : H.Ns builtinsNs mb) (bi : ∀ x : Str, x ≠ "__name__" → mb x = bootBuiltins x) : GV H "range" (.type "range") := ⟨mg, mb, g, b, .inr ⟨ns_val g (KX 3 _ rfl) rfl, (bi _ (by decide)).trans PyProof.Rows.Boot.«range»⟩⟩
theorem hx_b_dict (KX : (hd.heap_39 P).In H) (g : H.Ns mainGlobals mg) (b : H.Ns builtinsNs mb) (bi : ∀ x : Str, x ≠ "__name__" → mb x = bootBuiltins x) : GV H "dict" (.type "dict") := ⟨mg, mb, g, b, .inr ⟨ns_val g (KX 3 _ rfl) rfl, (bi _ (by decide)).trans PyProof.Rows.Boot.«dict»⟩⟩
theorem hx_b_tuple (KX : (hd.heap_39 P).In H) (g : H.Ns mainGlobals mg) (b : H.Ns builtinsNs mb) (bi : ∀ x : Str, x ≠ "__name__" → mb x = bootBuiltins x) : GV H "tuple" (.type "tuple") := ⟨mg, mb, g, b, .inr ⟨ns_val g (KX 3 _ rfl) rfl, (bi _ (by decide)).trans PyProof.Rows.Boot.«tuple»⟩⟩
theorem hx_b_isinstance (KX : (hd.heap_39 P).In H) (g : H.Ns mainGlobals mg) (b : H.Ns builtinsNs mb) (bi : ∀ x : Str, x ≠ "__name__" → mb x = bootBuiltins x) : GV H "isinstance" (.builtin "isinstance") := ⟨mg, mb, g, b, .inr ⟨ns_val g (KX 3 _ rfl) rfl, (bi _ (by decide)).trans PyProof.Rows.Boot.«isinstance»⟩⟩
theorem hx_key (KX : (hd.heap_39 P).In H) {a : Addr} {t : Tok} {k : Int} {n : Nat} (h : (hd.heap_39 P).lookup a = some { cls := .type "dict", data := .dict #[{ hash := k, key := .str "key" t, val := .none }] n }) : ∃ m, H.Ns a m ∧ m "key" = some .none :=
  ⟨_, ⟨_, _, _, KX a _ h, rfl, fun e he => by simp at he; subst he; exact ⟨_, _, rfl⟩, fun _ => rfl⟩, rfl⟩
theorem lw_of (KX : (hd.heap_39 P).In H) (g : H.Ns mainGlobals mg) (b : H.Ns builtinsNs mb) (bi : ∀ x : Str, x ≠ "__name__" → mb x = bootBuiltins x) (nl : H.NoLimit) : Lw H where
  d1 := hx_d1 KX nl
  d2 := hx_d2 KX nl
  d4 := hx_d4 KX nl
  d5 := hx_d5 KX nl
  d7 := hx_d7 KX nl
  d8 := hx_d8 KX nl
  d9 := hx_d9 KX nl
  d10 := hx_d10 KX nl
  d11 := hx_d11 KX nl
  o29 := ⟨_, _, KX 29 _ rfl⟩
  o38 := ⟨_, _, KX 38 _ rfl⟩
  o30 := hx_key KX (a := 30) rfl
  o39 := hx_key KX (a := 39) rfl
  g1 := hx_g21 KX g b
  g2 := hx_g28 KX g b
  g4 := hx_g37 KX g b
  g5 := hx_g46 KX g b
  g7 := hx_g53 KX g b
  g8 := hx_g58 KX g b
  g9 := hx_g63 KX g b
  g10 := hx_g68 KX g b
  g11 := hx_g73 KX g b
  bmax := hx_b_max KX g b bi
  bmin := hx_b_min KX g b bi
  blen := hx_b_len KX g b bi
  bsum := hx_b_sum KX g b bi
  bsorted := hx_b_sorted KX g b bi
  brange := hx_b_range KX g b bi
  bdict := hx_b_dict KX g b bi
  btuple := hx_b_tuple KX g b bi
  bisin := hx_b_isinstance KX g b bi
end
end Mine
end

-- Hy
section
open PySem PySem.Calls PySem.Spec PyProof.Rows
namespace Mine
theorem bind_12 {H : Heap} {a : Addr} {fd : FuncData} (d : DefI H 12 a fd) (h1 : fd.defaults = .none) (h2 : fd.kwdefaults = .none) (v : Value) : bindArgs fd ⟨[v], []⟩ = pure [(("script" : Str), v)] := by
  obtain ⟨_, _, e⟩ := d
  cases fd; dsimp only at h1 h2 e; subst h1 h2 e; rfl
theorem call_12 {Z : Wo} (L : Lw Z.H) {fa : Addr} {fd : FuncData} (D : DefI Z.H 12 fa fd) (h1 : fd.defaults = .none) (h2 : fd.kwdefaults = .none) (rm : Rm 13 Z.A) {ns : List Int} (hn : ns.length ≤ 63) : CallOK Z (.ref fa) [.list (izs ns)] (.bool true) :=
  call_i1 D rm (fun v => bind_12 D h1 h2 v) (.inl rfl) fun env rm' => body_12 (Z := { Z with A := Z.A.deeper env }) L rm' hn (law_all ns)
theorem rm_caller : Rm 13 callerA := ⟨rfl, by decide, by decide⟩
theorem rd_arg {P : Params} {h : Heap} {a : Addr} {ns : List Int} {vs : List Value} (w : W.Well P h (.ref a) (W.ofPy (.list (ns.map .int)))) (hl : h.IsList a vs.toArray) (hi : IntsAre vs ns) : RD [] h (.ref a) (.list (izs ns)) := by
  have key : ∀ (v : Value) (d : W.WData) (xs : List W.WData), W.Well P h v d → v = .ref a → d = .list xs → ∃ us : List Value, h.get? a = some { cls := .type "list", data := .seq us.toArray } := fun v d xs w e1 e2 => by
    cases w <;> first | (cases e2; done) | (injection e1 with e1; subst e1; exact ⟨_, by assumption⟩)
  obtain ⟨us, ho⟩ := key _ _ _ w rfl rfl
  obtain ⟨o, ho', hc, n, hd⟩ := hl
  rw [ho] at ho'
  obtain rfl := Option.some.inj ho'
  injection hd with h1 h2
  rw [h1] at ho
  exact rd_list (by simp) ho (by rw [List.toList_toArray]; exact rds_ints hi)
end Mine
end

open PySem PySem.W PyProof.Rows
set_option pp.deepTerms false
set_option maxHeartbeats 8000000 in
theorem PySem.Challenge.cw_hk0002_01_holds : PySem.Challenge.rw_hk0002_01.Holds := by
  exact Mine.hd (by
  k_fill
  intro w s₀ s₁ mg mb G Y fa o pm cd doc dV kV ho hd' hcd hD hmg hg args vals as hpre hlay hrd hwl hlo
  have KX := kIn_of Y
  refine Ground.open G ?_
  intro T B D TE TW
  try (refine guard_noD D (by decide +kernel) ?_; clear D)
  have L := Mine.lw_of KX T.g T.b T.builtins T.nolimit
  have nl := T.nolimit
  clear TW TE B Y KX T
  wrow_args hpre hlay hrd hwl hlo
  rename_i ns _ _ _ _ _ _ _ a vs _ hL _ w1 _ hI _ hlen _
  have hn : ns.length ≤ 63 := by omega
  have rd := Mine.rd_arg w1 hL hI
  have e1 : dV = .none := (hD.pos.resolve_right fun h => h.1 rfl).2
  have e2 : kV = .none := (hD.kw.resolve_right fun h => h.1 rfl).2
  subst e1 e2
  have dD : Mine.DefI s₁.heap 12 fa _ := ⟨⟨⟨o, ho, hd'⟩, hcd, nl, rfl, rfl, rfl, rfl, rfl, rfl, rfl⟩, rfl, rfl⟩
  refine Mine.call_12 (Z := ⟨_, w, callerA, s₁.heap⟩) L dD rfl rfl Mine.rm_caller hn [] s₁ [.ref a] _ _ (fun _ _ e => e) (fun b hb => nomatch hb) (.cons rd .nil) fun v s' k r => ?_
  obtain rfl : v = .bool true := r.bool_inv
  obtain ⟨h', tk, rfl, x⟩ := k
  refine GoodW.toG ⟨.inl ⟨.bool true, .bool true, [], rfl, fun _ => rfl, .bool true, ?_, fun _ => ⟨.nil, fun a h => nomatch h⟩⟩, x, rfl, hg⟩
  first | rfl | with_unfolding_all rfl)
