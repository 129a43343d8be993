import PyProof.Rows.All
import Wide.All
import OpenK.AllK
import Wide.FinOn
import PySem.Challenge.RW_bj5025_01
set_option Elab.async false
set_option maxRecDepth 100000

-- BJTopZ
section
open PySem PySem.W PySem.W.X PyProof.Rows
set_option maxHeartbeats 0
namespace Mine
local macro_rules | `(tactic| k_head) => `(tactic| z_head)
open_top hz for PySem.Challenge.rw_bj5025_01
end Mine
end

-- VL2
section
open PySem PySem.W PySem.Calls PyProof.Rows
set_option maxHeartbeats 4000000
namespace Mine
/-- kinds whose objects turn: a frame's store of names, iterators -/
def turning : List String := ["frame", "cell", "list_iterator", "dict_keyiterator", "dict_itemiterator", "range_iterator", "tuple_iterator"]
/-- an object that is none of these and no code table -/
def pl (o : Obj) : Bool := (match o.cls with | .type T => !turning.contains T | .none => (match o.data with | .dict .. => true | _ => false) | _ => true)
/-- the code tables that may grow -/
def growTabs : List Addr := [135, 142, 206, 224]
/-- a code table -/
def tabO (o : Obj) : Bool := match o.cls, o.data with | .none, .dict .. => false | .none, _ => true | _, _ => false
abbrev tblO (vs : Array Value) : Obj := { cls := .none, data := .fields vs }
theorem tbl_inj {a b : Array Value} (e : tblO a = tblO b) : a = b := by injection e with _ _ e; injection e
/-- a record of code -/
def codeO (o : Obj) : Prop := o.cls = .type "code" ∧ ∃ vs, o.data = .fields vs
theorem nc_cls {o : Obj} (h : o.cls ≠ .type "code") : ¬ codeO o := fun x => h x.1
theorem nc_dict {o : Obj} {es : Array DictEntry} {n : Nat} (h : o.data = .dict es n) : ¬ codeO o := fun x => by obtain ⟨_, vs, e⟩ := x; rw [h] at e; cases e
/-- a record of code, by its name -/
def CR (h : Heap) (v : Value) (q : Str) : Prop := ∃ c o vs t, v = .ref c ∧ h.get? c = some o ∧ o.cls = .type "code" ∧ o.data = .fields vs ∧ vs[1]? = some (.str q t)
theorem CR.k {h h' : Heap} {v : Value} {q : Str} (x : CR h v q) (k : ∀ b o, h.get? b = some o → codeO o → h'.get? b = some o) : CR h' v q := by
  obtain ⟨c, o, vs, t, e, g, hc, d, r⟩ := x
  exact ⟨c, o, vs, t, e, k _ _ g ⟨hc, _, d⟩, hc, d, r⟩
theorem CR.rec {h : Heap} {v : Value} {q : Str} (x : CR h v q) : h.CodeRec v q := by
  obtain ⟨c, o, vs, t, e, g, hc, d, r⟩ := x
  exact ⟨c, o, vs, t, e, g, d, r⟩
/-- the name of the code that stands at a place of a table -/
def tq (P : Addr) (pos : Pos) : Str :=
  if P = 206 then "ParseResults.__iadd__.<locals>.<lambda>" else if P = 135 then "ParseResults.values.<locals>.<genexpr>" else if P = 142 then "ParseResults.items.<locals>.<genexpr>" else
  if pos.line = 187 then "ParseResults.as_dict.<locals>.to_item" else "ParseResults.as_dict.<locals>.<genexpr>"
/-- what becomes of a code table -/
def Grown (h' : Heap) (b : Addr) (o : Obj) : Prop := h'.get? b = some o ∨ (b ∈ growTabs ∧ ∃ ps more, o = tblO ps ∧ h'.get? b = some (tblO (ps ++ more)) ∧ (TriplesOk ps.toList → TriplesOk (ps ++ more).toList) ∧
  (∀ pos v, codeAmong pos (ps ++ more).toList = some v → codeAmong pos ps.toList = some v ∨ CR h' v (tq b pos)))
/-- h' keeps all objects of h; code tables may grow -/
structure Ka (h h' : Heap) : Prop where
  k : ∀ b o, h.get? b = some o → tabO o = false → h'.get? b = some o
  t : ∀ b o, h.get? b = some o → tabO o = true → Grown h' b o
/-- h' keeps all plain objects of h; code tables may grow -/
structure Kp (h h' : Heap) : Prop where
  k : ∀ b o, h.get? b = some o → pl o = true → h'.get? b = some o
  t : ∀ b o, h.get? b = some o → tabO o = true → Grown h' b o
theorem pl_tab {o : Obj} (p : pl o = true) : tabO o = false := by
  unfold pl at p; unfold tabO
  obtain ⟨c, d, dt, sl⟩ := o
  cases c <;> cases dt <;> first | rfl | (cases p)
theorem tab_cls {o : Obj} (p : tabO o = true) : o.cls = .none := by
  unfold tabO at p
  obtain ⟨c, d, dt, sl⟩ := o
  cases c <;> first | rfl | (cases dt <;> cases p)
theorem grown_trans {b c : Heap} {R : Addr → Prop} (y : ∀ z o, R z → b.get? z = some o → tabO o = true → Grown c z o) (kc : ∀ z o, b.get? z = some o → codeO o → c.get? z = some o) {z : Addr} {o : Obj} (hz : R z) (x : Grown b z o) (p : tabO o = true) : Grown c z o := by
  rcases x with q | ⟨m, ps, more, rfl, q, tr, hc⟩
  · exact y z o hz q p
  · rcases y z _ hz q rfl with r | ⟨_, ps', more', q', r, tr', hc'⟩
    · exact .inr ⟨m, ps, more, rfl, r, tr, fun pos v e => (hc pos v e).imp id fun x => x.k kc⟩
    · cases tbl_inj q'
      refine .inr ⟨m, ps, more ++ more', rfl, by rw [← Array.append_assoc]; exact r, fun x => by rw [← Array.append_assoc]; exact tr' (tr x), fun pos v e => ?_⟩
      rw [← Array.append_assoc] at e
      rcases hc' pos v e with e | x
      · exact (hc pos v e).imp id fun x => x.k kc
      · exact .inr x
theorem code_pl {o : Obj} (h : codeO o) : pl o = true := by unfold pl; rw [h.1]; rfl
theorem code_tab {o : Obj} (h : codeO o) : tabO o = false := by unfold tabO; rw [h.1]
theorem Kp.refl (h : Heap) : Kp h h := ⟨fun _ _ e _ => e, fun _ _ e _ => .inl e⟩
theorem Kp.trans {a b c : Heap} (x : Kp a b) (y : Kp b c) : Kp a c := ⟨fun k o e p => y.k k o (x.k k o e p) p, fun k o e p => grown_trans (R := fun _ => True) (fun z o _ => y.t z o) (fun z o e c => y.k z o e (code_pl c)) trivial (x.t k o e p) p⟩
theorem Kp.of {h h' : Heap} (k : ∀ b o, h.get? b = some o → h'.get? b = some o) : Kp h h' := ⟨fun b o e _ => k b o e, fun b o e _ => .inl (k b o e)⟩
theorem Kp.push (h : Heap) (o : Obj) : Kp h (h.push o) := .of fun _ _ e => Heap.get?_push_of_some o e
theorem Ka.refl (h : Heap) : Ka h h := ⟨fun _ _ e _ => e, fun _ _ e _ => .inl e⟩
theorem Ka.trans {a b c : Heap} (x : Ka a b) (y : Ka b c) : Ka a c := ⟨fun k o e p => y.k k o (x.k k o e p) p, fun k o e p => grown_trans (R := fun _ => True) (fun z o _ => y.t z o) (fun z o e c => y.k z o e (code_tab c)) trivial (x.t k o e p) p⟩
theorem Ka.of {h h' : Heap} (k : ∀ b o, h.get? b = some o → h'.get? b = some o) : Ka h h' := ⟨fun b o e _ => k b o e, fun b o e _ => .inl (k b o e)⟩
theorem Ka.push (h : Heap) (o : Obj) : Ka h (h.push o) := .of fun _ _ e => Heap.get?_push_of_some o e
theorem Ka.kp {h h' : Heap} (x : Ka h h') : Kp h h' := ⟨fun b o e p => x.k b o e (pl_tab p), x.t⟩
/-- a table of code, told -/
def TabAt (h : Heap) (c P : Addr) : Prop := ∃ ps, h.IsCode c P ps ∧ h.TableAt c P ps ∧ ∀ pos v, codeAmong pos ps.toList = some v → CR h v (tq P pos)
theorem tab_step {h h' : Heap} {c P : Addr} (x : TabAt h c P) (kc : ∀ b o, h.get? b = some o → codeO o → h'.get? b = some o) (t : ∀ o, h.get? P = some o → tabO o = true → Grown h' P o) : TabAt h' c P := by
  obtain ⟨ps, ⟨o, vs, file, tf, flags, tg, inF, text, tt, op, e1, r1, r2, r3, r4, r5, r6, e2, r7, r8, r9⟩, ⟨⟨oc, vs', ec, hc, hd, hv⟩, g⟩, hh⟩ := x
  have : o = oc := Option.some.inj (e1.symm.trans ec)
  subst this
  rcases t _ g rfl with z | ⟨m, ps', more, q, z, tr, hg⟩
  · exact ⟨ps, ⟨o, vs, file, tf, flags, tg, inF, text, tt, _, kc _ _ e1 ⟨hc, _, hd⟩, r1, r2, r3, r4, r5, r6, z, rfl, r8, r9⟩, ⟨⟨o, vs', kc _ _ e1 ⟨hc, _, hd⟩, hc, hd, hv⟩, z⟩, fun pos v e => (hh pos v e).k kc⟩
  · cases tbl_inj q
    exact ⟨ps ++ more, ⟨o, vs, file, tf, flags, tg, inF, text, tt, _, kc _ _ e1 ⟨hc, _, hd⟩, r1, r2, r3, r4, r5, r6, z, rfl, tr r8, r9⟩, ⟨⟨o, vs', kc _ _ e1 ⟨hc, _, hd⟩, hc, hd, hv⟩, z⟩, fun pos v e => (hg pos v e).elim (fun e => (hh pos v e).k kc) id⟩
theorem TabAt.kp {h h' : Heap} {c P : Addr} (x : TabAt h c P) (k : Kp h h') : TabAt h' c P := tab_step x (fun b o e c => k.k b o e (code_pl c)) fun o e p => k.t P o e p
def Tb (h : Heap) : Prop := TabAt h 139 135 ∧ TabAt h 146 142 ∧ TabAt h 208 206 ∧ TabAt h 228 224
theorem Tb.mono {h h' : Heap} (x : Tb h) (k : Kp h h') : Tb h' := ⟨x.1.kp k, x.2.1.kp k, x.2.2.1.kp k, x.2.2.2.kp k⟩
/-- at the end -/
theorem Ka.oldK {h h' : Heap} (x : Ka h h') (T : Tb h) : OldK h h' := by
  have code : ∀ b, b ∈ growTabs → ∃ c ps, h.TableAt c b ps := fun b m => by
    obtain ⟨⟨p1, _, t1, _⟩, ⟨p2, _, t2, _⟩, ⟨p3, _, t3, _⟩, ⟨p4, _, t4, _⟩⟩ := T
    simp only [growTabs, List.mem_cons, List.not_mem_nil, or_false] at m
    rcases m with rfl | rfl | rfl | rfl
    · exact ⟨_, _, t1⟩
    · exact ⟨_, _, t2⟩
    · exact ⟨_, _, t3⟩
    · exact ⟨_, _, t4⟩
  have key : ∀ b o, h.get? b = some o → asItWas h h' b o ∧ ∃ o', h'.get? b = some o' := fun b o e => by
    cases p : tabO o with
    | false => exact ⟨.inl (x.k b o e p), _, x.k b o e p⟩
    | true =>
      rcases x.t b o e p with r | ⟨m, ps, more, rfl, r, t, _⟩
      · exact ⟨.inl r, _, r⟩
      · obtain ⟨c, ps', tb⟩ := code b m
        exact ⟨.inr (.inl ⟨tb.isCodeTable, rfl, ps, more, rfl, r⟩), _, r⟩
  exact ⟨fun b o e => (key b o e).1, fun b o e => (key b o e).2⟩
/-- the frame's store of names -/
structure Fm (h : Heap) (L : Addr) (m : Str → Option Value) : Prop where
  ns : h.Ns L m
  cls : ∃ o, h.get? L = some o ∧ o.cls = .type "frame"
theorem Fm.not_pl {h : Heap} {L : Addr} {m : Str → Option Value} (F : Fm h L m) {o : Obj} (e : h.get? L = some o) : pl o = false := by
  obtain ⟨o', e', c⟩ := F.cls
  rw [e] at e'; cases e'
  unfold pl; rw [c]; rfl
theorem Kp.same {h h' : Heap} {L : Addr} {m : Str → Option Value} (F : Fm h L m) (s : Heap.SameBut L h h') : Kp h h' := by
  have ne : ∀ b o, h.get? b = some o → (pl o = true ∨ tabO o = true) → b ≠ L := fun b o e p q => by
    subst q
    obtain ⟨o', e', c⟩ := F.cls
    rw [e] at e'; cases e'
    rcases p with p | p
    · rw [F.not_pl e] at p; cases p
    · rw [tab_cls p] at c; cases c
  exact ⟨fun b o e p => (s.2 b (ne b o e (.inl p))).trans e, fun b o e p => .inl ((s.2 b (ne b o e (.inr p))).trans e)⟩
theorem Fm.keeps {h h' : Heap} {L : Addr} {m : Str → Option Value} (F : Fm h L m) (k : h'.get? L = h.get? L) : Fm h' L m := by
  obtain ⟨⟨o, es, ep, a, b, c⟩, o', d, f⟩ := F
  exact ⟨⟨o, es, ep, k.trans a, b, c⟩, o', k.trans d, f⟩
theorem Fm.push {h : Heap} {L : Addr} {m : Str → Option Value} (F : Fm h L m) (o : Obj) : Fm (h.push o) L m := by
  obtain ⟨o', d, f⟩ := F.cls
  exact F.keeps ((Heap.get?_push_of_some o d).trans d.symm)

section
variable {M : Model} {A : Around} {E : Value → Shared → Prop} {s : Shared}
theorem putName_cls (name : Str) (h : Int) (key v : Value) (o : Obj) : (Obj.putName name h key v o).cls = o.cls := by
  rw [Obj.putName_eq]
  unfold Obj.putNameByArray
  split
  · split <;> rfl
  · rfl
theorem wp_nsSet_at {Γ : Ctx} {p : Pos} {a : Addr} {m : Str → Option Value} (hn : s.heap.Ns a m) (name : Str) (v : Value) (Q : Unit → Pos → Shared → Prop) (E : Value → Pos → Shared → Prop) :
    Sem.wp M Γ (nsSet a name v) Q E p s = Q () p { s with heap := s.heap.update a (Obj.putName name (PyData.keyHash M.w.params name) (.str name s.toks) v), toks := s.toks + 1 } := by
  obtain ⟨o, es, ep, ho, hd, hk, hm⟩ := hn
  simp only [nsSet, strHash, Sem.wp_bind', Sem.wp_cmd_ask, Sem.wp_pure', Sem.wp_cmd_mkText]
  rw [Sem.wp_loadPart_of M Γ E p { s with toks := s.toks + 1 } (o := o) _ ho]
  have hany : es.any (·.refKey) = false := by
    rw [Array.any_eq_false']; intro e he; obtain ⟨n, t, h⟩ := hk e he; simp [DictEntry.refKey, h]
  simp only [hd, aRefKeyMayBeTheName_eq, aRefKeyMayBeTheNameByArray, hany, Bool.and_false, Bool.false_eq_true, if_false, Sem.wp_cmd_updatePart]
  have : (s.heap.get? a).isSome = true := by rw [ho]; rfl
  simp only [this, true_and]
  rfl
theorem v_nsSet {a : Addr} {m : Str → Option Value} {name : Str} {v : Value} {Q : Unit → Shared → Prop} (F : Fm s.heap a m)
    (h : ∀ h', Fm h' a (fun x => if x = name then some v else m x) → Heap.SameBut a s.heap h' → Q () { s with heap := h', toks := s.toks + 1 }) : wpAny M A (nsSet a name v) Q E s := fun Γ p _ => by
  rw [wp_nsSet_at F.ns]
  have z := Sem.wp_nsSet M Γ (fun _ _ _ => False) p s F.ns name v (fun _ _ s' => s'.heap.Ns a (fun x => if x = name then some v else m x)) fun h' hn _ => hn
  rw [wp_nsSet_at F.ns] at z
  obtain ⟨o, ho, hc⟩ := F.cls
  refine h _ ⟨z, ?_⟩ (Heap.SameBut.update ..)
  obtain ⟨o₁, es, ep, ho₁, hd₁, _⟩ := F.ns
  have e := ho₁.symm.trans ho
  cases e
  refine ⟨_, Heap.get?_update_self _ ho (by
    rw [Obj.putName_eq]; obtain ⟨c, d, dt, sl⟩ := o; subst hd₁
    simp only [Obj.putNameByArray]; split <;> rfl), ?_⟩
  rw [putName_cls]; exact hc
theorem v_storeName {env : Env} {name : Str} {m : Str → Option Value} {v : Value} {Q : Unit → Shared → Prop} (F : Fm s.heap env.locals m)
    (h : ∀ h', Fm h' env.locals (fun x => if x = name then some v else m x) → Kp s.heap h' → Q () { s with heap := h', toks := s.toks + 1 })
    (hl : env.kindOf name = some .local := by rfl) (hp : (env.scope.kind == .class || (env.scope.kind == .module && env.locals != env.globals)) = false := by rfl) : wpAny M A (storeName env name v) Q E s := by
  rw [storeName_local hl hp]
  exact v_nsSet F fun h' F' hs => h h' F' (.same F hs)
end
section
variable {prog : Program} {w : World} {A : Around} {E : Value → Shared → Prop} {s : Shared}
/-- the names bs put in over m, one behind the other -/
def over (m : Str → Option Value) (bs : List (Str × Value)) : Str → Option Value := fun x => (bs.reverse.lookup x).or (m x)
theorem over_cons (m : Str → Option Value) (n : Str) (v : Value) (r : List (Str × Value)) : over m ((n, v) :: r) = over (fun x => if x = n then some v else m x) r := by
  funext x
  unfold over
  rw [List.reverse_cons, List.lookup_append, Option.or_assoc]
  congr 1
  show _ = if x = n then some v else m x
  by_cases q : x = n
  · rw [if_pos q, q, List.lookup_cons, beq_self_eq_true]; rfl
  · rw [if_neg q, List.lookup_cons, beq_eq_false_iff_ne.mpr q]; rfl
/-- a frame's names are put in -/
theorem v_puts {M : Model} {env : Env} {f : Str × Value → PUnit → Sem (ForInStep PUnit)} (hf : ∀ n v u, f (n, v) u = storeName env n v >>= fun _ => pure (.yield ⟨⟩)) (hk : env.scope.kind = .function) :
    ∀ (bs : List (Str × Value)) (m : Str → Option Value) (s : Shared) (Q : PUnit → Shared → Prop), Fm s.heap env.locals m → (∀ b ∈ bs, env.kindOf b.1 = some .local) →
      (∀ h', Fm h' env.locals (over m bs) → Heap.SameBut env.locals s.heap h' → Q ⟨⟩ { s with heap := h', toks := s.toks + bs.length }) → wpAny M A (forIn bs ⟨⟩ f) Q E s
  | [], m, s, Q, F, _, h => by
    rw [List.forIn_nil]
    exact wpAny_pure (h s.heap F (.refl ..))
  | (n, v) :: r, m, s, Q, F, hb, h => by
    rw [List.forIn_cons, hf, storeName_local (hb _ List.mem_cons_self) (by rw [hk]; rfl)]
    refine wpAny_bind (wpAny_bind (v_nsSet F fun h₁ F₁ s₁ => wpAny_pure ?_))
    refine v_puts hf hk r _ { s with heap := h₁, toks := s.toks + 1 } Q F₁ (fun b m => hb b (List.mem_cons_of_mem _ m)) fun h₂ F₂ s₂ => ?_
    have z := h h₂ (by rw [over_cons]; exact F₂) (s₁.trans s₂)
    rw [List.length_cons, Nat.add_comm r.length 1, ← Nat.add_assoc] at z
    exact z
theorem v_newEnv {scope : Scope} {globals : Addr} {closure : List (Str × Addr)} {binds : List (Str × Value)} {qual : Str} {func : Option Addr} {code : Value} {builtins : Addr} {Q : Env → Shared → Prop} {M : Model}
    (hc : ∀ x ∈ scope.names, x.2 ≠ .cell) (hl : ∀ x ∈ binds, scope.names.lookup x.1 = some .local)
    (hQ : ∀ h', Fm h' s.heap.objs.size (fun x => binds.reverse.lookup x) → (∀ b o, s.heap.get? b = some o → h'.get? b = some o) →
      Q (newEnv scope s.heap.objs.size globals closure qual func code none builtins) { s with heap := h', toks := s.toks + binds.length })
    (hk : scope.kind = .function := by rfl) :
    wpAny M A (newFunctionEnv scope globals closure binds qual func code none builtins) Q E s := by
  unfold newFunctionEnv
  refine wpAny_bind (wpAny_alloc (wpAny_bind ?_))
  have cells : forIn (m := Sem) scope.names closure (fun x cs => if (x.2 == NameKind.cell) = true then (do
      let a ← alloc { cls := .type "cell", data := .cell none }; pure (.yield ((x.1, a) :: cs))) else pure (.yield cs)) = pure closure :=
    forIn_yield_id closure fun x m cs => if_neg fun e => hc x m (eq_of_beq e)
  refine wpAny_of_eq (a := closure) cells (wpAny_bind ?_)
  refine v_puts (env := newEnv scope s.heap.objs.size globals closure qual func code none builtins) (fun _ _ _ => rfl) hk binds (fun _ => none) _ _ ⟨Heap.Ns.new .., _, Heap.get?_push_size _ rfl, rfl⟩ hl fun h' F same => wpAny_pure (hQ h' ?_ fun b o e => ?_)
  · have e : over (fun _ => none) binds = fun x => binds.reverse.lookup x := by funext x; unfold over; rw [Option.or_none]
    exact e ▸ F
  · exact (same.2 b (Nat.ne_of_lt (Heap.lt_size e))).trans (Heap.get?_push_of_some _ e)

/-- what a contract says: the call comes back with a value, Q of it -/
abbrev Ret (prog : Program) (w : World) (A : Around) (f : Value) (args : Args) (s : Shared) (Q : Value → Shared → Prop) : Prop :=
  codeAny (model prog w) A (.call f args) (fun r s' => match r with | .ok (.ret v) => Q v s' | .ok _ => False | .error _ => False) s
theorem Ret.mono {f : Value} {args : Args} {Q Q' : Value → Shared → Prop} (h : Ret prog w A f args s Q) (k : ∀ v s', Q v s' → Q' v s') : Ret prog w A f args s Q' :=
  codeAny_mono h fun r s' z => by rcases r with e | (v | _ | _ | _) <;> first | exact z.elim | exact k _ _ z
theorem Ret.call {f : Value} {pos : List Value} {kw : List (Str × Value)} {Q Q' : Value → Shared → Prop} (h : Ret prog w A f ⟨pos, kw⟩ s Q) (k : ∀ v s', Q v s' → Q' v s') : wpAny (model prog w) A (PySem.call f pos kw) Q' E s :=
  wpAny_call (codeAny_mono h fun r s' z => by rcases r with e | (v | _ | _ | _) <;> first | exact z.elim | exact k _ _ z)

/-- a def's body is walked: the contract -/
theorem v_enter {Q : Value → Shared → Prop} {a : Addr} {o : Obj} {fd : FuncData} {args : Args} {binds : List (Str × Value)} {body : List Stmt}
    (hroom : A.depth < recursionLimit) (ho : s.heap.get? a = some o) (hdata : o.data = .func fd) (hlim : s.heap.NoLimit) (hcd : s.heap.CodeRec fd.code fd.qualname)
    (hbody : fd.body = .stmts body) (hbind : BindsTo s fd args binds)
    (hcell : ∀ x ∈ fd.scope.names, x.2 ≠ .cell) (hloc : ∀ x ∈ binds, fd.scope.names.lookup x.1 = some .local)
    (h : ∀ h₀, Fm h₀ s.heap.objs.size (fun x => binds.reverse.lookup x) → (∀ b o, s.heap.get? b = some o → h₀.get? b = some o) →
      wpAny (model prog w) (A.deeper (callEnv fd s.heap.objs.size a)) (execs body (callEnv fd s.heap.objs.size a)) (fun f s' => Q (match f with | .ret v => v | _ => .none) s') (fun _ _ => False)
        { s with heap := h₀, toks := s.toks + binds.length })
    (hco : fd.scope.isCoroutine = false := by rfl) (hgen : fd.scope.isGenerator = false := by rfl) (hk : fd.scope.kind = .function := by rfl) : Ret prog w A (.ref a) args s Q := by
  refine codeAny_call_function hroom ho hdata hco hgen hbody hcd (hbind _ _ _ _ ?_)
  refine v_newEnv hcell hloc (fun h₀ F hk₀ => ⟨hlim.keeps hk₀, codeAny_func ?_⟩) hk
  exact wpAny_mono (h h₀ F hk₀) (fun f s' z => z) fun _ _ z => z.elim
end
end Mine
end

-- VL1
section
open PySem PySem.W PySem.Calls PyProof.Rows
set_option maxHeartbeats 4000000
namespace Mine
noncomputable def KV (w : World) : Frag := (hz.heap_352 w.params).filter fun p => pl p.2
abbrev Wd (w : World) (h : Heap) : Prop := (KV w).In h
theorem kv_pl {w : World} {a : Addr} {o : Obj} : ∀ {K : Frag}, (K.filter fun p => pl p.2).lookup a = some o → pl o = true
  | [], e => by cases e
  | (b, x) :: r, e => by
    rw [List.filter_cons] at e
    split at e
    · rename_i hp
      rw [List.lookup_cons] at e
      split at e
      · cases e; exact hp
      · exact kv_pl (w := w) e
    · exact kv_pl (w := w) e
theorem Wd.mono {w : World} {h h' : Heap} (X : Wd w h) (k : Kp h h') : Wd w h' := fun a o e => k.k a o (X a o e) (kv_pl (w := w) e)

def topSt (i : Nat) : Stmt := (PySem.Challenge.pw_bj5025_01.main.body[i]?).getD (.Pass ⟨0,0,0,0⟩)
def inCls (st : Stmt) (i : Nat) : Stmt := match st with
  | .ClassDef _ _ _ b _ _ _ _ _ _ _ => (b[i]?).getD (.Pass ⟨0,0,0,0⟩)
  | _ => .Pass ⟨0,0,0,0⟩
def fnD (pm : Value) (qual : Str) (dV : Value) (cd : Addr) (st : Stmt) : FuncData := match st with
  | .FunctionDef name args body _ _ _ scope _ _ _ => { name, qualname := qual, params := args, body := .stmts body, scope, globals := 3, closure := [], defaults := dV, kwdefaults := .none, pyModule := pm, code := .ref cd, builtins := 0 }
  | _ => default
def pmL : Value := .str "law_bj5025_01" 489
def pmR : Value := .str "pyparsing.results" 194
def bodyOf (fd : FuncData) : List Stmt := match fd.body with | .stmts b => b | _ => []
abbrev fnObj (fd : FuncData) : Obj := ⟨.type "function", none, .func fd, #[]⟩
def fd_po_init : FuncData := fnD pmR "_ParseResultsWithOffset.__init__" .none 35 (inCls (topSt 3) 0)
def fd_po_getitem : FuncData := fnD pmR "_ParseResultsWithOffset.__getitem__" .none 42 (inCls (topSt 3) 1)
def fd_new : FuncData := fnD pmR "ParseResults.__new__" (.ref 59) 65 (inCls (topSt 4) 1)
def fd_init : FuncData := fnD pmR "ParseResults.__init__" (.ref 67) 73 (inCls (topSt 4) 2)
def fd_getitem : FuncData := fnD pmR "ParseResults.__getitem__" .none 78 (inCls (topSt 4) 3)
def fd_setitem : FuncData := fnD pmR "ParseResults.__setitem__" .none 85 (inCls (topSt 4) 4)
def fd_contains : FuncData := fnD pmR "ParseResults.__contains__" .none 97 (inCls (topSt 4) 6)
def fd_len : FuncData := fnD pmR "ParseResults.__len__" .none 104 (inCls (topSt 4) 7)
def fd_bool : FuncData := fnD pmR "ParseResults.__bool__" .none 111 (inCls (topSt 4) 8)
def fd_iter : FuncData := fnD pmR "ParseResults.__iter__" .none 118 (inCls (topSt 4) 9)
def fd_reversed : FuncData := fnD pmR "ParseResults.__reversed__" .none 125 (inCls (topSt 4) 10)
def fd_keys : FuncData := fnD pmR "ParseResults.keys" .none 132 (inCls (topSt 4) 11)
def fd_values : FuncData := fnD pmR "ParseResults.values" .none 139 (inCls (topSt 4) 12)
def fd_items : FuncData := fnD pmR "ParseResults.items" .none 146 (inCls (topSt 4) 13)
def fd_haskeys : FuncData := fnD pmR "ParseResults.haskeys" .none 153 (inCls (topSt 4) 14)
def fd_get : FuncData := fnD pmR "ParseResults.get" (.ref 162) 168 (inCls (topSt 4) 16)
def fd_add : FuncData := fnD pmR "ParseResults.__add__" .none 203 (inCls (topSt 4) 21)
def fd_iadd : FuncData := fnD pmR "ParseResults.__iadd__" .none 208 (inCls (topSt 4) 22)
def fd_as_list : FuncData := fnD pmR "ParseResults.as_list" .none 221 (inCls (topSt 4) 24)
def fd_as_dict : FuncData := fnD pmR "ParseResults.as_dict" .none 228 (inCls (topSt 4) 25)
def fd_copy : FuncData := fnD pmR "ParseResults.copy" .none 235 (inCls (topSt 4) 26)
def fd_names : FuncData := fnD pmL "_law_names" .none 260 (topSt 7)
def fd_draw : FuncData := fnD pmL "_law_draw" .none 267 (topSt 8)
def fd_record : FuncData := fnD pmL "_law_record" .none 274 (topSt 9)
def fd_made : FuncData := fnD pmL "_law_made" .none 281 (topSt 10)
def fd_order : FuncData := fnD pmL "_law_order" .none 288 (topSt 11)
def fd_table : FuncData := fnD pmL "_law_table" .none 293 (topSt 12)
def fd_plain : FuncData := fnD pmL "_law_plain" .none 300 (topSt 13)
def fd_holds : FuncData := fnD pmL "_law_holds" .none 305 (topSt 14)
def fd_refused : FuncData := fnD pmL "_law_refused" .none 312 (topSt 15)
def fd_joined : FuncData := fnD pmL "_law_joined" .none 319 (topSt 16)
def fd_draft : FuncData := fnD pmL "_law_draft" .none 324 (topSt 17)
def fd_law : FuncData := fnD pmL "law" .none 331 (topSt 18)
section
variable {w : World} {h : Heap} (X : Wd w h)
include X
theorem fo_po_init : h.get? 36 = some (fnObj fd_po_init) := X 36 _ (by kernel_rfl)
theorem fo_po_getitem : h.get? 43 = some (fnObj fd_po_getitem) := X 43 _ (by kernel_rfl)
theorem fo_new : h.get? 66 = some (fnObj fd_new) := X 66 _ (by kernel_rfl)
theorem fo_init : h.get? 74 = some (fnObj fd_init) := X 74 _ (by kernel_rfl)
theorem fo_getitem : h.get? 79 = some (fnObj fd_getitem) := X 79 _ (by kernel_rfl)
theorem fo_setitem : h.get? 86 = some (fnObj fd_setitem) := X 86 _ (by kernel_rfl)
theorem fo_contains : h.get? 98 = some (fnObj fd_contains) := X 98 _ (by kernel_rfl)
theorem fo_len : h.get? 105 = some (fnObj fd_len) := X 105 _ (by kernel_rfl)
theorem fo_bool : h.get? 112 = some (fnObj fd_bool) := X 112 _ (by kernel_rfl)
theorem fo_iter : h.get? 119 = some (fnObj fd_iter) := X 119 _ (by kernel_rfl)
theorem fo_reversed : h.get? 126 = some (fnObj fd_reversed) := X 126 _ (by kernel_rfl)
theorem fo_keys : h.get? 133 = some (fnObj fd_keys) := X 133 _ (by kernel_rfl)
theorem fo_values : h.get? 140 = some (fnObj fd_values) := X 140 _ (by kernel_rfl)
theorem fo_items : h.get? 147 = some (fnObj fd_items) := X 147 _ (by kernel_rfl)
theorem fo_haskeys : h.get? 154 = some (fnObj fd_haskeys) := X 154 _ (by kernel_rfl)
theorem fo_get : h.get? 169 = some (fnObj fd_get) := X 169 _ (by kernel_rfl)
theorem fo_add : h.get? 204 = some (fnObj fd_add) := X 204 _ (by kernel_rfl)
theorem fo_iadd : h.get? 209 = some (fnObj fd_iadd) := X 209 _ (by kernel_rfl)
theorem fo_as_list : h.get? 222 = some (fnObj fd_as_list) := X 222 _ (by kernel_rfl)
theorem fo_as_dict : h.get? 229 = some (fnObj fd_as_dict) := X 229 _ (by kernel_rfl)
theorem fo_copy : h.get? 236 = some (fnObj fd_copy) := X 236 _ (by kernel_rfl)
theorem fo_names : h.get? 261 = some (fnObj fd_names) := X 261 _ (by kernel_rfl)
theorem fo_draw : h.get? 268 = some (fnObj fd_draw) := X 268 _ (by kernel_rfl)
theorem fo_record : h.get? 275 = some (fnObj fd_record) := X 275 _ (by kernel_rfl)
theorem fo_made : h.get? 282 = some (fnObj fd_made) := X 282 _ (by kernel_rfl)
theorem fo_order : h.get? 289 = some (fnObj fd_order) := X 289 _ (by kernel_rfl)
theorem fo_table : h.get? 294 = some (fnObj fd_table) := X 294 _ (by kernel_rfl)
theorem fo_plain : h.get? 301 = some (fnObj fd_plain) := X 301 _ (by kernel_rfl)
theorem fo_holds : h.get? 306 = some (fnObj fd_holds) := X 306 _ (by kernel_rfl)
theorem fo_refused : h.get? 313 = some (fnObj fd_refused) := X 313 _ (by kernel_rfl)
theorem fo_joined : h.get? 320 = some (fnObj fd_joined) := X 320 _ (by kernel_rfl)
theorem fo_draft : h.get? 325 = some (fnObj fd_draft) := X 325 _ (by kernel_rfl)
theorem fo_law : h.get? 332 = some (fnObj fd_law) := X 332 _ (by kernel_rfl)
end
def staticsOk (K : Frag) : Bool := match K.lookup cStatics with
  | some ⟨_, _, .dict es _, _⟩ => es.toList.all (fun e => match e.key with | .str _ _ => true | _ => false) && (nsFind es "sys.recursionlimit").isNone
  | _ => false
theorem nolimit_of {K : Frag} {h : Heap} (X : K.In h) (e : staticsOk K = true) : h.NoLimit := by
  unfold staticsOk at e
  split at e
  · rename_i c d es n sl ho
    obtain ⟨e1, e2⟩ := Bool.and_eq_true_iff.mp e
    refine ⟨nsFind es, ⟨_, es, n, X _ _ ho, rfl, fun k hk => ?_, fun _ => rfl⟩, Option.isNone_iff_eq_none.mp e2⟩
    have := List.all_eq_true.mp e1 k (Array.mem_toList_iff.mpr hk)
    cases q : k.key <;> rw [q] at this <;> first | exact ⟨_, _, rfl⟩ | cases this
  · cases e
theorem nolimit {w : World} {h : Heap} (X : Wd w h) : h.NoLimit := nolimit_of X (by kernel_rfl)
/-- the code records -/
def codeOk (K : Frag) (c : Addr) (q : Str) : Bool := match K.lookup c with
  | some ⟨_, _, .fields vs, _⟩ => (match vs.toList with | _ :: .str x _ :: _ => x == q | _ => false)
  | _ => false
theorem code_of {K : Frag} {h : Heap} {c : Addr} {q : Str} (X : K.In h) (e : codeOk K c q = true) : h.CodeRec (.ref c) q := by
  unfold codeOk at e
  split at e
  · rename_i cc d vs sl ho
    split at e
    · rename_i y x t r hv
      exact ⟨c, _, vs, t, rfl, X _ _ ho, rfl, by rw [← Array.getElem?_toList, hv, ← beq_iff_eq.mp e]; rfl⟩
    · cases e
  · cases e
def tabCode (P : Addr) (vs : Array Value) : Bool := (match vs.getD 11 .none with | .ref p => p == P | _ => false) && (match vs.getD 18 .none with | .str _ _ => true | _ => false) && (match vs.getD 7 .none with | .int _ _ => true | _ => false) &&
    (match vs.getD 9 .none with | .bool _ => true | _ => false) && (match vs.getD 10 .none with | .int _ _ => true | _ => false)
theorem tabCode_of {P : Addr} {vs : Array Value} (e : tabCode P vs = true) : ∃ f tf g tg b i ti, vs.getD 11 .none = .ref P ∧ vs.getD 18 .none = .str f tf ∧ vs.getD 7 .none = .int g tg ∧ vs.getD 9 .none = .bool b ∧ vs.getD 10 .none = .int i ti := by
  unfold tabCode at e
  simp only [Bool.and_eq_true] at e
  obtain ⟨⟨⟨⟨e1, e2⟩, e3⟩, e4⟩, e5⟩ := e
  cases h1 : vs.getD 11 .none <;> rw [h1] at e1 <;> first | cases e1 | skip
  cases h2 : vs.getD 18 .none <;> rw [h2] at e2 <;> first | cases e2 | skip
  cases h3 : vs.getD 7 .none <;> rw [h3] at e3 <;> first | cases e3 | skip
  cases h4 : vs.getD 9 .none <;> rw [h4] at e4 <;> first | cases e4 | skip
  cases h5 : vs.getD 10 .none <;> rw [h5] at e5 <;> first | cases e5 | skip
  exact ⟨_, _, _, _, _, _, _, by rw [beq_iff_eq.mp e1], rfl, rfl, rfl, rfl⟩
def tabIn (K : Frag) (c P : Addr) : Bool := match K.lookup c, K.lookup P with
  | some ⟨cl, _, .fields vs, _⟩, some ⟨.none, none, .fields ps, sl⟩ => (match cl with | .type n => n == "code" | _ => false) && tabCode P vs && ps.isEmpty && sl.isEmpty && !(c == P)
  | _, _ => false
theorem tab_in {K : Frag} {h : Heap} (X : K.In h) {c P : Addr} (e : tabIn K c P = true) : TabAt h c P := by
  unfold tabIn at e
  split at e
  · rename_i cl d vs sl' ps sl h1 h2
    simp only [Bool.and_eq_true, Bool.not_eq_true', beq_eq_false_iff_ne] at e
    obtain ⟨⟨⟨⟨e0, e1⟩, e2⟩, e3⟩, e4⟩ := e
    have hps : ps = #[] := Array.isEmpty_iff.mp e2
    have hsl : sl = #[] := Array.isEmpty_iff.mp e3
    subst hps hsl
    obtain ⟨f, tf, g, tg, b, i, ti, q1, q2, q3, q4, q5⟩ := tabCode_of e1
    cases cl <;> first | cases e0 | skip
    have hn := beq_iff_eq.mp e0
    subst hn
    refine ⟨#[], ⟨_, vs, f, tf, g, tg, b, i, ti, _, X _ _ h1, rfl, q1, q2, q3, q4, q5, X _ _ h2, rfl, trivial, e4⟩, ⟨⟨_, vs, X _ _ h1, rfl, rfl, ?_⟩, X _ _ h2⟩, fun pos v e => by cases e⟩
    rw [Array.getD_eq_getD_getElem?] at q1
    cases q : vs[11]? with
    | none => rw [q] at q1; cases q1
    | some v => rw [q] at q1; exact congrArg some q1
  · cases e
theorem tb_top {w : World} {h : Heap} (X : (hz.heap_352 w.params).In h) : Tb h :=
  ⟨tab_in X (by kernel_rfl), tab_in X (by kernel_rfl), tab_in X (by kernel_rfl), tab_in X (by kernel_rfl)⟩
theorem kv_look {K : Frag} {a : Addr} {o : Obj} : ∀ {K' : Frag}, (∀ p ∈ K', K.lookup p.1 = some p.2) → K'.lookup a = some o → K.lookup a = some o
  | [], _, e => by cases e
  | (b, x) :: r, h, e => by
    rw [List.lookup_cons] at e
    split at e
    · rename_i q
      cases e
      rw [beq_iff_eq.mp q]
      exact h _ List.mem_cons_self
    · exact kv_look (fun p m => h p (List.mem_cons_of_mem _ m)) e
end Mine
end

-- VL3
section
open PySem PySem.W PySem.Calls PyProof.Rows
set_option maxHeartbeats 4000000
namespace Mine
section
variable {prog : Program} {w : World} {A : Around} {E : Value → Shared → Prop} {s : Shared} {env : Env} {m : Str → Option Value}
theorem r_local {x : Str} {pos : Pos} {v : Value} {Q : Value → Shared → Prop} (F : Fm s.heap env.locals m) (hv : m x = some v) (h : Q v s) (hk : env.scope.kind = .function := by rfl) (hl : env.kindOf x = some .local := by rfl)
    (hd : (x == ("__debug__" : Str)) = false := by decide) : wpAny (model prog w) A (eval (.Name x pos) env) Q E s := wpAny_Name (wpAny_loadName_local hk hl F.ns hv h) hd
theorem r_global {x : Str} {pos : Pos} {v : Value} {Q : Value → Shared → Prop} (X : Wd w s.heap) (e : nsIn (KV w) 3 x = some (some v)) (h : Q v s) (hk : env.scope.kind = .function := by rfl) (hl : env.kindOf x = some .globalImplicit := by rfl) (hg : env.globals = 3 := by rfl)
    (hd : (x == ("__debug__" : Str)) = false := by decide) : wpAny (model prog w) A (eval (.Name x pos) env) Q E s := by
  refine Name_function_global hk hl ?_ hd
  unfold loadGlobal
  rw [hg]
  exact wpAny_bind ((looks_nsIn X e).here (wpAny_pure h))
theorem r_builtin {x : Str} {pos : Pos} {v : Value} {Q : Value → Shared → Prop} (X : Wd w s.heap) (e : nsIn (KV w) 3 x = some none) (e' : nsIn (KV w) 0 x = some (some v)) (h : Q v s) (hk : env.scope.kind = .function := by rfl) (hl : env.kindOf x = some .globalImplicit := by rfl)
    (hg : env.globals = 3 := by rfl) (hb : env.builtins = 0 := by rfl) (hd : (x == ("__debug__" : Str)) = false := by decide) : wpAny (model prog w) A (eval (.Name x pos) env) Q E s := by
  refine Name_function_global hk hl ?_ hd
  unfold loadGlobal
  rw [hg, hb]
  exact wpAny_bind ((looks_nsIn X e).here (wpAny_bind ((looks_nsIn X e').here (wpAny_pure h))))
end
/-- an instance of ParseResults -/
abbrev noDict : Obj := ⟨.type "dict", none, .dict #[] 0, #[]⟩
abbrev prObj (dx : Addr) (tl td par nm md an : Value) : Obj := ⟨.ref 240, some dx, .plain, #[some an, some md, some nm, some par, some td, some tl]⟩
theorem n_PR (w : World) : nsIn (KV w) 3 "ParseResults" = some (some (.ref 240)) := by kernel_rfl
theorem n_PO (w : World) : nsIn (KV w) 3 "_ParseResultsWithOffset" = some (some (.ref 46)) := by kernel_rfl
theorem n_len3 (w : World) : nsIn (KV w) 3 "len" = some none := by kernel_rfl
theorem n_len0 (w : World) : nsIn (KV w) 0 "len" = some (some (.builtin "len")) := by kernel_rfl
theorem c_ga (w : World) : findIn (KV w) (.ref 240) "__getattribute__" = some (some (.builtin "object.__getattribute__")) := by kernel_rfl
theorem c_gattr (w : World) : findIn (KV w) (.ref 240) "__getattr__" = some none := by kernel_rfl
theorem c_tl (w : World) : findObj (KV w) 240 (some noDict) "_toklist" = some (.bind (.builtin "member_descriptor.__get__") (.ref 247)) := by kernel_rfl
theorem c_td (w : World) : findObj (KV w) 240 (some noDict) "_tokdict" = some (.bind (.builtin "member_descriptor.__get__") (.ref 246)) := by kernel_rfl
theorem c_par (w : World) : findObj (KV w) 240 (some noDict) "_parent" = some (.bind (.builtin "member_descriptor.__get__") (.ref 245)) := by kernel_rfl
theorem c_nm (w : World) : findObj (KV w) 240 (some noDict) "_name" = some (.bind (.builtin "member_descriptor.__get__") (.ref 244)) := by kernel_rfl
theorem c_an (w : World) : findObj (KV w) 240 (some noDict) "_all_names" = some (.bind (.builtin "member_descriptor.__get__") (.ref 242)) := by kernel_rfl
theorem s_tl (w : World) : slotIn (KV w) 247 240 = some 5 := by kernel_rfl
theorem s_td (w : World) : slotIn (KV w) 246 240 = some 4 := by kernel_rfl
theorem s_par (w : World) : slotIn (KV w) 245 240 = some 3 := by kernel_rfl
theorem s_nm (w : World) : slotIn (KV w) 244 240 = some 2 := by kernel_rfl
theorem s_md (w : World) : slotIn (KV w) 243 240 = some 1 := by kernel_rfl
theorem s_an (w : World) : slotIn (KV w) 242 240 = some 0 := by kernel_rfl
section
variable {prog : Program} {w : World} {A : Around} {E : Value → Shared → Prop} {s : Shared}
theorem pr_get {a dx : Addr} {sl : Array (Option Value)} {name : Str} {p i : Nat} {v : Value} {expr : Bool} {Q : Value → Shared → Prop} (X : Wd w s.heap) (ha : s.heap.get? a = some ⟨.ref 240, some dx, .plain, sl⟩) (hx : s.heap.get? dx = some noDict)
    (hf : findObj (KV w) 240 (some noDict) name = some (.bind (.builtin "member_descriptor.__get__") (.ref p))) (hp : slotIn (KV w) p 240 = some i) (hv : (sl[i]?).join = some v) (hh : handedIn v = true) (h : Q v { s with toks := s.toks + 1 }) :
    wpAny (model prog w) A (getAttr (.ref a) name expr) Q E s :=
  have I : InstAt s.heap a ⟨.ref 240, some dx, .plain, sl⟩ 240 (some noDict) := ⟨ha, rfl, rfl, hx⟩
  get_bind X I (c_ga w) hf (c_gattr w) (wpAny_call (slot_get (s := { s with toks := s.toks + 1 }) X I hp hv (handed_on hh h)))
end
end Mine
end

-- VC0
section
open PySem PySem.W PySem.Calls PyProof.Rows
set_option maxHeartbeats 4000000
namespace Mine
structure Rm (n : Nat) (A : Around) : Prop where
  d : A.depth + 20 * n < recursionLimit
  u : A.units + 200 * n < cLine
  h : A.handled = none
theorem Rm.deep {n : Nat} {A : Around} (R : Rm (n + 1) A) (e : Env) : Rm n (A.deeper e) := ⟨by have := R.d; show A.depth + 1 + _ < _; omega, by have := R.u; show A.units + 3 + _ < _; omega, R.h⟩
theorem Rm.in1 {n : Nat} {A : Around} (R : Rm (n + 1) A) : Rm n A.in1 := ⟨by have := R.d; show A.depth + _ < _; omega, by have := R.u; show A.units + 1 + _ < _; omega, R.h⟩
theorem Rm.less {n k : Nat} {A : Around} (R : Rm n A) (h : k ≤ n) : Rm k A := ⟨by have := R.d; omega, by have := R.u; omega, R.h⟩
theorem Rm.room {n : Nat} {A : Around} (R : Rm n A) : A.depth < recursionLimit := by have := R.d; omega
theorem Rm.eqs {n : Nat} {A : Around} (R : Rm (n + 1) A) : A.units + 64 < cLine := by have := R.u; omega
/-- the generators that were there stand as they were, and the new ones bring no cleanup -/
structure GX (a b : Array GenState) : Prop where
  k : ∀ (i : Nat) (x : GenState), a[i]? = some x → b[i]? = some x
  b : (∀ x : GenState, x ∈ a → x.bare = true) → ∀ x : GenState, x ∈ b → x.bare = true
theorem GX.refl (a : Array GenState) : GX a a := ⟨fun _ _ e => e, fun h => h⟩
theorem GX.trans {a b c : Array GenState} (x : GX a b) (y : GX b c) : GX a c := ⟨fun i z e => y.k i z (x.k i z e), fun h => y.b (x.b h)⟩
/-- what a call that changes nothing leaves behind -/
structure Ev (s s' : Shared) : Prop where
  ka : Ka s.heap s'.heap
  os : s'.os = s.os
  gens : GX s.gens s'.gens
theorem Ev.kp {s s' : Shared} (x : Ev s s') : Kp s.heap s'.heap := x.ka.kp
theorem Ev.refl (s : Shared) : Ev s s := ⟨.refl _, rfl, .refl _⟩
theorem Ev.trans {a b c : Shared} (x : Ev a b) (y : Ev b c) : Ev a c := ⟨x.ka.trans y.ka, y.os.trans x.os, x.gens.trans y.gens⟩
theorem Ev.of {s : Shared} {h : Heap} {t : Nat} (k : Ka s.heap h) : Ev s { s with heap := h, toks := t } := ⟨k, rfl, .refl _⟩
theorem pl_of {o : Obj} {T : String} (h : o.cls = .type T) (n : (!turning.contains T) = true) : pl o = true := by
  unfold pl; rw [h]; exact n
theorem kp_turn {h h' : Heap} {a : Addr} {o : Obj} {T : String} (e : h.get? a = some o) (c : o.cls = .type T) (n : turning.contains T = true) (s : ∀ b, b ≠ a → h'.get? b = h.get? b) : Kp h h' := by
  have ne : ∀ b o', h.get? b = some o' → (pl o' = true ∨ tabO o' = true) → b ≠ a := fun b o' eb p q => by
    subst q
    rw [e] at eb; cases eb
    rcases p with p | p
    · unfold pl at p; rw [c] at p
      have p' : (!turning.contains T) = true := p
      rw [n] at p'; cases p'
    · rw [tab_cls p] at c; cases c
  exact ⟨fun b o' eb p => (s b (ne b o' eb (.inl p))).trans eb, fun b o' eb p => .inl ((s b (ne b o' eb (.inr p))).trans eb)⟩
theorem isList_kp {h h' : Heap} {a : Addr} {its : Array Value} (x : h.IsList a its) (k : Kp h h') : h'.IsList a its :=
  let ⟨o, ho, hc, r⟩ := x; ⟨o, k.k a o ho (pl_of hc (by decide)), hc, r⟩
theorem isTup_kp {h h' : Heap} {a : Addr} {its : Array Value} (x : IsTup h a its) (k : Kp h h') : IsTup h' a its :=
  let ⟨o, ho, hc, r⟩ := x; ⟨o, k.k a o ho (pl_of hc (by decide)), hc, r⟩
section
variable {prog : Program} {w : World} {K : Type} [DecidableEq K] {knd : KeyKind prog w K}
theorem dictOf_kp {h h' : Heap} {a : Addr} {kvs : List (K × Value)} (x : h.DictOf knd a kvs) (k : Kp h h') : h'.DictOf knd a kvs :=
  let ⟨o, es, ep, ho, he, r⟩ := x; ⟨o, es, ep, k.k a o ho (pl_of he.1 (by decide)), he, r⟩
theorem setOf_kp {h h' : Heap} {a : Addr} {S : K → Bool} {n : Nat} (x : h.SetOf knd a S n) (k : Kp h h') : h'.SetOf knd a S n :=
  let ⟨o, es, ep, t, ho, he, r⟩ := x; ⟨o, es, ep, t, k.k a o ho (pl_of he.1 (by decide)), he, r⟩
end
mutual
theorem reads_kp {h h' : Heap} (k : Kp h h') : ∀ {v : Value} {d : PyData} {as : List Addr}, Reads h v d as → Reads h' v d as
  | _, _, _, .none => .none
  | _, _, _, .bool b => .bool b
  | _, _, _, .int i t => .int i t
  | _, _, _, .str x t => .str x t
  | _, _, _, .list a b c d => .list (k.k _ _ a (pl_of b (by decide))) b c (readsAll_kp k d)
  | _, _, _, .tuple a b c d => .tuple (k.k _ _ a (pl_of b (by decide))) b c (readsAll_kp k d)
  | _, _, _, .dict a b c d e => .dict (k.k _ _ a (pl_of b (by decide))) b c (readsAll_kp k d) (readsAll_kp k e)
theorem readsAll_kp {h h' : Heap} (k : Kp h h') : ∀ {v : List Value} {d : List PyData} {as : List Addr}, ReadsAll h v d as → ReadsAll h' v d as
  | _, _, _, .nil => .nil
  | _, _, _, .cons a b => .cons (reads_kp k a) (readsAll_kp k b)
end
/-- v tells d -/
def Rd (h : Heap) (v : Value) (d : PyData) : Prop := ∃ as, Reads h v d as
theorem Rd.kp {h h' : Heap} {v : Value} {d : PyData} (x : Rd h v d) (k : Kp h h') : Rd h' v d := let ⟨as, r⟩ := x; ⟨as, reads_kp k r⟩
inductive All2 {α β : Type} (R : α → β → Prop) : List α → List β → Prop
  | nil : All2 R [] []
  | cons {a : α} {b : β} {as : List α} {bs : List β} : R a b → All2 R as bs → All2 R (a :: as) (b :: bs)
theorem All2.mono {α β : Type} {R R' : α → β → Prop} (f : ∀ a b, R a b → R' a b) : ∀ {as : List α} {bs : List β}, All2 R as bs → All2 R' as bs
  | _, _, .nil => .nil
  | _, _, .cons x y => .cons (f _ _ x) (y.mono f)
theorem All2.length {α β : Type} {R : α → β → Prop} : ∀ {as : List α} {bs : List β}, All2 R as bs → as.length = bs.length
  | _, _, .nil => rfl
  | _, _, .cons _ y => by rw [List.length_cons, List.length_cons, y.length]
theorem All2.get {α β : Type} {R : α → β → Prop} : ∀ {as : List α} {bs : List β} {i : Nat} {a : α}, All2 R as bs → as[i]? = some a → ∃ b, bs[i]? = some b ∧ R a b
  | _, _, 0, _, .cons x _, e => by cases e; exact ⟨_, rfl, x⟩
  | _, _, i + 1, _, .cons _ y, e => y.get (i := i) e
theorem All2.append {α β : Type} {R : α → β → Prop} : ∀ {as : List α} {bs : List β} {as' : List α} {bs' : List β}, All2 R as bs → All2 R as' bs' → All2 R (as ++ as') (bs ++ bs')
  | _, _, _, _, .nil, y => y
  | _, _, _, _, .cons a x, y => .cons a (x.append y)
theorem readsAll_of {h : Heap} : ∀ {vs : List Value} {ds : List PyData}, All2 (Rd h) vs ds → ∃ as, ReadsAll h vs ds as
  | _, _, .nil => ⟨_, .nil⟩
  | _, _, .cons ⟨_, x⟩ y => let ⟨_, z⟩ := readsAll_of y; ⟨_, .cons x z⟩
theorem rd_list {h : Heap} {a : Addr} {vs : List Value} {ds : List PyData} (x : h.IsList a vs.toArray) (y : All2 (Rd h) vs ds) : Rd h (.ref a) (.list ds) := by
  obtain ⟨o, ho, hc, n, hd⟩ := x
  obtain ⟨as, z⟩ := readsAll_of y
  exact ⟨_, .list ho hc hd z⟩
theorem rd_tup {h : Heap} {a : Addr} {vs : List Value} {ds : List PyData} (x : IsTup h a vs.toArray) (y : All2 (Rd h) vs ds) : Rd h (.ref a) (.tuple ds) := by
  obtain ⟨o, ho, hc, n, hd⟩ := x
  obtain ⟨as, z⟩ := readsAll_of y
  exact ⟨_, .tuple ho hc hd z⟩
theorem of_readsAll {h : Heap} : ∀ {vs : List Value} {ds : List PyData} {as : List Addr}, ReadsAll h vs ds as → All2 (Rd h) vs ds
  | _, _, _, .nil => .nil
  | _, _, _, .cons x y => .cons ⟨_, x⟩ (of_readsAll y)
theorem of_rd_list {h : Heap} {v : Value} {ds : List PyData} (x : Rd h v (.list ds)) : ∃ a vs, v = .ref a ∧ h.IsList a vs.toArray ∧ All2 (Rd h) vs ds := by
  obtain ⟨as, r⟩ := x
  cases r with
  | list a b c d => exact ⟨_, _, rfl, ⟨_, a, b, _, c⟩, of_readsAll d⟩
theorem of_rd_tup {h : Heap} {v : Value} {ds : List PyData} (x : Rd h v (.tuple ds)) : ∃ a vs, v = .ref a ∧ IsTup h a vs.toArray ∧ All2 (Rd h) vs ds := by
  obtain ⟨as, r⟩ := x
  cases r with
  | tuple a b c d => exact ⟨_, _, rfl, ⟨_, a, b, _, c⟩, of_readsAll d⟩
theorem of_rd_str {h : Heap} {v : Value} {x : Str} (r : Rd h v (.str x)) : ∃ t, v = .str x t := by
  obtain ⟨as, r⟩ := r
  cases r; exact ⟨_, rfl⟩
theorem rd_str {h : Heap} (x : Str) (t : Tok) : Rd h (.str x t) (.str x) := ⟨_, .str x t⟩

/-- what a value of ParseResults tells: a text, or a list of what its tokens tell -/
inductive Itm where
  | s (x : Str)
  | sub (xs : List Str)
def Itm.tell : Itm → PyData
  | .s x => .str x
  | .sub xs => .list (xs.map .str)
section
variable (prog : Program) (w : World)
/-- an instance of ParseResults: its tokens, its names (each with the list that stands under it), its starred names -/
def PRx (h : Heap) (a : Addr) (vs : List Value) (kvs : List (Str × Value)) (S : Str → Bool) : Prop :=
  ∃ dx tl td an par nm md n, h.get? a = some (prObj dx (.ref tl) (.ref td) par nm md (.ref an)) ∧ h.get? dx = some noDict ∧ h.IsList tl vs.toArray ∧ h.DictOf (PySem.strKind prog w) td kvs ∧ (td == sysModules) = false ∧ h.SetOf (PySem.strKind prog w) an S n ∧ vs.length ≤ 64 ∧ kvs.length ≤ 64
theorem PRx.kp {prog : Program} {w : World} {h h' : Heap} {a : Addr} {vs : List Value} {kvs : List (Str × Value)} {S : Str → Bool} (x : PRx prog w h a vs kvs S) (k : Kp h h') : PRx prog w h' a vs kvs S := by
  obtain ⟨dx, tl, td, an, par, nm, md, n, a1, a0, a2, a3, a4, a5, a6⟩ := x
  exact ⟨dx, tl, td, an, par, nm, md, n, k.k _ _ a1 rfl, k.k _ _ a0 rfl, isList_kp a2 k, dictOf_kp a3 k, a4, setOf_kp a5 k, a6⟩
def StrV (v : Value) (x : Str) : Prop := ∃ t, v = .str x t
/-- a value of a name; a ParseResults among them lies at or above N -/
def ItA (N : Nat) (h : Heap) (v : Value) : Itm → Prop
  | .s x => StrV v x
  | .sub xs => ∃ a vs S, v = .ref a ∧ N ≤ a ∧ PRx prog w h a vs [] S ∧ All2 StrV vs xs
theorem ItA.kp {prog : Program} {w : World} {N : Nat} {h h' : Heap} {v : Value} {I : Itm} (x : ItA prog w N h v I) (k : Kp h h') : ItA prog w N h' v I := by
  cases I with
  | s x => exact x
  | sub xs => obtain ⟨a, vs, S, r, l, p, q⟩ := x; exact ⟨a, vs, S, r, l, p.kp k, q⟩
/-- a _ParseResultsWithOffset -/
abbrev poDict (P : Params) (tk : Tok) (t : Value) (n : Nat) : Obj := ⟨.type "dict", none, .dict #[⟨PyData.keyHash P "tup", .str "tup" tk, t⟩] n, #[]⟩
def POx (h : Heap) (o : Value) (v : Value) : Prop :=
  ∃ a d t, ∃ i : Int × Tok, ∃ tk n, o = .ref a ∧ h.get? a = some ⟨.ref 46, some d, .plain, #[]⟩ ∧ h.get? d = some (poDict w.params tk (.ref t) n) ∧ IsTup h t [v, .int i.1 i.2].toArray
theorem POx.kp {w : World} {h h' : Heap} {o v : Value} (x : POx w h o v) (k : Kp h h') : POx w h' o v := by
  obtain ⟨a, d, t, i, tk, n, e, p1, p2, p3⟩ := x
  exact ⟨a, d, t, i, tk, n, e, k.k _ _ p1 rfl, k.k _ _ p2 rfl, isTup_kp p3 k⟩
/-- what stands under a name: a list of values with their places -/
def UnA (N : Nat) (h : Heap) (v : Value) (Is : List Itm) : Prop := ∃ l os, v = .ref l ∧ h.IsList l os.toArray ∧ os.length ≤ 64 ∧ All2 (fun o I => ∃ x, POx w h o x ∧ ItA prog w N h x I) os Is
theorem UnA.kp {prog : Program} {w : World} {N : Nat} {h h' : Heap} {v : Value} {Is : List Itm} (x : UnA prog w N h v Is) (k : Kp h h') : UnA prog w N h' v Is := by
  obtain ⟨l, os, e, a, z, b⟩ := x
  exact ⟨l, os, e, isList_kp a k, z, b.mono fun o I ⟨x, p, q⟩ => ⟨x, p.kp k, q.kp k⟩⟩
/-- the names of a ParseResults -/
def DiA (N : Nat) (h : Heap) (kvs : List (Str × Value)) (D : List (Str × List Itm)) : Prop := All2 (fun (kv : Str × Value) (d : Str × List Itm) => kv.1 = d.1 ∧ d.2 ≠ [] ∧ UnA prog w N h kv.2 d.2) kvs D
theorem DiA.kp {prog : Program} {w : World} {N : Nat} {h h' : Heap} {kvs : List (Str × Value)} {D : List (Str × List Itm)} (x : DiA prog w N h kvs D) (k : Kp h h') : DiA prog w N h' kvs D :=
  All2.mono (fun _ _ ⟨e, n, u⟩ => ⟨e, n, u.kp k⟩) x
/-- a ParseResults, told whole -/
def PRt (N : Nat) (h : Heap) (a : Addr) (Is : List Itm) (D : List (Str × List Itm)) (S : Str → Bool) : Prop :=
  ∃ vs kvs, PRx prog w h a vs kvs S ∧ All2 (ItA prog w N h) vs Is ∧ DiA prog w N h kvs D
theorem PRt.kp {prog : Program} {w : World} {N : Nat} {h h' : Heap} {a : Addr} {Is : List Itm} {D : List (Str × List Itm)} {S : Str → Bool} (x : PRt prog w N h a Is D S) (k : Kp h h') : PRt prog w N h' a Is D S := by
  obtain ⟨vs, kvs, p, q, r⟩ := x
  exact ⟨vs, kvs, p.kp k, q.mono fun _ _ z => z.kp k, r.kp k⟩
end
end Mine
end

-- VB
section
open PySem PySem.W PySem.Calls PyProof.Rows
set_option maxHeartbeats 4000000
namespace Mine
theorem kv_small (w : World) : ((KV w).all fun p => decide (p.1 < 333)) = true := by kernel_rfl
theorem mem_of_look {K : Frag} {a : Addr} {o : Obj} (e : K.lookup a = some o) : ∃ p ∈ K, p.1 = a := by
  induction K with
  | nil => cases e
  | cons p r ih =>
    obtain ⟨b, x⟩ := p
    rw [List.lookup_cons] at e
    split at e
    · rename_i q
      exact ⟨_, List.mem_cons_self, (beq_iff_eq.mp q).symm⟩
    · obtain ⟨p, m, q⟩ := ih e
      exact ⟨p, List.mem_cons_of_mem _ m, q⟩
theorem kv_lt {w : World} {a : Addr} {o : Obj} (e : (KV w).lookup a = some o) : a < 333 := by
  obtain ⟨p, m, rfl⟩ := mem_of_look e
  exact of_decide_eq_true (List.all_eq_true.mp (kv_small w) p m)
/-- h' keeps all objects of h below n, and all records of code; code tables may grow -/
structure Kf (n : Nat) (h h' : Heap) : Prop where
  k : ∀ b o, b < n → h.get? b = some o → tabO o = false → h'.get? b = some o
  c : ∀ b o, h.get? b = some o → codeO o → h'.get? b = some o
  t : ∀ b o, b < n → h.get? b = some o → tabO o = true → Grown h' b o
theorem Kf.refl (n : Nat) (h : Heap) : Kf n h h := ⟨fun _ _ _ e _ => e, fun _ _ e _ => e, fun _ _ _ e _ => .inl e⟩
theorem Kf.trans {n : Nat} {a b c : Heap} (x : Kf n a b) (y : Kf n b c) : Kf n a c := ⟨fun k o l e p => y.k k o l (x.k k o l e p) p, fun b o e c => y.c b o (x.c b o e c) c, fun k o l e p => grown_trans (R := fun z => z < n) y.t y.c l (x.t k o l e p) p⟩
theorem Kf.less {n m : Nat} {a b : Heap} (x : Kf n a b) (h : m ≤ n) : Kf m a b := ⟨fun k o l => x.k k o (by omega), x.c, fun k o l => x.t k o (by omega)⟩
theorem Ka.kf {n : Nat} {h h' : Heap} (x : Ka h h') : Kf n h h' := ⟨fun b o _ => x.k b o, fun b o e c => x.k b o e (code_tab c), fun b o _ => x.t b o⟩
theorem Kf.ka {n : Nat} {h h' : Heap} (x : Kf n h h') (hn : h.objs.size ≤ n) : Ka h h' :=
  ⟨fun b o e => x.k b o (Nat.lt_of_lt_of_le (Heap.lt_size e) hn) e, fun b o e => x.t b o (Nat.lt_of_lt_of_le (Heap.lt_size e) hn) e⟩
theorem Kf.same {n : Nat} {h h' : Heap} {a : Addr} (s : Heap.SameBut a h h') (ha : n ≤ a) (hc : ∃ o, h.get? a = some o ∧ ¬ codeO o) : Kf n h h' := by
  obtain ⟨oa, ea, ca⟩ := hc
  refine ⟨fun b o l q _ => (s.2 b (Nat.ne_of_lt (Nat.lt_of_lt_of_le l ha))).trans q, fun b o q c => (s.2 b (fun z => ?_)).trans q, fun b o l q _ => .inl ((s.2 b (Nat.ne_of_lt (Nat.lt_of_lt_of_le l ha))).trans q)⟩
  subst z
  rw [q] at ea; cases ea
  exact ca c
theorem Kf.of {n : Nat} {h h' : Heap} (k : ∀ b o, h.get? b = some o → h'.get? b = some o) : Kf n h h' := (Ka.of k).kf
theorem Wd.floor {w : World} {n : Nat} {h h' : Heap} (X : Wd w h) (k : Kf n h h') (hn : 333 ≤ n) : Wd w h' := fun a o e =>
  k.k a o (Nat.lt_of_lt_of_le (kv_lt e) hn) (X a o e) (pl_tab (kv_pl (w := w) e))
theorem TabAt.floor {h h' : Heap} {c P n : Addr} (x : TabAt h c P) (k : Kf n h h') (_hc : c < n) (hP : P < n) : TabAt h' c P := tab_step x k.c fun o e p => k.t P o hP e p
theorem Tb.floor {n : Nat} {h h' : Heap} (x : Tb h) (k : Kf n h h') (hn : 333 ≤ n) : Tb h' :=
  have f : ∀ a : Nat, a < 333 → a < n := fun _ h => Nat.lt_of_lt_of_le h hn
  ⟨x.1.floor k (f 139 (by decide)) (f 135 (by decide)), x.2.1.floor k (f 146 (by decide)) (f 142 (by decide)), x.2.2.1.floor k (f 208 (by decide)) (f 206 (by decide)), x.2.2.2.floor k (f 228 (by decide)) (f 224 (by decide))⟩
theorem Wd.big {w : World} {h : Heap} (X : Wd w h) : 333 ≤ h.objs.size := Heap.lt_size (fo_law X)
/-- what a call leaves behind that changes nothing below n -/
structure Ef (n : Nat) (s s' : Shared) : Prop where
  kf : Kf n s.heap s'.heap
  os : s'.os = s.os
  gens : GX s.gens s'.gens
theorem Ef.refl (n : Nat) (s : Shared) : Ef n s s := ⟨.refl _ _, rfl, .refl _⟩
theorem Ef.trans {n : Nat} {a b c : Shared} (x : Ef n a b) (y : Ef n b c) : Ef n a c := ⟨x.kf.trans y.kf, y.os.trans x.os, x.gens.trans y.gens⟩
theorem Ev.ef {n : Nat} {s s' : Shared} (x : Ev s s') : Ef n s s' := ⟨x.ka.kf, x.os, x.gens⟩
theorem Ef.ev {n : Nat} {s s' : Shared} (x : Ef n s s') (h : s.heap.objs.size ≤ n) : Ev s s' := ⟨x.kf.ka h, x.os, x.gens⟩
theorem Ef.less {n m : Nat} {s s' : Shared} (x : Ef n s s') (h : m ≤ n) : Ef m s s' := ⟨x.kf.less h, x.os, x.gens⟩
/-- the state inside a body: e is what it was at the entry, n the floor, L the frame, m its names -/
structure Bd (w : World) (n : Nat) (e : Shared) (L : Addr) (m : Str → Option Value) (s : Shared) : Prop where
  ef : Ef n e s
  fm : Fm s.heap L m
  lo : n ≤ L
  big : 333 ≤ n
  wd0 : Wd w e.heap
namespace Bd
variable {w : World} {n : Nat} {e s s' : Shared} {L : Addr} {m : Str → Option Value}
theorem wd (B : Bd w n e L m s) : Wd w s.heap := B.wd0.floor B.ef.kf B.big
theorem tb (B : Bd w n e L m s) (T : Tb e.heap) : Tb s.heap := T.floor B.ef.kf B.big
theorem lt (B : Bd w n e L m s) : n < s.heap.objs.size := by
  obtain ⟨o, a, _⟩ := B.fm.cls
  exact Nat.lt_of_le_of_lt B.lo (Heap.lt_size a)
theorem tok (B : Bd w n e L m s) (t : Nat) : Bd w n e L m { s with toks := t } := ⟨⟨B.ef.kf, B.ef.os, B.ef.gens⟩, B.fm, B.lo, B.big, B.wd0⟩
theorem keep (B : Bd w n e L m s) {h' : Heap} {t : Nat} (k : ∀ b o, s.heap.get? b = some o → h'.get? b = some o) : Bd w n e L m { s with heap := h', toks := t } := by
  obtain ⟨o, a, c⟩ := B.fm.cls
  exact ⟨⟨B.ef.kf.trans (.of k), B.ef.os, B.ef.gens⟩, B.fm.keeps ((k _ _ a).trans a.symm), B.lo, B.big, B.wd0⟩
theorem push (B : Bd w n e L m s) (o : Obj) (t : Nat) : Bd w n e L m { s with heap := s.heap.push o, toks := t } := B.keep fun _ _ q => Heap.get?_push_of_some _ q
theorem ev (B : Bd w n e L m s) (x : Ev s s') : Bd w n e L m s' := by
  obtain ⟨o, a, c⟩ := B.fm.cls
  have := x.ka.k _ _ a (by unfold tabO; rw [c])
  exact ⟨B.ef.trans x.ef, B.fm.keeps (this.trans a.symm), B.lo, B.big, B.wd0⟩
/-- a call that changes nothing below k -/
theorem fl (B : Bd w n e L m s) {k : Nat} (x : Ef k s s') (h : n ≤ k) (hL : L < k) : Bd w n e L m s' := by
  obtain ⟨o, a, c⟩ := B.fm.cls
  have := x.kf.k _ _ hL a (by unfold tabO; rw [c])
  exact ⟨B.ef.trans (x.less h), B.fm.keeps (this.trans a.symm), B.lo, B.big, B.wd0⟩
/-- a change at a -/
theorem at_ (B : Bd w n e L m s) {a : Addr} {h' : Heap} {t : Nat} (x : Heap.SameBut a s.heap h') (ha : n ≤ a) (hL : L ≠ a) (hc : ∃ o, s.heap.get? a = some o ∧ ¬ codeO o) : Bd w n e L m { s with heap := h', toks := t } := by
  obtain ⟨o, q, c⟩ := B.fm.cls
  exact ⟨⟨B.ef.kf.trans (.same x ha hc), B.ef.os, B.ef.gens⟩, B.fm.keeps (x.2 _ hL), B.lo, B.big, B.wd0⟩
theorem out (B : Bd w n e L m s) : Ef n e s := B.ef
end Bd
section
variable {prog : Program} {w : World} {A : Around} {E : Value → Shared → Prop} {s : Shared}
/-- x = v, for a local x -/
theorem b_store {n : Nat} {e : Shared} {env : Env} {name : Str} {m : Str → Option Value} {v : Value} {Q : Unit → Shared → Prop} {M : Model} (B : Bd w n e env.locals m s)
    (h : ∀ h', Bd w n e env.locals (fun x => if x = name then some v else m x) { s with heap := h', toks := s.toks + 1 } → Kp s.heap h' → Heap.SameBut env.locals s.heap h' → Q () { s with heap := h', toks := s.toks + 1 })
    (hl : env.kindOf name = some .local := by rfl) (hp : (env.scope.kind == .class || (env.scope.kind == .module && env.locals != env.globals)) = false := by rfl) : wpAny M A (storeName env name v) Q E s := by
  rw [storeName_local hl hp]
  exact v_nsSet B.fm fun h' F' hs => h h' ⟨⟨B.ef.kf.trans (.same hs B.lo (by obtain ⟨o, q, c⟩ := B.fm.cls; exact ⟨o, q, nc_cls (by rw [c]; simp)⟩)), B.ef.os, B.ef.gens⟩, F', B.lo, B.big, B.wd0⟩ (.same B.fm hs) hs
/-- a binding, that may make new objects -/
def BindsNew (s : Shared) (fd : FuncData) (args : Args) (binds : List (Str × Value)) : Prop :=
  ∀ (M : Model) (A : Around) (E : Value → Shared → Prop) (Q : List (Str × Value) → Shared → Prop), (∀ h' t, (∀ b o, s.heap.get? b = some o → h'.get? b = some o) → s.heap.objs.size ≤ h'.objs.size → Q binds { s with heap := h', toks := t }) → wpAny M A (bindArgs fd args) Q E s
theorem BindsNew.of_eq {fd : FuncData} {args : Args} {binds : List (Str × Value)} (h : bindArgs fd args = pure binds) : BindsNew s fd args binds :=
  fun _ _ _ _ hq => h ▸ wpAny_pure (hq s.heap s.toks (fun _ _ e => e) (Nat.le_refl _))
theorem BindsNew.of {fd : FuncData} {args : Args} {binds : List (Str × Value)} (h : BindsTo s fd args binds) : BindsNew s fd args binds :=
  fun M A E Q hq => h M A E Q (hq s.heap s.toks (fun _ _ e => e) (Nat.le_refl _))
/-- a def's body is walked -/
theorem b_enter {n : Nat} {Q : Value → Shared → Prop} {a : Addr} {o : Obj} {fd : FuncData} {args : Args} {binds : List (Str × Value)} {body : List Stmt} (X : Wd w s.heap) (hn : 333 ≤ n) (hns : n ≤ s.heap.objs.size)
    (hroom : A.depth < recursionLimit) (ho : s.heap.get? a = some o) (hdata : o.data = .func fd) (hcd : s.heap.CodeRec fd.code fd.qualname)
    (hbody : fd.body = .stmts body) (hbind : BindsNew s fd args binds)
    (hcell : ∀ x ∈ fd.scope.names, x.2 ≠ .cell) (hloc : ∀ x ∈ binds, fd.scope.names.lookup x.1 = some .local)
    (h : ∀ L s₁, Bd w n s L (fun x => binds.reverse.lookup x) s₁ → s.heap.objs.size ≤ L → Ev s s₁ →
      wpAny (model prog w) (A.deeper (callEnv fd L a)) (execs body (callEnv fd L a)) (fun f s' => Q (match f with | .ret v => v | _ => .none) s') (fun _ _ => False) s₁)
    (hco : fd.scope.isCoroutine = false := by rfl) (hgen : fd.scope.isGenerator = false := by rfl) (hk : fd.scope.kind = .function := by rfl) : Ret prog w A (.ref a) args s Q := by
  refine codeAny_call_function hroom ho hdata hco hgen hbody hcd (hbind _ _ _ _ fun h' t k hz => ?_)
  refine v_newEnv hcell hloc (fun h₀ F hk₀ => ⟨(nolimit X).keeps fun b o e => hk₀ b o (k b o e), codeAny_func ?_⟩) hk
  have keep : ∀ b o, s.heap.get? b = some o → h₀.get? b = some o := fun b o e => hk₀ b o (k b o e)
  exact wpAny_mono (h _ _ ⟨⟨.of keep, rfl, .refl _⟩, F, Nat.le_trans hns hz, hn, X⟩ hz ⟨.of keep, rfl, .refl _⟩) (fun f s' z => z) fun _ _ z => z.elim
end
end Mine
end

-- VC1
section
open PySem PySem.W PySem.Calls PyProof.Rows
set_option maxHeartbeats 4000000
namespace Mine
section
variable {prog : Program} {w : World} {A : Around} {E : Value → Shared → Prop} {s : Shared}
theorem call_iter {v : Value} {Q : Value → Shared → Prop} (h : wpAny (model prog w) A.in1 (pyIter v) Q E s) : wpAny (model prog w) A (call (.builtin "iter") [v]) Q E s := by
  refine call_function_entry (by decide +kernel) (by decide +kernel) kdk_entry_iter (kdk_args_iter _) ?_
  unfold Builtin.«iter»
  refine wpAny_bind (m := someArgs "iter" 1 2 _) (wpAny_of_eq (a := [v]) (by first | rfl | kernel_rfl!) ?_)
  exact wpAny_bind (wpAny_mono h (fun _ _ z => wpAny_pure ⟨_, rfl, z⟩) fun _ _ z => z)
theorem n_iter3 (w : World) : nsIn (KV w) 3 "iter" = some none := by kernel_rfl
theorem n_iter0 (w : World) : nsIn (KV w) 0 "iter" = some (some (.builtin "iter")) := by kernel_rfl
theorem IsList.kp {h h' : Heap} {a : Addr} {its : Array Value} (x : h.IsList a its) (k : Kp h h') : h'.IsList a its := isList_kp x k

theorem c_len {n : Nat} {a : Addr} {vs : List Value} {kvs : List (Str × Value)} {S : Str → Bool} (R : Rm (n + 1) A) (X : Wd w s.heap) (P : PRx prog w s.heap a vs kvs S) :
    Ret prog w A (.ref 105) ⟨[.ref a], []⟩ s (fun v s' => (∃ t, v = .int vs.length t) ∧ Ev s s') := by
  obtain ⟨dx, tl, td, an, par, nm, md, k, ha, hx, hl, hd, hs, hS, hz, hz'⟩ := P
  refine v_enter (binds := [("self", .ref a)]) (body := bodyOf fd_len) R.room (fo_len X) rfl (nolimit X) (code_of X (by kernel_rfl)) rfl (.of_eq rfl) (by decide) (locs rfl) fun h₀ F k => ?_
  have X' := X.mono (.of k)
  refine wpAny_execs_cons (wpAny_Return_some (Call_ (r_builtin X' (n_len3 w) (n_len0 w) (PyProof.Rows.callWith_builtin1 ?_))))
  refine wpAny_items_cons (Attribute_Name_ (r_local F rfl (pr_get X' (k _ _ ha) (k _ _ hx) (c_tl w) (s_tl w) rfl rfl ?_)))
  refine wpAny_items_nil (call_len_list (isList_kp hl (.of k)) (by rw [List.size_toArray]; omega) ⟨⟨_, rfl⟩, .of (.of k)⟩)
theorem c_haskeys {n : Nat} {a : Addr} {vs : List Value} {kvs : List (Str × Value)} {S : Str → Bool} (R : Rm (n + 1) A) (X : Wd w s.heap) (P : PRx prog w s.heap a vs kvs S) :
    Ret prog w A (.ref 154) ⟨[.ref a], []⟩ s (fun v s' => v = .bool (!kvs.isEmpty) ∧ Ev s s') := by
  obtain ⟨dx, tl, td, an, par, nm, md, k, ha, hx, hl, hd, hs, hS, hz, hz'⟩ := P
  refine v_enter (binds := [("self", .ref a)]) (body := bodyOf fd_haskeys) R.room (fo_haskeys X) rfl (nolimit X) (code_of X (by kernel_rfl)) rfl (.of_eq rfl) (by decide) (locs rfl) fun h₀ F k => ?_
  have X' := X.mono (.of k)
  refine wpAny_execs_cons (wpAny_Return_some (wpAny_UnaryOp (wpAny_UnaryOp (Attribute_Name_ (r_local F rfl (pr_get X' (k _ _ ha) (k _ _ hx) (c_td w) (s_td w) rfl rfl ?_))))))
  refine not_value (wpAny_truthy_dict hs (dictOf_kp hd (.of k)) (by omega) (not_value (wpAny_truthy_bool ⟨?_, .of (.of k)⟩)))
  rw [Bool.not_not]
theorem c_bool {n : Nat} {a : Addr} {vs : List Value} {kvs : List (Str × Value)} {S : Str → Bool} (R : Rm (n + 1) A) (X : Wd w s.heap) (P : PRx prog w s.heap a vs kvs S) :
    Ret prog w A (.ref 112) ⟨[.ref a], []⟩ s (fun v s' => v = .bool (!(vs.isEmpty && kvs.isEmpty)) ∧ Ev s s') := by
  obtain ⟨dx, tl, td, an, par, nm, md, k, ha, hx, hl, hd, hs, hS, hz, hz'⟩ := P
  refine v_enter (binds := [("self", .ref a)]) (body := bodyOf fd_bool) R.room (fo_bool X) rfl (nolimit X) (code_of X (by kernel_rfl)) rfl (.of_eq rfl) (by decide) (locs rfl) fun h₀ F k => ?_
  have X' := X.mono (.of k)
  refine wpAny_execs_cons (wpAny_Return_some (wpAny_UnaryOp (wpAny_UnaryOp (wpAny_Or2 (Attribute_Name_ (r_local F rfl (pr_get X' (k _ _ ha) (k _ _ hx) (c_tl w) (s_tl w) rfl rfl ?_)))))))
  refine wpAny_truthy_list (isList_kp hl (.of k)) (by rw [List.size_toArray]; omega) ?_
  cases vs with
  | cons v vs =>
    refine not_value (wpAny_truthy_list (isList_kp hl (.of k)) (by rw [List.size_toArray]; omega) (not_value (wpAny_truthy_bool ⟨?_, .of (.of k)⟩)))
    simp
  | nil =>
    refine Attribute_Name_ (r_local F rfl (pr_get X' (k _ _ ha) (k _ _ hx) (c_td w) (s_td w) rfl rfl ?_))
    refine not_value (wpAny_truthy_dict hs (dictOf_kp hd (.of k)) (by omega) (not_value (wpAny_truthy_bool ⟨?_, .of (.of k)⟩)))
    simp
theorem c_iter {n : Nat} {a : Addr} {vs : List Value} {kvs : List (Str × Value)} {S : Str → Bool} (R : Rm (n + 1) A) (X : Wd w s.heap) (P : PRx prog w s.heap a vs kvs S) :
    Ret prog w A (.ref 119) ⟨[.ref a], []⟩ s (fun v s' => (∃ it l, v = .ref it ∧ s.heap.objs.size ≤ it ∧ l < s.heap.objs.size ∧ s'.heap.IsListIter it l 0 ∧ s'.heap.IsList l vs.toArray) ∧ Ev s s') := by
  obtain ⟨dx, tl, td, an, par, nm, md, k, ha, hx, hl, hd, hs, hS, hz, hz'⟩ := P
  refine v_enter (binds := [("self", .ref a)]) (body := bodyOf fd_iter) R.room (fo_iter X) rfl (nolimit X) (code_of X (by kernel_rfl)) rfl (.of_eq rfl) (by decide) (locs rfl) fun h₀ F k => ?_
  have X' := X.mono (.of k)
  refine wpAny_execs_cons (wpAny_Return_some (Call_ (r_builtin X' (n_iter3 w) (n_iter0 w) (PyProof.Rows.callWith_builtin1 ?_))))
  refine wpAny_items_cons (Attribute_Name_ (r_local F rfl (pr_get X' (k _ _ ha) (k _ _ hx) (c_tl w) (s_tl w) rfl rfl ?_)))
  have hl' := isList_kp hl (.of k)
  exact wpAny_items_nil (call_iter (wpAny_pyIter_list hl' ⟨⟨_, _, rfl, Nat.le_of_lt (by obtain ⟨o', q, _⟩ := F.cls; exact Heap.lt_size q), (by obtain ⟨o', q, _⟩ := hl; exact Heap.lt_size q), ⟨_, Heap.get?_push_size _ rfl, rfl, rfl⟩, hl'.push _⟩, .of ((Ka.of k).trans (.push _ _))⟩))
theorem c_reversed {n : Nat} {a : Addr} {vs : List Value} {kvs : List (Str × Value)} {S : Str → Bool} (R : Rm (n + 1) A) (X : Wd w s.heap) (P : PRx prog w s.heap a vs kvs S) :
    Ret prog w A (.ref 126) ⟨[.ref a], []⟩ s (fun v s' => (∃ it l, v = .ref it ∧ s.heap.objs.size ≤ it ∧ s'.heap.IsListIter it l 0 ∧ s'.heap.IsList l vs.reverse.toArray) ∧ Ev s s') := by
  obtain ⟨dx, tl, td, an, par, nm, md, k, ha, hx, hl, hd, hs, hS, hz, hz'⟩ := P
  refine v_enter (binds := [("self", .ref a)]) (body := bodyOf fd_reversed) R.room (fo_reversed X) rfl (nolimit X) (code_of X (by kernel_rfl)) rfl (.of_eq rfl) (by decide) (locs rfl) fun h₀ F k => ?_
  have X' := X.mono (.of k)
  refine wpAny_execs_cons (wpAny_Return_some (Call_ (r_builtin X' (n_iter3 w) (n_iter0 w) (PyProof.Rows.callWith_builtin1 ?_))))
  refine wpAny_items_cons (Subscript_ (Attribute_Name_ (r_local F rfl (pr_get X' (k _ _ ha) (k _ _ hx) (c_tl w) (s_tl w) rfl rfl ?_))))
  have hl' := isList_kp hl (.of k)
  refine wpAny_Slice (wpAny_evalPart_none (wpAny_evalPart_none (wpAny_evalPart_some (wpAny_UnaryOp (wpAny_Constant_int (PyProof.Rows.neg_int ?_))))))
  refine tail_any (hl'.push _).typeIs list_getitem_lookup (wpAny_getItem_list_slice (hl'.push _) (Heap.IsSliceOf.new ..) .none .none (.int _ _) (by decide) ?_ (by rw [List.size_toArray, sizeLine_eq]; omega)) (by with_unfolding_all rfl)
  have e : slicePick vs.toArray none none (some (-1)) = vs.reverse.toArray := by rw [krv_pick]
  rw [e]
  refine wpAny_items_nil (call_iter (wpAny_pyIter_list ⟨_, Heap.get?_push_size _ rfl, rfl, _, rfl⟩ ?_))
  exact ⟨⟨_, _, rfl, Nat.le_of_lt (by obtain ⟨o', q, _⟩ := F.cls; exact Heap.lt_size (Heap.get?_push_of_some _ (Heap.get?_push_of_some _ q))), ⟨_, Heap.get?_push_size _ rfl, rfl, rfl⟩, ⟨_, Heap.get?_push_of_some _ (Heap.get?_push_size _ rfl), rfl, _, rfl⟩⟩, .of ((((Ka.of k).trans (.push _ _)).trans (.push _ _)).trans (.push _ _))⟩
theorem c_contains {n : Nat} {a : Addr} {vs : List Value} {kvs : List (Str × Value)} {S : Str → Bool} {x : Str} {t : Tok} (R : Rm (n + 1) A) (X : Wd w s.heap) (P : PRx prog w s.heap a vs kvs S) :
    Ret prog w A (.ref 98) ⟨[.ref a, .str x t], []⟩ s (fun v s' => v = .bool (valueAt kvs x).isSome ∧ Ev s s') := by
  obtain ⟨dx, tl, td, an, par, nm, md, k, ha, hx, hl, hd, hs, hS, hz, hz'⟩ := P
  refine v_enter (binds := [("self", .ref a), ("k", .str x t)]) (body := bodyOf fd_contains) R.room (fo_contains X) rfl (nolimit X) (code_of X (by kernel_rfl)) rfl (.of_eq rfl) (by decide) (locs rfl) fun h₀ F k => ?_
  have X' := X.mono (.of k)
  refine wpAny_execs_cons (wpAny_Return_some (wpAny_Compare1 (r_local F rfl (Attribute_Name_ (r_local F rfl (pr_get X' (k _ _ ha) (k _ _ hx) (c_td w) (s_td w) rfl rfl ?_))))))
  exact wpAny_in_of (PySem.strKind_is prog w x t) hs (dictOf_kp hd (.of k)).mapOf ⟨rfl, .of (.of k)⟩
theorem c_keys {n : Nat} {a : Addr} {vs : List Value} {kvs : List (Str × Value)} {S : Str → Bool} (R : Rm (n + 1) A) (X : Wd w s.heap) (P : PRx prog w s.heap a vs kvs S) :
    Ret prog w A (.ref 133) ⟨[.ref a], []⟩ s (fun v s' => (∃ it d ep, v = .ref it ∧ s.heap.objs.size ≤ it ∧ d < s.heap.objs.size ∧ (d == sysModules) = false ∧ s'.heap.IsKeyIter it d 0 kvs.length ep ∧ s'.heap.DictAt (PySem.strKind prog w) d kvs ep) ∧ Ev s s') := by
  obtain ⟨dx, tl, td, an, par, nm, md, k, ha, hx, hl, hd, hs, hS, hz, hz'⟩ := P
  refine v_enter (binds := [("self", .ref a)]) (body := bodyOf fd_keys) R.room (fo_keys X) rfl (nolimit X) (code_of X (by kernel_rfl)) rfl (.of_eq rfl) (by decide) (locs rfl) fun h₀ F k => ?_
  have X' := X.mono (.of k)
  refine wpAny_execs_cons (wpAny_Return_some (Call_ (r_builtin X' (n_iter3 w) (n_iter0 w) (PyProof.Rows.callWith_builtin1 ?_))))
  refine wpAny_items_cons (Attribute_Name_ (r_local F rfl (pr_get X' (k _ _ ha) (k _ _ hx) (c_td w) (s_td w) rfl rfl ?_)))
  obtain ⟨o, es, ep, ho, r⟩ := dictOf_kp hd (.of k)
  have hd' : h₀.DictAt (PySem.strKind prog w) td kvs ep := ⟨o, es, ho, r⟩
  exact wpAny_items_nil (call_iter (wpAny_pyIter_dict hs hd' ⟨⟨_, _, ep, rfl, Nat.le_of_lt (by obtain ⟨o', q, _⟩ := F.cls; exact Heap.lt_size q), (by obtain ⟨o', es', ep', q, _⟩ := hd; exact Heap.lt_size q), hs, ⟨_, Heap.get?_push_size _ rfl, rfl, rfl⟩, ⟨o, es, Heap.get?_push_of_some _ ho, r⟩⟩, .of ((Ka.of k).trans (.push _ _))⟩))
end
end Mine
end

-- VC2
section
open PySem PySem.W PySem.Calls PyProof.Rows
set_option maxHeartbeats 4000000
namespace Mine
theorem d_ga (w : World) : findIn (KV w) (.ref 46) "__getattribute__" = some (some (.builtin "object.__getattribute__")) := by kernel_rfl
theorem d_gi (w : World) : findIn (KV w) (.ref 46) "__getitem__" = some (some (.ref 43)) := by kernel_rfl
theorem d_tup (w : World) (tk : Tok) (t : Value) (n : Nat) : findObj (KV w) 46 (some (poDict w.params tk t n)) "tup" = some (.value t) := by kernel_rfl
theorem f_43 (w : World) : fnIn (KV w) 43 = true := by kernel_rfl
theorem g_43 (w : World) : isFn (KV w) (.ref 43) = true := by kernel_rfl
section
variable {prog : Program} {w : World} {A : Around} {E : Value → Shared → Prop} {s : Shared}
theorem c_po_getitem {n : Nat} {o v : Value} {t : Tok} (R : Rm (n + 1) A) (X : Wd w s.heap) (P : POx w s.heap o v) :
    Ret prog w A (.ref 43) ⟨[o, .int 0 t], []⟩ s (fun r s' => r = v ∧ Ev s s') := by
  obtain ⟨a, d, tp, i, tk, k, rfl, ha, hd, ht⟩ := P
  refine v_enter (binds := [("self", .ref a), ("i", .int 0 t)]) (body := bodyOf fd_po_getitem) R.room (fo_po_getitem X) rfl (nolimit X) (code_of X (by kernel_rfl)) rfl (.of_eq rfl) (by decide) (locs rfl) fun h₀ F k => ?_
  have X' := X.mono (.of k)
  have I : InstAt h₀ a ⟨.ref 46, some d, .plain, #[]⟩ 46 (some (poDict w.params tk (.ref tp) _)) := ⟨k _ _ ha, rfl, rfl, k _ _ hd⟩
  refine wpAny_execs_cons (wpAny_Return_some (Subscript_ (Attribute_Name_ (r_local F rfl (get_value X' I (d_ga w) (d_tup w _ _ _) rfl (r_local F rfl ?_))))))
  exact item_tupleT (l := [v, .int i.1 i.2]) (isTup_kp ht (.of k)) (by decide) (by decide) (j := 0) rfl rfl ⟨rfl, .of (.of k)⟩
/-- x[i], for an instance whose class writes __getitem__ itself: what its method gives, or raises -/
theorem own_item {x C f : Addr} {ox : Obj} {od : Option Obj} {fd : FuncData} {i : Value} {value slice : Expr} {Q : Value → Shared → Prop} (X : Wd w s.heap) (I : InstAt s.heap x ox C od) (hs : findIn (KV w) (.ref C) "__getitem__" = some (some (.ref f)))
    (hf : s.heap.get? f = some (fnObj fd)) (ht : typeIn (KV w) (.ref f) = some (.type "function")) (h : wpAny (model prog w) A.in1 (call (.ref f) [.ref x, i]) Q E s)
    (hsl : subscripted slice true (.ref x) i = runValue (.builtin "lifetime.subscript" ⟨[.ref x, i], []⟩)) : wpAny (model prog w) A (subscriptTail value slice (.ref x) i) Q E s := by
  have spec : Looks (model prog w) s.heap (specialOf (.ref x) "__getitem__") (some (.ref f)) := I.type.andThen (looks_findIn X hs)
  have fn : Looks (model prog w) s.heap (load f) (fnObj fd) := fun _ _ _ _ k q => wpAny_load (k _ _ hf) q
  have py : Looks (model prog w) s.heap (getitemInPython (.ref x)) true := spec.andThen (fn.andThen .now)
  refine wpAny_bind (py.here ?_)
  rw [hsl]
  have meth := special_fn (Q := fun r s' => ∃ v, r = some v ∧ Q v s') (args := [i]) X I hs ht (wpAny_mono h (fun v _ z => ⟨v, rfl, z⟩) fun _ _ z => z)
  refine wpAny_bind (wpAny_runValue (codeAny_builtin entry_sub (wpAny_bind (wpAny_mono meth (fun r s' z => ?_) fun _ _ z => z))))
  obtain ⟨v, rfl, z⟩ := z
  exact wpAny_pure (wpAny_bind (m := letTemporaryGo value (.ref x) v) (wpAny_letTemporaryGo (wpAny_pure z)))
/-- o[0] of a value with its place -/
theorem po_item {n : Nat} {o v : Value} {t : Tok} {value slice : Expr} {Q : Value → Shared → Prop} (R : Rm (n + 2) A) (X : Wd w s.heap) (P : POx w s.heap o v) (h : ∀ s', Ev s s' → Q v s')
    (hsl : ∀ x, subscripted slice true (.ref x) (.int 0 t) = runValue (.builtin "lifetime.subscript" ⟨[.ref x, .int 0 t], []⟩) := by intro _; with_unfolding_all rfl) :
    wpAny (model prog w) A (subscriptTail value slice o (.int 0 t)) Q E s := by
  have C := c_po_getitem (prog := prog) (t := t) (A := A.in1) R.in1 X P
  obtain ⟨a, d, tp, i, tk, k, rfl, ha, hd, ht⟩ := P
  refine own_item X (show InstAt s.heap a ⟨.ref 46, some d, .plain, #[]⟩ 46 (some (poDict w.params tk (.ref tp) k)) from ⟨ha, rfl, rfl, hd⟩) (d_gi w) (fo_po_getitem X) (beq_iff_eq.mp (g_43 w)) (C.call fun v' s' z => ?_) (hsl a)
  exact z.1 ▸ h s' z.2
end
end Mine
end

-- VC3
section
open PySem PySem.W PySem.Calls PyProof.Rows
set_option maxHeartbeats 4000000
namespace Mine
theorem p_reads (w : World) : readsIn (KV w) 240 (.type "type") = true := by kernel_rfl
theorem p_new (w : World) : findCls (KV w) (.ref 240) (.type "type") "__new__" = some (.get (.builtin "staticmethod.__get__") (.ref 241) .none (.ref 240)) := by kernel_rfl
theorem p_sm (w : World) : recIn (KV w) 241 "staticmethod" = some [.ref 66] := by kernel_rfl
theorem p_call (w : World) : specialIn (KV w) (.ref 240) "__call__" = some (some (.builtin "type.__call__")) := by kernel_rfl
theorem p_typ (w : World) : instIn (KV w) (.ref 240) (.type "type") = some true := by kernel_rfl
theorem p_init (w : World) : findIn (KV w) (.ref 240) "__init__" = some (some (.ref 74)) := by kernel_rfl
theorem p_fn74 (w : World) : typeIn (KV w) (.ref 74) = some (.type "function") := by kernel_rfl
theorem p_self (w : World) : mroIn (KV w) 240 (.ref 240) = some true := by kernel_rfl
section
variable {prog : Program} {w : World} {A : Around} {E : Value → Shared → Prop} {s : Shared}
def prCls : ClassData := { name := "ParseResults", bases := [.type "object"], mro := [.ref 240, .type "object"], ns := 239, qualname := "ParseResults", hasDict := false, slotNames := ["_all_names", "_modal", "_name", "_parent", "_tokdict", "_toklist"] }
theorem cls_obj {h : Heap} (X : Wd w h) : h.get? 240 = some ⟨.type "type", none, .cls prCls, #[none, none, some (.str "ParseResults" 235), some (.str "ParseResults" 243), some .none, some (.bool false)]⟩ := X 240 _ (by kernel_rfl)
theorem p_cls (w : World) : clsIn (KV w) 240 = some prCls := by kernel_rfl
theorem made_none {M : Model} {h : Heap} (X : Wd w h) : Looks M h (Bind.madeBy (.ref 240)) none := by
  have hC := cls_obj X
  have hm : Looks M h (mroOf (.ref 240)) prCls.mro := (looks_clsIn X (p_cls w)).andThen .now
  intro A Q E s k q
  unfold Bind.madeBy
  refine wpAny_bind (hm A _ E s k ?_)
  rw [show prCls.mro = [.ref 240, .type "object"] from rfl, List.forIn_cons]
  refine wpAny_bind (wpAny_bind (wpAny_bind (wpAny_bind (wpAny_loadPart (k _ _ hC) (wpAny_pure ?_)))))
  exact wpAny_pure (wpAny_pure (wpAny_pure q))
/-- the instance is of the class -/
def IsPR (h : Heap) (v : Value) : Prop := ∃ a o, v = .ref a ∧ h.get? a = some o ∧ o.cls = .ref 240
/-- ParseResults(..): its __new__ and its __init__ -/
theorem pr_make {rest : List Value} {kw : List (Str × Value)} {Q : Value → Shared → Prop} (X : Wd w s.heap)
    (h : ∀ t, wpAny (model prog w) (A.under (.builtin "type.__call__" ⟨.ref 240 :: rest, kw⟩)) (PySem.call (.ref 66) (.ref 240 :: rest) kw) (fun v s' => Wd w s'.heap ∧ IsPR s'.heap v ∧
      wpAny (model prog w) (A.under (.builtin "type.__call__" ⟨.ref 240 :: rest, kw⟩)) (PySem.call (.ref 74) (v :: rest) kw) (fun r s'' => r = .none ∧ Q v s'') (fun _ _ => False) s') (fun _ _ => False) { s with toks := t }) :
    Ret prog w A (.ref 240) ⟨rest, kw⟩ s Q := by
  obtain ⟨h₀, g, d, t, os⟩ := s
  have hC := cls_obj X
  refine codeAny_of_tree ?_
  show wpAny _ _ (callAny (.ref 240) _) _ _ _
  refine nd_load hC ?_
  show wpAny _ _ (callAny.viaDunder (.ref 240) _) _ _ _
  unfold callAny.viaDunder
  refine wpAny_bind ((looks_specialIn X (p_call w)).at ?_)
  dsimp only
  rw [tc_bind]
  refine wpAny_bind (wpAny_pure (wpAny_bind (wpAny_pure ?_)))
  refine wpAny_pure (a := Fin.again (.call (.builtin "type.__call__") ⟨.ref 240 :: rest, kw⟩)) (And.intro rfl ?_)
  refine codeAny_call_builtin_at (Code.quiet_builtin _ (by decide +kernel)) entry_typeCall (check_slot tc_kind tc_split (looks_instIn X (p_typ w)) (tc_args _ _ _) ?_)
  unfold Builtin.«type.__call__»
  have hm : Looks (model prog w) h₀ (mroOf (.ref 240)) prCls.mro := ((Looks.ld (part := none) hC).andThen .now).andThen .now
  have hmade := made_none (M := model prog w) X
  repeat (first | simp only [prCls, List.isEmpty_cons, Bool.false_eq_true, if_false] | with_reducible refine cls_bind X (p_reads w) (p_new w) (wpAny_call (sm_get (s := { heap := h₀, gens := g, drawn := d, toks := t + 1, os := os }) X (p_sm w) (handed_on rfl (wpAny_bind (wpAny_holding (wpAny_mono (h (t + 1)) ?_ fun _ _ z => z)))))) | lk)
  intro v s' z
  obtain ⟨X', ⟨a, o, rfl, ho, hc⟩, z⟩ := z
  have t1 : Looks (model prog w) s'.heap (typeOf (.ref a)) (.ref 240) := hc ▸ (Looks.ld ho).andThen .now
  unfold isInstance callSpecial? specialOf
  refine wpAny_bind (wpAny_bind (t1.here ((looks_mroIn X' (p_self w)).here ?_)))
  rw [if_neg (by decide)]
  refine wpAny_bind (wpAny_holding (wpAny_bind (wpAny_bind (t1.here ((looks_findIn X' (p_init w)).here ?_)))))
  refine wpAny_holding (wpAny_bind ((bind_fn X' _ (p_fn74 w)).here (wpAny_bind (wpAny_mono z (fun r s'' y => ?_) fun _ _ y => y))))
  obtain ⟨rfl, y⟩ := y
  exact wpAny_pure (wpAny_pure y)
end
end Mine
end

-- VC4
section
open PySem PySem.W PySem.Calls PyProof.Rows
set_option maxHeartbeats 4000000
namespace Mine
section
variable {prog : Program} {w : World} {A : Around} {E : Value → Shared → Prop} {s : Shared}
theorem p_here {M : Model} {h : Heap} (X : Wd w h) (hM : M.w = w) : Looks M h (Bind.madeHere "object.__new__" (.ref 240)) () := Looks.of_peek X (by subst hM; kernel_rfl)
theorem p_base {M : Model} {h : Heap} (X : Wd w h) : Looks M h (Bind.staticBase (.ref 240)) (.type "object") := Looks.of_peek X (by kernel_rfl)
theorem p_obj {M : Model} {h : Heap} (X : Wd w h) : Looks M h (Bind.madeBy (.type "object")) (some "object.__new__") := Looks.of_peek X (by kernel_rfl)
theorem p_sub {M : Model} {h : Heap} (X : Wd w h) : Looks M h (isSubtype (.ref 240) (.type "object")) true := Looks.of_peek X (by kernel_rfl)
theorem p_ini {M : Model} {h : Heap} (X : Wd w h) : Looks M h (typeLookup (.ref 240) "__init__") (some (.ref 74)) := Looks.of_peek X (by kernel_rfl)
theorem p_cd {M : Model} {h : Heap} (X : Wd w h) : Looks M h (classData 240) prCls := Looks.of_peek X (by kernel_rfl)
/-- an instance of the class is laid, its dict being there -/
theorem pr_inst {dx : Addr} {Q : Value → Shared → Prop} (X : Wd w s.heap) (q : Q (.ref s.heap.objs.size) { s with heap := s.heap.push (instObj 240 dx) }) : wpAny (model prog w) A (newObj (.ref 240) .plain (some dx)) Q E s := by
  have c := Heap.get?_push_of_some (instObj 240 dx) (cls_obj X)
  show wpAny _ _ (newObjAsIs (.ref 240) .plain (some dx)) _ _ _
  unfold newObjAsIs
  refine wpAny_bind (wpAny_alloc (wpAny_bind ?_))
  unfold classHasDel
  exact wpAny_bind (wpAny_load c (wpAny_pure (wpAny_pure q)))
/-- object.__new__(ParseResults): what is checked ahead of it -/
theorem objnew_check {Q : Unit → Shared → Prop} (X : Wd w s.heap) (q : Q () s) : wpAny (model prog w) A (checkBuiltinCall "object.__new__" ⟨[.ref 240], []⟩) Q E s := by
  have F := PySem.F.objNew
  have c := cls_obj X
  have h1 := p_base (M := model prog w) X
  have h2 := p_sub (M := model prog w) X
  have h4 := p_obj (M := model prog w) X
  have h3 : Bind.checkArgs "object.__new__" ⟨.hand, "object.__new__", "__new__", .cls, []⟩ ⟨[.ref 240], []⟩ = pure () := by kernel_rfl
  unfold checkBuiltinCall
  rw [F.kind, F.split]
  simp only [F.row, h3]
  obtain ⟨hh, g, d, t, os⟩ := s
  dsimp only at c
  repeat (first | exact q | rw [if_neg (show ¬ (Manifest.canonical "object.__new__" != Manifest.canonical "object.__new__") = true by rw [bne_self_eq_false]; exact Bool.false_ne_true)] | lk)
/-- object.__new__(ParseResults) -/
theorem objnew_body {Q : Fin → Shared → Prop} (X : Wd w s.heap) (q : Q (.done (.ret (.ref (s.heap.objs.size + 1)))) { s with heap := (s.heap.push emptyDict).push (instObj 240 s.heap.objs.size) }) :
    wpAny (model prog w) A (Builtin.«object.__new__» ⟨[.ref 240], []⟩) Q E s := by
  have c := cls_obj X
  have i0 := p_here (M := model prog w) X rfl
  have i1 := p_ini (M := model prog w) X
  have i2 := p_cd (M := model prog w) X
  have last : wpAny (model prog w) A (some <$> alloc { cls := .type "dict", data := .dict #[] } >>= fun d => newObj (.ref 240) .plain d >>= fun v => ret v) Q E s := by
    refine wpAny_bind (wpAny_map (wpAny_alloc (wpAny_bind (pr_inst (X.mono (.push ..)) (wpAny_pure ?_)))))
    rw [Heap.size_push]
    exact q
  obtain ⟨hh, g, d, t, os⟩ := s
  dsimp only at c
  unfold Builtin.«object.__new__»
  repeat (first | exact last | rw [if_neg (show ¬ prCls.abstract = true from nofun)] | lk)
theorem pr_objnew {R : Result → Shared → Prop} {h : Heap} {g : Array GenState} {d : Drawn} {t : Nat} {os : OsState} (X : Wd w h)
    (hq : R (.ok (.ret (.ref (h.objs.size + 1)))) ⟨(h.push emptyDict).push (instObj 240 h.objs.size), g, d, t, os⟩) :
    codeAny (model prog w) A (.call (.builtin "object.__new__") ⟨[.ref 240], []⟩) R ⟨h, g, d, t, os⟩ :=
  codeAny_call_builtin_code (Code.quiet_builtin _ PySem.F.objNew.quiet) (objnew_check X (codeAny_builtin PySem.F.objNew.entry (objnew_body X hq)))
end
end Mine
end

-- VD
section
open PySem PySem.W PySem.Calls PyProof.Rows Builtin Builtin.ObjectAttr Builtin.Getset_descriptor
set_option maxHeartbeats 4000000
namespace Mine
theorem tc_dict_0 : checkTypeCall "dict" ⟨[], []⟩ = pure () := by kernel_rfl
theorem nc_dict_0 : checkBuiltinCall "dict.__new__" ⟨[.type "dict"], []⟩ = pure () := by kernel_rfl
theorem tc_list_0 : checkTypeCall "list" ⟨[], []⟩ = pure () := by kernel_rfl
theorem nc_list_0 : checkBuiltinCall "list.__new__" ⟨[.type "list"], []⟩ = pure () := by kernel_rfl
section
variable {prog : Program} {w : World} {A : Around} {E : Value → Shared → Prop} {s : Shared}
theorem cd_dict_0 {Q₁ : Value → Shared → Prop} (h : Q₁ (.ref s.heap.objs.size) { s with heap := s.heap.push { cls := .type "dict", data := .dict #[] } }) :
    codeAny (model prog w) A (.call (.builtin "dict.__new__") ⟨[.type "dict"], []⟩) (wants Q₁ E) s := by
  refine codeAny_call_builtin F.kt_plain_dict_new F.kt_entry_dict_new (wpAny_of_eq nc_dict_0 ?_)
  have hsub := F.kt_sub_dict
  have hmro := F.kt_mro_dict
  obtain ⟨hp, g, d, tk, os⟩ := s
  unfold Builtin.«dict.__new__»
  wp_walk
  exact h
theorem call_dict_0 {Q : Value → Shared → Prop} (h : Q (.ref s.heap.objs.size) { s with heap := s.heap.push { cls := .type "dict", data := .dict #[] } }) :
    wpAny (model prog w) A (call (.type "dict") []) Q E s := by
  refine callType_codes (Q₁ := fun obj s₁ => obj = .ref s.heap.objs.size ∧ s₁ = { s with heap := s.heap.push { cls := .type "dict", data := .dict #[] } }) F.kt_called_dict tc_dict_0 F.entry_dict_init (cd_dict_0 ⟨rfl, rfl⟩) ?_
  rintro obj s₁ ⟨rfl, rfl⟩
  have hT : ({ s with heap := s.heap.push { cls := .type "dict", data := .dict #[] } } : Shared).TypeIs (.ref s.heap.objs.size) "dict" := ⟨_, Heap.get?_push_size _ rfl, rfl⟩
  refine ⟨hT, F.args_dict_init_1 _, ?_⟩
  unfold Builtin.«dict.__init__»
  refine wpAny_bind ?_
  unfold Builtin.Dict.selfAndRest
  refine wpAny_bind (wpAny_notOrdered_dict hT ?_)
  show wpAny _ _ (pure (s.heap.objs.size, [])) _ _ _
  refine wpAny_pure ?_
  show wpAny _ _ (Builtin.Dict.addKeywords s.heap.objs.size [] >>= _) _ _ _
  exact wpAny_bind (wpAny_pure (wpAny_pure ⟨rfl, h⟩))
theorem cd_list_0 {Q₁ : Value → Shared → Prop} (h : Q₁ (.ref s.heap.objs.size) { s with heap := s.heap.push { cls := .type "list", data := .seq #[] } }) :
    codeAny (model prog w) A (.call (.builtin "list.__new__") ⟨[.type "list"], []⟩) (wants Q₁ E) s := by
  refine codeAny_of_tree ?_
  show wpAny _ A.in1 (do checkBuiltinCall "list.__new__" ⟨[.type "list"], []⟩; again (.builtin "list.__new__" ⟨[.type "list"], []⟩)) _ _ s
  refine wpAny_bind (wpAny_of_eq nc_list_0 (wpAny_pure ⟨plainId_quiet F.plain_list_new _, codeAny_builtin_stack F.entry_list_new rfl fun p st => ?_⟩))
  rw [Around.under_plainId F.plain_list_new _]
  have hsub := sub_list_self
  have hown := owner_list_new
  obtain ⟨hp, g, d, tk, os⟩ := s
  simp only [hown]
  wp_walk
  exact h
/-- list.__init__ empties its list, then goes on -/
theorem l_reset {M : Model} {S c : Nat} {k : Sem Fin} {Q : Fin → Shared → Prop} (hS : IsL s.heap S #[] c) (h : ∀ h' c', IsL h' S #[] c' → Heap.SameBut S s.heap h' → wpAny M A k Q E { s with heap := h' }) :
    wpAny M A (do let old ← Builtin.List.listItems (.ref S); Builtin.List.listUpdate (.ref S) (fun _ => #[]); letGo old.toList.reverse; k) Q E s :=
  have items : wpAny M A (Builtin.List.listItems (.ref S)) (fun old s' => old = #[] ∧ s' = s) E s := wpAny_bind (wpAny_seqItems hS rfl (wpAny_pure ⟨rfl, rfl⟩))
  wpAny_bind (wpAny_mono items (fun old s' z => by
    obtain ⟨rfl, rfl⟩ := z
    exact wpAny_bind (wpAny_updateSeq hS rfl (wpAny_bind (wpAny_letGo (h _ _ (IsL.update hS _) (Heap.SameBut.update ..)))))) fun _ _ z => z)
theorem call_list_0 {Q : Value → Shared → Prop} (h : ∀ h' n, IsL h' s.heap.objs.size #[] n → Heap.SameBut s.heap.objs.size (s.heap.push { cls := .type "list", data := .seq #[] }) h' → Q (.ref s.heap.objs.size) { s with heap := h' }) :
    wpAny (model prog w) A (call (.type "list") []) Q E s := by
  refine callType_codes (Q₁ := fun obj s₁ => obj = .ref s.heap.objs.size ∧ s₁ = { s with heap := s.heap.push { cls := .type "list", data := .seq #[] } }) F.called_list tc_list_0 F.entry_list_init (cd_list_0 ⟨rfl, rfl⟩) ?_
  rintro obj s₁ ⟨rfl, rfl⟩
  have q : IsL (s.heap.push { cls := .type "list", data := .seq #[] }) s.heap.objs.size #[] 0 := Heap.get?_push_size _ rfl
  exact ⟨⟨_, q, rfl⟩, F.args_list_init_1 _, l_reset q fun h' c' q' k => wpAny_pure ⟨rfl, h h' c' q' k⟩⟩
theorem t_gattr_class (w : World) : findObj (KV w) 240 (some noDict) "__class__" = some (.bind (.builtin "getset_descriptor.__get__") (.builtin "object.__class__")) := by kernel_rfl
theorem t_mro_obj (w : World) : mroIn (KV w) 240 (.type "object") = some true := by kernel_rfl
def PRat (a : Addr) (h : Heap) : Prop := ∃ dx sl, h.get? a = some ⟨.ref 240, some dx, .plain, sl⟩ ∧ h.get? dx = some noDict
theorem kitx_pr {a : Addr} : KitX (KV w) (.ref a) (.ref 240) (PRat a) where
  ty := fun _ _ _ ⟨dx, sl, h1, h2⟩ => (show InstAt _ a ⟨.ref 240, some dx, .plain, sl⟩ 240 (some noDict) from ⟨h1, rfl, rfl, h2⟩).type
  it := fun _ _ X _ => by
    intro A' Q' E' s' k q
    unfold isType loadHead
    exact wpAny_bind (wpAny_loadPart (k _ _ (cls_obj X)) (wpAny_pure q))
  ne := fun h tp dd its n sl X htp => by
    refine Bool.eq_false_iff.mpr fun q => ?_
    have e : (240 : Addr) = tp := Value.ref.inj (beq_iff_eq.mp q)
    subst e
    have z := (cls_obj X).symm.trans htp
    have z' := congrArg (fun o => (o.map (fun x : Obj => x.cls))) z
    simp at z'
  ca := fun X p k => by
    rename_i prog w' A E Q s
    obtain ⟨dx, sl, h1, h2⟩ := p
    have I : InstAt s.heap a ⟨.ref 240, some dx, .plain, sl⟩ 240 (some noDict) := ⟨h1, rfl, rfl, h2⟩
    exact kin_open X I (c_ga w) (kin_hooked (s := { s with toks := s.toks + 1 }) X I (t_gattr_class w) (c_gattr w)
      (wpAny_call (class_get (s := { s with toks := s.toks + 1 }) (ox := ⟨.ref 240, some dx, .plain, sl⟩) (od := some noDict) X I (t_mro_obj w) (handed_on rfl k))))
theorem u_setattr (w : World) : findIn (KV w) (.ref 240) "__setattr__" = some (some (.builtin "object.__setattr__")) := by kernel_rfl
theorem u_plain (w : World) : plainOver (KV w) 240 = true := by kernel_rfl
theorem u_tl (w : World) : takerIn (KV w) 240 "_toklist" = some (some (.ref 247)) := by kernel_rfl
theorem u_td (w : World) : takerIn (KV w) 240 "_tokdict" = some (some (.ref 246)) := by kernel_rfl
theorem u_par (w : World) : takerIn (KV w) 240 "_parent" = some (some (.ref 245)) := by kernel_rfl
theorem u_nm (w : World) : takerIn (KV w) 240 "_name" = some (some (.ref 244)) := by kernel_rfl
theorem u_md (w : World) : takerIn (KV w) 240 "_modal" = some (some (.ref 243)) := by kernel_rfl
theorem u_an (w : World) : takerIn (KV w) 240 "_all_names" = some (some (.ref 242)) := by kernel_rfl
theorem y_tl (w : World) : typeIn (KV w) (.ref 247) = some (.type "member_descriptor") := by kernel_rfl
theorem y_td (w : World) : typeIn (KV w) (.ref 246) = some (.type "member_descriptor") := by kernel_rfl
theorem y_par (w : World) : typeIn (KV w) (.ref 245) = some (.type "member_descriptor") := by kernel_rfl
theorem y_nm (w : World) : typeIn (KV w) (.ref 244) = some (.type "member_descriptor") := by kernel_rfl
theorem y_md (w : World) : typeIn (KV w) (.ref 243) = some (.type "member_descriptor") := by kernel_rfl
theorem y_an (w : World) : typeIn (KV w) (.ref 242) = some (.type "member_descriptor") := by kernel_rfl
/-- a slot's descriptor, its fields told -/
abbrev slotRec (d : Option Addr) (n : Str) (tn : Tok) (owner : Value) (behind : Int) (tb : Tok) (sl : Array (Option Value)) : Obj := ⟨.type "member_descriptor", d, .fields #[.str n tn, owner, .builtin "proto.slot", .builtin "proto.slot#set", .int behind tb], sl⟩
section
variable {M : Model} {h : Heap} {p a : Addr} {d : Option Addr} {n : Str} {tn tb : Tok} {owner : Value} {behind : Int} {sl : Array (Option Value)} (hp : h.get? p = some (slotRec d n tn owner behind tb sl)) (ty : Looks M h (typeOf (.ref a)) (.ref 240))
include hp ty
/-- the instance is of the descriptor's class -/
theorem sl_fits (hs : Looks M h (isSubtype (.ref 240) owner) true) : Looks M h (descrCheckInstance (.ref p) (.ref a)) () :=
  have named : Looks M h (descrNameAndClass (.ref p)) (n, owner) := (looks_field hp 0 (v := .str n tn) rfl).andThen ((looks_field hp 1 rfl).andThen .now)
  have is : Looks M h (isInstance (.ref a) owner) true := ty.andThen hs
  named.andThen (is.andThen (.of_pure rfl))
/-- where the slot lies -/
theorem sl_place {cd : ClassData} (hc : Looks M h (classData 240) cd) (hb : ¬ cd.slotNames.length ≤ behind.toNat) : Looks M h (Slots.target (.ref a) (.ref p)) (a, cd.slotNames.length - 1 - behind.toNat, n) := by
  have names : Looks M h (Slots.slotNamesOf (.ref 240)) cd.slotNames := hc.andThen .now
  refine (looks_field hp 4 (v := .int behind tb) rfl).andThen ((looks_field hp 0 (v := .str n tn) rfl).andThen (ty.andThen (names.andThen (.of_pure ?_))))
  dsimp only
  rw [if_neg hb]
end
/-- the store into the slot -/
theorem sl_store {p a : Addr} {o : Obj} {i : Nat} {n : Str} {v : Value} {Q : Fin → Shared → Prop} (hl : Looks (model prog w) s.heap (Slots.target (.ref a) (.ref p)) (a, i, n)) (ha : s.heap.get? a = some o) (hi : i < 1000)
    (q : Q (.done (.ret .none)) { s with heap := s.heap.update a fun o => { o with slots := (o.slots ++ Array.replicate (i + 1 - o.slots.size) none).setIfInBounds i (some v) } }) :
    wpAny (model prog w) A (Builtin.«proto.slot#set» ⟨[.ref a, v, .ref p], []⟩) Q E s := by
  have big : ¬ i ≥ sizeLine := by rw [sizeLine_eq]; omega
  refine wpAny_bind (hl.here (wpAny_bind ?_))
  unfold setSlotAt
  rw [if_neg big]
  exact wpAny_updatePart ha (wpAny_pure q)
/-- x.name = v, for a slot of a ParseResults -/
theorem pr_set {a dx p i : Addr} {sl sl' : Array (Option Value)} {name : Str} {v : Value} {Q : Unit → Shared → Prop} (X : Wd w s.heap) (ha : s.heap.get? a = some ⟨.ref 240, some dx, .plain, sl⟩) (hx : s.heap.get? dx = some noDict)
    (ht : takerIn (KV w) 240 name = some (some (.ref p))) (hT : typeIn (KV w) (.ref p) = some (.type "member_descriptor")) (hi : slotIn (KV w) p 240 = some i) (hz : decide (i < 1000) = true)
    (e : (sl ++ Array.replicate (i + 1 - sl.size) none).setIfInBounds i (some v) = sl')
    (h : ∀ h', h'.get? a = some ⟨.ref 240, some dx, .plain, sl'⟩ → Heap.SameBut a s.heap h' → Q () { s with heap := h', toks := s.toks + 1 }) : wpAny (model prog w) A (setAttr (.ref a) name v) Q E s := by
  have I : InstAt s.heap a ⟨.ref 240, some dx, .plain, sl⟩ 240 (some noDict) := ⟨ha, rfl, rfl, hx⟩
  obtain ⟨n, tn, owner, behind, tb, d, sd, cd, hp, hc, hm, hb, rfl⟩ := slot_of X hi
  have ty : Looks (model prog w) s.heap (typeOf (.ref a)) (.ref 240) := I.type
  have fits := sl_fits hp ty (looks_mroIn X hm)
  have self : Looks (model prog w) s.heap (descrItself (.ref p)) [.ref p] := ((Looks.ld (part := none) hp).andThen .now).andThen .now
  refine set_plain X I (u_setattr w) (osa_descr (s := { s with toks := s.toks + 1 }) KF.slot_mset X I (u_plain w) ht hT ?_)
  refine codeAny_call_builtin KF.slot_mset.plain KF.entry_mset (KF.slot_mset.check _ _ _ _ _ _ _ _ ⟨_, hp, rfl⟩ (KF.args_mset _ _ _) ?_)
  have all : ∀ b o, s.heap.get? b = some o → s.heap.get? b = some o := fun _ _ e => e
  refine wpAny_bind (fits _ _ _ _ all (wpAny_bind (self _ _ _ _ all ?_)))
  refine wpAny_bind (looks_field hp 3 (v := .builtin "proto.slot#set") rfl _ _ _ _ all ?_)
  refine wpAny_bind (wpAny_rule ?_)
  refine wpAny_pure (And.intro (Code.quiet_builtin _ (by decide +kernel)) (codeAny_builtin KF.entry_slotset ?_))
  refine sl_store (s := { s with toks := s.toks + 1 }) (sl_place hp ty (looks_clsIn X hc) hb) ha (of_decide_eq_true hz) (h _ ?_ (Heap.SameBut.update ..))
  rw [← e]
  exact Heap.get?_update_self _ ha rfl
end
end Mine
end

-- VE
section
open PySem PySem.W PySem.Calls PyProof.Rows
set_option maxHeartbeats 4000000
namespace Mine
theorem n_isi3 (w : World) : nsIn (KV w) 3 "isinstance" = some none := by kernel_rfl
theorem n_isi0 (w : World) : nsIn (KV w) 0 "isinstance" = some (some (.builtin "isinstance")) := by kernel_rfl
theorem n_obj3 (w : World) : nsIn (KV w) 3 "object" = some none := by kernel_rfl
theorem n_obj0 (w : World) : nsIn (KV w) 0 "object" = some (some (.type "object")) := by kernel_rfl
theorem n_set3 (w : World) : nsIn (KV w) 3 "set" = some none := by kernel_rfl
theorem n_set0 (w : World) : nsIn (KV w) 0 "set" = some (some (.type "set")) := by kernel_rfl
theorem n_list3 (w : World) : nsIn (KV w) 3 "list" = some none := by kernel_rfl
theorem n_list0 (w : World) : nsIn (KV w) 0 "list" = some (some (.type "list")) := by kernel_rfl
theorem n_dict3 (w : World) : nsIn (KV w) 3 "dict" = some none := by kernel_rfl
theorem n_dict0 (w : World) : nsIn (KV w) 0 "dict" = some (some (.type "dict")) := by kernel_rfl
theorem i_none (w : World) : kitOne (KV w) (.type "NoneType") (.ref 240) = some false := by kernel_rfl
theorem i_str (w : World) : kitOne (KV w) (.type "str") (.ref 240) = some false := by kernel_rfl
theorem i_list (w : World) : kitOne (KV w) (.type "list") (.ref 240) = some false := by kernel_rfl
theorem il_str (w : World) : kitOne (KV w) (.type "str") (.type "list") = some false := by kernel_rfl
theorem il_list (w : World) : kitOne (KV w) (.type "list") (.type "list") = some true := by kernel_rfl
/-- what ParseResults is made from -/
def NewArg (h : Heap) (tv : Value) (vs : List Value) : Prop := (tv = .none ∧ vs = []) ∨ (∃ x t, tv = .str x t ∧ vs = [tv]) ∨ (∃ l o n, tv = .ref l ∧ h.get? l = some o ∧ o.cls = .type "list" ∧ o.data = .seq vs.toArray n ∧ vs.length ≤ 64)
theorem NewArg.kp {h h' : Heap} {tv : Value} {vs : List Value} (x : NewArg h tv vs) (k : Kp h h') : NewArg h' tv vs := by
  rcases x with x | x | ⟨l, o, n, e, ho, hc, r⟩
  · exact .inl x
  · exact .inr (.inl x)
  · exact .inr (.inr ⟨l, o, n, e, k.k _ _ ho (pl_of hc (by decide)), hc, r⟩)
section
variable {prog : Program} {w : World} {A : Around} {E : Value → Shared → Prop} {s : Shared}
theorem new_notPR {tv : Value} {vs : List Value} {Q : Value → Shared → Prop} (X : Wd w s.heap) (V : NewArg s.heap tv vs) (h : ∀ tk, Q (.bool false) { s with toks := tk }) : wpAny (model prog w) A (call (.builtin "isinstance") [tv, .ref 240]) Q E s := by
  rcases V with ⟨rfl, _⟩ | ⟨x, t, rfl, _⟩ | ⟨l, o, n, rfl, ho, hc, _⟩
  · exact kia_one kitx_none X trivial (i_none w) (by decide) h
  · exact kia_one kitx_str X trivial (i_str w) nofun h
  · exact kia_one kitx_list X ⟨o, ho, hc⟩ (i_list w) nofun h
theorem p_onew (w : World) : findCls (KV w) (.type "object") (.type "type") "__new__" = some (.val (.builtin "object.__new__")) := by kernel_rfl
theorem m_onew {pl : Sem Bool} {Q : Value × List Value → Shared → Prop} (X : Wd w s.heap) (h : Q (.builtin "object.__new__", []) { s with toks := s.toks + 1 }) : wpAny (model prog w) A (getMethod (.type "object") "__new__" pl) Q E s := by
  have ht : typeOf (.type "object") = pure (.type "type") := by kernel_rfl
  have hs : Manifest.isStub "object" = false := by decide +kernel
  have hstub : opaqueClassAbove (.type "object") = pure none := by unfold opaqueClassAbove; dsimp only; rw [hs]; rfl
  have L0 : Looks (model prog w) s.heap (typeOf (.type "object")) (.type "type") := Looks.of_pure ht
  have hg : findIn (KV w) (.type "type") "__getattribute__" = some (some (.builtin "type.__getattribute__")) := by kernel_rfl
  unfold getMethod specialOf
  refine wpAny_bind (wpAny_bind (L0.here ((looks_findIn X hg).here ?_)))
  dsimp only
  rw [if_pos canon_tga]
  refine wpAny_bind (wpAny_mono (Q := fun v => Q (v, [])) (E := E) ?_ (fun _ _ z => wpAny_pure z) fun _ _ z => z)
  have LO : Looks (model prog w) s.heap (opaqueClassAbove (.type "object")) none := Looks.of_pure hstub
  refine cls_open X LO L0 hg (looks_hook X (r := none) (by kernel_rfl)) (by show subIn (KV w) _ _ = _; kernel_rfl) (p_onew w)
    (wpAny_pure (by show wpAny _ _ (handedOut _) _ _ _; rw [handedOut_of (by decide)]; exact wpAny_pure h))
end
/-- a set of at most one text, in its first table -/
def SetS (prog : Program) (w : World) (h : Heap) (a : Addr) (S : Str → Bool) (n : Nat) : Prop :=
  ∃ o es ep t, h.get? a = some o ∧ o.ExactSet ∧ (o.data = .set es ep t ∧ ElemsOf (PySem.strKind prog w) es.toList ∧ (∀ k, S k = true ↔ ∃ e ∈ es.toList, (PySem.strKind prog w).is k e.2 = true) ∧ es.size < scanBound ∧ t.fits es.size = true ∧ es.size = n ∧
    t.mask = 7 ∧ t.dummies = #[] ∧ n ≤ 1)
theorem SetS.setOf {prog : Program} {w : World} {h : Heap} {a : Addr} {S : Str → Bool} {n : Nat} (x : SetS prog w h a S n) : h.SetOf (PySem.strKind prog w) a S n := by
  obtain ⟨o, es, ep, t, q, he, h1, h2, h3, h4, h5, h6, _⟩ := x
  exact ⟨o, es, ep, t, q, he, h1, h2, h3, h4, h5, h6⟩
theorem SetS.kp {prog : Program} {w : World} {h h' : Heap} {a : Addr} {S : Str → Bool} {n : Nat} (x : SetS prog w h a S n) (k : Kp h h') : SetS prog w h' a S n := by
  obtain ⟨o, es, ep, t, q, he, r⟩ := x
  exact ⟨o, es, ep, t, k.k a o q (pl_of he.1 (by decide)), he, r⟩
abbrev freshSet (led : Bool) : Obj := { cls := .type "set", dict := none, data := .set #[] 0 (.fresh 0 0 led) }
theorem fresh_sets {prog : Program} {w : World} {h : Heap} {a : Addr} {led : Bool} (q : h.get? a = some (freshSet led)) : SetS prog w h a (fun _ => false) 0 :=
  ⟨_, #[], _, _, q, ⟨rfl, rfl, rfl⟩, rfl, (by intro e he; cases he), (by intro k; simp), (by decide), rfl, rfl, rfl, rfl, Nat.zero_le _⟩
theorem lay_fresh (led : Bool) (h : Int) (x : Value) : ∃ j, layNew (.fresh 0 0 led) #[] h x = (#[(h, x)], { mask := 7, place := #[j], dummies := #[], finger := 0, led, moves := 0, plain := true }, false, false) := ⟨_, rfl⟩
section
variable {prog : Program} {w : World} {A : Around} {E : Value → Shared → Prop} {s : Shared}
theorem add_fresh {a : Addr} {led : Bool} {x : Str} {tk : Tok} {Q : Bool → Shared → Prop} (ho : s.heap.get? a = some (freshSet led))
    (h : ∀ h', Heap.SameBut a s.heap h' → SetS prog w h' a (fun y => decide (y = x)) 1 → Q true { s with heap := h' }) :
    wpAny (model prog w) A (setAddHashed a (.str x tk) ((PySem.strKind prog w).hash x)) Q E s := by
  have hel : ElemsOf (PySem.strKind prog w) (#[] : Array (Int × Value)).toList := by intro e he; cases he
  have hk := PySem.strKind_is prog w x tk
  unfold setAddHashed setAddHashedIn
  refine wpAny_holding (wpAny_bind (wpAny_setState_of ho rfl rfl ?_))
  dsimp only
  rw [byScan_of rfl (by decide) hel]
  simp only [↓reduceIte]
  unfold setAddByScan
  refine wpAny_bind ?_
  refine wpAny_bind (wpAny_rule ?_)
  refine wpAny_bind (wpAny_setScan_of hk ho rfl rfl hel ?_)
  simp only [List.findIdx?_nil]
  obtain ⟨j, hj⟩ := lay_fresh led ((PySem.strKind prog w).hash x) (.str x tk)
  rw [hj]
  dsimp only
  refine wpAny_bind (wpAny_pure ?_)
  simp only [↓reduceIte]
  rw [hashByValue_scannable 8 (show (Value.str x tk).scannable = true from rfl)]
  refine wpAny_bind (wpAny_pure ?_)
  refine wpAny_bind (wpAny_storeSet_of ho rfl ?_ (show 1 ≤ sizeLine by decide))
  have hg := Heap.get?_update_self (Obj.putSet #[((PySem.strKind prog w).hash x, .str x tk)] { mask := 7, place := #[j], dummies := #[], finger := 0, led, moves := 0, plain := false }) ho (by rw [putSet_of _ _ rfl]; rfl)
  rw [putSet_of _ _ rfl] at hg
  refine wpAny_pure (wpAny_pure (h _ (Heap.SameBut.update ..) ⟨_, _, _, _, hg, ⟨rfl, rfl, rfl⟩, rfl, ?_, ?_, (show 1 < scanBound by decide), rfl, rfl, rfl, rfl, Nat.le_refl _⟩))
  · intro e he
    rw [List.mem_singleton] at he; subst he
    exact ⟨⟨x, hk, rfl⟩, rfl⟩
  · intro k
    rw [decide_eq_true_eq]
    constructor
    · rintro rfl; exact ⟨_, List.mem_singleton.mpr rfl, hk⟩
    · rintro ⟨e, he, hp⟩
      rw [List.mem_singleton] at he; subst he
      exact (PySem.strKind prog w).inj _ k x hp hk
end
end Mine
end

-- VF
section
open PySem PySem.W PySem.Calls PyProof.Rows
set_option maxHeartbeats 4000000
namespace Mine
theorem Bd.ne {w : World} {n : Nat} {e s : Shared} {L a : Addr} {m : Str → Option Value} {o : Obj} (B : Bd w n e L m s) (ha : s.heap.get? a = some o) (hc : o.cls ≠ .type "frame") : L ≠ a := fun q => by
  subst q
  obtain ⟨o', h, c⟩ := B.fm.cls
  rw [ha] at h; cases h
  exact hc c
theorem noDict_ne {h : Heap} {a dx : Addr} {o : Obj} (ha : h.get? a = some o) (hc : o.cls = .ref 240) (hx : h.get? dx = some noDict) : dx ≠ a := fun q => by
  subst q
  rw [hx] at ha; cases ha; cases hc
theorem Bd.old {w : World} {e s : Shared} {L : Addr} {m : Str → Option Value} (B : Bd w e.heap.objs.size e L m s) : Kp e.heap s.heap := (B.ef.kf.ka (Nat.le_refl _)).kp
/-- another object's fact, over a change at a -/
theorem stays {h h' : Heap} {a b : Addr} {o oa : Obj} (S : Heap.SameBut a h h') (ha : h.get? a = some oa) (hb : h.get? b = some o) (hc : o.cls ≠ oa.cls) : h'.get? b = some o :=
  (S.2 b (fun q => by subst q; rw [hb] at ha; cases ha; exact hc rfl)).trans hb
section
variable {prog : Program} {w : World} {A : Around} {E : Value → Shared → Prop} {s : Shared}
theorem b_set {n : Nat} {e : Shared} {L : Addr} {m : Str → Option Value} {a dx p i : Addr} {sl sl' : Array (Option Value)} {name : Str} {v : Value} {Q : Unit → Shared → Prop} (B : Bd w n e L m s) (hna : n ≤ a)
    (ha : s.heap.get? a = some ⟨.ref 240, some dx, .plain, sl⟩) (hx : s.heap.get? dx = some noDict)
    (ht : takerIn (KV w) 240 name = some (some (.ref p))) (hT : typeIn (KV w) (.ref p) = some (.type "member_descriptor")) (hi : slotIn (KV w) p 240 = some i) (hz : decide (i < 1000) = true)
    (e' : (sl ++ Array.replicate (i + 1 - sl.size) none).setIfInBounds i (some v) = sl')
    (h : ∀ h', Bd w n e L m { s with heap := h', toks := s.toks + 1 } → h'.get? a = some ⟨.ref 240, some dx, .plain, sl'⟩ → h'.get? dx = some noDict → Heap.SameBut a s.heap h' → Q () { s with heap := h', toks := s.toks + 1 }) :
    wpAny (model prog w) A (setAttr (.ref a) name v) Q E s :=
  pr_set B.wd ha hx ht hT hi hz e' fun h' g S => h h' (B.at_ S hna (B.ne ha nofun) ⟨_, ha, nc_cls nofun⟩) g ((S.2 _ (noDict_ne ha rfl hx)).trans hx) S
theorem call_onew {Q : Value → Shared → Prop} (X : Wd w s.heap) (h : Q (.ref (s.heap.objs.size + 1)) { s with heap := (s.heap.push emptyDict).push (instObj 240 s.heap.objs.size) }) :
    wpAny (model prog w) A (call (.builtin "object.__new__") [.ref 240]) Q E s := by
  obtain ⟨hh, g, d, t, os⟩ := s
  exact wpAny_call (pr_objnew X h)
theorem c_new {n : Nat} {tv nv kv : Value} {vs : List Value} {args : Args} (R : Rm (n + 1) A) (X : Wd w s.heap) (hb : BindsNew s fd_new args [("cls", .ref 240), ("toklist", tv), ("name", nv), ("kwargs", kv)]) (V : NewArg s.heap tv vs) :
    Ret prog w A (.ref 66) args s (fun v s' => Ev s s' ∧ ∃ a dx tl td an n, v = .ref a ∧ s.heap.objs.size ≤ a ∧ dx ≠ td ∧ s.heap.objs.size ≤ dx ∧ s.heap.objs.size ≤ tl ∧ s.heap.objs.size ≤ td ∧ s.heap.objs.size ≤ an ∧
      s'.heap.get? a = some ⟨.ref 240, some dx, .plain, #[some (.ref an), none, some .none, some .none, some (.ref td), some (.ref tl)]⟩ ∧ s'.heap.get? dx = some noDict ∧ IsL s'.heap tl vs.toArray n ∧ s'.heap.get? td = some noDict ∧ SetS prog w s'.heap an (fun _ => false) 0) := by
  refine b_enter X X.big (Nat.le_refl _) (body := bodyOf fd_new) R.room (fo_new X) rfl (code_of X (by kernel_rfl)) rfl hb (by decide) (locs rfl) fun L s₁ B hL ev => ?_
  refine wpAny_execs_cons (wpAny_If (isTrue_plain (Call_ (r_builtin B.wd (n_isi3 w) (n_isi0 w) (PyProof.Rows.callWith_builtin1 ?_)))))
  refine wpAny_items_cons (r_local B.fm rfl (wpAny_items_cons (r_global B.wd (n_PR w) (wpAny_items_nil ?_))))
  refine new_notPR B.wd (V.kp B.old) fun t₁ => wpAny_truthy_bool ?_
  refine wpAny_execs_nil ?_
  have B := B.tok t₁
  refine wpAny_execs_cons (wpAny_Assign_Name (MethodCall_ (r_builtin B.wd (n_obj3 w) (n_obj0 w) (m_onew B.wd (PyProof.Rows.callWith_builtin1 ?_)))))
  replace B := B.tok (t₁ + 1)
  refine wpAny_items_cons (r_local B.fm rfl (wpAny_items_nil (call_onew B.wd ?_)))
  have hlt := B.lt
  replace B := (B.push emptyDict (t₁ + 1)).push (instObj 240 s₁.heap.objs.size) (t₁ + 1)
  generalize hsz : s₁.heap.objs.size = dx at *
  have ha : ((s₁.heap.push emptyDict).push (instObj 240 dx)).get? (dx + 1) = some (instObj 240 dx) := by
    have := Heap.get?_push_size (s₁.heap.push emptyDict) (show (instObj 240 dx).isFreed = false from rfl)
    rw [Heap.size_push, hsz] at this; exact this
  have hx : ((s₁.heap.push emptyDict).push (instObj 240 dx)).get? dx = some noDict := by
    have := Heap.get?_push_size s₁.heap (show emptyDict.isFreed = false from rfl)
    rw [hsz] at this; exact Heap.get?_push_of_some _ this
  generalize (s₁.heap.push emptyDict).push (instObj 240 dx) = h₂ at *
  have hna : s.heap.objs.size ≤ dx + 1 := by omega
  have hndx : s.heap.objs.size ≤ dx := by omega
  generalize dx + 1 = a at *
  clear hsz hlt
  refine b_store B fun h₃ B' K S => ?_
  replace ha := K.k _ _ ha rfl
  replace hx := K.k _ _ hx rfl
  replace B := B'
  clear B' K S
  refine wpAny_execs_cons (plainObj_wpAny_Assign_Attribute (wpAny_Constant_none (r_local B.fm rfl ?_)))
  refine b_set B hna ha hx (u_nm w) (y_nm w) (s_nm w) (by decide) (sl' := #[none, none, some .none]) rfl fun h₄ B' ha' hx' S => ?_
  replace B := B'
  replace ha := ha'
  replace hx := hx'
  clear B' ha' hx' S
  refine wpAny_execs_cons (plainObj_wpAny_Assign_Attribute (wpAny_Constant_none (r_local B.fm rfl ?_)))
  refine b_set B hna ha hx (u_par w) (y_par w) (s_par w) (by decide) (sl' := #[none, none, some .none, some .none]) rfl fun h₅ B' ha' hx' S => ?_
  replace B := B'
  replace ha := ha'
  replace hx := hx'
  clear B' ha' hx' S
  refine wpAny_execs_cons (plainObj_wpAny_Assign_Attribute (Call_ (r_builtin B.wd (n_set3 w) (n_set0 w) (callWith_type0 (call_set_0 fun led => ?_)))))
  have lan := Nat.le_of_lt B.lt
  replace B := B.push { cls := .type "set", dict := none, data := .set #[] 0 (.fresh 0 0 led) } (t₁ + 1 + 1 + 1 + 1)
  have qan := Heap.get?_push_size h₅ (show ({ cls := .type "set", dict := none, data := .set #[] 0 (.fresh 0 0 led) } : Obj).isFreed = false from rfl)
  replace ha := Heap.get?_push_of_some { cls := .type "set", dict := none, data := .set #[] 0 (.fresh 0 0 led) } ha
  replace hx := Heap.get?_push_of_some { cls := .type "set", dict := none, data := .set #[] 0 (.fresh 0 0 led) } hx
  dsimp only at *
  generalize h₅.objs.size = an at *
  generalize h₅.push { cls := .type "set", dict := none, data := .set #[] 0 (.fresh 0 0 led) } = h₆ at *
  refine r_local B.fm rfl ?_
  refine b_set B hna ha hx (u_an w) (y_an w) (s_an w) (by decide) (sl' := #[some (.ref an), none, some .none, some .none]) rfl fun h₇ B' ha' hx' S => ?_
  replace qan := stays S ha qan (nofun)
  replace B := B'
  replace ha := ha'
  replace hx := hx'
  clear B' ha' hx' S
  have fin : ∀ (h : Heap) (g : Array GenState) (d : Drawn) (t : Nat) (os : OsState) (m : Str → Option Value) (tl k : Nat), Bd w s.heap.objs.size s L m ⟨h, g, d, t, os⟩ → m "self" = some (.ref a) → s.heap.objs.size ≤ tl →
      h.get? a = some ⟨.ref 240, some dx, .plain, #[some (.ref an), none, some .none, some .none, none, some (.ref tl)]⟩ → h.get? dx = some noDict → IsL h tl vs.toArray k → h.get? an = some { cls := .type "set", data := .set #[] 0 (.fresh 0 0 led) } →
      wpAny (model prog w) (A.deeper (callEnv fd_new L 66)) (execs ((bodyOf fd_new).drop 6) (callEnv fd_new L 66)) (fun f s' => (fun v s' => Ev s s' ∧ ∃ a dx tl td an n, v = .ref a ∧ s.heap.objs.size ≤ a ∧ dx ≠ td ∧ s.heap.objs.size ≤ dx ∧ s.heap.objs.size ≤ tl ∧ s.heap.objs.size ≤ td ∧ s.heap.objs.size ≤ an ∧
      s'.heap.get? a = some ⟨.ref 240, some dx, .plain, #[some (.ref an), none, some .none, some .none, some (.ref td), some (.ref tl)]⟩ ∧ s'.heap.get? dx = some noDict ∧ IsL s'.heap tl vs.toArray n ∧ s'.heap.get? td = some noDict ∧ SetS prog w s'.heap an (fun _ => false) 0) (match f with | .ret v => v | _ => .none) s') (fun _ _ => False) ⟨h, g, d, t, os⟩ := by
    clear B ha hx qan
    intro h g d t os m tl k B hm ltl ha hx qtl qan
    refine wpAny_execs_cons (plainObj_wpAny_Assign_Attribute (Call_ (r_builtin B.wd (n_dict3 w) (n_dict0 w) (callWith_type0 (call_dict_0 ?_)))))
    have hdt : dx < h.objs.size := Heap.lt_size hx
    have ltd := Nat.le_of_lt B.lt
    replace B := B.push { cls := .type "dict", data := .dict #[] } (t)
    have qtd := Heap.get?_push_size h (show ({ cls := .type "dict", data := .dict #[] } : Obj).isFreed = false from rfl)
    replace ha := Heap.get?_push_of_some { cls := .type "dict", data := .dict #[] } ha
    replace hx := Heap.get?_push_of_some { cls := .type "dict", data := .dict #[] } hx
    replace qtl := Heap.get?_push_of_some { cls := .type "dict", data := .dict #[] } qtl
    replace qan := Heap.get?_push_of_some { cls := .type "dict", data := .dict #[] } qan
    dsimp only at *
    generalize h.objs.size = td at *
    generalize h.push { cls := .type "dict", data := .dict #[] } = h₁ at *
    refine r_local B.fm hm ?_
    refine b_set B hna ha hx (u_td w) (y_td w) (s_td w) (by decide) (sl' := #[some (.ref an), none, some .none, some .none, some (.ref td), some (.ref tl)]) rfl fun h₂ B' ha' hx' S => ?_
    replace qtd := stays S ha qtd (nofun)
    replace qtl := stays S ha qtl (nofun)
    replace qan := stays S ha qan (nofun)
    replace B := B'
    replace ha := ha'
    replace hx := hx'
    clear B' ha' hx' S
    refine wpAny_execs_cons (wpAny_Return_some (r_local B.fm hm ?_))
    exact ⟨B.out.ev (Nat.le_refl _), a, dx, tl, td, an, k, rfl, hna, Nat.ne_of_lt hdt, hndx, ltl, ltd, lan, ha, hx, qtl, qtd, fresh_sets qan⟩
  refine wpAny_execs_cons (wpAny_If (wpAny_isTrue_Compare1 (r_local B.fm rfl (wpAny_Constant_none ?_))))
  rcases V with ⟨rfl, rfl⟩ | ⟨x, tx, rfl, rfl⟩ | ⟨l, o, k, rfl, ho, hc, hd, hz⟩
  · refine is_none_none (wpAny_truthy_bool ?_)
    refine wpAny_execs_cons (plainObj_wpAny_Assign_Attribute (wpAny_List (wpAny_items_nil ⟨by decide, ?_⟩)))
    have ltl := Nat.le_of_lt B.lt
    replace B := B.push { cls := .type "list", data := .seq #[] } (t₁ + 1 + 1 + 1 + 1 + 1)
    have qtl := Heap.get?_push_size h₇ (show ({ cls := .type "list", data := .seq #[] } : Obj).isFreed = false from rfl)
    replace ha := Heap.get?_push_of_some { cls := .type "list", data := .seq #[] } ha
    replace hx := Heap.get?_push_of_some { cls := .type "list", data := .seq #[] } hx
    replace qan := Heap.get?_push_of_some { cls := .type "list", data := .seq #[] } qan
    dsimp only at *
    generalize h₇.objs.size = tl at *
    generalize h₇.push { cls := .type "list", data := .seq #[] } = h₈ at *
    refine r_local B.fm rfl ?_
    refine b_set B hna ha hx (u_tl w) (y_tl w) (s_tl w) (by decide) (sl' := #[some (.ref an), none, some .none, some .none, none, some (.ref tl)]) rfl fun h₉ B' ha' hx' S => ?_
    replace qan := stays S ha qan (nofun)
    replace qtl := stays S ha qtl (nofun)
    replace B := B'
    replace ha := ha'
    replace hx := hx'
    clear B' ha' hx' S
    exact wpAny_execs_nil (fin _ _ _ _ _ _ _ _ B rfl ltl ha hx qtl qan)
  · refine is_str_none (wpAny_truthy_bool ?_)
    refine wpAny_execs_cons (wpAny_If (isTrue_plain (Call_ (r_builtin B.wd (n_isi3 w) (n_isi0 w) (PyProof.Rows.callWith_builtin1 ?_)))))
    refine wpAny_items_cons (r_local B.fm rfl (wpAny_items_cons (r_builtin B.wd (n_list3 w) (n_list0 w) (wpAny_items_nil ?_))))
    refine kia_one kitx_str B.wd trivial (il_str w) nofun fun t₂ => wpAny_truthy_bool ?_
    replace B := B.tok t₂
    refine wpAny_execs_cons (plainObj_wpAny_Assign_Attribute (wpAny_List (wpAny_items_cons (r_local B.fm rfl (wpAny_items_nil ⟨show 1 ≤ sizeLine by decide, ?_⟩)))))
    have ltl := Nat.le_of_lt B.lt
    replace B := B.push { cls := .type "list", data := .seq #[.str x tx] } (t₂)
    have qtl := Heap.get?_push_size h₇ (show ({ cls := .type "list", data := .seq #[.str x tx] } : Obj).isFreed = false from rfl)
    replace ha := Heap.get?_push_of_some { cls := .type "list", data := .seq #[.str x tx] } ha
    replace hx := Heap.get?_push_of_some { cls := .type "list", data := .seq #[.str x tx] } hx
    replace qan := Heap.get?_push_of_some { cls := .type "list", data := .seq #[.str x tx] } qan
    dsimp only at *
    generalize h₇.objs.size = tl at *
    generalize h₇.push { cls := .type "list", data := .seq #[.str x tx] } = h₈ at *
    refine r_local B.fm rfl ?_
    refine b_set B hna ha hx (u_tl w) (y_tl w) (s_tl w) (by decide) (sl' := #[some (.ref an), none, some .none, some .none, none, some (.ref tl)]) rfl fun h₉ B' ha' hx' S => ?_
    replace qan := stays S ha qan (nofun)
    replace qtl := stays S ha qtl (nofun)
    replace B := B'
    replace ha := ha'
    replace hx := hx'
    clear B' ha' hx' S
    exact wpAny_execs_nil (wpAny_execs_nil (fin _ _ _ _ _ _ _ _ B rfl ltl ha hx qtl qan))
  · refine is_ref_none (wpAny_truthy_bool ?_)
    have qo := B.old.k _ _ ho (pl_of hc (by decide))
    refine wpAny_execs_cons (wpAny_If (isTrue_plain (Call_ (r_builtin B.wd (n_isi3 w) (n_isi0 w) (PyProof.Rows.callWith_builtin1 ?_)))))
    refine wpAny_items_cons (r_local B.fm rfl (wpAny_items_cons (r_builtin B.wd (n_list3 w) (n_list0 w) (wpAny_items_nil ?_))))
    refine kia_one kitx_list B.wd ⟨o, qo, hc⟩ (il_list w) nofun fun t₂ => wpAny_truthy_bool ?_
    replace B := B.tok t₂
    refine wpAny_execs_cons (plainObj_wpAny_Assign_Attribute (Call_ (r_builtin B.wd (n_list3 w) (n_list0 w) (callWith_type1 (wpAny_items_cons (r_local B.fm rfl (wpAny_items_nil ?_)))))))
    refine call_list_seq l (.inl rfl) qo hc hd (fun h₈ c kk qtl => ?_) (by rw [List.size_toArray, sizeLine_eq]; omega)
    have ltl := Nat.le_of_lt B.lt
    replace B := B.keep (t := t₂) kk
    replace ha := kk _ _ ha
    replace hx := kk _ _ hx
    replace qan := kk _ _ qan
    dsimp only at *
    generalize h₇.objs.size = tl at *
    clear kk qo
    refine r_local B.fm rfl ?_
    refine b_set B hna ha hx (u_tl w) (y_tl w) (s_tl w) (by decide) (sl' := #[some (.ref an), none, some .none, some .none, none, some (.ref tl)]) rfl fun h₉ B' ha' hx' S => ?_
    replace qan := stays S ha qan (nofun)
    replace qtl := stays S ha qtl (nofun)
    replace B := B'
    replace ha := ha'
    replace hx := hx'
    clear B' ha' hx' S
    exact wpAny_execs_nil (wpAny_execs_nil (fin _ _ _ _ _ _ _ _ B rfl ltl ha hx qtl qan))
end
end Mine
end

-- VG
section
open PySem PySem.W PySem.Calls PyProof.Rows
set_option maxHeartbeats 4000000
namespace Mine
section
variable {prog : Program} {w : World} {A : Around} {E : Value → Shared → Prop} {s : Shared}
theorem d_59 (w : World) : (KV w).lookup 59 = some ⟨.type "tuple", none, .seq #[.none, .none] 0, #[]⟩ := by kernel_rfl
theorem d_67 (w : World) : (KV w).lookup 67 = some ⟨.type "tuple", none, .seq #[.none, .none, .bool true, .bool true] 0, #[]⟩ := by kernel_rfl
theorem bn_new1 {cls tv : Value} (X : Wd w s.heap) : BindsNew s fd_new ⟨[cls, tv], []⟩ [("cls", cls), ("toklist", tv), ("name", .none), ("kwargs", .ref s.heap.objs.size)] := by
  intro M A E Q h
  show wpAny M A (seqItems? (.ref 59) >>= _) Q E s
  refine wpAny_bind (wpAny_seqItems (X _ _ (d_59 w)) rfl ?_)
  show wpAny M A (alloc { cls := .type "dict", data := .dict #[] } >>= _) Q E s
  refine wpAny_bind (wpAny_alloc (wpAny_pure ?_))
  exact h _ s.toks (fun b o e => Heap.get?_push_of_some _ e) (by rw [Heap.size_push]; omega)
theorem v_ns {M : Model} {a : Addr} {m : Str → Option Value} {name : Str} {v : Value} {Q : Unit → Shared → Prop} (hn : s.heap.Ns a m)
    (h : ∀ h', h'.Ns a (fun x => if x = name then some v else m x) → Heap.SameBut a s.heap h' → Q () { s with heap := h', toks := s.toks + 1 }) : wpAny M A (nsSet a name v) Q E s := fun Γ p _ => Sem.wp_nsSet M Γ _ p s hn name v _ h
theorem bn_new2 {cls tv nv b1 b2 : Value} (X : Wd w s.heap) : BindsNew s fd_new ⟨[cls, tv, nv], [("aslist", b1), ("modal", b2)]⟩ [("cls", cls), ("toklist", tv), ("name", nv), ("kwargs", .ref s.heap.objs.size)] := by
  intro M A E Q h
  show wpAny M A (seqItems? (.ref 59) >>= _) Q E s
  refine wpAny_bind (wpAny_seqItems (X _ _ (d_59 w)) rfl ?_)
  show wpAny M A (alloc { cls := .type "dict", data := .dict #[] } >>= fun d => (forIn [(("aslist" : Str), b1), ("modal", b2)] PUnit.unit fun x _ => nsSet d x.1 x.2 >>= fun _ => pure (ForInStep.yield PUnit.unit)) >>= fun _ =>
    pure [(("cls" : Str), cls), ("toklist", tv), ("name", nv), ("kwargs", Value.ref d)]) Q E s
  refine wpAny_bind (wpAny_alloc ?_)
  have hN : (s.heap.push { cls := .type "dict", data := .dict #[] }).Ns s.heap.objs.size (fun _ => none) := Heap.Ns.new s.heap (.type "dict")
  rw [List.forIn_cons]
  refine wpAny_bind (wpAny_bind (wpAny_bind (v_ns hN fun h₁ hN₁ S₁ => wpAny_pure ?_)))
  dsimp only
  rw [List.forIn_cons]
  refine wpAny_bind (wpAny_bind (v_ns hN₁ fun h₂ hN₂ S₂ => wpAny_pure ?_))
  dsimp only
  rw [List.forIn_nil]
  refine wpAny_pure (wpAny_pure ?_)
  have keep : ∀ b o, s.heap.get? b = some o → h₂.get? b = some o := fun b o e => by
    have ne := Nat.ne_of_lt (Heap.lt_size e)
    exact (S₂.2 b ne).trans ((S₁.2 b ne).trans (Heap.get?_push_of_some _ e))
  have hz : s.heap.objs.size ≤ h₂.objs.size := Nat.le_of_lt (Heap.Ns.lt hN₂)
  exact h h₂ (s.toks + 1 + 1) keep hz
theorem bn_init1 {self tv : Value} (X : Wd w s.heap) : BindsNew s fd_init ⟨[self, tv], []⟩ [("self", self), ("toklist", tv), ("name", .none), ("aslist", .bool true), ("modal", .bool true), ("kwargs", .ref s.heap.objs.size)] := by
  intro M A E Q h
  show wpAny M A (seqItems? (.ref 67) >>= _) Q E s
  refine wpAny_bind (wpAny_seqItems (X _ _ (d_67 w)) rfl ?_)
  show wpAny M A (alloc { cls := .type "dict", data := .dict #[] } >>= _) Q E s
  refine wpAny_bind (wpAny_alloc (wpAny_pure ?_))
  exact h _ s.toks (fun b o e => Heap.get?_push_of_some _ e) (by rw [Heap.size_push]; omega)
theorem bn_init2 {self tv nv b1 b2 : Value} (X : Wd w s.heap) : BindsNew s fd_init ⟨[self, tv, nv], [("aslist", b1), ("modal", b2)]⟩ [("self", self), ("toklist", tv), ("name", nv), ("aslist", b1), ("modal", b2), ("kwargs", .ref s.heap.objs.size)] := by
  intro M A E Q h
  show wpAny M A (seqItems? (.ref 67) >>= _) Q E s
  refine wpAny_bind (wpAny_seqItems (X _ _ (d_67 w)) rfl ?_)
  show wpAny M A (alloc { cls := .type "dict", data := .dict #[] } >>= _) Q E s
  refine wpAny_bind (wpAny_alloc (wpAny_pure ?_))
  exact h _ s.toks (fun b o e => Heap.get?_push_of_some _ e) (by rw [Heap.size_push]; omega)
end
end Mine
end

-- VH
section
open PySem PySem.W PySem.Calls PyProof.Rows
set_option maxHeartbeats 4000000
namespace Mine
/-- all objects but those in D are kept (code tables aside) -/
def Kx (D : List Addr) (h h' : Heap) : Prop := ∀ b o, b ∉ D → h.get? b = some o → tabO o = false → h'.get? b = some o
theorem Kx.refl (D : List Addr) (h : Heap) : Kx D h h := fun _ _ _ e _ => e
theorem Kx.of {D : List Addr} {h h' : Heap} (k : Ka h h') : Kx D h h' := fun b o _ e p => k.k b o e p
theorem Kx.keep {D : List Addr} {h h' : Heap} (k : ∀ b o, h.get? b = some o → h'.get? b = some o) : Kx D h h' := fun b o _ e _ => k b o e
theorem Kx.trans {D : List Addr} {a b c : Heap} (x : Kx D a b) (y : Kx D b c) : Kx D a c := fun k o d e p => y k o d (x k o d e p) p
theorem Kx.more {D D' : List Addr} {a b : Heap} (x : Kx D a b) (h : ∀ z, z ∈ D → z ∈ D') : Kx D' a b := fun k o d e p => x k o (fun m => d (h _ m)) e p
theorem Kx.at_ {D : List Addr} {a : Addr} {h h' : Heap} (S : Heap.SameBut a h h') (m : a ∈ D) : Kx D h h' := fun b o d e _ => (S.2 b (fun q => d (q ▸ m))).trans e
/-- a change above the entry -/
theorem Kx.lo {D : List Addr} {a : Addr} {e h h' : Heap} (x : Kx D e h) (S : Heap.SameBut a h h') (ha : e.objs.size ≤ a) : Kx D e h' :=
  fun b o d q p => (S.2 b (Nat.ne_of_lt (Nat.lt_of_lt_of_le (Heap.lt_size q) ha))).trans (x b o d q p)
/-- what a callee changes lies above the entry, or in D -/
theorem Kx.call {D D' : List Addr} {e h h' : Heap} (x : Kx D e h) (y : Kx D' h h') (hD : ∀ z ∈ D', z ∈ D ∨ e.objs.size ≤ z) : Kx D e h' := fun b o d q p =>
  y b o (fun m => (hD b m).elim d fun l => absurd (Heap.lt_size q) (Nat.not_lt_of_le l)) (x b o d q p) p
theorem Bd.kx {w : World} {n : Nat} {e s s' : Shared} {L : Addr} {m : Str → Option Value} (B : Bd w n e L m s) {D : List Addr} (x : Ef n s s') (k : Kx D s.heap s'.heap) (hL : L ∉ D) : Bd w n e L m s' := by
  obtain ⟨o, a, c⟩ := B.fm.cls
  have := k L o hL a (by unfold tabO; rw [c])
  exact ⟨B.ef.trans x, B.fm.keeps (this.trans a.symm), B.lo, B.big, B.wd0⟩
abbrev pcls (dx : Addr) (sl : Array (Option Value)) : Obj := ⟨.ref 240, some dx, .plain, sl⟩
section
variable {prog : Program} {w : World} {A : Around} {E : Value → Shared → Prop} {s : Shared}
theorem c_init_bare {n N : Nat} {a dx : Addr} {tv nv al kv : Value} {md : Bool} {args : Args} {an om nm par td tl : Option Value} (R : Rm (n + 1) A) (X : Wd w s.heap) (hN : 333 ≤ N) (hNs : N ≤ s.heap.objs.size) (hna : N ≤ a)
    (hb : BindsNew s fd_init args [("self", .ref a), ("toklist", tv), ("name", nv), ("aslist", al), ("modal", .bool md), ("kwargs", kv)]) (hn : nv = .none ∨ ∃ t, nv = .str "" t)
    (ha : s.heap.get? a = some (pcls dx #[an, om, nm, par, td, tl])) (hx : s.heap.get? dx = some noDict) :
    Ret prog w A (.ref 74) args s (fun v s' => v = .none ∧ Ef N s s' ∧ Kx [a] s.heap s'.heap ∧ s'.heap.get? a = some (pcls dx #[an, some (.bool md), nm, par, td, tl])) := by
  refine b_enter X hN hNs (body := bodyOf fd_init) R.room (fo_init X) rfl (code_of X (by kernel_rfl)) rfl hb (by decide) (locs rfl) fun L s₁ B hL ev => ?_
  have kx : Kx [a] s.heap s₁.heap := .of ev.ka
  replace ha := ev.kp.k _ _ ha rfl
  replace hx := ev.kp.k _ _ hx rfl
  obtain ⟨h₁, g₁, d₁, t₁, os₁⟩ := s₁
  refine wpAny_execs_cons (plainObj_wpAny_Assign_Attribute (r_local B.fm rfl (r_local B.fm rfl ?_)))
  refine b_set B hna ha hx (u_md w) (y_md w) (s_md w) (by decide) (sl' := #[an, some (.bool md), nm, par, td, tl]) rfl fun h₂ B ha hx S => ?_
  replace kx := kx.trans (.at_ S (by simp))
  clear S
  refine wpAny_execs_cons (wpAny_If (isTrue_or (wpAny_isTrue_Compare1 (r_local B.fm rfl (wpAny_Constant_none ?_)))))
  rcases hn with rfl | ⟨t, rfl⟩
  · refine is_none_none (wpAny_truthy_bool ?_)
    exact wpAny_execs_cons (wpAny_Return_none ⟨rfl, B.out, kx, ha⟩)
  · refine is_str_none (wpAny_truthy_bool (isTrue_or (wpAny_isTrue_Compare1 (r_local B.fm rfl (wpAny_Constant_str ?_)))))
    refine PyProof.Rows.eq_str (wpAny_truthy_bool ?_)
    exact wpAny_execs_cons (wpAny_Return_none ⟨rfl, (B.tok _).out, kx, ha⟩)
end
end Mine
end

-- VI
section
open PySem PySem.W PySem.Calls PyProof.Rows
set_option maxHeartbeats 4000000
namespace Mine
theorem ne_cls {h : Heap} {a b : Addr} {o oa : Obj} (ha : h.get? a = some oa) (hb : h.get? b = some o) (hc : o.cls ≠ oa.cls) : b ≠ a := fun q => by
  subst q; rw [hb] at ha; cases ha; exact hc rfl
theorem Kx.one {a b : Addr} {h h' : Heap} {o oa : Obj} (k : Kx [a] h h') (ha : h.get? a = some oa) (hb : h.get? b = some o) (hc : o.cls ≠ oa.cls) (p : tabO o = false) : h'.get? b = some o :=
  k b o (by rw [List.mem_singleton]; exact ne_cls ha hb hc) hb p
section
variable {prog : Program} {w : World} {A : Around} {E : Value → Shared → Prop} {s : Shared}
/-- an empty set of names -/
def NoNames (w : World) (prog : Program) (h : Heap) (an : Addr) : Prop := SetS prog w h an (fun _ => false) 0
theorem Rm.under {n : Nat} (R : Rm (n + 1) A) (rest : List Value) (kw : List (Str × Value)) : Rm n (A.under (.builtin "type.__call__" ⟨.ref 240 :: rest, kw⟩)) := by
  refine ⟨?_, ?_, R.h⟩
  · have := R.d; rw [depth_under_kw]; omega
  · have := R.u
    show A.units + (Code.builtin "type.__call__" ⟨.ref 240 :: rest, kw⟩).cUnits + _ < _
    rw [show (Code.builtin "type.__call__" ⟨.ref 240 :: rest, kw⟩).cUnits = 1 from rfl]
    omega
/-- ParseResults(tv) -/
theorem c_plain {n : Nat} {tv : Value} {vs : List Value} (R : Rm (n + 2) A) (X : Wd w s.heap) (V : NewArg s.heap tv vs) :
    Ret prog w A (.ref 240) ⟨[tv], []⟩ s (fun v s' => Ev s s' ∧ ∃ a dx tl td an n, v = .ref a ∧ s.heap.objs.size ≤ a ∧ dx ≠ td ∧ s.heap.objs.size ≤ dx ∧ s.heap.objs.size ≤ tl ∧ s.heap.objs.size ≤ td ∧ s.heap.objs.size ≤ an ∧
      s'.heap.get? a = some (pcls dx #[some (.ref an), some (.bool true), some .none, some .none, some (.ref td), some (.ref tl)]) ∧ s'.heap.get? dx = some noDict ∧ IsL s'.heap tl vs.toArray n ∧ s'.heap.get? td = some noDict ∧ NoNames w prog s'.heap an) := by
  refine pr_make X fun t => ?_
  have R' := R.under [tv] []
  have R1 : Rm (n + 1) (A.under (.builtin "type.__call__" ⟨.ref 240 :: [tv], []⟩)) := R'
  refine Ret.call (c_new (s := { s with toks := t }) R1 X (bn_new1 (s := { s with toks := t }) X) V) fun v s₁ z => ?_
  obtain ⟨ev, a, dx, tl, td, an, k, rfl, l1, l5, l0, l2, l3, l4, ha, hx, htl, htd, han⟩ := z
  have X₁ : Wd w s₁.heap := X.mono ev.kp
  refine ⟨X₁, ⟨a, _, rfl, ha, rfl⟩, ?_⟩
  have la : a < s₁.heap.objs.size := Heap.lt_size ha
  refine Ret.call (c_init_bare (N := s.heap.objs.size) R1 X₁ X.big (Nat.le_of_lt (Nat.lt_of_le_of_lt l1 la)) l1 (bn_init1 X₁) (.inl rfl) ha hx) fun v s₂ z => ?_
  obtain ⟨rfl, ef, kx, ha'⟩ := z
  refine ⟨rfl, (show Ef s.heap.objs.size s s₂ from ⟨ev.ka.kf.trans ef.kf, ef.os.trans ev.os, ev.gens.trans ef.gens⟩).ev (Nat.le_refl _), a, dx, tl, td, an, k, rfl, l1, l5, l0, l2, l3, l4, ha', kx.one ha hx nofun rfl, kx.one ha htl nofun rfl, kx.one ha htd nofun rfl, ?_⟩
  obtain ⟨o, es, ep, t', ho, he, r⟩ := han
  exact ⟨o, es, ep, t', kx.one ha ho (by rw [he.1]; nofun) (pl_tab (pl_of he.1 (by decide))), he, r⟩
end
end Mine
end

-- VJ
section
open PySem PySem.W PySem.Calls PyProof.Rows
set_option maxHeartbeats 4000000
namespace Mine
theorem o_makes (w : World) : makesIn (KV w) 46 = true := by kernel_rfl
theorem o_init (w : World) : findIn (KV w) (.ref 46) "__init__" = some (some (.ref 36)) := by kernel_rfl
theorem o_fn (w : World) : typeIn (KV w) (.ref 36) = some (.type "function") := by kernel_rfl
theorem o_setattr (w : World) : findIn (KV w) (.ref 46) "__setattr__" = some (some (.builtin "object.__setattr__")) := by kernel_rfl
theorem o_plain (w : World) : plainOver (KV w) 46 = true := by kernel_rfl
theorem o_tup (w : World) : takerIn (KV w) 46 "tup" = some none := by kernel_rfl
theorem o_has (w : World) : (clsIn (KV w) 46).any (·.hasDict) = true := by kernel_rfl
section
variable {prog : Program} {w : World} {A : Around} {E : Value → Shared → Prop} {s : Shared}
theorem Rm.underO {n : Nat} (R : Rm (n + 1) A) (rest : List Value) (kw : List (Str × Value)) : Rm n (A.under (.builtin "type.__call__" ⟨.ref 46 :: rest, kw⟩)) := by
  refine ⟨?_, ?_, R.h⟩
  · have := R.d; rw [depth_under_kw]; omega
  · have := R.u
    show A.units + (Code.builtin "type.__call__" ⟨.ref 46 :: rest, kw⟩).cUnits + _ < _
    rw [show (Code.builtin "type.__call__" ⟨.ref 46 :: rest, kw⟩).cUnits = 1 from rfl]
    omega
theorem putName_empty (P : Params) (name : Str) (h : Int) (k v : Value) : Obj.putName name h k v noDict = ⟨.type "dict", none, .dict #[⟨h, k, v⟩] 1, #[]⟩ := by
  have := putName_dict name h k v [] 0
  simpa [dictOf, putL, putN] using this
/-- the one slot of a fresh _ParseResultsWithOffset is set -/
theorem po_set {a d : Addr} {v : Value} {Q : Unit → Shared → Prop} (X : Wd w s.heap) (ha : s.heap.get? a = some (instObj 46 d)) (hd : s.heap.get? d = some noDict)
    (h : ∀ h' tk, h'.get? d = some (poDict w.params tk v 1) → Heap.SameBut d s.heap h' → Q () { s with heap := h', toks := s.toks + 1 + 1 }) : wpAny (model prog w) A (setAttr (.ref a) "tup" v) Q E s := by
  have I : InstAt s.heap a (instObj 46 d) 46 (some noDict) := ⟨ha, rfl, rfl, hd⟩
  refine set_plain X I (o_setattr w) (osa_open (s := { s with toks := s.toks + 1 }) X I (o_plain w) (o_tup w) fun b => ?_)
  obtain ⟨cd, hc, hd'⟩ := any_some (o_has w)
  have X' : Wd w ({ s with toks := s.toks + 1 } : Shared).heap := X
  refine wpAny_bind (wpAny_pure (wpAny_bind (wpAny_bind (wpAny_loadPart ha (wpAny_bind ((looks_clsIn X' hc).here ?_))))))
  rw [hd']
  refine wpAny_pure (a := some d) (wpAny_bind (wpAny_pure (wpAny_bind ?_)))
  unfold nsSet
  refine wpAny_bind (wpAny_bind (wpAny_askSetting (wpAny_pure (wpAny_bind (wpAny_mkText (wpAny_bind (wpAny_loadPart hd ?_)))))))
  dsimp only
  rw [aRefKeyMayBeTheName_at, show ((!(#[] : Array DictEntry).any (·.key.isStr "tup")) && (#[] : Array DictEntry).any (·.refKey)) = false from by simp]
  have g := Heap.get?_update_self (h := s.heap) (Obj.putName "tup" (PyData.keyHash w.params "tup") (.str "tup" (s.toks + 1)) v) hd (by rw [putName_empty w.params]; rfl)
  refine wpAny_updatePart hd ?_
  refine wpAny_bind (wpAny_lookBehind g (by rw [putName_empty w.params]; exact pastItsLine_dict (show 1 ≤ sizeLine + 1 by decide)) ?_)
  exact wpAny_pure (h _ (s.toks + 1) (g.trans (congrArg some (putName_empty w.params _ _ _ _))) (Heap.SameBut.update ..))
/-- a value with its place, all of it at or above N -/
def POf (N : Nat) (w : World) (h : Heap) (o v : Value) : Prop :=
  ∃ a d t, ∃ i : Int × Tok, ∃ tk n, o = .ref a ∧ N ≤ a ∧ N ≤ d ∧ N ≤ t ∧ h.get? a = some ⟨.ref 46, some d, .plain, #[]⟩ ∧ h.get? d = some (poDict w.params tk (.ref t) n) ∧ h.get? t = some { cls := .type "tuple", data := .seq #[v, .int i.1 i.2] }
theorem POf.kx {N : Nat} {h h' : Heap} {o v : Value} {D : List Addr} (x : POf N w h o v) (k : Kx D h h') (hD : ∀ z ∈ D, z < N) : POf N w h' o v := by
  obtain ⟨a, d, t, i, tk, n, e, l1, l2, l3, p1, p2, p3⟩ := x
  have ne : ∀ z : Addr, N ≤ z → z ∉ D := fun z hz m => Nat.lt_irrefl _ (Nat.lt_of_lt_of_le (hD z m) hz)
  exact ⟨a, d, t, i, tk, n, e, l1, l2, l3, k _ _ (ne a l1) p1 rfl, k _ _ (ne d l2) p2 rfl, k _ _ (ne t l3) p3 rfl⟩
theorem POf.pox {N : Nat} {h : Heap} {o v : Value} (x : POf N w h o v) : POx w h o v := by
  obtain ⟨a, d, t, i, tk, n, e, l1, l2, l3, p1, p2, p3⟩ := x
  exact ⟨a, d, t, i, tk, n, e, p1, p2, _, p3, rfl, 0, rfl⟩
theorem c_po_init {n N : Nat} {a d : Addr} {v : Value} {j : Int} {tj : Tok} (R : Rm (n + 1) A) (X : Wd w s.heap) (hN : 333 ≤ N) (hNs : N ≤ s.heap.objs.size) (hna : N ≤ a) (hnd : N ≤ d) (ha : s.heap.get? a = some (instObj 46 d)) (hd : s.heap.get? d = some noDict) :
    Ret prog w A (.ref 36) ⟨[.ref a, v, .int j tj], []⟩ s (fun r s' => r = .none ∧ Ef N s s' ∧ POf N w s'.heap (.ref a) v) := by
  refine b_enter X hN hNs (binds := [("self", .ref a), ("p1", v), ("p2", .int j tj)]) (body := bodyOf fd_po_init) R.room (fo_po_init X) rfl (code_of X (by kernel_rfl)) rfl (.of_eq rfl) (by decide) (locs rfl) fun L s₁ B hL ev => ?_
  replace ha := ev.kp.k _ _ ha rfl
  replace hd := ev.kp.k _ _ hd rfl
  obtain ⟨h₁, g₁, d₁, t₁, os₁⟩ := s₁
  refine wpAny_execs_cons (plainObj_wpAny_Assign_Attribute (wpAny_Tuple (wpAny_items_cons (r_local B.fm rfl (wpAny_items_cons (r_local B.fm rfl (wpAny_items_nil ⟨show 2 ≤ sizeLine by decide, ?_⟩)))))))
  have lt := Nat.le_of_lt B.lt
  replace B := B.push { cls := .type "tuple", data := .seq #[v, .int j tj] } (t₁)
  have qt := Heap.get?_push_size h₁ (show ({ cls := .type "tuple", data := .seq #[v, .int j tj] } : Obj).isFreed = false from rfl)
  replace ha := Heap.get?_push_of_some { cls := .type "tuple", data := .seq #[v, .int j tj] } ha
  replace hd := Heap.get?_push_of_some { cls := .type "tuple", data := .seq #[v, .int j tj] } hd
  dsimp only at *
  generalize h₁.objs.size = t at *
  generalize h₁.push { cls := .type "tuple", data := .seq #[v, .int j tj] } = h₂ at *
  refine r_local B.fm rfl (po_set B.wd ha hd fun h₃ tk q S => ?_)
  replace B := B.at_ (t := t₁ + 1 + 1) S hnd (B.ne hd nofun) ⟨_, hd, nc_cls (by simp)⟩
  exact wpAny_execs_nil ⟨rfl, B.out, a, d, t, (j, tj), tk, 1, rfl, hna, hnd, lt, stays S hd ha nofun, q, stays S hd qt (by simp)⟩
/-- _ParseResultsWithOffset(v, i) -/
theorem c_po_make {n : Nat} {v : Value} {j : Int} {tj : Tok} (R : Rm (n + 2) A) (X : Wd w s.heap) :
    Ret prog w A (.ref 46) ⟨[v, .int j tj], []⟩ s (fun r s' => Ev s s' ∧ POf s.heap.objs.size w s'.heap r v) := by
  have Rc := R.underO [v, .int j tj] []
  obtain ⟨hh, g, d, t, os⟩ := s
  refine make_core (makes_of X (o_makes w)) (looks_findIn X (o_init w)) (fun self => bind_fn X self (o_fn w)) (.inl rfl) ?_
  have k : ∀ b o, hh.get? b = some o → ((hh.push emptyDict).push (instObj 46 hh.objs.size)).get? b = some o := fun b o e => Heap.get?_push_of_some _ (Heap.get?_push_of_some _ e)
  have hx : ((hh.push emptyDict).push (instObj 46 hh.objs.size)).get? (hh.objs.size + 1) = some (instObj 46 hh.objs.size) := by heap_get
  have hd : ((hh.push emptyDict).push (instObj 46 hh.objs.size)).get? hh.objs.size = some noDict := by heap_get
  refine codeAny_mono (c_po_init (N := hh.objs.size) Rc (X.mono (.of k)) X.big (by simp only [Heap.size_push]; omega) (by omega) (Nat.le_refl _) hx hd) fun r s' z => ?_
  rcases r with e | (v | _ | _ | _) <;> first | exact z.elim | skip
  obtain ⟨rfl, ef, p⟩ := z
  exact ⟨rfl, (show Ef hh.objs.size ⟨hh, g, d, t, os⟩ s' from ⟨(Kf.of k).trans ef.kf, ef.os, ef.gens⟩).ev (Nat.le_refl _), p⟩
end
end Mine
end

-- VK
section
open PySem PySem.W PySem.Calls PyProof.Rows
set_option maxHeartbeats 4000000
namespace Mine
theorem i_PR (w : World) : isIn (KV w) (.ref 240) 240 = true := by kernel_rfl
theorem i_PO (w : World) : isIn (KV w) (.ref 46) 46 = true := by kernel_rfl
theorem io_str (w : World) : kitOne (KV w) (.type "str") (.ref 46) = some false := by kernel_rfl
theorem n_int3 (w : World) : nsIn (KV w) 3 "int" = some none := by kernel_rfl
theorem n_int0 (w : World) : nsIn (KV w) 0 "int" = some (some (.type "int")) := by kernel_rfl
theorem n_slice3 (w : World) : nsIn (KV w) 3 "slice" = some none := by kernel_rfl
theorem n_slice0 (w : World) : nsIn (KV w) 0 "slice" = some (some (.type "slice")) := by kernel_rfl
theorem is_intslice (w : World) : kitAny (KV w) (.type "str") [.type "int", .type "slice"] = some false := by kernel_rfl
theorem pr_type {h : Heap} {a dx : Addr} {sl : Array (Option Value)} (ha : h.get? a = some (pcls dx sl)) (M : Model) : Looks M h (typeOf (.ref a)) (.ref 240) := (Looks.ld ha).andThen .now
theorem po_type {h : Heap} {a : Addr} {o : Obj} (ha : h.get? a = some o) (hc : o.cls = .ref 46) (M : Model) : Looks M h (typeOf (.ref a)) (.ref 46) := hc ▸ (Looks.ld ha).andThen .now
/-- the slots with a new parent -/
def parSet (sl : Array (Option Value)) (a : Addr) : Array (Option Value) := (sl ++ Array.replicate (3 + 1 - sl.size) none).setIfInBounds 3 (some (.ref a))
/-- a value that may come under a name: a text, or a ParseResults at b -/
inductive SubV (h : Heap) (N : Nat) : Value → List Addr → Prop
  | str (y : Str) (t : Tok) : SubV h N (.str y t) []
  | pr (b dx : Addr) (sl : Array (Option Value)) : N ≤ b → h.get? b = some (pcls dx sl) → h.get? dx = some noDict → SubV h N (.ref b) [b]
section
variable {prog : Program} {w : World} {A : Around} {E : Value → Shared → Prop} {s : Shared}
abbrev envS (L : Addr) : Env := callEnv fd_setitem L 86
/-- a child's parent is set -/
theorem set_tail {N : Nat} {e : Shared} {L : Addr} {m : Str → Option Value} {x : Value} {a : Addr} {D : List Addr} {Q : Flow → Shared → Prop} (B : Bd w N e L m s) (h1 : m "sub" = some x) (h2 : m "self" = some (.ref a)) (V : SubV s.heap N x D)
    (h : ∀ s', Bd w N e L m s' → Kx D s.heap s'.heap → (∀ b dx sl, x = .ref b → s.heap.get? b = some (pcls dx sl) → s'.heap.get? b = some (pcls dx (parSet sl a))) → Q .next s') :
    wpAny (model prog w) A (execs ((bodyOf fd_setitem).drop 1) (envS L)) Q E s := by
  cases V with
  | str y t =>
    refine wpAny_execs_cons (wpAny_If (isTrue_plain (Call_ (r_builtin B.wd (n_isi3 w) (n_isi0 w) (PyProof.Rows.callWith_builtin1 (wpAny_items_cons (r_local B.fm h1 (wpAny_items_cons (r_global B.wd (n_PR w) (wpAny_items_nil ?_))))))))))
    refine kia_one kitx_str B.wd trivial (i_str w) nofun fun t₂ => wpAny_truthy_bool ?_
    exact wpAny_execs_nil (wpAny_execs_nil (h _ (B.tok t₂) (Kx.refl _ _) nofun))
  | pr b dx sl lb hb hdx =>
    refine wpAny_execs_cons (wpAny_If (isTrue_plain (Call_ (r_builtin B.wd (n_isi3 w) (n_isi0 w) (PyProof.Rows.callWith_builtin1 (wpAny_items_cons (r_local B.fm h1 (wpAny_items_cons (r_global B.wd (n_PR w) (wpAny_items_nil ?_))))))))))
    refine isi_call B.wd (pr_type hb) (i_PR w) nofun (wpAny_truthy_bool ?_)
    refine wpAny_execs_cons (plainObj_wpAny_Assign_Attribute (r_local B.fm h2 (r_local B.fm h1 ?_)))
    refine b_set B lb hb hdx (u_par w) (y_par w) (s_par w) (by decide) rfl fun h₂ B ha hx S => ?_
    refine wpAny_execs_nil (wpAny_execs_nil (h _ B (Kx.at_ S (by simp)) fun b' dx' sl' e hb' => ?_))
    cases e
    rw [hb] at hb'
    cases hb'
    exact ha
/-- what stands under k before: a list of values, or nothing -/
def Under (h : Heap) (kvs : List (Str × Value)) (k : Str) (os : List Value) : Prop := os.length ≤ 60 ∧ ((valueAt kvs k = none ∧ os = []) ∨ ∃ l c, valueAt kvs k = some (.ref l) ∧ IsL h l os.toArray c)
theorem Under.ka {h h' : Heap} {kvs : List (Str × Value)} {k : Str} {os : List Value} (x : Under h kvs k os) (ka : Kp h h') : Under h' kvs k os := by
  obtain ⟨z, x | ⟨l, c, e, hl⟩⟩ := x
  · exact ⟨z, .inl x⟩
  · exact ⟨z, .inr ⟨l, c, e, ka.k _ _ hl rfl⟩⟩
theorem bd_ref {w : World} {n : Nat} {e : Shared} {L : Addr} {m : Str → Option Value} {h : Heap} {g : Array GenState} {d : Drawn} {t : Nat} {os : OsState} (B : Bd w n e L m ⟨h, g, d, t, os⟩) (t' : Nat) : Bd w n e L m ⟨h, g, d, t', os⟩ := B.tok t'
/-- a value with its place, apart from td -/
def POe (td : Addr) (w : World) (h : Heap) (o v : Value) : Prop :=
  ∃ a d t, ∃ i : Int × Tok, ∃ tk n, o = .ref a ∧ d ≠ td ∧ h.get? a = some ⟨.ref 46, some d, .plain, #[]⟩ ∧ h.get? d = some (poDict w.params tk (.ref t) n) ∧ h.get? t = some { cls := .type "tuple", data := .seq #[v, .int i.1 i.2] }
theorem POf.poe {N td : Nat} {h : Heap} {o v : Value} (x : POf N w h o v) (l : td < N) : POe td w h o v := by
  obtain ⟨a, d, t, i, tk, n, e, l1, l2, l3, p1, p2, p3⟩ := x
  exact ⟨a, d, t, i, tk, n, e, fun q => absurd l (by rw [← q]; exact Nat.not_lt_of_le l2), p1, p2, p3⟩
/-- the store of a value with its place -/
theorem c_setitem_po {n N : Nat} {a dx td : Addr} {sl : Array (Option Value)} {k : Str} {t : Tok} {o x : Value} {kvs : List (Str × Value)} {os : List Value} {D : List Addr} (R : Rm (n + 3) A) (X : Wd w s.heap) (hN : 333 ≤ N) (hNs : N ≤ s.heap.objs.size)
    (ha : s.heap.get? a = some (pcls dx sl)) (hx : s.heap.get? dx = some noDict) (hsl : (sl[4]?).join = some (.ref td)) (hntd : N ≤ td) (hd : s.heap.DictOf (PySem.strKind prog w) td kvs) (hs : (td == sysModules) = false) (hkz : kvs.length ≤ 60) (U : Under s.heap kvs k os)
    (P : POe td w s.heap o x) (V : SubV s.heap N x D) (hsd : ∀ b dxb slb, x = .ref b → s.heap.get? b = some (pcls dxb slb) → dxb ≠ td) :
    Ret prog w A (.ref 86) ⟨[.ref a, .str k t, o], []⟩ s (fun r s' => r = .none ∧ Ef N s s' ∧ Kx (td :: D) s.heap s'.heap ∧ (∃ nl, s.heap.objs.size ≤ nl ∧ s'.heap.DictOf (PySem.strKind prog w) td (stored kvs k (.ref nl)) ∧ IsL s'.heap nl (os ++ [o]).toArray 0) ∧
      (∀ b dx sl, x = .ref b → s.heap.get? b = some (pcls dx sl) → s'.heap.get? b = some (pcls dx (parSet sl a)))) := by
  refine b_enter X hN hNs (binds := [("self", .ref a), ("k", .str k t), ("v", o)]) (body := bodyOf fd_setitem) R.room (fo_setitem X) rfl (code_of X (by kernel_rfl)) rfl (.of_eq rfl) (by decide) (locs rfl) fun L s₁ B hL ev => ?_
  have kx : Kx (td :: D) s.heap s₁.heap := .of ev.ka
  have P0 := P
  obtain ⟨oa, od, otp, oi, otk, on, rfl, hod, oP1, oP2, oP3⟩ := P0
  obtain ⟨h₁, g₁, d₁, t₁, os₁⟩ := s₁
  refine wpAny_execs_cons (wpAny_If (isTrue_plain (Call_ (r_builtin B.wd (n_isi3 w) (n_isi0 w) (PyProof.Rows.callWith_builtin1 (wpAny_items_cons (r_local B.fm rfl (wpAny_items_cons (r_global B.wd (n_PO w) (wpAny_items_nil ?_))))))))))
  refine isi_call B.wd (po_type (ev.kp.k _ _ oP1 rfl) rfl) (i_PO w) nofun (wpAny_truthy_bool ?_)
  refine wpAny_execs_cons (wpAny_Assign_Subscript (wpAny_BinOp (MethodCall_ (Attribute_Name_ (r_local B.fm rfl (pr_get B.wd (ev.kp.k _ _ ha rfl) (ev.kp.k _ _ hx rfl) (c_td w) (s_td w) hsl rfl ?_))))))
  replace B := B.tok (t₁ + 1)
  have hd₁ := dictOf_kp hd ev.kp
  have U₁ := U.ka ev.kp
  refine getMethod_builtin hd₁.typeIs F.plainAttrs_dict F.slot_dict_get F.type_dict_get hd₁.mapOf.noDict ?_
  refine wpAny_dict_get2 (knd := PySem.strKind prog w) hs (r_local B.fm rfl ?_)
  refine Call_ (r_builtin B.wd (n_list3 w) (n_list0 w) (callWith_type0 (call_list_0 fun h₂ c hl S => ?_)))
  have k2 : ∀ b o, h₁.get? b = some o → h₂.get? b = some o := fun b o e => (S.2 b (Nat.ne_of_lt (Heap.lt_size e))).trans (Heap.get?_push_of_some _ e)
  have ldf := Nat.le_of_lt B.lt
  dsimp only at *
  replace B := B.keep (t := t₁ + 1 + 1) k2
  have hd₂ := dictOf_kp hd₁ (.of k2)
  have U₂ := U₁.ka (.of k2)
  generalize h₁.objs.size = df at *
  refine ⟨k, _, PySem.strKind_is prog w k t, hd₂.mapOf, ?_⟩
  clear S
  obtain ⟨l, c', el, hl'⟩ : ∃ l c', (valueAt kvs k).getD (.ref df) = .ref l ∧ IsL h₂ l os.toArray c' := by
    rcases U₂.2 with ⟨e, rfl⟩ | ⟨l, c', e, hl'⟩
    · exact ⟨df, c, by rw [e]; rfl, hl⟩
    · exact ⟨l, c', by rw [e]; rfl, hl'⟩
  rw [el]
  replace B := B.tok (t₁ + 1 + 1 + 1)
  refine wpAny_List (wpAny_items_cons (r_local B.fm rfl (wpAny_items_nil ⟨show 1 ≤ sizeLine by decide, ?_⟩)))
  have k3 : ∀ b o, h₂.get? b = some o → (h₂.push { cls := .type "list", data := .seq [Value.ref oa].toArray }).get? b = some o := fun b o e => Heap.get?_push_of_some _ e
  replace hd₂ := dictOf_kp hd₂ (.of k3)
  have ls1 := Nat.le_of_lt B.lt
  replace B := B.push { cls := .type "list", data := .seq [Value.ref oa].toArray } (t₁ + 1 + 1 + 1)
  have qs1 := Heap.get?_push_size h₂ (show ({ cls := .type "list", data := .seq [Value.ref oa].toArray } : Obj).isFreed = false from rfl)
  replace hl' := Heap.get?_push_of_some { cls := .type "list", data := .seq [Value.ref oa].toArray } hl'
  dsimp only at *
  generalize h₂.objs.size = s1 at *
  generalize h₂.push { cls := .type "list", data := .seq [Value.ref oa].toArray } = h₃ at *
  have kk : Ka s.heap h₃ := ev.ka.trans ((Ka.of k2).trans (.of k3))
  clear k2 k3
  refine PySem.P.add_list hl' (show IsL h₃ s1 [Value.ref oa].toArray 0 from qs1) ?_ (by have := U.1; simp only [List.size_toArray, List.length_singleton]; rw [sizeLine_eq]; omega)
  have k4 : ∀ b o, h₃.get? b = some o → (h₃.push { cls := .type "list", data := .seq (os.toArray ++ [Value.ref oa].toArray) }).get? b = some o := fun b o e => Heap.get?_push_of_some _ e
  have lnl : s.heap.objs.size ≤ h₃.objs.size := Nat.le_of_lt (Nat.lt_of_le_of_lt hL (by obtain ⟨o, q, _⟩ := B.fm.cls; exact Heap.lt_size q))
  replace hd₂ := dictOf_kp hd₂ (.of k4)
  replace kk := kk.trans (.of k4)
  dsimp only at *
  have lnl := Nat.le_of_lt B.lt
  replace B := B.push { cls := .type "list", data := .seq (os.toArray ++ [Value.ref oa].toArray) } (t₁ + 1 + 1 + 1)
  have qnl := Heap.get?_push_size h₃ (show ({ cls := .type "list", data := .seq (os.toArray ++ [Value.ref oa].toArray) } : Obj).isFreed = false from rfl)
  dsimp only at *
  generalize h₃.objs.size = nl at *
  generalize h₃.push { cls := .type "list", data := .seq (os.toArray ++ [Value.ref oa].toArray) } = h₄ at *
  clear k4
  refine Attribute_Name_ (r_local B.fm rfl (pr_get B.wd (kk.k _ _ ha rfl) (kk.k _ _ hx rfl) (c_td w) (s_td w) hsl rfl ?_))
  replace B := B.tok (t₁ + 1 + 1 + 1 + 1)
  refine r_local B.fm rfl (wpAny_setItem_pairs (PySem.strKind_is prog w k t) hd₂ (fun h₅ hd₅ S => ?_) (by rw [sizeLine_eq]; omega))
  have hdo : ∃ o, h₄.get? td = some o ∧ o.cls = .type "dict" := by obtain ⟨o, es, ep, q, he, _⟩ := hd₂; exact ⟨o, q, he.1⟩
  obtain ⟨otd, qtd, ctd⟩ := hdo
  replace B := B.at_ (t := t₁ + 1 + 1 + 1 + 1 + 1) S hntd (B.ne qtd (by rw [ctd]; simp)) ⟨_, qtd, nc_cls (by rw [ctd]; simp)⟩
  have kx5 : Kx (td :: D) s.heap h₅ := (Kx.of kk).trans (Kx.at_ S (by simp))
  have qnl5 := stays S qtd qnl (by rw [ctd]; simp)
  have oQ1 := stays S qtd (kk.k _ _ oP1 rfl) (by rw [ctd]; simp)
  have oQ2 := (S.2 od hod).trans (kk.k _ _ oP2 rfl)
  have oQ3 := stays S qtd (kk.k _ _ oP3 rfl) (by rw [ctd]; simp)
  have PX : POx w h₅ (.ref oa) x := ⟨oa, od, otp, oi, otk, on, rfl, oQ1, oQ2, _, oQ3, rfl, 0, rfl⟩
  have hsub : ∀ b dxb slb, x = .ref b → s.heap.get? b = some (pcls dxb slb) → h₅.get? b = some (pcls dxb slb) := fun b dxb slb _ e => stays S qtd (kk.k _ _ e rfl) (by rw [ctd]; nofun)
  have V5 : SubV h₅ N x D := by
    cases V with
    | str y ty => exact .str y ty
    | pr b dxb slb lb hb hdxb =>
      exact .pr b dxb slb lb (stays S qtd (kk.k _ _ hb rfl) (by rw [ctd]; nofun)) ((S.2 dxb (hsd _ _ _ rfl hb)).trans (kk.k _ _ hdxb rfl))
  clear oP1 oP2 oP3 oQ1 oQ2 oQ3 hd₂ S qtd ctd el hl hl'
  refine wpAny_execs_cons (wpAny_Assign_Name (Subscript_ (r_local B.fm rfl (wpAny_Constant_int (po_item (R.deep _) B.wd PX fun s₆ ev6 => ?_)))))
  replace B := (B.tok _).ev ev6
  have V6 : SubV s₆.heap N x D := by
    cases V5 with
    | str y ty => exact .str y ty
    | pr b dxb slb lb hb hdxb => exact .pr b dxb slb lb (ev6.kp.k _ _ hb rfl) (ev6.kp.k _ _ hdxb rfl)
  have hd₆ := dictOf_kp hd₅ ev6.kp
  have qnl6 := ev6.kp.k _ _ qnl5 rfl
  have kx6 : Kx (td :: D) s.heap s₆.heap := kx5.trans (.of ev6.ka)
  refine b_store B fun h₇ B K S => ?_
  have V7 : SubV h₇ N x D := by
    cases V6 with
    | str y ty => exact .str y ty
    | pr b dxb slb lb hb hdxb => exact .pr b dxb slb lb (K.k _ _ hb rfl) (K.k _ _ hdxb rfl)
  have kx7 : Kx (td :: D) s.heap h₇ := kx6.lo S hL
  refine wpAny_execs_nil (set_tail B rfl rfl V7 fun s₈ B kd hp => ?_)
  have nd : ∀ z ∈ D, ∃ dxb slb, h₇.get? z = some (pcls dxb slb) := by
    cases V7 with
    | str y ty => intro z m; cases m
    | pr b dxb slb lb hb hdxb => intro z m; rw [List.mem_singleton] at m; subst m; exact ⟨_, _, hb⟩
  have far : ∀ b o, h₇.get? b = some o → o.cls ≠ .ref 240 → tabO o = false → s₈.heap.get? b = some o := fun b o e hc ht => kd b o (fun m => by
    obtain ⟨dxb, slb, q⟩ := nd b m
    rw [e] at q; cases q; exact hc rfl) e ht
  refine ⟨rfl, B.out, kx7.trans (kd.more fun z m => List.mem_cons_of_mem _ m), ⟨nl, by assumption, ?_, ?_⟩, fun b dxb slb e q => hp b dxb slb e (K.k _ _ (ev6.kp.k _ _ (hsub b dxb slb e q) rfl) rfl)⟩
  · obtain ⟨o, es, ep, q, he, r⟩ := dictOf_kp hd₆ K
    exact ⟨o, es, ep, far _ _ q (by rw [he.1]; nofun) (pl_tab (pl_of he.1 (by decide))), he, r⟩
  · have := far _ _ (K.k _ _ qnl6 rfl) nofun rfl
    rw [show (os ++ [Value.ref oa]).toArray = os.toArray ++ #[Value.ref oa] from by simp]
    exact this
end
end Mine
end

-- VN
section
open PySem PySem.W PySem.Calls PyProof.Rows
set_option maxHeartbeats 4000000
namespace Mine
/-- all objects are kept (code tables aside) -/
def Ka0 (h h' : Heap) : Prop := ∀ b o, h.get? b = some o → tabO o = false → h'.get? b = some o
section
variable {prog : Program} {w : World} {A : Around} {E : Value → Shared → Prop} {s : Shared}
theorem k_PO (w : World) : keepIn (KV w) (.ref 46) = true := by kernel_rfl
/-- the store of a text -/
theorem c_setitem_str {n N : Nat} {a dx td : Addr} {sl : Array (Option Value)} {k y : Str} {t ty : Tok} {kvs : List (Str × Value)} {os : List Value} (R : Rm (n + 3) A) (X : Wd w s.heap) (hN : 333 ≤ N) (hNs : N ≤ s.heap.objs.size)
    (ha : s.heap.get? a = some (pcls dx sl)) (hx : s.heap.get? dx = some noDict) (hsl : (sl[4]?).join = some (.ref td)) (hntd : N ≤ td) (hd : s.heap.DictOf (PySem.strKind prog w) td kvs) (hs : (td == sysModules) = false) (hkz : kvs.length ≤ 60) (U : Under s.heap kvs k os) :
    Ret prog w A (.ref 86) ⟨[.ref a, .str k t, .str y ty], []⟩ s (fun r s' => r = .none ∧ Ef N s s' ∧ Kx [td] s.heap s'.heap ∧ (∃ nl o, s.heap.objs.size ≤ nl ∧ s'.heap.DictOf (PySem.strKind prog w) td (stored kvs k (.ref nl)) ∧ IsL s'.heap nl (os ++ [o]).toArray 0 ∧ POf s.heap.objs.size w s'.heap o (.str y ty))) := by
  refine b_enter X hN hNs (binds := [("self", .ref a), ("k", .str k t), ("v", .str y ty)]) (body := bodyOf fd_setitem) R.room (fo_setitem X) rfl (code_of X (by kernel_rfl)) rfl (.of_eq rfl) (by decide) (locs rfl) fun L s₁ B hL ev => ?_
  obtain ⟨h₁, g₁, d₁, t₁, os₁⟩ := s₁
  refine wpAny_execs_cons (wpAny_If (isTrue_plain (Call_ (r_builtin B.wd (n_isi3 w) (n_isi0 w) (PyProof.Rows.callWith_builtin1 (wpAny_items_cons (r_local B.fm rfl (wpAny_items_cons (r_global B.wd (n_PO w) (wpAny_items_nil ?_))))))))))
  refine kia_one kitx_str B.wd trivial (io_str w) nofun fun t₁ => wpAny_truthy_bool ?_
  replace B := B.tok t₁
  refine wpAny_execs_cons (wpAny_If (isTrue_plain (Call_ (r_builtin B.wd (n_isi3 w) (n_isi0 w) (PyProof.Rows.callWith_builtin1 (wpAny_items_cons (r_local B.fm rfl (wpAny_items_cons (wpAny_Tuple ?_)))))))))
  refine wpAny_items_cons (r_builtin B.wd (n_int3 w) (n_int0 w) (wpAny_items_cons (r_builtin B.wd (n_slice3 w) (n_slice0 w) (wpAny_items_nil ⟨show 2 ≤ sizeLine by decide, wpAny_items_nil ?_⟩))))
  have k1 : ∀ b o, h₁.get? b = some o → (h₁.push { cls := .type "tuple", data := .seq #[.type "int", .type "slice"] }).get? b = some o := fun b o e => Heap.get?_push_of_some _ e
  have evk : Ka s.heap (h₁.push { cls := .type "tuple", data := .seq #[.type "int", .type "slice"] }) := ev.ka.trans (.of k1)
  have ltp := Nat.le_of_lt B.lt
  replace B := B.push { cls := .type "tuple", data := .seq #[.type "int", .type "slice"] } (t₁)
  have qtp := Heap.get?_push_size h₁ (show ({ cls := .type "tuple", data := .seq #[.type "int", .type "slice"] } : Obj).isFreed = false from rfl)
  dsimp only at *
  generalize h₁.objs.size = tp at *
  generalize h₁.push { cls := .type "tuple", data := .seq #[.type "int", .type "slice"] } = hh₁ at *
  clear k1 ev
  refine kia_tup kitx_str B.wd trivial qtp (is_intslice w) nofun fun t₁ => wpAny_truthy_bool ?_
  replace B := B.tok t₁
  refine wpAny_execs_cons (wpAny_Assign_Subscript (wpAny_BinOp (MethodCall_ (Attribute_Name_ (r_local B.fm rfl (pr_get B.wd (evk.k _ _ ha rfl) (evk.k _ _ hx rfl) (c_td w) (s_td w) hsl rfl ?_))))))
  replace B := B.tok (t₁ + 1)
  have hd₁ := dictOf_kp hd evk.kp
  have U₁ := U.ka evk.kp
  refine getMethod_builtin hd₁.typeIs F.plainAttrs_dict F.slot_dict_get F.type_dict_get hd₁.mapOf.noDict ?_
  refine wpAny_dict_get2 (knd := PySem.strKind prog w) hs (r_local B.fm rfl ?_)
  refine wpAny_List (wpAny_items_nil ⟨by decide, ?_⟩)
  have k2 : ∀ b o, hh₁.get? b = some o → (hh₁.push { cls := .type "list", data := .seq #[] }).get? b = some o := fun b o e => Heap.get?_push_of_some _ e
  have hd₂ := dictOf_kp hd₁ (.of k2)
  have U₂ := U₁.ka (.of k2)
  have kk2 := evk.trans (.of k2)
  dsimp only at *
  have ldf := Nat.le_of_lt B.lt
  replace B := B.push { cls := .type "list", data := .seq #[] } (t₁ + 1)
  have qdf := Heap.get?_push_size hh₁ (show ({ cls := .type "list", data := .seq #[] } : Obj).isFreed = false from rfl)
  dsimp only at *
  generalize hh₁.objs.size = df at *
  generalize hh₁.push { cls := .type "list", data := .seq #[] } = h₂ at *
  obtain ⟨c, hl⟩ : ∃ c, IsL h₂ df #[] c := ⟨0, qdf⟩
  refine ⟨k, _, PySem.strKind_is prog w k t, hd₂.mapOf, ?_⟩
  clear k2
  obtain ⟨l, c', el, hl'⟩ : ∃ l c', (valueAt kvs k).getD (.ref df) = .ref l ∧ IsL h₂ l os.toArray c' := by
    rcases U₂.2 with ⟨e, rfl⟩ | ⟨l, c', e, hl'⟩
    · exact ⟨df, c, by rw [e]; rfl, hl⟩
    · exact ⟨l, c', by rw [e]; rfl, hl'⟩
  rw [el]
  replace B := B.tok (t₁ + 1 + 1)
  refine wpAny_List (wpAny_items_cons (Call_ (r_global B.wd (n_PO w) (callWith_K (h₀ := h₂) (B.wd) (k_PO w) (wpAny_items_cons (r_local B.fm rfl (wpAny_items_cons (wpAny_Constant_int (wpAny_items_nil ⟨B.wd, ?_⟩)))))))))
  replace B := B.tok (t₁ + 1 + 1 + 1)
  have lsz : s.heap.objs.size ≤ h₂.objs.size := Nat.le_of_lt (Nat.lt_of_le_of_lt hL (by obtain ⟨o, q, _⟩ := B.fm.cls; exact Heap.lt_size q))
  have ltd2 : td < h₂.objs.size := by obtain ⟨o, es, ep, q, _⟩ := hd₂; exact Heap.lt_size q
  refine (c_po_make (R.deep _) B.wd).call fun o s₃ z => wpAny_items_nil ⟨show 1 ≤ sizeLine by decide, ?_⟩
  obtain ⟨ev3, P3⟩ := z
  replace B := B.ev ev3
  replace hd₂ := dictOf_kp hd₂ ev3.kp
  replace hl' := ev3.kp.k _ _ hl' rfl
  replace kk2 := kk2.trans ev3.ka
  obtain ⟨h₃, g₃, d₃, t₃, os₃⟩ := s₃
  dsimp only at *
  have k3 : ∀ b o', h₃.get? b = some o' → (h₃.push { cls := .type "list", data := .seq [o].toArray }).get? b = some o' := fun b o' e => Heap.get?_push_of_some _ e
  replace hd₂ := dictOf_kp hd₂ (.of k3)
  replace kk2 := kk2.trans (.of k3)
  replace P3 := P3.kx (D := []) (Kx.keep k3) nofun
  have ls1 := Nat.le_of_lt B.lt
  replace B := B.push { cls := .type "list", data := .seq [o].toArray } (t₃)
  have qs1 := Heap.get?_push_size h₃ (show ({ cls := .type "list", data := .seq [o].toArray } : Obj).isFreed = false from rfl)
  replace hl' := Heap.get?_push_of_some { cls := .type "list", data := .seq [o].toArray } hl'
  dsimp only at *
  generalize h₃.objs.size = s1 at *
  generalize h₃.push { cls := .type "list", data := .seq [o].toArray } = h₄ at *
  clear k3
  refine PySem.P.add_list hl' (show IsL h₄ s1 [o].toArray 0 from qs1) ?_ (by have := U.1; simp only [List.size_toArray, List.length_singleton]; rw [sizeLine_eq]; omega)
  have k4 : ∀ b o', h₄.get? b = some o' → (h₄.push { cls := .type "list", data := .seq (os.toArray ++ [o].toArray) }).get? b = some o' := fun b o' e => Heap.get?_push_of_some _ e
  have lnl : s.heap.objs.size ≤ h₄.objs.size := Nat.le_of_lt (Nat.lt_of_le_of_lt hL (by obtain ⟨o, q, _⟩ := B.fm.cls; exact Heap.lt_size q))
  replace hd₂ := dictOf_kp hd₂ (.of k4)
  replace kk2 := kk2.trans (.of k4)
  replace P3 := P3.kx (D := []) (Kx.keep k4) nofun
  dsimp only at *
  have lnl := Nat.le_of_lt B.lt
  replace B := B.push { cls := .type "list", data := .seq (os.toArray ++ [o].toArray) } (t₃)
  have qnl := Heap.get?_push_size h₄ (show ({ cls := .type "list", data := .seq (os.toArray ++ [o].toArray) } : Obj).isFreed = false from rfl)
  dsimp only at *
  generalize h₄.objs.size = nl at *
  generalize h₄.push { cls := .type "list", data := .seq (os.toArray ++ [o].toArray) } = h₅ at *
  clear k4
  refine Attribute_Name_ (r_local B.fm rfl (pr_get B.wd (kk2.k _ _ ha rfl) (kk2.k _ _ hx rfl) (c_td w) (s_td w) hsl rfl ?_))
  replace B := B.tok (t₃ + 1)
  refine r_local B.fm rfl (wpAny_setItem_pairs (PySem.strKind_is prog w k t) hd₂ (fun h₆ hd₆ S => ?_) (by rw [sizeLine_eq]; omega))
  have hdo : ∃ o, h₅.get? td = some o ∧ o.cls = .type "dict" := by obtain ⟨o, es, ep, q, he, _⟩ := hd₂; exact ⟨o, q, he.1⟩
  obtain ⟨otd, qtd, ctd⟩ := hdo
  replace B := B.at_ (t := t₃ + 1 + 1) S hntd (B.ne qtd (by rw [ctd]; simp)) ⟨_, qtd, nc_cls (by rw [ctd]; simp)⟩
  have kx6 : Kx [td] s.heap h₆ := (Kx.of kk2).trans (Kx.at_ S (by simp))
  have qnl6 := stays S qtd qnl (by rw [ctd]; simp)
  replace P3 := P3.kx (D := [td]) (Kx.at_ S (by simp)) (fun z m => by rw [List.mem_singleton] at m; rw [m]; exact ltd2)
  refine wpAny_execs_cons (wpAny_Assign_Name (r_local B.fm rfl ?_))
  refine b_store B fun h₇ B K S' => ?_
  replace kx6 := kx6.lo S' hL
  refine wpAny_execs_nil (wpAny_execs_nil (set_tail B rfl rfl (.str y ty) fun s₈ B kd _ => ?_))
  have kd' : Ka0 h₇ s₈.heap := fun b o e p => kd b o nofun e p
  refine ⟨rfl, B.out, kx6.trans (kd.more nofun), nl, o, by assumption, ?_, ?_, ?_⟩
  · obtain ⟨o, es, ep, q, he, r⟩ := dictOf_kp hd₆ K
    exact ⟨o, es, ep, kd' _ _ q (pl_tab (pl_of he.1 (by decide))), he, r⟩
  · have := kd' _ _ (K.k _ _ qnl6 rfl) rfl
    rw [show (os ++ [o]).toArray = os.toArray ++ #[o] from by simp]
    exact this
  · obtain ⟨a', d', t', i', tk', n', e, l1, l2, l3, p1, p2, p3⟩ := P3
    exact ⟨a', d', t', i', tk', n', e, Nat.le_trans lsz l1, Nat.le_trans lsz l2, Nat.le_trans lsz l3, kd' _ _ (K.k _ _ p1 rfl) rfl, kd' _ _ (K.k _ _ p2 rfl) rfl, kd' _ _ (K.k _ _ p3 rfl) rfl⟩
end
end Mine
end

-- VP
section
open PySem PySem.W PySem.Calls PyProof.Rows
set_option maxHeartbeats 4000000
namespace Mine
/-- everything outside [lo, hi) is kept (code tables aside) -/
def St (lo hi : Nat) (h h' : Heap) : Prop := ∀ (b : Nat) o, (b < lo ∨ hi ≤ b) → h.get? b = some o → tabO o = false → h'.get? b = some o
theorem St.refl (lo hi : Nat) (h : Heap) : St lo hi h h := fun _ _ _ e _ => e
theorem St.trans {lo hi : Nat} {a b c : Heap} (x : St lo hi a b) (y : St lo hi b c) : St lo hi a c := fun k o d e p => y k o d (x k o d e p) p
theorem St.ka {lo hi : Nat} {a b : Heap} (x : Ka a b) : St lo hi a b := fun k o _ e p => x.k k o e p
theorem St.at_ {lo hi z : Nat} {a b : Heap} (x : Heap.SameBut z a b) (h1 : lo ≤ z) (h2 : z < hi) : St lo hi a b := fun k o d e _ => (x.2 k (fun q => by subst q; rcases d with d | d <;> omega)).trans e
theorem tab_dict {o : Obj} {es : Array DictEntry} {n : Nat} (h : o.data = .dict es n) : tabO o = false := by
  obtain ⟨c, d, dt, sl⟩ := o
  subst h
  cases c <;> rfl
/-- a step of a source: what lies below e, and what lies at or above lo, is kept; so for generators -/
structure Nx (e : Shared) (lo gl : Nat) (s s' : Shared) : Prop where
  kf : Kf e.heap.objs.size s.heap s'.heap
  up : ∀ (b : Nat) o, lo ≤ b → s.heap.get? b = some o → s'.heap.get? b = some o
  os : s'.os = s.os
  g : ∀ (i : Nat) (x : GenState), (i < e.gens.size ∨ gl ≤ i) → s.gens[i]? = some x → s'.gens[i]? = some x
  b : (∀ x : GenState, x ∈ s.gens → x.bare = true) → ∀ x : GenState, x ∈ s'.gens → x.bare = true
theorem Nx.trans {e : Shared} {lo gl : Nat} {a b c : Shared} (x : Nx e lo gl a b) (y : Nx e lo gl b c) : Nx e lo gl a c :=
  ⟨x.kf.trans y.kf, fun b o l q => y.up b o l (x.up b o l q), y.os.trans x.os, fun i z h q => y.g i z h (x.g i z h q), fun h => y.b (x.b h)⟩
theorem grow_small {b : Nat} (h : b ∈ growTabs) : b < 333 := by
  simp only [growTabs, List.mem_cons, List.not_mem_nil, or_false] at h
  rcases h with h | h | h | h <;> (rw [h]; decide)
theorem Ka.hi {h h' : Heap} (x : Ka h h') {b : Nat} {o : Obj} (hb : 333 ≤ b) (q : h.get? b = some o) : h'.get? b = some o := by
  cases p : tabO o with
  | false => exact x.k b o q p
  | true =>
    rcases x.t b o q p with r | ⟨m, _⟩
    · exact r
    · exact absurd (grow_small m) (Nat.not_lt_of_le hb)
theorem Ev.nx {e : Shared} {lo gl : Nat} {a b : Shared} (x : Ev a b) (h : 333 ≤ lo) : Nx e lo gl a b :=
  ⟨x.ka.kf, fun b' o l q => x.ka.hi (Nat.le_trans h l) q, x.os, fun i z _ q => x.gens.k i z q, x.gens.b⟩
theorem Ef.nx {e s s' : Shared} {lo gl : Nat} (x : Ef e.heap.objs.size e s) (y : Nx e lo gl s s') : Ef e.heap.objs.size e s' :=
  ⟨x.kf.trans y.kf, y.os.trans x.os, ⟨fun i z q => y.g i z (.inl (by
    rcases Nat.lt_or_ge i e.gens.size with h' | h'
    · exact h'
    · rw [Array.getElem?_eq_none h'] at q; cases q)) (x.gens.k i z q), fun h => y.b (x.gens.b h)⟩⟩
/-- a source of values: I j says that j have come; P hi j v h what is known of the value, the new objects at or above hi -/
structure Src (prog : Program) (w : World) (A : Around) (e : Shared) (lo gl : Nat) (it : Value) (N : Nat) (I : Nat → Shared → Prop) (P : Nat → Nat → Value → Heap → Prop) : Prop where
  ev : ∀ j s s', I j s → Ev s s' → I j s'
  at_ : ∀ j (s : Shared) (z : Nat) h' t, I j s → Heap.SameBut z s.heap h' → lo ≤ z → (∃ o, s.heap.get? z = some o ∧ ¬ codeO o) → I j { s with heap := h', toks := t }
  gen : ∀ j (s : Shared) i x, I j s → gl ≤ i → I j (s.setGen i x)
  pst : ∀ hi j v h h', P hi j v h → St e.heap.objs.size hi h h' → P hi j v h'
  pmono : ∀ hi hi' j v h, hi ≤ hi' → P hi' j v h → P hi j v h
  iter : ∀ A' (s : Shared) E Q, I 0 s → Q it s → wpAny (model prog w) A' (pyIter it) Q E s
  next : ∀ hi j (s : Shared) E, I j s → Wd w s.heap → lo ≤ hi → hi ≤ s.heap.objs.size → wpAny (model prog w) A (pyNext it) (fun r s' => Nx e lo gl s s' ∧
    match r with | none => j = N | some v => j < N ∧ I (j + 1) s' ∧ s.heap.objs.size ≤ s'.heap.objs.size ∧ P hi j v s'.heap) E s
section
variable {prog : Program} {w : World} {A : Around} {E : Value → Shared → Prop} {s : Shared}
theorem ns_at {h h' : Heap} {a : Addr} {m : Str → Option Value} (x : h.Ns a m) (e : ∀ o, h.get? a = some o → h'.get? a = some o) : h'.Ns a m := by
  obtain ⟨o, es, ep, a1, r⟩ := x
  exact ⟨o, es, ep, e o a1, r⟩
theorem nc_ns {h : Heap} {a : Addr} {m : Str → Option Value} (x : h.Ns a m) : ∃ o, h.get? a = some o ∧ ¬ codeO o := by
  obtain ⟨o, es, ep, a1, a2, _⟩ := x
  exact ⟨o, a1, nc_dict a2⟩
structure CInv (w : World) (e : Shared) (lo : Nat) (N : Nat) (I : Nat → Shared → Prop) (p : Nat → Bool) (F : Heap → Nat → Value → Prop) (j : Nat) (s' : Shared) : Prop where
  ef : Ef e.heap.objs.size e s'
  wd : Wd w s'.heap
  src : I j s'
  le : j ≤ N
  acc : ∃ ys c, IsL s'.heap lo ys.toArray c ∧ All2 (F s'.heap) ((List.range j).filter p) ys
  ns : ∃ m, s'.heap.Ns (lo + 1) m
theorem v_ListComp {elt iter : Expr} {x : Str} {px : Pos} {ifs : List Expr} {scope : Scope} {cl : List (Str × Addr)} {pos : Pos} {env : Env} {Q : Value → Shared → Prop}
    (hclos : closureFor scope env = pure cl) (hkind : scope.kind = .function) (hnames : ∀ x ∈ scope.names, x.2 = .local → scope.names.lookup x.1 = some .local) (hx : scope.names.lookup x = some .local) (hcell : ∀ x ∈ scope.names, x.2 ≠ .cell) (X : Wd w s.heap)
    (h : wpAny (model prog w) A (eval iter env) (fun xv s₁ => wpAny (model prog w) A (pyIter xv) (fun it s₂ => Ev s s₂ ∧ s.heap.objs.size ≤ s₂.heap.objs.size ∧ ∃ (N gl : Nat) (I : Nat → Shared → Prop) (P : Nat → Nat → Value → Heap → Prop) (p : Nat → Bool) (F : Heap → Nat → Value → Prop), N ≤ 1000 ∧ I 0 s₂ ∧ Src prog w A s s₂.heap.objs.size gl it N I P ∧
      (∀ (h : Heap) h' j y, F h j y → St s.heap.objs.size (s₂.heap.objs.size + 2) h h' → F h' j y) ∧
      (∀ j v (s' : Shared) m E', j < N → Ef s.heap.objs.size s s' → Wd w s'.heap → s₂.heap.objs.size + 2 ≤ s'.heap.objs.size → P (s₂.heap.objs.size + 2) j v s'.heap → s'.heap.Ns (s₂.heap.objs.size + 1) m → m x = some v →
        wpAny (model prog w) A (forIn ifs true fun c r => if r = true then do let ok ← isTrue c (compEnvC scope cl (s₂.heap.objs.size + 1) env) (eval c (compEnvC scope cl (s₂.heap.objs.size + 1) env)); pure (ForInStep.yield ok) else pure (ForInStep.yield r))
          (fun ok s'' => ok = p j ∧ Ev s' s'' ∧ (ok = true → wpAny (model prog w) A (eval elt (compEnvC scope cl (s₂.heap.objs.size + 1) env)) (fun y s₃ => Ev s'' s₃ ∧ F s₃.heap j y) E' s'')) E' s') ∧
      (∀ s' ys c, Ev s s' → IsL s'.heap s₂.heap.objs.size ys.toArray c → All2 (F s'.heap) ((List.range N).filter p) ys → Q (.ref s₂.heap.objs.size) s')) E s₁) E s)
    (hs : ∀ x, foldedSetIterable iter env x = pure x := by intro _; rfl) :
    wpAny (model prog w) A (eval (.ListComp elt [⟨.Name x px, iter, ifs, 0⟩] scope pos) env) Q E s := by
  rw [eval_ListComp]
  refine wpAny_comprehension_free (use := none) rfl hs hclos hkind hnames ?_
  refine wpAny_mono h (fun xv s₁ h₁ => wpAny_mono h₁ (fun it s₂ h₂ => ?_) fun _ _ z => z) fun _ _ z => z
  obtain ⟨ev, hsz, N, gl, I, P, p, F, hN, hI, S, hF, helt, hQ⟩ := h₂
  refine wpAny_newObj_type (hd := by size_fits) ?_
  simp only [newFunctionEnv, Option.isSome_some, if_true]
  refine wpAny_bind (wpAny_alloc ?_)
  rw [forIn_yield_id cl (fun x hx c => by
    obtain ⟨name, kind⟩ := x
    have : (kind == NameKind.cell) = false := by simpa using hcell _ hx
    simp only [this, Bool.false_eq_true, if_false])]
  refine wpAny_bind (wpAny_pure (wpAny_bind (wpAny_of_eq (List.forIn_nil ..) (wpAny_pure ?_))))
  dsimp only
  rw [Heap.size_push]
  have hD := Heap.get?_push_size s₂.heap (show ({ cls := .type "list", data := .seq ([] : List Value).toArray } : Obj).isFreed = false from rfl)
  generalize hH : (s₂.heap.push { cls := .type "list", data := .seq ([] : List Value).toArray }) = H at *
  have hHz : H.objs.size = s₂.heap.objs.size + 1 := by rw [← hH, Heap.size_push]
  have hC : (H.push { cls := .type "dict", data := .dict #[] }).Ns (s₂.heap.objs.size + 1) (fun _ => none) := by rw [← hHz]; exact Heap.Ns.new H (.type "dict")
  have k1 : ∀ b o, s₂.heap.get? b = some o → H.get? b = some o := fun b o e => hH ▸ Heap.get?_push_of_some _ e
  have k2 : ∀ b o, H.get? b = some o → (H.push { cls := .type "dict", data := .dict #[] }).get? b = some o := fun b o e => Heap.get?_push_of_some _ e
  have hz4 : s₂.heap.objs.size + 2 ≤ (H.push { cls := .type "dict", data := .dict #[] }).objs.size := by rw [Heap.size_push, hHz]; omega
  generalize hH4 : (H.push { cls := .type "dict", data := .dict #[] }) = H₄ at *
  generalize hlo : s₂.heap.objs.size = lo at *
  have hD4 : IsL H₄ lo #[] 0 := k2 _ _ hD
  have e4 : Ev s₂ ⟨H₄, s₂.gens, s₂.drawn, s₂.toks, s₂.os⟩ := ⟨.of fun b o e => k2 _ _ (k1 _ _ e), rfl, .refl _⟩
  have start : CInv w s lo N I p F 0 ⟨H₄, s₂.gens, s₂.drawn, s₂.toks, s₂.os⟩ :=
    ⟨(ev.trans e4).ef, X.mono (ev.trans e4).kp, S.ev _ _ _ hI e4, Nat.zero_le _, ⟨[], 0, hD4, .nil⟩, ⟨_, hC⟩⟩
  have loop : codeAny (model prog w) A (.compLoop (.ListComp elt [⟨.Name x px, iter, ifs, 0⟩] scope pos) 0 it (.ref lo) (compEnvC scope cl (lo + 1) env)) (compPost (model prog w) A E none Q (.ref lo) (lo + 1)) ⟨H₄, s₂.gens, s₂.drawn, s₂.toks, s₂.os⟩ := by
    refine codeAny_compLoop_tests (fun n s' => ∃ j, n = N - j ∧ CInv w s lo N I p F j s') (fun n s' hi => ?_) N ⟨0, rfl, start⟩
    obtain ⟨j, rfl, C⟩ := hi
    refine wpAny_mono (S.next (lo + 2) j s' _ C.src C.wd (Nat.le_add_right _ _) (C.ns.elim fun m hm => hm.lt)) (fun r s₁ z => ?_) fun _ _ z => z
    obtain ⟨nx, z⟩ := z
    have up := nx.up
    obtain ⟨ys, c, hacc, hall⟩ := C.acc
    obtain ⟨m, hns⟩ := C.ns
    have st1 : St s.heap.objs.size (lo + 2) s'.heap s₁.heap := fun b o d e p => d.elim (fun d => nx.kf.k b o d e p) fun d => up b o (by omega) e
    have hacc1 : IsL s₁.heap lo ys.toArray c := up _ _ (Nat.le_refl _) hacc
    have hns1 := ns_at hns fun o e => up _ _ (Nat.le_succ _) e
    have hall1 := All2.mono (fun a b f => hF _ _ _ _ f st1) hall
    have ef1' := C.ef.nx nx
    cases r with
    | none =>
      obtain rfl := z
      refine ⟨m, hns1, fun h' S' => ?_⟩
      have st2 : St s.heap.objs.size (lo + 2) s₁.heap h' := .at_ S' (by omega) (by omega)
      refine hQ _ ys c ?_ ((S'.2 lo (Nat.ne_of_lt (Nat.lt_succ_self _))).trans hacc1) (All2.mono (fun a b f => hF _ _ _ _ f st2) hall1)
      exact (show Ef s.heap.objs.size s { s₁ with heap := h' } from ⟨ef1'.kf.trans (.same S' (Nat.le_succ_of_le hsz) (nc_ns hns1)), ef1'.os, ef1'.gens⟩).ev (Nat.le_refl _)
    | some v =>
      obtain ⟨hj, src1, _, hp⟩ := z
      refine wpAny_assign_Name (wpAny_storeName_local (lookup_relabel_local hx) hns1 (fun h₂ hn₂ S₂ => ?_) (by show ((relabel scope env).kind == .class || ((relabel scope env).kind == .module && _)) = false; rw [show (relabel scope env).kind = .function from hkind]; rfl))
      replace S₂ : Heap.SameBut (lo + 1) s₁.heap h₂ := S₂
      have st2 : St s.heap.objs.size (lo + 2) s₁.heap h₂ := .at_ S₂ (by omega) (by omega)
      have kf2 : Kf s.heap.objs.size s₁.heap h₂ := .same S₂ (Nat.le_succ_of_le hsz) (nc_ns hns1)
      have ef2 : Ef s.heap.objs.size s { s₁ with heap := h₂, toks := s₁.toks + 1 } := ⟨ef1'.kf.trans kf2, ef1'.os, ef1'.gens⟩
      have X2 : Wd w h₂ := X.floor ef2.kf X.big
      have hacc2 : IsL h₂ lo ys.toArray c := (S₂.2 lo (Nat.ne_of_lt (Nat.lt_succ_self _))).trans hacc1
      have hz2 : lo + 2 ≤ h₂.objs.size := hn₂.lt
      refine wpAny_mono (helt j v { s₁ with heap := h₂, toks := s₁.toks + 1 } _ _ hj ef2 X2 hz2 (S.pst _ _ _ _ _ hp st2) hn₂ (by simp)) (fun ok s₃ z => ?_) fun _ _ z => z
      obtain ⟨rfl, ev3, z⟩ := z
      have src3 : I (j + 1) s₃ := S.ev _ _ _ (S.at_ _ _ _ _ _ src1 S₂ (Nat.le_succ _) (nc_ns hns1)) ev3
      have hall3 := All2.mono (fun a b f => hF _ _ _ _ f (.ka ev3.ka)) (All2.mono (fun a b f => hF _ _ _ _ f st2) hall1)
      have hacc3 : IsL s₃.heap lo ys.toArray c := ev3.ka.k _ _ hacc2 rfl
      have hns3 := ns_at hn₂ fun o e => ev3.ka.k _ _ e (by obtain ⟨o', es, ep, a1, a2, _⟩ := hn₂; exact tab_dict ((Option.some.inj (e.symm.trans a1)) ▸ a2))
      cases hpj : p j with
      | false =>
        simp only [Bool.false_eq_true, if_false]
        refine ⟨N - (j + 1), by omega, j + 1, rfl, ef2.trans ev3.ef, X2.mono ev3.kp, src3, hj, ⟨ys, c, hacc3, ?_⟩, ⟨_, hns3⟩⟩
        rw [List.range_succ, List.filter_append, List.filter_cons_of_neg (by rw [hpj]; decide), List.filter_nil, List.append_nil]; exact hall3
      | true =>
        simp only [if_true]
        refine wpAny_mono (z hpj) (fun y s₄ z => ?_) fun _ _ z => z
        obtain ⟨ev4, hf⟩ := z
        have hyz : ys.length ≤ 1000 := by
          have := hall3.length
          have e2 : ((List.range j).filter p).length ≤ (List.range j).length := List.length_filter_le _ _
          rw [List.length_range] at e2
          omega
        refine wpAny_list_append_plain (s := s₄) (hl := ⟨c, ev4.ka.k _ _ hacc3 rfl⟩) (fun h₅ hl₅ S₅ => ?_) (by rw [List.size_toArray, sizeLine_eq]; omega)
        obtain ⟨c₅, hl₅⟩ := hl₅
        have st5 : St s.heap.objs.size (lo + 2) s₄.heap h₅ := .at_ S₅ (by omega) (by omega)
        have ef5 : Ef s.heap.objs.size s { s₄ with heap := h₅ } := ⟨((ef2.trans ev3.ef).trans ev4.ef).kf.trans (.same S₅ hsz ⟨_, ev4.ka.k _ _ hacc3 rfl, nc_cls (by simp)⟩), ((ef2.trans ev3.ef).trans ev4.ef).os, ((ef2.trans ev3.ef).trans ev4.ef).gens⟩
        refine ⟨N - (j + 1), by omega, j + 1, rfl, ef5, X.floor ef5.kf X.big, S.at_ _ _ _ _ s₄.toks (S.ev _ _ _ src3 ev4) S₅ (Nat.le_refl _) ⟨_, ev4.ka.k _ _ hacc3 rfl, nc_cls (by simp)⟩, hj, ⟨ys ++ [y], c₅, ?_, ?_⟩, ⟨_, ns_at hns3 fun o e => (S₅.2 _ (Nat.ne_of_gt (Nat.lt_succ_self _))).trans (ev4.ka.k _ _ e (by obtain ⟨o', es, ep, a1, a2, _⟩ := hns3; exact tab_dict ((Option.some.inj (e.symm.trans a1)) ▸ a2)))⟩⟩
        · rw [show (ys ++ [y]).toArray = ys.toArray.push y from by simp]; exact hl₅
        · rw [List.range_succ, List.filter_append, List.filter_cons_of_pos (by rw [hpj]), List.filter_nil]
          exact (All2.mono (fun a b f => hF _ _ _ _ f st5) (All2.mono (fun a b f => hF _ _ _ _ f (.ka ev4.ka)) hall3)).append (.cons (hF _ _ _ _ hf st5) .nil)
  refine codeAny_compStart_list loop (S.iter _ _ _ _ start.src loop)
end
end Mine
end

-- VQ
section
open PySem PySem.W PySem.Calls PyProof.Rows
set_option maxHeartbeats 4000000
namespace Mine
section
variable {prog : Program} {w : World} {A : Around} {E : Value → Shared → Prop} {s : Shared}
theorem src_list {e : Shared} {it l lo gl : Nat} {its : List Value} (hh : A.handled = none) (h1 : e.heap.objs.size ≤ it) (h2 : it < lo) (h3 : l < lo) (hne : l ≠ it) :
    Src prog w A e lo gl (.ref it) its.length (fun j s => j ≤ its.length ∧ s.heap.IsListIter it l j ∧ s.heap.IsList l its.toArray) (fun _ j v _ => its[j]? = some v) where
  ev := fun j s s' ⟨z, a, b⟩ v => ⟨z, by obtain ⟨o, q, r⟩ := a; exact ⟨o, v.ka.k _ _ q (by unfold tabO; rw [r.1]), r⟩, isList_kp b v.kp⟩
  at_ := fun j s z h' t ⟨zz, a, b⟩ S hz _ => ⟨zz, by obtain ⟨o, q, r⟩ := a; exact ⟨o, (S.2 it (Nat.ne_of_lt (by omega))).trans q, r⟩, by obtain ⟨o, q, r⟩ := b; exact ⟨o, (S.2 l (Nat.ne_of_lt (by omega))).trans q, r⟩⟩
  gen := fun _ _ _ _ h _ => h
  pst := fun _ _ _ _ _ h _ => h
  pmono := fun _ _ _ _ _ _ h => h
  iter := fun A' s E Q ⟨_, a, b⟩ h => wpAny_pyIter_listiter a h
  next := fun hi j s E ⟨z, a, b⟩ X _ _ => by
    cases hv : its[j]? with
    | none =>
      refine wpAny_pyNext_list_end hh a b (by simpa using hv) fun h₁ he => ?_
      refine ⟨⟨⟨fun b o l e _ => he b o (Nat.ne_of_lt (by omega)) e, fun b o e c => he b o (by obtain ⟨o', q, r⟩ := a; intro z; subst z; rw [e] at q; cases q; exact absurd (r.1.symm.trans c.1) (by simp)) e, fun b o l e _ => .inl (he b o (Nat.ne_of_lt (by omega)) e)⟩, fun b o l e => he b o (Nat.ne_of_gt (by omega)) e, rfl, fun _ _ _ e => e, fun h => h⟩, ?_⟩
      have := List.getElem?_eq_none_iff.mp hv
      omega
    | some v =>
      refine wpAny_pyNext_list_item a b (by simpa using hv) fun h₁ hit hs => ?_
      have hj : j < its.length := (List.getElem?_eq_some_iff.mp hv).1
      refine ⟨⟨.same hs h1 (by obtain ⟨o', q, r⟩ := a; exact ⟨o', q, nc_cls (by rw [r.1]; simp)⟩), fun b o l e => (hs.2 b (Nat.ne_of_gt (by omega))).trans e, rfl, fun _ _ _ e => e, fun h => h⟩, hj, ⟨hj, hit, ?_⟩, Nat.le_of_eq hs.1.symm, rfl⟩
      obtain ⟨o, q, r⟩ := b
      exact ⟨o, (hs.2 l hne).trans q, r⟩
/-- [elt for x in iter], the iter a list -/
theorem v_ListComp_list {elt iter : Expr} {x : Str} {px : Pos} {ifs : List Expr} {scope : Scope} {cl : List (Str × Addr)} {pos : Pos} {env : Env} {Q : Value → Shared → Prop} {l : Addr} {its : List Value} (hh : A.handled = none)
    (hclos : closureFor scope env = pure cl) (hkind : scope.kind = .function) (hnames : ∀ x ∈ scope.names, x.2 = .local → scope.names.lookup x.1 = some .local) (hx : scope.names.lookup x = some .local) (hcell : ∀ x ∈ scope.names, x.2 ≠ .cell) (X : Wd w s.heap)
    (hl : s.heap.IsList l its.toArray) (hz : its.length ≤ 1000) (p : Nat → Bool) (F : Heap → Nat → Value → Prop)
    (h : wpAny (model prog w) A (eval iter env) (fun xv s₁ => xv = .ref l ∧ Ev s s₁ ∧ s.heap.objs.size ≤ s₁.heap.objs.size ∧ (∀ lo, lo = s₁.heap.objs.size + 1 →
      (∀ (h : Heap) h' j y, F h j y → St s.heap.objs.size (lo + 2) h h' → F h' j y) ∧
      (∀ j v (s' : Shared) m E', its[j]? = some v → Ev s s' → lo + 2 ≤ s'.heap.objs.size → s'.heap.Ns (lo + 1) m → m x = some v →
        wpAny (model prog w) A (forIn ifs true fun c r => if r = true then do let ok ← isTrue c (compEnvC scope cl (lo + 1) env) (eval c (compEnvC scope cl (lo + 1) env)); pure (ForInStep.yield ok) else pure (ForInStep.yield r))
          (fun ok s'' => ok = p j ∧ Ev s' s'' ∧ (ok = true → wpAny (model prog w) A (eval elt (compEnvC scope cl (lo + 1) env)) (fun y s₃ => Ev s'' s₃ ∧ F s₃.heap j y) E' s'')) E' s') ∧
      (∀ s' D ys c, Ev s s' → s.heap.objs.size ≤ D → IsL s'.heap D ys.toArray c → All2 (F s'.heap) ((List.range its.length).filter p) ys → Q (.ref D) s'))) E s)
    (hs : ∀ x, foldedSetIterable iter env x = pure x := by intro _; rfl) :
    wpAny (model prog w) A (eval (.ListComp elt [⟨.Name x px, iter, ifs, 0⟩] scope pos) env) Q E s := by
  refine v_ListComp hclos hkind hnames hx hcell X (wpAny_mono h (fun xv s₁ z => ?_) fun _ _ z => z) hs
  obtain ⟨rfl, ev, hsz, z⟩ := z
  have hl1 := isList_kp hl ev.kp
  refine wpAny_pyIter_list hl1 ?_
  have hlt : l < s₁.heap.objs.size := by obtain ⟨o, q, _⟩ := hl1; exact Heap.lt_size q
  obtain ⟨z1, z2, z3⟩ := z _ rfl
  have k : ∀ b o, s₁.heap.get? b = some o → (s₁.heap.push { cls := .type "list_iterator", data := .fields #[.ref l, .int 0 0] }).get? b = some o := fun b o e => Heap.get?_push_of_some _ e
  refine ⟨ev.trans (.of (.of k)), by rw [Heap.size_push]; omega, its.length, s₁.gens.size, _, _, p, F, hz, ⟨Nat.zero_le _, ⟨_, Heap.get?_push_size _ rfl, rfl, rfl⟩, isList_kp hl1 (.of k)⟩, src_list hh (it := s₁.heap.objs.size) (l := l) hsz (by rw [Heap.size_push]; exact Nat.lt_succ_self _) (by rw [Heap.size_push]; exact Nat.lt_succ_of_lt hlt) (Nat.ne_of_lt hlt), ?_, ?_, ?_⟩
  · rw [Heap.size_push]; exact z1
  · rw [Heap.size_push]; exact fun j v s' m E' _ ef _ hz' hp hn hm => z2 j v s' m E' hp (ef.ev (Nat.le_refl _)) hz' hn hm
  · rw [Heap.size_push]; exact fun s' ys c ev' hD hall => z3 s' _ ys c ev' (by omega) hD hall
end
end Mine
end

-- WB
section
open PySem PySem.W PySem.Calls PyProof.Rows
set_option maxHeartbeats 4000000
namespace Mine
section
variable {prog : Program} {w : World}
/-- the code of a generator expression, at its loop, and at its start -/
abbrev gLoop (elt iter : Expr) (x : Str) (px : Pos) (scope : Scope) (pos : Pos) (it : Value) (cenv : Env) : Code := .compLoop (.GeneratorExp elt [⟨.Name x px, iter, [], 0⟩] scope pos) 0 it .none cenv
abbrev gStart (elt iter : Expr) (x : Str) (px : Pos) (scope : Scope) (pos : Pos) (it : Value) (cenv : Env) : Code := .compStart (.GeneratorExp elt [⟨.Name x px, iter, [], 0⟩] scope pos) 0 it .none cenv
/-- how a generator stands, j values having come -/
structure GIn (w : World) (e₁ : Shared) (I : Nat → Shared → Prop) (C : Addr) (j : Nat) (s : Shared) : Prop where
  kf : Kf e₁.heap.objs.size e₁.heap s.heap
  wd : Wd w s.heap
  src : I j s
  ns : ∃ m, s.heap.Ns C m
def gEnd (e : Shared) (lo gl : Nat) : GenEnd := fun n s₀ r s₁ => r = .ok .next ∧ n = 0 ∧ Nx e lo gl s₀ s₁
def gProto (w : World) (e e₁ : Shared) (lo₁ lo gl N : Nat) (I : Nat → Shared → Prop) (C : Addr) (P₂ : Nat → Nat → Value → Heap → Prop) : Protocol := fun m s₀ v s kap =>
  ∃ j, j < N ∧ m = N - j - 1 ∧ P₂ s₀.heap.objs.size j v s.heap ∧ Nx e lo gl s₀ s ∧ (∀ (b : Nat) o, lo₁ ≤ b → b ≠ C → s₀.heap.get? b = some o → s.heap.get? b = some o) ∧ s₀.heap.objs.size ≤ s.heap.objs.size ∧ GIn w e₁ I C (j + 1) s ∧ ∀ s'', GIn w e₁ I C (j + 1) s'' → kap (.send .none) s''
theorem Nx.base {e e' : Shared} {lo lo' gl gl' : Nat} {s s' : Shared} (x : Nx e lo gl s s') (h1 : e'.heap.objs.size ≤ e.heap.objs.size) (h2 : e'.gens.size ≤ e.gens.size) (h3 : lo ≤ lo') (h4 : gl ≤ gl') : Nx e' lo' gl' s s' :=
  ⟨x.kf.less h1, fun b o l => x.up b o (Nat.le_trans h3 l), x.os, fun i z h => x.g i z (h.elim (fun h => .inl (Nat.lt_of_lt_of_le h h2)) fun h => .inr (Nat.le_trans h4 h)), x.b⟩
theorem Nx.at_ {e : Shared} {lo gl : Nat} {s : Shared} {z : Nat} {h' : Heap} {t : Nat} (S : Heap.SameBut z s.heap h') (h1 : e.heap.objs.size ≤ z) (h2 : z < lo) (hc : ∃ o, s.heap.get? z = some o ∧ ¬ codeO o) : Nx e lo gl s { s with heap := h', toks := t } :=
  ⟨.same S h1 hc, fun b o l q => (S.2 b (Nat.ne_of_gt (Nat.lt_of_lt_of_le h2 l))).trans q, rfl, fun _ _ _ q => q, fun h => h⟩
section
variable {A : Around} {e e₁ : Shared} {lo₁ gl₁ lo N : Nat} {it : Value} {I : Nat → Shared → Prop} {P P₂ : Nat → Nat → Value → Heap → Prop} {elt iter : Expr} {x : Str} {px : Pos} {scope : Scope} {pos : Pos} {cenv : Env}
theorem seg_turn (S : Src prog w (A.over (gLoop elt iter x px scope pos it cenv) []) e₁ lo₁ gl₁ it N I P)
    (hx : cenv.kindOf x = some .local) (hp : (cenv.scope.kind == .class || (cenv.scope.kind == .module && cenv.locals != cenv.globals)) = false) (hco : cenv.scope.isCoroutine = false)
    (he : e.heap.objs.size ≤ e₁.heap.objs.size) (heg : e.gens.size ≤ e₁.gens.size) (h1 : lo₁ ≤ cenv.locals) (h1e : e₁.heap.objs.size ≤ lo₁) (h2 : cenv.locals < lo) (hbig : 333 ≤ lo) (hb1 : 333 ≤ e₁.heap.objs.size)
    (helt : ∀ E' hi j v (s : Shared) m, j < N → Kf e₁.heap.objs.size e₁.heap s.heap → Wd w s.heap → hi ≤ s.heap.objs.size → P hi j v s.heap → s.heap.Ns cenv.locals m → m x = some v →
      wpAny (model prog w) (A.over (gLoop elt iter x px scope pos it cenv) []) (eval elt cenv) (fun y s' => Ev s s' ∧ s.heap.objs.size ≤ s'.heap.objs.size ∧ P₂ hi j y s'.heap) E' s) :
    ∀ k j (s : Shared), N - j = k → j ≤ N → GIn w e₁ I cenv.locals j s →
      Seg (model prog w) A (gEnd e lo gl₁) (gProto w e e₁ lo₁ lo gl₁ N I cenv.locals P₂) (N - j) s (gLoop elt iter x px scope pos it cenv) ((model prog w).den (gLoop elt iter x px scope pos it cenv)) [] s := by
  intro k
  induction k with
  | zero =>
    intro j s hk hj G
    have hjn : j = N := by omega
    show Seg _ A _ _ _ s _ ((compTurn (.GeneratorExp elt [⟨.Name x px, iter, [], 0⟩] scope pos) 0 it .none cenv).onRaise (leaving cenv)) [] s
    rw [compTurn_gen, Sem.onRaise_eq_wrap]
    refine seg_bind_wrap (wpAny_standAt ?_)
    have hsz : lo₁ ≤ s.heap.objs.size := by obtain ⟨m, hm⟩ := G.ns; exact Nat.le_of_lt (Nat.lt_of_le_of_lt h1 hm.lt)
    refine seg_bind_wrap (wpAny_mono (S.next s.heap.objs.size j s (fun _ _ => False) G.src G.wd hsz (Nat.le_refl _)) (fun r s₁ z => ?_) fun _ _ z => z.elim)
    obtain ⟨nx, z⟩ := z
    cases r with
    | none => exact seg_end (.ok .next) ⟨rfl, hk, nx.base he heg (Nat.le_of_lt (Nat.lt_of_le_of_lt h1 h2)) (Nat.le_refl _)⟩
    | some v => exact absurd z.1 (by omega)
  | succ k ih =>
    intro j s hk hj G
    show Seg _ A _ _ _ s _ ((compTurn (.GeneratorExp elt [⟨.Name x px, iter, [], 0⟩] scope pos) 0 it .none cenv).onRaise (leaving cenv)) [] s
    rw [compTurn_gen, Sem.onRaise_eq_wrap]
    refine seg_bind_wrap (wpAny_standAt ?_)
    obtain ⟨m, hm⟩ := G.ns
    have hsz : lo₁ ≤ s.heap.objs.size := Nat.le_of_lt (Nat.lt_of_le_of_lt h1 hm.lt)
    refine seg_bind_wrap (wpAny_mono (S.next s.heap.objs.size j s (fun _ _ => False) G.src G.wd hsz (Nat.le_refl _)) (fun r s₁ z => ?_) fun _ _ z => z.elim)
    obtain ⟨nx, z⟩ := z
    cases r with
    | none => omega
    | some v =>
      obtain ⟨hjn, src1, hz1, hp1⟩ := z
      have hns1 := ns_at hm fun o q => nx.up _ _ h1 q
      refine seg_bind_wrap (wpAny_of_eq (rfl : letOwnedTupleGo (.Name x px) it v = pure ()) ?_)
      refine seg_bind_wrap (wpAny_assign_Name (wpAny_storeName_local hx hns1 (fun h₂ hn₂ S₂ => ?_) hp))
      have nx0 : Nx e lo gl₁ s s₁ := nx.base he heg (Nat.le_of_lt (Nat.lt_of_le_of_lt h1 h2)) (Nat.le_refl _)
      have nx2 : Nx e lo gl₁ s { s₁ with heap := h₂, toks := s₁.toks + 1 } := nx0.trans (.at_ S₂ (Nat.le_trans he (Nat.le_trans h1e h1)) h2 (nc_ns hns1))
      have kf2 : Kf e₁.heap.objs.size e₁.heap h₂ := (G.kf.trans nx.kf).trans (.same S₂ (Nat.le_trans h1e h1) (nc_ns hns1))
      have X2 : Wd w h₂ := (G.wd.floor nx.kf hb1).floor (n := e₁.heap.objs.size) (.same S₂ (Nat.le_trans h1e h1) (nc_ns hns1)) hb1
      have src2 : I (j + 1) { s₁ with heap := h₂, toks := s₁.toks + 1 } := S.at_ _ _ _ _ _ src1 S₂ h1 (nc_ns hns1)
      have hp2 : P s.heap.objs.size j v h₂ := S.pst _ _ _ _ _ hp1 (.at_ S₂ (Nat.le_trans h1e h1) (by exact hm.lt))
      simp only [List.forIn_nil]
      refine seg_bind_wrap (wpAny_pure ?_)
      simp only [if_true]
      have hy : ∀ v, yieldOut cenv v = yieldValue v := fun v => by simp only [yieldOut, hco, Bool.false_eq_true, if_false]
      simp only [hy]
      rw [Sem.bind_eq_wrap', Sem.bind_eq_wrap', Sem.wrap_wrap, Sem.wrap_wrap]
      refine seg_wrap (wpAny_mono (helt (fun _ _ => False) s.heap.objs.size j v { s₁ with heap := h₂, toks := s₁.toks + 1 } _ hjn kf2 X2 (by show _ ≤ h₂.objs.size; rw [S₂.1]; exact hz1) hp2 hn₂ (by simp)) (fun y s₄ z => ?_) fun _ _ z => z.elim)
      obtain ⟨ev4, hz4, hf⟩ := z
      have hz5 : s.heap.objs.size ≤ s₄.heap.objs.size := Nat.le_trans (show s.heap.objs.size ≤ h₂.objs.size by rw [S₂.1]; exact hz1) hz4
      have hns4 := ns_at hn₂ fun o q => ev4.ka.k _ _ q (by obtain ⟨o', es, ep, a1, a2, _⟩ := hn₂; exact tab_dict ((Option.some.inj (q.symm.trans a1)) ▸ a2))
      have G4 : GIn w e₁ I cenv.locals (j + 1) s₄ := ⟨kf2.trans ev4.ka.kf, X2.mono ev4.kp, S.ev _ _ _ src2 ev4, ⟨_, hns4⟩⟩
      rw [show N - j = (N - (j + 1)) + 1 from by omega]
      refine seg_at (seg_yield rfl rfl rfl ⟨j, hjn, by omega, hf, nx2.trans (ev4.nx hbig), fun b o l hb q => ev4.ka.hi (Nat.le_trans hb1 (Nat.le_trans h1e l)) ((S₂.2 b hb).trans (nx.up b o l q)), hz5, G4, fun s'' G'' => ?_⟩)
      exact seg_again rfl (ih (j + 1) s'' (by omega) hjn G'')
theorem seg_start (S : Src prog w (A.over (gLoop elt iter x px scope pos it cenv) []) e₁ lo₁ gl₁ it N I P)
    (hx : cenv.kindOf x = some .local) (hp : (cenv.scope.kind == .class || (cenv.scope.kind == .module && cenv.locals != cenv.globals)) = false) (hco : cenv.scope.isCoroutine = false)
    (he : e.heap.objs.size ≤ e₁.heap.objs.size) (heg : e.gens.size ≤ e₁.gens.size) (h1 : lo₁ ≤ cenv.locals) (h1e : e₁.heap.objs.size ≤ lo₁) (h2 : cenv.locals < lo) (hbig : 333 ≤ lo) (hb1 : 333 ≤ e₁.heap.objs.size)
    (helt : ∀ E' hi j v (s : Shared) m, j < N → Kf e₁.heap.objs.size e₁.heap s.heap → Wd w s.heap → hi ≤ s.heap.objs.size → P hi j v s.heap → s.heap.Ns cenv.locals m → m x = some v →
      wpAny (model prog w) (A.over (gLoop elt iter x px scope pos it cenv) []) (eval elt cenv) (fun y s' => Ev s s' ∧ s.heap.objs.size ≤ s'.heap.objs.size ∧ P₂ hi j y s'.heap) E' s) (s : Shared) (G : GIn w e₁ I cenv.locals 0 s) :
    Seg (model prog w) A (gEnd e lo gl₁) (gProto w e e₁ lo₁ lo gl₁ N I cenv.locals P₂) N s (gStart elt iter x px scope pos it cenv) ((model prog w).den (gStart elt iter x px scope pos it cenv)) [] s := by
  have loop := seg_turn S hx hp hco he heg h1 h1e h2 hbig hb1 helt N 0 s (Nat.sub_zero _) (Nat.zero_le _) G
  show Seg _ A _ _ _ s _ ((compStart (.GeneratorExp elt [⟨.Name x px, iter, [], 0⟩] scope pos) 0 it .none cenv).onRaise (leaving cenv)) [] s
  unfold compStart
  rw [Sem.onRaise_eq_wrap]
  show Seg _ A _ _ _ s _ ((ask >>= _).wrap _ _ _ _) [] s
  refine seg_bind_wrap (wpAny_askSetting ?_)
  split
  · exact seg_again rfl loop
  · first
      | exact seg_bind_wrap (wpAny_rule (seg_bind_wrap (wpAny_standAt (seg_bind_wrap (S.iter _ s _ _ G.src (seg_again rfl loop))))))
      | (refine seg_bind_wrap (wpAny_rule ?_); show Seg _ A _ _ _ s _ ((standAt iter.pos >>= _).wrap _ _ _ _) [] s; exact seg_bind_wrap (wpAny_standAt (seg_bind_wrap (S.iter _ s _ _ G.src (seg_again rfl loop)))))
end
/-- a generator: its object, and that it goes on -/
def GenI (prog : Program) (w : World) (A : Around) (e e₁ : Shared) (lo₁ lo gl₁ N : Nat) (I : Nat → Shared → Prop) (C : Addr) (P₂ : Nat → Nat → Value → Heap → Prop) (a : Addr) (g : Nat) (j : Nat) (s : Shared) : Prop :=
  j ≤ N ∧ s.heap.IsGen a g ∧ GIn w e₁ I C j s ∧ ∃ gs, s.gens[g]? = some gs ∧ ∀ s'', GIn w e₁ I C j s'' → gs.Goes (model prog w) A.in1 (gEnd e lo gl₁) (gProto w e e₁ lo₁ lo gl₁ N I C P₂) (N - j) (.send .none) s''
theorem gen_ka {h h' : Heap} {a : Addr} {g : Nat} (x : h.IsGen a g) (k : ∀ o, h.get? a = some o → h'.get? a = some o) : h'.IsGen a g :=
  let ⟨o, nm, qn, ho, r⟩ := x; ⟨o, nm, qn, k o ho, r⟩
theorem src_gen {A : Around} {e e₁ : Shared} {lo₁ gl₁ lo N C a g : Nat} {it : Value} {I : Nat → Shared → Prop} {P P₂ : Nat → Nat → Value → Heap → Prop} (hh : A.handled = none) (hroom : A.depth < recursionLimit)
    (ev : ∀ j s s', I j s → Ev s s' → I j s') (at_ : ∀ j (s : Shared) (z : Nat) h' t, I j s → Heap.SameBut z s.heap h' → lo₁ ≤ z → (∃ o, s.heap.get? z = some o ∧ ¬ codeO o) → I j { s with heap := h', toks := t }) (gen : ∀ j (s : Shared) i x, I j s → gl₁ ≤ i → I j (s.setGen i x))
    (kh : ∀ j (s : Shared) (h' : Heap), I j s → (∀ b o, s.heap.get? b = some o → h'.get? b = some o) → I j { s with heap := h' })
    (pst : ∀ hi j v h h', P₂ hi j v h → St e.heap.objs.size hi h h' → P₂ hi j v h') (pmono : ∀ hi hi' j v h, hi ≤ hi' → P₂ hi' j v h → P₂ hi j v h)
    (he : e.heap.objs.size ≤ e₁.heap.objs.size) (heg : e.gens.size ≤ e₁.gens.size) (h1 : lo₁ ≤ C) (h1e : e₁.heap.objs.size ≤ lo₁) (h2 : C < lo) (h3 : a < lo) (h3' : C ≠ a) (h3e : lo₁ ≤ a) (hg : gl₁ ≤ g) (hge : e.gens.size ≤ g) (hb1 : 333 ≤ e₁.heap.objs.size) :
    Src prog w A e lo (g + 1) (.ref a) N (GenI prog w A e e₁ lo₁ lo gl₁ N I C P₂ a g) P₂ where
  ev := fun j s s' ⟨hj, ig, G, gs, hgs, go⟩ v => by
    obtain ⟨m, hm⟩ := G.ns
    refine ⟨hj, gen_ka ig fun o q => v.ka.hi (Nat.le_trans hb1 (Nat.le_trans h1e h3e)) q, ⟨G.kf.trans v.ka.kf, G.wd.mono v.kp, ev _ _ _ G.src v, m, ns_at hm fun o q => v.ka.hi (Nat.le_trans hb1 (Nat.le_trans h1e h1)) q⟩, gs, v.gens.k _ _ hgs, go⟩
  at_ := fun j s z h' t ⟨hj, ig, G, gs, hgs, go⟩ S hz hc => by
    obtain ⟨m, hm⟩ := G.ns
    exact ⟨hj, gen_ka ig fun o q => (S.2 _ (Nat.ne_of_lt (Nat.lt_of_lt_of_le h3 hz))).trans q, ⟨G.kf.trans (.same S (Nat.le_trans h1e (Nat.le_trans h1 (Nat.le_of_lt (Nat.lt_of_lt_of_le h2 hz)))) hc), G.wd.floor (n := e₁.heap.objs.size) (.same S (Nat.le_trans h1e (Nat.le_trans h1 (Nat.le_of_lt (Nat.lt_of_lt_of_le h2 hz)))) hc) hb1,
      at_ _ _ _ _ _ G.src S (Nat.le_trans h1 (Nat.le_of_lt (Nat.lt_of_lt_of_le h2 hz))) hc, m, ns_at hm fun o q => (S.2 _ (Nat.ne_of_lt (Nat.lt_of_lt_of_le h2 hz))).trans q⟩, gs, hgs, go⟩
  gen := fun j s i x ⟨hj, ig, G, gs, hgs, go⟩ hi => by
    refine ⟨hj, ig, ⟨G.kf, G.wd, gen _ _ _ _ G.src (by omega), G.ns⟩, gs, ?_, go⟩
    simp only [Shared.setGen]
    rw [Array.getElem?_setIfInBounds_ne (by omega)]
    exact hgs
  pst := pst
  pmono := pmono
  iter := fun A' s E Q ⟨_, ig, _⟩ h => wpAny_pyIter_gen ig h
  next := fun hi j s E ⟨hj, ig, G, gs, hgs, go⟩ X hlo hs => by
    have G' : GIn w e₁ I C j (s.setGen g .running) := ⟨G.kf, G.wd, gen _ _ _ _ G.src hg, G.ns⟩
    have nxg : ∀ (s : Shared) x, x.bare = true → Nx e lo (g + 1) s (s.setGen g x) := fun s x hx => ⟨.refl _ _, fun _ _ _ q => q, rfl, fun i y h q => by
        simp only [Shared.setGen]
        rw [Array.getElem?_setIfInBounds_ne (by omega)]
        exact q, fun h y hy => by
          simp only [Shared.setGen] at hy
          rcases Array.mem_or_eq_of_mem_setIfInBounds hy with q | q
          · exact h y q
          · rw [q]; exact hx⟩
    obtain ⟨n, hn⟩ : ∃ n, N - j = n := ⟨_, rfl⟩
    rw [hn] at go
    have run : (s.setGen g .running).gens[g]? = some .running := setGen_self hgs
    refine wpAny_pyNext_genexpQ (n := n) (P := fun n s₀ s₁ => n = 0 ∧ Nx e lo gl₁ s₀ s₁) hh (nolimit X) hroom ig hgs (go _ G') (fun v s₁ gs' hb hv => ?_) (fun s₁ hp h' hk => ?_)
    · obtain ⟨j', hj', hm, hp, nx, up, hz, G1, kap⟩ := hv
      cases n with
      | zero => exact (kap s₁ G1).elim
      | succ n =>
        have hjj : j' = j := by omega
        subst hjj
        have run1 := nx.g g _ (.inr hg) run
        refine ⟨((nxg s .running rfl).trans (nx.base (Nat.le_refl _) (Nat.le_refl _) (Nat.le_refl _) (by omega))).trans (nxg s₁ gs' hb), hj', ⟨hj', gen_ka ig fun o q => up _ _ h3e (Ne.symm h3') q, ⟨G1.kf, G1.wd, gen _ _ _ _ G1.src hg, G1.ns⟩, gs', setGen_self run1, fun s'' G'' => ?_⟩, hz, pmono _ _ _ _ _ hs hp⟩
        rw [show N - (j' + 1) = n from by omega]
        exact kap s'' G''
    · obtain ⟨hn0, nx⟩ := hp
      have nk : Nx e lo (g + 1) (s₁.setGen g .finished) { s₁.setGen g .finished with heap := h' } := ⟨.of hk, fun b o _ q => hk b o q, rfl, fun _ _ _ q => q, fun h => h⟩
      exact ⟨(((nxg s .running rfl).trans (nx.base (Nat.le_refl _) (Nat.le_refl _) (Nat.le_refl _) (by omega))).trans (nxg s₁ .finished rfl)).trans nk, by omega⟩
end
end Mine
end

-- VR
section
open PySem PySem.W PySem.Calls PyProof.Rows
set_option maxHeartbeats 4000000
namespace Mine
theorem is_int_intslice (w : World) : kitAny (KV w) (.type "int") [.type "int", .type "slice"] = some true := by kernel_rfl
/-- the body of the first statement, an if -/
def ifBody (b : List Stmt) : List Stmt := match b with | .If _ x _ _ :: _ => x | _ => []
section
variable {prog : Program} {w : World} {A : Around} {E : Value → Shared → Prop} {s : Shared}
abbrev envG (L : Addr) : Env := callEnv fd_getitem L 79
/-- the test whether the key is a place -/
theorem g_head {n : Nat} {e : Shared} {L : Addr} {m : Str → Option Value} {i : Value} {Q : Flow → Shared → Prop} {t : Value} {b : Bool} (B : Bd w n e L m s) (hi : m "i" = some i) (Z : KitX (KV w) i t (fun _ => True)) (hk : kitAny (KV w) t [.type "int", .type "slice"] = some b) (hne : i ≠ .builtin "__main__.__loader__#opaque")
    (h : ∀ s', Bd w n e L m s' → Ev s s' → wpAny (model prog w) A (if b then execs (ifBody (bodyOf fd_getitem)) (envG L) else execs [] (envG L)) (fun f s' => match f with | .next => wpAny (model prog w) A (execs ((bodyOf fd_getitem).drop 1) (envG L)) Q E s' | f => Q f s') E s') :
    wpAny (model prog w) A (execs (bodyOf fd_getitem) (envG L)) Q E s := by
  obtain ⟨h₁, g₁, d₁, t₁, os₁⟩ := s
  refine wpAny_execs_cons (wpAny_If (isTrue_plain (Call_ (r_builtin B.wd (n_isi3 w) (n_isi0 w) (PyProof.Rows.callWith_builtin1 (wpAny_items_cons (r_local B.fm hi (wpAny_items_cons (wpAny_Tuple ?_)))))))))
  refine wpAny_items_cons (r_builtin B.wd (n_int3 w) (n_int0 w) (wpAny_items_cons (r_builtin B.wd (n_slice3 w) (n_slice0 w) (wpAny_items_nil ⟨show 2 ≤ sizeLine by decide, wpAny_items_nil ?_⟩))))
  have k1 : ∀ b o, h₁.get? b = some o → (h₁.push { cls := .type "tuple", data := .seq #[.type "int", .type "slice"] }).get? b = some o := fun b o e => Heap.get?_push_of_some _ e
  have ltp := Nat.le_of_lt B.lt
  replace B := B.push { cls := .type "tuple", data := .seq #[.type "int", .type "slice"] } (t₁)
  have qtp := Heap.get?_push_size h₁ (show ({ cls := .type "tuple", data := .seq #[.type "int", .type "slice"] } : Obj).isFreed = false from rfl)
  dsimp only at *
  generalize h₁.objs.size = tp at *
  generalize h₁.push { cls := .type "tuple", data := .seq #[.type "int", .type "slice"] } = hh₁ at *
  refine kia_tup Z B.wd trivial qtp hk hne fun t₂ => wpAny_truthy_bool ?_
  replace B := B.tok t₂
  have z := h _ B (.of (.of k1))
  cases b
  · exact z
  · exact z
theorem n_hA {n : Nat} {A : Around} (R : Rm n A) (e : Env) : (A.deeper e).handled = none := R.h
theorem last_at (os : List Value) (o : Value) : (os ++ [o]).toArray[((-1 : Int) + ((os ++ [o]).toArray.size : Int)).toNat]? = some o := by
  have e : ((-1 : Int) + ((os ++ [o]).toArray.size : Int)).toNat = os.length := by
    rw [List.size_toArray, List.length_append, List.length_singleton]; omega
  rw [e, List.getElem?_toArray, List.getElem?_append_right (Nat.le_refl _), Nat.sub_self]; rfl
/-- self[j], for a place -/
theorem c_getitem_int {n j : Nat} {a : Addr} {vs : List Value} {kvs : List (Str × Value)} {S : Str → Bool} {t : Tok} {v : Value} (R : Rm (n + 1) A) (X : Wd w s.heap) (P : PRx prog w s.heap a vs kvs S) (hj : vs[j]? = some v) :
    Ret prog w A (.ref 79) ⟨[.ref a, .int j t], []⟩ s (fun r s' => r = v ∧ Ev s s') := by
  obtain ⟨dx, tl, td, an, par, nm, md, k, ha, hx, hl, hd, hs, hS, hz, hz'⟩ := P
  refine b_enter X X.big (Nat.le_refl _) (binds := [("self", .ref a), ("i", .int j t)]) (body := bodyOf fd_getitem) R.room (fo_getitem X) rfl (code_of X (by kernel_rfl)) rfl (.of_eq rfl) (by decide) (locs rfl) fun L s₁ B hL ev => ?_
  refine g_head B rfl kitx_int (is_int_intslice w) nofun fun s₂ B ev2 => ?_
  have kp := ev.kp.trans ev2.kp
  refine wpAny_execs_cons (wpAny_Return_some (Subscript_ (Attribute_Name_ (r_local B.fm rfl (pr_get B.wd (kp.k _ _ ha rfl) (kp.k _ _ hx rfl) (c_tl w) (s_tl w) rfl rfl (r_local B.fm rfl ?_))))))
  have hj' : j < vs.length := (List.getElem?_eq_some_iff.mp hj).1
  refine tail_any (isList_kp hl kp).typeIs list_getitem_lookup (wpAny_getItem_list (isList_kp hl kp) (Int.natCast_nonneg _) (by omega) (by simpa using hj) ?_) (by with_unfolding_all rfl)
  exact ⟨rfl, ((B.tok _).out).ev (Nat.le_refl _)⟩
/-- self[k], for a name that has no star -/
theorem c_getitem_str {n : Nat} {a l : Addr} {vs : List Value} {kvs : List (Str × Value)} {S : Str → Bool} {k : Str} {t : Tok} {os : List Value} {o v : Value} (R : Rm (n + 3) A) (X : Wd w s.heap) (P : PRx prog w s.heap a vs kvs S)
    (hS0 : S k = false) (hk : valueAt kvs k = some (.ref l)) (ho : s.heap.IsList l (os ++ [o]).toArray) (hz : os.length ≤ 64) (hp : POx w s.heap o v) :
    Ret prog w A (.ref 79) ⟨[.ref a, .str k t], []⟩ s (fun r s' => r = v ∧ Ev s s' ∧ s.heap.objs.size ≤ s'.heap.objs.size) := by
  obtain ⟨dx, tl, td, an, par, nm, md, n', ha, hx, hl, hd, hs, hS, hz, hz'⟩ := P
  refine b_enter X X.big (Nat.le_refl _) (binds := [("self", .ref a), ("i", .str k t)]) (body := bodyOf fd_getitem) R.room (fo_getitem X) rfl (code_of X (by kernel_rfl)) rfl (.of_eq rfl) (by decide) (locs rfl) fun L s₁ B hL ev => ?_
  refine g_head B rfl kitx_str (is_intslice w) nofun fun s₂ B ev2 => ?_
  have kp := ev.kp.trans ev2.kp
  refine wpAny_execs_nil (env := envG L) (wpAny_execs_cons (wpAny_If (wpAny_isTrue_Compare1 (r_local B.fm rfl (Attribute_Name_ (r_local B.fm rfl (pr_get B.wd (kp.k _ _ ha rfl) (kp.k _ _ hx rfl) (c_an w) (s_an w) rfl rfl ?_)))))))
  refine wpAny_notInSet_of (PySem.strKind_is prog w k t) rfl (setOf_kp hS kp) (wpAny_truthy_bool ?_)
  rw [hS0]
  replace B := (B.tok (s₂.toks + 1)).tok (s₂.toks + 1 + 1)
  refine wpAny_execs_cons (wpAny_Return_some (Subscript_ (Subscript_ (Subscript_ (Attribute_Name_ (r_local B.fm rfl (pr_get B.wd (kp.k _ _ ha rfl) (kp.k _ _ hx rfl) (c_td w) (s_td w) rfl rfl (r_local B.fm rfl ?_))))))))
  replace B := B.tok (s₂.toks + 1 + 1 + 1)
  have hd2 := dictOf_kp hd kp
  refine tail_any hd2.typeIs F.slot_dict_getitem.lookup (wpAny_getItem_of (PySem.strKind_is prog w k t) hd2.mapOf hk ?_) (by with_unfolding_all rfl)
  refine wpAny_UnaryOp (wpAny_Constant_int (PyProof.Rows.neg_int ?_))
  have ho2 := isList_kp ho kp
  refine tail_any ho2.typeIs list_getitem_lookup (wpAny_getItem_list_neg (x := o) ho2 (by decide) (by rw [List.size_toArray, List.length_append]; show -((os.length + 1 : Nat) : Int) ≤ -1; omega) (by decide) (last_at os o) ?_) (by with_unfolding_all rfl)
  refine wpAny_Constant_int (po_item (R.deep _) B.wd (hp.kp kp) fun s₃ ev3 => ?_)
  exact ⟨rfl, ((B.tok _).ev ev3).out.ev (Nat.le_refl _), Nat.le_of_lt ((B.tok _).ev ev3).lt⟩
end
end Mine
end

-- VS
section
open PySem PySem.W PySem.Calls PyProof.Rows
set_option maxHeartbeats 4000000
namespace Mine
theorem k_PR (w : World) : keepIn (KV w) (.ref 240) = true := by kernel_rfl
theorem empty_dict {prog : Program} {w : World} {h : Heap} {td : Addr} (htd : h.get? td = some noDict) : h.DictOf (PySem.strKind prog w) td [] := ⟨_, #[], 0, htd, ⟨rfl, rfl, rfl⟩, rfl, fun _ he => by simp at he, Pairs.nil, List.nodup_nil⟩
theorem Ev.tok {s s' : Shared} (x : Ev s s') (t : Nat) : Ev s { s' with toks := t } := ⟨x.ka, x.os, x.gens⟩
theorem Ev.tok1 {s s' : Shared} {t : Nat} (x : Ev { s with toks := t } s') : Ev s s' := ⟨x.ka, x.os, x.gens⟩
/-- a new ParseResults with the values vs and no names -/
def NewPR (prog : Program) (w : World) (N : Nat) (h : Heap) (v : Value) (vs : List Value) : Prop :=
  ∃ a dx tl td an n, v = .ref a ∧ N ≤ a ∧ dx ≠ td ∧ N ≤ dx ∧ N ≤ tl ∧ N ≤ td ∧ N ≤ an ∧
      h.get? a = some (pcls dx #[some (.ref an), some (.bool true), some .none, some .none, some (.ref td), some (.ref tl)]) ∧ h.get? dx = some noDict ∧ IsL h tl vs.toArray n ∧ h.get? td = some noDict ∧ NoNames w prog h an
theorem NewPR.ka {prog : Program} {w : World} {N : Nat} {h h' : Heap} {v : Value} {vs : List Value} (x : NewPR prog w N h v vs) (k : Kp h h') : NewPR prog w N h' v vs := by
  obtain ⟨a, dx, tl, td, an, n, e, l1, l5, l0, l2, l3, l4, ha, hx, htl, htd, han⟩ := x
  exact ⟨a, dx, tl, td, an, n, e, l1, l5, l0, l2, l3, l4, k.k _ _ ha rfl, k.k _ _ hx rfl, k.k _ _ htl rfl, k.k _ _ htd rfl, SetS.kp han k⟩
theorem sys_ne {N td : Nat} (h : 333 ≤ N) (h' : N ≤ td) : (td == sysModules) = false := by
  rw [beq_eq_false_iff_ne]
  intro q
  exact absurd (Nat.le_trans h h') (by rw [q]; decide)
theorem NewPR.prx {prog : Program} {w : World} {N : Nat} {h : Heap} {v : Value} {vs : List Value} (x : NewPR prog w N h v vs) (hN : 333 ≤ N) (hz : vs.length ≤ 64) : ∃ a, v = .ref a ∧ N ≤ a ∧ PRx prog w h a vs [] (fun _ => false) := by
  obtain ⟨a, dx, tl, td, an, n, e, l1, l5, l0, l2, l3, l4, ha, hx, htl, htd, han⟩ := x
  refine ⟨a, e, l1, dx, tl, td, an, _, _, _, 0, ha, hx, IsL.isList htl, ?_, sys_ne hN l3, SetS.setOf han, hz, by decide⟩
  exact empty_dict htd
section
variable {prog : Program} {w : World} {A : Around} {E : Value → Shared → Prop} {s : Shared} {env : Env}
theorem r_localN {x : Str} {pos : Pos} {v : Value} {m : Str → Option Value} {Q : Value → Shared → Prop} (F : s.heap.Ns env.locals m) (hv : m x = some v) (h : Q v s) (hk : env.scope.kind = .function := by rfl) (hl : env.kindOf x = some .local := by rfl)
    (hd : (x == ("__debug__" : Str)) = false := by decide) : wpAny (model prog w) A (eval (.Name x pos) env) Q E s := wpAny_Name (wpAny_loadName_local hk hl F hv h) hd
/-- self[k], for a name with a star -/
theorem c_getitem_star {n : Nat} {a l : Addr} {vs : List Value} {kvs : List (Str × Value)} {S : Str → Bool} {k : Str} {t : Tok} {os xs : List Value} (R : Rm (n + 3) A) (X : Wd w s.heap) (P : PRx prog w s.heap a vs kvs S)
    (hS1 : S k = true) (hk : valueAt kvs k = some (.ref l)) (ho : s.heap.IsList l os.toArray) (hz : os.length ≤ 64) (hp : All2 (POx w s.heap) os xs) :
    Ret prog w A (.ref 79) ⟨[.ref a, .str k t], []⟩ s (fun r s' => Ev s s' ∧ s.heap.objs.size ≤ s'.heap.objs.size ∧ NewPR prog w s.heap.objs.size s'.heap r xs) := by
  obtain ⟨dx, tl, td, an, par, nm, md, n', ha, hx, hl, hd, hs, hS, hzz, hz'⟩ := P
  refine b_enter X X.big (Nat.le_refl _) (binds := [("self", .ref a), ("i", .str k t)]) (body := bodyOf fd_getitem) R.room (fo_getitem X) rfl (code_of X (by kernel_rfl)) rfl (.of_eq rfl) (by decide) (locs rfl) fun L s₁ B hL ev => ?_
  refine g_head B rfl kitx_str (is_intslice w) nofun fun s₂ B ev2 => ?_
  have kp := ev.kp.trans ev2.kp
  refine wpAny_execs_nil (env := envG L) (wpAny_execs_cons (wpAny_If (wpAny_isTrue_Compare1 (r_local B.fm rfl (Attribute_Name_ (r_local B.fm rfl (pr_get B.wd (kp.k _ _ ha rfl) (kp.k _ _ hx rfl) (c_an w) (s_an w) rfl rfl ?_)))))))
  refine wpAny_notInSet_of (PySem.strKind_is prog w k t) rfl (setOf_kp hS kp) (wpAny_truthy_bool ?_)
  rw [hS1]
  replace B := (B.tok (s₂.toks + 1)).tok (s₂.toks + 1 + 1)
  refine wpAny_execs_nil (env := envG L) (wpAny_execs_cons (wpAny_Return_some (Call_ (r_global B.wd (n_PR w) (callWith_K (h₀ := s₂.heap) B.wd (k_PR w) (wpAny_items_cons ?_))))))
  have ho2 := isList_kp ho kp
  have hd2 := dictOf_kp hd kp
  have hp2 := hp.mono fun _ _ z => z.kp kp
  have hlen := hp.length
  refine v_ListComp_list (l := l) (its := os) (n_hA R _) (cl := []) rfl rfl (by decide) rfl (by decide) B.wd ho2 (by omega) (fun _ => true) (fun _ j y => xs[j]? = some y) ?_
  refine Subscript_ (Attribute_Name_ (r_local B.fm rfl (pr_get B.wd (kp.k _ _ ha rfl) (kp.k _ _ hx rfl) (c_td w) (s_td w) rfl rfl (r_local B.fm rfl ?_))))
  refine tail_any hd2.typeIs F.slot_dict_getitem.lookup (wpAny_getItem_of (PySem.strKind_is prog w k t) hd2.mapOf hk ?_) (by with_unfolding_all rfl)
  refine ⟨rfl, .of (.refl _), Nat.le_refl _, fun lo hlo => ⟨fun h h' j y e _ => e, fun j v s' m E' hj ev3 _ hn hm => ?_, fun s' D ys c ev3 hD hl hall => ?_⟩⟩
  · obtain ⟨y, hy, hpo⟩ := hp2.get hj
    refine wpAny_tests_nil ⟨rfl, .refl _, fun _ => ?_⟩
    refine Subscript_ (r_localN hn hm (wpAny_Constant_int (po_item (R.deep _) (B.wd.mono ev3.kp) (hpo.kp ev3.kp) fun s₃ ev4 => ?_)))
    exact ⟨ev4.tok1, hy⟩
  · have hys : ys = xs := by
      rw [List.filter_eq_self.mpr (fun _ _ => rfl)] at hall
      have hl2 := hall.length
      rw [List.length_range] at hl2
      refine List.ext_getElem? fun i => ?_
      by_cases hi : i < os.length
      · obtain ⟨y, hy, e⟩ := hall.get (i := i) (a := i) (by rw [List.getElem?_range hi])
        rw [hy, e]
      · rw [List.getElem?_eq_none (by omega), List.getElem?_eq_none (by omega)]
    subst hys
    replace B := B.ev (s' := s') ⟨ev3.ka, ev3.os, ev3.gens⟩
    refine wpAny_items_nil ⟨B.wd, ?_⟩
    refine (c_plain (R.deep _) B.wd (.inr (.inr ⟨D, _, c, rfl, hl, rfl, rfl, by omega⟩))).call fun v s'' z => ?_
    obtain ⟨ev4, z⟩ := z
    refine ⟨(B.ev ev4).out.ev (Nat.le_refl _), Nat.le_of_lt (B.ev ev4).lt, ?_⟩
    have hsz : s.heap.objs.size ≤ s'.heap.objs.size := Nat.le_of_lt B.lt
    obtain ⟨a, dx, tl, td, an, n, e, l1, l5, l0, l2, l3, l4, r⟩ := z
    exact ⟨a, dx, tl, td, an, n, e, Nat.le_trans hsz l1, l5, Nat.le_trans hsz l0, Nat.le_trans hsz l2, Nat.le_trans hsz l3, Nat.le_trans hsz l4, r⟩
end
end Mine
end

-- VT
section
open PySem PySem.W PySem.Calls PyProof.Rows
set_option maxHeartbeats 4000000
namespace Mine
theorem q_si (w : World) : findIn (KV w) (.ref 240) "__setitem__" = some (some (.ref 86)) := by kernel_rfl
theorem q_gi (w : World) : findIn (KV w) (.ref 240) "__getitem__" = some (some (.ref 79)) := by kernel_rfl
theorem q_fn86 (w : World) : typeIn (KV w) (.ref 86) = some (.type "function") := by kernel_rfl
theorem q_fn79 (w : World) : typeIn (KV w) (.ref 79) = some (.type "function") := by kernel_rfl
theorem q_fi79 (w : World) : fnIn (KV w) 79 = true := by kernel_rfl
theorem q_seq {M : Model} {w : World} {h : Heap} (X : Wd w h) : Looks M h (List.anyM (fun n => isSubtype (.ref 240) (.type n)) seqItemTypes) false := Looks.of_peek X (by kernel_rfl)
section
variable {prog : Program} {w : World} {A : Around} {E : Value → Shared → Prop} {s : Shared} {env : Env}
/-- {e}, for a text -/
theorem v_set1 {e : Expr} {k : Nat} {pos : Pos} {x : Str} {t : Tok} {Q : Value → Shared → Prop} (X : Wd w s.heap) (hc : kdsCode (KV w) env.code = true) (hroad : (displayRoad k [e] == .constants) = false) (hu : (displayRoad k [e] == .unsure) = false) (hp : kdsPlain e = true)
    (he : ∀ h' Q', (∀ b o, s.heap.get? b = some o → h'.get? b = some o) → Q' (.str x t) { s with heap := h' } → wpAny (model prog w) A (eval e env) Q' E { s with heap := h' })
    (h : ∀ h', (∀ b o, s.heap.get? b = some o → h'.get? b = some o) → SetS prog w h' s.heap.objs.size (fun y => decide (y = x)) 1 → Q (.ref s.heap.objs.size) { s with heap := h', toks := s.toks + 1 }) :
    wpAny (model prog w) A (eval (.Set [e] k pos) env) Q E s := by
  rw [arm_eval_Set]
  refine wpAny_bind (wpAny_standAt (wpAny_bind (kds_main X hc fun b => ?_)))
  rw [kds_star [e] (by rw [List.all_cons, hp]; rfl), List.map_map]
  refine kds_core (ts := (evalEach [e] env).map fun t => do let v ← t; standAt pos; pure v) hroad ?_ (by rw [List.length_map, kds_len]; show 1 ≤ 30; decide) (by rw [List.map_map]; rfl) fun led => ?_
  · refine List.findIdx?_eq_none_iff.mpr fun x hx => ?_
    obtain ⟨t, _, rfl⟩ := List.mem_map.mp hx
    rfl
  · rw [hu]
    refine kds_all pos [e] _ _ (he _ _ (fun b o q => Heap.get?_push_of_some _ q) ?_)
    have ho : (s.heap.push (freshSet led)).get? s.heap.objs.size = some (freshSet led) := Heap.get?_push_size _ rfl
    refine kds_fill_cons ?_
    unfold setAdd
    refine wpAny_holding (wpAny_bind ((PySem.strKind prog w).pyHash (PySem.strKind_is prog w x t) ?_))
    refine add_fresh ho fun h' hsb hS' => ?_
    refine kds_fill_nil rfl ?_
    have keep : ∀ b o, s.heap.get? b = some o → h'.get? b = some o := fun b o q => (hsb.2 b (Nat.ne_of_lt (Heap.lt_size q))).trans (Heap.get?_push_of_some _ q)
    exact h h' keep hS'
/-- a[k] = v, for a ParseResults -/
theorem v_setItem {a dx : Addr} {sl : Array (Option Value)} {k v : Value} {Q : Unit → Shared → Prop} (X : Wd w s.heap) (ha : s.heap.get? a = some (pcls dx sl)) (hx : s.heap.get? dx = some noDict)
    (h : wpAny (model prog w) A (call (.ref 86) [.ref a, k, v]) (fun _ s' => Q () s') E s) : wpAny (model prog w) A (setItem (.ref a) k v) Q E s := by
  have I : InstAt s.heap a (pcls dx sl) 240 (some noDict) := ⟨ha, rfl, rfl, hx⟩
  unfold setItem sequenceKey
  refine wpAny_holding (wpAny_bind (wpAny_bind (I.type.here ?_)))
  refine wpAny_bind ((q_seq X).here (wpAny_pure ?_))
  refine wpAny_bind (special_fn X I (q_si w) (q_fn86 w) (wpAny_mono h (fun v' s' z => wpAny_pure z) fun _ _ z => z))
/-- a[i], for a ParseResults -/
theorem v_item {a dx : Addr} {sl : Array (Option Value)} {i : Value} {value slice : Expr} {Q : Value → Shared → Prop} (X : Wd w s.heap) (ha : s.heap.get? a = some (pcls dx sl)) (hx : s.heap.get? dx = some noDict)
    (h : wpAny (model prog w) A.in1 (call (.ref 79) [.ref a, i]) Q (fun _ _ => False) s)
    (hsl : subscripted slice true (.ref a) i = runValue (.builtin "lifetime.subscript" ⟨[.ref a, i], []⟩) := by with_unfolding_all rfl) :
    wpAny (model prog w) A (subscriptTail value slice (.ref a) i) Q E s := by
  exact own_item X (show InstAt s.heap a (pcls dx sl) 240 (some noDict) from ⟨ha, rfl, rfl, hx⟩) (q_gi w) (fo_getitem X) (q_fn79 w) (wpAny_mono h (fun _ _ z => z) fun _ _ z => z.elim) hsl
end
end Mine
end

-- WC
section
open PySem PySem.W PySem.Calls PyProof.Rows
set_option maxHeartbeats 4000000
namespace Mine
theorem bi_of {w : World} {M : Model} {h : Heap} (X : Wd w h) : Looks M h (builtinsFor 3 0) 0 := Looks.of_peek X (by kernel_rfl)
section
variable {prog : Program} {w : World} {A : Around} {E : Value → Shared → Prop} {s : Shared} {env : Env}
theorem among_add {pos pos' : Pos} {c v : Value} (l : List Value) (h : TriplesOk l) (e : codeAmong pos' (l ++ [rawInt pos.line, rawInt pos.col, c]) = some v) : codeAmong pos' l = some v ∨ (pos'.line = pos.line ∧ v = c) := by
  fun_induction TriplesOk l with
  | case1 =>
    simp only [List.nil_append, codeAmong, rawInt] at e
    split at e
    · rename_i q
      rw [Bool.and_eq_true] at q
      have := beq_iff_eq.mp q.1
      exact .inr ⟨by omega, (Option.some.inj e).symm⟩
    · cases e
  | case2 a t b u x rest ih =>
    simp only [List.cons_append, codeAmong] at e ⊢
    split at e
    · rename_i q; rw [if_pos q]; exact .inl e
    · rename_i q; rw [if_neg q]; exact ih h e
  | case3 l h1 h2 => exact h.elim
theorem tq_line {P : Addr} {a b : Pos} (h : a.line = b.line) : tq P a = tq P b := by unfold tq; rw [h]
theorem cr_of {h : Heap} {c' P' : Addr} {q : Str} {ps : Array Value} (x : h.CodeRec (.ref c') q) (y : h.TableAt c' P' ps) : CR h (.ref c') q := by
  obtain ⟨c, o, vs, t, e, g, d, r⟩ := x
  cases e
  obtain ⟨⟨o', vs', g', hc, d', _⟩, _⟩ := y
  rw [g] at g'; cases g'
  exact ⟨_, o, vs, t, rfl, g, hc, d, r⟩
theorem grown_ka {h h' : Heap} {c P : Addr} {ps : Array Value} {pos : Pos} {c' : Value} (hx : Heap.ExtBut P h h') (i0 : h.IsCode c P ps) (t0 : h.TableAt c P ps) (t1 : h'.TableAt c P (ps ++ #[rawInt pos.line, rawInt pos.col, c']))
    (i1 : h'.IsCode c P (ps ++ #[rawInt pos.line, rawInt pos.col, c'])) (hP : P ∈ growTabs) (cr : CR h' c' (tq P pos)) : Ka h h' := by
  have tr : TriplesOk (ps ++ #[rawInt pos.line, rawInt pos.col, c']).toList := by obtain ⟨_, _, _, _, _, _, _, _, _, _, _, _, _, _, _, _, _, hop, hpd, tr, _⟩ := i1; exact tr
  have tr0 : TriplesOk ps.toList := by obtain ⟨_, _, _, _, _, _, _, _, _, _, _, _, _, _, _, _, _, hop, hpd, tr, _⟩ := i0; exact tr
  refine ⟨fun b o e p => hx b o (fun q => ?_) e, fun b o e p => ?_⟩
  · subst q
    have := e.symm.trans t0.2
    cases this
    cases p
  · by_cases q : b = P
    · subst q
      have := e.symm.trans t0.2
      cases this
      refine .inr ⟨hP, ps, _, rfl, t1.2, fun _ => tr, fun pos' v e => ?_⟩
      rw [show (ps ++ #[rawInt pos.line, rawInt pos.col, c']).toList = ps.toList ++ [rawInt pos.line, rawInt pos.col, c'] from by simp] at e
      rcases among_add _ tr0 e with e | ⟨e2, rfl⟩
      · exact .inl e
      · exact .inr ((tq_line (P := b) e2).symm ▸ cr)
    · exact .inl (hx b o q e)
theorem g_code {c P : Addr} {pos : Pos} {qualname : Str} {scope : Scope} {Q : Value → Shared → Prop} (hc : env.code = .ref c) (T : TabAt s.heap c P) (hP : P ∈ growTabs) (hq : qualname = tq P pos) (h : ∀ code s', Ev s s' → s.heap.objs.size ≤ s'.heap.objs.size → s'.gens = s.gens → Q code s') :
    wpAny (model prog w) A (genexprCode env pos qualname scope) Q E s := by
  obtain ⟨ps, i0, t0, hh⟩ := T
  cases hf : codeAmong pos ps.toList with
  | some c' => exact wpAny_genexprCode_hit hc i0 hf (h _ _ (.refl _) (Nat.le_refl _) rfl)
  | none =>
    refine wpAny_genexprCodeX hc i0 t0 hf fun c' h' tk hx l1 l2 i1 rc t1 ⟨P', _, _, t2⟩ => h _ _ ⟨grown_ka hx i0 t0 t1 i1 hP ?_, rfl, .refl _⟩ (Nat.le_of_lt (Nat.lt_of_le_of_lt l1 l2)) rfl
    rw [← hq]
    exact cr_of rc t2
theorem f_code {c P : Addr} {pos : Pos} {firstLine : Nat} {name qualname : Str} {p : Arguments} {scope : Scope} {body : FuncBody} {Q : Value → Shared → Prop} (hc : env.code = .ref c) (T : TabAt s.heap c P) (hP : P ∈ growTabs) (hq : qualname = tq P pos)
    (h : ∀ v s', Ev s s' → s.heap.objs.size ≤ s'.heap.objs.size → s'.gens = s.gens → CR s'.heap v qualname → Q v s') :
    wpAny (model prog w) A (functionCode env pos firstLine name qualname p scope body) Q E s := by
  obtain ⟨ps, i0, t0, hh⟩ := T
  cases hf : codeAmong pos ps.toList with
  | some c' => exact wpAny_functionCode_hit hc i0 hf (h _ _ (.refl _) (Nat.le_refl _) rfl (hq ▸ hh pos c' hf))
  | none =>
    refine wpAny_functionCodeX hc i0 t0 hf fun c' h' tk hx l1 l2 i1 rc t1 ⟨P', _, _, t2⟩ => ?_
    have cr := cr_of rc t2
    exact h _ _ ⟨grown_ka hx i0 t0 t1 i1 hP (hq ▸ cr), rfl, .refl _⟩ (Nat.le_of_lt (Nat.lt_of_le_of_lt l1 l2)) rfl cr
end
end Mine
end

-- WD
section
open PySem PySem.W PySem.Calls PyProof.Rows
set_option maxHeartbeats 4000000
namespace Mine
def CellAt (h : Heap) (c : Addr) (v : Option Value) : Prop := ∃ o, h.get? c = some o ∧ o.cls = .type "cell" ∧ o.data = .cell v
theorem CellAt.is {h : Heap} {c : Addr} {v : Option Value} (x : CellAt h c v) : h.IsCell c v := let ⟨o, a, _, b⟩ := x; ⟨o, a, b⟩
theorem CellAt.at_ {h h' : Heap} {c : Addr} {v : Option Value} (x : CellAt h c v) (k : ∀ o, h.get? c = some o → o.cls = .type "cell" → h'.get? c = some o) : CellAt h' c v := let ⟨o, a, b, d⟩ := x; ⟨o, k o a b, b, d⟩
theorem CellAt.ka {h h' : Heap} {c : Addr} {v : Option Value} (x : CellAt h c v) (k : Ka h h') : CellAt h' c v := x.at_ fun o e hc => k.k _ _ e (by unfold tabO; rw [hc])
theorem CellAt.push {h : Heap} {c : Addr} {v : Option Value} (x : CellAt h c v) (o : Obj) : CellAt (h.push o) c v := x.at_ fun _ e _ => Heap.get?_push_of_some _ e
section
variable {M : Model} {A : Around} {E : Value → Shared → Prop} {s : Shared} {env : Env}
theorem c_cellSet {c : Addr} {v₀ v : Option Value} {Q : Unit → Shared → Prop} (hc : CellAt s.heap c v₀) (h : ∀ h', CellAt h' c v → Heap.SameBut c s.heap h' → Q () { s with heap := h' }) : wpAny M A (cellSet c v) Q E s := by
  obtain ⟨o, ho, hcl, hd⟩ := hc
  unfold cellSet
  refine wpAny_bind (wpAny_load ho ?_)
  rw [hd]
  exact wpAny_update ho (h _ ⟨{ o with data := .cell v }, Heap.get?_update_self _ ho rfl, hcl, rfl⟩ (Heap.SameBut.update ..))
theorem c_storeCell {name : Str} {c : Addr} {v₀ : Option Value} {v : Value} {Q : Unit → Shared → Prop} (hk : env.scope.kind = .function) (hl : env.kindOf name = some .cell)
    (hc : env.cells.lookup name = some c) (hv : CellAt s.heap c v₀) (h : ∀ h', CellAt h' c (some v) → Heap.SameBut c s.heap h' → Q () { s with heap := h' }) : wpAny M A (storeName env name v) Q E s := by
  unfold storeName
  simp only [hl, hk]
  exact wpAny_bind (wpAny_cellOf hc (c_cellSet hv h))
/-- the cells of a frame at L: what each holds -/
structure Cells (h : Heap) (L : Addr) (cs : List (Str × Addr)) (cm : Str → Option Value) : Prop where
  at_ : ∀ n c, cs.lookup n = some c → CellAt h c (cm n)
  one : ∀ n k c, cs.lookup n = some c → cs.lookup k = some c → n = k
  up : ∀ n c, cs.lookup n = some c → L < c
/-- a change below the cells -/
theorem Cells.under {h h' : Heap} {L : Addr} {cs : List (Str × Addr)} {cm : Str → Option Value} (x : Cells h L cs cm) (S : Heap.SameBut L h h') : Cells h' L cs cm :=
  ⟨fun n c e => (x.at_ n c e).at_ fun _ g _ => (S.2 c (Nat.ne_of_gt (x.up n c e))).trans g, x.one, x.up⟩
/-- a cell is written -/
theorem Cells.put {h h' : Heap} {L c : Addr} {cs : List (Str × Addr)} {cm : Str → Option Value} {n : Str} {v : Value} (x : Cells h L cs cm) (e : cs.lookup n = some c) (S : Heap.SameBut c h h') (q : CellAt h' c (some v)) :
    Cells h' L cs (fun y => if y = n then some v else cm y) := by
  refine ⟨fun k d f => ?_, x.one, x.up⟩
  by_cases z : k = n
  · subst z
    rw [e] at f; cases f
    rw [if_pos rfl]; exact q
  · rw [if_neg z]
    exact (x.at_ k d f).at_ fun _ g _ => (S.2 d fun y => z (x.one k n d f (y ▸ e))).trans g
/-- one name is put in: into the frame, or into its cell -/
theorem c_put {n : Str} {v : Value} {m cm : Str → Option Value} {Q : Unit → Shared → Prop} (hk : env.scope.kind = .function) (F : Fm s.heap env.locals m) (C : Cells s.heap env.locals env.cells cm)
    (kd : env.kindOf n = some .local ∨ (env.kindOf n = some .cell ∧ (env.cells.lookup n).isSome = true))
    (h : ∀ h' tk, Fm h' env.locals (bindL env.kindOf [(n, v)] m) → Cells h' env.locals env.cells (bindC env.kindOf [(n, v)] cm) → (∀ b o, b < env.locals → s.heap.get? b = some o → h'.get? b = some o) → Q () { s with heap := h', toks := tk }) :
    wpAny M A (storeName env n v) Q E s := by
  by_cases hl : env.kindOf n = some .local
  · have eL : bindL env.kindOf [(n, v)] m = fun y => if y = n then some v else m y := if_pos hl
    have eC : bindC env.kindOf [(n, v)] cm = cm := if_pos hl
    rw [storeName_local hl (by rw [hk]; rfl)]
    rw [eL, eC] at h
    exact v_nsSet F fun h' F' S => h h' _ F' (C.under S) fun b o l g => (S.2 b (Nat.ne_of_lt l)).trans g
  · have eL : bindL env.kindOf [(n, v)] m = m := if_neg hl
    have eC : bindC env.kindOf [(n, v)] cm = fun y => if y = n then some v else cm y := if_neg hl
    rw [eL, eC] at h
    obtain ⟨hc, some_⟩ := kd.resolve_left hl
    cases e : env.cells.lookup n with
    | none => rw [e] at some_; cases some_
    | some c =>
      have up := C.up n c e
      exact c_storeCell hk hc e (C.at_ n c e) fun h' q S => h h' s.toks (F.keeps (S.2 _ (Nat.ne_of_lt up))) (C.put e S q) fun b o l g => (S.2 b (Nat.ne_of_lt (Nat.lt_trans l up))).trans g
/-- the names of a call are put in -/
theorem c_puts {f : Str × Value → PUnit → Sem (ForInStep PUnit)} (hf : ∀ n v u, f (n, v) u = storeName env n v >>= fun _ => pure (.yield ⟨⟩)) (hk : env.scope.kind = .function) :
    ∀ (bs : List (Str × Value)) (m cm : Str → Option Value) (s : Shared) (Q : PUnit → Shared → Prop), Fm s.heap env.locals m → Cells s.heap env.locals env.cells cm →
      (∀ b ∈ bs, env.kindOf b.1 = some .local ∨ (env.kindOf b.1 = some .cell ∧ (env.cells.lookup b.1).isSome = true)) →
      (∀ h' tk, Fm h' env.locals (bindL env.kindOf bs m) → Cells h' env.locals env.cells (bindC env.kindOf bs cm) → (∀ b o, b < env.locals → s.heap.get? b = some o → h'.get? b = some o) → Q ⟨⟩ { s with heap := h', toks := tk }) →
      wpAny M A (forIn bs ⟨⟩ f) Q E s
  | [], m, cm, s, Q, F, C, _, h => by
    rw [List.forIn_nil]
    exact wpAny_pure (h s.heap s.toks F C fun _ _ _ g => g)
  | (n, v) :: r, m, cm, s, Q, F, C, kd, h => by
    rw [List.forIn_cons, hf]
    refine wpAny_bind (wpAny_bind (c_put hk F C (kd _ List.mem_cons_self) fun h₁ t₁ F₁ C₁ k₁ => wpAny_pure ?_))
    exact c_puts hf hk r _ _ _ Q F₁ C₁ (fun b mb => kd b (List.mem_cons_of_mem _ mb)) fun h₂ t₂ F₂ C₂ k₂ => h h₂ t₂ F₂ C₂ fun b o l g => k₂ b o l (k₁ b o l g)
/-- what is pushed with the cells of a frame is a cell -/
theorem pushed_cell : ∀ (names : List (Str × NameKind)) (h : Heap) (b : Addr) (o : Obj), h.objs.size ≤ b → (pushCells h names).get? b = some o → o.cls = .type "cell"
  | [], h, b, o, l, e => absurd (Heap.lt_size e) (Nat.not_lt_of_le l)
  | (_, kind) :: r, h, b, o, l, e => by
    unfold pushCells at e
    split at e
    · rcases Nat.eq_or_lt_of_le l with q | q
      · have z := pushCells_keeps r _ _ _ (Heap.get?_push_size h (o := { cls := .type "cell", data := .cell none }) rfl)
        rw [q, e] at z
        cases z; rfl
      · exact pushed_cell r _ b o (by rw [Heap.size_push]; exact q) e
    · exact pushed_cell r h b o l e
/-- the cells of a new frame, empty -/
theorem cells_new (h : Heap) (names : List (Str × NameKind)) (o : Obj) : Cells (pushCells (h.push o) names) h.objs.size (cellsFrom (h.objs.size + 1) names []) fun _ => none := by
  have ok := cellsFrom_ok names (h.push o) (h.objs.size + 1) [] ⟨nofun, .nil⟩ (Nat.le_of_eq (Heap.size_push ..).symm)
  rw [Heap.size_push] at ok
  refine ⟨fun n c e => ?_, fun n k c e f => name_of_addr ok.apart (mem_of_lookup e) (mem_of_lookup f), fun n c e => (ok.empty n c (mem_of_lookup e)).2⟩
  obtain ⟨⟨oc, g, d⟩, lo⟩ := ok.empty n c (mem_of_lookup e)
  exact ⟨oc, g, pushed_cell names _ c oc (by rw [Heap.size_push]; exact lo) g, d⟩
theorem c_newEnv {scope : Scope} {globals : Addr} {binds : List (Str × Value)} {qual : Str} {func : Option Addr} {code : Value} {builtins : Addr} {Q : Env → Shared → Prop} (hk : scope.kind = .function)
    (hkind : ∀ x ∈ binds, scope.names.lookup x.1 = some .local ∨ (scope.names.lookup x.1 = some .cell ∧ ((cellsFrom (s.heap.objs.size + 1) scope.names []).lookup x.1).isSome = true))
    (hQ : ∀ env, env = newEnv scope s.heap.objs.size globals (cellsFrom (s.heap.objs.size + 1) scope.names []) qual func code none builtins → ∀ h' tk, Fm h' env.locals (bindL env.kindOf binds fun _ => none) →
      Cells h' env.locals env.cells (bindC env.kindOf binds fun _ => none) → (∀ b o, s.heap.get? b = some o → h'.get? b = some o) → Q env { s with heap := h', toks := tk }) :
    wpAny M A (newFunctionEnv scope globals [] binds qual func code none builtins) Q E s := by
  unfold newFunctionEnv
  have fr := Heap.get?_push_size s.heap (o := { cls := .type "frame", data := .dict #[] }) rfl
  refine wpAny_bind (wpAny_alloc (wpAny_bind (wpAny_layCells _ (fun _ kind _ => by cases h : kind == NameKind.cell <;> simp [h]) _ _ _ _ ?_)))
  have sz : (s.heap.push { cls := .type "frame", data := .dict #[] }).objs.size = s.heap.objs.size + 1 := Heap.size_push ..
  dsimp only [Option.isSome_none]
  rw [if_neg Bool.false_ne_true, sz]
  refine wpAny_bind (c_puts (env := newEnv scope s.heap.objs.size globals (cellsFrom (s.heap.objs.size + 1) scope.names []) qual func code none builtins) (fun _ _ _ => rfl) hk binds (fun _ => none) (fun _ => none) _ _
    ⟨(Heap.Ns.new s.heap (.type "frame")).keeps (pushCells_keeps _ _), _, pushCells_keeps _ _ _ _ fr, rfl⟩ (cells_new ..) hkind fun h' tk F C k => wpAny_pure (hQ _ rfl h' tk F C fun b o g => k b o (Heap.lt_size g) (pushCells_keeps _ _ _ _ (Heap.get?_push_of_some _ g))))
end
section
variable {prog : Program} {w : World} {A : Around} {E : Value → Shared → Prop} {s : Shared}
/-- a def with cells is walked -/
theorem b_enterC {n : Nat} {Q : Value → Shared → Prop} {a : Addr} {o : Obj} {fd : FuncData} {args : Args} {binds : List (Str × Value)} {body : List Stmt} (X : Wd w s.heap) (hn : 333 ≤ n) (hns : n ≤ s.heap.objs.size)
    (hroom : A.depth < recursionLimit) (ho : s.heap.get? a = some o) (hdata : o.data = .func fd) (hcd : s.heap.CodeRec fd.code fd.qualname)
    (hbody : fd.body = .stmts body) (hbind : BindsTo s fd args binds) (hclo : fd.closure = [])
    (hkind : ∀ x ∈ binds, fd.scope.names.lookup x.1 = some .local ∨ (fd.scope.names.lookup x.1 = some .cell ∧ ((cellsFrom (s.heap.objs.size + 1) fd.scope.names []).lookup x.1).isSome = true))
    (h : ∀ L s₁, L = s.heap.objs.size → Bd w n s L (bindL (callEnvC fd L a).kindOf binds fun _ => none) s₁ → Ev s s₁ → s₁.gens = s.gens → (∀ n c, (callEnvC fd L a).cells.lookup n = some c → CellAt s₁.heap c (bindC (callEnvC fd L a).kindOf binds (fun _ => none) n)) →
      wpAny (model prog w) (A.deeper (callEnvC fd L a)) (execs body (callEnvC fd L a)) (fun f s' => Q (match f with | .ret v => v | _ => .none) s') (fun _ _ => False) s₁)
    (hco : fd.scope.isCoroutine = false := by rfl) (hgen : fd.scope.isGenerator = false := by rfl) (hk : fd.scope.kind = .function := by rfl) : Ret prog w A (.ref a) args s Q := by
  refine codeAny_call_function hroom ho hdata hco hgen hbody hcd (hbind _ _ _ _ ?_)
  rw [hclo]
  refine c_newEnv hk hkind fun env he h' tk F C k => ?_
  subst he
  exact ⟨(nolimit X).keeps k, codeAny_func (wpAny_mono (h _ _ rfl ⟨⟨.of k, rfl, .refl _⟩, F, hns, hn, X⟩ ⟨.of k, rfl, .refl _⟩ rfl C.at_) (fun f s' z => z) fun _ _ z => z.elim)⟩
end
end Mine
end

-- WE
section
open PySem PySem.W PySem.Calls PyProof.Rows
set_option maxHeartbeats 4000000
namespace Mine
section
variable {prog : Program} {w : World} {A : Around} {E : Value → Shared → Prop} {s : Shared}
theorem str_is {k : Str} {v : Value} (h : (PySem.strKind prog w).is k v = true) : ∃ t, v = .str k t := by
  cases v <;> simp_all [PySem.strKind, Value.isStrOf]
theorem keyiter_kp {h h' : Heap} {it d : Addr} {i n ep : Nat} (x : h.IsKeyIter it d i n ep) (k : ∀ o, h.get? it = some o → h'.get? it = some o) : h'.IsKeyIter it d i n ep := let ⟨o, a, r⟩ := x; ⟨o, k o a, r⟩
theorem dictAt_k {h h' : Heap} {d : Addr} {kvs : List (Str × Value)} {ep : Nat} (x : h.DictAt (PySem.strKind prog w) d kvs ep) (k : ∀ o, h.get? d = some o → tabO o = false → h'.get? d = some o) : h'.DictAt (PySem.strKind prog w) d kvs ep :=
  let ⟨o, es, a, b, r⟩ := x; ⟨o, es, k o a (pl_tab (pl_of b.1 (by decide))), b, r⟩
theorem src_keys {e : Shared} {it d lo gl : Nat} {kvs : List (Str × Value)} {ep : Nat} (hh : A.handled = none) (h1 : e.heap.objs.size ≤ it) (h2 : it < lo) (h3 : d < lo) (hne : d ≠ it) :
    Src prog w A e lo gl (.ref it) kvs.length (fun j s => j ≤ kvs.length ∧ s.heap.IsKeyIter it d j kvs.length ep ∧ s.heap.DictAt (PySem.strKind prog w) d kvs ep) (fun _ j v _ => ∃ k x t, kvs[j]? = some (k, x) ∧ v = .str k t) where
  ev := fun j s s' ⟨z, a, b⟩ v => ⟨z, keyiter_kp a fun o q => v.ka.k _ _ q (by obtain ⟨o', q', r⟩ := a; rw [q] at q'; cases q'; unfold tabO; rw [r.1]), dictAt_k b fun o q p => v.ka.k _ _ q p⟩
  at_ := fun j s z h' t ⟨zz, a, b⟩ S hz _ => ⟨zz, keyiter_kp a fun o q => (S.2 it (Nat.ne_of_lt (by omega))).trans q, dictAt_k b fun o q _ => (S.2 d (Nat.ne_of_lt (by omega))).trans q⟩
  gen := fun _ _ _ _ h _ => h
  pst := fun _ _ _ _ _ h _ => h
  pmono := fun _ _ _ _ _ _ h => h
  iter := fun A' s E Q ⟨_, a, b⟩ h => by
    refine wpAny_pyIter_slot a.typeIs F.slot_dict_keyiterator_iter (wpAny_call_entry F.slot_dict_keyiterator_iter a.typeIs F.entry_dict_keyiterator_iter ?_ (F.args_dict_keyiterator_iter_1 _))
    show wpAny _ _ (ret (.ref it)) _ _ s
    exact wpAny_pure ⟨_, rfl, "dict_keyiterator", _, a.typeIs, F.slot_dict_keyiterator_next.lookup, h⟩
  next := fun hi j s E ⟨z, a, b⟩ X _ _ => by
    cases hv : kvs[j]? with
    | none =>
      refine wpAny_pyNext_dict_end hh a b hv fun h₁ he => ?_
      refine ⟨⟨⟨fun b o l e _ => he b o (Nat.ne_of_lt (by omega)) e, fun b o e c => he b o (by obtain ⟨o', q, r⟩ := a; intro z; subst z; rw [e] at q; cases q; exact absurd (r.1.symm.trans c.1) (by simp)) e, fun b o l e _ => .inl (he b o (Nat.ne_of_lt (by omega)) e)⟩, fun b o l e => he b o (Nat.ne_of_gt (by omega)) e, rfl, fun _ _ _ e => e, fun h => h⟩, ?_⟩
      have := List.getElem?_eq_none_iff.mp hv
      omega
    | some kv =>
      obtain ⟨k, x⟩ := kv
      refine wpAny_pyNext_dict_item a b hv fun key h₁ hkey hit hs => ?_
      obtain ⟨t, rfl⟩ := str_is hkey
      have hj : j < kvs.length := (List.getElem?_eq_some_iff.mp hv).1
      refine ⟨⟨.same hs h1 (by obtain ⟨o', q, r⟩ := a; exact ⟨o', q, nc_cls (by rw [r.1]; simp)⟩), fun b o l e => (hs.2 b (Nat.ne_of_gt (by omega))).trans e, rfl, fun _ _ _ e => e, fun h => h⟩, hj, ⟨hj, hit, ?_⟩, Nat.le_of_eq hs.1.symm, k, x, t, rfl, rfl⟩
      exact dictAt_k b fun o q _ => (hs.2 d hne).trans q
end
end Mine
end

-- WF
section
open PySem PySem.W PySem.Calls PyProof.Rows
set_option maxHeartbeats 4000000
namespace Mine
theorem m_keys (w : World) : findIn (KV w) (.ref 240) "keys" = some (some (.ref 133)) := by kernel_rfl
theorem mf_keys (w : World) : typeIn (KV w) (.ref 133) = some (.type "function") := by kernel_rfl
theorem mk_keys (w : World) : keepIn (KV w) (.ref 133) = true := by kernel_rfl
section
variable {prog : Program} {w : World} {A : Around} {E : Value → Shared → Prop} {s : Shared} {env : Env}
theorem r_cell {x : Str} {pos : Pos} {c : Addr} {v : Value} {Q : Value → Shared → Prop} (hc : env.cells.lookup x = some c) (hv : CellAt s.heap c (some v)) (h : Q v s) (hk : env.scope.kind = .function := by rfl) (hl : env.kindOf x = some .cell := by rfl)
    (hd : (x == ("__debug__" : Str)) = false := by decide) : wpAny (model prog w) A (eval (.Name x pos) env) Q E s := wpAny_Name (wpAny_loadName_cell hk hl hc hv.is h) hd
theorem r_free {x : Str} {pos : Pos} {c : Addr} {v : Value} {Q : Value → Shared → Prop} (hc : env.cells.lookup x = some c) (hv : CellAt s.heap c (some v)) (h : Q v s) (hk : env.scope.kind = .function := by rfl) (hl : env.kindOf x = some .free := by rfl)
    (hn : (x == ("__classdict__" : Str)) = false := by decide) (hd : (x == ("__debug__" : Str)) = false := by decide) : wpAny (model prog w) A (eval (.Name x pos) env) Q E s := wpAny_Name (wpAny_loadName_free hk hl hc hv.is h hn) hd
/-- a.name, a method of a ParseResults -/
theorem pr_meth {a dx f : Addr} {sl : Array (Option Value)} {name : Str} {pl : Sem Bool} {Q : Value × List Value → Shared → Prop} (X : Wd w s.heap) (ha : s.heap.get? a = some (pcls dx sl)) (hx : s.heap.get? dx = some noDict)
    (hf : findIn (KV w) (.ref 240) name = some (some (.ref f))) (ht : typeIn (KV w) (.ref f) = some (.type "function")) (h : Q (.ref f, [.ref a]) s) (hs : shadowIn (some noDict) name = some false := by rfl) : wpAny (model prog w) A (getMethod (.ref a) name pl) Q E s := by
  have I : InstAt s.heap a (pcls dx sl) 240 (some noDict) := ⟨ha, rfl, rfl, hx⟩
  exact method_fn X I (c_ga w) (c_gattr w) hf ht hs h
theorem PRx.inst {h : Heap} {a : Addr} {vs : List Value} {kvs : List (Str × Value)} {S : Str → Bool} (P : PRx prog w h a vs kvs S) : ∃ dx sl, h.get? a = some (pcls dx sl) ∧ h.get? dx = some noDict := by
  obtain ⟨dx, tl, td, an, par, nm, md, n, h1, h2, _⟩ := P
  exact ⟨_, _, h1, h2⟩
/-- what stands under the names, raw -/
def UnR (w : World) (h : Heap) (kvs : List (Str × Value)) : Prop := ∀ k v, (k, v) ∈ kvs → ∃ l os xs, v = .ref l ∧ h.IsList l os.toArray ∧ os ≠ [] ∧ os.length ≤ 64 ∧ All2 (POx w h) os xs
theorem UnR.kp {h h' : Heap} {kvs : List (Str × Value)} (x : UnR w h kvs) (k : Kp h h') : UnR w h' kvs := fun q v m => by
  obtain ⟨l, os, xs, e, hl, hne, hz, ha⟩ := x q v m
  exact ⟨l, os, xs, e, isList_kp hl k, hne, hz, ha.mono fun _ _ z => z.kp k⟩
/-- the value of self[k] -/
def GetV (prog : Program) (w : World) (e h : Heap) (hi : Nat) (kvs : List (Str × Value)) (S : Str → Bool) (k : Str) (v : Value) : Prop :=
  ∃ l os xs, valueAt kvs k = some (.ref l) ∧ e.IsList l os.toArray ∧ All2 (POx w e) os xs ∧ if S k then NewPR prog w hi h v xs else xs.getLast? = some v
theorem All2.last {α β : Type} {R : α → β → Prop} : ∀ {as : List α} {bs : List β}, All2 R as bs → as ≠ [] → ∃ as' a b, as = as' ++ [a] ∧ bs.getLast? = some b ∧ R a b
  | _, _, .cons (a := a) (b := b) (as := as) x y, _ => by
    cases y with
    | nil => exact ⟨[], a, b, rfl, rfl, x⟩
    | @cons a' b' as' bs' x' y' =>
      obtain ⟨as2, a2, b2, e1, e2, e3⟩ := All2.last (All2.cons x' y') (by simp)
      exact ⟨a :: as2, a2, b2, by rw [e1]; rfl, by rw [List.getLast?_cons_cons]; exact e2, e3⟩
theorem valueAt_mem {kvs : List (Str × Value)} {k : Str} {v : Value} (h : valueAt kvs k = some v) : (k, v) ∈ kvs := by
  unfold valueAt at h
  obtain ⟨kv, h1, h2⟩ := Option.map_eq_some_iff.mp h
  have := List.find?_some h1
  simp at this
  have hm := List.mem_of_find?_eq_some h1
  obtain ⟨a, b⟩ := kv
  simp at this h2
  subst this h2
  exact hm
/-- self[k], for a name that is there -/
theorem c_getitem {n : Nat} {a : Addr} {vs : List Value} {kvs : List (Str × Value)} {S : Str → Bool} {k : Str} {t : Tok} {v0 : Value} {e : Heap} (R : Rm (n + 3) A) (X : Wd w s.heap) (P : PRx prog w s.heap a vs kvs S) (ke : Kp e s.heap) (U : UnR w e kvs) (hk : valueAt kvs k = some v0) :
    Ret prog w A (.ref 79) ⟨[.ref a, .str k t], []⟩ s (fun r s' => Ev s s' ∧ s.heap.objs.size ≤ s'.heap.objs.size ∧ GetV prog w e s'.heap s.heap.objs.size kvs S k r) := by
  obtain ⟨l, os, xs, rfl, hl, hne, hz, hp⟩ := U k v0 (valueAt_mem hk)
  have hl' := isList_kp hl ke
  have hp' := hp.mono fun _ _ z => z.kp ke
  cases hS : S k with
  | true => exact (c_getitem_star R X P hS hk hl' hz hp').mono fun v s' z => ⟨z.1, z.2.1, l, os, xs, hk, hl, hp, by rw [hS]; exact z.2.2⟩
  | false =>
    obtain ⟨os', o, x, rfl, hx, hpo⟩ := hp'.last hne
    rw [List.length_append, List.length_singleton] at hz
    exact (c_getitem_str R X P hS hk hl' (by omega) hpo).mono fun v s' z => by
      obtain ⟨rfl, ev, hsz⟩ := z
      exact ⟨ev, hsz, l, _, xs, hk, hl, hp, by rw [hS]; exact hx⟩
end
end Mine
end

-- WG
section
open PySem PySem.W PySem.Calls PyProof.Rows
set_option maxHeartbeats 4000000
namespace Mine
theorem Rm.over {n : Nat} {A : Around} (R : Rm (n + 1) A) (elt iter : Expr) (x : Str) (px : Pos) (scope : Scope) (pos : Pos) (it : Value) (cenv : Env) : Rm n (A.in1.over (gLoop elt iter x px scope pos it cenv) []) := by
  refine ⟨?_, ?_, R.h⟩
  · have := R.d
    show A.depth + 0 + (gLoop elt iter x px scope pos it cenv).weight + _ < _
    have e : (gLoop elt iter x px scope pos it cenv).weight = 1 := rfl
    omega
  · have := R.u
    show A.units + 1 + 0 + (gLoop elt iter x px scope pos it cenv).cUnits + _ < _
    have e : (gLoop elt iter x px scope pos it cenv).cUnits = 3 := rfl
    omega
section
variable {prog : Program} {w : World} {A : Around} {E : Value → Shared → Prop} {s : Shared} {env : Env}
theorem getV_st {e h h' : Heap} {hi : Nat} {kvs : List (Str × Value)} {S : Str → Bool} {k : Str} {v : Value} {lo : Nat} (x : GetV prog w e h hi kvs S k v) (st : St lo hi h h') : GetV prog w e h' hi kvs S k v := by
  obtain ⟨l, os, xs, hk, hl, hp, z⟩ := x
  refine ⟨l, os, xs, hk, hl, hp, ?_⟩
  cases hS : S k with
  | false => rw [hS] at z; exact z
  | true =>
    rw [hS] at z
    obtain ⟨a, dx, tl, td, an, n, e1, l1, l5, l0, l2, l3, l4, ha, hx, htl, htd, o, es, ep, t, q, he, r⟩ := z
    have k : ∀ b o, hi ≤ b → h.get? b = some o → tabO o = false → h'.get? b = some o := fun b o l q p => st b o (.inr l) q p
    exact ⟨a, dx, tl, td, an, n, e1, l1, l5, l0, l2, l3, l4, k _ _ l1 ha rfl, k _ _ l0 hx rfl, k _ _ l2 htl rfl, k _ _ l3 htd rfl, o, es, ep, t, k _ _ l4 q (pl_tab (pl_of he.1 (by decide))), he, r⟩
theorem getV_mono {e h : Heap} {hi hi' : Nat} {kvs : List (Str × Value)} {S : Str → Bool} {k : Str} {v : Value} (x : GetV prog w e h hi' kvs S k v) (l : hi ≤ hi') : GetV prog w e h hi kvs S k v := by
  obtain ⟨l', os, xs, hk, hl, hp, z⟩ := x
  refine ⟨l', os, xs, hk, hl, hp, ?_⟩
  cases hS : S k with
  | false => rw [hS] at z; exact z
  | true =>
    rw [hS] at z
    obtain ⟨a, dx, tl, td, an, n, e1, l1, l5, l0, l2, l3, l4, r⟩ := z
    exact ⟨a, dx, tl, td, an, n, e1, Nat.le_trans l l1, l5, Nat.le_trans l l0, Nat.le_trans l l2, Nat.le_trans l l3, Nat.le_trans l l4, r⟩
def retOf (b : List Stmt) (i : Nat) : Expr := match b[i]? with | some (.Return (some e) _) => e | _ => .Constant .none 0 ⟨0,0,0,0⟩
def gElt : Expr → Expr | .GeneratorExp e _ _ _ => e | e => e
def gIter : Expr → Expr | .GeneratorExp _ (⟨_, i, _, _⟩ :: _) _ _ => i | e => e
def gPx : Expr → Pos | .GeneratorExp _ (⟨.Name _ p, _, _, _⟩ :: _) _ _ => p | _ => ⟨0,0,0,0⟩
def gScope : Expr → Scope | .GeneratorExp _ _ s _ => s | _ => default
def gPos : Expr → Pos | .GeneratorExp _ _ _ p => p | _ => ⟨0,0,0,0⟩
theorem GX.size {a b : Array GenState} (x : GX a b) : a.size ≤ b.size := by
  rcases Nat.eq_zero_or_pos a.size with h | h
  · omega
  · have := x.k (a.size - 1) _ (Array.getElem?_eq_getElem (by omega))
    obtain ⟨h', _⟩ := Array.getElem?_eq_some_iff.mp this
    omega
theorem gen_final {k N lo₁ gl₁ tk : Nat} {e e₁ s₃ : Shared} {h' : Heap} {na nb : Value} {elt iter : Expr} {x : Str} {px : Pos} {scope : Scope} {pos : Pos} {cenv : Env} {it : Value} {m0 : Str → Option Value} {P₂ : Nat → Nat → Value → Heap → Prop}
    (hC : cenv.locals = s₃.heap.objs.size) (hns : h'.Ns s₃.heap.objs.size m0) (S4 : Heap.SameBut s₃.heap.objs.size (s₃.heap.push { cls := .type "frame", data := .dict #[] }) h')
    (kf : Kf e₁.heap.objs.size e₁.heap s₃.heap) (X : Wd w s₃.heap) (he : e.heap.objs.size ≤ e₁.heap.objs.size) (heg : e.gens.size ≤ e₁.gens.size) (hge : e.gens.size ≤ s₃.gens.size) (h1 : lo₁ ≤ s₃.heap.objs.size) (h1e : e₁.heap.objs.size ≤ lo₁) (hgl : gl₁ ≤ s₃.gens.size)
    (hb1 : 333 ≤ e₁.heap.objs.size) (hx : cenv.kindOf x = some .local) (hp : (cenv.scope.kind == .class || (cenv.scope.kind == .module && cenv.locals != cenv.globals)) = false) (hco : cenv.scope.isCoroutine = false)
    (hnm : ∃ a b ta tb, na = .str a ta ∧ nb = .str b tb)
    (pst : ∀ hi j v h h', P₂ hi j v h → St e.heap.objs.size hi h h' → P₂ hi j v h') (pmono : ∀ hi hi' j v h, hi ≤ hi' → P₂ hi' j v h → P₂ hi j v h)
    (Sin : ∀ A', Rm k A' → ∃ (I : Nat → Shared → Prop) (P : Nat → Nat → Value → Heap → Prop), I 0 s₃ ∧ Src prog w (A'.in1.over (gLoop elt iter x px scope pos it cenv) []) e₁ lo₁ gl₁ it N I P ∧
      ∀ E' hi j v (s : Shared) m, j < N → Kf e₁.heap.objs.size e₁.heap s.heap → Wd w s.heap → hi ≤ s.heap.objs.size → P hi j v s.heap → s.heap.Ns cenv.locals m → m x = some v →
      wpAny (model prog w) (A'.in1.over (gLoop elt iter x px scope pos it cenv) []) (eval elt cenv) (fun y s' => Ev s s' ∧ s.heap.objs.size ≤ s'.heap.objs.size ∧ P₂ hi j y s'.heap) E' s) :
    Ev s₃ { s₃ with gens := s₃.gens.push (.fresh (gStart elt iter x px scope pos it cenv)), toks := tk, heap := h'.push { cls := .type "generator", data := .fields #[.int s₃.gens.size 0, na, nb] } } ∧ s₃.heap.objs.size < h'.objs.size ∧
    ∀ A', Rm k A' → ∃ I, I 0 { s₃ with gens := s₃.gens.push (.fresh (gStart elt iter x px scope pos it cenv)), toks := tk, heap := h'.push { cls := .type "generator", data := .fields #[.int s₃.gens.size 0, na, nb] } } ∧
      (∀ j s, I j s → ∃ g, s.heap.IsGen h'.objs.size g) ∧ Src prog w A' e (h'.objs.size + 1) (s₃.gens.size + 1) (.ref h'.objs.size) N I P₂ := by
  have hCs : s₃.heap.objs.size < h'.objs.size := by rw [S4.1, Heap.size_push]; exact Nat.lt_succ_self _
  have kk : ∀ b o, s₃.heap.get? b = some o → h'.get? b = some o := fun b o q => (S4.2 b (Nat.ne_of_lt (Heap.lt_size q))).trans (Heap.get?_push_of_some _ q)
  have ev : Ev s₃ { s₃ with gens := s₃.gens.push (.fresh (gStart elt iter x px scope pos it cenv)), toks := tk, heap := h'.push { cls := .type "generator", data := .fields #[.int s₃.gens.size 0, na, nb] } } := by
    refine ⟨.of fun b o q => Heap.get?_push_of_some _ (kk b o q), rfl, fun i x q => ?_, fun h x m => ?_⟩
    · rw [Array.getElem?_push_lt (by
        rcases Nat.lt_or_ge i s₃.gens.size with h | h
        · exact h
        · rw [Array.getElem?_eq_none h] at q; cases q)]
      obtain ⟨h, e⟩ := Array.getElem?_eq_some_iff.mp q
      rw [e]
    · rcases Array.mem_push.mp m with q | q
      · exact h x q
      · rw [q]; rfl
  refine ⟨ev, hCs, fun A' R' => ?_⟩
  obtain ⟨I, P, h0, S, helt⟩ := Sin A' R'
  have G : GIn w e₁ I cenv.locals 0 { s₃ with gens := s₃.gens.push (.fresh (gStart elt iter x px scope pos it cenv)), toks := tk, heap := h'.push { cls := .type "generator", data := .fields #[.int s₃.gens.size 0, na, nb] } } :=
    ⟨kf.trans ev.ka.kf, X.mono ev.kp, S.ev _ _ _ h0 ev, m0, hC ▸ ns_at hns fun o q => Heap.get?_push_of_some _ q⟩
  have hbig : 333 ≤ h'.objs.size + 1 := Nat.le_succ_of_le (Nat.le_of_lt (Nat.lt_of_le_of_lt (Nat.le_trans hb1 (Nat.le_trans h1e h1)) hCs))
  refine ⟨_, ⟨Nat.zero_le _, ?_, G, _, Array.getElem?_push_size .., fun s'' G'' => ⟨rfl, seg_start (A := A'.in1) (e := e) (lo := h'.objs.size + 1) S hx hp hco he heg (hC ▸ h1) h1e (by rw [hC]; exact Nat.lt_succ_of_lt hCs) hbig hb1 helt s'' G''⟩⟩, fun _ _ z => ⟨_, z.2.1⟩,
    src_gen (it := it) (lo₁ := lo₁) (P := P) R'.h R'.room S.ev S.at_ S.gen (fun j s h' hi k => ?_) pst pmono he heg (hC ▸ h1) h1e (by rw [hC]; exact Nat.lt_succ_of_lt hCs) (Nat.lt_succ_self _) (by rw [hC]; exact Nat.ne_of_lt hCs) (Nat.le_of_lt (Nat.lt_of_le_of_lt h1 hCs)) hgl hge hb1⟩
  · exact S.ev _ _ _ hi ⟨.of k, rfl, .refl _⟩
  · obtain ⟨a, b, ta, tb, rfl, rfl⟩ := hnm
    exact ⟨_, _, _, Heap.get?_push_size _ rfl, rfl, rfl, rfl⟩
theorem valueAt_nodup : ∀ {kvs : List (Str × Value)} {k : Str} {x : Value}, (kvs.map (·.1)).Nodup → (k, x) ∈ kvs → valueAt kvs k = some x
  | [], _, _, _, m => by cases m
  | (a, b) :: r, k, x, hn, m => by
    rw [List.map_cons, List.nodup_cons] at hn
    unfold valueAt
    rcases List.mem_cons.mp m with q | q
    · cases q; simp
    · have hne : a ≠ k := fun h => hn.1 (by subst h; exact List.mem_map_of_mem (f := (·.1)) q)
      rw [List.find?_cons_of_neg (by simp [hne])]
      exact valueAt_nodup hn.2 q
theorem c_values {n : Nat} {a : Addr} {vs : List Value} {kvs : List (Str × Value)} {S : Str → Bool} (R : Rm (n + 4) A) (X : Wd w s.heap) (T : Tb s.heap) (P : PRx prog w s.heap a vs kvs S) (U : UnR w s.heap kvs) :
    Ret prog w A (.ref 140) ⟨[.ref a], []⟩ s (fun v s' => Ev s s' ∧ s.heap.objs.size ≤ s'.heap.objs.size ∧ ∃ ga : Nat, v = .ref ga ∧ ∀ A', Rm 5 A' → ∃ I, I 0 s' ∧
      Src prog w A' s s'.heap.objs.size s'.gens.size (.ref ga) kvs.length I (fun hi j v h => ∃ k x, kvs[j]? = some (k, x) ∧ GetV prog w s.heap h hi kvs S k v)) := by
  refine b_enterC X X.big (Nat.le_refl _) (binds := [("self", .ref a)]) (body := bodyOf fd_values) R.room (fo_values X) rfl (code_of X (by kernel_rfl)) rfl (.of_eq rfl) rfl (by intro x m; rcases List.mem_singleton.mp m with rfl; exact .inr ⟨rfl, rfl⟩) fun L s₁ hLs B ev hg cells => ?_
  have hself : CellAt s₁.heap (L + 1) (some (.ref a)) := cells "self" (L + 1) rfl
  have P1 := P.kp ev.kp
  obtain ⟨dx, sl, ha, hdx⟩ := P1.inst
  refine wpAny_execs_cons (wpAny_Return_some (wpAny_GeneratorExp_make (cl := [("self", L + 1)]) rfl rfl (by decide) rfl rfl (R.deep _).room ?_ (by intro _; rfl)))
  refine MethodCall_ (r_cell (c := L + 1) rfl hself (pr_meth B.wd ha hdx (m_keys w) (mf_keys w) (callWith_K0 B.wd (mk_keys w) ?_)))
  refine (c_keys (R.deep _) B.wd P1).call fun v s₂ z => ?_
  obtain ⟨⟨it, d, ep, rfl, hit, hd, hds, hki, hda⟩, ev2⟩ := z
  refine (src_keys (A := A) (e := s₁) (it := it) (d := d) (lo := s₂.heap.objs.size) (gl := 0) (kvs := kvs) (ep := ep) R.h hit (by obtain ⟨o, q, _⟩ := hki; exact Heap.lt_size q) (Nat.lt_of_lt_of_le hd (by obtain ⟨o, q, _⟩ := hki; exact Nat.le_of_lt (Nat.lt_of_le_of_lt hit (Heap.lt_size q)))) (Nat.ne_of_lt (Nat.lt_of_lt_of_le hd hit))).iter _ s₂ _ _ ⟨Nat.zero_le _, hki, hda⟩ ?_
  have hit2 : it < s₂.heap.objs.size := by obtain ⟨o, q, _⟩ := hki; exact Heap.lt_size q
  have B2 := B.ev ev2
  refine ⟨nolimit B2.wd, ?_⟩
  have T2 : Tb s₂.heap := (T.mono ev.kp).mono ev2.kp
  refine g_code (c := 139) (P := 135) rfl T2.1 (by decide) rfl fun code s₃ ev3 hz3 hg3 => ?_
  have B3 := B2.ev ev3
  refine (bi_of B3.wd).here ?_
  intro h' hns S4
  have kf3 : Kf s₁.heap.objs.size s₁.heap s₃.heap := (ev2.ka.trans ev3.ka).kf
  have h31 : s₁.heap.objs.size ≤ s₂.heap.objs.size := Nat.le_of_lt (Nat.lt_of_le_of_lt hit hit2)
  have hs1 : s.heap.objs.size ≤ s₁.heap.objs.size := Nat.le_of_lt B.lt
  have hg1 : s.gens.size ≤ s₁.gens.size := Nat.le_of_eq (by rw [hg])
  have hg3' : s₁.gens.size ≤ s₃.gens.size := by rw [hg3]; exact ev2.gens.size
  have fin0 := fun Sin => gen_final (prog := prog) (w := w) (k := 5) (N := kvs.length) (lo₁ := s₂.heap.objs.size) (gl₁ := s₃.gens.size) (tk := s₃.toks + 1 + 1 + 1) (e := s) (e₁ := s₁) (s₃ := s₃) (P₂ := fun hi j v h => ∃ k x, kvs[j]? = some (k, x) ∧ GetV prog w s.heap h hi kvs S k v) (it := .ref it) (x := "k")
    (elt := gElt (retOf (bodyOf fd_values) 0)) (iter := gIter (retOf (bodyOf fd_values) 0)) (px := gPx (retOf (bodyOf fd_values) 0)) (scope := gScope (retOf (bodyOf fd_values) 0)) (pos := gPos (retOf (bodyOf fd_values) 0))
    (na := .str "<genexpr>" (s₃.toks + 1)) (nb := .str ((callEnvC fd_values L 140).qual ++ "<genexpr>") (s₃.toks + 1 + 1))
    (cenv := genEnv (gScope (retOf (bodyOf fd_values) 0)) [("self", L + 1)] s₃.heap.objs.size code 0 (callEnvC fd_values L 140))
    rfl hns S4 kf3 B3.wd hs1 hg1 (by omega) hz3 h31 (Nat.le_refl _) (Nat.le_trans X.big hs1) rfl rfl rfl ⟨_, _, _, _, rfl, rfl⟩
    (fun hi j v h h' ⟨k, x, e, g⟩ st => ⟨k, x, e, getV_st g st⟩) (fun hi hi' j v h l ⟨k, x, e, g⟩ => ⟨k, x, e, getV_mono g l⟩) Sin
  refine (fun fin => ⟨((ev.trans ev2).trans ev3).trans fin.1, by rw [Heap.size_push]; have := fin.2.1; omega, _, rfl, fun A' R' => by
      obtain ⟨I, i0, _, S⟩ := fin.2.2 A' R'
      refine ⟨I, i0, ?_⟩
      rw [Heap.size_push, Array.size_push]
      exact S⟩) (fin0 ?_)
  intro A' R'
  refine ⟨_, _, ⟨Nat.zero_le _, keyiter_kp hki fun o q => ev3.ka.k _ _ q (by obtain ⟨o', q', r⟩ := hki; rw [q] at q'; cases q'; unfold tabO; rw [r.1]), dictAt_k hda fun o q p => ev3.ka.k _ _ q p⟩,
    src_keys (R'.over (n := 4) ..).h hit hit2 (Nat.lt_of_lt_of_le hd h31) (Nat.ne_of_lt (Nat.lt_of_lt_of_le hd hit)), ?_⟩
  intro E' hi j v s' m hj kf X' hhi ⟨k, x, t, e1, e2⟩ hn hm
  subst e2
  have ka : Ka s₁.heap s'.heap := kf.ka (Nat.le_refl _)
  have ka0 : Ka s.heap s'.heap := ev.ka.trans ka
  have hnd : (kvs.map (·.1)).Nodup := let ⟨_, _, _, _, _, _, _, hn⟩ := hda; hn
  have hva : valueAt kvs k = some x := valueAt_nodup hnd (List.mem_of_getElem? e1)
  refine Subscript_ (r_free (c := L + 1) rfl (hself.ka ka) (r_localN hn hm (v_item X' (ka.kp.k _ _ ha rfl) (ka.kp.k _ _ hdx rfl) ?_)))
  refine (c_getitem (n := 0) ((R'.over (n := 4) ..).in1) X' (P.kp ka0.kp) ka0.kp U hva).call fun r s₅ z => ?_
  obtain ⟨ev5, hz5, g⟩ := z
  exact ⟨ev5, hz5, k, x, e1, getV_mono g hhi⟩
end
end Mine
end

-- WH
section
open PySem PySem.W PySem.Calls PyProof.Rows
set_option maxHeartbeats 4000000
namespace Mine
section
variable {prog : Program} {w : World} {A : Around} {E : Value → Shared → Prop} {s : Shared} {env : Env}
/-- what comes out of items(): a name and its value -/
def ItemP (prog : Program) (w : World) (e : Heap) (kvs : List (Str × Value)) (S : Str → Bool) (hi j : Nat) (v : Value) (h : Heap) : Prop :=
  ∃ k x t, ∃ tp : Nat, ∃ y, kvs[j]? = some (k, x) ∧ v = .ref tp ∧ hi ≤ tp ∧ h.get? tp = some { cls := .type "tuple", data := .seq #[.str k t, y] } ∧ GetV prog w e h hi kvs S k y
theorem ItemP.st {e h h' : Heap} {kvs : List (Str × Value)} {S : Str → Bool} {hi j : Nat} {v : Value} {lo : Nat} (x : ItemP prog w e kvs S hi j v h) (st : St lo hi h h') : ItemP prog w e kvs S hi j v h' := by
  obtain ⟨k, x, t, tp, y, e1, e2, l, q, g⟩ := x
  exact ⟨k, x, t, tp, y, e1, e2, l, st tp _ (.inr l) q rfl, getV_st g st⟩
theorem ItemP.mono {e h : Heap} {kvs : List (Str × Value)} {S : Str → Bool} {hi hi' j : Nat} {v : Value} (x : ItemP prog w e kvs S hi' j v h) (l : hi ≤ hi') : ItemP prog w e kvs S hi j v h := by
  obtain ⟨k, x, t, tp, y, e1, e2, l', q, g⟩ := x
  exact ⟨k, x, t, tp, y, e1, e2, Nat.le_trans l l', q, getV_mono g l⟩
theorem c_items {n : Nat} {a : Addr} {vs : List Value} {kvs : List (Str × Value)} {S : Str → Bool} (R : Rm (n + 4) A) (X : Wd w s.heap) (T : Tb s.heap) (P : PRx prog w s.heap a vs kvs S) (U : UnR w s.heap kvs) :
    Ret prog w A (.ref 147) ⟨[.ref a], []⟩ s (fun v s' => Ev s s' ∧ s.heap.objs.size ≤ s'.heap.objs.size ∧ ∃ ga : Nat, v = .ref ga ∧ ∀ A', Rm 5 A' → ∃ I, I 0 s' ∧ (∀ j s, I j s → ∃ g, s.heap.IsGen ga g) ∧
      Src prog w A' s s'.heap.objs.size s'.gens.size (.ref ga) kvs.length I (ItemP prog w s.heap kvs S)) := by
  refine b_enterC X X.big (Nat.le_refl _) (binds := [("self", .ref a)]) (body := bodyOf fd_items) R.room (fo_items X) rfl (code_of X (by kernel_rfl)) rfl (.of_eq rfl) rfl (by intro x m; rcases List.mem_singleton.mp m with rfl; exact .inr ⟨rfl, rfl⟩) fun L s₁ hLs B ev hg cells => ?_
  have hself : CellAt s₁.heap (L + 1) (some (.ref a)) := cells "self" (L + 1) rfl
  have P1 := P.kp ev.kp
  obtain ⟨dx, sl, ha, hdx⟩ := P1.inst
  refine wpAny_execs_cons (wpAny_Return_some (wpAny_GeneratorExp_make (cl := [("self", L + 1)]) rfl rfl (by decide) rfl rfl (R.deep _).room ?_ (by intro _; rfl)))
  refine MethodCall_ (r_cell (c := L + 1) rfl hself (pr_meth B.wd ha hdx (m_keys w) (mf_keys w) (callWith_K0 B.wd (mk_keys w) ?_)))
  refine (c_keys (R.deep _) B.wd P1).call fun v s₂ z => ?_
  obtain ⟨⟨it, d, ep, rfl, hit, hd, hds, hki, hda⟩, ev2⟩ := z
  refine (src_keys (A := A) (e := s₁) (it := it) (d := d) (lo := s₂.heap.objs.size) (gl := 0) (kvs := kvs) (ep := ep) R.h hit (by obtain ⟨o, q, _⟩ := hki; exact Heap.lt_size q) (Nat.lt_of_lt_of_le hd (by obtain ⟨o, q, _⟩ := hki; exact Nat.le_of_lt (Nat.lt_of_le_of_lt hit (Heap.lt_size q)))) (Nat.ne_of_lt (Nat.lt_of_lt_of_le hd hit))).iter _ s₂ _ _ ⟨Nat.zero_le _, hki, hda⟩ ?_
  have hit2 : it < s₂.heap.objs.size := by obtain ⟨o, q, _⟩ := hki; exact Heap.lt_size q
  have B2 := B.ev ev2
  refine ⟨nolimit B2.wd, ?_⟩
  have T2 : Tb s₂.heap := (T.mono ev.kp).mono ev2.kp
  refine g_code (c := 146) (P := 142) rfl T2.2.1 (by decide) rfl fun code s₃ ev3 hz3 hg3 => ?_
  have B3 := B2.ev ev3
  refine (bi_of B3.wd).here ?_
  intro h' hns S4
  have kf3 : Kf s₁.heap.objs.size s₁.heap s₃.heap := (ev2.ka.trans ev3.ka).kf
  have h31 : s₁.heap.objs.size ≤ s₂.heap.objs.size := Nat.le_of_lt (Nat.lt_of_le_of_lt hit hit2)
  have hs1 : s.heap.objs.size ≤ s₁.heap.objs.size := Nat.le_of_lt B.lt
  have hg1 : s.gens.size ≤ s₁.gens.size := Nat.le_of_eq (by rw [hg])
  have hg3' : s₁.gens.size ≤ s₃.gens.size := by rw [hg3]; exact ev2.gens.size
  have fin0 := fun Sin => gen_final (prog := prog) (w := w) (k := 5) (N := kvs.length) (lo₁ := s₂.heap.objs.size) (gl₁ := s₃.gens.size) (tk := s₃.toks + 1 + 1 + 1) (e := s) (e₁ := s₁) (s₃ := s₃) (P₂ := ItemP prog w s.heap kvs S) (it := .ref it) (x := "k")
    (elt := gElt (retOf (bodyOf fd_items) 0)) (iter := gIter (retOf (bodyOf fd_items) 0)) (px := gPx (retOf (bodyOf fd_items) 0)) (scope := gScope (retOf (bodyOf fd_items) 0)) (pos := gPos (retOf (bodyOf fd_items) 0))
    (na := .str "<genexpr>" (s₃.toks + 1)) (nb := .str ((callEnvC fd_items L 147).qual ++ "<genexpr>") (s₃.toks + 1 + 1))
    (cenv := genEnv (gScope (retOf (bodyOf fd_items) 0)) [("self", L + 1)] s₃.heap.objs.size code 0 (callEnvC fd_items L 147))
    rfl hns S4 kf3 B3.wd hs1 hg1 (by omega) hz3 h31 (Nat.le_refl _) (Nat.le_trans X.big hs1) rfl rfl rfl ⟨_, _, _, _, rfl, rfl⟩
    (fun hi j v h h' g st => g.st st) (fun hi hi' j v h l g => g.mono l) Sin
  refine (fun fin => ⟨((ev.trans ev2).trans ev3).trans fin.1, by rw [Heap.size_push]; have := fin.2.1; omega, _, rfl, fun A' R' => by
      obtain ⟨I, i0, ig, S⟩ := fin.2.2 A' R'
      refine ⟨I, i0, ig, ?_⟩
      rw [Heap.size_push, Array.size_push]
      exact S⟩) (fin0 ?_)
  intro A' R'
  refine ⟨_, _, ⟨Nat.zero_le _, keyiter_kp hki fun o q => ev3.ka.k _ _ q (by obtain ⟨o', q', r⟩ := hki; rw [q] at q'; cases q'; unfold tabO; rw [r.1]), dictAt_k hda fun o q p => ev3.ka.k _ _ q p⟩,
    src_keys (R'.over (n := 4) ..).h hit hit2 (Nat.lt_of_lt_of_le hd h31) (Nat.ne_of_lt (Nat.lt_of_lt_of_le hd hit)), ?_⟩
  intro E' hi j v s' m hj kf X' hhi ⟨k, x, t, e1, e2⟩ hn hm
  subst e2
  have ka : Ka s₁.heap s'.heap := kf.ka (Nat.le_refl _)
  have ka0 : Ka s.heap s'.heap := ev.ka.trans ka
  have hnd : (kvs.map (·.1)).Nodup := let ⟨_, _, _, _, _, _, _, hn⟩ := hda; hn
  have hva : valueAt kvs k = some x := valueAt_nodup hnd (List.mem_of_getElem? e1)
  refine wpAny_Tuple (wpAny_items_cons (r_localN hn hm (wpAny_items_cons (Subscript_ (r_free (c := L + 1) rfl (hself.ka ka) (r_localN hn hm (v_item X' (ka.kp.k _ _ ha rfl) (ka.kp.k _ _ hdx rfl) ?_)))))))
  refine (c_getitem (n := 0) ((R'.over (n := 4) ..).in1) X' (P.kp ka0.kp) ka0.kp U hva).call fun r s₅ z => ?_
  obtain ⟨ev5, hz5, g⟩ := z
  refine wpAny_items_nil ⟨show 2 ≤ sizeLine by decide, ev5.trans ⟨.of fun b o q => Heap.get?_push_of_some _ q, rfl, .refl _⟩, by rw [Heap.size_push]; omega, k, x, t, s₅.heap.objs.size, r, e1, rfl, by omega, Heap.get?_push_size _ rfl, ?_⟩
  exact getV_st (lo := 0) (getV_mono g hhi) fun b o _ q _ => Heap.get?_push_of_some _ q
end
end Mine
end

-- VU
section
open PySem PySem.W PySem.Calls PyProof.Rows
set_option maxHeartbeats 4000000
namespace Mine
theorem nin2 {z a b : Addr} (h1 : z ≠ a) (h2 : z ≠ b) : z ∉ [a, b] := by
  intro m
  rcases List.mem_cons.mp m with q | q
  · exact h1 q
  · exact h2 (List.mem_singleton.mp q)
theorem ne_lo {N z a : Nat} (h1 : z < N) (h2 : N ≤ a) : a ≠ z := by omega
section
variable {prog : Program} {w : World} {A : Around} {E : Value → Shared → Prop} {s : Shared} {env : Env}
abbrev envI (L : Addr) : Env := callEnv fd_init L 74
/-- the values that are handed in: a list of them, or the ParseResults itself -/
def TokV (h : Heap) (a : Addr) (tv : Value) (vs : List Value) : Bool → Prop
  | false => ∃ l, tv = .ref l ∧ h.IsList l vs.toArray
  | true => tv = .ref a
theorem TokV.kp {h h' : Heap} {a : Addr} {tv : Value} {vs : List Value} {b : Bool} (x : TokV h a tv vs b) (k : Kp h h') : TokV h' a tv vs b := by
  cases b with
  | true => exact x
  | false => obtain ⟨l, e, q⟩ := x; exact ⟨l, e, isList_kp q k⟩
theorem i_list_PR (w : World) : kitOne (KV w) (.type "list") (.ref 240) = some false := by kernel_rfl
/-- what stands under the names of a dict: lists -/
def LsD (prog : Program) (w : World) (h : Heap) (td : Addr) : Prop := ∃ kvs, h.DictOf (PySem.strKind prog w) td kvs ∧ ∀ kv ∈ kvs, ∃ l xs c, kv.2 = .ref l ∧ IsL h l xs c
theorem LsD.kp {h h' : Heap} {td : Addr} (x : LsD prog w h td) (k : Kp h h') : LsD prog w h' td := by
  obtain ⟨kvs, d, f⟩ := x
  refine ⟨kvs, dictOf_kp d k, fun kv m => ?_⟩
  obtain ⟨l, xs, c, e, q⟩ := f kv m
  exact ⟨l, xs, c, e, k.k _ _ q rfl⟩
/-- the names of a ParseResults stand in a small set -/
def SmP (prog : Program) (w : World) (h : Heap) (a : Addr) : Prop := ∃ dx tl td an par nm md S n, h.get? a = some (prObj dx (.ref tl) (.ref td) par nm md (.ref an)) ∧ SetS prog w h an S n ∧ handedIn nm = true ∧ handedIn par = true ∧ (∃ xs c, IsL h tl xs c) ∧ LsD prog w h td
theorem SmP.kp {h h' : Heap} {a : Addr} (x : SmP prog w h a) (k : Kp h h') : SmP prog w h' a := by
  obtain ⟨dx, tl, td, an, par, nm, md, S, n, q, s, r1, r2, ⟨xs, c, r3⟩, r4⟩ := x
  exact ⟨dx, tl, td, an, par, nm, md, S, n, k.k _ _ q rfl, s.kp k, r1, r2, ⟨xs, c, k.k _ _ r3 rfl⟩, r4.kp k⟩
/-- a ParseResults in its own heap, its parts named -/
structure PRr (prog : Program) (w : World) (N : Nat) (h : Heap) (a dx tl td an : Addr) (md nm par : Option Value) (vs : List Value) (kvs : List (Str × Value)) (S : Str → Bool) : Prop where
  fa : h.get? a = some (pcls dx #[some (.ref an), md, nm, par, some (.ref td), some (.ref tl)])
  fx : h.get? dx = some noDict
  fl : ∃ c, IsL h tl vs.toArray c
  fd : h.DictOf (PySem.strKind prog w) td kvs
  fs : ∃ n, SetS prog w h an S n
  na : N ≤ a
  nx : N ≤ dx
  nl : N ≤ tl
  nd : N ≤ td
  ns : N ≤ an
  ne : dx ≠ td
namespace PRr
variable {N : Nat} {h h' : Heap} {a dx tl td an : Addr} {md nm par : Option Value} {vs : List Value} {kvs : List (Str × Value)} {S : Str → Bool}
theorem dict (P : PRr prog w N h a dx tl td an md nm par vs kvs S) : ∃ o, h.get? td = some o ∧ o.cls = .type "dict" := by
  obtain ⟨o, es, ep, q, he, _⟩ := P.fd; exact ⟨o, q, he.1⟩
theorem set (P : PRr prog w N h a dx tl td an md nm par vs kvs S) : ∃ o, h.get? an = some o ∧ o.cls = .type "set" := by
  obtain ⟨n, o, es, ep, t, q, he, _⟩ := P.fs; exact ⟨o, q, he.1⟩
theorem kx {D : List Addr} (P : PRr prog w N h a dx tl td an md nm par vs kvs S) (k : Kx D h h') (ha : a ∉ D) (hx : dx ∉ D) (hl : tl ∉ D) (hd : td ∉ D) (hs : an ∉ D) : PRr prog w N h' a dx tl td an md nm par vs kvs S := by
  obtain ⟨c, l⟩ := P.fl
  obtain ⟨o, es, ep, q, he, r⟩ := P.fd
  obtain ⟨n, o', es', ep', t, q', he', r'⟩ := P.fs
  exact ⟨k _ _ ha P.fa rfl, k _ _ hx P.fx rfl, ⟨c, k _ _ hl l rfl⟩, ⟨o, es, ep, k _ _ hd q (pl_tab (pl_of he.1 (by decide))), he, r⟩, ⟨n, o', es', ep', t, k _ _ hs q' (pl_tab (pl_of he'.1 (by decide))), he', r'⟩, P.na, P.nx, P.nl, P.nd, P.ns, P.ne⟩
theorem ka (P : PRr prog w N h a dx tl td an md nm par vs kvs S) (k : Kp h h') : PRr prog w N h' a dx tl td an md nm par vs kvs S := by
  obtain ⟨c, l⟩ := P.fl
  obtain ⟨n, s⟩ := P.fs
  exact ⟨k.k _ _ P.fa rfl, k.k _ _ P.fx rfl, ⟨c, k.k _ _ l rfl⟩, dictOf_kp P.fd k, ⟨n, SetS.kp s k⟩, P.na, P.nx, P.nl, P.nd, P.ns, P.ne⟩
/-- the places, apart -/
theorem ap (P : PRr prog w N h a dx tl td an md nm par vs kvs S) : dx ≠ a ∧ tl ≠ a ∧ td ≠ a ∧ an ≠ a ∧ tl ≠ td ∧ an ≠ td := by
  obtain ⟨c, l⟩ := P.fl
  obtain ⟨o, q, e⟩ := P.dict
  obtain ⟨o', q', e'⟩ := P.set
  exact ⟨ne_cls P.fa P.fx nofun, ne_cls P.fa l nofun, ne_cls P.fa q (by rw [e]; nofun), ne_cls P.fa q' (by rw [e']; nofun), ne_cls q l (by rw [e]; simp), ne_cls q q' (by rw [e, e']; simp)⟩
/-- an attribute of its own is set -/
theorem set1 {md' nm' par' : Option Value} (P : PRr prog w N h a dx tl td an md nm par vs kvs S) (S' : Heap.SameBut a h h') (g : h'.get? a = some (pcls dx #[some (.ref an), md', nm', par', some (.ref td), some (.ref tl)])) : PRr prog w N h' a dx tl td an md' nm' par' vs kvs S := by
  obtain ⟨h1, h2, h3, h4, _, _⟩ := P.ap
  obtain ⟨c, l⟩ := P.fl
  obtain ⟨o, es, ep, q, he, r⟩ := P.fd
  obtain ⟨n, o', es', ep', t, q', he', r'⟩ := P.fs
  exact ⟨g, (S'.2 _ h1).trans P.fx, ⟨c, (S'.2 _ h2).trans l⟩, ⟨o, es, ep, (S'.2 _ h3).trans q, he, r⟩, ⟨n, o', es', ep', t, (S'.2 _ h4).trans q', he', r'⟩, P.na, P.nx, P.nl, P.nd, P.ns, P.ne⟩
theorem less {N' : Nat} (P : PRr prog w N h a dx tl td an md nm par vs kvs S) (hN : N' ≤ N) : PRr prog w N' h a dx tl td an md nm par vs kvs S :=
  ⟨P.fa, P.fx, P.fl, P.fd, P.fs, Nat.le_trans hN P.na, Nat.le_trans hN P.nx, Nat.le_trans hN P.nl, Nat.le_trans hN P.nd, Nat.le_trans hN P.ns, P.ne⟩
theorem prx {md nm par : Value} (P : PRr prog w N h a dx tl td an (some md) (some nm) (some par) vs kvs S) (hN : 333 ≤ N) (hz : vs.length ≤ 64) (hz' : kvs.length ≤ 64) : PRx prog w h a vs kvs S := by
  obtain ⟨c, l⟩ := P.fl
  obtain ⟨n, s⟩ := P.fs
  exact ⟨dx, tl, td, an, _, _, _, n, P.fa, P.fx, IsL.isList l, P.fd, sys_ne hN P.nd, s.setOf, hz, hz'⟩
theorem sm {md nm par : Value} (P : PRr prog w N h a dx tl td an (some md) (some nm) (some par) vs kvs S) (hq : handedIn nm = true ∧ handedIn par = true) (hL : ∀ kv ∈ kvs, ∃ l xs c, kv.2 = .ref l ∧ IsL h l xs c) : SmP prog w h a := by
  obtain ⟨n, s⟩ := P.fs
  obtain ⟨c, l⟩ := P.fl
  exact ⟨dx, tl, td, an, _, _, _, S, n, P.fa, s, hq.1, hq.2, ⟨_, c, l⟩, kvs, P.fd, hL⟩
end PRr
theorem NewPR.prr {N : Nat} {h : Heap} {v : Value} {vs : List Value} (x : NewPR prog w N h v vs) : ∃ a dx tl td an, v = .ref a ∧ PRr prog w N h a dx tl td an (some (.bool true)) (some .none) (some .none) vs [] (fun _ => false) := by
  obtain ⟨a, dx, tl, td, an, n, e, l1, l5, l0, l2, l3, l4, ha, hx, htl, htd, han⟩ := x
  exact ⟨a, dx, tl, td, an, e, ha, hx, ⟨n, htl⟩, empty_dict htd, ⟨0, han⟩, l1, l0, l2, l3, l4, l5⟩
end
end Mine
end

-- VV
section
open PySem PySem.W PySem.Calls PyProof.Rows
set_option maxHeartbeats 4000000
namespace Mine
section
variable {prog : Program} {w : World} {A : Around} {E : Value → Shared → Prop} {s : Shared} {env : Env}
theorem nin1 {z a : Addr} (h1 : z ≠ a) : z ∉ [a] := fun m => h1 (List.mem_singleton.mp m)
/-- with aslist: the name's value is stored, and named -/
theorem init_aslist {n N : Nat} {e : Shared} {L : Addr} {m : Str → Option Value} {a dx tl td an : Addr} {nm par : Value} {md : Bool} {tv v0 : Value} {vs : List Value} {b : Bool} {k x0 : Str} {t t0 : Tok} {Q : Flow → Shared → Prop}
    (R : Rm (n + 6) A) (B : Bd w N e L m s) (h1 : m "toklist" = some tv) (h2 : m "self" = some (.ref a)) (h3 : m "name" = some (.str k t)) (h4 : m "aslist" = some (.bool true))
    (P : PRr prog w N s.heap a dx tl td an (some (.bool md)) (some nm) (some par) (v0 :: vs) [] (fun y => !md && decide (y = k))) (hv0 : v0 = .str x0 t0) (hz : vs.length ≤ 60) (V : TokV s.heap a tv (v0 :: vs) b)
    (h : ∀ s' nl o b' dxb tlb tdb anb nmb parb, Bd w N e L m s' → PRr prog w N s'.heap a dx tl td an (some (.bool md)) (some nm) (some par) (v0 :: vs) [(k, .ref nl)] (fun y => !md && decide (y = k)) → IsL s'.heap nl #[o] 0 → N ≤ nl →
      POf N w s'.heap o (.ref b') → PRr prog w N s'.heap b' dxb tlb tdb anb (some (.bool true)) (some nmb) (some parb) (if b then v0 :: vs else [v0]) [] (fun _ => false) → Q (.ret .none) s') :
    wpAny (model prog w) (A.deeper (envI L)) (execs ((bodyOf fd_init).drop 7) (envI L)) Q (fun _ _ => False) s := by
  refine wpAny_execs_cons (wpAny_If (isTrue_plain (r_local B.fm h4 (wpAny_truthy_bool ?_))))
  have go : ∀ (Qr : Flow → Shared → Prop), (∀ s', Q (.ret .none) s' → Qr (.ret .none) s') → ∀ s₂ o, Bd w N e L m s₂ → PRr prog w N s₂.heap a dx tl td an (some (.bool md)) (some nm) (some par) (v0 :: vs) [] (fun y => !md && decide (y = k)) →
      (∃ b' dxb tlb tdb anb M, N ≤ M ∧ b' < M ∧ td < M ∧ a < b' ∧ td < dxb ∧ td < tdb ∧ POf M w s₂.heap o (.ref b') ∧ PRr prog w N s₂.heap b' dxb tlb tdb anb (some (.bool true)) (some .none) (some .none) (if b then v0 :: vs else [v0]) [] (fun _ => false)) →
      wpAny (model prog w) (A.deeper (envI L)) (setItem (.ref a) (.str k t) o) (fun _ s₃ => wpAny (model prog w) (A.deeper (envI L)) (execs ((ifBody ((bodyOf fd_init).drop 7)).drop 1) (envI L)) Qr (fun _ _ => False) s₃) (fun _ _ => False) s₂ := by
    intro Qr hQr s₂ o B P ⟨b', dxb, tlb, tdb, anb, M, hM, hbM, htM, lb, lx, ld, hpo, Pb⟩
    refine v_setItem B.wd P.fa P.fx ?_
    have hsd : ∀ c dxc slc, Value.ref b' = .ref c → s₂.heap.get? c = some (pcls dxc slc) → dxc ≠ td := fun c dxc slc q g => by
      cases q
      rw [Pb.fa] at g
      cases g
      exact Nat.ne_of_gt lx
    refine (c_setitem_po (os := []) (D := [b']) ((R.deep _).less (k := n + 3) (by omega)) B.wd B.big (Nat.le_of_lt B.lt) P.fa P.fx rfl P.nd P.fd (sys_ne B.big P.nd) (by decide) ⟨by decide, .inl ⟨rfl, rfl⟩⟩ (hpo.poe htM) (.pr b' dxb _ Pb.na Pb.fa Pb.fx) hsd).call fun r s₃ z => ?_
    obtain ⟨rfl, ef, kx, ⟨nl, hnl, hd', hl'⟩, hp⟩ := z
    obtain ⟨otd, qtd, ctd⟩ := P.dict
    obtain ⟨p1, p2, p3, p4, p5, p6⟩ := P.ap
    obtain ⟨r1, r2, r3, r4, r5, r6⟩ := Pb.ap
    have nb : ∀ z o', s₂.heap.get? z = some o' → o'.cls ≠ .ref 240 → z ≠ b' := fun z o' q c => ne_cls Pb.fa q c
    have P3 : PRr prog w N s₃.heap a dx tl td an (some (.bool md)) (some nm) (some par) (v0 :: vs) [(k, .ref nl)] (fun y => !md && decide (y = k)) := by
      obtain ⟨c, l⟩ := P.fl
      obtain ⟨n', o', es', ep', t', q', he', r'⟩ := P.fs
      exact ⟨kx _ _ (nin2 (Ne.symm p3) (Nat.ne_of_lt lb)) P.fa rfl, kx _ _ (nin2 P.ne (nb _ _ P.fx nofun)) P.fx rfl, ⟨c, kx _ _ (nin2 p5 (nb _ _ l nofun)) l rfl⟩, hd',
        ⟨n', o', es', ep', t', kx _ _ (nin2 p6 (nb _ _ q' (by rw [he'.1]; nofun))) q' (pl_tab (pl_of he'.1 (by decide))), he', r'⟩, P.na, P.nx, P.nl, P.nd, P.ns, P.ne⟩
    have Pb3 : PRr prog w N s₃.heap b' dxb tlb tdb anb (some (.bool true)) (some .none) (some (.ref a)) (if b then v0 :: vs else [v0]) [] (fun _ => false) := by
      obtain ⟨c, l⟩ := Pb.fl
      obtain ⟨o₁, es, ep, q, he, r⟩ := Pb.fd
      obtain ⟨n', o', es', ep', t', q', he', r'⟩ := Pb.fs
      exact ⟨hp b' dxb _ rfl Pb.fa, kx _ _ (nin2 (Nat.ne_of_gt lx) r1) Pb.fx rfl, ⟨c, kx _ _ (nin2 (ne_cls qtd l (by rw [ctd]; simp)) r2) l rfl⟩, ⟨o₁, es, ep, kx _ _ (nin2 (Nat.ne_of_gt ld) r3) q (pl_tab (pl_of he.1 (by decide))), he, r⟩,
        ⟨n', o', es', ep', t', kx _ _ (nin2 (ne_cls qtd q' (by rw [he'.1, ctd]; simp)) r4) q' (pl_tab (pl_of he'.1 (by decide))), he', r'⟩, Pb.na, Pb.nx, Pb.nl, Pb.nd, Pb.ns, Pb.ne⟩
    have po3 : POf M w s₃.heap o (.ref b') := hpo.kx kx (fun z m => by rcases List.mem_cons.mp m with q | q; · exact q ▸ htM
                                                                       · exact List.mem_singleton.mp q ▸ hbM)
    have po3' : POf N w s₃.heap o (.ref b') := by
      obtain ⟨a', d', t', i', tk', n', e', l1, l2, l3, g⟩ := po3
      exact ⟨a', d', t', i', tk', n', e', Nat.le_trans hM l1, Nat.le_trans hM l2, Nat.le_trans hM l3, g⟩
    have hnl' : N ≤ nl := Nat.le_trans (Nat.le_of_lt B.lt) hnl
    replace B := B.kx ef kx (nin2 (B.ne qtd (by rw [ctd]; simp)) (B.ne Pb.fa nofun))
    clear P Pb hpo qtd hp kx hd'
    refine wpAny_execs_cons (plainObj_wpAny_Assign_Attribute (r_local B.fm h3 (Subscript_ (r_local B.fm h2 (r_local B.fm h3 ?_)))))
    refine v_item B.wd P3.fa P3.fx ?_
    have hva : valueAt [(k, Value.ref nl)] k = some (.ref nl) := by simp [valueAt]
    have PX := P3.prx B.big (by rw [List.length_cons]; omega) (show 1 ≤ 64 by decide)
    cases md with
    | true =>
      refine (c_getitem_str (A := (A.deeper (envI L)).in1) (os := []) (o := o) ((R.deep _).in1.less (k := n + 3) (by omega)) B.wd PX rfl hva (IsL.isList hl') (by decide) po3'.pox).call fun r s₄ z => ?_
      obtain ⟨rfl, ev, _⟩ := z
      replace B := B.ev ev
      refine b_set B Pb3.na (Pb3.ka ev.kp).fa (Pb3.ka ev.kp).fx (u_nm w) (y_nm w) (s_nm w) (by decide) (sl' := #[some (.ref anb), some (.bool true), some (.str k t), some (.ref a), some (.ref tdb), some (.ref tlb)]) rfl fun h₅ B g _ S => ?_
      have Pb5 := (Pb3.ka ev.kp).set1 S g
      have P5 := (P3.ka ev.kp).kx (D := [b']) (Kx.at_ S (by simp)) (nin1 (Nat.ne_of_lt lb)) (nin1 (ne_cls (Pb3.ka ev.kp).fa (P3.ka ev.kp).fx nofun)) (nin1 (by obtain ⟨c, l⟩ := (P3.ka ev.kp).fl; exact ne_cls (Pb3.ka ev.kp).fa l nofun))
        (nin1 (by obtain ⟨o', q, c⟩ := (P3.ka ev.kp).dict; exact ne_cls (Pb3.ka ev.kp).fa q (by rw [c]; nofun))) (nin1 (by obtain ⟨o', q, c⟩ := (P3.ka ev.kp).set; exact ne_cls (Pb3.ka ev.kp).fa q (by rw [c]; nofun)))
      refine wpAny_execs_cons (wpAny_Return_none (hQr _ <| h _ nl o b' dxb tlb tdb anb _ _ B P5 (stays S (Pb3.ka ev.kp).fa (ev.kp.k _ _ hl' rfl) nofun) hnl' ?_ Pb5))
      obtain ⟨a', d', t', i', tk', n', e', l1, l2, l3, g1, g2, g3⟩ := po3'
      exact ⟨a', d', t', i', tk', n', e', l1, l2, l3, stays S (Pb3.ka ev.kp).fa (ev.kp.k _ _ g1 rfl) (by simp), stays S (Pb3.ka ev.kp).fa (ev.kp.k _ _ g2 rfl) nofun, stays S (Pb3.ka ev.kp).fa (ev.kp.k _ _ g3 rfl) nofun⟩
    | false =>
      refine (c_getitem_star (A := (A.deeper (envI L)).in1) (os := [o]) (xs := [.ref b']) ((R.deep _).in1.less (k := n + 3) (by omega)) B.wd PX (by simp) hva (IsL.isList hl') (show 1 ≤ 64 by decide) (.cons po3'.pox .nil)).call fun r s₄ z => ?_
      obtain ⟨ev, _, z⟩ := z
      obtain ⟨c, dxc, tlc, tdc, anc, rfl, Pc⟩ := NewPR.prr z
      have lc : s₃.heap.objs.size ≤ c := Pc.na
      have lt3 : ∀ z o', s₃.heap.get? z = some o' → z ≠ c := fun z o' q => Nat.ne_of_lt (Nat.lt_of_lt_of_le (Heap.lt_size q) lc)
      have hNs : N ≤ s₃.heap.objs.size := Nat.le_of_lt B.lt
      replace B := B.ev ev
      refine b_set B (Nat.le_trans hNs lc) Pc.fa Pc.fx (u_nm w) (y_nm w) (s_nm w) (by decide) (sl' := #[some (.ref anc), some (.bool true), some (.str k t), some .none, some (.ref tdc), some (.ref tlc)]) rfl fun h₅ B g _ S => ?_
      have st : ∀ z o', s₃.heap.get? z = some o' → tabO o' = false → h₅.get? z = some o' := fun z o' q p => (S.2 _ (lt3 z o' q)).trans (ev.ka.k _ _ q p)
      have kx3 : Kx [] s₃.heap h₅ := fun z o' _ q p => st z o' q p
      have P5 := P3.kx (D := []) kx3 nofun nofun nofun nofun nofun
      have Pb5 := Pb3.kx (D := []) kx3 nofun nofun nofun nofun nofun
      refine wpAny_execs_cons (wpAny_Return_none (hQr _ <| h _ nl o b' dxb tlb tdb anb _ _ B P5 (st _ _ hl' rfl) hnl' (po3'.kx kx3 nofun) Pb5))
  cases b with
  | true =>
    cases V
    refine wpAny_execs_cons (wpAny_If (isTrue_plain (Call_ (r_builtin B.wd (n_isi3 w) (n_isi0 w) (PyProof.Rows.callWith_builtin1 (wpAny_items_cons (r_local B.fm h1 (wpAny_items_cons (r_global B.wd (n_PR w) (wpAny_items_nil ?_))))))))))
    refine isi_call B.wd (pr_type P.fa) (i_PR w) nofun (wpAny_truthy_bool ?_)
    refine wpAny_execs_cons (wpAny_Assign_Subscript (Call_ (r_global B.wd (n_PO w) (callWith_K (h₀ := s.heap) B.wd (k_PO w) (wpAny_items_cons (Call_ (r_global B.wd (n_PR w) (callWith_K (h₀ := s.heap) B.wd (k_PR w) (wpAny_items_cons (Attribute_Name_ (r_local B.fm h1 (pr_get B.wd P.fa P.fx (c_tl w) (s_tl w) rfl rfl (wpAny_items_nil ⟨B.wd, ?_⟩)))))))))))))
    replace B := B.tok (s.toks + 1)
    obtain ⟨c, hl⟩ := P.fl
    refine (c_plain ((R.deep _).less (k := n + 2) (by omega)) B.wd (.inr (.inr ⟨tl, _, c, rfl, hl, rfl, rfl, by rw [List.length_cons]; omega⟩))).call fun v s₂ z => ?_
    obtain ⟨ev, z⟩ := z
    have z : NewPR prog w s.heap.objs.size s₂.heap v (v0 :: vs) := z
    obtain ⟨b', dxb, tlb, tdb, anb, rfl, Pb⟩ := NewPR.prr z
    have hNs : N ≤ s.heap.objs.size := Nat.le_of_lt B.lt
    have las : a < s.heap.objs.size := Heap.lt_size P.fa
    have lts : td < s.heap.objs.size := by obtain ⟨o', q, _⟩ := P.dict; exact Heap.lt_size q
    replace B := B.ev ev
    replace P := P.ka ev.kp
    refine wpAny_items_cons (wpAny_Constant_int (wpAny_items_nil ⟨B.wd, ?_⟩))
    refine (c_po_make ((R.deep _).less (k := n + 2) (by omega)) (B.tok (s₂.toks + 1)).wd).call fun o s₃ z => ?_
    obtain ⟨ev3, po⟩ := z
    replace B := (B.tok (s₂.toks + 1)).ev ev3
    have lbs : b' < s₂.heap.objs.size := Heap.lt_size Pb.fa
    have l2 : N ≤ s₂.heap.objs.size := Nat.le_of_lt (Nat.lt_of_le_of_lt (Nat.le_trans hNs Pb.na) lbs)
    refine r_local B.fm h2 (r_local B.fm h3 (wpAny_mono (go (fun f s' => match f with | .next => wpAny (model prog w) (A.deeper (envI L)) (execs ((bodyOf fd_init).drop 8) (envI L)) Q (fun _ _ => False) s' | f => Q f s') (fun _ z => z) s₃ o B (P.ka ev3.kp) ⟨b', dxb, tlb, tdb, anb, s₂.heap.objs.size, l2, lbs, Nat.lt_trans (Nat.lt_of_lt_of_le lts Pb.na) lbs, Nat.lt_of_lt_of_le las Pb.na, Nat.lt_of_lt_of_le lts Pb.nx, Nat.lt_of_lt_of_le lts Pb.nd, po, (Pb.less hNs).ka ev3.kp⟩) (fun _ _ z => wpAny_execs_nil z) fun _ _ z => z))
  | false =>
    obtain ⟨l, rfl, hl⟩ := V
    have hlo : ∃ o, s.heap.get? l = some o ∧ o.cls = .type "list" := by obtain ⟨o, q, c, _⟩ := hl; exact ⟨o, q, c⟩
    refine wpAny_execs_cons (wpAny_If (isTrue_plain (Call_ (r_builtin B.wd (n_isi3 w) (n_isi0 w) (PyProof.Rows.callWith_builtin1 (wpAny_items_cons (r_local B.fm h1 (wpAny_items_cons (r_global B.wd (n_PR w) (wpAny_items_nil ?_))))))))))
    refine kia_one kitx_list B.wd hlo (i_list_PR w) nofun fun t₂ => wpAny_truthy_bool ?_
    replace B := B.tok t₂
    subst hv0
    refine wpAny_execs_cons (wpAny_Assign_Subscript (Call_ (r_global B.wd (n_PO w) (callWith_K (h₀ := s.heap) B.wd (k_PO w) (wpAny_items_cons (Call_ (r_global B.wd (n_PR w) (callWith_K (h₀ := s.heap) B.wd (k_PR w) (wpAny_items_cons (Subscript_ (r_local B.fm h1 (wpAny_Constant_int ?_))))))))))))
    refine tail_any hl.typeIs list_getitem_lookup (wpAny_getItem_list hl (by decide) (by decide) rfl ?_) (by with_unfolding_all rfl)
    replace B := B.tok (t₂ + 1)
    refine wpAny_items_nil ⟨B.wd, ?_⟩
    refine (c_plain ((R.deep _).less (k := n + 2) (by omega)) B.wd (.inr (.inl ⟨x0, t0, rfl, rfl⟩))).call fun v s₂ z => ?_
    obtain ⟨ev, z⟩ := z
    have z : NewPR prog w s.heap.objs.size s₂.heap v [.str x0 t0] := z
    obtain ⟨b', dxb, tlb, tdb, anb, rfl, Pb⟩ := NewPR.prr z
    have hNs : N ≤ s.heap.objs.size := Nat.le_of_lt B.lt
    have las : a < s.heap.objs.size := Heap.lt_size P.fa
    have lts : td < s.heap.objs.size := by obtain ⟨o', q, _⟩ := P.dict; exact Heap.lt_size q
    replace B := B.ev ev
    replace P := P.ka ev.kp
    refine wpAny_items_cons (wpAny_Constant_int (wpAny_items_nil ⟨B.wd, ?_⟩))
    refine (c_po_make ((R.deep _).less (k := n + 2) (by omega)) (B.tok (s₂.toks + 1)).wd).call fun o s₃ z => ?_
    obtain ⟨ev3, po⟩ := z
    replace B := (B.tok (s₂.toks + 1)).ev ev3
    have lbs : b' < s₂.heap.objs.size := Heap.lt_size Pb.fa
    have l2 : N ≤ s₂.heap.objs.size := Nat.le_of_lt (Nat.lt_of_le_of_lt (Nat.le_trans hNs Pb.na) lbs)
    refine r_local B.fm h2 (r_local B.fm h3 (wpAny_mono (go (fun f s' => match f with | .next => wpAny (model prog w) (A.deeper (envI L)) (execs ((bodyOf fd_init).drop 8) (envI L)) Q (fun _ _ => False) s' | f => Q f s') (fun _ z => z) s₃ o B (P.ka ev3.kp) ⟨b', dxb, tlb, tdb, anb, s₂.heap.objs.size, l2, lbs, Nat.lt_trans (Nat.lt_of_lt_of_le lts Pb.na) lbs, Nat.lt_of_lt_of_le las Pb.na, Nat.lt_of_lt_of_le lts Pb.nx, Nat.lt_of_lt_of_le lts Pb.nd, po, (Pb.less hNs).ka ev3.kp⟩) (fun _ _ z => wpAny_execs_nil z) fun _ _ z => z))
end
end Mine
end

-- VW
section
open PySem PySem.W PySem.Calls PyProof.Rows
set_option maxHeartbeats 4000000
namespace Mine
section
variable {prog : Program} {w : World} {A : Around} {E : Value → Shared → Prop} {s : Shared} {env : Env}
/-- without aslist: the first token is stored under the name -/
theorem init_one {n N : Nat} {e : Shared} {L : Addr} {m : Str → Option Value} {a dx tl td an : Addr} {nm par : Value} {md : Bool} {tv v0 : Value} {vs : List Value} {b : Bool} {k x0 : Str} {t t0 : Tok} {Q : Flow → Shared → Prop}
    (R : Rm (n + 6) A) (B : Bd w N e L m s) (h1 : m "toklist" = some tv) (h2 : m "self" = some (.ref a)) (h3 : m "name" = some (.str k t)) (h4 : m "aslist" = some (.bool false))
    (P : PRr prog w N s.heap a dx tl td an (some (.bool md)) (some nm) (some par) (v0 :: vs) [] (fun y => !md && decide (y = k))) (hv0 : v0 = .str x0 t0) (hz : vs.length ≤ 60) (V : TokV s.heap a tv (v0 :: vs) b)
    (h : ∀ s' nl o, Bd w N e L m s' → PRr prog w N s'.heap a dx tl td an (some (.bool md)) (some nm) (some par) (v0 :: vs) [(k, .ref nl)] (fun y => !md && decide (y = k)) → IsL s'.heap nl #[o] 0 → N ≤ nl → POf N w s'.heap o v0 → Q .next s') :
    wpAny (model prog w) (A.deeper (envI L)) (execs ((bodyOf fd_init).drop 7) (envI L)) Q (fun _ _ => False) s := by
  subst hv0
  refine wpAny_execs_cons (wpAny_If (isTrue_plain (r_local B.fm h4 (wpAny_truthy_bool ?_))))
  refine wpAny_execs_nil (env := envI L) (wpAny_execs_cons (wpAny_Try_except (wpAny_execs_cons (wpAny_Assign_Subscript (Subscript_ (r_local B.fm h1 (wpAny_Constant_int ?_)))))))
  replace B := B.tok (s.toks + 1)
  have go : ∀ s₂ (Q' : Unit → Shared → Prop) E', Bd w N e L m s₂ → PRr prog w N s₂.heap a dx tl td an (some (.bool md)) (some nm) (some par) (.str x0 t0 :: vs) [] (fun y => !md && decide (y = k)) →
      (∀ s', Q .next s' → Q' () s') → wpAny (model prog w) (A.deeper (envI L)) (setItem (.ref a) (.str k t) (.str x0 t0)) Q' E' s₂ := by
    intro s₂ Q' E' B P hQ'
    refine v_setItem B.wd P.fa P.fx ?_
    refine (c_setitem_str (os := []) ((R.deep _).less (k := n + 3) (by omega)) B.wd B.big (Nat.le_of_lt B.lt) P.fa P.fx rfl P.nd P.fd (sys_ne B.big P.nd) (by decide) ⟨by decide, .inl ⟨rfl, rfl⟩⟩).call fun r s₃ z => ?_
    obtain ⟨rfl, ef, kx, nl, o, hnl, hd', hl', po⟩ := z
    obtain ⟨otd, qtd, ctd⟩ := P.dict
    obtain ⟨p1, p2, p3, p4, p5, p6⟩ := P.ap
    have hNs : N ≤ s₂.heap.objs.size := Nat.le_of_lt B.lt
    have P3 : PRr prog w N s₃.heap a dx tl td an (some (.bool md)) (some nm) (some par) (.str x0 t0 :: vs) [(k, .ref nl)] (fun y => !md && decide (y = k)) := by
      obtain ⟨c, l⟩ := P.fl
      obtain ⟨n', o', es', ep', t', q', he', r'⟩ := P.fs
      exact ⟨kx _ _ (nin1 (Ne.symm p3)) P.fa rfl, kx _ _ (nin1 P.ne) P.fx rfl, ⟨c, kx _ _ (nin1 p5) l rfl⟩, hd', ⟨n', o', es', ep', t', kx _ _ (nin1 p6) q' (pl_tab (pl_of he'.1 (by decide))), he', r'⟩, P.na, P.nx, P.nl, P.nd, P.ns, P.ne⟩
    obtain ⟨a', d', t', i', tk', n', e', l1, l2, l3, g⟩ := po
    exact hQ' _ (h _ nl o (B.kx ef kx (nin1 (B.ne qtd (by rw [ctd]; simp)))) P3 hl' (Nat.le_trans hNs hnl) ⟨a', d', t', i', tk', n', e', Nat.le_trans hNs l1, Nat.le_trans hNs l2, Nat.le_trans hNs l3, g⟩)
  cases b with
  | true =>
    cases V
    refine v_item B.wd P.fa P.fx ?_
    refine (c_getitem_int (j := 0) (A := (A.deeper (envI L)).in1) ((R.deep _).in1.less (k := n + 1) (by omega)) B.wd (P.prx B.big (by rw [List.length_cons]; omega) (by decide)) rfl).call fun r s₂ z => ?_
    obtain ⟨rfl, ev⟩ := z
    replace B := B.ev ev
    exact r_local B.fm h2 (r_local B.fm h3 (go _ _ _ B (P.ka ev.kp) fun s' z => wpAny_execs_nil (wpAny_execs_nil (wpAny_execs_nil z))))
  | false =>
    obtain ⟨l, rfl, hl⟩ := V
    refine tail_any hl.typeIs list_getitem_lookup (wpAny_getItem_list hl (by decide) (by decide) rfl ?_) (by with_unfolding_all rfl)
    exact r_local B.fm h2 (r_local B.fm h3 (go _ _ _ B P fun s' z => wpAny_execs_nil (wpAny_execs_nil (wpAny_execs_nil z))))
end
end Mine
end

-- VX
section
open PySem PySem.W PySem.Calls PyProof.Rows
set_option maxHeartbeats 4000000
namespace Mine
theorem n_tuple3 (w : World) : nsIn (KV w) 3 "tuple" = some none := by kernel_rfl
theorem n_tuple0 (w : World) : nsIn (KV w) 0 "tuple" = some (some (.type "tuple")) := by kernel_rfl
theorem n_str3 (w : World) : nsIn (KV w) 3 "str" = some none := by kernel_rfl
theorem n_str0 (w : World) : nsIn (KV w) 0 "str" = some (some (.type "str")) := by kernel_rfl
theorem n_strty (w : World) : nsIn (KV w) 3 "str_type" = some (some (.ref 22)) := by kernel_rfl
theorem d_22 (w : World) : (KV w).lookup 22 = some ⟨.type "tuple", none, .seq #[.type "str", .type "bytes"] 0, #[]⟩ := by kernel_rfl
theorem ilt_str (w : World) : kitAny (KV w) (.type "str") [.type "list", .type "tuple"] = some false := by kernel_rfl
theorem ilt_list (w : World) : kitAny (KV w) (.type "list") [.type "list", .type "tuple"] = some true := by kernel_rfl
theorem ilt_pr (w : World) : kitAny (KV w) (.ref 240) [.type "list", .type "tuple"] = some false := by kernel_rfl
theorem isb_str (w : World) : kitAny (KV w) (.type "str") [.type "str", .type "bytes"] = some true := by kernel_rfl
theorem isb_list (w : World) : kitAny (KV w) (.type "list") [.type "str", .type "bytes"] = some false := by kernel_rfl
theorem isb_pr (w : World) : kitAny (KV w) (.ref 240) [.type "str", .type "bytes"] = some false := by kernel_rfl
theorem ii_str (w : World) : kitOne (KV w) (.type "str") (.type "int") = some false := by kernel_rfl
theorem ii_int (w : World) : kitOne (KV w) (.type "int") (.type "int") = some true := by kernel_rfl
theorem code_init (w : World) : kdsCode (KV w) (.ref 73) = true := by kernel_rfl
/-- what is handed in: nothing, a text, a list, or the ParseResults itself -/
inductive InArg (h : Heap) (a : Addr) : Value → List Value → Bool → Prop
  | none : InArg h a .none [] false
  | str (x : Str) (t : Tok) : InArg h a (.str x t) [.str x t] false
  | list (l : Addr) (vs : List Value) : h.IsList l vs.toArray → InArg h a (.ref l) vs false
  | self (vs : List Value) : vs ≠ [] → InArg h a (.ref a) vs true
theorem InArg.kp {h h' : Heap} {a : Addr} {tv : Value} {vs : List Value} {b : Bool} (x : InArg h a tv vs b) (k : Kp h h') : InArg h' a tv vs b := by
  cases x with
  | none => exact .none
  | str x t => exact .str x t
  | list l vs q => exact .list l vs (isList_kp q k)
  | self vs q => exact .self vs q
/-- how a ParseResults stands after its __init__ with a name -/
def Inited (prog : Program) (w : World) (N : Nat) (h : Heap) (a dx tl td an : Addr) (md al b : Bool) (k : Str) (vs : List Value) : Prop :=
  ∃ nm par kvs, (handedIn nm = true ∧ handedIn par = true) ∧ PRr prog w N h a dx tl td an (some (.bool md)) (some nm) (some par) vs kvs (fun y => !md && decide (y = k)) ∧
    match vs with
    | [] => kvs = []
    | v0 :: _ => ∃ nl o, kvs = [(k, .ref nl)] ∧ N ≤ nl ∧ IsL h nl #[o] 0 ∧
      if al then ∃ b' dxb tlb tdb anb nmb parb, POf N w h o (.ref b') ∧ PRr prog w N h b' dxb tlb tdb anb (some (.bool true)) (some nmb) (some parb) (if b then vs else [v0]) [] (fun _ => false)
      else POf N w h o v0
section
variable {prog : Program} {w : World} {A : Around} {E : Value → Shared → Prop} {s : Shared} {env : Env}
/-- from the seventh statement on -/
theorem init_7 {n N : Nat} {e : Shared} {L : Addr} {m : Str → Option Value} {a dx tl td an : Addr} {nm par : Value} {md al : Bool} {tv : Value} {vs : List Value} {b : Bool} {k : Str} {t : Tok} {Q : Value → Shared → Prop}
    (R : Rm (n + 6) A) (hq : handedIn nm = true ∧ handedIn par = true) (B : Bd w N e L m s) (h1 : m "toklist" = some tv) (h2 : m "self" = some (.ref a)) (h3 : m "name" = some (.str k t)) (h4 : m "aslist" = some (.bool al))
    (P : PRr prog w N s.heap a dx tl td an (some (.bool md)) (some nm) (some par) vs [] (fun y => !md && decide (y = k))) (hvs : ∀ v ∈ vs, ∃ x t, v = .str x t) (hne : vs ≠ []) (hz : vs.length ≤ 60) (V : TokV s.heap a tv vs b)
    (h : ∀ s', Ef N e s' → Inited prog w N s'.heap a dx tl td an md al b k vs → Q .none s') :
    wpAny (model prog w) (A.deeper (envI L)) (execs ((bodyOf fd_init).drop 7) (envI L)) (fun f s' => Q (match f with | .ret v => v | _ => .none) s') (fun _ _ => False) s := by
  cases vs with
  | nil => exact (hne rfl).elim
  | cons v0 vs =>
    obtain ⟨x0, t0, hv0⟩ := hvs v0 List.mem_cons_self
    have hz' : vs.length ≤ 60 := by rw [List.length_cons] at hz; omega
    cases al with
    | true =>
      refine init_aslist R B h1 h2 h3 h4 P hv0 hz' V fun s' nl o b' dxb tlb tdb anb nmb parb B P hl hnl po Pb => h _ B.out ⟨nm, par, _, hq, P, nl, o, rfl, hnl, hl, ?_⟩
      exact ⟨b', dxb, tlb, tdb, anb, nmb, parb, po, Pb⟩
    | false =>
      exact init_one R B h1 h2 h3 h4 P hv0 hz' V fun s' nl o B P hl hnl po => h _ B.out ⟨nm, par, _, hq, P, nl, o, rfl, hnl, hl, po⟩
/-- from the sixth statement on -/
theorem init_5 {n N : Nat} {e : Shared} {L : Addr} {m : Str → Option Value} {a dx tl td an : Addr} {nm par : Value} {md al : Bool} {tv : Value} {vs : List Value} {b : Bool} {k : Str} {t : Tok} {Q : Value → Shared → Prop}
    (R : Rm (n + 6) A) (hq : handedIn nm = true ∧ handedIn par = true) (B : Bd w N e L m s) (h1 : m "toklist" = some tv) (h2 : m "self" = some (.ref a)) (h3 : m "name" = some (.str k t)) (h4 : m "aslist" = some (.bool al))
    (P : PRr prog w N s.heap a dx tl td an (some (.bool md)) (some nm) (some par) vs [] (fun y => !md && decide (y = k))) (hvs : ∀ v ∈ vs, ∃ x t, v = .str x t) (hz : vs.length ≤ 60) (V : InArg s.heap a tv vs b)
    (h : ∀ s', Ef N e s' → Inited prog w N s'.heap a dx tl td an md al b k vs → Q .none s') :
    wpAny (model prog w) (A.deeper (envI L)) (execs ((bodyOf fd_init).drop 5) (envI L)) (fun f s' => Q (match f with | .ret v => v | _ => .none) s') (fun _ _ => False) s := by
  obtain ⟨hh, gg, dd, tt, oo⟩ := s
  refine wpAny_execs_cons (wpAny_If (isTrue_or (wpAny_isTrue_Compare1 (r_local B.fm h1 (wpAny_Constant_none ?_)))))
  cases V with
  | none =>
    refine is_none_none (wpAny_truthy_bool ?_)
    exact wpAny_execs_cons (wpAny_Return_none (h _ B.out ⟨nm, par, [], hq, P, rfl⟩))
  | str x tx =>
    refine is_str_none (wpAny_truthy_bool (isTrue_or (isTrue_and (isTrue_plain ?_))))
    refine Call_ (r_builtin B.wd (n_isi3 w) (n_isi0 w) (PyProof.Rows.callWith_builtin1 (wpAny_items_cons (r_local B.fm h1 (wpAny_items_cons (wpAny_Tuple ?_))))))
    refine wpAny_items_cons (r_builtin B.wd (n_list3 w) (n_list0 w) (wpAny_items_cons (r_builtin B.wd (n_tuple3 w) (n_tuple0 w) (wpAny_items_nil ⟨show 2 ≤ sizeLine by decide, wpAny_items_nil ?_⟩))))
    have kt : Kp hh (hh.push { cls := .type "tuple", data := .seq #[.type "list", .type "tuple"] }) := .push _ _
    replace P := P.ka kt
    have ltp := Nat.le_of_lt B.lt
    replace B := B.push { cls := .type "tuple", data := .seq #[.type "list", .type "tuple"] } (tt)
    have qtp := Heap.get?_push_size hh (show ({ cls := .type "tuple", data := .seq #[.type "list", .type "tuple"] } : Obj).isFreed = false from rfl)
    dsimp only at *
    generalize hh.objs.size = tp at *
    generalize hh.push { cls := .type "tuple", data := .seq #[.type "list", .type "tuple"] } = h₁ at *
    clear kt
    refine kia_tup kitx_str B.wd trivial qtp (ilt_str w) nofun fun t₂ => wpAny_truthy_bool (isTrue_or_nil (wpAny_execs_nil (env := envI L) ?_))
    replace B := B.tok t₂
    refine wpAny_execs_cons (wpAny_If (isTrue_plain (Call_ (r_builtin B.wd (n_isi3 w) (n_isi0 w) (PyProof.Rows.callWith_builtin1 (wpAny_items_cons (r_local B.fm h1 (wpAny_items_cons (r_global B.wd (n_strty w) (wpAny_items_nil ?_))))))))))
    refine kia_tup kitx_str B.wd trivial (B.wd _ _ (d_22 w)) (isb_str w) nofun fun t₃ => wpAny_truthy_bool ?_
    replace B := B.tok t₃
    refine wpAny_execs_cons (wpAny_Assign_Name (wpAny_List (wpAny_items_cons (r_local B.fm h1 (wpAny_items_nil ⟨show 1 ≤ sizeLine by decide, ?_⟩)))))
    have kt : Kp h₁ (h₁.push { cls := .type "list", data := .seq #[.str x tx] }) := .push _ _
    replace P := P.ka kt
    have ltn := Nat.le_of_lt B.lt
    replace B := B.push { cls := .type "list", data := .seq #[.str x tx] } (t₃)
    have qtn := Heap.get?_push_size h₁ (show ({ cls := .type "list", data := .seq #[.str x tx] } : Obj).isFreed = false from rfl)
    dsimp only at *
    generalize h₁.objs.size = tn at *
    generalize h₁.push { cls := .type "list", data := .seq #[.str x tx] } = h₂ at *
    clear kt
    refine b_store B fun h₃ B K S => ?_
    refine wpAny_execs_nil (env := envI L) (init_7 (b := false) R hq B (if_pos rfl) ((if_neg (by decide)).trans h2) ((if_neg (by decide)).trans h3) ((if_neg (by decide)).trans h4) (P.ka K) hvs (by simp) hz ?_ h)
    exact ⟨tn, rfl, IsL.isList (n := 0) (K.k _ _ qtn rfl)⟩
  | list l vs hl =>
    have hlo : ∃ o, hh.get? l = some o ∧ o.cls = .type "list" := by obtain ⟨o, q, c, _⟩ := hl; exact ⟨o, q, c⟩
    refine is_ref_none (wpAny_truthy_bool (isTrue_or (isTrue_and (isTrue_plain ?_))))
    have hl' : (hh.push { cls := .type "tuple", data := .seq #[.type "list", .type "tuple"] }).IsList l vs.toArray := hl.push _
    refine Call_ (r_builtin B.wd (n_isi3 w) (n_isi0 w) (PyProof.Rows.callWith_builtin1 (wpAny_items_cons (r_local B.fm h1 (wpAny_items_cons (wpAny_Tuple ?_))))))
    refine wpAny_items_cons (r_builtin B.wd (n_list3 w) (n_list0 w) (wpAny_items_cons (r_builtin B.wd (n_tuple3 w) (n_tuple0 w) (wpAny_items_nil ⟨show 2 ≤ sizeLine by decide, wpAny_items_nil ?_⟩))))
    have kt : Kp hh (hh.push { cls := .type "tuple", data := .seq #[.type "list", .type "tuple"] }) := .push _ _
    replace P := P.ka kt
    have ltp := Nat.le_of_lt B.lt
    replace B := B.push { cls := .type "tuple", data := .seq #[.type "list", .type "tuple"] } (tt)
    have qtp := Heap.get?_push_size hh (show ({ cls := .type "tuple", data := .seq #[.type "list", .type "tuple"] } : Obj).isFreed = false from rfl)
    dsimp only at *
    generalize hh.objs.size = tp at *
    generalize hh.push { cls := .type "tuple", data := .seq #[.type "list", .type "tuple"] } = h₁ at *
    clear kt
    have hlo : ∃ o, h₁.get? l = some o ∧ o.cls = .type "list" := by obtain ⟨o, q, c, _⟩ := hl'; exact ⟨o, q, c⟩
    refine kia_tup kitx_list B.wd hlo qtp (ilt_list w) nofun fun t₂ => wpAny_truthy_bool (isTrue_and ?_)
    replace B := B.tok t₂
    refine wpAny_isTrue_Compare1 (Call_ (r_builtin B.wd (n_len3 w) (n_len0 w) (PyProof.Rows.callWith_builtin1 (wpAny_items_cons (r_local B.fm h1 (wpAny_items_nil ?_))))))
    refine call_len_list hl' (by rw [List.size_toArray]; omega) (wpAny_Constant_int (PyProof.Rows.eq_int (wpAny_truthy_bool ?_)))
    replace B := B.tok (t₂ + 1 + 1 + 1)
    cases vs with
    | nil =>
      refine isTrue_and_nil ?_
      exact wpAny_execs_cons (wpAny_Return_none (h _ B.out ⟨nm, par, [], hq, P, rfl⟩))
    | cons v0 vs =>
      rw [show ((((v0 :: vs).toArray.size : Nat) : Int) == 0) = false from by rw [List.size_toArray, List.length_cons, beq_eq_false_iff_ne]; omega]
      refine isTrue_or_nil (wpAny_execs_nil (env := envI L) ?_)
      refine wpAny_execs_cons (wpAny_If (isTrue_plain (Call_ (r_builtin B.wd (n_isi3 w) (n_isi0 w) (PyProof.Rows.callWith_builtin1 (wpAny_items_cons (r_local B.fm h1 (wpAny_items_cons (r_global B.wd (n_strty w) (wpAny_items_nil ?_))))))))))
      refine kia_tup kitx_list B.wd hlo (B.wd _ _ (d_22 w)) (isb_list w) nofun fun t₃ => wpAny_truthy_bool ?_
      replace B := B.tok t₃
      exact wpAny_execs_nil (env := envI L) (init_7 (b := false) R hq B h1 h2 h3 h4 P hvs (by simp) hz ⟨l, rfl, hl'⟩ h)
  | self vs hne =>
    refine is_ref_none (wpAny_truthy_bool (isTrue_or (isTrue_and (isTrue_plain ?_))))
    refine Call_ (r_builtin B.wd (n_isi3 w) (n_isi0 w) (PyProof.Rows.callWith_builtin1 (wpAny_items_cons (r_local B.fm h1 (wpAny_items_cons (wpAny_Tuple ?_))))))
    refine wpAny_items_cons (r_builtin B.wd (n_list3 w) (n_list0 w) (wpAny_items_cons (r_builtin B.wd (n_tuple3 w) (n_tuple0 w) (wpAny_items_nil ⟨show 2 ≤ sizeLine by decide, wpAny_items_nil ?_⟩))))
    have kt : Kp hh (hh.push { cls := .type "tuple", data := .seq #[.type "list", .type "tuple"] }) := .push _ _
    replace P := P.ka kt
    have ltp := Nat.le_of_lt B.lt
    replace B := B.push { cls := .type "tuple", data := .seq #[.type "list", .type "tuple"] } (tt)
    have qtp := Heap.get?_push_size hh (show ({ cls := .type "tuple", data := .seq #[.type "list", .type "tuple"] } : Obj).isFreed = false from rfl)
    dsimp only at *
    generalize hh.objs.size = tp at *
    generalize hh.push { cls := .type "tuple", data := .seq #[.type "list", .type "tuple"] } = h₁ at *
    clear kt
    refine kia_tup kitx_pr B.wd ⟨_, _, P.fa, P.fx⟩ qtp (ilt_pr w) nofun fun t₂ => wpAny_truthy_bool (isTrue_or_nil (wpAny_execs_nil (env := envI L) ?_))
    replace B := B.tok t₂
    refine wpAny_execs_cons (wpAny_If (isTrue_plain (Call_ (r_builtin B.wd (n_isi3 w) (n_isi0 w) (PyProof.Rows.callWith_builtin1 (wpAny_items_cons (r_local B.fm h1 (wpAny_items_cons (r_global B.wd (n_strty w) (wpAny_items_nil ?_))))))))))
    refine kia_tup kitx_pr B.wd ⟨_, _, P.fa, P.fx⟩ (B.wd _ _ (d_22 w)) (isb_pr w) nofun fun t₃ => wpAny_truthy_bool ?_
    replace B := B.tok t₃
    exact wpAny_execs_nil (env := envI L) (init_7 (b := true) R hq B h1 h2 h3 h4 P hvs hne hz rfl h)
end
end Mine
end

-- VY
section
open PySem PySem.W PySem.Calls PyProof.Rows
set_option maxHeartbeats 4000000
namespace Mine
section
variable {prog : Program} {w : World} {A : Around} {E : Value → Shared → Prop} {s : Shared} {env : Env}
/-- from the fourth statement on -/
theorem init_3 {n N : Nat} {e : Shared} {L : Addr} {m : Str → Option Value} {a dx tl td an : Addr} {nm par : Value} {md al : Bool} {tv : Value} {vs : List Value} {b : Bool} {k : Str} {t : Tok} {Q : Value → Shared → Prop}
    (R : Rm (n + 6) A) (hp : handedIn par = true) (B : Bd w N e L m s) (h1 : m "toklist" = some tv) (h2 : m "self" = some (.ref a)) (h3 : m "name" = some (.str k t)) (h4 : m "aslist" = some (.bool al)) (h5 : m "modal" = some (.bool md))
    (P : PRr prog w N s.heap a dx tl td an (some (.bool md)) (some nm) (some par) vs [] (fun _ => false)) (hvs : ∀ v ∈ vs, ∃ x t, v = .str x t) (hz : vs.length ≤ 60) (V : InArg s.heap a tv vs b)
    (h : ∀ s' an', Ef N e s' → Inited prog w N s'.heap a dx tl td an' md al b k vs → Q .none s') :
    wpAny (model prog w) (A.deeper (envI L)) (execs ((bodyOf fd_init).drop 3) (envI L)) (fun f s' => Q (match f with | .ret v => v | _ => .none) s') (fun _ _ => False) s := by
  have go : ∀ s₁ an₁, Bd w N e L m s₁ → PRr prog w N s₁.heap a dx tl td an₁ (some (.bool md)) (some nm) (some par) vs [] (fun y => !md && decide (y = k)) → InArg s₁.heap a tv vs b →
      wpAny (model prog w) (A.deeper (envI L)) (execs ((bodyOf fd_init).drop 4) (envI L)) (fun f s' => Q (match f with | .ret v => v | _ => .none) s') (fun _ _ => False) s₁ := by
    intro s₁ an₁ B P V
    refine wpAny_execs_cons (plainObj_wpAny_Assign_Attribute (r_local B.fm h3 (r_local B.fm h2 ?_)))
    refine b_set B P.na P.fa P.fx (u_nm w) (y_nm w) (s_nm w) (by decide) (sl' := #[some (.ref an₁), some (.bool md), some (.str k t), some par, some (.ref td), some (.ref tl)]) rfl fun h₂ B' g _ S => ?_
    refine init_5 R ⟨rfl, hp⟩ B' h1 h2 h3 h4 (P.set1 S g) hvs hz ?_ fun s' ef I => h s' an₁ ef I
    cases V with
    | none => exact .none
    | str x t => exact .str x t
    | list l vs q =>
      refine .list l vs ?_
      obtain ⟨o, q, c, r⟩ := q
      exact ⟨o, stays S P.fa q (by rw [c]; nofun), c, r⟩
    | self vs q => exact .self vs q
  refine wpAny_execs_cons (wpAny_If (isTrue_not (isTrue_plain (r_local B.fm h5 (wpAny_truthy_bool ?_)))))
  cases md with
  | true => exact wpAny_execs_nil (env := envI L) (go _ _ B P V)
  | false =>
    obtain ⟨hh, gg, dd, tt, oo⟩ := s
    refine wpAny_execs_cons (plainObj_wpAny_Assign_Attribute (v_set1 (x := k) (t := t) B.wd (code_init w) (by decide) (by decide) rfl (fun h' Q' kk q => ?_) fun h₁ kk hS => ?_))
    · exact r_local (B.keep (t := tt) kk).fm h3 q
    · have lan : N ≤ hh.objs.size := Nat.le_of_lt B.lt
      replace B := B.keep (t := tt + 1) kk
      replace P := P.ka (.of kk)
      replace V := V.kp (.of kk)
      dsimp only at *
      refine r_local B.fm h2 ?_
      refine b_set B P.na P.fa P.fx (u_an w) (y_an w) (s_an w) (by decide) (sl' := #[some (.ref hh.objs.size), some (.bool false), some nm, some par, some (.ref td), some (.ref tl)]) rfl fun h₂ B' g _ S => ?_
      obtain ⟨p1, p2, p3, p4, p5, p6⟩ := P.ap
      refine wpAny_execs_nil (env := envI L) (go _ hh.objs.size B' ?_ ?_)
      · obtain ⟨c, l⟩ := P.fl
        obtain ⟨o, es, ep, q, he, r⟩ := P.fd
        obtain ⟨o', es', ep', t', q', he', r'⟩ := hS
        exact ⟨g, (S.2 _ p1).trans P.fx, ⟨c, (S.2 _ p2).trans l⟩, ⟨o, es, ep, (S.2 _ p3).trans q, he, r⟩, ⟨1, o', es', ep', t', stays S P.fa q' (by rw [he'.1]; nofun), he', r'⟩, P.na, P.nx, P.nl, P.nd, lan, P.ne⟩
      · cases V with
        | none => exact .none
        | str x t => exact .str x t
        | list l vs q =>
          refine .list l vs ?_
          obtain ⟨o, q, c, r⟩ := q
          exact ⟨o, stays S P.fa q (by rw [c]; nofun), c, r⟩
        | self vs q => exact .self vs q
/-- the names that may be given -/
inductive NameV : Value → Str → Prop
  | str (k : Str) (t : Tok) : k ≠ "" → NameV (.str k t) k
  | seven (t : Tok) : NameV (.int 7 t) "7"
/-- __init__, with a name -/
theorem c_init_named {n N : Nat} {a dx tl td an : Addr} {om : Option Value} {nm par : Value} {tv nv kv : Value} {md al b : Bool} {vs : List Value} {k : Str} {args : Args} (R : Rm (n + 6) A) (hp : handedIn par = true) (X : Wd w s.heap) (hN : 333 ≤ N) (hNs : N ≤ s.heap.objs.size)
    (hb : BindsNew s fd_init args [("self", .ref a), ("toklist", tv), ("name", nv), ("aslist", .bool al), ("modal", .bool md), ("kwargs", kv)]) (hn : NameV nv k)
    (P : PRr prog w N s.heap a dx tl td an om (some nm) (some par) vs [] (fun _ => false)) (hvs : ∀ v ∈ vs, ∃ x t, v = .str x t) (hz : vs.length ≤ 60) (V : InArg s.heap a tv vs b) :
    Ret prog w A (.ref 74) args s (fun v s' => v = .none ∧ Ef N s s' ∧ ∃ an', Inited prog w N s'.heap a dx tl td an' md al b k vs) := by
  refine b_enter X hN hNs (body := bodyOf fd_init) R.room (fo_init X) rfl (code_of X (by kernel_rfl)) rfl hb (by decide) (locs rfl) fun L s₁ B hL ev => ?_
  replace P := P.ka ev.kp
  replace V := V.kp ev.kp
  obtain ⟨h₁, g₁, d₁, t₁, os₁⟩ := s₁
  refine wpAny_execs_cons (plainObj_wpAny_Assign_Attribute (r_local B.fm rfl (r_local B.fm rfl ?_)))
  refine b_set B P.na P.fa P.fx (u_md w) (y_md w) (s_md w) (by decide) (sl' := #[some (.ref an), some (.bool md), some nm, some par, some (.ref td), some (.ref tl)]) rfl fun h₂ B' g _ S => ?_
  have V' : InArg h₂ a tv vs b := by
    cases V with
    | none => exact .none
    | str x t => exact .str x t
    | list l vs q =>
      refine .list l vs ?_
      obtain ⟨o, q, c, r⟩ := q
      exact ⟨o, stays S P.fa q (by rw [c]; nofun), c, r⟩
    | self vs q => exact .self vs q
  replace P := P.set1 S g
  replace B := B'
  clear B' V g S
  refine wpAny_execs_cons (wpAny_If (isTrue_or (wpAny_isTrue_Compare1 (r_local B.fm rfl (wpAny_Constant_none ?_)))))
  cases hn with
  | str k t hk =>
    refine is_str_none (wpAny_truthy_bool (isTrue_or (wpAny_isTrue_Compare1 (r_local B.fm rfl (wpAny_Constant_str (PyProof.Rows.eq_str (wpAny_truthy_bool ?_)))))))
    rw [beq_eq_false_iff_ne.mpr hk]
    replace B := B.tok (t₁ + 1 + 1)
    refine isTrue_or_nil (wpAny_execs_nil (env := envI L) ?_)
    refine wpAny_execs_cons (wpAny_If (isTrue_plain (Call_ (r_builtin B.wd (n_isi3 w) (n_isi0 w) (PyProof.Rows.callWith_builtin1 (wpAny_items_cons (r_local B.fm rfl (wpAny_items_cons (r_builtin B.wd (n_int3 w) (n_int0 w) (wpAny_items_nil ?_))))))))))
    refine kia_one kitx_str B.wd trivial (ii_str w) nofun fun t₂ => wpAny_truthy_bool (wpAny_execs_nil (env := envI L) ?_)
    replace B := B.tok t₂
    exact init_3 (Q := fun v s' => v = .none ∧ Ef N s s' ∧ ∃ an', Inited prog w N s'.heap a dx tl td an' md al b k vs) R hp B rfl rfl rfl rfl rfl P hvs hz V' fun s' an' ef I => ⟨rfl, ef, an', I⟩
  | seven t =>
    refine is_int_none (wpAny_truthy_bool (isTrue_or (wpAny_isTrue_Compare1 (r_local B.fm rfl (wpAny_Constant_str (PySem.EqMixed.eq_int_str (wpAny_truthy_bool ?_)))))))
    replace B := B.tok (t₁ + 1 + 1)
    refine isTrue_or_nil (wpAny_execs_nil (env := envI L) ?_)
    refine wpAny_execs_cons (wpAny_If (isTrue_plain (Call_ (r_builtin B.wd (n_isi3 w) (n_isi0 w) (PyProof.Rows.callWith_builtin1 (wpAny_items_cons (r_local B.fm rfl (wpAny_items_cons (r_builtin B.wd (n_int3 w) (n_int0 w) (wpAny_items_nil ?_))))))))))
    refine kia_one kitx_int B.wd trivial (ii_int w) nofun fun t₂ => wpAny_truthy_bool ?_
    replace B := B.tok t₂
    refine wpAny_execs_cons (wpAny_Assign_Name (Call_ (r_builtin B.wd (n_str3 w) (n_str0 w) (callWith_type1 (wpAny_items_cons (r_local B.fm rfl (wpAny_items_nil (PySem.P.str_of_int (by decide +kernel) ?_))))))))
    replace B := B.tok (t₂ + 1)
    refine b_store B fun h₃ B K S => wpAny_execs_nil (env := envI L) ?_
    exact init_3 (k := "7") (Q := fun v s' => v = .none ∧ Ef N s s' ∧ ∃ an', Inited prog w N s'.heap a dx tl td an' md al b "7" vs) R hp B rfl rfl rfl rfl rfl (P.ka K) hvs hz (V'.kp K) fun s' an' ef I => ⟨rfl, ef, an', I⟩
end
end Mine
end

-- VZ
section
open PySem PySem.W PySem.Calls PyProof.Rows
set_option maxHeartbeats 4000000
namespace Mine
/-- the names of a new ParseResults -/
def namesOf (nm : Option Str) (xs : List Str) (al b : Bool) : List (Str × List Itm) := match nm, xs with
  | some k, x0 :: r => [(k, [if al then .sub (if b then x0 :: r else [x0]) else .s x0])]
  | _, _ => []
def starsOf (nm : Option Str) (md : Bool) : Str → Bool := match nm with
  | some k => fun y => !md && decide (y = k)
  | none => fun _ => false
section
variable {prog : Program} {w : World} {A : Around} {E : Value → Shared → Prop} {s : Shared} {env : Env}
theorem strs_of {vs : List Value} {xs : List Str} (h : All2 StrV vs xs) : ∀ v ∈ vs, ∃ x t, v = .str x t := by
  induction h with
  | nil => intro v m; cases m
  | cons a _ ih =>
    intro v m
    rcases List.mem_cons.mp m with q | q
    · obtain ⟨t, e⟩ := a; exact ⟨_, t, q ▸ e⟩
    · exact ih v q
theorem items_of {N : Nat} {h : Heap} {vs : List Value} {xs : List Str} (x : All2 StrV vs xs) : All2 (ItA prog w N h) vs (xs.map .s) := by
  induction x with
  | nil => exact .nil
  | cons a _ ih => exact .cons a ih
theorem Inited.prt {N : Nat} {h : Heap} {a dx tl td an : Addr} {md al b : Bool} {k : Str} {vs : List Value} {xs : List Str} (I : Inited prog w N h a dx tl td an md al b k vs) (hN : 333 ≤ N) (hx : All2 StrV vs xs) (hz : vs.length ≤ 60) :
    PRt prog w N h a (xs.map .s) (namesOf (some k) xs al b) (starsOf (some k) md) := by
  obtain ⟨nm, par, kvs, _, P, I⟩ := I
  cases hx with
  | nil =>
    obtain rfl := I
    exact ⟨[], [], P.prx hN (by decide) (by decide), .nil, .nil⟩
  | @cons v0 x0 vs xs h0 hr =>
    obtain ⟨nl, o, rfl, hnl, hl, I⟩ := I
    refine ⟨_, _, P.prx hN (by omega) (show 1 ≤ 64 by decide), items_of (.cons h0 hr), .cons ⟨rfl, by simp, nl, [o], rfl, IsL.isList hl, (show 1 ≤ 64 by decide), .cons ?_ .nil⟩ .nil⟩
    cases al with
    | false => exact ⟨v0, (show POf N w h o v0 from I).pox, h0⟩
    | true =>
      obtain ⟨b', dxb, tlb, tdb, anb, nmb, parb, po, Pb⟩ := I
      refine ⟨.ref b', po.pox, b', _, _, rfl, Pb.na, Pb.prx hN ?_ (by decide), ?_⟩
      · cases b
        · show 1 ≤ 64; decide
        · simp only [if_true]; omega
      · cases b
        · exact .cons h0 .nil
        · exact .cons h0 hr
theorem Inited.sm {N : Nat} {h : Heap} {a dx tl td an : Addr} {md al b : Bool} {k : Str} {vs : List Value} (I : Inited prog w N h a dx tl td an md al b k vs) : SmP prog w h a := by
  obtain ⟨nm, par, kvs, hq, P, I⟩ := I
  refine P.sm hq fun kv m => ?_
  cases vs with
  | nil => obtain rfl := I; cases m
  | cons v0 r =>
    obtain ⟨nl, o, rfl, _, hl, _⟩ := I
    rw [List.mem_singleton] at m; subst m
    exact ⟨nl, _, 0, rfl, hl⟩
/-- the name that is given, as a text -/
inductive NmV : Value → Option Str → Prop
  | none : NmV .none none
  | empty (t : Tok) : NmV (.str "" t) none
  | some (v : Value) (k : Str) : NameV v k → NmV v (some k)
/-- what is handed in to a new ParseResults -/
inductive NewV (h : Heap) : Value → List Value → Prop
  | none : NewV h .none []
  | str (x : Str) (t : Tok) : NewV h (.str x t) [.str x t]
  | list (l : Addr) (vs : List Value) (o : Obj) (n : Nat) : h.get? l = some o → o.cls = .type "list" → o.data = .seq vs.toArray n → vs.length ≤ 60 → NewV h (.ref l) vs
theorem NewV.kp {h h' : Heap} {tv : Value} {vs : List Value} (x : NewV h tv vs) (k : Kp h h') : NewV h' tv vs := by
  cases x with
  | none => exact .none
  | str x t => exact .str x t
  | list l vs o n q c d z => exact .list l vs o n (k.k _ _ q (pl_of c (by decide))) c d z
theorem NewV.arg {h : Heap} {tv : Value} {vs : List Value} (x : NewV h tv vs) : NewArg h tv vs := by
  cases x with
  | none => exact .inl ⟨rfl, rfl⟩
  | str x t => exact .inr (.inl ⟨x, t, rfl, rfl⟩)
  | list l vs o n q c d z => exact .inr (.inr ⟨l, o, n, rfl, q, c, d, by omega⟩)
theorem NewV.inarg {h : Heap} {tv : Value} {vs : List Value} (x : NewV h tv vs) (a : Addr) : InArg h a tv vs false := by
  cases x with
  | none => exact .none
  | str x t => exact .str x t
  | list l vs o n q c d z => exact .list l vs ⟨o, q, c, n, d⟩
theorem NewV.len {h : Heap} {tv : Value} {vs : List Value} (x : NewV h tv vs) : vs.length ≤ 60 := by
  cases x with
  | none => decide
  | str x t => show 1 ≤ 60; decide
  | list l vs o n q c d z => exact z
/-- ParseResults(tv, nv, aslist=al, modal=md) -/
theorem c_made {n : Nat} {tv nv : Value} {vs : List Value} {xs : List Str} {nm : Option Str} {al md : Bool} (R : Rm (n + 7) A) (X : Wd w s.heap) (V : NewV s.heap tv vs) (hx : All2 StrV vs xs) (hn : NmV nv nm) :
    Ret prog w A (.ref 240) ⟨[tv, nv], [("aslist", .bool al), ("modal", .bool md)]⟩ s (fun v s' => Ev s s' ∧ ∃ a : Nat, v = .ref a ∧ s.heap.objs.size ≤ a ∧ PRt prog w s.heap.objs.size s'.heap a (xs.map .s) (namesOf nm xs al false) (starsOf nm md) ∧ SmP prog w s'.heap a) := by
  refine pr_make X fun t => ?_
  have R' := R.under [tv, nv] [("aslist", .bool al), ("modal", .bool md)]
  refine Ret.call (c_new (s := { s with toks := t }) (R'.less (k := n + 1) (by omega)) X (bn_new2 (s := { s with toks := t }) X) V.arg) fun v s₁ z => ?_
  obtain ⟨ev, a, dx, tl, td, an, c, rfl, l1, l5, l0, l2, l3, l4, ha, hdx, htl, htd, han⟩ := z
  have ev : Ev s s₁ := ⟨ev.ka, ev.os, ev.gens⟩
  have P : PRr prog w s.heap.objs.size s₁.heap a dx tl td an none (some .none) (some .none) vs [] (fun _ => false) := ⟨ha, hdx, ⟨c, htl⟩, empty_dict htd, ⟨0, han⟩, l1, l0, l2, l3, l4, l5⟩
  have X₁ : Wd w s₁.heap := X.mono ev.kp
  refine ⟨X₁, ⟨a, _, rfl, ha, rfl⟩, ?_⟩
  have la : a < s₁.heap.objs.size := Heap.lt_size ha
  have hsz : s.heap.objs.size ≤ s₁.heap.objs.size := Nat.le_of_lt (Nat.lt_of_le_of_lt l1 la)
  have bare : (nv = .none ∨ ∃ t, nv = .str "" t) → nm = none → wpAny (model prog w) (A.under (.builtin "type.__call__" ⟨.ref 240 :: [tv, nv], [("aslist", .bool al), ("modal", .bool md)]⟩)) (PySem.call (.ref 74) (.ref a :: [tv, nv]) [("aslist", .bool al), ("modal", .bool md)])
      (fun r s'' => r = .none ∧ (Ev s s'' ∧ ∃ a' : Nat, Value.ref a = .ref a' ∧ s.heap.objs.size ≤ a' ∧ PRt prog w s.heap.objs.size s''.heap a' (xs.map .s) (namesOf nm xs al false) (starsOf nm md) ∧ SmP prog w s''.heap a')) (fun _ _ => False) s₁ := by
    intro hb hnm
    subst hnm
    refine Ret.call (c_init_bare (N := s.heap.objs.size) (R'.less (k := n + 1) (by omega)) X₁ X.big hsz l1 (bn_init2 X₁) hb ha hdx) fun v s₂ z => ?_
    obtain ⟨rfl, ef, kx, ha'⟩ := z
    refine ⟨rfl, (ev.ef.trans ef).ev (Nat.le_refl _), a, rfl, l1, ?_⟩
    obtain ⟨p1, p2, p3, p4, p5, p6⟩ := P.ap
    have P2 : PRr prog w s.heap.objs.size s₂.heap a dx tl td an (some (.bool md)) (some .none) (some .none) vs [] (fun _ => false) := by
      obtain ⟨o', es', ep', t', q', he', r'⟩ := han
      exact ⟨ha', kx _ _ (nin1 p1) hdx rfl, ⟨c, kx _ _ (nin1 p2) htl rfl⟩, empty_dict (kx _ _ (nin1 p3) htd rfl), ⟨0, o', es', ep', t', kx _ _ (nin1 p4) q' (pl_tab (pl_of he'.1 (by decide))), he', r'⟩, l1, l0, l2, l3, l4, l5⟩
    refine ⟨⟨vs, [], P2.prx X.big (by have := V.len; omega) (by decide), items_of hx, ?_⟩, P2.sm ⟨rfl, rfl⟩ nofun⟩
    cases xs <;> exact .nil
  cases hn with
  | none => exact bare (.inl rfl) rfl
  | empty t => exact bare (.inr ⟨t, rfl⟩) rfl
  | some v k hk =>
    refine Ret.call (c_init_named (N := s.heap.objs.size) (n := n) R' rfl X₁ X.big hsz (bn_init2 X₁) hk P (strs_of hx) V.len ((V.kp ev.kp).inarg a)) fun v s₂ z => ?_
    obtain ⟨rfl, ef, an', I⟩ := z
    exact ⟨rfl, (ev.ef.trans ef).ev (Nat.le_refl _), a, rfl, l1, I.prt X.big hx V.len, I.sm⟩
end
end Mine
end

-- WA
section
open PySem PySem.W PySem.Calls PyProof.Rows
set_option maxHeartbeats 4000000
namespace Mine
section
variable {prog : Program} {w : World} {A : Around} {E : Value → Shared → Prop} {s : Shared} {env : Env}
/-- ParseResults.__new__(cls, inner, ..): it is handed back -/
theorem c_new_self {n : Nat} {a dx : Addr} {sl : Array (Option Value)} {nv kv : Value} {args : Args} (R : Rm (n + 1) A) (X : Wd w s.heap) (hb : BindsNew s fd_new args [("cls", .ref 240), ("toklist", .ref a), ("name", nv), ("kwargs", kv)])
    (ha : s.heap.get? a = some (pcls dx sl)) : Ret prog w A (.ref 66) args s (fun v s' => v = .ref a ∧ Ev s s') := by
  refine b_enter X X.big (Nat.le_refl _) (body := bodyOf fd_new) R.room (fo_new X) rfl (code_of X (by kernel_rfl)) rfl hb (by decide) (locs rfl) fun L s₁ B hL ev => ?_
  refine wpAny_execs_cons (wpAny_If (isTrue_plain (Call_ (r_builtin B.wd (n_isi3 w) (n_isi0 w) (PyProof.Rows.callWith_builtin1 (wpAny_items_cons (r_local B.fm rfl (wpAny_items_cons (r_global B.wd (n_PR w) (wpAny_items_nil ?_))))))))))
  refine isi_call B.wd (pr_type (ev.kp.k _ _ ha rfl)) (i_PR w) nofun (wpAny_truthy_bool ?_)
  exact wpAny_execs_cons (wpAny_Return_some (r_local B.fm rfl ⟨rfl, B.out.ev (Nat.le_refl _)⟩))
/-- ParseResults(inner, nv, aslist=al, modal=md) -/
theorem c_made_self {n N : Nat} {a dx tl td an : Addr} {nv : Value} {vs : List Value} {xs : List Str} {nm : Option Str} {al md : Bool} {om : Option Value} {nm0 par0 : Value} (hq : handedIn nm0 = true ∧ handedIn par0 = true) (R : Rm (n + 7) A) (X : Wd w s.heap) (hN : 333 ≤ N) (hNs : N ≤ s.heap.objs.size)
    (P : PRr prog w N s.heap a dx tl td an om (some nm0) (some par0) vs [] (fun _ => false)) (hx : All2 StrV vs xs) (hne : vs ≠ []) (hz : vs.length ≤ 60) (hn : NmV nv nm) :
    Ret prog w A (.ref 240) ⟨[.ref a, nv], [("aslist", .bool al), ("modal", .bool md)]⟩ s (fun v s' => v = .ref a ∧ Ef N s s' ∧ PRt prog w N s'.heap a (xs.map .s) (namesOf nm xs al true) (starsOf nm md) ∧ SmP prog w s'.heap a) := by
  refine pr_make X fun t => ?_
  have R' := R.under [.ref a, nv] [("aslist", .bool al), ("modal", .bool md)]
  refine Ret.call (c_new_self (s := { s with toks := t }) (R'.less (k := n + 1) (by omega)) X (bn_new2 (s := { s with toks := t }) X) P.fa) fun v s₁ z => ?_
  obtain ⟨rfl, ev⟩ := z
  have ev : Ev s s₁ := ⟨ev.ka, ev.os, ev.gens⟩
  replace P := P.ka ev.kp
  have X₁ : Wd w s₁.heap := X.mono ev.kp
  have hN1 : N ≤ s₁.heap.objs.size := Nat.le_of_lt (Nat.lt_of_le_of_lt P.na (Heap.lt_size P.fa))
  refine ⟨X₁, ⟨a, _, rfl, P.fa, rfl⟩, ?_⟩
  have bare : (nv = .none ∨ ∃ t, nv = .str "" t) → nm = none → wpAny (model prog w) (A.under (.builtin "type.__call__" ⟨.ref 240 :: [.ref a, nv], [("aslist", .bool al), ("modal", .bool md)]⟩)) (PySem.call (.ref 74) (.ref a :: [.ref a, nv]) [("aslist", .bool al), ("modal", .bool md)])
      (fun r s'' => r = .none ∧ (Value.ref a = .ref a ∧ Ef N s s'' ∧ PRt prog w N s''.heap a (xs.map .s) (namesOf nm xs al true) (starsOf nm md) ∧ SmP prog w s''.heap a)) (fun _ _ => False) s₁ := by
    intro hb hnm
    subst hnm
    refine Ret.call (c_init_bare (N := N) (R'.less (k := n + 1) (by omega)) X₁ hN hN1 P.na (bn_init2 X₁) hb P.fa P.fx) fun v s₂ z => ?_
    obtain ⟨rfl, ef, kx, ha'⟩ := z
    refine ⟨rfl, rfl, ev.ef.trans ef, ?_⟩
    obtain ⟨p1, p2, p3, p4, p5, p6⟩ := P.ap
    have P2 : PRr prog w N s₂.heap a dx tl td an (some (.bool md)) (some nm0) (some par0) vs [] (fun _ => false) := by
      obtain ⟨c, l⟩ := P.fl
      obtain ⟨o, es, ep, q, he, r⟩ := P.fd
      obtain ⟨n', o', es', ep', t', q', he', r'⟩ := P.fs
      exact ⟨ha', kx _ _ (nin1 p1) P.fx rfl, ⟨c, kx _ _ (nin1 p2) l rfl⟩, ⟨o, es, ep, kx _ _ (nin1 p3) q (pl_tab (pl_of he.1 (by decide))), he, r⟩, ⟨n', o', es', ep', t', kx _ _ (nin1 p4) q' (pl_tab (pl_of he'.1 (by decide))), he', r'⟩, P.na, P.nx, P.nl, P.nd, P.ns, P.ne⟩
    refine ⟨⟨vs, [], P2.prx hN (by omega) (by decide), items_of hx, ?_⟩, P2.sm hq nofun⟩
    cases xs <;> exact .nil
  cases hn with
  | none => exact bare (.inl rfl) rfl
  | empty t => exact bare (.inr ⟨t, rfl⟩) rfl
  | some v k hk =>
    refine Ret.call (c_init_named (N := N) (n := n) R' hq.2 X₁ hN hN1 (bn_init2 X₁) hk P (strs_of hx) hz (.self vs hne)) fun v s₂ z => ?_
    obtain ⟨rfl, ef, an', I⟩ := z
    exact ⟨rfl, rfl, ev.ef.trans ef, I.prt hN hx hz, I.sm⟩
end
end Mine
end

-- WI
section
open PySem PySem.W PySem.Calls PyProof.Rows
set_option maxHeartbeats 4000000
namespace Mine
theorem m_al (w : World) : findIn (KV w) (.ref 240) "as_list" = some (some (.ref 222)) := by kernel_rfl
theorem mf_al (w : World) : typeIn (KV w) (.ref 222) = some (.type "function") := by kernel_rfl
theorem mk_al (w : World) : keepIn (KV w) (.ref 222) = true := by kernel_rfl
/-- a value told plain: a text, or a new list of texts -/
def TL (hi : Nat) (h : Heap) (y : Value) : Itm → Prop
  | .s x => StrV y x
  | .sub xs => ∃ l vs c, y = .ref l ∧ hi ≤ l ∧ IsL h l vs.toArray c ∧ All2 StrV vs xs
theorem TL.st {hi lo : Nat} {h h' : Heap} {y : Value} {I : Itm} (x : TL hi h y I) (st : St lo hi h h') : TL hi h' y I := by
  cases I with
  | s x => exact x
  | sub xs => obtain ⟨l, vs, c, e, hl, q, a⟩ := x; exact ⟨l, vs, c, e, hl, st l _ (.inr hl) q rfl, a⟩
theorem TL.mono {hi hi' : Nat} {h : Heap} {y : Value} {I : Itm} (x : TL hi' h y I) (l : hi ≤ hi') : TL hi h y I := by
  cases I with
  | s x => exact x
  | sub xs => obtain ⟨l', vs, c, e, hl, q⟩ := x; exact ⟨l', vs, c, e, Nat.le_trans l hl, q⟩
theorem rd_strs {h : Heap} : ∀ {vs : List Value} {xs : List Str}, All2 StrV vs xs → All2 (Rd h) vs (xs.map .str)
  | _, _, .nil => .nil
  | _, _, .cons ⟨t, e⟩ y => .cons (by subst e; exact rd_str _ t) (rd_strs y)
theorem TL.rd {hi : Nat} {h : Heap} {y : Value} {I : Itm} (x : TL hi h y I) : Rd h y I.tell := by
  cases I with
  | s x => obtain ⟨t, e⟩ := x; subst e; exact rd_str _ t
  | sub xs => obtain ⟨l, vs, c, e, hl, q, a⟩ := x; subst e; exact rd_list (IsL.isList q) (rd_strs a)
section
variable {prog : Program} {w : World} {A : Around} {E : Value → Shared → Prop} {s : Shared} {env : Env}
theorem all2_range {β : Type} {F : Nat → β → Prop} {ys : List β} {n : Nat} (h : All2 F ((List.range n).filter fun _ => true) ys) : ys.length = n ∧ ∀ j y, ys[j]? = some y → F j y := by
  rw [List.filter_eq_self.mpr (fun _ _ => rfl)] at h
  have hl := h.length
  rw [List.length_range] at hl
  refine ⟨hl.symm, fun j y e => ?_⟩
  have hj : j < n := by have := (List.getElem?_eq_some_iff.mp e).1; omega
  obtain ⟨y', e', f⟩ := h.get (i := j) (a := j) (by rw [List.getElem?_range hj])
  rw [e] at e'; cases e'
  exact f
theorem all2_of {α β : Type} {R : α → β → Prop} : ∀ {as : List α} {bs : List β}, as.length = bs.length → (∀ (i : Nat) a, as[i]? = some a → ∃ b, bs[i]? = some b ∧ R a b) → All2 R as bs
  | [], [], _, _ => .nil
  | [], _ :: _, h, _ => by cases h
  | _ :: _, [], h, _ => by cases h
  | a :: as, b :: bs, h, f => by
    obtain ⟨b', e, r⟩ := f 0 a rfl
    cases e
    exact .cons r (all2_of (by simpa using h) fun i a' e' => f (i + 1) a' e')
/-- as_list, where all tokens are texts -/
theorem c_as_list_flat {n : Nat} {a : Addr} {vs : List Value} {kvs : List (Str × Value)} {S : Str → Bool} (R : Rm (n + 2) A) (X : Wd w s.heap) (P : PRx prog w s.heap a vs kvs S) (hv : ∀ v ∈ vs, ∃ x t, v = .str x t) :
    Ret prog w A (.ref 222) ⟨[.ref a], []⟩ s (fun v s' => Ev s s' ∧ s.heap.objs.size ≤ s'.heap.objs.size ∧ ∃ D c, v = .ref D ∧ s.heap.objs.size ≤ D ∧ IsL s'.heap D vs.toArray c) := by
  obtain ⟨dx, tl, td, an, par, nm, md, k, ha, hx, hl, hd, hs, hS, hz, hz'⟩ := P
  refine b_enter X X.big (Nat.le_refl _) (binds := [("self", .ref a)]) (body := bodyOf fd_as_list) R.room (fo_as_list X) rfl (code_of X (by kernel_rfl)) rfl (.of_eq rfl) (by decide) (locs rfl) fun L s₁ B hL ev => ?_
  have hl1 := isList_kp hl ev.kp
  have hs1 : s.heap.objs.size ≤ s₁.heap.objs.size := Nat.le_of_lt B.lt
  refine wpAny_execs_cons (wpAny_Return_some (v_ListComp_list (l := tl) (its := vs) (n_hA R _) (cl := []) rfl rfl (by decide) rfl (by decide) B.wd hl1 (by omega) (fun _ => true) (fun _ j y => vs[j]? = some y) ?_))
  refine Attribute_Name_ (r_local B.fm rfl (pr_get B.wd (ev.kp.k _ _ ha rfl) (ev.kp.k _ _ hx rfl) (c_tl w) (s_tl w) rfl rfl ?_))
  refine ⟨rfl, (Ev.refl _).tok _, Nat.le_refl _, fun lo hlo => ⟨fun h h' j y e _ => e, fun j v s' m E' hj ev3 _ hn hm => ?_, fun s' D ys c ev3 hD hl3 hall => ?_⟩⟩
  · refine wpAny_tests_nil ⟨rfl, .refl _, fun _ => ?_⟩
    obtain ⟨x, t, rfl⟩ := hv v (List.mem_of_getElem? hj)
    have X3 := B.wd.mono ev3.kp
    refine wpAny_IfExp (isTrue_plain (Call_ (r_builtin X3 (n_isi3 w) (n_isi0 w) (PyProof.Rows.callWith_builtin1 (wpAny_items_cons (r_localN hn hm (wpAny_items_cons (r_global X3 (n_PR w) (wpAny_items_nil ?_)))))))))
    refine kia_one kitx_str X3 trivial (i_str w) nofun fun t₂ => wpAny_truthy_bool ?_
    exact r_localN (s := { s' with toks := t₂ }) hn hm ⟨(Ev.refl _).tok _, hj⟩
  · obtain ⟨hyl, hy⟩ := all2_range hall
    have hys : ys = vs := List.ext_getElem? fun i => by
      by_cases hi : i < ys.length
      · rw [List.getElem?_eq_getElem hi]; exact (hy i _ (List.getElem?_eq_getElem hi)).symm
      · rw [List.getElem?_eq_none (by omega), List.getElem?_eq_none (by omega)]
    subst hys
    replace B := B.ev (s' := s') ⟨ev3.ka, ev3.os, ev3.gens⟩
    exact ⟨B.out.ev (Nat.le_refl _), Nat.le_of_lt B.lt, D, c, rfl, Nat.le_trans hs1 hD, hl3⟩
/-- as_list -/
theorem c_as_list {n N : Nat} {a : Addr} {vs : List Value} {kvs : List (Str × Value)} {S : Str → Bool} {Is : List Itm} (R : Rm (n + 4) A) (X : Wd w s.heap) (P : PRx prog w s.heap a vs kvs S) (hv : All2 (ItA prog w N s.heap) vs Is) :
    Ret prog w A (.ref 222) ⟨[.ref a], []⟩ s (fun v s' => Ev s s' ∧ s.heap.objs.size ≤ s'.heap.objs.size ∧ ∃ D ys c, v = .ref D ∧ s.heap.objs.size ≤ D ∧ IsL s'.heap D ys.toArray c ∧ All2 (TL s.heap.objs.size s'.heap) ys Is) := by
  obtain ⟨dx, tl, td, an, par, nm, md, k, ha, hx, hl, hd, hs, hS, hz, hz'⟩ := P
  refine b_enter X X.big (Nat.le_refl _) (binds := [("self", .ref a)]) (body := bodyOf fd_as_list) R.room (fo_as_list X) rfl (code_of X (by kernel_rfl)) rfl (.of_eq rfl) (by decide) (locs rfl) fun L s₁ B hL ev => ?_
  have hl1 := isList_kp hl ev.kp
  have hs1 : s.heap.objs.size ≤ s₁.heap.objs.size := Nat.le_of_lt B.lt
  have hlen := hv.length
  refine wpAny_execs_cons (wpAny_Return_some (v_ListComp_list (l := tl) (its := vs) (n_hA R _) (cl := []) rfl rfl (by decide) rfl (by decide) B.wd hl1 (by omega) (fun _ => true) (fun h j y => ∃ I, Is[j]? = some I ∧ TL (s₁.heap.objs.size + 3) h y I) ?_))
  refine Attribute_Name_ (r_local B.fm rfl (pr_get B.wd (ev.kp.k _ _ ha rfl) (ev.kp.k _ _ hx rfl) (c_tl w) (s_tl w) rfl rfl ?_))
  refine ⟨rfl, (Ev.refl _).tok _, Nat.le_refl _, fun lo hlo => ⟨fun h h' j y ⟨I, e, f⟩ st => ⟨I, e, f.st (lo := s₁.heap.objs.size) (by rw [hlo] at st; exact st)⟩, fun j v s' m E' hj ev3 hzz hn hm => ?_, fun s' D ys c ev3 hD hl3 hall => ?_⟩⟩
  · refine wpAny_tests_nil ⟨rfl, .refl _, fun _ => ?_⟩
    obtain ⟨I, hI, hit⟩ := hv.get hj
    have hit := (hit.kp ev.kp).kp ev3.kp
    have X3 := B.wd.mono ev3.kp
    refine wpAny_IfExp (isTrue_plain (Call_ (r_builtin X3 (n_isi3 w) (n_isi0 w) (PyProof.Rows.callWith_builtin1 (wpAny_items_cons (r_localN hn hm (wpAny_items_cons (r_global X3 (n_PR w) (wpAny_items_nil ?_)))))))))
    cases I with
    | s x =>
      obtain ⟨t, rfl⟩ := hit
      refine kia_one kitx_str X3 trivial (i_str w) nofun fun t₂ => wpAny_truthy_bool ?_
      exact r_localN (s := { s' with toks := t₂ }) hn hm ⟨(Ev.refl _).tok _, .s x, hI, t, rfl⟩
    | sub xs =>
      obtain ⟨b, vs', S', rfl, lb, Pb, hvs⟩ := hit
      obtain ⟨dxb, slb, hb, hdxb⟩ := Pb.inst
      refine isi_call X3 (pr_type hb) (i_PR w) nofun (wpAny_truthy_bool ?_)
      refine MethodCall_ (r_localN hn hm (pr_meth X3 hb hdxb (m_al w) (mf_al w) (callWith_K0 X3 (mk_al w) ?_)))
      refine (c_as_list_flat ((R.deep _).less (k := n + 2) (by omega)) X3 Pb (strs_of hvs)).call fun r s₄ z => ?_
      obtain ⟨ev4, hz4, D, c, rfl, hD, hlD⟩ := z
      exact ⟨ev4, .sub xs, hI, D, vs', c, rfl, by rw [hlo] at hzz; exact Nat.le_trans hzz hD, hlD, hvs⟩
  · obtain ⟨hyl, hy⟩ := all2_range hall
    replace B := B.ev (s' := s') ⟨ev3.ka, ev3.os, ev3.gens⟩
    refine ⟨B.out.ev (Nat.le_refl _), Nat.le_of_lt B.lt, D, ys, c, rfl, Nat.le_trans hs1 hD, hl3, all2_of (by omega) fun i y e => ?_⟩
    obtain ⟨I, hI, f⟩ := hy i y e
    exact ⟨I, hI, f.mono (by omega)⟩
end
end Mine
end

-- WJ
section
open PySem PySem.W PySem.Calls PyProof.Rows
set_option maxHeartbeats 4000000
namespace Mine
/-- the first objects of a heap -/
def cut (h : Heap) : Heap := ⟨h.objs.extract 0 333, h.life⟩
theorem ext_get (o : Array Obj) (b : Nat) : (o.extract 0 333)[b]? = if b < 333 then o[b]? else none := by
  rw [Array.getElem?_extract]
  by_cases h : b < 333
  · rw [if_pos h]
    by_cases h' : b < o.size
    · rw [if_pos (by omega), Nat.zero_add]
    · rw [if_neg (by omega), Array.getElem?_eq_none (by omega)]
  · rw [if_neg h, if_neg (by omega)]
theorem cut_eq (h : Heap) (b : Nat) : (cut h).get? b = if b < 333 then h.get? b else none := by
  unfold Heap.get?
  show (match (h.objs.extract 0 333)[b]? with | some ⟨_, _, .freed, _⟩ => none | o => o) = _
  rw [ext_get]
  by_cases q : b < 333
  · rw [if_pos q, if_pos q]
    rfl
  · rw [if_neg q, if_neg q]
theorem cut_get {h : Heap} {b : Addr} {o : Obj} (e : (cut h).get? b = some o) : h.get? b = some o := by
  rw [cut_eq] at e
  split at e
  · exact e
  · cases e
theorem get_cut {h : Heap} {b : Addr} {o : Obj} (e : h.get? b = some o) (l : b < 333) : (cut h).get? b = some o := by
  rw [cut_eq, if_pos l]; exact e
theorem fr_of {h : Heap} {L : Nat} {m : Str → Option Value} (F : h.Ns L m) (hL : 333 ≤ L) : Fr (cut h) L h m :=
  ⟨F, fun _ _ e => cut_get e, by show (h.objs.extract 0 333).size ≤ L; rw [Array.size_extract]; omega⟩
theorem wd_cut {w : World} {h : Heap} (X : Wd w h) : Wd w (cut h) := fun a o e => get_cut (X a o e) (kv_lt e)
theorem j_con (w : World) : findIn (KV w) (.ref 240) "__contains__" = some (some (.ref 98)) := by kernel_rfl
theorem jf_con (w : World) : isFn (KV w) (.ref 98) = true := by kernel_rfl
theorem j_len (w : World) : findIn (KV w) (.ref 240) "__len__" = some (some (.ref 105)) := by kernel_rfl
theorem jf_len (w : World) : isFn (KV w) (.ref 105) = true := by kernel_rfl
theorem j_bool (w : World) : findIn (KV w) (.ref 240) "__bool__" = some (some (.ref 112)) := by kernel_rfl
theorem jf_bool (w : World) : isFn (KV w) (.ref 112) = true := by kernel_rfl
theorem m_hk (w : World) : findIn (KV w) (.ref 240) "haskeys" = some (some (.ref 154)) := by kernel_rfl
theorem mf_hk (w : World) : typeIn (KV w) (.ref 154) = some (.type "function") := by kernel_rfl
theorem mk_hk (w : World) : keepIn (KV w) (.ref 154) = true := by kernel_rfl
section
variable {prog : Program} {w : World} {A : Around} {E : Value → Shared → Prop} {s : Shared} {env : Env}
/-- k in a, for a ParseResults -/
theorem v_in {n : Nat} {a L : Addr} {m : Str → Option Value} {vs : List Value} {kvs : List (Str × Value)} {S : Str → Bool} {k : Str} {t : Tok} {Q : Value → Shared → Prop} (R : Rm (n + 1) A) (X : Wd w s.heap) (F : s.heap.Ns L m) (hL : 333 ≤ L) (P : PRx prog w s.heap a vs kvs S)
    (h : ∀ s', Ev s s' → Q (.bool (valueAt kvs k).isSome) s') : wpAny (model prog w) A (compareOp .In (.str k t) (.ref a)) Q E s := by
  obtain ⟨dx, sl, ha, hx⟩ := P.inst
  refine in_K (fr_of F hL) (wd_cut X) (show InstAt s.heap a (pcls dx sl) 240 (some noDict) from ⟨ha, rfl, rfl, hx⟩) (j_con w) (jf_con w) ?_
  exact (c_contains R X P).call fun v s' z => by obtain ⟨rfl, ev⟩ := z; exact wpAny_truthy_bool (h s' ev)
theorem v_notin {n : Nat} {a L : Addr} {m : Str → Option Value} {vs : List Value} {kvs : List (Str × Value)} {S : Str → Bool} {k : Str} {t : Tok} {Q : Value → Shared → Prop} (R : Rm (n + 1) A) (X : Wd w s.heap) (F : s.heap.Ns L m) (hL : 333 ≤ L) (P : PRx prog w s.heap a vs kvs S)
    (h : ∀ s', Ev s s' → Q (.bool !(valueAt kvs k).isSome) s') : wpAny (model prog w) A (compareOp .NotIn (.str k t) (.ref a)) Q E s := by
  obtain ⟨dx, sl, ha, hx⟩ := P.inst
  refine notIn_K (fr_of F hL) (wd_cut X) (show InstAt s.heap a (pcls dx sl) 240 (some noDict) from ⟨ha, rfl, rfl, hx⟩) (j_con w) (jf_con w) ?_
  exact (c_contains R X P).call fun v s' z => by obtain ⟨rfl, ev⟩ := z; exact wpAny_truthy_bool (h s' ev)
/-- len(a) -/
theorem v_len {n : Nat} {a L : Addr} {m : Str → Option Value} {vs : List Value} {kvs : List (Str × Value)} {S : Str → Bool} {Q : Value → Shared → Prop} (R : Rm (n + 2) A) (X : Wd w s.heap) (F : s.heap.Ns L m) (hL : 333 ≤ L) (P : PRx prog w s.heap a vs kvs S)
    (h : ∀ s' t, Ev s s' → Q (.int vs.length t) s') : wpAny (model prog w) A (call (.builtin "len") [.ref a]) Q E s := by
  obtain ⟨dx, sl, ha, hx⟩ := P.inst
  have hz : vs.length ≤ 64 := by obtain ⟨_, _, _, _, _, _, _, _, _, _, _, _, _, _, z, _⟩ := P; exact z
  refine len_K (fr_of F hL) (wd_cut X) (show InstAt s.heap a (pcls dx sl) 240 (some noDict) from ⟨ha, rfl, rfl, hx⟩) (j_len w) (jf_len w) ?_
  exact (c_len R.in1 X P).call fun v s' z => by obtain ⟨⟨t, rfl⟩, ev⟩ := z; exact ⟨⟨by omega, by omega⟩, h _ _ (ev.tok _)⟩
/-- bool(a) -/
theorem v_truthy {n : Nat} {a L : Addr} {m : Str → Option Value} {vs : List Value} {kvs : List (Str × Value)} {S : Str → Bool} {Q : Bool → Shared → Prop} (R : Rm (n + 1) A) (X : Wd w s.heap) (F : s.heap.Ns L m) (hL : 333 ≤ L) (P : PRx prog w s.heap a vs kvs S)
    (h : ∀ s', Ev s s' → Q (!(vs.isEmpty && kvs.isEmpty)) s') : wpAny (model prog w) A (truthy (.ref a)) Q E s := by
  obtain ⟨dx, sl, ha, hx⟩ := P.inst
  refine truthy_K (fr_of F hL) (wd_cut X) (show InstAt s.heap a (pcls dx sl) 240 (some noDict) from ⟨ha, rfl, rfl, hx⟩) (j_bool w) (jf_bool w) ?_
  exact (c_bool R X P).call fun v s' z => by obtain ⟨rfl, ev⟩ := z; exact h s' ev
theorem d_162 (w : World) : (KV w).lookup 162 = some ⟨.type "tuple", none, .seq #[.none] 0, #[]⟩ := by kernel_rfl
/-- a.get(k, d) -/
theorem c_get {n : Nat} {a : Addr} {vs : List Value} {kvs : List (Str × Value)} {S : Str → Bool} {k : Str} {t : Tok} {d : Value} {e : Heap} {args : Args} (R : Rm (n + 5) A) (X : Wd w s.heap) (P : PRx prog w s.heap a vs kvs S) (ke : Kp e s.heap) (U : UnR w e kvs)
    (hb : BindsNew s fd_get args [("self", .ref a), ("key", .str k t), ("default_value", d)]) :
    Ret prog w A (.ref 169) args s (fun r s' => Ev s s' ∧ s.heap.objs.size ≤ s'.heap.objs.size ∧ if (valueAt kvs k).isSome then GetV prog w e s'.heap s.heap.objs.size kvs S k r else r = d) := by
  refine b_enter X X.big (Nat.le_refl _) (body := bodyOf fd_get) R.room (fo_get X) rfl (code_of X (by kernel_rfl)) rfl hb (by decide) (locs rfl) fun L s₁ B hL ev => ?_
  have hs1 : s.heap.objs.size ≤ s₁.heap.objs.size := Nat.le_of_lt B.lt
  refine wpAny_execs_cons (wpAny_If (wpAny_isTrue_Compare1 (r_local B.fm rfl (r_local B.fm rfl (v_in ((R.deep _).less (k := n + 1) (by omega)) B.wd B.fm.ns (Nat.le_trans X.big hL) (P.kp ev.kp) fun s₂ ev2 => wpAny_truthy_bool ?_)))))
  replace B := B.ev ev2
  cases hv : valueAt kvs k with
  | none => exact wpAny_execs_cons (wpAny_Return_some (r_local B.fm rfl ⟨B.out.ev (Nat.le_refl _), Nat.le_of_lt B.lt, rfl⟩))
  | some v0 =>
    have P2 := (P.kp ev.kp).kp ev2.kp
    obtain ⟨dx, sl, ha, hx⟩ := P2.inst
    refine wpAny_execs_cons (wpAny_Return_some (Subscript_ (r_local B.fm rfl (r_local B.fm rfl (v_item B.wd ha hx ?_)))))
    refine (c_getitem ((R.deep _).in1.less (k := n + 3) (by omega)) B.wd P2 ((ke.trans ev.kp).trans ev2.kp) U hv).call fun r s₃ z => ?_
    obtain ⟨ev3, hz3, g⟩ := z
    exact ⟨(B.ev ev3).out.ev (Nat.le_refl _), Nat.le_of_lt (B.ev ev3).lt, getV_mono g (Nat.le_of_lt B.lt)⟩
end
end Mine
end

-- WK
section
open PySem PySem.W PySem.Calls PyProof.Rows
set_option maxHeartbeats 4000000
namespace Mine
def defOf (b : List Stmt) (i : Nat) : Stmt := (b[i]?).getD (.Pass ⟨0,0,0,0⟩)
def dName : Stmt → Str | .FunctionDef n _ _ _ _ _ _ _ _ _ => n | _ => ""
def dParams : Stmt → Arguments | .FunctionDef _ a _ _ _ _ _ _ _ _ => a | _ => default
def dBody : Stmt → List Stmt | .FunctionDef _ _ b _ _ _ _ _ _ _ => b | _ => []
def dScope : Stmt → Scope | .FunctionDef _ _ _ _ _ _ s _ _ _ => s | _ => default
def dPos : Stmt → Pos | .FunctionDef _ _ _ _ _ _ _ _ _ p => p | _ => ⟨0,0,0,0⟩
abbrev tiDef : Stmt := defOf (bodyOf fd_as_dict) 0
/-- the function to_item -/
def fdTI (c : Addr) (ct : Value) (code : Value) (pm : Value) : FuncData := { name := dName tiDef, qualname := "ParseResults.as_dict.<locals>.to_item", params := dParams tiDef, body := .stmts (dBody tiDef), scope := dScope tiDef, globals := 3, closure := [("to_item", c)], closureTuple := ct, defaults := .none, kwdefaults := .none, pyModule := pm, code, builtins := 0 }
section
variable {prog : Program} {w : World} {A : Around} {E : Value → Shared → Prop} {s : Shared} {env : Env}
theorem g_name (w : World) : nsIn (KV w) 3 "__name__" = some (some (.str "law_bj5025_01" 489)) := by kernel_rfl
theorem ti_def {L : Addr} {c : Addr} {Q : Flow → Shared → Prop} (X : Wd w s.heap) (T : TabAt s.heap 228 224)
    (h : ∀ s₁ f ct code pm, Ev s s₁ → s.heap.objs.size ≤ f → s₁.heap.get? f = some (fnObj (fdTI (L + 1) ct code pm)) → CR s₁.heap code "ParseResults.as_dict.<locals>.to_item" → s₁.gens = s.gens →
      wpAny (model prog w) A (storeName (callEnvC fd_as_dict L 229) "to_item" (.ref f)) (fun _ s₂ => Q .next s₂) E s₁) :
    wpAny (model prog w) A (exec tiDef (callEnvC fd_as_dict L 229)) Q E s := by
  show wpAny (model prog w) A (exec (.FunctionDef (dName tiDef) (dParams tiDef) (dBody tiDef) [] none [] (dScope tiDef) none "to_item" (dPos tiDef)) (callEnvC fd_as_dict L 229)) Q E s
  rw [arm_exec_FunctionDef]
  unfold defStmt
  refine wpAny_bind (wpAny_pure (wpAny_bind (wpAny_standAt (wpAny_bind ?_))))
  refine wpAny_holding (wpAny_bind (wpAny_pure (a := ([] : List Value)) ?_))
  refine wpAny_bind (wpAny_holding (wpAny_pure (a := ([] : List (Option Value))) ?_))
  refine wpAny_holding ?_
  show wpAny (model prog w) A (evalNamed [] >>= fun ann => makeFunction (dName tiDef) "ParseResults.as_dict.<locals>.to_item" (dParams tiDef) (.stmts (dBody tiDef)) (dScope tiDef) (callEnvC fd_as_dict L 229) [] [] ann (dPos tiDef) (dPos tiDef).line) _ _ s
  refine wpAny_bind (wpAny_pure (a := ([] : List (Str × Value))) ?_)
  unfold makeFunction
  refine wpAny_bind (wpAny_pure (a := Value.none) (wpAny_bind (wpAny_pure (a := Value.none) (wpAny_bind (wpAny_pure (a := (none : Option Addr)) ?_)))))
  have hclos : closureFor (dScope tiDef) (callEnvC fd_as_dict L 229) = (pure [(("to_item" : Str), L + 1)] : Sem (List (Str × Addr))) := rfl
  rw [hclos]
  refine wpAny_bind (wpAny_pure ?_)
  rw [List.mergeSort_singleton]
  show wpAny (model prog w) A (newTextTuple [.ref (L + 1)] >>= _) _ _ s
  unfold newTextTuple
  refine wpAny_bind (wpAny_newObjAsIs_type ?_)
  have k1 : Ev s { s with heap := s.heap.push { cls := .type "tuple", dict := none, data := .seq [Value.ref (L + 1)].toArray } } := ⟨.push _ _, rfl, .refl _⟩
  refine wpAny_bind (f_code (c := 228) (P := 224) rfl (T.kp k1.kp) (by decide) rfl fun code s₂ ev2 hz2 hg2 cr => ?_)
  have X2 := (X.mono k1.kp).mono ev2.kp
  refine wpAny_bind ((bi_of X2).here ?_)
  refine wpAny_bind ((looks_nsIn X2 (g_name w)).here ?_)
  refine wpAny_bind (wpAny_pure (a := Value.none) ?_)
  refine wpAny_newObj_type ?_ (by size_fits)
  have k3 : Ev s₂ { s₂ with heap := s₂.heap.push (fnObj (fdTI (L + 1) (.ref s.heap.objs.size) code (.str "law_bj5025_01" 489))) } := ⟨.push _ _, rfl, .refl _⟩
  refine wpAny_bind (wpAny_pure (a := Value.ref s₂.heap.objs.size) (wpAny_bind (wpAny_standAt (wpAny_bind (wpAny_bindName ?_)))))
  refine wpAny_mono (h _ s₂.heap.objs.size (.ref s.heap.objs.size) code (.str "law_bj5025_01" 489) (k1.trans (ev2.trans k3)) ?_ (Heap.get?_push_size _ rfl) (cr.k fun b o q c => k3.ka.k _ _ q (code_tab c)) hg2) (fun _ _ z => wpAny_pure z) fun _ _ z => z
  have : s.heap.objs.size + 1 ≤ s₂.heap.objs.size := by rw [← Heap.size_push (h := s.heap)]; exact hz2
  omega
end
end Mine
end

-- WL
section
open PySem PySem.W PySem.Calls PyProof.Rows
set_option maxHeartbeats 4000000
namespace Mine
theorem j_iter (w : World) : findIn (KV w) (.ref 240) "__iter__" = some (some (.ref 119)) := by kernel_rfl
theorem jf_iter (w : World) : isFn (KV w) (.ref 119) = true := by kernel_rfl
section
variable {prog : Program} {w : World} {A : Around} {E : Value → Shared → Prop} {s : Shared} {env : Env}
/-- iter(a), for a ParseResults -/
theorem v_iter {n L : Nat} {a : Addr} {m : Str → Option Value} {vs : List Value} {kvs : List (Str × Value)} {S : Str → Bool} {Q : Value → Shared → Prop} (R : Rm (n + 1) A) (X : Wd w s.heap) (F : s.heap.Ns L m) (hL : 333 ≤ L) (P : PRx prog w s.heap a vs kvs S)
    (h : ∀ (it l : Nat) s', Ev s s' → s.heap.objs.size ≤ it → s'.heap.IsListIter it l 0 → s'.heap.IsList l vs.toArray → l < s.heap.objs.size → Q (.ref it) s') : wpAny (model prog w) A (pyIter (.ref a)) Q E s := by
  obtain ⟨dx, sl, ha, hx⟩ := P.inst
  have I : InstAt s.heap a (pcls dx sl) 240 (some noDict) := ⟨ha, rfl, rfl, hx⟩
  refine owit_iter (fr_of F hL) (wd_cut X) I (j_iter w) (jf_iter w) ((c_iter R X P).call fun v s' z => ?_)
  obtain ⟨⟨it, l, rfl, h1, h2, h3, h4⟩, ev⟩ := z
  unfold OwitIt
  exact wpAny_specialOf h3.typeIs slot_listiter_next.lookup (h it l s' ev h1 h3 h4 h2)
end
end Mine
end

-- WM
section
open PySem PySem.W PySem.Calls PyProof.Rows
set_option maxHeartbeats 4000000
namespace Mine
/-- the function to_item at f, its cell at c -/
def TIat (h : Heap) (c f : Addr) : Prop := ∃ ct code pm, h.get? f = some (fnObj (fdTI c ct code pm)) ∧ CR h code "ParseResults.as_dict.<locals>.to_item" ∧ CellAt h c (some (.ref f))
theorem TIat.ka {h h' : Heap} {c f : Addr} (x : TIat h c f) (k : Ka h h') : TIat h' c f := by
  obtain ⟨ct, code, pm, a, b, d⟩ := x
  exact ⟨ct, code, pm, k.k _ _ a rfl, b.k fun b o q c => k.k _ _ q (code_tab c), d.ka k⟩
theorem ti_nocell : ∀ x ∈ (dScope tiDef).names, x.2 ≠ .cell := by decide
section
variable {prog : Program} {w : World} {A : Around} {E : Value → Shared → Prop} {s : Shared} {env : Env}
theorem c_ti_str {n : Nat} {c f : Addr} {x : Str} {t : Tok} (R : Rm (n + 2) A) (X : Wd w s.heap) (F : TIat s.heap c f) :
    Ret prog w A (.ref f) ⟨[.str x t], []⟩ s (fun r s' => r = .str x t ∧ Ev s s' ∧ s.heap.objs.size ≤ s'.heap.objs.size) := by
  obtain ⟨ct, code, pm, hf, cr, hc⟩ := F
  refine b_enter X X.big (Nat.le_refl _) (binds := [("obj", .str x t)]) (body := dBody tiDef) R.room hf rfl cr.rec rfl (.of_eq rfl) ti_nocell (locs rfl) fun L s₁ B hL ev => ?_
  refine wpAny_execs_cons (wpAny_If (isTrue_plain (Call_ (r_builtin B.wd (n_isi3 w) (n_isi0 w) (PyProof.Rows.callWith_builtin1 (wpAny_items_cons (r_local B.fm rfl (wpAny_items_cons (r_global B.wd (n_PR w) (wpAny_items_nil ?_))))))))))
  refine kia_one kitx_str B.wd trivial (i_str w) nofun fun t₂ => wpAny_truthy_bool ?_
  exact wpAny_execs_cons (wpAny_Return_some (r_local (B.tok t₂).fm rfl ⟨rfl, (B.tok t₂).out.ev (Nat.le_refl _), Nat.le_of_lt B.lt⟩))
/-- to_item of a ParseResults without names, its tokens told by to_item -/
theorem c_ti_pr {n : Nat} {c f a : Addr} {vs : List Value} {S : Str → Bool} {G : Nat → Heap → Value → Nat → Prop} (R : Rm (n + 5) A) (X : Wd w s.heap) (F : TIat s.heap c f) (P : PRx prog w s.heap a vs [] S)
    (hG : ∀ hi lo h h' y j, G hi h y j → St lo hi h h' → G hi h' y j) (hGm : ∀ hi hi' h y j, hi ≤ hi' → G hi' h y j → G hi h y j)
    (helt : ∀ (A' : Around) (s' : Shared) j v, Rm (n + 3) A' → Wd w s'.heap → Ka s.heap s'.heap → TIat s'.heap c f → vs[j]? = some v → Ret prog w A' (.ref f) ⟨[v], []⟩ s' (fun r s'' => Ev s' s'' ∧ s'.heap.objs.size ≤ s''.heap.objs.size ∧ G s'.heap.objs.size s''.heap r j)) :
    Ret prog w A (.ref f) ⟨[.ref a], []⟩ s (fun r s' => Ev s s' ∧ s.heap.objs.size ≤ s'.heap.objs.size ∧ ∃ (D : Nat) (ys : List Value) (k : Nat), r = .ref D ∧ s.heap.objs.size ≤ D ∧ IsL s'.heap D ys.toArray k ∧ ys.length = vs.length ∧ ∀ (j : Nat) y, ys[j]? = some y → G s.heap.objs.size s'.heap y j) := by
  have F0 := F
  obtain ⟨ct, code, pm, hf, cr, hc⟩ := F
  have hz : vs.length ≤ 64 := by obtain ⟨_, _, _, _, _, _, _, _, _, _, _, _, _, _, z, _⟩ := P; exact z
  refine b_enter X X.big (Nat.le_refl _) (binds := [("obj", .ref a)]) (body := dBody tiDef) R.room hf rfl cr.rec rfl (.of_eq rfl) ti_nocell (locs rfl) fun L s₁ B hL ev => ?_
  have hs1 : s.heap.objs.size ≤ s₁.heap.objs.size := Nat.le_of_lt B.lt
  have P1 := P.kp ev.kp
  obtain ⟨dx, sl, ha, hx⟩ := P1.inst
  refine wpAny_execs_cons (wpAny_If (isTrue_plain (Call_ (r_builtin B.wd (n_isi3 w) (n_isi0 w) (PyProof.Rows.callWith_builtin1 (wpAny_items_cons (r_local B.fm rfl (wpAny_items_cons (r_global B.wd (n_PR w) (wpAny_items_nil ?_))))))))))
  refine isi_call B.wd (pr_type ha) (i_PR w) nofun (wpAny_truthy_bool ?_)
  refine wpAny_execs_cons (wpAny_Return_some (wpAny_IfExp (isTrue_plain (MethodCall_ (r_local B.fm rfl (pr_meth B.wd ha hx (m_hk w) (mf_hk w) (callWith_K0 B.wd (mk_hk w) ?_)))))))
  refine (c_haskeys ((R.deep _).less (k := n + 1) (by omega)) B.wd P1).call fun r s₂ z => ?_
  obtain ⟨rfl, ev2⟩ := z
  refine wpAny_truthy_bool ?_
  have B2 := B.ev ev2
  refine v_ListComp (cl := [("to_item", c)]) rfl rfl (by decide) rfl (by decide) B2.wd ?_
  refine r_local B2.fm rfl (v_iter ((R.deep _).less (k := n + 1) (by omega)) B2.wd B2.fm.ns (Nat.le_trans X.big hL) (P1.kp ev2.kp) fun it l s₃ ev3 hit hli hls hll => ?_)
  have hit3 : it < s₃.heap.objs.size := by obtain ⟨o, q, _⟩ := hli; exact Heap.lt_size q
  have hs23 : s₂.heap.objs.size ≤ s₃.heap.objs.size := Nat.le_of_lt (Nat.lt_of_le_of_lt hit hit3)
  refine ⟨ev3, hs23, vs.length, 0, _, _, fun _ => true, fun h j y => G (s₃.heap.objs.size + 2) h y j, by omega, ⟨Nat.zero_le _, hli, hls⟩, src_list (n_hA R _) hit hit3 (Nat.lt_of_lt_of_le hll hs23) (Nat.ne_of_lt (Nat.lt_of_lt_of_le hll hit)), fun h h' j y g st => hG _ _ _ _ _ _ g st, ?_, ?_⟩
  · intro j v s' m E' hj ef X' hz' hv hn hm
    refine wpAny_tests_nil ⟨rfl, .refl _, fun _ => ?_⟩
    have ka : Ka s.heap s'.heap := (ev.ka.trans ev2.ka).trans (ef.kf.ka (Nat.le_refl _))
    have F' := F0.ka ka
    obtain ⟨ct', code', pm', hf', cr', hc'⟩ := id F'
    refine Call_ (r_free (c := c) rfl hc' (callWith_meth (h₀ := s'.heap) rfl hf' (wpAny_items_cons (r_localN hn hm (wpAny_items_nil ⟨fun _ _ q => q, ?_⟩)))))
    refine (helt _ _ j v ((R.deep _).less (k := n + 3) (by omega)) X' ka F' hv).call fun r s₄ z => ?_
    exact ⟨z.1, hGm _ _ _ _ _ hz' z.2.2⟩
  · intro s' ys k ev4 hl4 hall
    obtain ⟨hyl, hy⟩ := all2_range hall
    replace B2 := B2.ev (s' := s') ev4
    exact ⟨B2.out.ev (Nat.le_refl _), Nat.le_of_lt B2.lt, s₃.heap.objs.size, ys, k, rfl, Nat.le_trans (Nat.le_of_lt (by have := (B.ev ev2).lt; exact this)) hs23, hl4, hyl, fun j y e => hGm _ _ _ _ _ (Nat.le_trans (Nat.le_of_lt (by have := (B.ev ev2).lt; exact this)) (Nat.le_trans hs23 (Nat.le_add_right _ _))) (hy j y e)⟩
end
end Mine
end

-- WN
section
open PySem PySem.W PySem.Calls PyProof.Rows
set_option maxHeartbeats 4000000
namespace Mine
/-- a new list of values told plain -/
def TL2 (hi : Nat) (h : Heap) (y : Value) (Is : List Itm) : Prop := ∃ (l : Nat) (ys : List Value) (k : Nat), y = .ref l ∧ hi ≤ l ∧ IsL h l ys.toArray k ∧ All2 (TL hi h) ys Is
theorem TL2.st {hi lo : Nat} {h h' : Heap} {y : Value} {Is : List Itm} (x : TL2 hi h y Is) (st : St lo hi h h') : TL2 hi h' y Is := by
  obtain ⟨l, ys, k, e, hl, q, a⟩ := x
  exact ⟨l, ys, k, e, hl, st l _ (.inr hl) q rfl, a.mono fun _ _ z => z.st st⟩
theorem TL2.mono {hi hi' : Nat} {h : Heap} {y : Value} {Is : List Itm} (x : TL2 hi' h y Is) (le : hi ≤ hi') : TL2 hi h y Is := by
  obtain ⟨l, ys, k, e, hl, q, a⟩ := x
  exact ⟨l, ys, k, e, Nat.le_trans le hl, q, a.mono fun _ _ z => z.mono le⟩
theorem tells {hi : Nat} {h : Heap} : ∀ {ys : List Value} {Is : List Itm}, All2 (TL hi h) ys Is → All2 (Rd h) ys (Is.map Itm.tell)
  | _, _, .nil => .nil
  | _, _, .cons x y => .cons x.rd (tells y)
theorem TL2.rd {hi : Nat} {h : Heap} {y : Value} {Is : List Itm} (x : TL2 hi h y Is) : Rd h y (.list (Is.map Itm.tell)) := by
  obtain ⟨l, ys, k, e, hl, q, a⟩ := x
  subst e
  exact rd_list (IsL.isList q) (tells a)
section
variable {prog : Program} {w : World} {A : Around} {E : Value → Shared → Prop} {s : Shared} {env : Env}
theorem c_ti_item {n N : Nat} {c f : Addr} {v : Value} {I : Itm} (R : Rm (n + 5) A) (X : Wd w s.heap) (F : TIat s.heap c f) (V : ItA prog w N s.heap v I) :
    Ret prog w A (.ref f) ⟨[v], []⟩ s (fun r s' => Ev s s' ∧ s.heap.objs.size ≤ s'.heap.objs.size ∧ TL s.heap.objs.size s'.heap r I) := by
  cases I with
  | s x =>
    obtain ⟨t, rfl⟩ := V
    exact (c_ti_str (R.less (k := n + 2) (by omega)) X F).mono fun r s' z => ⟨z.2.1, z.2.2, t, z.1⟩
  | sub xs =>
    obtain ⟨a, vs, S, rfl, lN, P, hv⟩ := V
    refine (c_ti_pr (G := fun _ _ y j => vs[j]? = some y) R X F P (fun _ _ _ _ _ _ g _ => g) (fun _ _ _ _ _ _ g => g) fun A' s' j v R' X' ka F' hj => ?_).mono fun r s' z => ?_
    · obtain ⟨x, t, rfl⟩ := strs_of hv v (List.mem_of_getElem? hj)
      exact (c_ti_str (R'.less (k := n + 2) (by omega)) X' F').mono fun r s'' z => ⟨z.2.1, z.2.2, by rw [z.1]; exact hj⟩
    · obtain ⟨ev, hz, D, ys, k, rfl, hD, hl, hyl, hy⟩ := z
      have e : ys = vs := List.ext_getElem? fun i => by
        by_cases hi : i < ys.length
        · rw [List.getElem?_eq_getElem hi]; exact (hy i _ (List.getElem?_eq_getElem hi)).symm
        · rw [List.getElem?_eq_none (by omega), List.getElem?_eq_none (by omega)]
      subst e
      exact ⟨ev, hz, D, ys, k, rfl, hD, hl, hv⟩
/-- to_item of what a starred name gives -/
theorem c_ti_list {n N : Nat} {c f a : Addr} {vs : List Value} {S : Str → Bool} {Is : List Itm} (R : Rm (n + 7) A) (X : Wd w s.heap) (F : TIat s.heap c f) (P : PRx prog w s.heap a vs [] S) (hv : All2 (ItA prog w N s.heap) vs Is) :
    Ret prog w A (.ref f) ⟨[.ref a], []⟩ s (fun r s' => Ev s s' ∧ s.heap.objs.size ≤ s'.heap.objs.size ∧ TL2 s.heap.objs.size s'.heap r Is) := by
  refine (c_ti_pr (G := fun hi h y j => ∃ I, Is[j]? = some I ∧ TL hi h y I) (R.less (k := n + 2 + 5) (by omega)) X F P (fun _ _ _ _ _ _ ⟨I, e, g⟩ st => ⟨I, e, g.st st⟩) (fun _ _ _ _ _ l ⟨I, e, g⟩ => ⟨I, e, g.mono l⟩) fun A' s' j v R' X' ka F' hj => ?_).mono fun r s' z => ?_
  · obtain ⟨I, hI, V⟩ := hv.get hj
    exact (c_ti_item (R'.less (k := n + 5) (by omega)) X' F' (V.kp ka.kp)).mono fun r s'' z => ⟨z.1, z.2.1, I, hI, z.2.2⟩
  · obtain ⟨ev, hz, D, ys, k, rfl, hD, hl, hyl, hy⟩ := z
    exact ⟨ev, hz, D, ys, k, rfl, hD, hl, all2_of (hyl.trans hv.length) fun i y e => hy i y e⟩
end
end Mine
end

-- WO
section
open PySem PySem.W PySem.Calls PyProof.Rows
set_option maxHeartbeats 4000000
namespace Mine
section
variable {prog : Program} {w : World} {A : Around} {E : Value → Shared → Prop} {s : Shared} {env : Env}
theorem c_lp_str {n : Nat} {x : Str} {t : Tok} (R : Rm (n + 2) A) (X : Wd w s.heap) :
    Ret prog w A (.ref 301) ⟨[.str x t], []⟩ s (fun r s' => r = .str x t ∧ Ev s s' ∧ s.heap.objs.size ≤ s'.heap.objs.size) := by
  refine b_enter X X.big (Nat.le_refl _) (binds := [("told", .str x t)]) (body := bodyOf fd_plain) R.room (fo_plain X) rfl (code_of X (by kernel_rfl)) rfl (.of_eq rfl) (by decide) (locs rfl) fun L s₁ B hL ev => ?_
  refine wpAny_execs_cons (wpAny_Return_some (wpAny_IfExp (isTrue_plain (Call_ (r_builtin B.wd (n_isi3 w) (n_isi0 w) (PyProof.Rows.callWith_builtin1 (wpAny_items_cons (r_local B.fm rfl (wpAny_items_cons (r_global B.wd (n_PR w) (wpAny_items_nil ?_)))))))))))
  refine kia_one kitx_str B.wd trivial (i_str w) nofun fun t₂ => wpAny_truthy_bool ?_
  exact r_local (B.tok t₂).fm rfl ⟨rfl, (B.tok t₂).out.ev (Nat.le_refl _), Nat.le_of_lt B.lt⟩
theorem c_lp_pr {n N : Nat} {a : Addr} {vs : List Value} {kvs : List (Str × Value)} {S : Str → Bool} {Is : List Itm} (R : Rm (n + 5) A) (X : Wd w s.heap) (P : PRx prog w s.heap a vs kvs S) (hv : All2 (ItA prog w N s.heap) vs Is) :
    Ret prog w A (.ref 301) ⟨[.ref a], []⟩ s (fun r s' => Ev s s' ∧ s.heap.objs.size ≤ s'.heap.objs.size ∧ TL2 s.heap.objs.size s'.heap r Is) := by
  refine b_enter X X.big (Nat.le_refl _) (binds := [("told", .ref a)]) (body := bodyOf fd_plain) R.room (fo_plain X) rfl (code_of X (by kernel_rfl)) rfl (.of_eq rfl) (by decide) (locs rfl) fun L s₁ B hL ev => ?_
  have hs1 : s.heap.objs.size ≤ s₁.heap.objs.size := Nat.le_of_lt B.lt
  have P1 := P.kp ev.kp
  obtain ⟨dx, sl, ha, hx⟩ := P1.inst
  refine wpAny_execs_cons (wpAny_Return_some (wpAny_IfExp (isTrue_plain (Call_ (r_builtin B.wd (n_isi3 w) (n_isi0 w) (PyProof.Rows.callWith_builtin1 (wpAny_items_cons (r_local B.fm rfl (wpAny_items_cons (r_global B.wd (n_PR w) (wpAny_items_nil ?_)))))))))))
  refine isi_call B.wd (pr_type ha) (i_PR w) nofun (wpAny_truthy_bool ?_)
  refine MethodCall_ (r_local B.fm rfl (pr_meth B.wd ha hx (m_al w) (mf_al w) (callWith_K0 B.wd (mk_al w) ?_)))
  refine (c_as_list (R.deep _) B.wd P1 (hv.mono fun _ _ z => z.kp ev.kp)).call fun r s₂ z => ?_
  obtain ⟨ev2, hz2, D, ys, k, rfl, hD, hl, hall⟩ := z
  exact ⟨(B.ev ev2).out.ev (Nat.le_refl _), Nat.le_of_lt (B.ev ev2).lt, D, ys, k, rfl, Nat.le_trans hs1 hD, hl, hall.mono fun _ _ z => z.mono hs1⟩
end
end Mine
end

-- WP
section
open PySem PySem.W PySem.Calls PyProof.Rows
set_option maxHeartbeats 4000000
namespace Mine
def IntV (v : Value) : Prop := ∃ i t, v = .int i t
section
variable {prog : Program} {w : World} {A : Around} {E : Value → Shared → Prop} {s : Shared} {env : Env}
/-- _law_draw(draws, size) -/
theorem c_draw {n N d c : Nat} {v : Value} {vs : List Value} {z : Nat} {t : Tok} (R : Rm (n + 2) A) (X : Wd w s.heap) (hN : 333 ≤ N) (hNs : N ≤ s.heap.objs.size) (hd : IsL s.heap d (v :: vs).toArray c) (hNd : N ≤ d) (hv : IntV v) (hz : 0 < z) (hz2 : z < 1000) (hl : vs.length ≤ 100) :
    Ret prog w A (.ref 268) ⟨[.ref d, .int z t], []⟩ s (fun r s' => Ef N s s' ∧ Kx [d] s.heap s'.heap ∧ N ≤ s'.heap.objs.size ∧ ∃ i t' q c', r = .int i t' ∧ 0 ≤ i ∧ i < z ∧ IntV q ∧ IsL s'.heap d (vs ++ [q]).toArray c') := by
  obtain ⟨i0, t0, rfl⟩ := hv
  refine b_enter X hN hNs (binds := [("draws", .ref d), ("size", .int z t)]) (body := bodyOf fd_draw) R.room (fo_draw X) rfl (code_of X (by kernel_rfl)) rfl (.of_eq rfl) (by decide) (locs rfl) fun L s₁ B hL ev => ?_
  have kx : Kx [d] s.heap s₁.heap := .of ev.ka
  have hd1 : IsL s₁.heap d (Value.int i0 t0 :: vs).toArray c := ev.kp.k _ _ hd rfl
  obtain ⟨h₁, g₁, d₁, t₁, os₁⟩ := s₁
  refine wpAny_execs_cons (wpAny_Assign_Name (MethodCall_ (r_local B.fm rfl ?_)))
  refine getMethod_builtin (show (⟨h₁, g₁, d₁, t₁, os₁⟩ : Shared).TypeIs (.ref d) "list" from ⟨_, hd1, rfl⟩) F.plainAttrs_list F.slot_list_pop F.type_list_pop (fun a e => by cases e; exact ⟨_, hd1, rfl⟩) ?_
  refine callWith_method1 (wpAny_items_cons (wpAny_Constant_int (wpAny_items_nil ?_)))
  refine call_meets F.slot_list_pop ⟨_, hd1, rfl⟩ F.entry_list_pop (F.args_list_pop_2 _ _) (PySem.MeetsSeq.list_pop_at d _ c 0 t₁ 0 (.int i0 t0) (by decide) (by simp [seqIndex?]) (by simp) (by rw [List.size_toArray, List.length_cons, sizeLine_eq]; omega)) ⟨hd1, ?_⟩
  have e0 : (Value.int i0 t0 :: vs).toArray.eraseIdxIfInBounds 0 = vs.toArray := by simp
  have hd2 : ∃ c2, IsL (h₁.update d (Obj.mapSeq fun xs => xs.eraseIdxIfInBounds 0)) d vs.toArray c2 := ⟨_, by have := IsL.update hd1 (fun xs => xs.eraseIdxIfInBounds 0); rw [e0] at this; exact this⟩
  have S : Heap.SameBut d h₁ (h₁.update d (Obj.mapSeq fun xs => xs.eraseIdxIfInBounds 0)) := Heap.SameBut.update ..
  generalize h₁.update d (Obj.mapSeq fun xs => xs.eraseIdxIfInBounds 0) = h₂ at *
  obtain ⟨c2, hd2⟩ := hd2
  replace kx := kx.trans (.at_ S (by simp))
  replace B := B.at_ (t := t₁ + 1) S hNd (B.ne hd1 (by simp)) ⟨_, hd1, nc_cls (by simp)⟩
  clear S hd1
  refine b_store B fun h₃ B K S => ?_
  have hd3 := K.k _ _ hd2 rfl
  replace kx := kx.lo S hL
  clear K S hd2
  refine wpAny_execs_cons (wpAny_Expr (MethodCall_ (r_local B.fm rfl ?_)))
  refine getMethod_builtin (T := "list") ⟨_, hd3, rfl⟩ F.plainAttrs_list F.slot_list_append F.type_list_append (fun a e => by cases e; exact ⟨_, hd3, rfl⟩) ?_
  refine callWith_method1 (wpAny_items_cons (wpAny_BinOp (r_local B.fm rfl (r_local B.fm rfl (floordiv_int (by omega) ?_ (.inl ?_))))))
  · refine wpAny_items_nil (wpAny_list_append_plain (items := vs.toArray) ⟨c2, hd3⟩ (fun h₄ hl4 S => ?_) (by rw [List.size_toArray, sizeLine_eq]; omega))
    obtain ⟨c4, hl4⟩ := hl4
    replace B := (B.tok (t₁ + 1 + 1 + 1)).at_ (t := t₁ + 1 + 1 + 1) S hNd (B.ne hd3 (by simp)) ⟨_, hd3, nc_cls (by simp)⟩
    replace kx := kx.trans (.at_ S (by simp))
    refine wpAny_execs_cons (wpAny_Return_some (wpAny_BinOp (r_local B.fm rfl (r_local B.fm rfl (mod_int (by omega) ?_)))))
    have e5 := fun q : Value => (show (vs ++ [q]).toArray = vs.toArray.push q by simp)
    rw [← e5] at hl4
    have hm : i0.fmod (z : Int) = i0 % z := Int.fmod_eq_emod_of_nonneg _ (by omega)
    exact ⟨(B.tok _).out, kx, Nat.le_of_lt B.lt, i0.fmod z, _, _, c4, rfl, by rw [hm]; exact Int.emod_nonneg _ (by omega), by rw [hm]; exact Int.emod_lt_of_pos _ (by omega), ⟨_, _, rfl⟩, hl4⟩
  · exact PyProof.noPylong_small (by omega)
end
end Mine
end

-- WQ
section
open PySem PySem.W PySem.Calls PyProof.Rows
set_option maxHeartbeats 4000000
namespace Mine
section
variable {prog : Program} {w : World} {A : Around} {E : Value → Shared → Prop} {s : Shared} {env : Env}
/-- _law_names() -/
theorem c_names {n : Nat} (R : Rm (n + 1) A) (X : Wd w s.heap) :
    Ret prog w A (.ref 261) ⟨[], []⟩ s (fun r s' => Ev s s' ∧ s.heap.objs.size ≤ s'.heap.objs.size ∧ ∃ D t1 t2 t3 t4, r = .ref D ∧ IsL s'.heap D [.none, .str "" t1, .str "x" t2, .str "y" t3, .int 7 t4].toArray 0) := by
  refine b_enter X X.big (Nat.le_refl _) (binds := []) (body := bodyOf fd_names) R.room (fo_names X) rfl (code_of X (by kernel_rfl)) rfl (.of_eq rfl) (by decide) (locs rfl) fun L s₁ B hL ev => ?_
  obtain ⟨h₁, g₁, d₁, t₁, os₁⟩ := s₁
  refine wpAny_execs_cons (wpAny_Return_some (wpAny_List (wpAny_items_cons (wpAny_Constant_none (wpAny_items_cons (wpAny_Constant_str (wpAny_items_cons (wpAny_Constant_str (wpAny_items_cons (wpAny_Constant_str (wpAny_items_cons (wpAny_Constant_int (wpAny_items_nil ⟨show 5 ≤ sizeLine by decide, ?_⟩)))))))))))))
  replace B := B.push { cls := .type "list", data := .seq [Value.none, .str "" t₁, .str "x" (t₁ + 1), .str "y" (t₁ + 1 + 1), .int 7 (t₁ + 1 + 1 + 1)].toArray } (t₁ + 1 + 1 + 1 + 1)
  exact ⟨B.out.ev (Nat.le_refl _), Nat.le_of_lt B.lt, _, _, _, _, _, rfl, Heap.get?_push_size _ rfl⟩
end
end Mine
end

-- WR
section
open PySem PySem.W PySem.Calls PyProof.Rows
set_option maxHeartbeats 4000000
namespace Mine
section
variable {prog : Program} {w : World} {A : Around} {E : Value → Shared → Prop} {s : Shared} {env : Env}
/-- a pair taken apart into two names -/
theorem v_pair {e e₁ : Shared} {lo₁ lo gl : Nat} {x y : Str} {px py : Pos} {kk : Nat} {tp : Pos} {t : Nat} {a b : Value} {m : Str → Option Value} {Q : Unit → Shared → Prop} (hh : A.handled = none) (ht : s.heap.IsTuple t #[a, b])
    (hx : env.kindOf x = some .local) (hy : env.kindOf y = some .local) (hp : (env.scope.kind == .class || (env.scope.kind == .module && env.locals != env.globals)) = false) (hn : s.heap.Ns env.locals m)
    (h : ∀ h₁ h₂ h₃, (∀ c o, s.heap.get? c = some o → h₁.get? c = some o) → h₁.Ns env.locals m → Heap.SameBut env.locals h₁ h₂ → h₂.Ns env.locals (fun z => if z = x then some a else m z) → Heap.SameBut env.locals h₂ h₃ →
      h₃.Ns env.locals (fun z => if z = y then some b else if z = x then some a else m z) → Q () { s with heap := h₃, toks := s.toks + 1 + 1 }) :
    wpAny (model prog w) A (assign (.Tuple [.Name x px, .Name y py] kk tp) env (.ref t)) Q E s := by
  refine wpAny_assign_Tuple hh ht rfl rfl fun h₁ he₁ => ?_
  have hL : env.locals ≠ s.heap.objs.size := Nat.ne_of_lt hn.lt
  have up₁ : ∀ c o, s.heap.get? c = some o → h₁.get? c = some o := fun c o e => he₁ c o (Nat.ne_of_lt (Heap.lt_size e)) e
  have hn₁ : h₁.Ns env.locals m := ns_at hn fun o e => up₁ _ o e
  show wpAny _ _ (assignInOrder [assign (.Name x px) env, assign (.Name y py) env] [a, b]) _ _ _
  refine assignInOrder_cons ?_
  refine wpAny_assign_Name (wpAny_storeName_local hx hn₁ (fun h₂ hn₂ hs₂ => ?_) hp)
  refine assignInOrder_cons ?_
  refine wpAny_assign_Name (wpAny_storeName_local hy hn₂ (fun h₃ hn₃ hs₃ => ?_) hp)
  exact assignInOrder_nil (h h₁ h₂ h₃ up₁ hn₁ hs₂ hn₂ hs₃ hn₃)
/-- the code of a generator expression over pairs -/
abbrev tgt2 (x y : Str) (px py : Pos) (kk : Nat) (tp : Pos) : Expr := .Tuple [.Name x px, .Name y py] kk tp
abbrev gLoop2 (elt iter tgt : Expr) (scope : Scope) (pos : Pos) (it : Value) (cenv : Env) : Code := .compLoop (.GeneratorExp elt [⟨tgt, iter, [], 0⟩] scope pos) 0 it .none cenv
abbrev gStart2 (elt iter tgt : Expr) (scope : Scope) (pos : Pos) (it : Value) (cenv : Env) : Code := .compStart (.GeneratorExp elt [⟨tgt, iter, [], 0⟩] scope pos) 0 it .none cenv
section
variable {e e₁ : Shared} {lo₁ gl₁ lo N : Nat} {it : Value} {I : Nat → Shared → Prop} {P P₂ : Nat → Nat → Value → Heap → Prop} {Pt : Nat → Nat → Value → Value → Heap → Prop} {elt iter : Expr} {x y : Str} {px py : Pos} {kk : Nat} {tp : Pos} {scope : Scope} {pos : Pos} {cenv : Env}
theorem seg_turn2 (hh : A.handled = none) (S : Src prog w (A.over (gLoop2 elt iter (tgt2 x y px py kk tp) scope pos it cenv) []) e₁ lo₁ gl₁ it N I P)
    (hx : cenv.kindOf x = some .local) (hy : cenv.kindOf y = some .local) (hxy : x ≠ y) (hp : (cenv.scope.kind == .class || (cenv.scope.kind == .module && cenv.locals != cenv.globals)) = false) (hco : cenv.scope.isCoroutine = false)
    (he : e.heap.objs.size ≤ e₁.heap.objs.size) (heg : e.gens.size ≤ e₁.gens.size) (h1 : lo₁ ≤ cenv.locals) (h1e : e₁.heap.objs.size ≤ lo₁) (h2 : cenv.locals < lo) (hbig : 333 ≤ lo) (hb1 : 333 ≤ e₁.heap.objs.size)
    (hgo : ∀ A' j (s' : Shared) v (Q : Unit → Shared → Prop) E', I j s' → Q () s' → wpAny (model prog w) A' (letOwnedTupleGo (tgt2 x y px py kk tp) it v) Q E' s')
    (hT : ∀ hi j v h, P hi j v h → ∃ t a b, v = .ref t ∧ hi ≤ t ∧ h.IsTuple t #[a, b] ∧ Pt hi j a b h) (hPt : ∀ hi j a b h h', Pt hi j a b h → St e₁.heap.objs.size hi h h' → Pt hi j a b h')
    (helt : ∀ E' hi j a b (s : Shared) m, j < N → Kf e₁.heap.objs.size e₁.heap s.heap → Wd w s.heap → 333 ≤ hi → hi ≤ s.heap.objs.size → Pt hi j a b s.heap → s.heap.Ns cenv.locals m → m x = some a → m y = some b →
      wpAny (model prog w) (A.over (gLoop2 elt iter (tgt2 x y px py kk tp) scope pos it cenv) []) (eval elt cenv) (fun z s' => Ev s s' ∧ s.heap.objs.size ≤ s'.heap.objs.size ∧ P₂ hi j z s'.heap) E' s) :
    ∀ k j (s : Shared), N - j = k → j ≤ N → GIn w e₁ I cenv.locals j s →
      Seg (model prog w) A (gEnd e lo gl₁) (gProto w e e₁ lo₁ lo gl₁ N I cenv.locals P₂) (N - j) s (gLoop2 elt iter (tgt2 x y px py kk tp) scope pos it cenv) ((model prog w).den (gLoop2 elt iter (tgt2 x y px py kk tp) scope pos it cenv)) [] s := by
  intro k
  induction k with
  | zero =>
    intro j s hk hj G
    have hjn : j = N := by omega
    show Seg _ A _ _ _ s _ ((compTurn (.GeneratorExp elt [⟨tgt2 x y px py kk tp, iter, [], 0⟩] scope pos) 0 it .none cenv).onRaise (leaving cenv)) [] s
    rw [compTurn_gen, Sem.onRaise_eq_wrap]
    refine seg_bind_wrap (wpAny_standAt ?_)
    have hsz : lo₁ ≤ s.heap.objs.size := by obtain ⟨m, hm⟩ := G.ns; exact Nat.le_of_lt (Nat.lt_of_le_of_lt h1 hm.lt)
    refine seg_bind_wrap (wpAny_mono (S.next s.heap.objs.size j s (fun _ _ => False) G.src G.wd hsz (Nat.le_refl _)) (fun r s₁ z => ?_) fun _ _ z => z.elim)
    obtain ⟨nx, z⟩ := z
    cases r with
    | none => exact seg_end (.ok .next) ⟨rfl, hk, nx.base he heg (Nat.le_of_lt (Nat.lt_of_le_of_lt h1 h2)) (Nat.le_refl _)⟩
    | some v => exact absurd z.1 (by omega)
  | succ k ih =>
    intro j s hk hj G
    show Seg _ A _ _ _ s _ ((compTurn (.GeneratorExp elt [⟨tgt2 x y px py kk tp, iter, [], 0⟩] scope pos) 0 it .none cenv).onRaise (leaving cenv)) [] s
    rw [compTurn_gen, Sem.onRaise_eq_wrap]
    refine seg_bind_wrap (wpAny_standAt ?_)
    obtain ⟨m, hm⟩ := G.ns
    have hsz : lo₁ ≤ s.heap.objs.size := Nat.le_of_lt (Nat.lt_of_le_of_lt h1 hm.lt)
    refine seg_bind_wrap (wpAny_mono (S.next s.heap.objs.size j s (fun _ _ => False) G.src G.wd hsz (Nat.le_refl _)) (fun r s₁ z => ?_) fun _ _ z => z.elim)
    obtain ⟨nx, z⟩ := z
    cases r with
    | none => omega
    | some v =>
      obtain ⟨hjn, src1, hz1, hp1⟩ := z
      have hns1 := ns_at hm fun o q => nx.up _ _ h1 q
      refine seg_bind_wrap (hgo _ _ _ _ _ _ src1 ?_)
      obtain ⟨t, a, b, rfl, hit, tup, pt1⟩ := hT _ _ _ _ hp1
      refine seg_bind_wrap (v_pair (e := e) (e₁ := e₁) (lo₁ := lo₁) (lo := lo) (gl := gl₁) hh tup hx hy hp hns1 (fun h₂ h₃ h₄ up2 hn₂ S₃ hn₃ S₄ hn₄ => ?_))
      have nx0 : Nx e lo gl₁ s s₁ := nx.base he heg (Nat.le_of_lt (Nat.lt_of_le_of_lt h1 h2)) (Nat.le_refl _)
      have z2 : s.heap.objs.size ≤ h₂.objs.size := by
        obtain ⟨o, ho, _⟩ := tup
        have hl := Heap.lt_size (up2 _ _ ho)
        exact Nat.le_of_lt (Nat.lt_of_le_of_lt hit hl)
      have nx2 : Nx e lo gl₁ s₁ { s₁ with heap := h₂ } := ⟨.of up2, fun b o _ q => up2 b o q, rfl, fun _ _ _ q => q, fun h => h⟩
      have nx3 : Nx e lo gl₁ s { s₁ with heap := h₄, toks := s₁.toks + 1 + 1 } := ((nx0.trans nx2).trans (.at_ (t := s₁.toks + 1) S₃ (Nat.le_trans he (Nat.le_trans h1e h1)) h2 (nc_ns hn₂))).trans (.at_ (t := s₁.toks + 1 + 1) S₄ (Nat.le_trans he (Nat.le_trans h1e h1)) h2 (nc_ns hn₃))
      have kf2 : Kf e₁.heap.objs.size e₁.heap h₂ := (G.kf.trans nx.kf).trans (.of up2)
      have kf4 : Kf e₁.heap.objs.size e₁.heap h₄ := (kf2.trans (.same S₃ (Nat.le_trans h1e h1) (nc_ns hn₂))).trans (.same S₄ (Nat.le_trans h1e h1) (nc_ns hn₃))
      have X4 : Wd w h₄ := (((G.wd.floor nx.kf hb1).floor (n := e₁.heap.objs.size) (.of up2) hb1).floor (n := e₁.heap.objs.size) (.same S₃ (Nat.le_trans h1e h1) (nc_ns hn₂)) hb1).floor (n := e₁.heap.objs.size) (.same S₄ (Nat.le_trans h1e h1) (nc_ns hn₃)) hb1
      have src2 : I (j + 1) { s₁ with heap := h₂ } := S.ev _ _ _ src1 ⟨.of up2, rfl, .refl _⟩
      have src3 := S.at_ _ _ _ _ (s₁.toks + 1) src2 S₃ h1 (nc_ns hn₂)
      have src4 : I (j + 1) { s₁ with heap := h₄, toks := s₁.toks + 1 + 1 } := S.at_ (j + 1) { s₁ with heap := h₃, toks := s₁.toks + 1 } _ _ (s₁.toks + 1 + 1) src3 S₄ h1 (nc_ns hn₃)
      have hp4 : Pt s.heap.objs.size j a b h₄ := hPt _ _ _ _ _ _ (hPt _ _ _ _ _ _ (hPt _ _ _ _ _ _ pt1 (.ka (.of up2))) (.at_ S₃ (Nat.le_trans h1e h1) (by exact hm.lt))) (.at_ S₄ (Nat.le_trans h1e h1) (by exact hm.lt))
      have z4 : s.heap.objs.size ≤ h₄.objs.size := by rw [S₄.1, S₃.1]; exact z2
      simp only [List.forIn_nil]
      refine seg_bind_wrap (wpAny_pure ?_)
      simp only [if_true]
      have hyo : ∀ v, yieldOut cenv v = yieldValue v := fun v => by simp only [yieldOut, hco, Bool.false_eq_true, if_false]
      simp only [hyo]
      rw [Sem.bind_eq_wrap', Sem.bind_eq_wrap', Sem.wrap_wrap, Sem.wrap_wrap]
      refine seg_wrap (wpAny_mono (helt (fun _ _ => False) s.heap.objs.size j a b { s₁ with heap := h₄, toks := s₁.toks + 1 + 1 } _ hjn kf4 X4 (Nat.le_trans hb1 (Nat.le_trans h1e hsz)) z4 hp4 hn₄ (by simp [hxy]) (by simp)) (fun y s₄ z => ?_) fun _ _ z => z.elim)
      obtain ⟨ev4, hz4, hf⟩ := z
      have hz5 : s.heap.objs.size ≤ s₄.heap.objs.size := Nat.le_trans z4 hz4
      have hns4 := ns_at hn₄ fun o q => ev4.ka.k _ _ q (by obtain ⟨o', es, ep, a1, a2, _⟩ := hn₄; exact tab_dict ((Option.some.inj (q.symm.trans a1)) ▸ a2))
      have G4 : GIn w e₁ I cenv.locals (j + 1) s₄ := ⟨kf4.trans ev4.ka.kf, X4.mono ev4.kp, S.ev _ _ _ src4 ev4, ⟨_, hns4⟩⟩
      rw [show N - j = (N - (j + 1)) + 1 from by omega]
      refine seg_at (seg_yield rfl rfl rfl ⟨j, hjn, by omega, hf, nx3.trans (ev4.nx hbig), fun b o l hb q => ev4.ka.hi (Nat.le_trans hb1 (Nat.le_trans h1e l)) ((S₄.2 b hb).trans ((S₃.2 b hb).trans (up2 b o (nx.up b o l q)))), hz5, G4, fun s'' G'' => ?_⟩)
      exact seg_again rfl (ih (j + 1) s'' (by omega) hjn G'')
theorem seg_start2 (hh : A.handled = none) (S : Src prog w (A.over (gLoop2 elt iter (tgt2 x y px py kk tp) scope pos it cenv) []) e₁ lo₁ gl₁ it N I P)
    (hx : cenv.kindOf x = some .local) (hy : cenv.kindOf y = some .local) (hxy : x ≠ y) (hp : (cenv.scope.kind == .class || (cenv.scope.kind == .module && cenv.locals != cenv.globals)) = false) (hco : cenv.scope.isCoroutine = false)
    (he : e.heap.objs.size ≤ e₁.heap.objs.size) (heg : e.gens.size ≤ e₁.gens.size) (h1 : lo₁ ≤ cenv.locals) (h1e : e₁.heap.objs.size ≤ lo₁) (h2 : cenv.locals < lo) (hbig : 333 ≤ lo) (hb1 : 333 ≤ e₁.heap.objs.size)
    (hgo : ∀ A' j (s' : Shared) v (Q : Unit → Shared → Prop) E', I j s' → Q () s' → wpAny (model prog w) A' (letOwnedTupleGo (tgt2 x y px py kk tp) it v) Q E' s')
    (hT : ∀ hi j v h, P hi j v h → ∃ t a b, v = .ref t ∧ hi ≤ t ∧ h.IsTuple t #[a, b] ∧ Pt hi j a b h) (hPt : ∀ hi j a b h h', Pt hi j a b h → St e₁.heap.objs.size hi h h' → Pt hi j a b h')
    (helt : ∀ E' hi j a b (s : Shared) m, j < N → Kf e₁.heap.objs.size e₁.heap s.heap → Wd w s.heap → 333 ≤ hi → hi ≤ s.heap.objs.size → Pt hi j a b s.heap → s.heap.Ns cenv.locals m → m x = some a → m y = some b →
      wpAny (model prog w) (A.over (gLoop2 elt iter (tgt2 x y px py kk tp) scope pos it cenv) []) (eval elt cenv) (fun z s' => Ev s s' ∧ s.heap.objs.size ≤ s'.heap.objs.size ∧ P₂ hi j z s'.heap) E' s) (s : Shared) (G : GIn w e₁ I cenv.locals 0 s) :
    Seg (model prog w) A (gEnd e lo gl₁) (gProto w e e₁ lo₁ lo gl₁ N I cenv.locals P₂) N s (gStart2 elt iter (tgt2 x y px py kk tp) scope pos it cenv) ((model prog w).den (gStart2 elt iter (tgt2 x y px py kk tp) scope pos it cenv)) [] s := by
  have loop := seg_turn2 hh S hx hy hxy hp hco he heg h1 h1e h2 hbig hb1 hgo hT hPt helt N 0 s (Nat.sub_zero _) (Nat.zero_le _) G
  show Seg _ A _ _ _ s _ ((compStart (.GeneratorExp elt [⟨tgt2 x y px py kk tp, iter, [], 0⟩] scope pos) 0 it .none cenv).onRaise (leaving cenv)) [] s
  unfold compStart
  rw [Sem.onRaise_eq_wrap]
  show Seg _ A _ _ _ s _ ((ask >>= _).wrap _ _ _ _) [] s
  refine seg_bind_wrap (wpAny_askSetting ?_)
  split
  · exact seg_again rfl loop
  · first
      | exact seg_bind_wrap (wpAny_rule (seg_bind_wrap (wpAny_standAt (seg_bind_wrap (S.iter _ s _ _ G.src (seg_again rfl loop))))))
      | (refine seg_bind_wrap (wpAny_rule ?_); show Seg _ A _ _ _ s _ ((standAt iter.pos >>= _).wrap _ _ _ _) [] s; exact seg_bind_wrap (wpAny_standAt (seg_bind_wrap (S.iter _ s _ _ G.src (seg_again rfl loop)))))
end
theorem gen_final2 {k N lo₁ gl₁ tk : Nat} {e e₁ s₃ : Shared} {h' : Heap} {na nb : Value} {elt iter : Expr} {x y : Str} {px py : Pos} {kk : Nat} {tp : Pos} {Pt : Nat → Nat → Value → Value → Heap → Prop} {scope : Scope} {pos : Pos} {cenv : Env} {it : Value} {m0 : Str → Option Value} {P₂ : Nat → Nat → Value → Heap → Prop}
    (hC : cenv.locals = s₃.heap.objs.size) (hns : h'.Ns s₃.heap.objs.size m0) (S4 : Heap.SameBut s₃.heap.objs.size (s₃.heap.push { cls := .type "frame", data := .dict #[] }) h')
    (kf : Kf e₁.heap.objs.size e₁.heap s₃.heap) (X : Wd w s₃.heap) (he : e.heap.objs.size ≤ e₁.heap.objs.size) (heg : e.gens.size ≤ e₁.gens.size) (hge : e.gens.size ≤ s₃.gens.size) (h1 : lo₁ ≤ s₃.heap.objs.size) (h1e : e₁.heap.objs.size ≤ lo₁) (hgl : gl₁ ≤ s₃.gens.size)
    (hb1 : 333 ≤ e₁.heap.objs.size) (hx : cenv.kindOf x = some .local) (hy : cenv.kindOf y = some .local) (hxy : x ≠ y) (hp : (cenv.scope.kind == .class || (cenv.scope.kind == .module && cenv.locals != cenv.globals)) = false) (hco : cenv.scope.isCoroutine = false)
    (hnm : ∃ a b ta tb, na = .str a ta ∧ nb = .str b tb)
    (pst : ∀ hi j v h h', P₂ hi j v h → St e.heap.objs.size hi h h' → P₂ hi j v h') (pmono : ∀ hi hi' j v h, hi ≤ hi' → P₂ hi' j v h → P₂ hi j v h)
    (Sin : ∀ A', Rm k A' → ∃ (I : Nat → Shared → Prop) (P : Nat → Nat → Value → Heap → Prop), I 0 s₃ ∧ Src prog w (A'.in1.over (gLoop2 elt iter (tgt2 x y px py kk tp) scope pos it cenv) []) e₁ lo₁ gl₁ it N I P ∧
      (∀ A' j (s' : Shared) v (Q : Unit → Shared → Prop) E', I j s' → Q () s' → wpAny (model prog w) A' (letOwnedTupleGo (tgt2 x y px py kk tp) it v) Q E' s') ∧
      (∀ hi j v h, P hi j v h → ∃ t a b, v = .ref t ∧ hi ≤ t ∧ h.IsTuple t #[a, b] ∧ Pt hi j a b h) ∧ (∀ hi j a b h h', Pt hi j a b h → St e₁.heap.objs.size hi h h' → Pt hi j a b h') ∧
      ∀ E' hi j a b (s : Shared) m, j < N → Kf e₁.heap.objs.size e₁.heap s.heap → Wd w s.heap → 333 ≤ hi → hi ≤ s.heap.objs.size → Pt hi j a b s.heap → s.heap.Ns cenv.locals m → m x = some a → m y = some b →
      wpAny (model prog w) (A'.in1.over (gLoop2 elt iter (tgt2 x y px py kk tp) scope pos it cenv) []) (eval elt cenv) (fun y s' => Ev s s' ∧ s.heap.objs.size ≤ s'.heap.objs.size ∧ P₂ hi j y s'.heap) E' s) :
    Ev s₃ { s₃ with gens := s₃.gens.push (.fresh (gStart2 elt iter (tgt2 x y px py kk tp) scope pos it cenv)), toks := tk, heap := h'.push { cls := .type "generator", data := .fields #[.int s₃.gens.size 0, na, nb] } } ∧ s₃.heap.objs.size < h'.objs.size ∧
    ∀ A', Rm k A' → ∃ I, I 0 { s₃ with gens := s₃.gens.push (.fresh (gStart2 elt iter (tgt2 x y px py kk tp) scope pos it cenv)), toks := tk, heap := h'.push { cls := .type "generator", data := .fields #[.int s₃.gens.size 0, na, nb] } } ∧
      (∀ j s, I j s → ∃ g, s.heap.IsGen h'.objs.size g) ∧ Src prog w A' e (h'.objs.size + 1) (s₃.gens.size + 1) (.ref h'.objs.size) N I P₂ := by
  have hCs : s₃.heap.objs.size < h'.objs.size := by rw [S4.1, Heap.size_push]; exact Nat.lt_succ_self _
  have kk' : ∀ b o, s₃.heap.get? b = some o → h'.get? b = some o := fun b o q => (S4.2 b (Nat.ne_of_lt (Heap.lt_size q))).trans (Heap.get?_push_of_some _ q)
  have ev : Ev s₃ { s₃ with gens := s₃.gens.push (.fresh (gStart2 elt iter (tgt2 x y px py kk tp) scope pos it cenv)), toks := tk, heap := h'.push { cls := .type "generator", data := .fields #[.int s₃.gens.size 0, na, nb] } } := by
    refine ⟨.of fun b o q => Heap.get?_push_of_some _ (kk' b o q), rfl, fun i x q => ?_, fun h x m => ?_⟩
    · rw [Array.getElem?_push_lt (by
        rcases Nat.lt_or_ge i s₃.gens.size with h | h
        · exact h
        · rw [Array.getElem?_eq_none h] at q; cases q)]
      obtain ⟨h, e⟩ := Array.getElem?_eq_some_iff.mp q
      rw [e]
    · rcases Array.mem_push.mp m with q | q
      · exact h x q
      · rw [q]; rfl
  refine ⟨ev, hCs, fun A' R' => ?_⟩
  obtain ⟨I, P, h0, S, hgo, hT, hPt, helt⟩ := Sin A' R'
  have G : GIn w e₁ I cenv.locals 0 { s₃ with gens := s₃.gens.push (.fresh (gStart2 elt iter (tgt2 x y px py kk tp) scope pos it cenv)), toks := tk, heap := h'.push { cls := .type "generator", data := .fields #[.int s₃.gens.size 0, na, nb] } } :=
    ⟨kf.trans ev.ka.kf, X.mono ev.kp, S.ev _ _ _ h0 ev, m0, hC ▸ ns_at hns fun o q => Heap.get?_push_of_some _ q⟩
  have hbig : 333 ≤ h'.objs.size + 1 := Nat.le_succ_of_le (Nat.le_of_lt (Nat.lt_of_le_of_lt (Nat.le_trans hb1 (Nat.le_trans h1e h1)) hCs))
  refine ⟨_, ⟨Nat.zero_le _, ?_, G, _, Array.getElem?_push_size .., fun s'' G'' => ⟨rfl, seg_start2 (A := A'.in1) (e := e) (lo := h'.objs.size + 1) R'.h S hx hy hxy hp hco he heg (hC ▸ h1) h1e (by rw [hC]; exact Nat.lt_succ_of_lt hCs) hbig hb1 hgo hT hPt helt s'' G''⟩⟩, fun _ _ z => ⟨_, z.2.1⟩,
    src_gen (it := it) (lo₁ := lo₁) (P := P) R'.h R'.room S.ev S.at_ S.gen (fun j s h' hi k => ?_) pst pmono he heg (hC ▸ h1) h1e (by rw [hC]; exact Nat.lt_succ_of_lt hCs) (Nat.lt_succ_self _) (by rw [hC]; exact Nat.ne_of_lt hCs) (Nat.le_of_lt (Nat.lt_of_le_of_lt h1 hCs)) hgl hge hb1⟩
  · exact S.ev _ _ _ hi ⟨.of k, rfl, .refl _⟩
  · obtain ⟨a, b, ta, tb, rfl, rfl⟩ := hnm
    exact ⟨_, _, _, Heap.get?_push_size _ rfl, rfl, rfl, rfl⟩
end
end Mine
end

-- WS
section
open PySem PySem.W PySem.Calls PyProof.Rows
set_option maxHeartbeats 4000000
namespace Mine
theorem gn_slot : Slot "generator" "__getattribute__" "object.__getattribute__" :=
  .of (owner := "object") (n := "__getattribute__") (by rw [typeLookup_type, builtinLookup_eq_fast]; kernel_rfl) (by decide +kernel) (by decide +kernel) (by decide +kernel)
    (by first | exact .inl (by decide +kernel) | exact .inr (by decide +kernel)) (by rw [isSubtype_type]; kernel_rfl)
theorem gn_getattr : typeLookup (.type "generator") "__getattr__" = pure none := by rw [typeLookup_type, builtinLookup_eq_fast]; kernel_rfl
theorem gn_keys : typeLookup (.type "generator") "keys" = pure none := am_miss_of_fast (by decide +kernel)
theorem gn_meets (a : Addr) (vs : Array Value) (sl : Array (Option Value)) (u : Tok) :
    Meets (Builtin.«object.__getattribute__» ⟨[.ref a, .str "keys" u], []⟩) (fun A R s => s.heap.get? a = some { cls := .type "generator", dict := none, data := .fields vs, slots := sl } ∧ raisesAttr (.ref a) "keys" A R s) :=
  Meets.of_wp fun prog w A R s hs => by
    obtain ⟨hp, g, d, tk, os⟩ := s
    obtain ⟨hx, hs⟩ := hs
    have hT : (⟨hp, g, d, tk, os⟩ : Shared).TypeIs (.ref a) "generator" := ⟨_, hx, rfl⟩
    have hm := gn_keys
    unfold Builtin.«object.__getattribute__»
    repeat (any_goals (first | assumption | wp_step))
    exact wpAny_raiseAttrError hs.1 hs.2 (attrMsg_fits (by decide +kernel) (by decide))
theorem gn_nokeys {prog : Program} {w : World} {A : Around} {E : Value → Shared → Prop} {s : Shared} {a : Addr} {vs : Array Value} {Q : Option Value → Shared → Prop}
    (ho : s.heap.get? a = some { cls := .type "generator", data := .fields vs }) (hA : A.handled = none) (h : ∀ h' tk, (∀ b o, s.heap.get? b = some o → h'.get? b = some o) → Q none { s with heap := h', toks := tk }) :
    wpAny (model prog w) A (getAttr? (.ref a) "keys") Q E s := by
  obtain ⟨hp, g, d, tk, os⟩ := s
  have hT : ∀ tk', (⟨hp, g, d, tk', os⟩ : Shared).TypeIs (.ref a) "generator" := fun _ => ⟨_, ho, rfl⟩
  have f1 := sub_AttributeError
  have f3 := gn_slot.lookup
  have f4 := gn_slot.bind (.ref a)
  have f5 := gn_getattr
  unfold getAttr? getAttrBy? getAttrBy
  repeat (any_goals (first | assumption | exact hT _ | ((with_reducible show wpAny _ _ (call (Value.builtin "object.__getattribute__") _ _) _ _ _); refine call_meets gn_slot (hT _) F.entry_object_getattribute (F.args_object_getattribute_2 _ _) (gn_meets a _ #[] _) ⟨ho, hA, fun h' tk' e hx' => ?_⟩) | wp_step))
  obtain ⟨t', u', he⟩ := hx'.there
  show wpAny _ _ (getattributeRaised _ _ _ _ _ _ _) _ _ _
  unfold getattributeRaised
  repeat (any_goals (first | assumption | wp_step))
  exact h _ _ hx'.keeps
end Mine
end

-- WT
section
open PySem PySem.W PySem.Calls PyProof.Rows
set_option maxHeartbeats 4000000
namespace Mine
theorem pl_upd : plainId "dict.update.loop" = true := by decide +kernel
theorem en_upd : entryFor table "dict.update.loop" = some Builtin.«dict.update.loop» := entryFor_of_fast (by kernel_rfl)
theorem stored_new {kvs : List (Str × Value)} {k : Str} {v : Value} (h : k ∉ kvs.map (·.1)) : stored kvs k v = kvs ++ [(k, v)] := by
  unfold stored
  rw [if_neg]
  rw [List.any_eq_true]
  rintro ⟨kv, hm, e⟩
  exact h (List.mem_map.mpr ⟨kv, hm, of_decide_eq_true e⟩)
section
variable {prog : Program} {w : World} {A : Around} {E : Value → Shared → Prop} {s : Shared} {env : Env}
/-- a source whose values are pairs of a text and a value -/
structure PairSrc (e : Shared) (kvs : List (Str × Value)) (P : Nat → Nat → Value → Heap → Prop) (F : Nat → Nat → Value → Heap → Prop) : Prop where
  p : ∀ hi j v h, P hi j v h → ∃ k x t y, ∃ tp : Nat, kvs[j]? = some (k, x) ∧ v = .ref tp ∧ h.get? tp = some { cls := .type "tuple", data := .seq #[.str k t, y] } ∧ F hi j y h
  f : ∀ hi j y h h', F hi j y h → St e.heap.objs.size hi h h' → F hi j y h'
/-- what the dict holds, j pairs having come -/
structure DInv (prog : Program) (w : World) (e : Shared) (D : Nat) (kvs : List (Str × Value)) (I : Nat → Shared → Prop) (F : Nat → Nat → Value → Heap → Prop) (j : Nat) (s' : Shared) : Prop where
  ef : Ef e.heap.objs.size e s'
  src : I j s'
  le : j ≤ kvs.length
  lt : D < s'.heap.objs.size
  acc : ∃ acc : List (Str × Value), s'.heap.DictOf (PySem.strKind prog w) D acc ∧ All2 (fun (kv : Str × Value) (j : Nat) => (∃ x, kvs[j]? = some (kv.1, x)) ∧ F (D + 1) j kv.2 s'.heap) acc (List.range j)
theorem upd_loop {e : Shared} {lo gl : Nat} {D ga : Nat} {kvs : List (Str × Value)} {I : Nat → Shared → Prop} {P F : Nat → Nat → Value → Heap → Prop} {R : Result → Shared → Prop}
    (X0 : Wd w e.heap) (S : Src prog w A.in1 e lo gl (.ref ga) kvs.length I P) (V : PairSrc e kvs P F) (hnd : (kvs.map (·.1)).Nodup) (hz : kvs.length ≤ 1000) (hlo : lo ≤ D) (heD : e.heap.objs.size ≤ D)
    (hR : ∀ s' acc, Ef e.heap.objs.size e s' → s'.heap.DictOf (PySem.strKind prog w) D acc → All2 (fun (kv : Str × Value) (j : Nat) => (∃ x, kvs[j]? = some (kv.1, x)) ∧ F (D + 1) j kv.2 s'.heap) acc (List.range kvs.length) → D < s'.heap.objs.size → R (.ok (.ret .none)) s') :
    ∀ (k j : Nat) (s : Shared) (i : Int) (t : Tok), kvs.length - j = k → DInv prog w e D kvs I F j s → codeAny (model prog w) A (.builtin "dict.update.loop" ⟨[.ref D, .ref ga, .int i t, .none], []⟩) R s := by
  intro k
  induction k with
  | zero =>
    intro j s i t hk C
    refine codeAny_builtin en_upd ?_
    rw [Around.under_plainId pl_upd _]
    show wpAny _ A.in1 (pyNext (.ref ga) >>= _) _ _ s
    refine wpAny_bind (wpAny_mono (S.next (D + 1) j s (fun _ _ => False) C.src (X0.floor C.ef.kf X0.big) (Nat.le_succ_of_le hlo) C.lt) (fun r s₁ z => ?_) fun _ _ z => z.elim)
    obtain ⟨nx, z⟩ := z
    cases r with
    | some v => exact absurd z.1 (by omega)
    | none =>
      obtain ⟨acc, hd, ha⟩ := C.acc
      have hd1 : s₁.heap.DictOf (PySem.strKind prog w) D acc := by
        obtain ⟨o, es, ep, q, r⟩ := hd; exact ⟨o, es, ep, nx.up _ _ hlo q, r⟩
      have st1 : St e.heap.objs.size (D + 1) s.heap s₁.heap := fun b o d q p => d.elim (fun d => nx.kf.k b o d q p) fun d => nx.up b o (by omega) q
      refine wpAny_pure ?_
      refine hR s₁ acc (C.ef.nx nx) hd1 ?_ (by obtain ⟨o, es, ep, q, r⟩ := hd1; exact Heap.lt_size q)
      rw [← z]
      exact All2.mono (fun kv j ⟨a, f⟩ => ⟨a, V.f _ _ _ _ _ f st1⟩) ha
  | succ k ih =>
    intro j s i t hk C
    refine codeAny_builtin en_upd ?_
    rw [Around.under_plainId pl_upd _]
    show wpAny _ A.in1 (pyNext (.ref ga) >>= _) _ _ s
    refine wpAny_bind (wpAny_mono (S.next (D + 1) j s (fun _ _ => False) C.src (X0.floor C.ef.kf X0.big) (Nat.le_succ_of_le hlo) C.lt) (fun r s₁ z => ?_) fun _ _ z => z.elim)
    obtain ⟨nx, z⟩ := z
    cases r with
    | none => exact absurd z (by omega)
    | some v =>
      obtain ⟨hj, src1, hz1, hp⟩ := z
      obtain ⟨acc, hd, ha⟩ := C.acc
      have hd1 : s₁.heap.DictOf (PySem.strKind prog w) D acc := by
        obtain ⟨o, es, ep, q, r⟩ := hd; exact ⟨o, es, ep, nx.up _ _ hlo q, r⟩
      have st1 : St e.heap.objs.size (D + 1) s.heap s₁.heap := fun b o d q p => d.elim (fun d => nx.kf.k b o d q p) fun d => nx.up b o (by omega) q
      have ha1 : All2 (fun (kv : Str × Value) (j : Nat) => (∃ x, kvs[j]? = some (kv.1, x)) ∧ F (D + 1) j kv.2 s₁.heap) acc (List.range j) := All2.mono (fun kv j ⟨a, f⟩ => ⟨a, V.f _ _ _ _ _ f st1⟩) ha
      have ef1 := C.ef.nx nx
      have hzs : acc.length ≤ 1000 := by have := ha.length; rw [List.length_range] at this; omega
      obtain ⟨key, x, tk, y, tp, hk1, rfl, ht, hF⟩ := V.p _ _ _ _ hp
      dsimp only
      refine wpAny_bind (wpAny_holding (wpAny_bind ?_))
      refine wpAny_tryCatch ?_
      unfold Builtin.Dict.pairItems
      refine wpAny_bind (wpAny_typeOf (T := "tuple") ⟨_, ht, rfl⟩ ?_)
      rw [if_pos (by decide)]
      refine wpAny_bind (wpAny_seqItems ht rfl (wpAny_pure ?_))
      show wpAny _ _ (holding [Value.str key tk, y] (dictSet D (Value.str key tk) y)) _ _ s₁
      refine wpAny_holding (wpAny_dictSet_pairs (PySem.strKind_is prog w key tk) hd1 (fun h₂ hd₂ S₂ => ?_) (by rw [sizeLine_eq]; omega))
      refine wpAny_pure ⟨plainId_quiet pl_upd _, ?_⟩
      have hnk : key ∉ acc.map (·.1) := by
        intro hm
        obtain ⟨kv, hm, e⟩ := List.mem_map.mp hm
        obtain ⟨i', hi', e'⟩ := List.mem_iff_getElem.mp hm
        obtain ⟨b, hb, ⟨⟨x', hx'⟩, _⟩⟩ := ha1.get (i := i') (a := kv) (by rw [List.getElem?_eq_getElem hi', e'])
        have hbj : b < j := by have := List.mem_of_getElem? hb; rwa [List.mem_range] at this
        have e1 : (kvs.map (·.1))[b]? = some key := by rw [List.getElem?_map, hx', ← e]; rfl
        have e2 : (kvs.map (·.1))[j]? = some key := by rw [List.getElem?_map, hk1]; rfl
        have := (List.getElem?_inj (by rw [List.length_map]; omega) hnd).mp (e1.trans e2.symm)
        omega
      rw [stored_new hnk] at hd₂
      have hdo : ∃ o, s₁.heap.get? D = some o ∧ o.cls = .type "dict" := by obtain ⟨o, es, ep, q, he, _⟩ := hd1; exact ⟨o, q, he.1⟩
      obtain ⟨od, qd, cd⟩ := hdo
      have nc : ∃ o, s₁.heap.get? D = some o ∧ ¬ codeO o := ⟨_, qd, nc_cls (by rw [cd]; simp)⟩
      have st2 : St e.heap.objs.size (D + 1) s₁.heap h₂ := .at_ S₂ heD (Nat.lt_succ_self _)
      refine ih (j + 1) _ (i + 1) _ (by omega) ⟨⟨ef1.kf.trans (.same S₂ heD nc), ef1.os, ef1.gens⟩, S.at_ _ _ _ _ _ src1 S₂ hlo nc, hj, ?_, _, hd₂, ?_⟩
      · show D < h₂.objs.size; rw [S₂.1]; exact Heap.lt_size qd
      · rw [List.range_succ]
        exact (All2.mono (fun kv j ⟨a, f⟩ => ⟨a, V.f _ _ _ _ _ f st2⟩) ha1).append (.cons ⟨⟨x, hk1⟩, V.f _ _ _ _ _ hF st2⟩ .nil)
/-- dict(gen), for a generator of pairs with keys that differ -/
theorem call_dict_gen {e : Shared} {lo gl : Nat} {ga : Nat} {vs : Array Value} {kvs : List (Str × Value)} {I : Nat → Shared → Prop} {P F : Nat → Nat → Value → Heap → Prop} {Q : Value → Shared → Prop}
    (hh : A.handled = none) (X0 : Wd w e.heap) (ev : Ev e s) (hes : e.heap.objs.size ≤ s.heap.objs.size) (hlo : lo ≤ s.heap.objs.size) (ho : s.heap.get? ga = some { cls := .type "generator", data := .fields vs }) (h0 : I 0 s)
    (S : Src prog w A.in1.in1 e lo gl (.ref ga) kvs.length I P) (V : PairSrc e kvs P F) (hnd : (kvs.map (·.1)).Nodup) (hz : kvs.length ≤ 1000)
    (h : ∀ s' acc, Ev e s' → s'.heap.DictOf (PySem.strKind prog w) s.heap.objs.size acc → All2 (fun (kv : Str × Value) (j : Nat) => (∃ x, kvs[j]? = some (kv.1, x)) ∧ F (s.heap.objs.size + 1) j kv.2 s'.heap) acc (List.range kvs.length) → s.heap.objs.size < s'.heap.objs.size → Q (.ref s.heap.objs.size) s') :
    wpAny (model prog w) A (call (.type "dict") [.ref ga]) Q E s := by
  refine callType_codes (Q₁ := fun obj s₁ => obj = .ref s.heap.objs.size ∧ s₁ = { s with heap := s.heap.push { cls := .type "dict", data := .dict #[] } }) PySem.F.kt_called_dict (PySem.F.kt_typeCall_dict_1 _) PySem.F.entry_dict_init (kt_code_dict_new _ ⟨rfl, rfl⟩) ?_
  rintro obj s₁ ⟨rfl, rfl⟩
  have hnew : (s.heap.push { cls := .type "dict", data := .dict #[] }).DictOf (PySem.strKind prog w) s.heap.objs.size [] := Heap.DictOf.new s.heap
  refine ⟨hnew.typeIs, PySem.F.args_dict_init_2 _ _, ?_⟩
  unfold Builtin.«dict.__init__»
  refine wpAny_bind ?_
  unfold Builtin.Dict.selfAndRest
  refine wpAny_bind (wpAny_notOrdered_dict hnew.typeIs ?_)
  show wpAny _ _ (pure (s.heap.objs.size, [Value.ref ga])) _ _ _
  refine wpAny_pure ?_
  show wpAny _ _ (Builtin.Dict.updateFrom "dict.__init__" s.heap.objs.size (.ref ga) [] .none) _ _ _
  unfold Builtin.Dict.updateFrom
  have k1 : Ev s { s with heap := s.heap.push { cls := .type "dict", data := .dict #[] } } := ⟨.push _ _, rfl, .refl _⟩
  have ho1 := Heap.get?_push_of_some { cls := .type "dict", data := .dict #[] } ho
  refine wpAny_bind (wpAny_typeOf (T := "generator") ⟨_, ho1, rfl⟩ ?_)
  rw [if_pos (by decide)]
  refine wpAny_bind (gn_nokeys ho1 hh fun h₂ t₂ k₂ => ?_)
  have k2 : Ev s { s with heap := h₂, toks := t₂ } := ⟨.of fun b o q => k₂ _ _ (Heap.get?_push_of_some _ q), rfl, .refl _⟩
  rw [show (none : Option Value).isNone = true from rfl, if_pos rfl]
  refine wpAny_bind (wpAny_rule (wpAny_bind ?_))
  have i2 := S.ev _ _ _ h0 k2
  refine S.iter _ _ _ _ i2 ?_
  refine wpAny_pure ⟨plainId_quiet pl_upd _, ?_⟩
  have hd2 : h₂.DictOf (PySem.strKind prog w) s.heap.objs.size [] := by obtain ⟨o, es, ep, q, r⟩ := hnew; exact ⟨o, es, ep, k₂ _ _ q, r⟩
  refine upd_loop X0 S V hnd hz hlo hes (fun s' acc ef hd ha hlt => ⟨rfl, h s' acc (ef.ev (Nat.le_refl _)) hd ha hlt⟩) kvs.length 0 _ 0 _ (Nat.sub_zero _) ⟨(ev.trans k2).ef, i2, Nat.zero_le _, by obtain ⟨o, es, ep, q, r⟩ := hd2; exact Heap.lt_size q, [], hd2, .nil⟩
end
end Mine
end

-- WU
section
open PySem PySem.W PySem.Calls PyProof.Rows
set_option maxHeartbeats 4000000
namespace Mine
theorem m_it (w : World) : findIn (KV w) (.ref 240) "items" = some (some (.ref 147)) := by kernel_rfl
theorem mf_it (w : World) : typeIn (KV w) (.ref 147) = some (.type "function") := by kernel_rfl
theorem mk_it (w : World) : keepIn (KV w) (.ref 147) = true := by kernel_rfl
/-- what a name tells: with a star a list of all, else the last -/
def TD (hi : Nat) (h : Heap) (y : Value) : Bool → List Itm → Prop
  | true, Is => TL2 hi h y Is
  | false, Is => ∃ I, Is.getLast? = some I ∧ TL hi h y I
theorem TD.st {hi lo : Nat} {h h' : Heap} {y : Value} {b : Bool} {Is : List Itm} (x : TD hi h y b Is) (st : St lo hi h h') : TD hi h' y b Is := by
  cases b with
  | true => exact TL2.st x st
  | false => obtain ⟨I, e, z⟩ := x; exact ⟨I, e, z.st st⟩
theorem TD.mono {hi hi' : Nat} {h : Heap} {y : Value} {b : Bool} {Is : List Itm} (x : TD hi' h y b Is) (l : hi ≤ hi') : TD hi h y b Is := by
  cases b with
  | true => exact TL2.mono x l
  | false => obtain ⟨I, e, z⟩ := x; exact ⟨I, e, z.mono l⟩
/-- as data -/
def tellD : Bool → List Itm → PyData
  | true, Is => .list (Is.map Itm.tell)
  | false, Is => (Is.getLast?.map Itm.tell).getD .none
theorem TD.rd {hi : Nat} {h : Heap} {y : Value} {b : Bool} {Is : List Itm} (x : TD hi h y b Is) : Rd h y (tellD b Is) := by
  cases b with
  | true => exact TL2.rd x
  | false => obtain ⟨I, e, z⟩ := x; show Rd h y ((Is.getLast?.map Itm.tell).getD .none); rw [e]; exact z.rd
theorem pox_fun {w : World} {h : Heap} {o x y : Value} (a : POx w h o x) (b : POx w h o y) : x = y := by
  obtain ⟨a1, d, t, i, tk, n, e, p1, p2, p3⟩ := a
  obtain ⟨a1', d', t', i', tk', n', e', q1, q2, q3⟩ := b
  rw [e] at e'; cases e'
  rw [p1] at q1; cases q1
  rw [p2] at q2; cases q2
  obtain ⟨o1, g1, _, m1, r1⟩ := p3
  obtain ⟨o2, g2, _, m2, r2⟩ := q3
  rw [g1] at g2; cases g2
  rw [r1] at r2
  have := (Data.seq.inj r2).1
  simp at this
  exact this.1
theorem isList_fun {h : Heap} {l : Addr} {xs ys : List Value} (a : h.IsList l xs.toArray) (b : h.IsList l ys.toArray) : xs = ys := by
  obtain ⟨o1, g1, _, m1, r1⟩ := a
  obtain ⟨o2, g2, _, m2, r2⟩ := b
  rw [g1] at g2; cases g2
  rw [r1] at r2
  have := (Data.seq.inj r2).1
  simpa using this
theorem All2.lastR {α β : Type} {R : α → β → Prop} : ∀ {as : List α} {bs : List β} {a : α}, All2 R as bs → as.getLast? = some a → ∃ b, bs.getLast? = some b ∧ R a b
  | _, _, _, .nil, e => by cases e
  | _, _, a, .cons (as := as) (bs := bs) x y, e => by
    cases y with
    | nil => simp at e; subst e; exact ⟨_, rfl, x⟩
    | cons x' y' =>
      rw [List.getLast?_cons_cons] at e
      obtain ⟨b, e', r⟩ := All2.lastR (.cons x' y') e
      exact ⟨b, by rw [List.getLast?_cons_cons]; exact e', r⟩
section
variable {prog : Program} {w : World} {A : Around} {E : Value → Shared → Prop} {s : Shared} {env : Env}
theorem letgo_gen {elts : List Expr} {k : Nat} {pos : Pos} {ga g : Nat} {v : Value} {Q : Unit → Shared → Prop} (hg : s.heap.IsGen ga g) (hQ : Q () s) :
    wpAny (model prog w) A (letOwnedTupleGo (.Tuple elts k pos) (.ref ga) v) Q E s := by
  obtain ⟨o, nm, qn, ho, hc, hd, _⟩ := hg
  cases v with
  | ref T =>
    unfold letOwnedTupleGo
    refine wpAny_bind (wpAny_load ho ?_)
    rw [hc, hd]
    show wpAny _ A (if (["enumerate", "zip", "dict_itemiterator", "dict_reverseitemiterator", "odict_iterator", "itertools.zip_longest", "itertools.pairwise"].contains "generator" && _) = true then _ else _) Q E s
    rw [show (["enumerate", "zip", "dict_itemiterator", "dict_reverseitemiterator", "odict_iterator", "itertools.zip_longest", "itertools.pairwise"].contains "generator") = false from by decide, Bool.false_and]
    exact wpAny_pure hQ
  | _ => exact wpAny_pure hQ
theorem UnA.raw {N : Nat} {h : Heap} {v : Value} {Is : List Itm} (x : UnA prog w N h v Is) : ∃ l os xs, v = .ref l ∧ h.IsList l os.toArray ∧ os.length ≤ 64 ∧ All2 (POx w h) os xs ∧ All2 (ItA prog w N h) xs Is := by
  obtain ⟨l, os, e, hl, hz, a⟩ := x
  have : ∃ xs, All2 (POx w h) os xs ∧ All2 (ItA prog w N h) xs Is := by
    clear hl hz
    induction a with
    | nil => exact ⟨[], .nil, .nil⟩
    | cons z _ ih => obtain ⟨x, p, q⟩ := z; obtain ⟨xs, ps, qs⟩ := ih; exact ⟨x :: xs, .cons p ps, .cons q qs⟩
  obtain ⟨xs, p, q⟩ := this
  exact ⟨l, os, xs, e, hl, hz, p, q⟩
theorem DiA.unr {N : Nat} {h : Heap} {kvs : List (Str × Value)} {D : List (Str × List Itm)} (x : DiA prog w N h kvs D) : UnR w h kvs := fun k v m => by
  obtain ⟨i, hi, e⟩ := List.mem_iff_getElem.mp m
  obtain ⟨d, hd, e1, hne, u⟩ := x.get (i := i) (a := (k, v)) (by rw [List.getElem?_eq_getElem hi, e])
  obtain ⟨l, os, xs, e2, hl, hz, p, q⟩ := u.raw
  refine ⟨l, os, xs, e2, hl, fun q' => hne ?_, hz, p⟩
  subst q'
  cases p
  exact List.eq_nil_of_length_eq_zero q.length.symm
theorem pox_all {h : Heap} : ∀ {os xs ys : List Value}, All2 (POx w h) os xs → All2 (POx w h) os ys → xs = ys
  | _, _, _, .nil, .nil => rfl
  | _, _, _, .cons a r, .cons b s => by rw [pox_fun a b, pox_all r s]
/-- the value of a name, told -/
theorem getV_itm {N hi : Nat} {e h : Heap} {kvs : List (Str × Value)} {D : List (Str × List Itm)} {S : Str → Bool} {k : Str} {v x : Value} {j : Nat} (g : GetV prog w e h hi kvs S k v) (d : DiA prog w N e kvs D) (hn : (kvs.map (·.1)).Nodup) (hj : kvs[j]? = some (k, x)) :
    ∃ Is, D[j]? = some (k, Is) ∧ if S k then ∃ xs, NewPR prog w hi h v xs ∧ All2 (ItA prog w N e) xs Is ∧ xs.length ≤ 64 else ∃ I, Is.getLast? = some I ∧ ItA prog w N e v I := by
  obtain ⟨l, os, xs, hk, hl, hp, z⟩ := g
  obtain ⟨⟨k', Is⟩, hd, e1, hne, u⟩ := d.get hj
  cases e1
  refine ⟨Is, hd, ?_⟩
  have hx : x = .ref l := by
    have := valueAt_nodup hn (List.mem_of_getElem? hj)
    rw [hk] at this; exact (Option.some.inj this).symm
  obtain ⟨l', os', xs', e2, hl', hz', p, q⟩ := u.raw
  rw [show ((k, x) : Str × Value).2 = x from rfl, hx] at e2
  cases e2
  have := isList_fun hl hl'
  subst this
  have := pox_all hp p
  subst this
  cases hS : S k with
  | true =>
    rw [hS] at z
    exact ⟨xs, z, q, by rw [← p.length]; exact hz'⟩
  | false =>
    rw [hS] at z
    obtain ⟨I, e3, r⟩ := q.lastR z
    exact ⟨I, e3, r⟩
/-- to_item of the value of a name -/
theorem c_ti_get {n N hi : Nat} {c f : Addr} {e : Heap} {kvs : List (Str × Value)} {D : List (Str × List Itm)} {S : Str → Bool} {k : Str} {v x : Value} {j : Nat} (R : Rm (n + 7) A) (X : Wd w s.heap) (F : TIat s.heap c f) (hhi : 333 ≤ hi)
    (g : GetV prog w e s.heap hi kvs S k v) (d : DiA prog w N e kvs D) (ke : Kp e s.heap) (hn : (kvs.map (·.1)).Nodup) (hj : kvs[j]? = some (k, x)) :
    Ret prog w A (.ref f) ⟨[v], []⟩ s (fun r s' => Ev s s' ∧ s.heap.objs.size ≤ s'.heap.objs.size ∧ ∃ Is, D[j]? = some (k, Is) ∧ TD s.heap.objs.size s'.heap r (S k) Is) := by
  obtain ⟨Is, hd, z⟩ := getV_itm g d hn hj
  cases hS : S k with
  | true =>
    rw [hS] at z
    obtain ⟨xs, np, q, hz⟩ := z
    obtain ⟨a, rfl, la, P⟩ := np.prx hhi hz
    exact (c_ti_list R X F P (q.mono fun _ _ z => z.kp ke)).mono fun r s' z => ⟨z.1, z.2.1, Is, hd, z.2.2⟩
  | false =>
    rw [hS] at z
    obtain ⟨I, e3, q⟩ := z
    exact (c_ti_item (R.less (k := n + 5) (by omega)) X F (q.kp ke)).mono fun r s' z => ⟨z.1, z.2.1, Is, hd, I, e3, z.2.2⟩
theorem Rm.over2 {n : Nat} {A : Around} (R : Rm (n + 1) A) (elt iter tgt : Expr) (scope : Scope) (pos : Pos) (it : Value) (cenv : Env) : Rm n (A.in1.over (gLoop2 elt iter tgt scope pos it cenv) []) := by
  refine ⟨?_, ?_, R.h⟩
  · have := R.d
    show A.depth + 0 + (gLoop2 elt iter tgt scope pos it cenv).weight + _ < _
    have e : (gLoop2 elt iter tgt scope pos it cenv).weight = 1 := rfl
    omega
  · have := R.u
    show A.units + 1 + 0 + (gLoop2 elt iter tgt scope pos it cenv).cUnits + _ < _
    have e : (gLoop2 elt iter tgt scope pos it cenv).cUnits = 3 := rfl
    omega
/-- what comes out of as_dict's generator -/
def PairP (kvs : List (Str × Value)) (D : List (Str × List Itm)) (S : Str → Bool) (hi j : Nat) (v : Value) (h : Heap) : Prop :=
  ∃ k x t, ∃ tp : Nat, ∃ y Is, kvs[j]? = some (k, x) ∧ D[j]? = some (k, Is) ∧ v = .ref tp ∧ hi ≤ tp ∧ h.get? tp = some { cls := .type "tuple", data := .seq #[.str k t, y] } ∧ TD hi h y (S k) Is
theorem PairP.st {kvs : List (Str × Value)} {D : List (Str × List Itm)} {S : Str → Bool} {hi j lo : Nat} {v : Value} {h h' : Heap} (x : PairP kvs D S hi j v h) (st : St lo hi h h') : PairP kvs D S hi j v h' := by
  obtain ⟨k, x, t, tp, y, Is, e1, e2, e3, l, q, g⟩ := x
  exact ⟨k, x, t, tp, y, Is, e1, e2, e3, l, st tp _ (.inr l) q rfl, g.st st⟩
theorem PairP.mono {kvs : List (Str × Value)} {D : List (Str × List Itm)} {S : Str → Bool} {hi hi' j : Nat} {v : Value} {h : Heap} (x : PairP kvs D S hi' j v h) (le : hi ≤ hi') : PairP kvs D S hi j v h := by
  obtain ⟨k, x, t, tp, y, Is, e1, e2, e3, l, q, g⟩ := x
  exact ⟨k, x, t, tp, y, Is, e1, e2, e3, Nat.le_trans le l, q, g.mono le⟩
end
end Mine
end

-- XA
section
open PySem PySem.W PySem.Calls PyProof.Rows
set_option maxHeartbeats 4000000
namespace Mine
section
variable {prog : Program} {w : World} {A : Around} {E : Value → Shared → Prop} {s : Shared} {env : Env}
/-- the generator expression of as_dict -/
def adGen : Expr := match retOf (bodyOf fd_as_dict) 1 with | .Call _ (a :: _) _ _ => a | e => e
def gTpx : Expr → Pos × Pos × Nat × Pos | .GeneratorExp _ (⟨.Tuple [.Name _ p, .Name _ q] k tp, _, _, _⟩ :: _) _ _ => (p, q, k, tp) | _ => (⟨0,0,0,0⟩, ⟨0,0,0,0⟩, 0, ⟨0,0,0,0⟩)
theorem c_as_dict {n N : Nat} {a : Addr} {vs : List Value} {kvs : List (Str × Value)} {S : Str → Bool} {D : List (Str × List Itm)} (R : Rm (n + 12) A) (X : Wd w s.heap) (T : Tb s.heap) (P : PRx prog w s.heap a vs kvs S) (d : DiA prog w N s.heap kvs D) :
    Ret prog w A (.ref 229) ⟨[.ref a], []⟩ s (fun v s' => Ev s s' ∧ s.heap.objs.size ≤ s'.heap.objs.size ∧ ∃ (Dd : Nat) (acc : List (Str × Value)), v = .ref Dd ∧ s.heap.objs.size ≤ Dd ∧ s'.heap.DictOf (PySem.strKind prog w) Dd acc ∧
      All2 (fun (kv : Str × Value) (d : Str × List Itm) => kv.1 = d.1 ∧ TD s.heap.objs.size s'.heap kv.2 (S d.1) d.2) acc D) := by
  refine b_enterC X X.big (Nat.le_refl _) (binds := [("self", .ref a)]) (body := bodyOf fd_as_dict) R.room (fo_as_dict X) rfl (code_of X (by kernel_rfl)) rfl (.of_eq rfl) rfl (by intro x m; rcases List.mem_singleton.mp m with rfl; exact .inl rfl) fun L s₁ hLs B ev hg cells => ?_
  obtain ⟨l, hll⟩ : ∃ l : Nat, l = L := ⟨L, rfl⟩
  have hL0 : l = s.heap.objs.size := hll.trans hLs
  have hcell : CellAt s₁.heap (L + 1) none := cells "to_item" (L + 1) rfl
  have hs1 : s.heap.objs.size ≤ s₁.heap.objs.size := Nat.le_of_lt B.lt
  have T1 := T.mono ev.kp
  refine wpAny_execs_cons (ti_def (c := 0) (L := L) B.wd T1.2.2.2 fun s₂ f ct code pm ev2 hf hff cr hg2 => ?_)
  have hcell2 := hcell.ka ev2.ka
  have B2 := B.ev ev2
  refine c_storeCell (c := L + 1) rfl rfl rfl hcell2 fun h₃ hc3 S3 => ?_
  have hl1 : L + 1 < s₁.heap.objs.size := by obtain ⟨o, q, _⟩ := hcell; exact Heap.lt_size q
  have nc3 : ∃ o, s₂.heap.get? (L + 1) = some o ∧ ¬ codeO o := by obtain ⟨o, q, c, _⟩ := hcell2; exact ⟨o, q, nc_cls (by rw [c]; simp)⟩
  have B3 := B2.at_ (t := s₂.toks) S3 (Nat.le_trans (Nat.le_of_eq hLs.symm) (Nat.le_succ _)) (Nat.ne_of_lt (Nat.lt_succ_self _)) nc3
  have kp3 : Ka s₂.heap h₃ → True := fun _ => trivial
  have hl2 : l + 1 < s₁.heap.objs.size := by rw [hll]; exact hl1
  have stay3 : ∀ (b : Nat) o, b < s.heap.objs.size ∨ s₁.heap.objs.size ≤ b → s₂.heap.get? b = some o → h₃.get? b = some o := fun b o l' q => (S3.2 b (by rw [← hll]; show @Ne Nat b (l + 1); omega)).trans q
  have F3 : TIat h₃ (L + 1) f := ⟨ct, code, pm, stay3 _ _ (.inr hf) hff, by
    obtain ⟨c, o, vs', t', e, g, hc, dd, r⟩ := cr
    exact ⟨c, o, vs', t', e, (S3.2 c (fun q => by subst q; obtain ⟨o', q', c', _⟩ := hcell2; rw [g] at q'; cases q'; rw [hc] at c'; simp at c')).trans g, hc, dd, r⟩, hc3⟩
  have ev3 : Ev s { s₂ with heap := h₃ } := B3.out.ev (Nat.le_refl _)
  have hg3 : s₂.gens = s.gens := hg2.trans hg
  have hs3 : s.heap.objs.size ≤ h₃.objs.size := Nat.le_of_lt B3.lt
  have T3 := T.mono ev3.kp
  have P3 := P.kp ev3.kp
  have d3 := d.kp ev3.kp
  obtain ⟨dx, sl, ha, hdx⟩ := P3.inst
  clear kp3 S3 nc3 stay3 hff cr B2 hcell2 hcell cells
  refine wpAny_execs_cons (wpAny_Return_some (Call_ (r_builtin B3.wd (n_dict3 w) (n_dict0 w) (callWith_type1 (wpAny_items_cons ?_)))))
  refine wpAny_GeneratorExp_make (cl := [("to_item", L + 1)]) rfl rfl (by decide) rfl rfl (R.deep _).room ?_ (by intro _; rfl)
  refine MethodCall_ (r_local B3.fm rfl (pr_meth B3.wd ha hdx (m_it w) (mf_it w) (callWith_K0 B3.wd (mk_it w) ?_)))
  refine (c_items ((R.deep _).less (k := n + 4) (by omega)) B3.wd T3 P3 d3.unr).call fun v s₄ z => ?_
  obtain ⟨ev4, hz4, ga, rfl, src⟩ := z
  have B4 := B3.ev ev4
  obtain ⟨I0, i0, _, S0⟩ := src A (R.less (by omega))
  refine S0.iter _ s₄ _ _ i0 ?_
  refine ⟨nolimit B4.wd, ?_⟩
  have T4 : Tb s₄.heap := T3.mono ev4.kp
  refine g_code (c := 228) (P := 224) rfl T4.2.2.2 (by decide) rfl fun code₅ s₅ ev5 hz5 hg5 => ?_
  have B5 := B4.ev ev5
  refine (bi_of B5.wd).here ?_
  intro h' hns S5
  have kf5 : Kf h₃.objs.size h₃ s₅.heap := (ev4.ka.trans ev5.ka).kf
  have hg1 : s.gens.size ≤ s₂.gens.size := Nat.le_of_eq (by rw [hg3])
  have hg4 : s₂.gens.size ≤ s₄.gens.size := ev4.gens.size
  have fin0 := fun Sin => gen_final2 (prog := prog) (w := w) (k := 8) (N := kvs.length) (lo₁ := s₄.heap.objs.size) (gl₁ := s₄.gens.size) (tk := s₅.toks + 1 + 1 + 1) (e := s) (e₁ := { s₂ with heap := h₃ }) (s₃ := s₅) (P₂ := PairP kvs D S) (it := .ref ga) (x := "k") (y := "v")
    (Pt := fun hi j a b h => ∃ k x tk, kvs[j]? = some (k, x) ∧ a = .str k tk ∧ GetV prog w h₃ h hi kvs S k b)
    (elt := gElt adGen) (iter := gIter adGen) (px := (gTpx adGen).1) (py := (gTpx adGen).2.1) (kk := (gTpx adGen).2.2.1) (tp := (gTpx adGen).2.2.2) (scope := gScope adGen) (pos := gPos adGen)
    (na := .str "<genexpr>" (s₅.toks + 1)) (nb := .str ((callEnvC fd_as_dict L 229).qual ++ "<genexpr>") (s₅.toks + 1 + 1))
    (cenv := genEnv (gScope adGen) [("to_item", L + 1)] s₅.heap.objs.size code₅ 0 (callEnvC fd_as_dict L 229))
    rfl hns S5 kf5 B5.wd hs3 hg1 (by rw [hg5]; omega) hz5 hz4 (by rw [hg5]; exact Nat.le_refl _) (Nat.le_trans X.big hs3) rfl rfl (by decide) rfl rfl ⟨_, _, _, _, rfl, rfl⟩
    (fun hi j v h h' g st => g.st st) (fun hi hi' j v h l g => g.mono l) Sin
  refine (fun fin => ?_) (fin0 ?_)
  · obtain ⟨ev6, hz6, src6⟩ := fin
    have hz4' : h₃.objs.size ≤ s₄.heap.objs.size := hz4
    have hsz6 : s.heap.objs.size ≤ h'.objs.size + 1 := by omega
    refine wpAny_items_nil ?_
    obtain ⟨I, j0, _, S6⟩ := src6 (A.deeper (callEnvC fd_as_dict L 229)).in1.in1 (((R.deep _).in1.in1).less (by omega))
    have hlo : h'.objs.size + 1 = (h'.push { cls := .type "generator", data := .fields #[.int s₅.gens.size 0, .str "<genexpr>" (s₅.toks + 1), .str ((callEnvC fd_as_dict L 229).qual ++ "<genexpr>") (s₅.toks + 1 + 1)] }).objs.size := (Heap.size_push ..).symm
    refine call_dict_gen (e := s) (F := fun hi j y h => ∃ k Is, D[j]? = some (k, Is) ∧ TD hi h y (S k) Is ∧ ∃ x, kvs[j]? = some (k, x)) (R.deep _).h X ((ev3.trans ev4).trans (ev5.trans ev6)) (by show s.heap.objs.size ≤ (h'.push _).objs.size; rw [← hlo]; exact hsz6) (Nat.le_of_eq hlo) (Heap.get?_push_size _ rfl) j0 S6
      ⟨fun hi j v h ⟨k, x, t, tp, y, Is, e1, e2, e3, l, q, g⟩ => ⟨k, x, t, y, tp, e1, e3, q, k, Is, e2, g, x, e1⟩, fun hi j y h h' ⟨k, Is, e, g, x⟩ st => ⟨k, Is, e, g.st st, x⟩⟩ ?_ ?_ fun s₇ acc ev7 hd7 hall hlt => ?_
    · obtain ⟨_, _, _, _, _, _, _, _, _, _, _, hd, _⟩ := P
      obtain ⟨o, es, ep, q, he, _, _, hn⟩ := hd
      first | exact hn | exact hn.2
    · obtain ⟨_, _, _, _, _, _, _, _, _, _, _, _, _, _, _, z⟩ := P; omega
    · have hsz7 : s.heap.objs.size ≤ (h'.push { cls := .type "generator", data := .fields #[.int s₅.gens.size 0, .str "<genexpr>" (s₅.toks + 1), .str ((callEnvC fd_as_dict L 229).qual ++ "<genexpr>") (s₅.toks + 1 + 1)] }).objs.size := by rw [← hlo]; exact hsz6
      refine ⟨ev7, Nat.le_of_lt (Nat.lt_of_le_of_lt hsz7 hlt), _, acc, rfl, hsz7, hd7, all2_of ?_ fun i kv e => ?_⟩
      · have := hall.length; rw [List.length_range] at this; rw [this]; exact d.length
      · obtain ⟨j, hj, ⟨x, hx⟩, k, Is, hD, g, x', hx'⟩ := hall.get e
        have hi : i < kvs.length := by
          have := (List.getElem?_eq_some_iff.mp hj).1
          rwa [List.length_range] at this
        rw [List.getElem?_range hi] at hj
        cases hj
        rw [hx] at hx'
        cases hx'
        exact ⟨(kv.1, Is), hD, rfl, g.mono (Nat.le_succ_of_le hsz7)⟩
  · intro A' R'
    obtain ⟨I, j0, ig, S4⟩ := src (A'.in1.over (gLoop2 (gElt adGen) (gIter adGen) (tgt2 "k" "v" (gTpx adGen).1 (gTpx adGen).2.1 (gTpx adGen).2.2.1 (gTpx adGen).2.2.2) (gScope adGen) (gPos adGen) (.ref ga) (genEnv (gScope adGen) [("to_item", L + 1)] s₅.heap.objs.size code₅ 0 (callEnvC fd_as_dict L 229))) []) ((R'.over2 (n := 7) ..).less (by omega))
    refine ⟨I, _, S4.ev _ _ _ j0 ev5, S4, fun A'' j s' v Q E' hi hq => by obtain ⟨g, hg⟩ := ig j s' hi; exact letgo_gen hg hq, ?_, ?_, ?_⟩
    · intro hi j v h ⟨k, x, t, tp, y, e1, e2, l, q, g⟩
      exact ⟨tp, _, _, e2, l, ⟨_, q, rfl, 0, rfl⟩, k, x, t, e1, rfl, g⟩
    · intro hi j a b h h' ⟨k, x, tk, e1, e2, g⟩ st
      exact ⟨k, x, tk, e1, e2, getV_st g st⟩
    · intro E' hi j a' b s' m hj kf X' hbg hhi ⟨k, x, tk, e1, e2, g⟩ hn hmk hmv
      subst e2
      have ka : Ka h₃ s'.heap := kf.ka (Nat.le_refl _)
      have F' := F3.ka ka
      obtain ⟨ct', code', pm', hf', cr', hc'⟩ := id F'
      refine wpAny_Tuple (wpAny_items_cons (r_localN hn hmk (wpAny_items_cons (Call_ (r_free (c := L + 1) rfl hc' (callWith_meth (h₀ := s'.heap) rfl hf' (wpAny_items_cons (r_localN hn hmv (wpAny_items_nil ⟨fun _ _ q => q, ?_⟩)))))))))
      have hnd : (kvs.map (·.1)).Nodup := by
        obtain ⟨_, _, _, _, _, _, _, _, _, _, _, hd, _⟩ := P
        obtain ⟨o, es, ep, q, he, _, _, hn⟩ := hd
        first | exact hn | exact hn.2
      refine (c_ti_get (n := 0) (R'.over2 (n := 7) ..) X' F' hbg g d3 ka.kp hnd e1).call fun r s₇ z => ?_
      · obtain ⟨ev7, hz7, Is, hD, g7⟩ := z
        refine wpAny_items_nil ⟨show 2 ≤ sizeLine by decide, ev7.trans ⟨.of fun b o q => Heap.get?_push_of_some _ q, rfl, .refl _⟩, by rw [Heap.size_push]; omega, k, x, tk, s₇.heap.objs.size, r, Is, e1, hD, rfl, by omega, Heap.get?_push_size _ rfl, ?_⟩
        exact TD.st (lo := 0) (TD.mono g7 hhi) fun b o _ q _ => Heap.get?_push_of_some _ q
end
end Mine
end

-- XB
section
open PySem PySem.W PySem.Calls PyProof.Rows
set_option maxHeartbeats 4000000
namespace Mine
theorem fi_set : fillsInplaceSlot (.type "set") "or" (Operator.BitOr == .Add) = pure true := by
  unfold fillsInplaceSlot
  show (typeLookup (.type "set") (dunderI "or") >>= fun fi => pure (fi.isSome && !isSeqSlot fi)) = pure true
  rw [PySem.F.slot_set_ior.lookup]; rfl
section
variable {prog : Program} {w : World} {A : Around} {E : Value → Shared → Prop} {s : Shared} {env : Env}
theorem SetS.typeIs {a : Addr} {S : Str → Bool} {n : Nat} (x : SetS prog w s.heap a S n) : s.TypeIs (.ref a) "set" := by
  obtain ⟨o, es, ep, t, q, he, _⟩ := x; exact ⟨o, q, he.1⟩
theorem any_set {a : Addr} {Q : Bool → Shared → Prop} (hT : s.TypeIs (.ref a) "set") (h : Q true s) : wpAny (model prog w) A (Builtin.Frozenset.isAnySet (.ref a)) Q E s := by
  unfold Builtin.Frozenset.isAnySet
  show wpAny _ _ (isInstance (.ref a) (.type "set") >>= fun b => _) _ _ _
  refine wpAny_bind (wpAny_isInstance hT sub_set_self ?_)
  exact wpAny_pure h
theorem pick_one {α : Type} (next : Nat → Nat) (x : α) : pickOrder next #[x] = #[x] := by
  unfold pickOrder
  show pickOrder.go next 1 0 [x] #[] = #[x]
  unfold pickOrder.go
  rw [show next 0 % ([x] : List α).length = 0 from Nat.mod_one _]
  rfl
theorem walk_one {a : Addr} {o : Obj} {es : Array (Int × Value)} {ep : Nat} {t : SetTable} {Q : Array (Int × Value) → Shared → Prop} (ho : s.heap.get? a = some o) (hd : o.data = .set es ep t) (hf : t.fits es.size = true) (h1 : es.size = 1) (h : Q es s) :
    wpAny (model prog w) A (setWalk a) Q E s := by
  obtain ⟨x, rfl⟩ : ∃ x, es = #[x] := by
    obtain ⟨l⟩ := es
    cases l with
    | nil => cases h1
    | cons x r => cases r with
      | nil => exact ⟨x, rfl⟩
      | cons => simp at h1
  unfold setWalk
  refine wpAny_bind (wpAny_setState_of ho hd hf ?_)
  dsimp only
  unfold setsByText
  refine wpAny_bind (wpAny_bind (wpAny_askSetting (wpAny_pure ?_)))
  split
  · refine wpAny_bind (wpAny_askSetting (wpAny_pure ?_))
    rw [pick_one]; exact h
  · refine wpAny_ite_split (fun q => ?_) (fun _ => ?_)
    · have : (#[x] : Array (Int × Value)).size > 1 := by
        have q' : (!t.plain && decide ((#[x] : Array (Int × Value)).size > 1)) = true := q
        rw [Bool.and_eq_true] at q'
        exact of_decide_eq_true q'.2
      exact absurd (show 1 > 1 from this) (by decide)
    · show wpAny _ _ ((if (!t.led && decide ((#[x] : Array (Int × Value)).size > 1)) = true then _ else _) >>= _) _ _ _
      refine wpAny_bind ?_
      rw [if_neg (by rw [show decide ((#[x] : Array (Int × Value)).size > 1) = false from rfl]; simp)]
      exact wpAny_pure (wpAny_pure h)
/-- s |= o, for small sets -/
theorem merge_small {sa oa : Addr} {S1 S2 : Str → Bool} {n1 n2 : Nat} {each : Sem Unit} {Q : Unit → Shared → Prop} (hS : SetS prog w s.heap sa S1 n1) (hO : SetS prog w s.heap oa S2 n2) (hne : sa ≠ oa)
    (he : ∀ (s' : Shared) (Q' : Unit → Shared → Prop) E', SetS prog w s'.heap oa S2 n2 → (∀ o, s.heap.get? oa = some o → s'.heap.get? oa = some o) → Q' () s' → wpAny (model prog w) A each Q' E' s')
    (h : ∀ h' m, Heap.SameBut sa s.heap h' → h'.SetOf (PySem.strKind prog w) sa (fun k => S1 k || S2 k) m → (n1 = 0 → SetS prog w h' sa (fun k => S1 k || S2 k) n2) → Q () { s with heap := h' }) :
    wpAny (model prog w) A (setMerge sa oa each) Q E s := by
  have hS0 := hS.setOf
  have hO0 := hO
  obtain ⟨os, es, ep, t, qs, hes, hds, hels, hms, hbs, hfs, hns, hmask, hdum, hn1⟩ := hS
  obtain ⟨oo, eo, ep2, t2, qo, heo, hdo, helo, hmo, hbo, hfo, hno, hmask2, hdum2, hn2⟩ := hO
  have hpl : t.place.size = n1 := by
    have := hfs; simp only [SetTable.fits, Bool.and_eq_true, beq_iff_eq] at this; omega
  have hfill : t.fill = n1 := by show t.place.size + t.dummies.size = n1; rw [hdum, hpl]; rfl
  unfold setMerge
  rw [if_neg (by simpa using hne)]
  refine wpAny_bind (wpAny_setState_of qo hdo hfo ?_)
  dsimp only
  have hself : s = { s with heap := s.heap } := by cases s; rfl
  rcases Nat.eq_zero_or_pos n2 with hz | hz
  · have he0 : eo = #[] := Array.eq_empty_of_size_eq_zero (by omega)
    subst he0
    rw [if_pos (by rfl)]
    have hS2 : S2 = fun _ => false := by
      funext k
      cases q : S2 k with
      | false => rfl
      | true => obtain ⟨e, m, _⟩ := (hmo k).mp q; cases m
    refine wpAny_pure ?_
    have := h s.heap n1 (Heap.SameBut.refl _ _) (by subst hS2; simpa using hS0) (fun z => by
      subst hS2; simp only [Bool.or_false]
      exact ⟨os, es, ep, t, qs, hes, hds, hels, hms, hbs, hfs, by omega, hmask, hdum, by omega⟩)
    rw [hself]; exact this
  · have h1 : eo.size = 1 := by omega
    rw [if_neg (by rw [Array.isEmpty_iff]; intro q; rw [q] at h1; cases h1)]
    refine wpAny_bind ?_
    unfold setRoomFor
    refine wpAny_bind (wpAny_setState_of qs hds hfs ?_)
    dsimp only
    have hroom : t.roomFor eo.size = none := by
      unfold SetTable.roomFor
      rw [if_neg]
      rw [hfill, hmask, h1]; omega
    rw [hroom]
    refine wpAny_pure ?_
    refine wpAny_bind (wpAny_setState_of qs hds hfs ?_)
    dsimp only
    rcases Nat.eq_zero_or_pos n1 with h0 | h0
    · have hroad : t.road t2 = .slotForSlot := by
        unfold SetTable.road
        rw [hfill, h0, hmask, hmask2, hdum2]; rfl
      rw [hroad]
      dsimp only
      have hS1 : S1 = fun _ => false := by
        funext k
        cases q : S1 k with
        | false => rfl
        | true =>
          obtain ⟨e, m, _⟩ := (hms k).mp q
          have : es = #[] := Array.eq_empty_of_size_eq_zero (by omega)
          rw [this] at m; cases m
      refine wpAny_storeSet_of qs hds ?_ (by rw [h1]; decide)
      have hg := Heap.get?_update_self (Obj.putSet eo { t2 with finger := t.finger, led := t.led && t2.led, moves := t.moves, plain := t.plain && t2.plain }) qs (by rw [putSet_of _ _ hds]; rfl)
      rw [putSet_of _ _ hds] at hg
      have hSS : SetS prog w (s.heap.update sa (Obj.putSet eo { t2 with finger := t.finger, led := t.led && t2.led, moves := t.moves, plain := t.plain && t2.plain })) sa (fun k => S1 k || S2 k) n2 := by
        subst hS1
        simp only [Bool.false_or]
        exact ⟨_, _, _, _, hg, ⟨hes.1, hes.2.1, hes.2.2⟩, rfl, helo, hmo, hbo, hfo, hno, hmask2, hdum2, hn2⟩
      exact h _ n2 (Heap.SameBut.update ..) hSS.setOf fun _ => hSS
    · have hroad : t.road t2 = .oneByOne := by
        unfold SetTable.road
        rw [if_pos (by rw [hfill]; simp; omega)]
      rw [hroad]
      dsimp only
      refine wpAny_bind ?_
      unfold setWalkUnseen
      refine wpAny_bind (wpAny_setState_of qo hdo hfo ?_)
      dsimp only
      unfold setsByText
      refine wpAny_bind (wpAny_bind (wpAny_askSetting (wpAny_pure ?_)))
      rw [if_pos (by rw [show decide (eo.size ≤ 1) = true from by rw [h1]; rfl, Bool.or_true])]
      refine walk_one qo hdo hfo h1 ?_
      obtain ⟨⟨hx, x⟩, rfl⟩ : ∃ x, eo = #[x] := by
        obtain ⟨l⟩ := eo
        cases l with
        | nil => cases h1
        | cons x r => cases r with
          | nil => exact ⟨x, rfl⟩
          | cons => simp at h1
      obtain ⟨⟨k, hk, e⟩, hsc⟩ := helo (hx, x) (List.mem_singleton.mpr rfl)
      dsimp only at e hk hsc
      subst e
      rw [← Array.forIn_toList, List.forIn_cons]
      dsimp only
      refine wpAny_bind (wpAny_bind (wpAny_bind (wpAny_holding (wpAny_setAddHashed_of hk hsc hS0 (by have : scanBound = 4096 := rfl; omega) fun h' S hS' => ?_))))
      have ko : ∀ o, s.heap.get? oa = some o → h'.get? oa = some o := fun o q => (S.2 _ (Ne.symm hne)).trans q
      have hO' : SetS prog w h' oa S2 n2 := by
        obtain ⟨o, es, ep, t, q, r⟩ := hO0
        exact ⟨o, es, ep, t, ko _ q, r⟩
      refine wpAny_bind (he { s with heap := h' } _ _ hO' ko ?_)
      refine wpAny_bind (wpAny_setState_of (ko _ qo) hdo hfo ?_)
      dsimp only
      rw [if_neg (by simp)]
      refine wpAny_pure ?_
      dsimp only
      rw [List.forIn_nil]
      refine wpAny_pure ?_
      have hS2 : S2 = fun y => decide (y = k) := by
        funext y
        cases q : S2 y with
        | false =>
          refine (decide_eq_false fun z => ?_).symm
          subst z
          have := (hmo y).mpr ⟨_, List.mem_singleton.mpr rfl, hk⟩
          rw [q] at this; cases this
        | true =>
          obtain ⟨e, m, r⟩ := (hmo y).mp q
          rw [List.mem_singleton] at m; subst m
          exact (decide_eq_true ((PySem.strKind prog w).inj x y k r hk)).symm
      exact wpAny_pure (h h' _ S (by subst hS2; exact hS') fun z => by omega)
/-- a |= b, for small sets -/
theorem v_ior {sa oa : Addr} {S1 S2 : Str → Bool} {n1 n2 : Nat} {Q : Value → Shared → Prop} (hS : SetS prog w s.heap sa S1 n1) (hO : SetS prog w s.heap oa S2 n2) (hne : sa ≠ oa)
    (h : ∀ h' m, Heap.SameBut sa s.heap h' → h'.SetOf (PySem.strKind prog w) sa (fun k => S1 k || S2 k) m → (n1 = 0 → SetS prog w h' sa (fun k => S1 k || S2 k) n2) → Q (.ref sa) { s with heap := h' }) :
    wpAny (model prog w) A (inplaceOp .BitOr (.ref sa) (.ref oa)) Q E s := by
  unfold inplaceOp
  refine wpAny_holding ?_
  refine wpAny_bind (wpAny_typeOf hS.typeIs (wpAny_bind (wpAny_of_eq fi_set ?_)))
  rw [if_pos rfl]
  refine wpAny_bind ?_
  unfold tryMethod
  refine wpAny_bind (wpAny_callSpecial?_slot (name := dunderI "or") hS.typeIs PySem.F.slot_set_ior (wpAny_call_entry PySem.F.slot_set_ior hS.typeIs PySem.F.entry_set_ior ?_ (PySem.F.args_set_ior_2 _ _)))
  show wpAny _ _ (Builtin.Frozenset.slot1 "__ior__" ⟨[.ref sa, .ref oa], []⟩ >>= _) _ _ _
  refine wpAny_bind (wpAny_of_eq (a := (Value.ref sa, Value.ref oa)) (by rfl) ?_)
  dsimp only
  refine wpAny_bind (any_set hO.typeIs ?_)
  simp only [Bool.not_true, Bool.false_eq_true, if_false]
  refine wpAny_bind (wpAny_pure (wpAny_bind ?_))
  unfold Builtin.Frozenset.updateFrom
  refine wpAny_bind (any_set hO.typeIs ?_)
  rw [if_pos rfl]
  refine wpAny_bind (wpAny_pure ?_)
  unfold Builtin.Frozenset.merge
  obtain ⟨oo, eo, ep2, t2, qo, heo, hdo, helo, hmo, hbo, hfo, r⟩ := id hO
  refine wpAny_bind (wpAny_setEpoch_of qo hdo hfo ?_)
  refine merge_small hS hO hne (fun s' Q' E' hO' ko hq => ?_) fun h' m S hS' hSS => ?_
  · unfold Builtin.Frozenset.unchanged
    refine wpAny_bind (wpAny_setEpoch_of (ko _ qo) hdo hfo ?_)
    rw [if_neg (by simp)]
    exact wpAny_pure hq
  · refine wpAny_pure ⟨_, rfl, ?_⟩
    refine wpAny_pure ?_
    refine wpAny_bind (wpAny_rule (wpAny_pure ?_))
    exact h h' m S hS' hSS
end
end Mine
end

-- XC
section
open PySem PySem.W PySem.Calls PyProof.Rows
set_option maxHeartbeats 4000000
namespace Mine
theorem fi_list : fillsInplaceSlot (.type "list") "add" (Operator.Add == .Add) = pure false := by
  unfold fillsInplaceSlot
  show (typeLookup (.type "list") (dunderI "add") >>= fun fi => pure (fi.isSome && !isSeqSlot fi)) = pure false
  rw [PySem.F.slot_list_iadd.lookup]
  show (pure ((some (Value.builtin "list.__iadd__")).isSome && !isSeqSlot (some (.builtin "list.__iadd__"))) : Sem Bool) = pure false
  rw [show isSeqSlot (some (.builtin "list.__iadd__")) = true from by decide +kernel]; rfl
section
variable {prog : Program} {w : World} {A : Around} {E : Value → Shared → Prop} {s : Shared} {env : Env}
/-- a += b, for lists -/
theorem v_iaddL {a b : Addr} {xs ys : List Value} {c c' : Nat} {Q : Value → Shared → Prop} (ha : IsL s.heap a xs.toArray c) (hb : IsL s.heap b ys.toArray c') (hz : xs.length + ys.length ≤ 1000)
    (h : ∀ h' k, IsL h' a (xs ++ ys).toArray k → Heap.SameBut a s.heap h' → Q (.ref a) { s with heap := h' }) : wpAny (model prog w) A (inplaceOp .Add (.ref a) (.ref b)) Q E s := by
  have hT : s.TypeIs (.ref a) "list" := ⟨_, ha, rfl⟩
  unfold inplaceOp
  refine wpAny_holding ?_
  refine wpAny_bind (wpAny_typeOf hT (wpAny_bind (wpAny_of_eq fi_list ?_)))
  rw [if_neg Bool.false_ne_true]
  refine wpAny_bind (wpAny_binaryOp1_none (nm := "add") (T := "list") hT ⟨_, hb, rfl⟩ noFill_list_add ?_)
  dsimp only
  refine wpAny_bind (wpAny_of_eq (PySem.seqSlot_of PySem.F.slot_list_iadd.lookup (by decide +kernel)) ?_)
  dsimp only
  refine wpAny_bind (wpAny_rule ?_)
  refine call_meets PySem.F.slot_list_iadd hT PySem.F.entry_list_iadd (PySem.F.args_list_iadd_2 _ _) (PySem.AutoSeq1.list___iadd___list_list_0 a xs.toArray c b ys.toArray c' ?_ ?_ ?_) ⟨ha, hb, ?_⟩
  · intro q
    rw [Bool.and_eq_true] at q
    have := of_decide_eq_true (show decide (xs.toArray.size + ys.toArray.size > sizeLine) = true from q.2)
    rw [List.size_toArray, List.size_toArray, sizeLine_eq] at this; omega
  · rw [List.size_toArray, sizeLine_eq]; omega
  · rw [List.size_toArray, List.size_toArray, sizeLine_eq]; omega
  · have u := IsL.update ha (fun x => x ++ ys.toArray)
    have e : xs.toArray ++ ys.toArray = (xs ++ ys).toArray := by simp
    rw [e] at u
    exact h _ _ u (Heap.SameBut.update ..)
theorem setOf_fun {h : Heap} {a : Addr} {S S' : Str → Bool} {n n' : Nat} (x : h.SetOf (PySem.strKind prog w) a S n) (y : h.SetOf (PySem.strKind prog w) a S' n') : S = S' := by
  obtain ⟨o, es, ep, t, q, _, hd, _, hm, _⟩ := x
  obtain ⟨o', es', ep', t', q', _, hd', _, hm', _⟩ := y
  rw [q] at q'; cases q'
  rw [hd] at hd'; cases hd'
  funext k
  have := (hm k).trans (hm' k).symm
  cases h1 : S k <;> cases h2 : S' k <;> simp_all
/-- what a small ParseResults is made of -/
theorem SmP.open {h : Heap} {a : Addr} {vs : List Value} {kvs : List (Str × Value)} {S : Str → Bool} (M : SmP prog w h a) (P : PRx prog w h a vs kvs S) :
    ∃ dx tl td an par nm md n c, h.get? a = some (pcls dx #[some (.ref an), some md, some nm, some par, some (.ref td), some (.ref tl)]) ∧ h.get? dx = some noDict ∧ IsL h tl vs.toArray c ∧ h.DictOf (PySem.strKind prog w) td kvs ∧ (td == sysModules) = false ∧ SetS prog w h an S n ∧
      handedIn nm = true ∧ handedIn par = true ∧ vs.length ≤ 64 ∧ kvs.length ≤ 64 := by
  obtain ⟨dx, tl, td, an, par, nm, md, k, ha, hx, hl, hd, hs, hS, hz, hz'⟩ := P
  obtain ⟨dx', tl', td', an', par', nm', md', S', n', q, ss, h1, h2, ⟨xs, c, r3⟩, _⟩ := M
  rw [ha] at q; cases q
  have e := setOf_fun hS ss.setOf
  subst e
  obtain ⟨o, g, _, m, r⟩ := hl
  rw [r3] at g; cases g
  have := (Data.seq.inj r).1
  subst this
  exact ⟨dx, tl, td, an, par, nm, md, n', c, ha, hx, r3, hd, hs, ss, h1, h2, hz, hz'⟩
theorem c_copy {n : Nat} {a : Addr} {vs : List Value} {kvs : List (Str × Value)} {S : Str → Bool} (R : Rm (n + 4) A) (X : Wd w s.heap) (P : PRx prog w s.heap a vs kvs S) (M : SmP prog w s.heap a) :
    Ret prog w A (.ref 236) ⟨[.ref a], []⟩ s (fun v s' => Ev s s' ∧ ∃ a' dx tl td an nm par, v = .ref a' ∧ PRr prog w s.heap.objs.size s'.heap a' dx tl td an (some (.bool true)) (some nm) (some par) vs kvs S) := by
  obtain ⟨dx0, tl0, td0, an0, par0, nm0, md0, n0, c0, qa, qx, ql, qd, hs, qs, hnm, hpar, hz, hz'⟩ := M.open P
  refine b_enter X X.big (Nat.le_refl _) (binds := [("self", .ref a)]) (body := bodyOf fd_copy) R.room (fo_copy X) rfl (code_of X (by kernel_rfl)) rfl (.of_eq rfl) (by decide) (locs rfl) fun L s₁ B hL ev => ?_
  have hs1 : s.heap.objs.size ≤ s₁.heap.objs.size := Nat.le_of_lt B.lt
  refine wpAny_execs_cons (wpAny_Assign_Name (Call_ (r_global B.wd (n_PR w) (callWith_K (h₀ := s₁.heap) B.wd (k_PR w) (wpAny_items_cons (Attribute_Name_ (r_local B.fm rfl (pr_get B.wd (B.old.k _ _ qa rfl) (B.old.k _ _ qx rfl) (c_tl w) (s_tl w) rfl rfl (wpAny_items_nil ⟨B.wd, ?_⟩)))))))))
  replace B := B.tok (s₁.toks + 1)
  refine (c_plain ((R.deep _).less (k := n + 2) (by omega)) B.wd (.inr (.inr ⟨tl0, _, c0, rfl, B.old.k _ _ ql rfl, rfl, rfl, hz⟩))).call fun v s₂ z => ?_
  obtain ⟨ev2, z⟩ := z
  have z : NewPR prog w s₁.heap.objs.size s₂.heap v vs := z
  replace B := B.ev ev2
  obtain ⟨a', dx, tl, td2, an, n2, rfl, l1, l5, l0, l2, l3, l4, ha, hx, htl, _, han⟩ := z
  have hna : s.heap.objs.size ≤ a' := Nat.le_trans hs1 l1
  have hnx : s.heap.objs.size ≤ dx := Nat.le_trans hs1 l0
  have hnl : s.heap.objs.size ≤ tl := Nat.le_trans hs1 l2
  have hns : s.heap.objs.size ≤ an := Nat.le_trans hs1 l4
  clear l1 l0 l2 l3 l4 l5
  have han : SetS prog w s₂.heap an (fun _ => false) 0 := han
  refine b_store B fun h₃ B K _ => ?_
  replace ha := K.k _ _ ha rfl
  replace hx := K.k _ _ hx rfl
  replace htl := K.k _ _ htl rfl
  replace han := han.kp K
  clear K
  obtain ⟨o₂, es₂, ep₂, t₂, qan, hes, ran⟩ := han
  refine wpAny_execs_cons (plainObj_wpAny_Assign_Attribute (MethodCall_ (Attribute_Name_ (r_local B.fm rfl (pr_get B.wd (B.old.k _ _ qa rfl) (B.old.k _ _ qx rfl) (c_td w) (s_td w) rfl rfl ?_)))))
  replace B := B.tok (s₂.toks + 1 + 1)
  have hd := dictOf_kp qd B.old
  refine getMethod_builtin hd.typeIs F.plainAttrs_dict F.slot_dict_copy F.type_dict_copy hd.mapOf.noDict ?_
  refine callWith_method0 (call_meetsIn F.slot_dict_copy hd.typeIs F.entry_dict_copy (F.args_dict_copy_1 _) (meets_dict_copy (PySem.strKind prog w) td0 hs) ⟨kvs, hd, by rw [sizeLine_eq]; omega, fun h₄ hd4 _ keep => ?_⟩)
  have hnd : s.heap.objs.size ≤ h₃.objs.size := Nat.le_of_lt B.lt
  have hxd : dx < h₃.objs.size := Heap.lt_size hx
  replace B := B.keep (t := s₂.toks + 1 + 1) keep
  replace ha := keep _ _ ha
  replace hx := keep _ _ hx
  replace htl := keep _ _ htl
  replace qan := keep _ _ qan
  dsimp only at *
  generalize h₃.objs.size = td at *
  clear keep hd
  obtain ⟨od, esd, epd, qtd, hed, rd⟩ := hd4
  refine r_local B.fm rfl ?_
  refine b_set B hna ha hx (u_td w) (y_td w) (s_td w) (by decide) (sl' := #[some (.ref an), some (.bool true), some .none, some .none, some (.ref td), some (.ref tl)]) rfl fun h₅ B' ha' hx' S => ?_
  replace htl := stays S ha htl (nofun)
  replace qan := stays S ha qan (by rw [hes.1]; nofun)
  replace qtd := stays S ha qtd (by rw [hed.1]; nofun)
  replace B := B'
  replace ha := ha'
  replace hx := hx'
  clear B' ha' hx' S
  refine wpAny_execs_cons (plainObj_wpAny_Assign_Attribute (Attribute_Name_ (r_local B.fm rfl (pr_get B.wd (B.old.k _ _ qa rfl) (B.old.k _ _ qx rfl) (c_par w) (s_par w) rfl hpar (r_local B.fm rfl ?_)))))
  replace B := B.tok (s₂.toks + 1 + 1 + 1 + 1)
  refine b_set B hna ha hx (u_par w) (y_par w) (s_par w) (by decide) (sl' := #[some (.ref an), some (.bool true), some .none, some par0, some (.ref td), some (.ref tl)]) rfl fun h₆ B' ha' hx' S => ?_
  replace htl := stays S ha htl (nofun)
  replace qan := stays S ha qan (by rw [hes.1]; nofun)
  replace qtd := stays S ha qtd (by rw [hed.1]; nofun)
  replace B := B'
  replace ha := ha'
  replace hx := hx'
  clear B' ha' hx' S
  refine wpAny_execs_cons (wpAny_AugAssign_AttributeAny (r_local B.fm rfl (pr_get B.wd ha hx (c_an w) (s_an w) rfl rfl (Attribute_Name_ (r_local B.fm rfl ?_)))))
  replace B := B.tok (s₂.toks + 1 + 1 + 1 + 1 + 1 + 1)
  refine pr_get B.wd (B.old.k _ _ qa rfl) (B.old.k _ _ qx rfl) (c_an w) (s_an w) rfl rfl ?_
  replace B := B.tok (s₂.toks + 1 + 1 + 1 + 1 + 1 + 1 + 1)
  have hne : an ≠ an0 := by
    obtain ⟨o, es, ep, t, q, _⟩ := qs
    exact Nat.ne_of_gt (Nat.lt_of_lt_of_le (Heap.lt_size q) hns)
  refine v_ior (show SetS prog w h₆ an (fun _ => false) 0 from ⟨_, _, _, _, qan, hes, ran⟩) (qs.kp B.old) hne fun h₇ m7 S7 _ hS7 => ?_
  have hS7 := hS7 rfl
  replace B := B.at_ (t := s₂.toks + 1 + 1 + 1 + 1 + 1 + 1 + 1) S7 hns (B.ne qan (by rw [hes.1]; simp)) ⟨_, qan, nc_cls (by rw [hes.1]; simp)⟩
  replace ha := stays S7 qan ha (by rw [hes.1]; nofun)
  replace hx := stays S7 qan hx (by rw [hes.1]; simp)
  replace htl := stays S7 qan htl (by rw [hes.1]; simp)
  replace qtd := stays S7 qan qtd (by rw [hes.1, hed.1]; simp)
  clear qan hes ran S7
  obtain ⟨o₃, es₃, ep₃, t₃, qan, hes, ran⟩ := hS7
  refine b_set B hna ha hx (u_an w) (y_an w) (s_an w) (by decide) (sl' := #[some (.ref an), some (.bool true), some .none, some par0, some (.ref td), some (.ref tl)]) rfl fun h₈ B' ha' hx' S => ?_
  replace htl := stays S ha htl (nofun)
  replace qan := stays S ha qan (by rw [hes.1]; nofun)
  replace qtd := stays S ha qtd (by rw [hed.1]; nofun)
  replace B := B'
  replace ha := ha'
  replace hx := hx'
  clear B' ha' hx' S
  refine wpAny_execs_cons (plainObj_wpAny_Assign_Attribute (Attribute_Name_ (r_local B.fm rfl (pr_get B.wd (B.old.k _ _ qa rfl) (B.old.k _ _ qx rfl) (c_nm w) (s_nm w) rfl hnm (r_local B.fm rfl ?_)))))
  replace B := B.tok (s₂.toks + 1 + 1 + 1 + 1 + 1 + 1 + 1 + 1 + 1)
  refine b_set B hna ha hx (u_nm w) (y_nm w) (s_nm w) (by decide) (sl' := #[some (.ref an), some (.bool true), some nm0, some par0, some (.ref td), some (.ref tl)]) rfl fun h₉ B' ha' hx' S => ?_
  replace htl := stays S ha htl (nofun)
  replace qan := stays S ha qan (by rw [hes.1]; nofun)
  replace qtd := stays S ha qtd (by rw [hed.1]; nofun)
  replace B := B'
  replace ha := ha'
  replace hx := hx'
  clear B' ha' hx' S
  have e : (fun k => (fun _ : Str => false) k || S k) = S := by funext k; rfl
  rw [e] at ran
  have fs : SetS prog w h₉ an S n0 := ⟨_, _, _, _, qan, hes, ran⟩
  have fd : h₉.DictOf (PySem.strKind prog w) td kvs := ⟨_, _, _, qtd, hed, rd⟩
  exact wpAny_execs_cons (wpAny_Return_some (r_local B.fm rfl ⟨B.out.ev (Nat.le_refl _), a', dx, tl, td, an, nm0, par0, rfl, ha, hx, ⟨_, htl⟩, fd, ⟨_, fs⟩, hna, hnx, hnl, hnd, hns, Nat.ne_of_lt hxd⟩))
end
end Mine
end

-- XD
section
open PySem PySem.W PySem.Calls PyProof.Rows
set_option maxHeartbeats 4000000
namespace Mine
section
variable {prog : Program} {w : World} {A : Around} {E : Value → Shared → Prop} {s : Shared} {env : Env} {R : Result → Shared → Prop}
variable {elt iter iter2 tgt : Expr} {x : Str} {px : Pos} {scope : Scope} {pos : Pos} {it acc : Value}
abbrev comp2 (elt tgt iter : Expr) (x : Str) (px : Pos) (iter2 : Expr) (scope : Scope) (pos : Pos) : Expr := .ListComp elt [⟨tgt, iter, [], 0⟩, ⟨.Name x px, iter2, [], 0⟩] scope pos
theorem c2_turn0 (hs2 : ∀ v, foldedSetIterable iter2 env v = pure v)
    (h : wpAny (model prog w) A (pyNext it) (fun r s₁ => match r with
      | none => R (.ok .next) s₁
      | some v => wpAny (model prog w) A (letOwnedTupleGo tgt it v) (fun _ s₂ => wpAny (model prog w) A (assign tgt env v) (fun _ s₃ => wpAny (model prog w) A (eval iter2 env) (fun xv s₄ => wpAny (model prog w) A (pyIter xv) (fun it2 s₅ =>
          codeAny (model prog w) A (.compStart (comp2 elt tgt iter x px iter2 scope pos) 1 it2 acc env) (fun r s₆ => match r with | .ok _ => codeAny (model prog w) A (.compLoop (comp2 elt tgt iter x px iter2 scope pos) 0 it acc env) R s₆ | .error _ => False) s₅)
          (fun _ _ => False) s₄) (fun _ _ => False) s₃) (fun _ _ => False) s₂) (fun _ _ => False) s₁) (fun _ _ => False) s) :
    codeAny (model prog w) A (.compLoop (comp2 elt tgt iter x px iter2 scope pos) 0 it acc env) R s := by
  refine codeAny_of_tree ?_
  show wpAny _ A ((compTurn (comp2 elt tgt iter x px iter2 scope pos) 0 it acc env).onRaise (fun x => do noteFrame x env; theTreesLotGoes x)) _ _ s
  refine wpAny_noted ?_
  unfold compTurn
  dsimp only
  show wpAny _ A (standAt iter.pos >>= fun _ => pyNext it >>= _) _ _ s
  refine wpAny_bind (wpAny_standAt (wpAny_bind (wpAny_mono h (fun r s₁ h₁ => ?_) fun _ _ z => z.elim)))
  cases r with
  | none => exact wpAny_pure h₁
  | some v =>
    dsimp only at h₁ ⊢
    refine wpAny_bind (wpAny_mono h₁ (fun _ s₂ h₂ => ?_) fun _ _ z => z.elim)
    refine wpAny_bind (wpAny_mono h₂ (fun _ s₃ h₃ => ?_) fun _ _ z => z.elim)
    simp only [List.forIn_nil]
    refine wpAny_bind (wpAny_pure ?_)
    simp only [if_true]
    refine wpAny_bind (wpAny_mono h₃ (fun xv s₄ h₄ => ?_) fun _ _ z => z.elim)
    refine wpAny_bind (wpAny_standAt ?_)
    dsimp only
    rw [if_neg (by decide)]
    refine wpAny_bind (wpAny_of_eq (hs2 xv) ?_)
    refine wpAny_bind (wpAny_holding ?_)
    rw [if_neg (by decide)]
    refine wpAny_mono h₄ (fun it2 s₅ h₅ => ?_) fun _ _ z => z.elim
    refine wpAny_bind (wpAny_runOwn ?_)
    rw [Around.mark_none]
    refine codeAny_mono h₅ fun r s₆ h₆ => ?_
    cases r with
    | error e => exact h₆.elim
    | ok f => exact wpAny_pure ⟨rfl, h₆⟩
theorem c2_start1 (h0 : codeAny (model prog w) A (.compLoop (comp2 elt tgt iter x px iter2 scope pos) 1 it acc env) R s)
    (h : wpAny (model prog w) A (pyIter it) (fun it' s' => codeAny (model prog w) A (.compLoop (comp2 elt tgt iter x px iter2 scope pos) 1 it' acc env) R s') (fun _ _ => False) s) :
    codeAny (model prog w) A (.compStart (comp2 elt tgt iter x px iter2 scope pos) 1 it acc env) R s := by
  refine codeAny_of_tree ?_
  show wpAny _ _ ((compStart (comp2 elt tgt iter x px iter2 scope pos) 1 it acc env).onRaise (fun x => do noteFrame x env; standAt theWindowsPlace)) _ _ s
  refine wpAny_notedAt ?_
  unfold compStart
  show wpAny _ _ (ask >>= _) _ _ s
  refine wpAny_bind (wpAny_askSetting (wpAny_ite ?_))
  split
  · exact wpAny_bind (wpAny_pure (wpAny_pure (And.intro rfl h0)))
  · exact wpAny_bind (wpAny_rule (wpAny_bind (wpAny_standAt (wpAny_bind (wpAny_mono h (fun it' s' h' => wpAny_pure (And.intro rfl h')) fun _ _ x => x.elim)))))
theorem c2_turn1
    (h : wpAny (model prog w) A (pyNext it) (fun r s₁ => match r with
      | none => R (.ok .next) s₁
      | some v => wpAny (model prog w) A (assign (.Name x px) env v) (fun _ s₂ => wpAny (model prog w) A (eval elt env) (fun y s₃ => wpAny (model prog w) A (call (.builtin "list.append") [acc, y]) (fun _ s₄ =>
          codeAny (model prog w) A (.compLoop (comp2 elt tgt iter x px iter2 scope pos) 1 it acc env) R s₄) (fun _ _ => False) s₃) (fun _ _ => False) s₂) (fun _ _ => False) s₁) (fun _ _ => False) s) :
    codeAny (model prog w) A (.compLoop (comp2 elt tgt iter x px iter2 scope pos) 1 it acc env) R s := by
  refine codeAny_of_tree ?_
  show wpAny _ A ((compTurn (comp2 elt tgt iter x px iter2 scope pos) 1 it acc env).onRaise (fun x => do noteFrame x env; theTreesLotGoes x)) _ _ s
  refine wpAny_noted ?_
  unfold compTurn
  dsimp only
  show wpAny _ A (standAt iter2.pos >>= fun _ => pyNext it >>= _) _ _ s
  refine wpAny_bind (wpAny_standAt (wpAny_bind (wpAny_mono h (fun r s₁ h₁ => ?_) fun _ _ z => z.elim)))
  cases r with
  | none => exact wpAny_pure h₁
  | some v =>
    dsimp only at h₁ ⊢
    refine wpAny_bind (wpAny_of_eq (rfl : letOwnedTupleGo (.Name x px) it v = pure ()) ?_)
    refine wpAny_bind (wpAny_mono h₁ (fun _ s₂ h₂ => ?_) fun _ _ z => z.elim)
    simp only [List.forIn_nil]
    refine wpAny_bind (wpAny_pure ?_)
    simp only [if_true]
    exact wpAny_bind (wpAny_bind (wpAny_mono h₂ (fun y s₃ h₃ => wpAny_bind (wpAny_mono h₃ (fun _ s₄ h₄ => wpAny_pure (wpAny_pure ⟨rfl, h₄⟩)) fun _ _ z => z.elim)) fun _ _ z => z.elim))
/-- a comprehension with two clauses, up to its loop -/
theorem v_comp2 {cl : List (Str × Addr)} {cpos : Pos} {use : Option (Value → Sem Unit)} {Q : Value → Shared → Prop}
    (hclos : closureFor scope env = pure cl) (hkind : scope.kind = .function) (hnames : ∀ x ∈ scope.names, x.2 = .local → scope.names.lookup x.1 = some .local) (hcell : ∀ x ∈ scope.names, x.2 ≠ .cell)
    (h : wpAny (model prog w) A (eval iter env) (fun xv s₁ => wpAny (model prog w) A (pyIter xv) (fun it s₂ => ∀ H₄ : Heap, (∀ b o, s₂.heap.get? b = some o → H₄.get? b = some o) → IsL H₄ s₂.heap.objs.size #[] 0 → H₄.Ns (s₂.heap.objs.size + 1) (fun _ => none) → s₂.heap.objs.size + 2 ≤ H₄.objs.size →
      (∀ (E' : Value → Shared → Prop) (Q' : Value → Shared → Prop), Q' it { s₂ with heap := H₄ } → wpAny (model prog w) A (pyIter it) Q' E' { s₂ with heap := H₄ }) ∧
      codeAny (model prog w) A (.compLoop (comp2 elt tgt iter x px iter2 scope pos) 0 it (.ref s₂.heap.objs.size) (compEnvC scope cl (s₂.heap.objs.size + 1) env))
        (fun r s' => match r with | .ok f => compPost (model prog w) A E use Q (.ref s₂.heap.objs.size) (s₂.heap.objs.size + 1) (.ok f) s' | .error _ => False) { s₂ with heap := H₄ }) E s₁) E s)
    (hs : ∀ x, foldedSetIterable iter env x = pure x := by intro _; rfl) :
    wpAny (model prog w) A (comprehension (comp2 elt tgt iter x px iter2 scope pos) scope env cpos (newList []) false (eval iter env) use) Q E s := by
  refine wpAny_comprehension_free (use := use) rfl hs hclos hkind hnames ?_
  refine wpAny_mono h (fun xv s₁ h₁ => wpAny_mono h₁ (fun it s₂ h₂ => ?_) fun _ _ z => z) fun _ _ z => z
  refine wpAny_newObj_type (hd := by size_fits) ?_
  simp only [newFunctionEnv, Option.isSome_some, if_true]
  refine wpAny_bind (wpAny_alloc ?_)
  rw [forIn_yield_id cl (fun x hx c => by
    obtain ⟨name, kind⟩ := x
    have : (kind == NameKind.cell) = false := by simpa using hcell _ hx
    simp only [this, Bool.false_eq_true, if_false])]
  refine wpAny_bind (wpAny_pure (wpAny_bind (wpAny_of_eq (List.forIn_nil ..) (wpAny_pure ?_))))
  dsimp only
  rw [Heap.size_push]
  have hD := Heap.get?_push_size s₂.heap (show ({ cls := .type "list", data := .seq ([] : List Value).toArray } : Obj).isFreed = false from rfl)
  generalize hH : (s₂.heap.push { cls := .type "list", data := .seq ([] : List Value).toArray }) = H at *
  have hHz : H.objs.size = s₂.heap.objs.size + 1 := by rw [← hH, Heap.size_push]
  have hC : (H.push { cls := .type "dict", data := .dict #[] }).Ns (s₂.heap.objs.size + 1) (fun _ => none) := by rw [← hHz]; exact Heap.Ns.new H (.type "dict")
  have k1 : ∀ b o, s₂.heap.get? b = some o → H.get? b = some o := fun b o e => hH ▸ Heap.get?_push_of_some _ e
  have k2 : ∀ b o, H.get? b = some o → (H.push { cls := .type "dict", data := .dict #[] }).get? b = some o := fun b o e => Heap.get?_push_of_some _ e
  have hz4 : s₂.heap.objs.size + 2 ≤ (H.push { cls := .type "dict", data := .dict #[] }).objs.size := by rw [Heap.size_push, hHz]; omega
  obtain ⟨hi, loop⟩ := h₂ _ (fun b o e => k2 _ _ (k1 _ _ e)) (k2 _ _ hD) hC hz4
  have loop' : codeAny (model prog w) A (.compLoop (comp2 elt tgt iter x px iter2 scope pos) 0 it (.ref s₂.heap.objs.size) (compEnvC scope cl (s₂.heap.objs.size + 1) env)) (compPost (model prog w) A E use Q (.ref s₂.heap.objs.size) (s₂.heap.objs.size + 1))
      { s₂ with heap := H.push { cls := .type "dict", data := .dict #[] } } := codeAny_mono loop fun r s' z => by
    cases r with
    | error e => exact z.elim
    | ok f => exact z
  exact codeAny_compStart_list loop' (hi _ _ loop')
end
end Mine
end

-- XE
section
open PySem PySem.W PySem.Calls PyProof.Rows
set_option maxHeartbeats 4000000
namespace Mine
def ifBody2 (b : List Stmt) (i : Nat) : List Stmt := match b[i]? with | some (.If _ x _ _) => x | _ => []
abbrev iaB : List Stmt := ifBody2 (bodyOf fd_iadd) 1
def asVal (b : List Stmt) (i : Nat) : Expr := match b[i]? with | some (.Assign _ v _) => v | _ => .Constant .none 0 ⟨0,0,0,0⟩
abbrev aoLam : Expr := asVal iaB 1
def laParams : Expr → Arguments | .Lambda a _ _ _ => a | _ => default
def laBody : Expr → Expr | .Lambda _ b _ _ => b | e => e
def laScope : Expr → Scope | .Lambda _ _ s _ => s | _ => default
def laPos : Expr → Pos | .Lambda _ _ _ p => p | _ => ⟨0,0,0,0⟩
/-- the function addoffset -/
def fdAO (c : Addr) (ct : Value) (code : Value) (pm : Value) : FuncData := { name := "<lambda>", qualname := "ParseResults.__iadd__.<locals>.<lambda>", params := laParams aoLam, body := .expr (laBody aoLam), scope := laScope aoLam, globals := 3, closure := [("offset", c)], closureTuple := ct, defaults := .none, kwdefaults := .none, pyModule := pm, code, builtins := 0 }
def AOat (h : Heap) (c f : Addr) (z : Int) : Prop := ∃ ct code pm t, h.get? f = some (fnObj (fdAO c ct code pm)) ∧ CR h code "ParseResults.__iadd__.<locals>.<lambda>" ∧ CellAt h c (some (.int z t))
section
variable {prog : Program} {w : World} {A : Around} {E : Value → Shared → Prop} {s : Shared} {env : Env}
theorem AOat.ka {h h' : Heap} {c f : Addr} {z : Int} (x : AOat h c f z) (k : Ka h h') : AOat h' c f z := by
  obtain ⟨ct, code, pm, t, a, b, d⟩ := x
  exact ⟨ct, code, pm, t, k.k _ _ a rfl, b.k fun b o q c => k.k _ _ q (code_tab c), d.ka k⟩
/-- the lambda is made -/
theorem ao_def {L : Addr} {Q : Value → Shared → Prop} (X : Wd w s.heap) (T : TabAt s.heap 208 206)
    (h : ∀ s₁ f ct code pm, Ev s s₁ → s.heap.objs.size ≤ f → s₁.heap.get? f = some (fnObj (fdAO (L + 2) ct code pm)) → CR s₁.heap code "ParseResults.__iadd__.<locals>.<lambda>" → s₁.gens = s.gens → Q (.ref f) s₁) :
    wpAny (model prog w) A (eval aoLam (callEnvC fd_iadd L 209)) Q E s := by
  show wpAny (model prog w) A (eval (.Lambda (laParams aoLam) (laBody aoLam) (laScope aoLam) (laPos aoLam)) (callEnvC fd_iadd L 209)) Q E s
  refine kla_eval rfl ?_
  unfold makeFunction
  refine wpAny_bind (wpAny_pure (a := Value.none) (wpAny_bind (wpAny_pure (a := Value.none) (wpAny_bind (wpAny_pure (a := (none : Option Addr)) ?_)))))
  have hclos : closureFor (laScope aoLam) (callEnvC fd_iadd L 209) = (pure [(("offset" : Str), L + 2)] : Sem (List (Str × Addr))) := rfl
  rw [hclos]
  refine wpAny_bind (wpAny_pure ?_)
  rw [List.mergeSort_singleton]
  show wpAny (model prog w) A (newTextTuple [.ref (L + 2)] >>= _) _ _ s
  unfold newTextTuple
  refine wpAny_bind (wpAny_newObjAsIs_type ?_)
  have k1 : Ev s { s with heap := s.heap.push { cls := .type "tuple", dict := none, data := .seq [Value.ref (L + 2)].toArray } } := ⟨.push _ _, rfl, .refl _⟩
  refine wpAny_bind (f_code (c := 208) (P := 206) rfl (T.kp k1.kp) (by decide) rfl fun code s₂ ev2 hz2 hg2 cr => ?_)
  have X2 := (X.mono k1.kp).mono ev2.kp
  refine wpAny_bind ((bi_of X2).here ?_)
  refine wpAny_bind ((looks_nsIn X2 (g_name w)).here ?_)
  refine wpAny_bind (wpAny_pure (a := Value.none) ?_)
  refine wpAny_newObj_type ?_ (by size_fits)
  have k3 : Ev s₂ { s₂ with heap := s₂.heap.push (fnObj (fdAO (L + 2) (.ref s.heap.objs.size) code (.str "law_bj5025_01" 489))) } := ⟨.push _ _, rfl, .refl _⟩
  refine h _ s₂.heap.objs.size (.ref s.heap.objs.size) code (.str "law_bj5025_01" 489) (k1.trans (ev2.trans k3)) ?_ (Heap.get?_push_size _ rfl) (cr.k fun b o q c => k3.ka.k _ _ q (code_tab c)) hg2
  have : s.heap.objs.size + 1 ≤ s₂.heap.objs.size := by rw [← Heap.size_push (h := s.heap)]; exact hz2
  omega
/-- a lambda's body is walked -/
theorem b_enterE {n : Nat} {Q : Value → Shared → Prop} {a : Addr} {o : Obj} {fd : FuncData} {args : Args} {binds : List (Str × Value)} {body : Expr} (X : Wd w s.heap) (hn : 333 ≤ n) (hns : n ≤ s.heap.objs.size)
    (hroom : A.depth < recursionLimit) (ho : s.heap.get? a = some o) (hdata : o.data = .func fd) (hcd : s.heap.CodeRec fd.code fd.qualname)
    (hbody : fd.body = .expr body) (hbind : BindsNew s fd args binds)
    (hcell : ∀ x ∈ fd.scope.names, x.2 ≠ .cell) (hloc : ∀ x ∈ binds, fd.scope.names.lookup x.1 = some .local)
    (h : ∀ L s₁, Bd w n s L (fun x => binds.reverse.lookup x) s₁ → s.heap.objs.size ≤ L → Ev s s₁ →
      wpAny (model prog w) (A.deeper (callEnv fd L a)) (eval body (callEnv fd L a)) Q (fun _ _ => False) s₁)
    (hco : fd.scope.isCoroutine = false := by rfl) (hgen : fd.scope.isGenerator = false := by rfl) (hk : fd.scope.kind = .function := by rfl) : Ret prog w A (.ref a) args s Q := by
  refine kla_callFunE hroom ho hdata hco hgen hbody hcd (hbind _ _ _ _ fun h' t k hz => ?_)
  refine v_newEnv hcell hloc (fun h₀ F hk₀ => ⟨(nolimit X).keeps fun b o e => hk₀ b o (k b o e), kla_codeExpr ?_⟩) hk
  have keep : ∀ b o, s.heap.get? b = some o → h₀.get? b = some o := fun b o e => hk₀ b o (k b o e)
  exact wpAny_mono (h _ _ ⟨⟨.of keep, rfl, .refl _⟩, F, Nat.le_trans hns hz, hn, X⟩ hz ⟨.of keep, rfl, .refl _⟩) (fun f s' z => z) fun _ _ z => z.elim
theorem ao_nocell : ∀ x ∈ (laScope aoLam).names, x.2 ≠ .cell := by decide
/-- addoffset(j) -/
theorem c_ao {n : Nat} {c f : Addr} {z j : Int} {t : Tok} (R : Rm (n + 1) A) (X : Wd w s.heap) (F : AOat s.heap c f z) :
    Ret prog w A (.ref f) ⟨[.int j t], []⟩ s (fun r s' => (∃ i t', r = .int i t') ∧ Ev s s' ∧ s.heap.objs.size ≤ s'.heap.objs.size) := by
  obtain ⟨ct, code, pm, t0, hf, cr, hc⟩ := F
  refine b_enterE X X.big (Nat.le_refl _) (binds := [("a", .int j t)]) (body := laBody aoLam) R.room hf rfl cr.rec rfl (.of_eq rfl) ao_nocell (locs rfl) fun L s₁ B hL ev => ?_
  refine wpAny_IfExp (wpAny_isTrue_Compare1 (r_local B.fm rfl (wpAny_Constant_int (PyProof.Rows.lt_int (wpAny_truthy_bool ?_)))))
  have hc1 := hc.ka ev.ka
  split
  · exact r_free (c := c) rfl hc1 ⟨⟨_, _, rfl⟩, (B.tok (s₁.toks + 1)).out.ev (Nat.le_refl _), Nat.le_of_lt B.lt⟩
  · exact wpAny_BinOp (r_local (B.tok (s₁.toks + 1)).fm rfl (r_free (c := c) rfl hc1 (PyProof.Rows.add_int ⟨⟨_, _, rfl⟩, (B.tok (s₁.toks + 1 + 1)).out.ev (Nat.le_refl _), Nat.le_of_lt B.lt⟩)))
end
end Mine
end

-- XF
section
open PySem PySem.W PySem.Calls PyProof.Rows
set_option maxHeartbeats 4000000
namespace Mine
/-- plain objects are kept, up to the parent of a ParseResults -/
def Kr (h h' : Heap) : Prop := ∀ b o, h.get? b = some o → pl o = true → (h'.get? b = some o ∨ ∃ dx s0 s1 s2 s3 s4 s5 p, o = pcls dx #[s0, s1, s2, s3, s4, s5] ∧ h'.get? b = some (pcls dx #[s0, s1, s2, some (.ref p), s4, s5]))
theorem Kr.of {h h' : Heap} (k : Kp h h') : Kr h h' := fun b o e p => .inl (k.k b o e p)
theorem Kr.refl (h : Heap) : Kr h h := .of (.refl h)
theorem Kr.trans {a b c : Heap} (x : Kr a b) (y : Kr b c) : Kr a c := fun z o e p => by
  rcases x z o e p with q | ⟨dx, s0, s1, s2, s3, s4, s5, q, rfl, g⟩
  · exact y z o q p
  · rcases y z _ g rfl with q' | ⟨dx', t0, t1, t2, t3, t4, t5, q', e', g'⟩
    · exact .inr ⟨dx, s0, s1, s2, s3, s4, s5, q, rfl, q'⟩
    · cases e'
      exact .inr ⟨dx, s0, s1, s2, s3, s4, s5, q', rfl, g'⟩
theorem Kr.k {h h' : Heap} (x : Kr h h') {b : Addr} {o : Obj} (e : h.get? b = some o) (p : pl o = true) (c : o.cls ≠ .ref 240) : h'.get? b = some o := by
  rcases x b o e p with q | ⟨dx, s0, s1, s2, s3, s4, s5, q, rfl, g⟩
  · exact q
  · exact absurd rfl c
theorem Kr.inst {h h' : Heap} (x : Kr h h') {b dx : Addr} {s0 s1 s2 s3 s4 s5 : Option Value} (e : h.get? b = some (pcls dx #[s0, s1, s2, s3, s4, s5])) : ∃ p, h'.get? b = some (pcls dx #[s0, s1, s2, p, s4, s5]) ∧ (p = s3 ∨ ∃ q, p = some (.ref q)) := by
  rcases x b _ e rfl with q | ⟨dx', t0, t1, t2, t3, t4, t5, q, e', g⟩
  · exact ⟨_, q, .inl rfl⟩
  · cases e'; exact ⟨_, g, .inr ⟨q, rfl⟩⟩
theorem Kr.at_ {e h h' : Heap} {a : Addr} (x : Kr e h) (S : Heap.SameBut a h h') (ha : e.objs.size ≤ a) : Kr e h' := fun b o q p => by
  have ne := Nat.ne_of_lt (Nat.lt_of_lt_of_le (Heap.lt_size q) ha)
  rcases x b o q p with g | ⟨dx, s0, s1, s2, s3, s4, s5, p', e', g⟩
  · exact .inl ((S.2 b ne).trans g)
  · exact .inr ⟨dx, s0, s1, s2, s3, s4, s5, p', e', (S.2 b ne).trans g⟩
/-- what a call leaves, that may change new objects, and the parent of sub -/
theorem Kr.call {e h h' : Heap} {D D' : List Addr} (x : Kr e h) (k : Kx D' h h') (hD : ∀ z ∈ D', z ∈ D ∨ e.objs.size ≤ z)
    (hs : ∀ b ∈ D, ∃ dx s0 s1 s2 s3 s4 s5 p, h.get? b = some (pcls dx #[s0, s1, s2, s3, s4, s5]) ∧ h'.get? b = some (pcls dx #[s0, s1, s2, some (.ref p), s4, s5])) : Kr e h' := fun b o q p => by
  have step : ∀ o', h.get? b = some o' → pl o' = true → (h'.get? b = some o' ∨ ∃ dx s0 s1 s2 s3 s4 s5 p, o' = pcls dx #[s0, s1, s2, s3, s4, s5] ∧ h'.get? b = some (pcls dx #[s0, s1, s2, some (.ref p), s4, s5])) := fun o' q' p' => by
    by_cases m : b ∈ D'
    · rcases hD b m with m | m
      · obtain ⟨dx, s0, s1, s2, s3, s4, s5, p, g, g'⟩ := hs b m
        rw [q'] at g; cases g
        exact .inr ⟨dx, s0, s1, s2, s3, s4, s5, p, rfl, g'⟩
      · exact absurd (Heap.lt_size q) (Nat.not_lt_of_le m)
    · exact .inl (k b o' m q' (pl_tab p'))
  rcases x b o q p with g | ⟨dx, s0, s1, s2, s3, s4, s5, p', rfl, g⟩
  · exact step o g p
  · rcases step _ g rfl with g' | ⟨dx', t0, t1, t2, t3, t4, t5, q', e', g'⟩
    · exact .inr ⟨dx, s0, s1, s2, s3, s4, s5, p', rfl, g'⟩
    · cases e'
      exact .inr ⟨dx, s0, s1, s2, s3, s4, s5, q', rfl, g'⟩
theorem isList_kr {h h' : Heap} {a : Addr} {its : Array Value} (x : h.IsList a its) (k : Kr h h') : h'.IsList a its :=
  let ⟨o, ho, hc, r⟩ := x; ⟨o, k.k ho (pl_of hc (by decide)) (by rw [hc]; nofun), hc, r⟩
theorem isTup_kr {h h' : Heap} {a : Addr} {its : Array Value} (x : IsTup h a its) (k : Kr h h') : IsTup h' a its :=
  let ⟨o, ho, hc, r⟩ := x; ⟨o, k.k ho (pl_of hc (by decide)) (by rw [hc]; nofun), hc, r⟩
section
variable {prog : Program} {w : World} {K : Type} [DecidableEq K] {knd : KeyKind prog w K}
theorem dictOf_kr {h h' : Heap} {a : Addr} {kvs : List (K × Value)} (x : h.DictOf knd a kvs) (k : Kr h h') : h'.DictOf knd a kvs :=
  let ⟨o, es, ep, ho, he, r⟩ := x; ⟨o, es, ep, k.k ho (pl_of he.1 (by decide)) (by rw [he.1]; nofun), he, r⟩
theorem setOf_kr {h h' : Heap} {a : Addr} {S : K → Bool} {n : Nat} (x : h.SetOf knd a S n) (k : Kr h h') : h'.SetOf knd a S n :=
  let ⟨o, es, ep, t, ho, he, r⟩ := x; ⟨o, es, ep, t, k.k ho (pl_of he.1 (by decide)) (by rw [he.1]; nofun), he, r⟩
end
mutual
theorem reads_kr {h h' : Heap} (k : Kr h h') : ∀ {v : Value} {d : PyData} {as : List Addr}, Reads h v d as → Reads h' v d as
  | _, _, _, .none => .none
  | _, _, _, .bool b => .bool b
  | _, _, _, .int i t => .int i t
  | _, _, _, .str x t => .str x t
  | _, _, _, .list a b c d => .list (k.k a (pl_of b (by decide)) (by rw [b]; nofun)) b c (readsAll_kr k d)
  | _, _, _, .tuple a b c d => .tuple (k.k a (pl_of b (by decide)) (by rw [b]; nofun)) b c (readsAll_kr k d)
  | _, _, _, .dict a b c d e => .dict (k.k a (pl_of b (by decide)) (by rw [b]; nofun)) b c (readsAll_kr k d) (readsAll_kr k e)
theorem readsAll_kr {h h' : Heap} (k : Kr h h') : ∀ {v : List Value} {d : List PyData} {as : List Addr}, ReadsAll h v d as → ReadsAll h' v d as
  | _, _, _, .nil => .nil
  | _, _, _, .cons a b => .cons (reads_kr k a) (readsAll_kr k b)
end
theorem Rd.kr {h h' : Heap} {v : Value} {d : PyData} (x : Rd h v d) (k : Kr h h') : Rd h' v d := let ⟨as, r⟩ := x; ⟨as, reads_kr k r⟩
section
variable {prog : Program} {w : World}
theorem PRx.kr {h h' : Heap} {a : Addr} {vs : List Value} {kvs : List (Str × Value)} {S : Str → Bool} (x : PRx prog w h a vs kvs S) (k : Kr h h') : PRx prog w h' a vs kvs S := by
  obtain ⟨dx, tl, td, an, par, nm, md, n, a1, a0, a2, a3, a4, a5, a6⟩ := x
  obtain ⟨p, g, e⟩ := k.inst a1
  rcases e with rfl | ⟨q, rfl⟩
  · exact ⟨dx, tl, td, an, par, nm, md, n, g, k.k a0 rfl nofun, isList_kr a2 k, dictOf_kr a3 k, a4, setOf_kr a5 k, a6⟩
  · exact ⟨dx, tl, td, an, .ref q, nm, md, n, g, k.k a0 rfl nofun, isList_kr a2 k, dictOf_kr a3 k, a4, setOf_kr a5 k, a6⟩
theorem LsD.kr {h h' : Heap} {td : Addr} (x : LsD prog w h td) (k : Kr h h') : LsD prog w h' td := by
  obtain ⟨kvs, d, f⟩ := x
  refine ⟨kvs, dictOf_kr d k, fun kv m => ?_⟩
  obtain ⟨l, xs, c, e, q⟩ := f kv m
  exact ⟨l, xs, c, e, k.k q rfl nofun⟩
theorem SmP.kr {h h' : Heap} {a : Addr} (x : SmP prog w h a) (k : Kr h h') : SmP prog w h' a := by
  obtain ⟨dx, tl, td, an, par, nm, md, S, n, q, ⟨o, es, ep, t, qs, he, r⟩, r1, r2, ⟨xs, c, r3⟩, r4⟩ := x
  obtain ⟨p, g, e⟩ := k.inst q
  have s' : SetS prog w h' an S n := ⟨o, es, ep, t, k.k qs (pl_of he.1 (by decide)) (by rw [he.1]; nofun), he, r⟩
  rcases e with rfl | ⟨q, rfl⟩
  · exact ⟨dx, tl, td, an, par, nm, md, S, n, g, s', r1, r2, ⟨xs, c, k.k r3 rfl nofun⟩, r4.kr k⟩
  · exact ⟨dx, tl, td, an, .ref q, nm, md, S, n, g, s', r1, rfl, ⟨xs, c, k.k r3 rfl nofun⟩, r4.kr k⟩
theorem ItA.kr {N : Nat} {h h' : Heap} {v : Value} {I : Itm} (x : ItA prog w N h v I) (k : Kr h h') : ItA prog w N h' v I := by
  cases I with
  | s x => exact x
  | sub xs => obtain ⟨a, vs, S, r, l, p, q⟩ := x; exact ⟨a, vs, S, r, l, p.kr k, q⟩
theorem POx.kr {h h' : Heap} {o v : Value} (x : POx w h o v) (k : Kr h h') : POx w h' o v := by
  obtain ⟨a, d, t, i, tk, n, e, p1, p2, p3⟩ := x
  exact ⟨a, d, t, i, tk, n, e, k.k p1 rfl (by simp), k.k p2 rfl nofun, isTup_kr p3 k⟩
theorem UnA.kr {N : Nat} {h h' : Heap} {v : Value} {Is : List Itm} (x : UnA prog w N h v Is) (k : Kr h h') : UnA prog w N h' v Is := by
  obtain ⟨l, os, e, a, z, b⟩ := x
  exact ⟨l, os, e, isList_kr a k, z, b.mono fun o I ⟨x, p, q⟩ => ⟨x, p.kr k, q.kr k⟩⟩
theorem DiA.kr {N : Nat} {h h' : Heap} {kvs : List (Str × Value)} {D : List (Str × List Itm)} (x : DiA prog w N h kvs D) (k : Kr h h') : DiA prog w N h' kvs D :=
  All2.mono (fun _ _ ⟨e, n, u⟩ => ⟨e, n, u.kr k⟩) x
theorem PRt.kr {N : Nat} {h h' : Heap} {a : Addr} {Is : List Itm} {D : List (Str × List Itm)} {S : Str → Bool} (x : PRt prog w N h a Is D S) (k : Kr h h') : PRt prog w N h' a Is D S := by
  obtain ⟨vs, kvs, p, q, r⟩ := x
  exact ⟨vs, kvs, p.kr k, q.mono fun _ _ z => z.kr k, r.kr k⟩
variable {A : Around} {E : Value → Shared → Prop} {s : Shared} {env : Env}
theorem c_po_getitem1 {n : Nat} {o v : Value} {t : Tok} (R : Rm (n + 1) A) (X : Wd w s.heap) (P : POx w s.heap o v) :
    Ret prog w A (.ref 43) ⟨[o, .int 1 t], []⟩ s (fun r s' => (∃ j tj, r = .int j tj) ∧ Ev s s') := by
  obtain ⟨a, d, tp, i, tk, k, rfl, ha, hd, ht⟩ := P
  refine v_enter (binds := [("self", .ref a), ("i", .int 1 t)]) (body := bodyOf fd_po_getitem) R.room (fo_po_getitem X) rfl (nolimit X) (code_of X (by kernel_rfl)) rfl (.of_eq rfl) (by decide) (locs rfl) fun h₀ F k => ?_
  have X' := X.mono (.of k)
  have I : InstAt h₀ a ⟨.ref 46, some d, .plain, #[]⟩ 46 (some (poDict w.params tk (.ref tp) _)) := ⟨k _ _ ha, rfl, rfl, k _ _ hd⟩
  refine wpAny_execs_cons (wpAny_Return_some (Subscript_ (Attribute_Name_ (r_local F rfl (get_value X' I (d_ga w) (d_tup w _ _ _) rfl (r_local F rfl ?_))))))
  exact item_tupleT (l := [v, .int i.1 i.2]) (isTup_kp ht (.of k)) (by decide) (by decide) (j := 1) rfl rfl ⟨⟨_, _, rfl⟩, .of (.of k)⟩
/-- o[1] of a value with its place -/
theorem po_item1 {n : Nat} {o v : Value} {t : Tok} {value slice : Expr} {Q : Value → Shared → Prop} (R : Rm (n + 2) A) (X : Wd w s.heap) (P : POx w s.heap o v) (h : ∀ s' j tj, Ev s s' → Q (.int j tj) s')
    (hsl : ∀ x, subscripted slice true (.ref x) (.int 1 t) = runValue (.builtin "lifetime.subscript" ⟨[.ref x, .int 1 t], []⟩) := by intro _; with_unfolding_all rfl) :
    wpAny (model prog w) A (subscriptTail value slice o (.int 1 t)) Q E s := by
  have C := c_po_getitem1 (prog := prog) (t := t) (A := A.in1) R.in1 X P
  obtain ⟨a, d, tp, i, tk, k, rfl, ha, hd, ht⟩ := P
  refine own_item X (show InstAt s.heap a ⟨.ref 46, some d, .plain, #[]⟩ 46 (some (poDict w.params tk (.ref tp) k)) from ⟨ha, rfl, rfl, hd⟩) (d_gi w) (fo_po_getitem X) (beq_iff_eq.mp (g_43 w)) (C.call fun v' s' z => ?_) (hsl a)
  obtain ⟨⟨j, tj, rfl⟩, ev⟩ := z
  exact h s' j tj ev
/-- an iterator that a for loop walks -/
structure Iter (prog : Program) (w : World) (A : Around) (it : Addr) (deps : List Addr) (N : Nat) (It : Nat → Heap → Prop) (P : Nat → Value → Prop) : Prop where
  nxt : ∀ j (s : Shared) Q E, It j s.heap → j < N → (∀ v h' t, P j v → It (j + 1) h' → Heap.SameBut it s.heap h' → Q (some v) { s with heap := h', toks := t }) → wpAny (model prog w) A (pyNext (.ref it)) Q E s
  fin : ∀ (s : Shared) Q E, It N s.heap → (∀ h', Heap.ExtBut it s.heap h' → Q none { s with heap := h' }) → wpAny (model prog w) A (pyNext (.ref it)) Q E s
  keep : ∀ j (h h' : Heap), It j h → (∀ b ∈ deps, ∀ o, h.get? b = some o → h'.get? b = some o) → It j h'
theorem iter_list {it l : Addr} {its : List Value} (hh : A.handled = none) (hne : l ≠ it) : Iter prog w A it [it, l] its.length (fun j h => h.IsListIter it l j ∧ h.IsList l its.toArray) (fun j v => its[j]? = some v) where
  nxt := fun j s Q E ⟨a, b⟩ hj h => by
    obtain ⟨v, hv⟩ : ∃ v, its[j]? = some v := ⟨_, List.getElem?_eq_getElem hj⟩
    refine wpAny_pyNext_list_item a b (by simpa using hv) fun h₁ hit hs => h v h₁ s.toks hv ⟨hit, ?_⟩ hs
    obtain ⟨o, q, r⟩ := b
    exact ⟨o, (hs.2 l hne).trans q, r⟩
  fin := fun s Q E ⟨a, b⟩ h => wpAny_pyNext_list_end hh a b (by simp) fun h₁ he => h h₁ he
  keep := fun j h h' ⟨a, b⟩ k => by
    obtain ⟨o, q, r⟩ := a
    obtain ⟨o', q', r'⟩ := b
    exact ⟨⟨o, k it (by simp) o q, r⟩, ⟨o', k l (by simp) o' q', r'⟩⟩
theorem iter_range {it : Addr} {n : Nat} (hh : A.handled = none) : Iter prog w A it [it] n (fun j h => IsRangeIter h it j ((n : Int) - (j : Nat)) 1) (fun j v => ∃ t, v = .int (j : Nat) t) where
  nxt := fun j s Q E a hj h => by
    refine wpAny_pyNext_range_item a (by omega) fun h₁ hit hs => h _ h₁ _ ⟨_, rfl⟩ ?_ hs
    have e1 : ((j + 1 : Nat) : Int) = (j : Int) + 1 := by omega
    have e2 : (n : Int) - ((j + 1 : Nat) : Int) = (n : Int) - (j : Nat) - 1 := by omega
    rw [e1, show (n : Int) - ((j : Int) + 1) = (n : Int) - (j : Nat) - 1 by omega]
    exact hit
  fin := fun s Q E a h => wpAny_pyNext_range_end hh a (by omega) fun h₁ he => h h₁ he
  keep := fun j h h' a k => k it (by simp) _ a
theorem v_For {target iter : Expr} {body : List Stmt} {pos : Pos} {Q : Flow → Shared → Prop}
    (h : wpAny (model prog w) A (eval iter env) (fun xv s₁ => wpAny (model prog w) A (pyIter xv) (fun itv s₂ => ∃ (it : Addr) (deps : List Addr) (N : Nat) (It : Nat → Heap → Prop) (P : Nat → Value → Prop) (J : Nat → Shared → Prop), itv = .ref it ∧ Iter prog w A it deps N It P ∧ It 0 s₂.heap ∧ J 0 s₂ ∧
      (∀ j v (s₀ : Shared) h' t, j < N → P j v → J j s₀ → Heap.SameBut it s₀.heap h' → It (j + 1) h' →
        wpAny (model prog w) A (letOwnedTupleGo target (.ref it) v) (fun _ s₁ => wpAny (model prog w) A (assign target env v) (fun _ s₃ => wpAny (model prog w) A (execs body env) (fun f s₄ => match f with
          | .next | .cont => J (j + 1) s₄ ∧ ∀ b ∈ deps, ∀ o, h'.get? b = some o → s₄.heap.get? b = some o
          | .brk => False
          | .ret r => Q (.ret r) s₄) (fun _ _ => False) s₃) (fun _ _ => False) s₁) (fun _ _ => False) { s₀ with heap := h', toks := t }) ∧
      (∀ (s₀ : Shared) h', J N s₀ → It N s₀.heap → Heap.ExtBut it s₀.heap h' → Q .next { s₀ with heap := h' })) E s₁) E s)
    (hs : ∀ x, foldedSetIterable iter env x = pure x := by intro _; rfl) :
    wpAny (model prog w) A (exec (.For target iter body [] pos) env) Q E s := by
  refine wpAny_For (wpAny_mono h (fun xv s₁ h₁ => wpAny_mono h₁ (fun itv s₂ h₂ => ?_) fun _ _ z => z) fun _ _ z => z) hs
  obtain ⟨it, deps, N, It, P, J, rfl, I, i0, j0, turn, fin⟩ := h₂
  refine codeAny_forLoop_any (fun n s' => ∃ j, n = N - j ∧ j ≤ N ∧ It j s'.heap ∧ J j s') ?_ N ⟨0, rfl, Nat.zero_le _, i0, j0⟩
  rintro n s' ⟨j, rfl, hj, hi, hJ⟩
  by_cases hlt : j < N
  · refine I.nxt j s' _ _ hi hlt fun v h' t hp hi' S => ?_
    refine wpAny_mono (turn j v s' h' t hlt hp hJ S hi') (fun _ s₁ z₁ => wpAny_mono z₁ (fun _ s₃ z₃ => wpAny_mono z₃ (fun f s₄ z => ?_) fun _ _ z => z.elim) fun _ _ z => z.elim) fun _ _ z => z.elim
    cases f with
    | next => exact ⟨N - (j + 1), by omega, j + 1, rfl, hlt, I.keep _ _ _ hi' z.2, z.1⟩
    | cont => exact ⟨N - (j + 1), by omega, j + 1, rfl, hlt, I.keep _ _ _ hi' z.2, z.1⟩
    | brk => exact z.elim
    | ret r => exact z
  · have : j = N := by omega
    subst this
    exact I.fin s' _ _ hi fun h' S => wpAny_execs_nil (fin s' h' hJ hi S)
/-- a step of an iterator keeps the plain objects -/
theorem kp_ext {h h' : Heap} {a : Addr} {o : Obj} {T : String} (e : h.get? a = some o) (c : o.cls = .type T) (n : turning.contains T = true) (S : Heap.ExtBut a h h') : Kp h h' := by
  have ne : ∀ b o', h.get? b = some o' → (pl o' = true ∨ tabO o' = true) → b ≠ a := fun b o' eb p q => by
    subst q
    rw [e] at eb; cases eb
    rcases p with p | p
    · unfold pl at p; rw [c] at p
      have p' : (!turning.contains T) = true := p
      rw [n] at p'; cases p'
    · rw [tab_cls p] at c; cases c
  exact ⟨fun b o' eb p => S b o' (ne b o' eb (.inl p)) eb, fun b o' eb p => .inl (S b o' (ne b o' eb (.inr p)) eb)⟩
theorem Bd.ext {n : Nat} {e : Shared} {L : Addr} {m : Str → Option Value} {a : Addr} {h' : Heap} {t : Nat} {o : Obj} (B : Bd w n e L m s) (S : Heap.ExtBut a s.heap h') (ha : n ≤ a) (q : s.heap.get? a = some o) (hf : o.cls ≠ .type "frame") (hc : ¬ codeO o) : Bd w n e L m { s with heap := h', toks := t } := by
  obtain ⟨oL, qL, cL⟩ := B.fm.cls
  have hL : L ≠ a := B.ne q hf
  refine ⟨⟨B.ef.kf.trans ⟨fun b o l q _ => S b o (Nat.ne_of_lt (Nat.lt_of_lt_of_le l ha)) q, fun b o' q' c => S b o' (fun y => ?_) q', fun b o l q _ => .inl (S b o (Nat.ne_of_lt (Nat.lt_of_lt_of_le l ha)) q)⟩, B.ef.os, B.ef.gens⟩, B.fm.keeps ((S _ _ hL qL).trans qL.symm), B.lo, B.big, B.wd0⟩
  subst y; rw [q'] at q; cases q; exact hc c
/-- x, y = t, for two local names -/
theorem b_pair {n : Nat} {e : Shared} {x y : Str} {px py : Pos} {kk : Nat} {tp : Pos} {t : Nat} {a b : Value} {m : Str → Option Value} {Q : Unit → Shared → Prop} (hh : A.handled = none) (B : Bd w n e env.locals m s) (ht : s.heap.IsTuple t #[a, b])
    (hx : env.kindOf x = some .local) (hy : env.kindOf y = some .local) (hp : (env.scope.kind == .class || (env.scope.kind == .module && env.locals != env.globals)) = false)
    (h : ∀ h', Bd w n e env.locals (fun z => if z = y then some b else if z = x then some a else m z) { s with heap := h', toks := s.toks + 1 + 1 } → Kp s.heap h' → (∀ c o, c ≠ env.locals → s.heap.get? c = some o → h'.get? c = some o) → Q () { s with heap := h', toks := s.toks + 1 + 1 }) :
    wpAny (model prog w) A (assign (.Tuple [.Name x px, .Name y py] kk tp) env (.ref t)) Q E s := by
  refine wpAny_assign_Tuple hh ht rfl rfl fun h₁ he₁ => ?_
  have up₁ : ∀ c o, s.heap.get? c = some o → h₁.get? c = some o := fun c o e => he₁ c o (Nat.ne_of_lt (Heap.lt_size e)) e
  have B₁ := B.keep (t := s.toks) up₁
  show wpAny _ _ (assignInOrder [assign (.Name x px) env, assign (.Name y py) env] [a, b]) _ _ _
  refine assignInOrder_cons ?_
  refine wpAny_assign_Name (b_store B₁ (fun h₂ B₂ K₂ S₂ => ?_) hx hp)
  refine assignInOrder_cons ?_
  refine wpAny_assign_Name (b_store B₂ (fun h₃ B₃ K₃ S₃ => ?_) hy hp)
  exact assignInOrder_nil (h h₃ B₃ (((Kp.of up₁).trans K₂).trans K₃) fun c o hc e => (S₃.2 c hc).trans ((S₂.2 c hc).trans (up₁ c o e)))
end
end Mine
end

-- XG
section
open PySem PySem.W PySem.Calls PyProof.Rows
set_option maxHeartbeats 4000000
namespace Mine
section
variable {prog : Program} {w : World} {A : Around} {E : Value → Shared → Prop} {s : Shared} {env : Env}
theorem SetS.kr {h h' : Heap} {a : Addr} {S : Str → Bool} {n : Nat} (x : SetS prog w h a S n) (k : Kr h h') : SetS prog w h' a S n := by
  obtain ⟨o, es, ep, t, q, he, r⟩ := x
  exact ⟨o, es, ep, t, k.k q (pl_of he.1 (by decide)) (by rw [he.1]; nofun), he, r⟩
/-- the last statements of __iadd__ -/
theorem iadd_tail {N0 : Nat} {e : Shared} {L : Addr} {m : Str → Option Value} {a dx tl td an b : Addr} {md nm par : Value} {vs vs2 : List Value} {kvs kvs2 : List (Str × Value)} {S S2 : Str → Bool} {e0 : Heap} {Q : Flow → Shared → Prop}
    (B : Bd w N0 e L m s) (h1 : m "self" = some (.ref a)) (h2 : m "other" = some (.ref b)) (P : PRr prog w e0.objs.size s.heap a dx tl td an (some md) (some nm) (some par) vs kvs S) (hN0 : N0 ≤ e0.objs.size)
    (K0 : Kr e0 s.heap) (P2 : PRx prog w e0 b vs2 kvs2 S2) (M2 : SmP prog w e0 b) (hz : vs.length + vs2.length ≤ 64) (hkz : kvs.length ≤ 64)
    (h : ∀ s', Bd w N0 e L m s' → Kr e0 s'.heap → Kx [a, tl, an] s.heap s'.heap → PRx prog w s'.heap a (vs ++ vs2) kvs (fun k => S k || S2 k) → Q (.ret (.ref a)) s') :
    wpAny (model prog w) A (execs ((bodyOf fd_iadd).drop 2) (callEnvC fd_iadd L 209)) Q E s := by
  obtain ⟨dx0, tl0, td0, an0, par0, nm0, md0, n0, c0, qa, qx, ql, qd, hs, qs, hnm, hpar, hz', hz''⟩ := M2.open P2
  obtain ⟨p1, p2, p3, p4, p5, p6⟩ := P.ap
  obtain ⟨ha, hx, ⟨c, htl⟩, ⟨otd, estd, eptd, qtd, hed, rd⟩, ⟨n1, oan, esan, epan, tan, qan, hes, ran⟩, pna, pnx, pnl, pnd, pns, pne⟩ := P
  have hna : N0 ≤ a := Nat.le_trans hN0 pna
  obtain ⟨hh, gg, dd, t0, oo⟩ := s
  have kx : Kx [a, tl, an] hh hh := Kx.refl _ _
  obtain ⟨p0, qa1, _⟩ := K0.inst qa
  refine wpAny_execs_cons (wpAny_AugAssign_AttributeAny (r_local B.fm h1 (pr_get B.wd ha hx (c_tl w) (s_tl w) rfl rfl (Attribute_Name_ (r_local (B.tok (t0 + 1)).fm h2 ?_)))))
  replace B := B.tok (t0 + 1)
  refine pr_get B.wd qa1 (K0.k qx rfl nofun) (c_tl w) (s_tl w) rfl rfl ?_
  replace B := B.tok (t0 + 1 + 1)
  refine v_iaddL htl (K0.k ql rfl nofun) (by omega) fun h₁ k1 hl S1 => ?_
  replace B := B.at_ (t := t0 + 1 + 1) S1 (Nat.le_trans hN0 pnl) (B.ne htl (by simp)) ⟨_, htl, nc_cls (by simp)⟩
  replace K0 := K0.at_ S1 pnl
  replace kx := kx.trans (Kx.at_ S1 (by simp))
  replace ha := stays S1 htl ha nofun
  replace hx := stays S1 htl hx (by simp)
  replace qtd := stays S1 htl qtd (by rw [hed.1]; simp)
  replace qan := stays S1 htl qan (by rw [hes.1]; simp)
  clear S1 htl qa1
  refine b_set B hna ha hx (u_tl w) (y_tl w) (s_tl w) (by decide) (sl' := #[some (.ref an), some md, some nm, some par, some (.ref td), some (.ref tl)]) rfl fun h₂ B' ha' hx' S2' => ?_
  replace K0 := K0.at_ S2' pna
  replace kx := kx.trans (Kx.at_ S2' (by simp))
  replace hl := stays S2' ha hl nofun
  replace qtd := stays S2' ha qtd (by rw [hed.1]; nofun)
  replace qan := stays S2' ha qan (by rw [hes.1]; nofun)
  replace B := B'
  replace ha := ha'
  replace hx := hx'
  clear B' ha' hx' S2'
  obtain ⟨p0', qa1, _⟩ := K0.inst qa
  refine wpAny_execs_cons (wpAny_AugAssign_AttributeAny (r_local B.fm h1 (pr_get B.wd ha hx (c_an w) (s_an w) rfl rfl (Attribute_Name_ (r_local (B.tok (t0 + 1 + 1 + 1 + 1)).fm h2 ?_)))))
  replace B := B.tok (t0 + 1 + 1 + 1 + 1)
  refine pr_get B.wd qa1 (K0.k qx rfl nofun) (c_an w) (s_an w) rfl rfl ?_
  replace B := B.tok (t0 + 1 + 1 + 1 + 1 + 1)
  have hne : an ≠ an0 := by
    obtain ⟨o, es, ep, t, q, _⟩ := qs
    exact Nat.ne_of_gt (Nat.lt_of_lt_of_le (Heap.lt_size q) pns)
  refine v_ior (show SetS prog w h₂ an S n1 from ⟨_, _, _, _, qan, hes, ran⟩) (qs.kr K0) hne fun h₃ m3 S3 hS3 _ => ?_
  replace B := B.at_ (t := t0 + 1 + 1 + 1 + 1 + 1) S3 (Nat.le_trans hN0 pns) (B.ne qan (by rw [hes.1]; simp)) ⟨_, qan, nc_cls (by rw [hes.1]; simp)⟩
  replace K0 := K0.at_ S3 pns
  replace kx := kx.trans (Kx.at_ S3 (by simp))
  replace ha := stays S3 qan ha (by rw [hes.1]; nofun)
  replace hx := stays S3 qan hx (by rw [hes.1]; simp)
  replace hl := stays S3 qan hl (by rw [hes.1]; simp)
  replace qtd := stays S3 qan qtd (by rw [hes.1, hed.1]; simp)
  clear qan hes ran S3 qa1
  obtain ⟨o₃, es₃, ep₃, t₃, qan, hes, ran⟩ := hS3
  refine b_set B hna ha hx (u_an w) (y_an w) (s_an w) (by decide) (sl' := #[some (.ref an), some md, some nm, some par, some (.ref td), some (.ref tl)]) rfl fun h₄ B' ha' hx' S4 => ?_
  replace K0 := K0.at_ S4 pna
  replace kx := kx.trans (Kx.at_ S4 (by simp))
  replace hl := stays S4 ha hl nofun
  replace qtd := stays S4 ha qtd (by rw [hed.1]; nofun)
  replace qan := stays S4 ha qan (by rw [hes.1]; nofun)
  have fd : h₄.DictOf (PySem.strKind prog w) td kvs := ⟨_, _, _, qtd, hed, rd⟩
  have fs : h₄.SetOf (PySem.strKind prog w) an (fun k => S k || S2 k) m3 := ⟨_, _, _, _, qan, hes, ran⟩
  refine wpAny_execs_cons (wpAny_Return_some (r_local B'.fm h1 ?_))
  exact h _ B' K0 kx ⟨dx, tl, td, an, par, nm, md, m3, ha', hx', IsL.isList hl, fd, sys_ne (Nat.le_trans B.big hN0) pnd, fs, by rw [List.length_append]; exact hz, hkz⟩
end
end Mine
end

-- XH
section
open PySem PySem.W PySem.Calls PyProof.Rows
set_option maxHeartbeats 4000000
namespace Mine
theorem Ef.st {n : Nat} {e s : Shared} {z : Nat} {h' : Heap} {t : Nat} (x : Ef n e s) (S : Heap.SameBut z s.heap h') (hz : n ≤ z) (hc : ∃ o, s.heap.get? z = some o ∧ ¬ codeO o) : Ef n e { s with heap := h', toks := t } := ⟨x.kf.trans (.same S hz hc), x.os, x.gens⟩
theorem Ef.kp {n : Nat} {e s : Shared} {h' : Heap} {t : Nat} (x : Ef n e s) (k : ∀ b o, s.heap.get? b = some o → h'.get? b = some o) : Ef n e { s with heap := h', toks := t } := ⟨x.kf.trans (.of k), x.os, x.gens⟩
theorem Ef.ext {n : Nat} {e s : Shared} {z : Nat} {h' : Heap} {t : Nat} (x : Ef n e s) (S : Heap.ExtBut z s.heap h') (hz : n ≤ z) (hc : ∃ o, s.heap.get? z = some o ∧ ¬ codeO o) : Ef n e { s with heap := h', toks := t } := by
  obtain ⟨oz, ez, cz⟩ := hc
  refine ⟨x.kf.trans ⟨fun b o l q _ => S b o (Nat.ne_of_lt (Nat.lt_of_lt_of_le l hz)) q, fun b o q c => S b o (fun y => ?_) q, fun b o l q _ => .inl (S b o (Nat.ne_of_lt (Nat.lt_of_lt_of_le l hz)) q)⟩, x.os, x.gens⟩
  subst y; rw [q] at ez; cases ez; exact cz c
theorem Ef.ka {e s : Shared} (x : Ef e.heap.objs.size e s) : Ka e.heap s.heap := x.kf.ka (Nat.le_refl _)
theorem Kx.ext {D : List Addr} {a : Addr} {h h' : Heap} (S : Heap.ExtBut a h h') (m : a ∈ D) : Kx D h h' := fun b o d e _ => S b o (fun q => d (q ▸ m)) e
section
variable {prog : Program} {w : World} {A : Around} {E : Value → Shared → Prop} {s : Shared} {env : Env}
theorem iter_items {it d : Addr} {i n ep : Nat} {ok ov : Value} {Q : Value → Shared → Prop} (hit : IsItemIter s.heap it d i n ep ok ov) (h : Q (.ref it) s) : wpAny (model prog w) A (pyIter (.ref it)) Q E s := by
  have hT : s.TypeIs (.ref it) "dict_itemiterator" := ⟨_, hit, rfl⟩
  refine wpAny_pyIter_slot hT F.slot_dict_itemiterator_iter (wpAny_call_entry F.slot_dict_itemiterator_iter hT kcp_entry ?_ (F.args_dict_itemiterator_iter_1 _))
  show wpAny _ _ (ret (.ref it)) _ _ s
  exact wpAny_pure ⟨_, rfl, "dict_itemiterator", _, hT, F.slot_dict_itemiterator_next.lookup, h⟩
theorem callWith_fn {A : Around} {M : Model} {pos : Pos} {f : Addr} {o : Obj} {fd : FuncData} {first : List Value} {e : Expr} {rest : List Expr} {Q : Value → Shared → Prop} (hdat : o.data = .func fd)
    (h : wpAny M A (spliced (backTo pos (starEach (e :: rest) env))) (fun vs s₁ => s₁.heap.get? f = some o ∧ wpAny M A (call (.ref f) (first ++ vs)) Q E s₁) E s)
    (he : starEach (e :: rest) env = (false, eval e env) :: starEach rest env := by rfl) :
    wpAny M A (callWith pos (.ref f) first (backTo pos (starEach (e :: rest) env)) []) Q E s := by
  rw [he] at h ⊢
  exact Calls.callWith_function (o := o) (fd := fd) (Calls.evalArgs_plain (wpAny_mono h (fun vs s₁ h₁ => ⟨⟨h₁.1, hdat⟩, h₁.2⟩) fun _ _ x => x))
abbrev iaComp : Expr := asVal iaB 3
abbrev iaAsg : Stmt := defOf iaB 3
theorem iadd_comp {n N0 : Nat} {e : Shared} {L : Nat} {m : Str → Option Value} {iv td2 l f : Nat} {k : Str} {o v : Value} {z : Int} {Q : Flow → Shared → Prop} (R : Rm (n + 3) A) (B : Bd w N0 e L m s) (hNs : N0 ≤ s.heap.objs.size) (h1 : m "otheritems" = some (.ref iv))
    (hv : s.heap.IsItemsView iv td2) (hd : s.heap.DictOf (PySem.strKind prog w) td2 [(k, .ref l)]) (hl : s.heap.IsList l [o].toArray) (hp : POx w s.heap o v) (ha : AOat s.heap (L + 2) f z) (hc : CellAt s.heap (L + 1) (some (.ref f)))
    (h : ∀ s' D tp tk o' c, Bd w N0 e L (fun x => if x = "otherdictitems" then some (.ref D) else m x) s' → Kx [L] s.heap s'.heap → s.heap.objs.size ≤ D → IsL s'.heap D #[.ref tp] c → s.heap.objs.size ≤ tp → s'.heap.get? tp = some { cls := .type "tuple", data := .seq #[.str k tk, o'] } → POf s.heap.objs.size w s'.heap o' v → Q .next s') :
    wpAny (model prog w) A (exec iaAsg (callEnvC fd_iadd L 209)) Q E s := by
  have X := B.wd
  have F := B.fm
  have hLs : L < s.heap.objs.size := by obtain ⟨o', q, _⟩ := F.cls; exact Heap.lt_size q
  show wpAny (model prog w) A (exec (.Assign [.Name "otherdictitems" _] iaComp _) (callEnvC fd_iadd L 209)) Q E s
  rw [exec_Assign_Name_used _ _ _ _ (by rfl)]
  refine wpAny_bind (wpAny_standAt (wpAny_bind ?_))
  show wpAny _ A (do let _ ← comprehension iaComp _ (callEnvC fd_iadd L 209) _ (newList []) false _ (some (assign (.Name "otherdictitems" _) (callEnvC fd_iadd L 209)))) _ _ s
  refine wpAny_bind ?_
  obtain ⟨od, esd, epd, hod, rd⟩ := hd
  have hda : s.heap.DictAt (PySem.strKind prog w) td2 [(k, .ref l)] epd := ⟨od, esd, hod, rd⟩
  refine v_comp2 (cl := [("addoffset", L + 1)]) rfl rfl (by decide) (by decide) ?_
  refine r_local F h1 ?_
  refine wpAny_pyIter_items hv hda ?_
  obtain ⟨h0, g0, d0, t0, os0⟩ := s
  intro H₄ keep hD hC hz
  dsimp only at *
  have kin : ∀ b o, h0.get? b = some o → H₄.get? b = some o := fun b o e => keep _ _ (Heap.get?_push_of_some _ e)
  have hit : IsItemIter H₄ h0.objs.size td2 0 1 epd .none .none := keep _ _ (Heap.get?_push_size _ rfl)
  rw [Heap.size_push] at hD hC hz ⊢
  obtain ⟨it, hite⟩ : ∃ it : Nat, it = h0.objs.size := ⟨_, rfl⟩
  rw [← hite] at hit hD hC hz ⊢
  have ef4 : Ef h0.objs.size ⟨h0, g0, d0, t0, os0⟩ ⟨H₄, g0, d0, t0, os0⟩ := (Ef.refl _ _).kp kin
  refine ⟨fun E' Q' q => iter_items hit q, ?_⟩
  refine c2_turn0 (by intro _; rfl) ?_
  have nca : ∀ {h : Heap} {a : Nat} {i : Nat} {ok ov : Value} {xa : Value}, h.get? it = some { cls := .type "dict_itemiterator", dict := none, data := .fields #[xa, .bool false, .ref a, .int i 0, .int (1 : Nat) 0, .int epd 0, ok, ov], slots := #[] } → ∃ o, h.get? it = some o ∧ ¬ codeO o := fun q => ⟨_, q, nc_cls (by simp)⟩
  have hda4 : H₄.DictAt (PySem.strKind prog w) td2 [(k, .ref l)] epd := ⟨od, esd, kin _ _ hod, rd⟩
  refine wpAny_pyNext_items_item (s := ⟨H₄, g0, d0, t0, os0⟩) (kvs := [(k, .ref l)]) (i := 0) hit hda4 rfl fun key h₅ hkey hout htup hsz5 up5 => ?_
  obtain ⟨tk, rfl⟩ := str_is hkey
  dsimp only at hout htup hsz5 up5 ⊢
  have ef5 : Ef h0.objs.size ⟨h0, g0, d0, t0, os0⟩ ⟨h₅, g0, d0, t0, os0⟩ := ef4.ext (t := t0) (z := it) (fun b o hb e => up5 b o hb e) (by rw [hite]; exact Nat.le_refl _) ⟨_, hit, nc_cls (by simp)⟩
  have hD5 : IsL h₅ (it + 1) #[] 0 := up5 _ _ (show @Ne Nat _ _ by omega) hD
  have hC5 : h₅.Ns (it + 1 + 1) (fun _ => none) := ns_at hC fun o e => up5 _ _ (show @Ne Nat _ _ by omega) e
  refine wpAny_letOwnedTupleGo_items hout fun h₆ hit6 S6 => ?_
  have ef6 := ef5.st (t := t0) S6 (by rw [hite]; exact Nat.le_refl _) ⟨_, hout, nc_cls (by simp)⟩
  have hD6 : IsL h₆ (it + 1) #[] 0 := (S6.2 _ (by show @Ne Nat _ _; omega)).trans hD5
  have hC6 : h₆.Ns (it + 1 + 1) (fun _ => none) := ns_at hC5 fun o e => (S6.2 _ (by show @Ne Nat _ _; omega)).trans e
  have htp : H₄.objs.size ≠ it := by omega
  have tup6 : h₆.IsTuple H₄.objs.size #[.str k tk, .ref l] := ⟨_, (S6.2 _ htp).trans htup, rfl, 0, rfl⟩
  clear hout S6 htup up5 hD5 hC5 ef5 hD hC
  refine v_pair (e := ⟨h0, g0, d0, t0, os0⟩) (e₁ := ⟨h0, g0, d0, t0, os0⟩) (lo₁ := 0) (lo := 0) (gl := 0) R.h tup6 rfl rfl rfl hC6 fun h₇ h₈ h₉ up7 hn7 S8 hn8 S9 hn9 => ?_
  have S8 : Heap.SameBut (it + 1 + 1) h₇ h₈ := S8
  have S9 : Heap.SameBut (it + 1 + 1) h₈ h₉ := S9
  have hn9 : h₉.Ns (it + 1 + 1) _ := hn9
  have hl2 : h0.objs.size ≤ it + 1 + 1 := by omega
  have ef9 := (((ef6.kp (t := t0) up7).st (t := t0 + 1) S8 hl2 (nc_ns hn7)).st (t := t0 + 1 + 1) S9 hl2 (nc_ns hn8))
  have far9 : ∀ (b : Nat) o, b ≠ it + 1 + 1 → h₆.get? b = some o → h₉.get? b = some o := fun b o hb e => (S9.2 b hb).trans ((S8.2 b hb).trans (up7 b o e))
  have hD9 := far9 _ _ (by omega) hD6
  have hit9 := far9 _ _ (by omega) hit6
  clear S8 S9 up7 hn7 hn8 far9 hD6 hC6 hit6 ef6 tup6
  have hb0 : 333 ≤ h0.objs.size := X.big
  have kaf : ∀ {s' : Shared}, Ef h0.objs.size ⟨h0, g0, d0, t0, os0⟩ s' → Ka h0 s'.heap := fun x => x.kf.ka (Nat.le_refl h0.objs.size)
  have hl9 := isList_kp hl (kaf ef9).kp
  refine r_localN hn9 rfl (wpAny_pyIter_list hl9 ?_)
  have hlt9 : it + 1 + 1 < h₉.objs.size := hn9.lt
  have k10 : ∀ b o, h₉.get? b = some o → (h₉.push { cls := .type "list_iterator", data := .fields #[.ref l, .int 0 0] }).get? b = some o := fun b o e => Heap.get?_push_of_some _ e
  have hli : (h₉.push { cls := .type "list_iterator", data := .fields #[.ref l, .int 0 0] }).IsListIter h₉.objs.size l 0 := ⟨_, Heap.get?_push_size _ rfl, rfl, rfl⟩
  have ef10 := ef9.kp (t := t0 + 1 + 1) k10
  have hD10 := k10 _ _ hD9
  have hit10 := k10 _ _ hit9
  have hn10 := ns_at hn9 fun o e => k10 _ o e
  have hl10 := isList_kp hl9 (.of k10)
  obtain ⟨it2, hi2⟩ : ∃ it2 : Nat, it2 = h₉.objs.size := ⟨_, rfl⟩
  rw [← hi2] at hli hlt9 ⊢
  dsimp only
  generalize h₉.push { cls := .type "list_iterator", data := .fields #[.ref l, .int 0 0] } = h₁₀ at *
  clear k10 hn9 hD9 hit9 hl9 hi2
  refine (fun loop1 => c2_start1 loop1 (wpAny_pyIter_listiter hli loop1)) ?_
  refine c2_turn1 ?_
  refine wpAny_pyNext_list_item hli hl10 (x := o) rfl fun h₁₁ hli11 S11 => ?_
  have ef11 := ef10.st (t := t0 + 1 + 1) S11 (by show h0.objs.size ≤ it2; omega) (by obtain ⟨o', q, r⟩ := hli; exact ⟨o', q, nc_cls (by rw [r.1]; simp)⟩)
  have hD11 := (S11.2 _ (show @Ne Nat (it + 1) it2 by omega)).trans hD10
  have hit11 := (S11.2 _ (show @Ne Nat it it2 by omega)).trans hit10
  have hn11 := ns_at hn10 fun o e => (S11.2 _ (show @Ne Nat (it + 1 + 1) it2 by omega)).trans e
  clear hD10 hit10 hn10 S11 hli
  dsimp only
  refine wpAny_assign_Name (wpAny_storeName_local rfl hn11 (fun h₁₂ hn12 S12 => ?_) rfl)
  have S12 : Heap.SameBut (it + 1 + 1) h₁₁ h₁₂ := S12
  have hn12 : h₁₂.Ns (it + 1 + 1) _ := hn12
  have ef12 := ef11.st (t := t0 + 1 + 1 + 1) S12 hl2 (nc_ns hn11)
  have hD12 := (S12.2 _ (show @Ne Nat (it + 1) (it + 1 + 1) by omega)).trans hD11
  have hit12 := (S12.2 _ (show @Ne Nat it (it + 1 + 1) by omega)).trans hit11
  have hli12 : h₁₂.IsListIter it2 l 1 := by obtain ⟨o', q, r⟩ := hli11; exact ⟨o', (S12.2 _ (show @Ne Nat it2 (it + 1 + 1) by omega)).trans q, r⟩
  clear hD11 hit11 hn11 S12 hli11 ef11 ef10 ef9
  have X12 : Wd w h₁₂ := X.mono (kaf ef12).kp
  have hp12 := hp.kp (kaf ef12).kp
  refine wpAny_Tuple (wpAny_items_cons (r_localN hn12 rfl (wpAny_items_cons (Call_ (r_global X12 (n_PO w) (callWith_K (h₀ := h₁₂) X12 (k_PO w) (wpAny_items_cons (Subscript_ (r_localN hn12 rfl (wpAny_Constant_int (po_item (n := n) (R.less (by omega)) X12 hp12 fun s₁₃ ev13 => ?_)))))))))))
  have ef13 : Ef h0.objs.size ⟨h0, g0, d0, t0, os0⟩ s₁₃ := ⟨ef12.kf.trans ev13.ka.kf, ev13.os.trans ef12.os, ef12.gens.trans ev13.gens⟩
  have up13 : ∀ (b : Nat) o, h0.objs.size ≤ b → h₁₂.get? b = some o → s₁₃.heap.get? b = some o := fun b o l q => ev13.ka.hi (Nat.le_trans hb0 l) q
  have hn13 := ns_at hn12 fun o q => up13 _ o hl2 q
  have X13 : Wd w s₁₃.heap := X.mono (kaf ef13).kp
  obtain ⟨ct, code, pm, tz, hf, cr, hcz⟩ := id (ha.ka (kaf ef13))
  refine wpAny_items_cons (Call_ (r_cell (c := L + 1) rfl (hc.ka (kaf ef13)) (callWith_fn (o := fnObj (fdAO (L + 2) ct code pm)) (fd := fdAO (L + 2) ct code pm) rfl (wpAny_items_cons (Subscript_ (r_localN hn13 rfl (wpAny_Constant_int (po_item1 (n := n) (R.less (by omega)) X13 (hp.kp (kaf ef13).kp) fun s₁₄ j tj ev14 => ?_))))))))
  have ef14 : Ef h0.objs.size ⟨h0, g0, d0, t0, os0⟩ s₁₄ := ⟨ef13.kf.trans ev14.ka.kf, ev14.os.trans ef13.os, ef13.gens.trans ev14.gens⟩
  have X14 : Wd w s₁₄.heap := X.mono (kaf ef14).kp
  have ha14 := ha.ka (kaf ef14)
  refine wpAny_items_nil ⟨ev14.ka.k _ _ hf rfl, ?_⟩
  refine (c_ao (n := n) (R.less (by omega)) X14 ha14).call fun r s₁₅ z => ?_
  obtain ⟨⟨i, ti, rfl⟩, ev15, hz15⟩ := z
  have ef15 := ef14.trans ev15.ef
  have X15 : Wd w s₁₅.heap := X.mono (kaf ef15).kp
  refine wpAny_items_nil ⟨X15, ?_⟩
  refine (c_po_make (n := n) (R.less (by omega)) X15).call fun o' s₁₆ z => ?_
  obtain ⟨ev16, po⟩ := z
  have ef16 := ef15.trans ev16.ef
  have up16 : ∀ (b : Nat) o, h0.objs.size ≤ b → h₁₂.get? b = some o → s₁₆.heap.get? b = some o := fun b o l q =>
    ev16.ka.hi (Nat.le_trans hb0 l) (ev15.ka.hi (Nat.le_trans hb0 l) (ev14.ka.hi (Nat.le_trans hb0 l) (up13 b o l q)))
  have hD16 := up16 _ _ (by omega) hD12
  have hit16 := up16 _ _ (by omega) hit12
  have hn16 := ns_at hn12 fun o q => up16 _ o hl2 q
  have hli16 : s₁₆.heap.IsListIter it2 l 1 := by obtain ⟨o', q, r⟩ := hli12; exact ⟨o', up16 _ _ (by omega) q, r⟩
  have lt15 : it2 < s₁₅.heap.objs.size := by
    obtain ⟨o', q, r⟩ := hli12
    exact Heap.lt_size (ev15.ka.hi (show 333 ≤ it2 by omega) (ev14.ka.hi (show 333 ≤ it2 by omega) (up13 _ _ (by omega) q)))
  have lt16 : it2 < s₁₆.heap.objs.size := by obtain ⟨o', q, r⟩ := hli16; exact Heap.lt_size q
  clear ef15 ef14 ef13 ef12 up13 up16 hD12 hit12 hn12 hn13 hli12 X15 X14 X13 X12 ha14 hf cr hcz ev13 ev14 ev15 ev16 hp12
  obtain ⟨h₁₆, g₁₆, d₁₆, t₁₆, os₁₆⟩ := s₁₆
  refine wpAny_items_nil ⟨show 2 ≤ sizeLine by decide, ?_⟩
  have k17 : ∀ b o₁, h₁₆.get? b = some o₁ → (h₁₆.push { cls := .type "tuple", data := .seq [Value.str k tk, o'].toArray }).get? b = some o₁ := fun b o₁ e => Heap.get?_push_of_some _ e
  have htp := Heap.get?_push_size h₁₆ (show ({ cls := .type "tuple", data := .seq [Value.str k tk, o'].toArray } : Obj).isFreed = false from rfl)
  have kx : Kx [it, it + 1, it + 1 + 1, it2] h₁₆ (h₁₆.push { cls := .type "tuple", data := .seq [Value.str k tk, o'].toArray }) := Kx.keep k17
  have ef17 := ef16.kp (t := t₁₆) k17
  have hD17 := k17 _ _ hD16
  have hit17 := k17 _ _ hit16
  have hn17 := ns_at hn16 fun o₁ e => k17 _ o₁ e
  have hli17 : (h₁₆.push { cls := .type "tuple", data := .seq [Value.str k tk, o'].toArray }).IsListIter it2 l 1 := by obtain ⟨o', q, r⟩ := hli16; exact ⟨o', k17 _ _ q, r⟩
  obtain ⟨tp, htpe⟩ : ∃ tp : Nat, tp = h₁₆.objs.size := ⟨_, rfl⟩
  rw [← htpe] at htp
  dsimp only at lt16 lt15 ⊢
  rw [← htpe] at lt16 ⊢
  generalize h₁₆.push { cls := .type "tuple", data := .seq [Value.str k tk, o'].toArray } = h₁₇ at *
  clear hD16 hit16 hn16 hli16 k17 ef16
  refine wpAny_list_append_plain (l := it + 1) (items := #[]) ⟨0, hD17⟩ (fun h₁₈ hl18 S18 => ?_) (by decide)
  obtain ⟨c18, hl18⟩ := hl18
  have kx18 : Kx [it, it + 1, it + 1 + 1, it2] h₁₇ h₁₈ := Kx.at_ S18 (by simp)
  replace kx := kx.trans kx18
  have ef18 := ef17.st (t := t₁₆) S18 (by show h0.objs.size ≤ it + 1; omega) ⟨_, hD17, nc_cls (by simp)⟩
  have htp18 := (S18.2 _ (show @Ne Nat tp (it + 1) by omega)).trans htp
  have hit18 := (S18.2 _ (show @Ne Nat it (it + 1) by omega)).trans hit17
  have hn18 := ns_at hn17 fun o₁ e => (S18.2 _ (show @Ne Nat (it + 1 + 1) (it + 1) by omega)).trans e
  have hli18 : h₁₈.IsListIter it2 l 1 := by obtain ⟨o', q, r⟩ := hli17; exact ⟨o', (S18.2 _ (show @Ne Nat it2 (it + 1) by omega)).trans q, r⟩
  clear S18 hD17 hit17 hn17 hli17 htp ef17
  refine c2_turn1 ?_
  refine wpAny_pyNext_list_end R.h hli18 (isList_kp hl (kaf ef18).kp) (by simp) fun h₁₉ S19 => ?_
  dsimp only
  replace kx := kx.trans (Kx.ext (D := [it, it + 1, it + 1 + 1, it2]) S19 (by simp))
  have ef19 := ef18.ext (t := t₁₆) S19 (by show h0.objs.size ≤ it2; omega) (by obtain ⟨o', q, r⟩ := hli18; exact ⟨o', q, nc_cls (by rw [r.1]; simp)⟩)
  have hl19 := S19 _ _ (show @Ne Nat (it + 1) it2 by omega) hl18
  have htp19 := S19 _ _ (show @Ne Nat tp it2 by omega) htp18
  have hit19 := S19 _ _ (show @Ne Nat it it2 by omega) hit18
  have hn19 := ns_at hn18 fun o₁ e => S19 _ o₁ (show @Ne Nat (it + 1 + 1) it2 by omega) e
  clear S19 hl18 htp18 hit18 hn18 hli18 ef18
  refine c2_turn0 (by intro _; rfl) ?_
  refine wpAny_pyNext_items_end R.h hit19 (show h₁₉.DictAt (PySem.strKind prog w) td2 [(k, .ref l)] epd from ⟨od, esd, (kaf ef19).k _ _ hod (pl_tab (pl_of rd.1.1 (by decide))), rd⟩) rfl fun h₂₀ S20 => ?_
  dsimp only
  replace kx := kx.trans (Kx.ext (D := [it, it + 1, it + 1 + 1, it2]) S20 (by simp))
  have ef20 := ef19.ext (t := t₁₆) S20 (by show h0.objs.size ≤ it; omega) ⟨_, hit19, nc_cls (by simp)⟩
  have hn20 := ns_at hn19 fun o₁ e => S20 _ o₁ (show @Ne Nat (it + 1 + 1) it by omega) e
  have hLC : @Ne Nat L (it + 1 + 1) := by have : L < h0.objs.size := hLs; omega
  have B20 := B.ev (ef20.ev (Nat.le_refl h0.objs.size))
  have n20 := ns_at hn20 fun o₁ e => e
  refine wpAny_assign_Name (b_store B20 (fun h₂₀' B21 K21 S20' => ?_))
  have S20' : Heap.SameBut L h₂₀ h₂₀' := S20'
  have kL : Kx [L] h0 h₂₀' := (Kx.of (kaf ef20)).trans (Kx.at_ S20' (by simp))
  replace kx := (kx.more (D' := [it, it + 1, it + 1 + 1, it2, L]) (by intro z m; simp only [List.mem_cons, List.not_mem_nil, or_false] at m ⊢; rcases m with q | q | q | q <;> simp [q])).trans (Kx.at_ S20' (by simp))
  have hn20' := ns_at hn20 fun o₁ e => (S20'.2 _ (Ne.symm hLC)).trans e
  refine ⟨_, hn20', fun h₂₁ S21 => ?_⟩
  have B22 := B21.at_ (t := t₁₆ + 1) S21 (Nat.le_trans hNs hl2) hLC (nc_ns hn20')
  replace kL := kL.lo S21 hl2
  replace kx := kx.trans (Kx.at_ (D := [it, it + 1, it + 1 + 1, it2, L]) S21 (by simp))
  have po' : POf h0.objs.size w h₂₁ o' v := by
    have := POf.kx po kx (fun z m => by
      simp only [List.mem_cons, List.not_mem_nil, or_false] at m
      have h15 : it2 < s₁₅.heap.objs.size := lt15
      have hL15 : L < h0.objs.size := hLs
      rcases m with e | e | e | e | e <;> (rw [e]; show @LT.lt Nat _ _ _; omega))
    obtain ⟨a', d', t', i', tk', n', e', l1, l2, l3, g⟩ := this
    have h15 : h0.objs.size ≤ s₁₅.heap.objs.size := by omega
    exact ⟨a', d', t', i', tk', n', e', Nat.le_trans h15 l1, Nat.le_trans h15 l2, Nat.le_trans h15 l3, g⟩
  have hp15 : h0.objs.size ≤ tp := by omega
  refine wpAny_pure (wpAny_pure (h _ (it + 1) tp tk o' c18 B22 kL (by show h0.objs.size ≤ it + 1; omega) ?_ hp15 ?_ po'))
  · exact (S21.2 _ (show @Ne Nat (it + 1) (it + 1 + 1) by omega)).trans ((S20'.2 _ (show @Ne Nat (it + 1) L by have : L < h0.objs.size := hLs; omega)).trans (S20 _ _ (show @Ne Nat (it + 1) it by omega) hl19))
  · exact (S21.2 _ (show @Ne Nat tp (it + 1 + 1) by omega)).trans ((S20'.2 _ (show @Ne Nat tp L by have : L < h0.objs.size := hLs; omega)).trans (S20 _ _ (show @Ne Nat tp it by omega) htp19))
end
end Mine
end

-- XI
section
open PySem PySem.W PySem.Calls PyProof.Rows
set_option maxHeartbeats 4000000
namespace Mine
def forBody (b : List Stmt) (i : Nat) : List Stmt := match b[i]? with | some (.For _ _ x _ _) => x | _ => []
section
variable {prog : Program} {w : World} {A : Around} {E : Value → Shared → Prop} {s : Shared} {env : Env}
/-- a value of a name, as what may come under a name -/
theorem ItA.subv {N : Nat} {e h : Heap} {v : Value} {I : Itm} (x : ItA prog w N e v I) (k : Kr e h) : ∃ D, SubV h N v D ∧ (∀ b ∈ D, v = .ref b ∧ b < e.objs.size ∧ N ≤ b) ∧ ∀ b dxb slb, v = .ref b → h.get? b = some (pcls dxb slb) → dxb < e.objs.size ∧ ∃ s0 s1 s2 s3 s4 s5, slb = #[s0, s1, s2, s3, s4, s5] := by
  cases I with
  | s x => obtain ⟨t, rfl⟩ := x; exact ⟨[], .str _ _, nofun, nofun⟩
  | sub xs =>
    obtain ⟨a, vs, S, rfl, l, P, q⟩ := x
    obtain ⟨dx, tl, td, an, par, nm, md, n, a1, a0, a2⟩ := P
    obtain ⟨p, g, _⟩ := k.inst a1
    refine ⟨[a], .pr a dx _ l g (k.k a0 rfl nofun), fun b m => by rw [List.mem_singleton] at m; subst m; exact ⟨rfl, Heap.lt_size a1, l⟩, fun b dxb slb e g' => ?_⟩
    cases e
    rw [g] at g'; cases g'
    exact ⟨Heap.lt_size a0, _, _, _, _, _, _, rfl⟩
theorem parSet6 (s0 s1 s2 s3 s4 s5 : Option Value) (a : Addr) : parSet #[s0, s1, s2, s3, s4, s5] a = #[s0, s1, s2, some (.ref a), s4, s5] := rfl
/-- one turn of the loop of __iadd__ -/
theorem iadd_turn {n N0 M : Nat} {e : Shared} {L : Addr} {m : Str → Option Value} {a dx tl td an : Addr} {md nm par : Value} {vs : List Value} {kvs : List (Str × Value)} {S : Str → Bool} {e0 : Heap} {k : Str} {tk : Tok} {o' v : Value} {I : Itm} {os : List Value} {Q : Flow → Shared → Prop}
    (R : Rm (n + 3) A) (B : Bd w N0 e L m s) (h1 : m "self" = some (.ref a)) (h2 : m "k" = some (.str k tk)) (h3 : m "v" = some o') (hN0 : N0 ≤ e0.objs.size) (heM : e0.objs.size ≤ M) (htM : td < M)
    (P : PRr prog w e0.objs.size s.heap a dx tl td an (some md) (some nm) (some par) vs kvs S) (K0 : Kr e0 s.heap) (hv : ItA prog w N0 e0 v I) (po : POf M w s.heap o' v) (U : Under s.heap kvs k os) (hkz : kvs.length ≤ 60)
    (h : ∀ s' nl c, Bd w N0 e L m s' → Kr e0 s'.heap → PRr prog w e0.objs.size s'.heap a dx tl td an (some md) (some nm) (some par) vs (stored kvs k (.ref nl)) S → IsL s'.heap nl (os ++ [o']).toArray c → s.heap.objs.size ≤ nl → POf M w s'.heap o' v →
      (∀ (b : Nat) o, e0.objs.size ≤ b → b ≠ td → s.heap.get? b = some o → tabO o = false → s'.heap.get? b = some o) → Q .next s') :
    wpAny (model prog w) A (execs (forBody iaB 4) (callEnvC fd_iadd L 209)) Q E s := by
  obtain ⟨D, V, hD, hsd⟩ := hv.subv K0
  obtain ⟨p1, p2, p3, p4, p5, p6⟩ := P.ap
  have P0 := P
  obtain ⟨otd, qtd, ctd⟩ := P.dict
  refine wpAny_execs_cons (wpAny_Assign_Subscript (r_local B.fm h3 (r_local B.fm h1 (r_local B.fm h2 (v_setItem B.wd P.fa P.fx ?_)))))
  refine (c_setitem_po (N := N0) (os := os) (D := D) R B.wd B.big (Nat.le_of_lt B.lt) P.fa P.fx rfl (Nat.le_trans hN0 P.nd) P.fd (sys_ne (Nat.le_trans B.big hN0) P.nd) hkz U (po.poe htM) V (fun b dxb slb e g => Nat.ne_of_lt (Nat.lt_of_lt_of_le (hsd b dxb slb e g).1 P.nd))).call fun r s₁ z => ?_
  obtain ⟨rfl, ef, kx, ⟨nl, hnl, hd', hl'⟩, hpar⟩ := z
  have nD : ∀ z : Nat, e0.objs.size ≤ z → z ∉ D := fun z l m => absurd (hD z m).2.1 (Nat.not_lt_of_le l)
  have nin : ∀ z : Nat, e0.objs.size ≤ z → z ≠ td → z ∉ td :: D := fun z l ne m => by
    rcases List.mem_cons.mp m with q | q
    · exact ne q
    · exact nD z l q
  have P1 : PRr prog w e0.objs.size s₁.heap a dx tl td an (some md) (some nm) (some par) vs (stored kvs k (.ref nl)) S := by
    obtain ⟨c, l⟩ := P.fl
    obtain ⟨n', o', es', ep', t', q', he', r'⟩ := P.fs
    exact ⟨kx _ _ (nin _ P.na (Ne.symm p3)) P.fa rfl, kx _ _ (nin _ P.nx P.ne) P.fx rfl, ⟨c, kx _ _ (nin _ P.nl p5) l rfl⟩, hd', ⟨n', o', es', ep', t', kx _ _ (nin _ P.ns p6) q' (pl_tab (pl_of he'.1 (by decide))), he', r'⟩, P.na, P.nx, P.nl, P.nd, P.ns, P.ne⟩
  have K1 : Kr e0 s₁.heap := K0.call (D := D) (D' := td :: D) kx (fun z m => by
    rcases List.mem_cons.mp m with q | q
    · exact .inr (q ▸ P.nd)
    · exact .inl q) fun b m => by
      obtain ⟨rfl, hb, hb2⟩ := hD b m
      cases V with
      | pr b' dxb slb lb hb' hdx =>
        obtain ⟨_, s0, s1, s2, s3, s4, s5, rfl⟩ := hsd _ _ _ rfl hb'
        exact ⟨dxb, s0, s1, s2, s3, s4, s5, a, hb', by have := hpar _ _ _ rfl hb'; rwa [parSet6] at this⟩
  have lM : M ≤ s.heap.objs.size := by
    obtain ⟨a', d', t', i', tk', n', e', l1, l2, l3, g1, g2, g3⟩ := po
    exact Nat.le_of_lt (Nat.lt_of_le_of_lt l1 (Heap.lt_size g1))
  have po1 : POf M w s₁.heap o' v := po.kx kx fun z m => by
    rcases List.mem_cons.mp m with q | q
    · exact q ▸ htM
    · exact Nat.lt_of_lt_of_le (hD z q).2.1 heM
  have keep1 : ∀ (b : Nat) o, e0.objs.size ≤ b → b ≠ td → s.heap.get? b = some o → tabO o = false → s₁.heap.get? b = some o := fun b o l y q p => kx b o (nin b l y) q p
  replace B := B.kx ef kx (fun m => by
    rcases List.mem_cons.mp m with q | q
    · exact B.ne qtd (by rw [ctd]; simp) q
    · obtain ⟨rfl, hb, hb2⟩ := hD _ q
      cases V with
      | pr b' dxb slb lb hb' hdx => exact B.ne hb' nofun rfl)
  obtain ⟨D', V1, hD', hsd'⟩ := hv.subv K1
  clear V hpar kx ef P0 qtd hd' hsd
  refine wpAny_execs_cons (wpAny_If (isTrue_plain (Call_ (r_builtin B.wd (n_isi3 w) (n_isi0 w) (PyProof.Rows.callWith_builtin1 (wpAny_items_cons (Subscript_ (r_local B.fm h3 (wpAny_Constant_int (po_item (n := n) (R.less (by omega)) B.wd po1.pox fun s₂ ev2 => ?_))))))))))
  replace B := (B.tok (s₁.toks + 1)).ev ev2
  refine wpAny_items_cons (r_global B.wd (n_PR w) (wpAny_items_nil ?_))
  have K2 := K1.trans (.of ev2.kp)
  have P2 := P1.ka ev2.kp
  have hl2 := ev2.kp.k _ _ hl' rfl
  have po2 := POf.kx (D := []) po1 (Kx.of ev2.ka) nofun
  have keep2 : ∀ (b : Nat) o, e0.objs.size ≤ b → b ≠ td → s.heap.get? b = some o → tabO o = false → s₂.heap.get? b = some o := fun b o l y q p => ev2.ka.k _ _ (keep1 b o l y q p) p
  cases V1 with
  | str y t =>
    refine kia_one kitx_str B.wd trivial (i_str w) nofun fun t₂ => wpAny_truthy_bool ?_
    exact wpAny_execs_nil (wpAny_execs_nil (h _ nl _ (B.tok t₂) K2 P2 hl2 hnl po2 keep2))
  | pr sub dxb slb lb hb hdx =>
    have hb2 := ev2.kp.k _ _ hb rfl
    have hdx2 := ev2.kp.k _ _ hdx rfl
    refine isi_call B.wd (pr_type hb2) (i_PR w) nofun (wpAny_truthy_bool ?_)
    refine wpAny_execs_cons (plainObj_wpAny_Assign_Attribute (r_local B.fm h1 (Subscript_ (r_local B.fm h3 (wpAny_Constant_int (po_item (n := n) (R.less (by omega)) B.wd po2.pox fun s₃ ev3 => ?_))))))
    replace B := (B.tok (s₂.toks + 1)).ev ev3
    have hb3 := ev3.kp.k _ _ hb2 rfl
    have hdx3 := ev3.kp.k _ _ hdx2 rfl
    have K3 := K2.trans (.of ev3.kp)
    have P3 := P2.ka ev3.kp
    have hl3 := ev3.kp.k _ _ hl2 rfl
    have po3 := POf.kx (D := []) po2 (Kx.of ev3.ka) nofun
    obtain ⟨_, s0, s1, s2, s3, s4, s5, rfl⟩ := hsd' _ _ _ rfl hb
    obtain ⟨hbl, hbN⟩ := (hD' sub (by simp)).2
    refine b_set B lb hb3 hdx3 (u_par w) (y_par w) (s_par w) (by decide) (sl' := #[s0, s1, s2, some (.ref a), s4, s5]) rfl fun h₄ B hb4 hx4 S4 => ?_
    have ne4 : ∀ z : Nat, e0.objs.size ≤ z → z ≠ sub := fun z l => Nat.ne_of_gt (Nat.lt_of_lt_of_le hbl l)
    have kx4 : Kx [sub] s₃.heap h₄ := Kx.at_ S4 (by simp)
    have P4 := P3.kx kx4 (nin1 (ne4 _ P3.na)) (nin1 (ne4 _ P3.nx)) (nin1 (ne4 _ P3.nl)) (nin1 (ne4 _ P3.nd)) (nin1 (ne4 _ P3.ns))
    have K4 : Kr e0 h₄ := K3.call (D := [sub]) kx4 (fun z m => .inl m) fun b m => by
      rw [List.mem_singleton] at m; subst m
      exact ⟨dxb, s0, s1, s2, s3, s4, s5, a, hb3, hb4⟩
    have po4 := po3.kx kx4 (fun z m => by rw [List.mem_singleton] at m; subst m; exact Nat.lt_of_lt_of_le hbl heM)
    refine wpAny_execs_nil (wpAny_execs_nil (h _ nl _ B K4 P4 (stays S4 hb3 hl3 nofun) hnl po4 fun b o l y q p => ?_))
    exact (S4.2 b (ne4 b l)).trans (ev3.ka.k _ _ (keep2 b o l y q p) p)
end
end Mine
end

-- XJ
section
open PySem PySem.W PySem.Calls PyProof.Rows
set_option maxHeartbeats 4000000
namespace Mine
theorem ia_stmts : bodyOf fd_iadd = (bodyOf fd_iadd).take 2 ++ (bodyOf fd_iadd).drop 2 := (List.take_append_drop 2 _).symm
section
variable {prog : Program} {w : World} {A : Around} {E : Value → Shared → Prop} {s : Shared} {env : Env}
theorem Kr.kx0 {e h h' : Heap} (x : Kr e h) (k : Kx [] h h') : Kr e h' := x.call (D := []) (D' := []) k (fun z m => nomatch m) (fun b m => nomatch m)
theorem PRr.kx0 {N : Nat} {h h' : Heap} {a dx tl td an : Addr} {md nm par : Option Value} {vs : List Value} {kvs : List (Str × Value)} {S : Str → Bool} (P : PRr prog w N h a dx tl td an md nm par vs kvs S) (k : Kx [] h h') : PRr prog w N h' a dx tl td an md nm par vs kvs S := P.kx k nofun nofun nofun nofun nofun
theorem Under.kx0 {h h' : Heap} {kvs : List (Str × Value)} {k : Str} {os : List Value} (x : Under h kvs k os) (kx : Kx [] h h') : Under h' kvs k os := by
  obtain ⟨z, x | ⟨l, c, e, hl⟩⟩ := x
  · exact ⟨z, .inl x⟩
  · exact ⟨z, .inr ⟨l, c, e, kx _ _ nofun hl rfl⟩⟩
theorem POf.kp {N : Nat} {h h' : Heap} {o v : Value} (x : POf N w h o v) (k : Kp h h') : POf N w h' o v := by
  obtain ⟨a, d, t, i, tk, n, e, l1, l2, l3, p1, p2, p3⟩ := x
  exact ⟨a, d, t, i, tk, n, e, l1, l2, l3, k.k _ _ p1 rfl, k.k _ _ p2 rfl, k.k _ _ p3 rfl⟩
theorem stored_len (kvs : List (Str × Value)) (k : Str) (v : Value) : (stored kvs k v).length ≤ kvs.length + 1 := by
  unfold stored
  split
  · rw [List.length_map]; omega
  · rw [List.length_append]; exact Nat.le_refl _
theorem ia_kind {a b : Value} : ∀ x ∈ [(("self" : Str), a), ("other", b)], fd_iadd.scope.names.lookup x.1 = some .local ∨ (fd_iadd.scope.names.lookup x.1 = some .cell ∧ ((cellsFrom (s.heap.objs.size + 1) fd_iadd.scope.names []).lookup x.1).isSome = true) := by
  intro x m
  rcases List.mem_cons.mp m with rfl | m
  · exact .inl rfl
  · rcases List.mem_singleton.mp m with rfl
    exact .inl rfl
/-- self += other, where other has nothing -/
theorem c_iadd_none {n : Nat} {a b : Addr} {S2 : Str → Bool} (R : Rm (n + 2) A) (X : Wd w s.heap) (P2 : PRx prog w s.heap b [] [] S2) :
    Ret prog w A (.ref 209) ⟨[.ref a, .ref b], []⟩ s (fun r s' => r = .ref a ∧ Ev s s') := by
  refine b_enterC X X.big (Nat.le_refl _) (binds := [("self", .ref a), ("other", .ref b)]) (body := bodyOf fd_iadd) R.room (fo_iadd X) rfl (code_of X (by kernel_rfl)) rfl (.of_eq rfl) rfl ia_kind fun L s₁ hLs B ev hg cells => ?_
  refine wpAny_execs_cons (wpAny_If (isTrue_not (isTrue_plain (r_local B.fm rfl (v_truthy (n := n) (R.deep _) B.wd B.fm.ns (by rw [hLs]; exact X.big) (P2.kp ev.kp) fun s₂ ev2 => ?_)))))
  replace B := B.ev ev2
  exact wpAny_execs_cons (wpAny_Return_some (r_local B.fm rfl ⟨rfl, B.out.ev (Nat.le_refl _)⟩))
/-- self += other, where other has tokens and no names -/
theorem c_iadd_plain {n N0 : Nat} {a dx tl td an b : Addr} {md nm par : Value} {vs vs2 : List Value} {kvs : List (Str × Value)} {S S2 : Str → Bool} {e0 : Heap}
    (R : Rm (n + 2) A) (X : Wd w s.heap) (hN : 333 ≤ N0) (hN0 : N0 ≤ e0.objs.size) (hes : e0.objs.size ≤ s.heap.objs.size) (P : PRr prog w e0.objs.size s.heap a dx tl td an (some md) (some nm) (some par) vs kvs S)
    (K0 : Kr e0 s.heap) (P2 : PRx prog w e0 b vs2 [] S2) (M2 : SmP prog w e0 b) (hne : vs2 ≠ []) (hz : vs.length + vs2.length ≤ 64) (hkz : kvs.length ≤ 60) :
    Ret prog w A (.ref 209) ⟨[.ref a, .ref b], []⟩ s (fun r s' => r = .ref a ∧ Ef N0 s s' ∧ Kr e0 s'.heap ∧ PRx prog w s'.heap a (vs ++ vs2) kvs (fun k => S k || S2 k) ∧ Kx [a, tl, an] s.heap s'.heap) := by
  refine b_enterC X hN (Nat.le_trans hN0 hes) (binds := [("self", .ref a), ("other", .ref b)]) (body := bodyOf fd_iadd) R.room (fo_iadd X) rfl (code_of X (by kernel_rfl)) rfl (.of_eq rfl) rfl ia_kind fun L s₁ hLs B ev hg cells => ?_
  have hL : 333 ≤ L := by rw [hLs]; exact X.big
  obtain ⟨m, hm, h1, h2⟩ : ∃ m, m = bindL (callEnvC fd_iadd L 209).kindOf [("self", .ref a), ("other", .ref b)] (fun _ => none) ∧ m "self" = some (.ref a) ∧ m "other" = some (.ref b) := ⟨_, rfl, rfl, rfl⟩
  rw [← hm] at B
  have kx : Kx [] s.heap s₁.heap := .of ev.ka
  refine wpAny_execs_cons (wpAny_If (isTrue_not (isTrue_plain (r_local B.fm h2 (v_truthy (n := n) (R.deep _) B.wd B.fm.ns hL (P2.kr (K0.kx0 kx)) fun s₂ ev2 => ?_)))))
  rw [show (!(!(vs2.isEmpty && ([] : List (Str × Value)).isEmpty))) = false from by cases vs2 with | nil => exact (hne rfl).elim | cons => rfl]
  replace B := B.ev ev2
  replace kx := kx.trans (.of ev2.ka)
  refine wpAny_execs_nil (env := callEnvC fd_iadd L 209) ?_
  obtain ⟨dx0, tl0, td0, an0, par0, nm0, md0, n0, c0, qa, qx, ql, qd, hs, qs, hnm, hpar, hz', hz''⟩ := M2.open P2
  have K1 := K0.kx0 kx
  obtain ⟨p0, qa1, _⟩ := K1.inst qa
  refine wpAny_execs_cons (wpAny_If (isTrue_plain (Attribute_Name_ (r_local B.fm h2 (pr_get B.wd qa1 (K1.k qx rfl nofun) (c_td w) (s_td w) rfl rfl ?_)))))
  refine wpAny_truthy_dict hs (dictOf_kr qd K1) (by decide) ?_
  refine wpAny_execs_nil (env := callEnvC fd_iadd L 209) ?_
  replace B := B.tok (s₂.toks + 1 + 1 + 1)
  refine iadd_tail B h1 h2 (P.kx0 kx) hN0 K1 P2 M2 hz (by omega) fun s' B' K' kx' P' => ?_
  exact ⟨rfl, B'.out, K', P', (kx.more nofun).trans kx'⟩
/-- self += other, where other has one name -/
theorem c_iadd_one {n N0 : Nat} {a dx tl td an b : Addr} {l : Nat} {md nm par : Value} {vs vs2 os : List Value} {kvs : List (Str × Value)} {S S2 : Str → Bool} {e0 : Heap} {k : Str} {o v : Value} {I : Itm}
    (R : Rm (n + 6) A) (X : Wd w s.heap) (T : Tb s.heap) (hN : 333 ≤ N0) (hN0 : N0 ≤ e0.objs.size) (hes : e0.objs.size ≤ s.heap.objs.size) (P : PRr prog w e0.objs.size s.heap a dx tl td an (some md) (some nm) (some par) vs kvs S)
    (K0 : Kr e0 s.heap) (P2 : PRx prog w e0 b vs2 [(k, .ref l)] S2) (M2 : SmP prog w e0 b) (hl : e0.IsList l [o].toArray) (hp : POx w e0 o v) (hv : ItA prog w N0 e0 v I) (U : Under s.heap kvs k os) (hz : vs.length + vs2.length ≤ 64) (hkz : kvs.length ≤ 60) :
    Ret prog w A (.ref 209) ⟨[.ref a, .ref b], []⟩ s (fun r s' => r = .ref a ∧ Ef N0 s s' ∧ Kr e0 s'.heap ∧ ∃ nl o', PRx prog w s'.heap a (vs ++ vs2) (stored kvs k (.ref nl)) (fun k => S k || S2 k) ∧ s'.heap.IsList nl (os ++ [o']).toArray ∧ POx w s'.heap o' v ∧ (∀ (z : Nat) o, e0.objs.size ≤ z → z ∉ [a, tl, an, td] → s.heap.get? z = some o → tabO o = false → s'.heap.get? z = some o)) := by
  refine b_enterC X hN (Nat.le_trans hN0 hes) (binds := [("self", .ref a), ("other", .ref b)]) (body := bodyOf fd_iadd) R.room (fo_iadd X) rfl (code_of X (by kernel_rfl)) rfl (.of_eq rfl) rfl ia_kind fun L s₁ hLs B ev hg cells => ?_
  have hL : 333 ≤ L := by rw [hLs]; exact X.big
  obtain ⟨m, hm, h1, h2⟩ : ∃ m, m = bindL (callEnvC fd_iadd L 209).kindOf [("self", .ref a), ("other", .ref b)] (fun _ => none) ∧ m "self" = some (.ref a) ∧ m "other" = some (.ref b) := ⟨_, rfl, rfl, rfl⟩
  rw [← hm] at B
  have hcA : CellAt s₁.heap (L + 1) none := cells "addoffset" (L + 1) rfl
  have hcO : CellAt s₁.heap (L + 2) none := cells "offset" (L + 2) rfl
  have kx : Kx [] s.heap s₁.heap := .of ev.ka
  refine wpAny_execs_cons (wpAny_If (isTrue_not (isTrue_plain (r_local B.fm h2 (v_truthy (n := n) ((R.deep _).less (by omega)) B.wd B.fm.ns hL (P2.kr (K0.kx0 kx)) fun s₂ ev2 => ?_)))))
  rw [show (!(!(vs2.isEmpty && ([(k, Value.ref l)] : List (Str × Value)).isEmpty))) = false from by simp]
  replace B := B.ev ev2
  replace kx := kx.trans (.of ev2.ka)
  replace hcA := hcA.ka ev2.ka
  replace hcO := hcO.ka ev2.ka
  refine wpAny_execs_nil (env := callEnvC fd_iadd L 209) ?_
  obtain ⟨dx0, tl0, td0, an0, par0, nm0, md0, n0, c0, qa, qx, ql, qd, hs, qs, hnm, hpar, hz', hz''⟩ := M2.open P2
  obtain ⟨p0, qa1, _⟩ := (K0.kx0 kx).inst qa
  refine wpAny_execs_cons (wpAny_If (isTrue_plain (Attribute_Name_ (r_local B.fm h2 (pr_get B.wd qa1 ((K0.kx0 kx).k qx rfl nofun) (c_td w) (s_td w) rfl rfl ?_)))))
  refine wpAny_truthy_dict hs (dictOf_kr qd (K0.kx0 kx)) (show ((1 : Nat) : Int) < 2 ^ 63 by decide) ?_
  obtain ⟨h₂, g₂, d₂, t₂, os₂⟩ := s₂
  replace B := B.tok (t₂ + 1 + 1 + 1)
  clear qa1
  have P1 := P.kx0 kx
  obtain ⟨c1, l1⟩ := P1.fl
  refine wpAny_execs_cons (wpAny_Assign_Name (Call_ (r_builtin B.wd (n_len3 w) (n_len0 w) (PyProof.Rows.callWith_builtin1 (wpAny_items_cons (Attribute_Name_ (r_local B.fm h1 (pr_get B.wd P1.fa P1.fx (c_tl w) (s_tl w) rfl rfl ?_))))))))
  refine wpAny_items_nil (call_len_list (IsL.isList l1) (by rw [List.size_toArray]; omega) ?_)
  replace B := B.tok (t₂ + 1 + 1 + 1 + 1 + 1 + 1)
  refine c_storeCell (c := L + 2) rfl rfl rfl hcO fun h₃ hc3 S3 => ?_
  have lsz : s.heap.objs.size ≤ L + 2 := by rw [hLs]; exact Nat.le_add_right _ 2
  have lN : N0 ≤ s.heap.objs.size := Nat.le_trans hN0 hes
  have Lne : ∀ i : Nat, 0 < i → L ≠ L + i := fun i h => Nat.ne_of_lt (Nat.lt_add_of_pos_right h)
  replace B := B.at_ (t := t₂ + 1 + 1 + 1 + 1 + 1 + 1) S3 (Nat.le_trans lN lsz) (Lne 2 (by decide)) (by obtain ⟨o', q, c, _⟩ := hcO; exact ⟨o', q, nc_cls (by rw [c]; simp)⟩)
  replace kx := kx.lo S3 lsz
  replace hcA : CellAt h₃ (L + 1) none := hcA.at_ fun o' q _ => (S3.2 _ (show @Ne Nat _ _ from Nat.ne_of_lt (Nat.lt_succ_self _))).trans q
  clear S3 hcO P1 l1 c1
  dsimp only at *
  refine wpAny_execs_cons (wpAny_Assign_Name (ao_def (L := L) B.wd (B.tb T).2.2.1 fun s₄ f ct code pm ev4 hf hff cr hg4 => ?_))
  replace B := B.ev ev4
  replace kx := kx.trans (.of ev4.ka)
  have hfL : f ≠ L + 1 := Nat.ne_of_gt (Nat.lt_of_lt_of_le (by obtain ⟨o', q, _⟩ := hcA; exact Heap.lt_size q) hf)
  replace hcA := hcA.ka ev4.ka
  replace hc3 := hc3.ka ev4.ka
  refine c_storeCell (c := L + 1) rfl rfl rfl hcA fun h₅ hc5 S5 => ?_
  obtain ⟨h₄, g₄, d₄, t₄, os₄⟩ := s₄
  dsimp only at *
  have lsz1 : s.heap.objs.size ≤ L + 1 := by rw [hLs]; exact Nat.le_add_right _ 1
  have F5 : AOat h₅ (L + 2) f vs.length := ⟨ct, code, pm, _, (S5.2 _ hfL).trans hff, by
    obtain ⟨c, o', vs', t', e', g, hcc, dd, r⟩ := cr
    exact ⟨c, o', vs', t', e', (S5.2 c (fun q => by subst q; obtain ⟨o', q', c', _⟩ := hcA; rw [g] at q'; cases q'; rw [hcc] at c'; simp at c')).trans g, hcc, dd, r⟩, hc3.at_ fun o' q _ => (S5.2 _ (show @Ne Nat _ _ from Nat.ne_of_gt (Nat.lt_succ_self _))).trans q⟩
  replace B := B.at_ (t := t₄) S5 (Nat.le_trans lN lsz1) (Lne 1 (by decide)) (by obtain ⟨o', q, c, _⟩ := hcA; exact ⟨o', q, nc_cls (by rw [c]; simp)⟩)
  replace kx := kx.lo S5 lsz1
  clear S5 hcA hc3 hff cr hfL
  obtain ⟨p5, qa5, _⟩ := (K0.kx0 kx).inst qa
  refine wpAny_execs_cons (wpAny_Assign_Name (MethodCall_ (Attribute_Name_ (r_local B.fm h2 (pr_get B.wd qa5 ((K0.kx0 kx).k qx rfl nofun) (c_td w) (s_td w) rfl rfl ?_)))))
  replace B := B.tok (t₄ + 1)
  have hd5 := dictOf_kr qd (K0.kx0 kx)
  refine getMethod_builtin hd5.typeIs F.plainAttrs_dict F.slot_dict_items F.type_dict_items hd5.mapOf.noDict ?_
  refine callWith_method0 (call_meetsIn F.slot_dict_items hd5.typeIs F.entry_dict_items (F.args_dict_items_1 _) (meets_dict_items (PySem.strKind prog w) td0 hs) ⟨⟨_, hd5⟩, ?_⟩)
  have k6 : ∀ b o₁, h₅.get? b = some o₁ → (h₅.push { cls := .type "dict_items", data := .fields #[.ref td0] }).get? b = some o₁ := fun b o₁ e => Heap.get?_push_of_some _ e
  have hv6 : (h₅.push { cls := .type "dict_items", data := .fields #[.ref td0] }).IsItemsView h₅.objs.size td0 := ⟨_, Heap.get?_push_size _ rfl, rfl, rfl⟩
  replace B := B.keep (t := t₄ + 1) k6
  replace kx := kx.trans (Kx.keep k6)
  have F6 := F5.ka (.of k6)
  have hc6 := hc5.ka (.of k6)
  dsimp only at *
  generalize h₅.push { cls := .type "dict_items", data := .fields #[.ref td0] } = h₆ at *
  generalize h₅.objs.size = iv at *
  clear k6 F5 hc5 hd5 qa5
  have lsL : s.heap.objs.size ≤ L := by rw [hLs]; exact Nat.le_refl _
  refine b_store B fun h₇ B K S7 => ?_
  replace kx := kx.lo S7 lsL
  have hv7 : h₇.IsItemsView iv td0 := by obtain ⟨o', q, c, r⟩ := hv6; exact ⟨o', K.k _ _ q (pl_of c (by decide)), c, r⟩
  have F7 : AOat h₇ (L + 2) f vs.length := by
    obtain ⟨ct, code, pm, tz, a1, a2, a3⟩ := F6
    exact ⟨ct, code, pm, tz, K.k _ _ a1 rfl, a2.k fun b o q c => K.k _ _ q (code_pl c), a3.at_ fun o' q _ => (S7.2 _ (Ne.symm (Lne 2 (by decide)))).trans q⟩
  have hc7 : CellAt h₇ (L + 1) (some (.ref f)) := hc6.at_ fun o' q _ => (S7.2 _ (Ne.symm (Lne 1 (by decide)))).trans q
  clear S7 K F6 hc6 hv6
  have K7 := K0.kx0 kx
  dsimp only at *
  have hs7 : s.heap.objs.size ≤ h₇.objs.size := by have := B.lt; exact Nat.le_of_lt (Nat.lt_of_le_of_lt lsL (by obtain ⟨o', q, _⟩ := B.fm.cls; exact Heap.lt_size q))
  refine wpAny_execs_cons (iadd_comp (n := n) ((R.deep _).less (by omega)) B (Nat.le_trans lN hs7) (if_pos rfl) hv7 (dictOf_kr qd K7) (isList_kr hl K7) (hp.kr K7) F7 hc7 fun s₈ D tp tk o' c8 B8 kx8 hD hlD htp htup po => ?_)
  have kx8 : Kx [] s.heap s₈.heap := fun b o₁ d q p => kx8 b o₁ (fun mL => by rw [List.mem_singleton] at mL; subst mL; exact absurd (Heap.lt_size q) (Nat.not_lt_of_le lsL)) (kx b o₁ d q p) p
  have hs8 : s.heap.objs.size ≤ s₈.heap.objs.size := Nat.le_trans (Nat.le_trans hs7 hD) (Nat.le_of_lt (Heap.lt_size hlD))
  clear B kx K7 F7 hc7 hv7
  have h1' : (fun x => if x = "otherdictitems" then some (Value.ref D) else if x = "otheritems" then some (Value.ref iv) else m x) "self" = some (.ref a) := (if_neg (by decide)).trans ((if_neg (by decide)).trans h1)
  have h2' : (fun x => if x = "otherdictitems" then some (Value.ref D) else if x = "otheritems" then some (Value.ref iv) else m x) "other" = some (.ref b) := (if_neg (by decide)).trans ((if_neg (by decide)).trans h2)
  have hlD' : s₈.heap.IsList D #[.ref tp] := IsL.isList hlD
  have htd : td < s.heap.objs.size := by obtain ⟨o', q, _⟩ := P.dict; exact Heap.lt_size q
  obtain ⟨h₈, g₈, d₈, t₈, os₈⟩ := s₈
  dsimp only at *
  refine wpAny_execs_cons (v_For (r_local B8.fm (if_pos rfl) (wpAny_pyIter_list hlD' ?_)))
  have k9 : ∀ b o₁, h₈.get? b = some o₁ → (h₈.push { cls := .type "list_iterator", data := .fields #[.ref D, .int 0 0] }).get? b = some o₁ := fun b o₁ e => Heap.get?_push_of_some _ e
  have hli : (h₈.push { cls := .type "list_iterator", data := .fields #[.ref D, .int 0 0] }).IsListIter h₈.objs.size D 0 := ⟨_, Heap.get?_push_size _ rfl, rfl, rfl⟩
  have hDi : D ≠ h₈.objs.size := Nat.ne_of_lt (Heap.lt_size hlD)
  have B9 := B8.keep (t := t₈) k9
  have kx9 := kx8.trans (Kx.keep (D := []) k9)
  have hl9 := hlD'.push { cls := .type "list_iterator", data := .fields #[.ref D, .int 0 0] }
  have htup9 := k9 _ _ htup
  have po9 := (po.kp (.of k9))
  dsimp only at *
  generalize h₈.push { cls := .type "list_iterator", data := .fields #[.ref D, .int 0 0] } = h₉ at *
  generalize h₈.objs.size = it at *
  have hpoL : ∀ {h : Heap}, POf h₇.objs.size w h o' v → POf s.heap.objs.size w h o' v := fun x => by
    obtain ⟨a', d', t', i', tk', n', e', l1, l2, l3, g⟩ := x
    exact ⟨a', d', t', i', tk', n', e', Nat.le_trans hs7 l1, Nat.le_trans hs7 l2, Nat.le_trans hs7 l3, g⟩
  refine ⟨it, [it, D], [Value.ref tp].length, _, _, fun j s' => match j with
    | 0 => ∃ m', m' "self" = some (.ref a) ∧ m' "other" = some (.ref b) ∧ Bd w N0 s L m' s' ∧ Kx [] s.heap s'.heap ∧ s'.heap.get? tp = some { cls := .type "tuple", data := .seq #[.str k tk, o'] } ∧ POf s.heap.objs.size w s'.heap o' v ∧ s'.heap.IsListIter it D 0
    | _ + 1 => ∃ m' nl c, m' "self" = some (.ref a) ∧ m' "other" = some (.ref b) ∧ Bd w N0 s L m' s' ∧ Kr e0 s'.heap ∧ PRr prog w e0.objs.size s'.heap a dx tl td an (some md) (some nm) (some par) vs (stored kvs k (.ref nl)) S ∧ IsL s'.heap nl (os ++ [o']).toArray c ∧ s.heap.objs.size ≤ nl ∧ POf s.heap.objs.size w s'.heap o' v ∧ (∀ (z : Nat) o, e0.objs.size ≤ z → z ≠ td → s.heap.get? z = some o → tabO o = false → s'.heap.get? z = some o),
    rfl, iter_list (l := D) (its := [.ref tp]) (show A.handled = none from R.h) hDi, ⟨hli, hl9⟩, ⟨(fun x => if x = "otherdictitems" then some (Value.ref D) else if x = "otheritems" then some (Value.ref iv) else m x), h1', h2', B9, kx9, htup9, hpoL po9, hli⟩, ?_, ?_⟩
  · intro j v0 s₀ h' t hj hpv hJ S9 hi'
    obtain rfl : j = 0 := by rw [List.length_singleton] at hj; omega
    cases hpv
    obtain ⟨m', e1, e2, B10, kx10, htup10, po10, ⟨oi, qi, ci, ri⟩⟩ := hJ
    have K10 : Kp s₀.heap h' := kp_ext qi ci (by decide) S9.extBut
    replace B10 := B10.at_ (t := t) S9 (Nat.le_trans lN hs8) (B10.ne qi (by rw [ci]; simp)) ⟨_, qi, nc_cls (by rw [ci]; simp)⟩
    replace kx10 := kx10.lo S9 hs8
    replace htup10 := K10.k _ _ htup10 rfl
    replace po10 := po10.kp K10
    refine wpAny_letOwnedTupleGo_listiter hi'.1 ?_
    refine b_pair (show A.handled = none from R.h) B10 ⟨_, htup10, rfl, 0, rfl⟩ rfl rfl rfl fun h₁₁ B11 K11 far11 => ?_
    have kx11 : Kx [] s.heap h₁₁ := fun b o₁ d q p => far11 b o₁ (Nat.ne_of_lt (Nat.lt_of_lt_of_le (Heap.lt_size q) lsL)) (kx10 b o₁ d q p)
    refine iadd_turn (n := n) (M := s.heap.objs.size) ((R.deep _).less (by omega)) B11 ((if_neg (by decide)).trans ((if_neg (by decide)).trans e1)) ((if_neg (by decide)).trans (if_pos rfl)) (if_pos rfl) hN0 hes htd (P.kx0 kx11) (K0.kx0 kx11) hv (po10.kp K11) (U.kx0 kx11) hkz fun s' nl c B' K' P' hl' hnl px keep => ⟨⟨_, nl, c, (if_neg (by decide)).trans ((if_neg (by decide)).trans e1), (if_neg (by decide)).trans ((if_neg (by decide)).trans e2), B', K', P', hl', ?_, px, fun z o₁ l y q p => keep z o₁ l y (kx11 z o₁ nofun q p) p⟩, fun z mz o₁ q => ?_⟩
    · exact Nat.le_trans (Nat.le_of_lt (Nat.lt_of_le_of_lt lsL (by obtain ⟨o', q, _⟩ := B11.fm.cls; exact Heap.lt_size q))) hnl
    · have hz3 : s.heap.objs.size ≤ z ∧ tabO o₁ = false ∧ z ≠ L := by
        rcases List.mem_cons.mp mz with rfl | mz
        · obtain ⟨o2, q2, c2, r2⟩ := hi'.1
          rw [q] at q2; cases q2
          exact ⟨hs8, by unfold tabO; rw [c2], Ne.symm (B10.ne q (by rw [c2]; simp))⟩
        · rcases List.mem_singleton.mp mz with rfl
          obtain ⟨o2, q2, c2, r2⟩ := hi'.2
          rw [q] at q2; cases q2
          exact ⟨Nat.le_trans hs7 hD, by unfold tabO; rw [c2], Ne.symm (B10.ne q (by rw [c2]; simp))⟩
      exact keep z o₁ (Nat.le_trans hes hz3.1) (fun y => by subst y; exact absurd htd (Nat.not_lt_of_le hz3.1)) (far11 z o₁ hz3.2.2 q) hz3.2.1
  · intro s₀ h' hJ hi S9
    obtain ⟨m', nl, c, e1, e2, B10, K10, P10, hl10, hnl, px, far⟩ := hJ
    obtain ⟨oi, qi, ci, ri⟩ := hi.1
    have Kp10 : Kp s₀.heap h' := kp_ext qi ci (by decide) S9
    replace B10 := B10.ext (t := s₀.toks) S9 (Nat.le_trans lN hs8) qi (by rw [ci]; simp) (nc_cls (by rw [ci]; simp))
    refine wpAny_execs_nil (env := callEnvC fd_iadd L 209) ?_
    refine iadd_tail B10 e1 e2 (P10.ka Kp10) hN0 (K10.trans (.of Kp10)) P2 M2 hz (by have := stored_len kvs k (.ref nl); omega) fun s' B' K' kx' P' => ⟨rfl, B'.out, K', nl, o', P', ?_, ?_, fun z o₁ l y q p => kx' z o₁ (fun mz => y (by simp only [List.mem_cons, List.not_mem_nil, or_false] at mz ⊢; rcases mz with r | r | r <;> simp [r])) (S9 z o₁ (Nat.ne_of_lt (Nat.lt_of_lt_of_le (Heap.lt_size q) hs8)) (far z o₁ l (fun r => y (by simp [r])) q p)) p⟩
    · have hn : ∀ z ∈ [a, tl, an], z < s.heap.objs.size := fun z mz => by
        obtain ⟨n', o2, es', ep', t', q', _⟩ := P.fs
        obtain ⟨c', l'⟩ := P.fl
        simp only [List.mem_cons, List.not_mem_nil, or_false] at mz
        rcases mz with rfl | rfl | rfl
        · exact Heap.lt_size P.fa
        · exact Heap.lt_size l'
        · exact Heap.lt_size q'
      exact IsL.isList (n := c) (kx' _ _ (fun mz => absurd (hn _ mz) (Nat.not_lt_of_le hnl)) (Kp10.k _ _ hl10 rfl) rfl)
    · refine ((px.kp Kp10).kx kx' fun z mz => ?_).pox
      obtain ⟨n', o2, es', ep', t', q', _⟩ := P.fs
      obtain ⟨c', l'⟩ := P.fl
      simp only [List.mem_cons, List.not_mem_nil, or_false] at mz
      rcases mz with rfl | rfl | rfl
      · exact Heap.lt_size P.fa
      · exact Heap.lt_size l'
      · exact Heap.lt_size q'
end
end Mine
end

-- XK
section
open PySem PySem.W PySem.Calls PyProof.Rows
set_option maxHeartbeats 4000000
namespace Mine
theorem pairs_fun {prog : Program} {w : World} : ∀ {es : List DictEntry} {kvs kvs' : List (Str × Value)}, Pairs (PySem.strKind prog w) es kvs → Pairs (PySem.strKind prog w) es kvs' → kvs = kvs'
  | _, _, _, .nil, .nil => rfl
  | _, (k, v) :: _, (k', v') :: _, .cons a b r, .cons a' b' r' => by
    have e1 : k = k' := (PySem.strKind prog w).inj _ _ _ a a'
    have e2 : v = v' := b.symm.trans b'
    rw [e1, e2, pairs_fun r r']
theorem dictOf_fun {prog : Program} {w : World} {h : Heap} {d : Addr} {kvs kvs' : List (Str × Value)} (x : h.DictOf (PySem.strKind prog w) d kvs) (y : h.DictOf (PySem.strKind prog w) d kvs') : kvs = kvs' := by
  obtain ⟨o, es, ep, q, _, hd, _, hp, _⟩ := x
  obtain ⟨o', es', ep', q', _, hd', _, hp', _⟩ := y
  rw [q] at q'; cases q'
  rw [hd] at hd'; cases hd'
  exact pairs_fun hp hp'
/-- a value is put to a name -/
def addD (D : List (Str × List Itm)) (k : Str) (I : Itm) : List (Str × List Itm) :=
  if D.any (fun d => decide (d.1 = k)) then D.map (fun d => if d.1 = k then (d.1, d.2 ++ [I]) else d) else D ++ [(k, [I])]
def joinD (D1 D2 : List (Str × List Itm)) : List (Str × List Itm) := match D2 with
  | [(k, [I])] => addD D1 k I
  | _ => D1
section
variable {prog : Program} {w : World} {A : Around} {E : Value → Shared → Prop} {s : Shared} {env : Env}
theorem All2.any {α β : Type} {R : α → β → Prop} {p : α → Bool} {q : β → Bool} (hpq : ∀ a b, R a b → p a = q b) : ∀ {as : List α} {bs : List β}, All2 R as bs → as.any p = bs.any q
  | _, _, .nil => rfl
  | _, _, .cons x y => by rw [List.any_cons, List.any_cons, hpq _ _ x, y.any hpq]
theorem All2.map2 {α β : Type} {R : α → β → Prop} {f : α → α} {g : β → β} (hfg : ∀ a b, R a b → R (f a) (g b)) : ∀ {as : List α} {bs : List β}, All2 R as bs → All2 R (as.map f) (bs.map g)
  | _, _, .nil => .nil
  | _, _, .cons x y => .cons (hfg _ _ x) (y.map2 hfg)
theorem dia_stored {N : Nat} {h : Heap} {kvs : List (Str × Value)} {D : List (Str × List Itm)} {k : Str} {nl : Addr} {os : List Value} {o' v : Value} {I : Itm} (d : DiA prog w N h kvs D) (hn : (kvs.map (·.1)).Nodup)
    (hl : h.IsList nl (os ++ [o']).toArray) (hp : POx w h o' v) (hv : ItA prog w N h v I) (hz : os.length ≤ 60) (U : (valueAt kvs k = none ∧ os = []) ∨ ∃ l, valueAt kvs k = some (.ref l) ∧ h.IsList l os.toArray) :
    DiA prog w N h (stored kvs k (.ref nl)) (addD D k I) := by
  have hany : kvs.any (fun kv => decide (kv.1 = k)) = D.any (fun d => decide (d.1 = k)) := d.any fun a b r => by rw [r.1]
  unfold stored addD
  rw [hany]
  split
  · rename_i hq
    rw [← hany] at hq
    obtain ⟨kv, hm, e⟩ := List.any_eq_true.mp hq
    have e := of_decide_eq_true e
    have hva : valueAt kvs k = some kv.2 := valueAt_nodup hn (by rw [← e]; exact hm)
    rcases U with ⟨q, _⟩ | ⟨l, q, hls⟩
    · rw [hva] at q; cases q
    · rw [hva] at q
      have key : ∀ a b, a ∈ kvs → (a.1 = b.1 ∧ b.2 ≠ [] ∧ UnA prog w N h a.2 b.2) → ((if a.1 = k then (a.1, Value.ref nl) else a).1 = (if b.1 = k then (b.1, b.2 ++ [I]) else b).1 ∧ (if b.1 = k then (b.1, b.2 ++ [I]) else b).2 ≠ [] ∧
          UnA prog w N h (if a.1 = k then (a.1, Value.ref nl) else a).2 (if b.1 = k then (b.1, b.2 ++ [I]) else b).2) := fun a b ha ⟨e1, e2, u⟩ => by
        by_cases hk : a.1 = k
        · rw [if_pos hk, if_pos (e1 ▸ hk)]
          refine ⟨e1, by simp, nl, os ++ [o'], rfl, hl, by rw [List.length_append, List.length_singleton]; omega, ?_⟩
          obtain ⟨l', os', e3, hl', hz', ha2⟩ := u
          have : valueAt kvs k = some a.2 := valueAt_nodup hn (by rw [← hk]; exact ha)
          rw [hva] at this
          have e4 : a.2 = .ref l := by rw [← Option.some.inj this]; exact Option.some.inj q
          rw [e3] at e4; cases e4
          have := isList_fun hl' hls
          subst this
          exact ha2.append (.cons ⟨v, hp, hv⟩ .nil)
        · rw [if_neg hk, if_neg (fun z => hk (e1 ▸ z))]
          exact ⟨e1, e2, u⟩
      clear hany hq hm hva q hn
      have : ∀ (as : List (Str × Value)) (bs : List (Str × List Itm)), (∀ a ∈ as, a ∈ kvs) → All2 (fun (kv : Str × Value) (d : Str × List Itm) => kv.1 = d.1 ∧ d.2 ≠ [] ∧ UnA prog w N h kv.2 d.2) as bs →
          All2 (fun (kv : Str × Value) (d : Str × List Itm) => kv.1 = d.1 ∧ d.2 ≠ [] ∧ UnA prog w N h kv.2 d.2) (as.map fun a => if a.1 = k then (a.1, Value.ref nl) else a) (bs.map fun b => if b.1 = k then (b.1, b.2 ++ [I]) else b) := by
        intro as bs hs x
        induction x with
        | nil => exact .nil
        | cons a _ ih => exact .cons (key _ _ (hs _ List.mem_cons_self) a) (ih fun z m => hs z (List.mem_cons_of_mem _ m))
      exact this _ _ (fun _ m => m) d
  · rename_i hq
    rcases U with ⟨_, rfl⟩ | ⟨l, q, hls⟩
    · exact d.append (.cons ⟨rfl, by simp, nl, [o'], rfl, hl, (show 1 ≤ 64 by decide), .cons ⟨v, hp, hv⟩ .nil⟩ .nil)
    · exfalso
      rw [← hany] at hq
      exact hq (List.any_eq_true.mpr ⟨_, valueAt_mem q, decide_eq_true rfl⟩)
end
end Mine
end

-- XL
section
open PySem PySem.W PySem.Calls PyProof.Rows
set_option maxHeartbeats 4000000
namespace Mine
theorem m_cp (w : World) : findIn (KV w) (.ref 240) "copy" = some (some (.ref 236)) := by kernel_rfl
theorem mf_cp (w : World) : typeIn (KV w) (.ref 236) = some (.type "function") := by kernel_rfl
theorem mk_cp (w : World) : keepIn (KV w) (.ref 236) = true := by kernel_rfl
theorem ad_self (w : World) : selfFirst (KV w) 240 = true := by kernel_rfl
theorem ad_iadd (w : World) : findIn (KV w) (.ref 240) (dunderI Operator.Add.info.2) = some (some (.ref 209)) := by kernel_rfl
theorem ad_add (w : World) : findIn (KV w) (.ref 240) (PySem.dunder Operator.Add.info.2) = some (some (.ref 204)) := by kernel_rfl
theorem jf_iadd (w : World) : isFn (KV w) (.ref 209) = true := by kernel_rfl
theorem jf_add (w : World) : isFn (KV w) (.ref 204) = true := by kernel_rfl
/-- the stars of a sum -/
def joinS (S1 S2 : Str → Bool) (Is2 : List Itm) (D2 : List (Str × List Itm)) : Str → Bool := if Is2.isEmpty && D2.isEmpty then S1 else fun k => S1 k || S2 k
section
variable {prog : Program} {w : World} {A : Around} {E : Value → Shared → Prop} {s : Shared} {env : Env}
theorem SmP.lists {h : Heap} {a : Addr} {vs : List Value} {kvs : List (Str × Value)} {S : Str → Bool} (M : SmP prog w h a) (P : PRx prog w h a vs kvs S) : ∀ kv ∈ kvs, ∃ l xs c, kv.2 = .ref l ∧ IsL h l xs c := by
  obtain ⟨dx, tl, td, an, par, nm, md, k, ha, hx, hl, hd, hs, hS, hz, hz'⟩ := P
  obtain ⟨dx', tl', td', an', par', nm', md', S', n', q, ss, h1, h2, _, kvs', hd', f⟩ := M
  rw [ha] at q; cases q
  rw [dictOf_fun hd hd']; exact f
theorem PRx.nodup {h : Heap} {a : Addr} {vs : List Value} {kvs : List (Str × Value)} {S : Str → Bool} (P : PRx prog w h a vs kvs S) : (kvs.map (·.1)).Nodup := by
  obtain ⟨_, _, _, _, _, _, _, _, _, _, _, hd, _⟩ := P
  obtain ⟨o, es, ep, q, he, _, _, hn⟩ := hd
  first | exact hn | exact hn.2
theorem under_of {N : Nat} {h : Heap} {a : Addr} {vs : List Value} {kvs : List (Str × Value)} {S : Str → Bool} {D : List (Str × List Itm)} (M : SmP prog w h a) (P : PRx prog w h a vs kvs S) (d : DiA prog w N h kvs D) (hz : ∀ x ∈ D, x.2.length ≤ 60) (k : Str) :
    ∃ os, Under h kvs k os ∧ os.length ≤ 60 ∧ ((valueAt kvs k = none ∧ os = []) ∨ ∃ l, valueAt kvs k = some (.ref l) ∧ h.IsList l os.toArray) := by
  cases hv : valueAt kvs k with
  | none => exact ⟨[], ⟨by decide, .inl ⟨hv, rfl⟩⟩, by decide, .inl ⟨rfl, rfl⟩⟩
  | some v =>
    have hm := valueAt_mem hv
    obtain ⟨l, xs, c, e, q⟩ := M.lists P _ hm
    obtain ⟨i, hi, e'⟩ := List.mem_iff_getElem.mp hm
    obtain ⟨b, hb, e1, e2, l', os, e3, hl, hz', ha⟩ := d.get (i := i) (a := (k, v)) (by rw [List.getElem?_eq_getElem hi, e'])
    have e : v = .ref l := e
    subst e
    cases e3
    obtain ⟨o, g, _, m, r⟩ := hl
    rw [q] at g; cases g
    have e4 := (Data.seq.inj r).1
    have hzo : os.length ≤ 60 := by rw [ha.length]; exact hz b (List.mem_of_getElem? hb)
    rw [e4] at q
    exact ⟨os, ⟨hzo, .inr ⟨l, c, hv, q⟩⟩, hzo, .inr ⟨l, rfl, IsL.isList q⟩⟩
theorem c_add {n N0 : Nat} {a b : Addr} {Is1 Is2 : List Itm} {D1 D2 : List (Str × List Itm)} {S1 S2 : Str → Bool} (R : Rm (n + 9) A) (X : Wd w s.heap) (T : Tb s.heap) (hN : 333 ≤ N0) (hNs : N0 ≤ s.heap.objs.size)
    (P1 : PRt prog w N0 s.heap a Is1 D1 S1) (M1 : SmP prog w s.heap a) (P2 : PRt prog w N0 s.heap b Is2 D2 S2) (M2 : SmP prog w s.heap b) (hz : Is1.length + Is2.length ≤ 40) (hz1 : D1.length ≤ 20) (hz2 : ∀ x ∈ D1, x.2.length ≤ 20)
    (hD : D2 = [] ∨ ∃ k I, D2 = [(k, [I])]) :
    Ret prog w A (.ref 204) ⟨[.ref a, .ref b], []⟩ s (fun r s' => Ef N0 s s' ∧ Kr s.heap s'.heap ∧ ∃ c, r = .ref c ∧ PRt prog w N0 s'.heap c (Is1 ++ Is2) (joinD D1 D2) (joinS S1 S2 Is2 D2)) := by
  obtain ⟨vs1, kvs1, Q1, I1, d1⟩ := P1
  obtain ⟨vs2, kvs2, Q2, I2, d2⟩ := P2
  have hv1 := I1.length
  have hv2 := I2.length
  have hk1 := d1.length
  refine b_enter X hN hNs (binds := [("self", .ref a), ("other", .ref b)]) (body := bodyOf fd_add) R.room (fo_add X) rfl (code_of X (by kernel_rfl)) rfl (.of_eq rfl) (by decide) (locs rfl) fun L s₁ B hL ev => ?_
  obtain ⟨dx, sl, ha, hx⟩ := (Q1.kp ev.kp).inst
  refine wpAny_execs_cons (wpAny_Assign_Name (MethodCall_ (r_local B.fm rfl (pr_meth B.wd ha hx (m_cp w) (mf_cp w) (callWith_K0 B.wd (mk_cp w) ?_)))))
  refine (c_copy ((R.deep _).less (k := n + 4) (by omega)) B.wd (Q1.kp ev.kp) (M1.kp ev.kp)).call fun v s₂ z => ?_
  obtain ⟨ev2, c, dxc, tlc, tdc, anc, nmc, parc, rfl, Pc⟩ := z
  have hs1 : s.heap.objs.size ≤ s₁.heap.objs.size := Nat.le_of_lt (Nat.lt_of_le_of_lt hL (by obtain ⟨o', q, _⟩ := B.fm.cls; exact Heap.lt_size q))
  have Pc := Pc.less hs1
  replace B := B.ev ev2
  refine b_store B fun h₃ B K _ => ?_
  have Pc := Pc.ka K
  have kp3 : Kp s.heap h₃ := (ev.kp.trans ev2.kp).trans K
  have K0 : Kr s.heap h₃ := .of kp3
  have hs3 : s.heap.objs.size ≤ h₃.objs.size := Nat.le_of_lt (Nat.lt_of_le_of_lt hL (by obtain ⟨o', q, _⟩ := B.fm.cls; exact Heap.lt_size q))
  have hL3 : 333 ≤ L := Nat.le_trans X.big hL
  have fin : ∀ (s₄ : Shared), Ef N0 { s₂ with heap := h₃, toks := s₂.toks + 1 } s₄ → (∀ o, h₃.get? L = some o → s₄.heap.get? L = some o) → Kr s.heap s₄.heap → PRt prog w N0 s₄.heap c (Is1 ++ Is2) (joinD D1 D2) (joinS S1 S2 Is2 D2) →
      wpAny (model prog w) (A.deeper (callEnv fd_add L 204)) (storeName (callEnv fd_add L 204) "ret" (.ref c)) (fun _ s₅ => wpAny (model prog w) (A.deeper (callEnv fd_add L 204)) (execs ((bodyOf fd_add).drop 2) (callEnv fd_add L 204))
        (fun f s' => Ef N0 s s' ∧ Kr s.heap s'.heap ∧ ∃ c, (match f with | .ret v => v | _ => .none) = .ref c ∧ PRt prog w N0 s'.heap c (Is1 ++ Is2) (joinD D1 D2) (joinS S1 S2 Is2 D2)) (fun _ _ => False) s₅) (fun _ _ => False) s₄ := by
    intro s₄ ef kL K4 P4
    obtain ⟨oL, qL, cL⟩ := B.fm.cls
    have B4 : Bd w N0 s L _ s₄ := ⟨B.ef.trans ef, B.fm.keeps ((kL _ qL).trans qL.symm), B.lo, B.big, B.wd0⟩
    refine b_store B4 fun h₅ B5 K5 S5 => ?_
    exact wpAny_execs_cons (wpAny_Return_some (r_local B5.fm rfl ⟨B5.out, K4.trans (.of K5), c, rfl, P4.kp K5⟩))
  refine wpAny_execs_cons (wpAny_AugAssign_Name (wpAny_loadName_local rfl rfl B.fm.ns rfl (r_local B.fm rfl ?_)))
  refine ksp_inplace (fr_of B.fm.ns hL3) (wd_cut B.wd) (show InstAt h₃ c (pcls dxc _) 240 (some noDict) from ⟨Pc.fa, rfl, rfl, Pc.fx⟩) (ad_self w) (ad_iadd w) (jf_iadd w) ?_
  have hLn : ∀ z : Nat, (∃ o, h₃.get? z = some o ∧ o.cls ≠ .type "frame") → L ≠ z := fun z ⟨o, q, c⟩ => B.ne q c
  have nL : L ∉ [c, tlc, anc, tdc] := by
    obtain ⟨c', l'⟩ := Pc.fl
    obtain ⟨od, qd, cd⟩ := Pc.dict
    obtain ⟨os', qs, cs⟩ := Pc.set
    intro m
    simp only [List.mem_cons, List.not_mem_nil, or_false] at m
    rcases m with r | r | r | r
    · exact hLn _ ⟨_, Pc.fa, nofun⟩ r
    · exact hLn _ ⟨_, l', by simp⟩ r
    · exact hLn _ ⟨_, qs, by rw [cs]; simp⟩ r
    · exact hLn _ ⟨_, qd, by rw [cd]; simp⟩ r
  have tL : ∀ o, h₃.get? L = some o → tabO o = false := fun o q => by
    obtain ⟨oL, qL, cL⟩ := B.fm.cls
    have e : o = oL := Option.some.inj (q.symm.trans qL)
    subst e
    unfold tabO; rw [cL]
  have hLs : s.heap.objs.size ≤ L := hL
  rcases hD with rfl | ⟨k, I, rfl⟩
  · cases d2
    cases vs2 with
    | nil =>
      cases I2
      refine (c_iadd_none (n := n) (s := { s₂ with heap := h₃, toks := s₂.toks + 1 }) ((R.deep _).less (by omega)) B.wd (Q2.kp kp3)).call fun r s₄ z => ?_
      obtain ⟨rfl, ev4⟩ := z
      refine fin s₄ ev4.ef (fun o q => ev4.ka.k _ _ q (tL o q)) (K0.trans (.of ev4.kp)) ?_
      rw [List.append_nil]
      exact ⟨vs1, kvs1, ((Pc.ka ev4.kp).prx X.big (by omega) (by omega)), I1.mono fun _ _ z => (z.kp kp3).kp ev4.kp, (d1.kp kp3).kp ev4.kp⟩
    | cons v0 vs2 =>
      cases I2 with
      | @cons _ i0 _ is2 i0r i2r =>
      refine (c_iadd_plain (n := n) (N0 := N0) (e0 := s.heap) (s := { s₂ with heap := h₃, toks := s₂.toks + 1 }) ((R.deep _).less (by omega)) B.wd hN hNs hs3 Pc K0 Q2 M2 (by simp) (by omega) (by omega)).call fun r s₄ z => ?_
      obtain ⟨rfl, ef4, K4, P4, kx4⟩ := z
      refine fin s₄ ef4 (fun o q => kx4 L o (fun m => nL (by simp only [List.mem_cons, List.not_mem_nil, or_false] at m ⊢; rcases m with r | r | r <;> simp [r])) q (tL o q)) K4 ?_
      exact ⟨_, kvs1, P4, (I1.mono fun _ _ z => z.kr K4).append ((All2.cons i0r i2r).mono fun _ _ z => z.kr K4), d1.kr K4⟩
  · cases d2 with
    | @cons kv _ kvs2 _ hd hr =>
    cases hr
    obtain ⟨k', v'⟩ := kv
    obtain ⟨e1, _, l, os2, e2, hl2, hz2', ha2⟩ := hd
    have e1 : k' = k := e1
    have e2 : v' = .ref l := e2
    subst e1 e2
    cases ha2 with
    | @cons o _ os3 _ ho hr2 =>
    cases hr2
    obtain ⟨v, hp, hv⟩ := ho
    obtain ⟨os1, U1, hz1', U2⟩ := under_of M1 Q1 d1 (fun x m => Nat.le_trans (hz2 x m) (by decide)) k'
    refine (c_iadd_one (n := n) (N0 := N0) (e0 := s.heap) (s := { s₂ with heap := h₃, toks := s₂.toks + 1 }) ((R.deep _).less (by omega)) B.wd (B.tb T) hN hNs hs3 Pc K0 Q2 M2 hl2 hp hv (U1.ka kp3) (by omega) (by omega)).call fun r s₄ z => ?_
    obtain ⟨rfl, ef4, K4, nl, o', P4, hl4, hp4, far4⟩ := z
    refine fin s₄ ef4 (fun o q => far4 L o hLs nL q (tL o q)) K4 ?_
    have e5 : joinS S1 S2 Is2 [(k', [I])] = fun k => S1 k || S2 k := by unfold joinS; simp
    rw [e5]
    refine ⟨_, _, P4, (I1.mono fun _ _ z => z.kr K4).append (I2.mono fun _ _ z => z.kr K4), ?_⟩
    refine dia_stored (d1.kr K4) Q1.nodup hl4 hp4 (hv.kr K4) hz1' ?_
    rcases U2 with u | ⟨l1, u1, u2⟩
    · exact .inl u
    · exact .inr ⟨l1, u1, isList_kr u2 K4⟩
end
end Mine
end

-- XM
section
open PySem PySem.W PySem.Calls PyProof.Rows
set_option maxHeartbeats 4000000
namespace Mine
/-- a text that can be laid -/
abbrev OkS (x : Str) : Prop := PyData.canLay0 (.str x) = true
theorem lay_strs : ∀ {xs : List Str}, (∀ x ∈ xs, OkS x) → PyData.canLayAll0 (xs.map .str) = true
  | [], _ => rfl
  | x :: r, h => by
    rw [List.map_cons, PyData.canLayAll0, h x List.mem_cons_self, lay_strs fun y m => h y (List.mem_cons_of_mem _ m)]; rfl
theorem dep_strs : ∀ (xs : List Str), PyData.depthAll (xs.map .str) = 0
  | [] => rfl
  | x :: r => by rw [List.map_cons, PyData.depthAll, dep_strs r]; rfl
theorem sh_strs {xs : List Str} (h : ∀ x ∈ xs, OkS x) : SeqAt.shaped (.list (xs.map .str)) = true := by
  rw [SeqAt.shaped, PyData.canLay0, lay_strs h, PyData.depth, dep_strs]; rfl
theorem sh_nil : SeqAt.shaped (.list []) = true := rfl
/-- the texts of a value -/
def Itm.texts : Itm → List Str
  | .s x => [x]
  | .sub xs => xs
theorem sh_itm {I : Itm} (h : ∀ x ∈ I.texts, OkS x) : PyData.canLay0 I.tell = true ∧ I.tell.depth ≤ 1 := by
  cases I with
  | s x => exact ⟨h x List.mem_cons_self, Nat.zero_le _⟩
  | sub xs => exact ⟨by rw [Itm.tell, PyData.canLay0]; exact lay_strs h, by rw [Itm.tell, PyData.depth, dep_strs]; exact Nat.le_refl _⟩
theorem lay_itms : ∀ {Is : List Itm}, (∀ I ∈ Is, ∀ x ∈ I.texts, OkS x) → PyData.canLayAll0 (Is.map Itm.tell) = true ∧ PyData.depthAll (Is.map Itm.tell) ≤ 1
  | [], _ => ⟨rfl, Nat.zero_le _⟩
  | I :: r, h => by
    obtain ⟨a, b⟩ := sh_itm (h I List.mem_cons_self)
    obtain ⟨c, d⟩ := lay_itms (Is := r) fun J m => h J (List.mem_cons_of_mem _ m)
    rw [List.map_cons, PyData.canLayAll0, PyData.depthAll, a, c]
    exact ⟨rfl, Nat.max_le.mpr ⟨b, d⟩⟩
theorem sh_tellD {b : Bool} {Is : List Itm} (h : ∀ I ∈ Is, ∀ x ∈ I.texts, OkS x) : SeqAt.shaped (tellD b Is) = true := by
  cases b with
  | true =>
    obtain ⟨c, d⟩ := lay_itms h
    rw [tellD, SeqAt.shaped, PyData.canLay0, c, PyData.depth]
    exact decide_eq_true (by omega)
  | false =>
    show SeqAt.shaped ((Is.getLast?.map Itm.tell).getD .none) = true
    cases q : Is.getLast? with
    | none => rfl
    | some I =>
      obtain ⟨c, d⟩ := sh_itm (h I (List.mem_of_getLast? q))
      show SeqAt.shaped I.tell = true
      rw [SeqAt.shaped, c]
      exact decide_eq_true (by omega)
theorem eqv_strs : ∀ (xs : List Str), PyData.eqvAll (xs.map .str) (xs.map .str) = true
  | [] => rfl
  | x :: r => by rw [List.map_cons, PyData.eqvAll, PyData.eqv, eqv_strs r]; simp
theorem eqv_itm (I : Itm) : PyData.eqv I.tell I.tell = true := by
  cases I with
  | s x => rw [Itm.tell, PyData.eqv]; simp
  | sub xs => rw [Itm.tell, PyData.eqv]; exact eqv_strs xs
theorem eqv_itms : ∀ (Is : List Itm), PyData.eqvAll (Is.map Itm.tell) (Is.map Itm.tell) = true
  | [] => rfl
  | x :: r => by rw [List.map_cons, PyData.eqvAll, eqv_itm, eqv_itms r]; rfl
theorem eqv_tellD (b : Bool) (Is : List Itm) : PyData.eqv (tellD b Is) (tellD b Is) = true := by
  cases b with
  | true => rw [tellD, PyData.eqv]; exact eqv_itms Is
  | false =>
    show PyData.eqv ((Is.getLast?.map Itm.tell).getD .none) ((Is.getLast?.map Itm.tell).getD .none) = true
    cases Is.getLast? with
    | none => rfl
    | some I => exact eqv_itm I
/-- an entry of a record -/
def EntV (h : Heap) (v : Value) (e : Str × Itm) : Prop := ∃ tp y t, v = .ref tp ∧ h.get? tp = some { cls := .type "tuple", data := .seq #[.str e.1 t, y] } ∧ Rd h y e.2.tell
theorem EntV.kr {h h' : Heap} {v : Value} {e : Str × Itm} (x : EntV h v e) (k : Kr h h') : EntV h' v e := by
  obtain ⟨tp, y, t, e1, q, r⟩ := x
  exact ⟨tp, y, t, e1, k.k q rfl (by simp), r.kr k⟩
/-- a record: tokens, entries, stars -/
def RecL (h : Heap) (v : Value) (toks : List Str) (Es : List (Str × Itm)) (St : List Str) : Prop :=
  ∃ l tl el sl vt ve vs c c1 c2 c3, v = .ref l ∧ IsL h l #[.ref tl, .ref el, .ref sl] c ∧ IsL h tl vt.toArray c1 ∧ All2 StrV vt toks ∧ IsL h el ve.toArray c2 ∧ All2 (EntV h) ve Es ∧ IsL h sl vs.toArray c3 ∧ All2 StrV vs St
theorem RecL.kr {h h' : Heap} {v : Value} {toks : List Str} {Es : List (Str × Itm)} {St : List Str} (x : RecL h v toks Es St) (k : Kr h h') : RecL h' v toks Es St := by
  obtain ⟨l, tl, el, sl, vt, ve, vs, c, c1, c2, c3, e, a1, a2, a3, a4, a5, a6, a7⟩ := x
  exact ⟨l, tl, el, sl, vt, ve, vs, c, c1, c2, c3, e, k.k a1 rfl (by simp), k.k a2 rfl (by simp), a3, k.k a4 rfl (by simp), a5.mono fun _ _ z => z.kr k, k.k a6 rfl (by simp), a7⟩
theorem RecL.kp {h h' : Heap} {v : Value} {toks : List Str} {Es : List (Str × Itm)} {St : List Str} (x : RecL h v toks Es St) (k : Kp h h') : RecL h' v toks Es St := x.kr (.of k)
section
variable {prog : Program} {w : World} {A : Around} {E : Value → Shared → Prop} {s : Shared} {env : Env}
/-- l[j], for a list -/
theorem v_idx {l : Addr} {vs : List Value} {j : Int} {t : Tok} {v : Value} {value slice : Expr} {Q : Value → Shared → Prop} (hl : s.heap.IsList l vs.toArray) (h0 : 0 ≤ j) (hz : j < 1000) (hj : vs[j.toNat]? = some v) (h : Q v s)
    (hs : subscripted slice false (.ref l) (.int j t) = operate [.ref l, .int j t] (getItem (.ref l) (.int j t)) := by with_unfolding_all rfl) : wpAny (model prog w) A (subscriptTail value slice (.ref l) (.int j t)) Q E s :=
  tail_any hl.typeIs list_getitem_lookup (wpAny_getItem_list hl h0 (by omega) (by simpa using hj) h) hs
/-- a + b, for two ParseResults -/
theorem v_add {L : Nat} {m : Str → Option Value} {a b : Addr} {vs vs2 : List Value} {kvs kvs2 : List (Str × Value)} {S S2 : Str → Bool} {Q : Value → Shared → Prop} (X : Wd w s.heap) (F : s.heap.Ns L m) (hL : 333 ≤ L) (P : PRx prog w s.heap a vs kvs S) (P2 : PRx prog w s.heap b vs2 kvs2 S2)
    (h : wpAny (model prog w) A (call (.ref 204) [.ref a, .ref b]) (PySem.W.CmpBack Q) E s) : wpAny (model prog w) A (binaryOp .Add (.ref a) (.ref b)) Q E s := by
  obtain ⟨dx, sl, ha, hx⟩ := P.inst
  obtain ⟨dx2, sl2, hb, hx2⟩ := P2.inst
  exact binop_K (fr_of F hL) (wd_cut X) (show InstAt s.heap a (pcls dx sl) 240 (some noDict) from ⟨ha, rfl, rfl, hx⟩) (pr_type hb _) (ad_self w) (ad_add w) (jf_add w) h
/-- l == [] -/
theorem v_eq_nil {l b : Addr} {vs : List Value} {Q : Value → Shared → Prop} (hl : s.heap.IsList l vs.toArray) (hb : s.heap.IsList b #[]) (hu : A.units < cLine) (h : Q (.bool vs.isEmpty) s) : wpAny (model prog w) A (compareOp .Eq (.ref l) (.ref b)) Q E s := by
  cases vs with
  | nil =>
    refine SeqAt.eq_listAt (e := fun _ => true) hl hb rfl hu (fun j h1 _ => absurd h1 (Nat.not_lt_zero _)) h
  | cons v r => exact SeqAt.eq_list_lengthsAt hl hb (by simp) hu h
theorem Rm.cl {n : Nat} {A : Around} (R : Rm n A) : A.units < cLine := by have := R.u; omega
theorem Bd.evk {n : Nat} {e : Shared} {L : Addr} {m : Str → Option Value} (B : Bd w n e L m s) (h : e.heap.objs.size ≤ n) : Ev e s := B.out.ev h
theorem all2_empty {α β : Type} {R : α → β → Prop} {as : List α} {bs : List β} (x : All2 R as bs) : as.isEmpty = bs.isEmpty := by cases x <;> rfl
/-- _law_joined(one, other) -/
theorem c_joined {n : Nat} {v1 v2 : Value} {t1 t2 : List Str} {E1 E2 : List (Str × Itm)} {S1 S2 : List Str} (R : Rm (n + 2) A) (X : Wd w s.heap) (R1 : RecL s.heap v1 t1 E1 S1) (R2 : RecL s.heap v2 t2 E2 S2)
    (hz : t1.length + t2.length + E1.length + E2.length + S1.length + S2.length ≤ 200) :
    Ret prog w A (.ref 320) ⟨[v1, v2], []⟩ s (fun r s' => Ev s s' ∧ s.heap.objs.size ≤ s'.heap.objs.size ∧ if t2.isEmpty && E2.isEmpty then r = v1 else RecL s'.heap r (t1 ++ t2) (E1 ++ E2) (S1 ++ S2)) := by
  refine b_enter X X.big (Nat.le_refl _) (binds := [("one", v1), ("other", v2)]) (body := bodyOf fd_joined) R.room (fo_joined X) rfl (code_of X (by kernel_rfl)) rfl (.of_eq rfl) (by decide) (locs rfl) fun L s₁ B hL ev => ?_
  obtain ⟨l1, tl1, el1, sl1, vt1, ve1, vs1, c, c1, c2, c3, rfl, a1, a2, a3, a4, a5, a6, a7⟩ := R1.kp ev.kp
  obtain ⟨l2, tl2, el2, sl2, vt2, ve2, vs2, d, d1, d2, d3, rfl, b1, b2, b3, b4, b5, b6, b7⟩ := R2.kp ev.kp
  obtain ⟨h₁, g₁, dr₁, t₁, os₁⟩ := s₁
  have z1 := a3.length; have z2 := b3.length; have z3 := a5.length; have z4 := b5.length; have z5 := a7.length; have z6 := b7.length
  have fin : ∀ (h : Heap) (t : Nat), Bd w s.heap.objs.size s L (fun x => [(("one" : Str), Value.ref l1), ("other", .ref l2)].reverse.lookup x) ⟨h, g₁, dr₁, t, os₁⟩ → (∀ b o, h₁.get? b = some o → h.get? b = some o) → (t2.isEmpty && E2.isEmpty) = false →
      wpAny (model prog w) (A.deeper (callEnv fd_joined L 320)) (execs ((bodyOf fd_joined).drop 1) (callEnv fd_joined L 320)) (fun f s' => Ev s s' ∧ s.heap.objs.size ≤ s'.heap.objs.size ∧ if t2.isEmpty && E2.isEmpty then (match f with | .ret v => v | _ => .none) = .ref l1 else RecL s'.heap (match f with | .ret v => v | _ => .none) (t1 ++ t2) (E1 ++ E2) (S1 ++ S2)) (fun _ _ => False) ⟨h, g₁, dr₁, t, os₁⟩ := by
    intro h t B k hne
    refine wpAny_execs_cons (wpAny_Return_some (wpAny_List (wpAny_items_cons (wpAny_BinOp (Subscript_ (r_local B.fm rfl (wpAny_Constant_int (v_idx (vs := [.ref tl1, .ref el1, .ref sl1]) (IsL.isList (k _ _ a1)) (by decide) (by decide) rfl ?_))))))))
    refine Subscript_ (r_local (B.tok (t + 1)).fm rfl (wpAny_Constant_int (v_idx (vs := [.ref tl2, .ref el2, .ref sl2]) (IsL.isList (k _ _ b1)) (by decide) (by decide) rfl ?_)))
    replace B := B.tok (t + 1 + 1)
    refine PySem.P.add_list (k _ _ a2) (k _ _ b2) ?_ (by rw [List.size_toArray, List.size_toArray, sizeLine_eq]; omega)
    have k1 : ∀ b o, h.get? b = some o → (h.push { cls := .type "list", data := .seq (vt1.toArray ++ vt2.toArray) }).get? b = some o := fun b o e => Heap.get?_push_of_some _ e
    have q1 := Heap.get?_push_size h (show ({ cls := .type "list", data := .seq (vt1.toArray ++ vt2.toArray) } : Obj).isFreed = false from rfl)
    replace B := B.keep (t := t + 1 + 1) k1
    replace k := fun b o e => k1 b o (k b o e)
    dsimp only at *
    generalize h.objs.size = x1 at *
    generalize h.push { cls := .type "list", data := .seq (vt1.toArray ++ vt2.toArray) } = h2 at *
    clear k1
    refine wpAny_items_cons (wpAny_BinOp (Subscript_ (r_local B.fm rfl (wpAny_Constant_int (v_idx (vs := [.ref tl1, .ref el1, .ref sl1]) (IsL.isList (k _ _ a1)) (by decide) (by decide) rfl ?_)))))
    refine Subscript_ (r_local (B.tok (t + 1 + 1 + 1)).fm rfl (wpAny_Constant_int (v_idx (vs := [.ref tl2, .ref el2, .ref sl2]) (IsL.isList (k _ _ b1)) (by decide) (by decide) rfl ?_)))
    replace B := B.tok (t + 1 + 1 + 1 + 1)
    refine PySem.P.add_list (k _ _ a4) (k _ _ b4) ?_ (by rw [List.size_toArray, List.size_toArray, sizeLine_eq]; omega)
    have k1 : ∀ b o, h2.get? b = some o → (h2.push { cls := .type "list", data := .seq (ve1.toArray ++ ve2.toArray) }).get? b = some o := fun b o e => Heap.get?_push_of_some _ e
    have q2 := Heap.get?_push_size h2 (show ({ cls := .type "list", data := .seq (ve1.toArray ++ ve2.toArray) } : Obj).isFreed = false from rfl)
    replace q1 := k1 _ _ q1
    replace B := B.keep (t := t + 1 + 1 + 1 + 1) k1
    replace k := fun b o e => k1 b o (k b o e)
    dsimp only at *
    generalize h2.objs.size = x2 at *
    generalize h2.push { cls := .type "list", data := .seq (ve1.toArray ++ ve2.toArray) } = h3 at *
    clear k1
    refine wpAny_items_cons (wpAny_BinOp (Subscript_ (r_local B.fm rfl (wpAny_Constant_int (v_idx (vs := [.ref tl1, .ref el1, .ref sl1]) (IsL.isList (k _ _ a1)) (by decide) (by decide) rfl ?_)))))
    refine Subscript_ (r_local (B.tok (t + 1 + 1 + 1 + 1 + 1)).fm rfl (wpAny_Constant_int (v_idx (vs := [.ref tl2, .ref el2, .ref sl2]) (IsL.isList (k _ _ b1)) (by decide) (by decide) rfl ?_)))
    replace B := B.tok (t + 1 + 1 + 1 + 1 + 1 + 1)
    refine PySem.P.add_list (k _ _ a6) (k _ _ b6) ?_ (by rw [List.size_toArray, List.size_toArray, sizeLine_eq]; omega)
    have k1 : ∀ b o, h3.get? b = some o → (h3.push { cls := .type "list", data := .seq (vs1.toArray ++ vs2.toArray) }).get? b = some o := fun b o e => Heap.get?_push_of_some _ e
    have q3 := Heap.get?_push_size h3 (show ({ cls := .type "list", data := .seq (vs1.toArray ++ vs2.toArray) } : Obj).isFreed = false from rfl)
    replace q1 := k1 _ _ q1
    replace q2 := k1 _ _ q2
    replace B := B.keep (t := t + 1 + 1 + 1 + 1 + 1 + 1) k1
    replace k := fun b o e => k1 b o (k b o e)
    dsimp only at *
    generalize h3.objs.size = x3 at *
    generalize h3.push { cls := .type "list", data := .seq (vs1.toArray ++ vs2.toArray) } = h4 at *
    clear k1
    refine wpAny_items_nil ⟨show 3 ≤ sizeLine by decide, ?_⟩
    have k1 : ∀ b o, h4.get? b = some o → (h4.push { cls := .type "list", data := .seq [Value.ref x1, .ref x2, .ref x3].toArray }).get? b = some o := fun b o e => Heap.get?_push_of_some _ e
    have q4 := Heap.get?_push_size h4 (show ({ cls := .type "list", data := .seq [Value.ref x1, .ref x2, .ref x3].toArray } : Obj).isFreed = false from rfl)
    replace B := B.keep (t := t + 1 + 1 + 1 + 1 + 1 + 1) k1
    have kr : Kr h₁ (h4.push { cls := .type "list", data := .seq [Value.ref x1, .ref x2, .ref x3].toArray }) := .of (.of fun b o e => k1 b o (k b o e))
    refine ⟨B.out.ev (Nat.le_refl _), Nat.le_of_lt B.lt, ?_⟩
    rw [hne]
    have e1 : ∀ (as bs : List Value), as.toArray ++ bs.toArray = (as ++ bs).toArray := fun as bs => by simp
    rw [e1] at q1 q2 q3
    exact ⟨_, x1, x2, x3, _, _, _, _, _, _, _, rfl, q4, k1 _ _ q1, a3.append b3, k1 _ _ q2, (a5.mono fun _ _ z => z.kr kr).append (b5.mono fun _ _ z => z.kr kr), k1 _ _ q3, a7.append b7⟩
  refine wpAny_execs_cons (wpAny_If (isTrue_and (wpAny_isTrue_Compare1 (Subscript_ (r_local B.fm rfl (wpAny_Constant_int (v_idx (vs := [.ref tl2, .ref el2, .ref sl2]) (IsL.isList b1) (by decide) (by decide) rfl ?_)))))))
  refine wpAny_List (wpAny_items_nil ⟨by decide, ?_⟩)
  have k1 : ∀ b o, h₁.get? b = some o → (h₁.push { cls := .type "list", data := .seq #[] }).get? b = some o := fun b o e => Heap.get?_push_of_some _ e
  replace B := B.keep (t := t₁ + 1) k1
  refine v_eq_nil (IsL.isList (k1 _ _ b2)) ⟨_, Heap.get?_push_size _ rfl, rfl, _, rfl⟩ (R.deep _).cl (wpAny_truthy_bool ?_)
  rw [all2_empty b3]
  cases ht : t2.isEmpty with
  | false => exact wpAny_execs_nil (by have f := fin _ _ B k1 (by rw [ht]; rfl); rw [ht] at f; exact f)
  | true =>
    refine isTrue_and (wpAny_isTrue_Compare1 (Subscript_ (r_local B.fm rfl (wpAny_Constant_int (v_idx (vs := [.ref tl2, .ref el2, .ref sl2]) (IsL.isList (k1 _ _ b1)) (by decide) (by decide) rfl ?_)))))
    refine wpAny_List (wpAny_items_nil ⟨by decide, ?_⟩)
    generalize h₁.push { cls := .type "list", data := .seq #[] } = h2 at *
    have k2 : ∀ b o, h2.get? b = some o → (h2.push { cls := .type "list", data := .seq #[] }).get? b = some o := fun b o e => Heap.get?_push_of_some _ e
    replace B := B.keep (t := t₁ + 1 + 1) k2
    refine v_eq_nil (IsL.isList (k2 _ _ (k1 _ _ b4))) ⟨_, Heap.get?_push_size _ rfl, rfl, _, rfl⟩ (R.deep _).cl (wpAny_truthy_bool ?_)
    rw [all2_empty b5]
    cases hE : E2.isEmpty with
    | false => exact wpAny_execs_nil (by have f := fin _ _ B (fun b o e => k2 b o (k1 b o e)) (by rw [ht, hE]; rfl); rw [ht, hE] at f; exact f)
    | true =>
      refine isTrue_and_nil (wpAny_execs_cons (wpAny_Return_some (r_local B.fm rfl ⟨B.out.ev (Nat.le_refl _), Nat.le_of_lt B.lt, ?_⟩)))
      rfl
end
end Mine
end

-- XN
section
open PySem PySem.W PySem.Calls PyProof.Rows
set_option maxHeartbeats 4000000
namespace Mine
theorem n_hand (w : World) : nsIn (KV w) 3 "_law_handed" = some (some (.ref 254)) := by kernel_rfl
/-- a list of the top, its items as f says -/
def topL (K : Frag) (a : Addr) (f : List Value → Bool) : Bool := match K.lookup a with
  | some ⟨.type n, none, .seq vs _, sl⟩ => n == "list" && sl.isEmpty && f vs.toList
  | _ => false
theorem top_list {K : Frag} {h : Heap} {a : Addr} {f : List Value → Bool} (X : K.In h) (e : topL K a f = true) : ∃ vs n, IsL h a vs.toArray n ∧ f vs = true := by
  unfold topL at e
  split at e
  · rename_i n vs k sl ho
    simp only [Bool.and_eq_true] at e
    obtain ⟨⟨e1, e2⟩, e3⟩ := e
    have := beq_iff_eq.mp e1
    subst this
    have := Array.isEmpty_iff.mp e2
    subst this
    exact ⟨vs.toList, k, X _ _ ho, e3⟩
  · cases e
def strsB : List Str → List Value → Bool
  | [], [] => true
  | x :: xs, .str y _ :: vs => y == x && strsB xs vs
  | _, _ => false
theorem strsB_of : ∀ {xs : List Str} {vs : List Value}, strsB xs vs = true → All2 StrV vs xs
  | [], [], _ => .nil
  | x :: xs, .str y t :: vs, e => by
    simp only [strsB, Bool.and_eq_true] at e
    have := beq_iff_eq.mp e.1
    subst this
    exact .cons ⟨t, rfl⟩ (strsB_of e.2)
  | [], _ :: _, e => by simp [strsB] at e
  | _ :: _, [], e => by simp [strsB] at e
  | _ :: _, .none :: _, e => by simp [strsB] at e
  | _ :: _, .bool _ :: _, e => by simp [strsB] at e
  | _ :: _, .int _ _ :: _, e => by simp [strsB] at e
  | _ :: _, .float _ _ :: _, e => by simp [strsB] at e
  | _ :: _, .bytes _ _ :: _, e => by simp [strsB] at e
  | _ :: _, .ref _ :: _, e => by simp [strsB] at e
  | _ :: _, .type _ :: _, e => by simp [strsB] at e
  | _ :: _, .builtin _ :: _, e => by simp [strsB] at e
  | _ :: _, .ellipsis :: _, e => by simp [strsB] at e
  | _ :: _, .notImplemented :: _, e => by simp [strsB] at e
def handB : List Value → Bool
  | [.none, .str x _, .ref a, .ref b, .ref c, .ref d] => x == "a" && a == 250 && b == 251 && c == 252 && d == 253
  | _ => false
theorem h_254 (w : World) : topL (KV w) 254 handB = true := by kernel_rfl
theorem h_250 (w : World) : topL (KV w) 250 (strsB []) = true := by kernel_rfl
theorem h_251 (w : World) : topL (KV w) 251 (strsB ["a"]) = true := by kernel_rfl
theorem h_252 (w : World) : topL (KV w) 252 (strsB ["a", "b"]) = true := by kernel_rfl
theorem h_253 (w : World) : topL (KV w) 253 (strsB ["p", "q", "r"]) = true := by kernel_rfl
/-- the tokens of what is handed in -/
def toksOf : Nat → List Str
  | 1 => ["a"]
  | 3 => ["a"]
  | 4 => ["a", "b"]
  | 5 => ["p", "q", "r"]
  | _ => []
/-- what is handed in: nothing, a text, or a list of the top -/
inductive Hand (h : Heap) : Nat → Value → Prop
  | none : Hand h 0 .none
  | str (t : Tok) : Hand h 1 (.str "a" t)
  | list (k : Nat) (a : Addr) (vs : List Value) (c : Nat) : 2 ≤ k → k < 6 → IsL h a vs.toArray c → All2 StrV vs (toksOf k) → Hand h k (.ref a)
theorem hand_at {w : World} {h : Heap} (X : Wd w h) {k : Nat} (hk : k < 6) : ∃ (vs : List Value) (c : Nat) (v : Value), IsL h 254 vs.toArray c ∧ vs[k]? = some v ∧ Hand h k v := by
  obtain ⟨vs, c, hl, hf⟩ := top_list X (h_254 w)
  unfold handB at hf
  split at hf
  · rename_i x t a b cc d
    simp only [Bool.and_eq_true] at hf
    obtain ⟨⟨⟨⟨e0, e1⟩, e2⟩, e3⟩, e4⟩ := hf
    have := beq_iff_eq.mp e0; subst this
    have := beq_iff_eq.mp e1; subst this
    have := beq_iff_eq.mp e2; subst this
    have := beq_iff_eq.mp e3; subst this
    have := beq_iff_eq.mp e4; subst this
    obtain ⟨v0, c0, l0, f0⟩ := top_list X (h_250 w)
    obtain ⟨v1, c1, l1, f1⟩ := top_list X (h_251 w)
    obtain ⟨v2, c2, l2, f2⟩ := top_list X (h_252 w)
    obtain ⟨v3, c3, l3, f3⟩ := top_list X (h_253 w)
    match k, hk with
    | 0, _ => exact ⟨_, c, _, hl, rfl, .none⟩
    | 1, _ => exact ⟨_, c, _, hl, rfl, .str t⟩
    | 2, _ => exact ⟨_, c, _, hl, rfl, .list 2 _ _ _ (by decide) (by decide) l0 (strsB_of f0)⟩
    | 3, _ => exact ⟨_, c, _, hl, rfl, .list 3 _ _ _ (by decide) (by decide) l1 (strsB_of f1)⟩
    | 4, _ => exact ⟨_, c, _, hl, rfl, .list 4 _ _ _ (by decide) (by decide) l2 (strsB_of f2)⟩
    | 5, _ => exact ⟨_, c, _, hl, rfl, .list 5 _ _ _ (by decide) (by decide) l3 (strsB_of f3)⟩
    | k + 6, h => omega
  · cases hf
end Mine
end

-- XO
section
open PySem PySem.W PySem.Calls PyProof.Rows
set_option maxHeartbeats 4000000
namespace Mine
/-- the entries of a record -/
def entsOf (nm : Option Str) (xs : List Str) (al b : Bool) : List (Str × Itm) := match nm, xs with
  | some k, x0 :: r => [(k, if al then .sub (if b then x0 :: r else [x0]) else .s x0)]
  | _, _ => []
def starL (nm : Option Str) (md : Bool) : List Str := match nm with
  | some k => if md then [] else [k]
  | none => []
theorem toks_len (k : Nat) : (toksOf k).length ≤ 3 := by
  unfold toksOf
  split <;> decide
section
variable {prog : Program} {w : World} {A : Around} {E : Value → Shared → Prop} {s : Shared} {env : Env}
/-- a, b, c, d = t, for four local names -/
theorem b_four {n : Nat} {e : Shared} {x1 x2 x3 x4 : Str} {p1 p2 p3 p4 : Pos} {kk : Nat} {tp : Pos} {t : Nat} {a b c d : Value} {m : Str → Option Value} {Q : Unit → Shared → Prop} (hh : A.handled = none) (B : Bd w n e env.locals m s) (ht : s.heap.IsTuple t #[a, b, c, d])
    (h1 : env.kindOf x1 = some .local) (h2 : env.kindOf x2 = some .local) (h3 : env.kindOf x3 = some .local) (h4 : env.kindOf x4 = some .local) (hp : (env.scope.kind == .class || (env.scope.kind == .module && env.locals != env.globals)) = false)
    (h : ∀ h', Bd w n e env.locals (fun z => if z = x4 then some d else if z = x3 then some c else if z = x2 then some b else if z = x1 then some a else m z) { s with heap := h', toks := s.toks + 1 + 1 + 1 + 1 } → Kp s.heap h' → Q () { s with heap := h', toks := s.toks + 1 + 1 + 1 + 1 }) :
    wpAny (model prog w) A (assign (.Tuple [.Name x1 p1, .Name x2 p2, .Name x3 p3, .Name x4 p4] kk tp) env (.ref t)) Q E s := by
  refine wpAny_assign_Tuple hh ht rfl rfl fun h₁ he₁ => ?_
  have up₁ : ∀ c o, s.heap.get? c = some o → h₁.get? c = some o := fun c o e => he₁ c o (Nat.ne_of_lt (Heap.lt_size e)) e
  have B₁ := B.keep (t := s.toks) up₁
  show wpAny _ _ (assignInOrder [assign (.Name x1 p1) env, assign (.Name x2 p2) env, assign (.Name x3 p3) env, assign (.Name x4 p4) env] [a, b, c, d]) _ _ _
  refine assignInOrder_cons (wpAny_assign_Name (b_store B₁ (fun h₂ B₂ K₂ S₂ => ?_) h1 hp))
  refine assignInOrder_cons (wpAny_assign_Name (b_store B₂ (fun h₃ B₃ K₃ S₃ => ?_) h2 hp))
  refine assignInOrder_cons (wpAny_assign_Name (b_store B₃ (fun h₄ B₄ K₄ S₄ => ?_) h3 hp))
  refine assignInOrder_cons (wpAny_assign_Name (b_store B₄ (fun h₅ B₅ K₅ S₅ => ?_) h4 hp))
  exact assignInOrder_nil (h h₅ B₅ (((((Kp.of up₁).trans K₂).trans K₃).trans K₄).trans K₅))
abbrev envR (L : Addr) : Env := callEnv fd_record L 275
/-- what a record is told as -/
abbrev RecQ (s : Shared) (xs : List Str) (nm : Option Str) (wh md b : Bool) (v : Value) (s' : Shared) : Prop := Ev s s' ∧ s.heap.objs.size ≤ s'.heap.objs.size ∧ RecL s'.heap v xs (entsOf nm xs wh b) (starL nm md)
/-- the record is handed back -/
theorem rec_ret {e : Shared} {L : Addr} {m : Str → Option Value} {tl sl : Nat} {vt vs : List Value} {xs : List Str} {key : Str} {t : Tok} {md : Bool} {c1 c2 : Nat} {iexp : Expr} {p1 p2 p3 p4 p5 p6 p7 : Pos} {k1 : Nat} {I : Itm} {rest : List Stmt} {Es : List (Str × Itm)} {Q : Flow → Shared → Prop}
    (B : Bd w e.heap.objs.size e L m s) (h3 : m "tokens" = some (.ref tl)) (h4 : m "key" = some (.str key t)) (h5 : m "stars" = some (.ref sl)) (hx : All2 StrV vt xs) (hsx : All2 StrV vs (starL (some key) md)) (hE : Es = [(key, I)]) (hst : ∀ r, starEach (iexp :: r) (envR L) = (false, eval iexp (envR L)) :: starEach r (envR L))
    (hy : wpAny (model prog w) A (eval iexp (envR L)) (fun y s' => Bd w e.heap.objs.size e L m s' ∧ IsL s'.heap tl vt.toArray c1 ∧ IsL s'.heap sl vs.toArray c2 ∧ Rd s'.heap y I.tell) (fun _ _ => False) s)
    (hQ : ∀ v s', Ev e s' → e.heap.objs.size ≤ s'.heap.objs.size → RecL s'.heap v xs Es (starL (some key) md) → Q (.ret v) s') :
    wpAny (model prog w) A (execs (.Return (some (.List [.Name "tokens" p1, .List [.Tuple [.Name "key" p2, iexp] k1 p3] p4, .Name "stars" p5] p6)) p7 :: rest) (envR L)) Q (fun _ _ => False) s := by
  subst hE
  refine wpAny_execs_cons (wpAny_Return_some (wpAny_List (wpAny_items_cons (r_local B.fm h3 (wpAny_items_cons ?_)))))
  refine wpAny_List (wpAny_items_cons (wpAny_Tuple (wpAny_items_cons (r_local B.fm h4 (wpAny_items_cons (he := hst []) ?_)))))
  refine wpAny_mono hy (fun y s' z => ?_) fun _ _ z => z.elim
  obtain ⟨B, ht, hs, hr⟩ := z
  obtain ⟨h₁, g₁, d₁, t₁, os₁⟩ := s'
  refine wpAny_items_nil ⟨show 2 ≤ sizeLine by decide, ?_⟩
  replace hr := hr.kp (.push h₁ { cls := .type "tuple", data := .seq #[.str key t, y] })
  have ltp := Nat.le_of_lt B.lt
  replace B := B.push { cls := .type "tuple", data := .seq #[.str key t, y] } (t₁)
  have qtp := Heap.get?_push_size h₁ (show ({ cls := .type "tuple", data := .seq #[.str key t, y] } : Obj).isFreed = false from rfl)
  replace ht := Heap.get?_push_of_some { cls := .type "tuple", data := .seq #[.str key t, y] } ht
  replace hs := Heap.get?_push_of_some { cls := .type "tuple", data := .seq #[.str key t, y] } hs
  dsimp only at *
  generalize h₁.objs.size = tp at *
  generalize h₁.push { cls := .type "tuple", data := .seq #[.str key t, y] } = h₂ at *
  refine wpAny_items_nil ⟨show 1 ≤ sizeLine by decide, ?_⟩
  replace hr := hr.kp (.push h₂ { cls := .type "list", data := .seq #[.ref tp] })
  have lel := Nat.le_of_lt B.lt
  replace B := B.push { cls := .type "list", data := .seq #[.ref tp] } (t₁)
  have qel := Heap.get?_push_size h₂ (show ({ cls := .type "list", data := .seq #[.ref tp] } : Obj).isFreed = false from rfl)
  replace ht := Heap.get?_push_of_some { cls := .type "list", data := .seq #[.ref tp] } ht
  replace hs := Heap.get?_push_of_some { cls := .type "list", data := .seq #[.ref tp] } hs
  replace qtp := Heap.get?_push_of_some { cls := .type "list", data := .seq #[.ref tp] } qtp
  dsimp only at *
  generalize h₂.objs.size = el at *
  generalize h₂.push { cls := .type "list", data := .seq #[.ref tp] } = h₃ at *
  refine wpAny_items_cons (r_local B.fm h5 (wpAny_items_nil ⟨show 3 ≤ sizeLine by decide, ?_⟩))
  replace hr := hr.kp (.push h₃ { cls := .type "list", data := .seq #[.ref tl, .ref el, .ref sl] })
  have lrl := Nat.le_of_lt B.lt
  replace B := B.push { cls := .type "list", data := .seq #[.ref tl, .ref el, .ref sl] } (t₁)
  have qrl := Heap.get?_push_size h₃ (show ({ cls := .type "list", data := .seq #[.ref tl, .ref el, .ref sl] } : Obj).isFreed = false from rfl)
  replace ht := Heap.get?_push_of_some { cls := .type "list", data := .seq #[.ref tl, .ref el, .ref sl] } ht
  replace hs := Heap.get?_push_of_some { cls := .type "list", data := .seq #[.ref tl, .ref el, .ref sl] } hs
  replace qtp := Heap.get?_push_of_some { cls := .type "list", data := .seq #[.ref tl, .ref el, .ref sl] } qtp
  replace qel := Heap.get?_push_of_some { cls := .type "list", data := .seq #[.ref tl, .ref el, .ref sl] } qel
  dsimp only at *
  generalize h₃.objs.size = rl at *
  generalize h₃.push { cls := .type "list", data := .seq #[.ref tl, .ref el, .ref sl] } = h₄ at *
  exact hQ _ _ (B.out.ev (Nat.le_refl _)) (Nat.le_of_lt B.lt) ⟨rl, tl, el, sl, vt, [.ref tp], vs, _, _, _, _, rfl, qrl, ht, hx, qel, .cons ⟨tp, y, t, rfl, qtp, hr⟩ .nil, hs, hsx⟩
/-- from the test of the tokens on -/
theorem rec_tail {e : Shared} {L : Addr} {m : Str → Option Value} {k tl sl : Nat} {tk : Tok} {vt vs : List Value} {xs : List Str} {key : Str} {t : Tok} {wh md : Bool} {c1 c2 : Nat} (hn : A.units + 64 < cLine) (B : Bd w e.heap.objs.size e L m s) (h1 : m "kind" = some (.int k tk)) (h2 : m "whole" = some (.bool wh)) (h3 : m "tokens" = some (.ref tl)) (h4 : m "key" = some (.str key t)) (h5 : m "stars" = some (.ref sl))
    (ht : IsL s.heap tl vt.toArray c1) (hx : All2 StrV vt xs) (hs : IsL s.heap sl vs.toArray c2) (hsx : All2 StrV vs (starL (some key) md)) (hxz : xs.length ≤ 3) :
    wpAny (model prog w) A (execs ((bodyOf fd_record).drop 6) (envR L)) (fun f s' => RecQ e xs (some key) wh md (k == 5) (match f with | .ret v => v | _ => .none) s') (fun _ _ => False) s := by
  obtain ⟨h₁, g₁, d₁, t₁, os₁⟩ := s
  have hz := hx.length
  refine wpAny_execs_cons (wpAny_If (wpAny_isTrue_Compare1 (r_local B.fm h3 ?_)))
  refine wpAny_List (wpAny_items_nil ⟨by decide, ?_⟩)
  have lnl := Nat.le_of_lt B.lt
  replace B := B.push { cls := .type "list", data := .seq #[] } (t₁)
  have qnl := Heap.get?_push_size h₁ (show ({ cls := .type "list", data := .seq #[] } : Obj).isFreed = false from rfl)
  replace ht := Heap.get?_push_of_some { cls := .type "list", data := .seq #[] } ht
  replace hs := Heap.get?_push_of_some { cls := .type "list", data := .seq #[] } hs
  dsimp only at *
  generalize h₁.objs.size = nl at *
  generalize h₁.push { cls := .type "list", data := .seq #[] } = h₂ at *
  refine v_eq_nil (IsL.isList ht) (IsL.isList (show IsL h₂ nl #[] 0 from qnl)) (by omega) (wpAny_truthy_bool ?_)
  clear qnl lnl
  cases hx with
  | nil =>
    refine wpAny_execs_cons (wpAny_Return_some (wpAny_List (wpAny_items_cons (r_local B.fm h3 (wpAny_items_cons (wpAny_List (wpAny_items_nil ⟨by decide, ?_⟩)))))))
    have lel := Nat.le_of_lt B.lt
    replace B := B.push { cls := .type "list", data := .seq #[] } (t₁)
    have qel := Heap.get?_push_size h₂ (show ({ cls := .type "list", data := .seq #[] } : Obj).isFreed = false from rfl)
    replace ht := Heap.get?_push_of_some { cls := .type "list", data := .seq #[] } ht
    replace hs := Heap.get?_push_of_some { cls := .type "list", data := .seq #[] } hs
    dsimp only at *
    generalize h₂.objs.size = el at *
    generalize h₂.push { cls := .type "list", data := .seq #[] } = h₃ at *
    refine wpAny_items_cons (r_local B.fm h5 (wpAny_items_nil ⟨show 3 ≤ sizeLine by decide, ?_⟩))
    have lrl := Nat.le_of_lt B.lt
    replace B := B.push { cls := .type "list", data := .seq #[.ref tl, .ref el, .ref sl] } (t₁)
    have qrl := Heap.get?_push_size h₃ (show ({ cls := .type "list", data := .seq #[.ref tl, .ref el, .ref sl] } : Obj).isFreed = false from rfl)
    replace ht := Heap.get?_push_of_some { cls := .type "list", data := .seq #[.ref tl, .ref el, .ref sl] } ht
    replace hs := Heap.get?_push_of_some { cls := .type "list", data := .seq #[.ref tl, .ref el, .ref sl] } hs
    replace qel := Heap.get?_push_of_some { cls := .type "list", data := .seq #[.ref tl, .ref el, .ref sl] } qel
    dsimp only at *
    generalize h₃.objs.size = rl at *
    generalize h₃.push { cls := .type "list", data := .seq #[.ref tl, .ref el, .ref sl] } = h₄ at *
    exact ⟨B.out.ev (Nat.le_refl _), Nat.le_of_lt B.lt, rl, tl, el, sl, [], [], vs, _, _, _, _, rfl, qrl, ht, .nil, qel, .nil, hs, hsx⟩
  | @cons v0 x0 vt xs h0 hr =>
    refine wpAny_execs_nil (env := envR L) ?_
    obtain ⟨tx, rfl⟩ := h0
    have hk5 : ((k : Int) == 5) = (k == 5) := by
      cases q : k == 5 with
      | true => rw [beq_iff_eq] at q; subst q; rfl
      | false => rw [beq_eq_false_iff_ne] at q ⊢; omega
    have hfst : (Value.str x0 tx :: vt)[(0 : Int).toNat]? = some (.str x0 tx) := rfl
    refine wpAny_execs_cons (wpAny_If (wpAny_isTrue_Compare1 (r_local B.fm h1 (wpAny_Constant_int (PyProof.Rows.eq_int (wpAny_truthy_bool ?_))))))
    rw [hk5]
    replace B := B.tok (t₁ + 1)
    cases q : k == 5 with
    | true =>
      rw [if_pos rfl]
      refine rec_ret (c1 := c1) (c2 := c2) (I := if wh then Itm.sub (x0 :: xs) else Itm.s x0) (vt := Value.str x0 tx :: vt) B h3 h4 h5 (.cons ⟨tx, rfl⟩ hr) hsx ?_ ?_ ?_ (fun v s' a b c => ⟨a, b, c⟩)
      · cases wh <;> rfl
      · exact fun _ => rfl
      refine wpAny_IfExp (isTrue_plain (r_local B.fm h2 (wpAny_truthy_bool ?_)))
      cases wh with
      | true =>
        refine Call_ (r_builtin B.wd (n_list3 w) (n_list0 w) (callWith_type1 (wpAny_items_cons (r_local B.fm h3 (wpAny_items_nil ?_)))))
        refine call_list_seq tl (.inl rfl) ht rfl rfl (fun h₈ c kk qtl => ?_) (by rw [List.size_toArray, sizeLine_eq, List.length_cons]; rw [List.length_cons, List.length_cons] at hz; rw [List.length_cons] at hxz; omega)
        exact ⟨B.keep kk, kk _ _ ht, kk _ _ hs, rd_list (IsL.isList qtl) (rd_strs (.cons ⟨tx, rfl⟩ hr))⟩
      | false =>
        exact Subscript_ (r_local B.fm h3 (wpAny_Constant_int (v_idx (IsL.isList ht) (by decide) (by decide) hfst ⟨B.tok _, ht, hs, rd_str x0 tx⟩)))
    | false =>
      rw [if_neg (by decide)]
      refine wpAny_execs_nil (env := envR L) ?_
      refine rec_ret (c1 := c1) (c2 := c2) (I := if wh then Itm.sub [x0] else Itm.s x0) (vt := Value.str x0 tx :: vt) B h3 h4 h5 (.cons ⟨tx, rfl⟩ hr) hsx ?_ ?_ ?_ (fun v s' a b c => ⟨a, b, c⟩)
      · cases wh <;> rfl
      · exact fun _ => rfl
      refine wpAny_IfExp (isTrue_plain (r_local B.fm h2 (wpAny_truthy_bool ?_)))
      cases wh with
      | true =>
        refine wpAny_List (wpAny_items_cons (Subscript_ (r_local B.fm h3 (wpAny_Constant_int (v_idx (IsL.isList ht) (by decide) (by decide) hfst (wpAny_items_nil ⟨show 1 ≤ sizeLine by decide, ?_⟩))))))
        replace B := B.tok (t₁ + 1 + 1)
        have lel := Nat.le_of_lt B.lt
        replace B := B.push { cls := .type "list", data := .seq #[.str x0 tx] } (t₁ + 1 + 1)
        have qel := Heap.get?_push_size h₂ (show ({ cls := .type "list", data := .seq #[.str x0 tx] } : Obj).isFreed = false from rfl)
        replace ht := Heap.get?_push_of_some { cls := .type "list", data := .seq #[.str x0 tx] } ht
        replace hs := Heap.get?_push_of_some { cls := .type "list", data := .seq #[.str x0 tx] } hs
        dsimp only at *
        generalize h₂.objs.size = el at *
        generalize h₂.push { cls := .type "list", data := .seq #[.str x0 tx] } = h₃ at *
        exact ⟨B, ht, hs, rd_list (vs := [.str x0 tx]) (IsL.isList qel) (.cons (rd_str x0 tx) .nil)⟩
      | false =>
        exact Subscript_ (r_local B.fm h3 (wpAny_Constant_int (v_idx (IsL.isList ht) (by decide) (by decide) hfst ⟨B.tok _, ht, hs, rd_str x0 tx⟩)))
end
end Mine
end

-- XP
section
open PySem PySem.W PySem.Calls PyProof.Rows
set_option maxHeartbeats 4000000
namespace Mine
section
variable {prog : Program} {w : World} {A : Around} {E : Value → Shared → Prop} {s : Shared} {env : Env}
theorem toks_ok (k : Nat) : ∀ x ∈ toksOf k, OkS x := by
  unfold toksOf
  split <;> simp only [List.mem_cons, List.not_mem_nil, or_false, forall_eq_or_imp, forall_eq, false_implies, implies_true, OkS, PyData.canLay0] <;> decide +kernel
/-- from the key on -/
theorem rec_key {e : Shared} {L : Addr} {m : Str → Option Value} {k tl : Nat} {tk : Tok} {vt : List Value} {xs : List Str} {nv : Value} {key : Str} {wh md : Bool} {c1 : Nat} (hn : A.units + 64 < cLine) (B : Bd w e.heap.objs.size e L m s) (h0 : m "name" = some nv) (h1 : m "kind" = some (.int k tk)) (h2 : m "whole" = some (.bool wh)) (h3 : m "tokens" = some (.ref tl)) (h4 : m "modal" = some (.bool md))
    (hnm : NameV nv key) (ht : IsL s.heap tl vt.toArray c1) (hx : All2 StrV vt xs) (hxz : xs.length ≤ 3) :
    wpAny (model prog w) A (execs ((bodyOf fd_record).drop 4) (envR L)) (fun f s' => RecQ e xs (some key) wh md (k == 5) (match f with | .ret v => v | _ => .none) s') (fun _ _ => False) s := by
  have go : ∀ (s : Shared) (t : Tok), Bd w e.heap.objs.size e L m s → IsL s.heap tl vt.toArray c1 → wpAny (model prog w) A (storeName (envR L) "key" (.str key t)) (fun _ s' => wpAny (model prog w) A (execs ((bodyOf fd_record).drop 5) (envR L)) (fun f s' => RecQ e xs (some key) wh md (k == 5) (match f with | .ret v => v | _ => .none) s') (fun _ _ => False) s') (fun _ _ => False) s := by
    intro s t B ht
    refine b_store B fun h₁ B K S => ?_
    replace ht := K.k _ _ ht rfl
    clear K S
    obtain ⟨h₀, g₀, d₀, t₀, os₀⟩ := s
    refine wpAny_execs_cons (wpAny_Assign_Name (wpAny_IfExp (isTrue_plain (r_local B.fm ((if_neg (by decide)).trans h4) (wpAny_truthy_bool ?_)))))
    cases md with
    | true =>
      refine wpAny_List (wpAny_items_nil ⟨by decide, ?_⟩)
      have lsl := Nat.le_of_lt B.lt
      replace B := B.push { cls := .type "list", data := .seq #[] } (t₀ + 1)
      have qsl := Heap.get?_push_size h₁ (show ({ cls := .type "list", data := .seq #[] } : Obj).isFreed = false from rfl)
      replace ht := Heap.get?_push_of_some { cls := .type "list", data := .seq #[] } ht
      dsimp only at *
      generalize h₁.objs.size = sl at *
      generalize h₁.push { cls := .type "list", data := .seq #[] } = h₂ at *
      refine b_store B fun h₃ B K S => ?_
      exact rec_tail hn B ((if_neg (by decide)).trans ((if_neg (by decide)).trans h1)) ((if_neg (by decide)).trans ((if_neg (by decide)).trans h2)) ((if_neg (by decide)).trans ((if_neg (by decide)).trans h3)) ((if_neg (by decide)).trans (if_pos rfl)) (if_pos rfl) (K.k _ _ ht rfl) hx (K.k _ _ qsl rfl : IsL h₃ sl ([] : List Value).toArray 0) .nil hxz
    | false =>
      refine wpAny_List (wpAny_items_cons (r_local B.fm (if_pos rfl) (wpAny_items_nil ⟨show 1 ≤ sizeLine by decide, ?_⟩)))
      have lsl := Nat.le_of_lt B.lt
      replace B := B.push { cls := .type "list", data := .seq #[.str key t] } (t₀ + 1)
      have qsl := Heap.get?_push_size h₁ (show ({ cls := .type "list", data := .seq #[.str key t] } : Obj).isFreed = false from rfl)
      replace ht := Heap.get?_push_of_some { cls := .type "list", data := .seq #[.str key t] } ht
      dsimp only at *
      generalize h₁.objs.size = sl at *
      generalize h₁.push { cls := .type "list", data := .seq #[.str key t] } = h₂ at *
      refine b_store B fun h₃ B K S => ?_
      exact rec_tail hn B ((if_neg (by decide)).trans ((if_neg (by decide)).trans h1)) ((if_neg (by decide)).trans ((if_neg (by decide)).trans h2)) ((if_neg (by decide)).trans ((if_neg (by decide)).trans h3)) ((if_neg (by decide)).trans (if_pos rfl)) (if_pos rfl) (K.k _ _ ht rfl) hx (K.k _ _ qsl rfl : IsL h₃ sl [Value.str key t].toArray 0) (.cons ⟨t, rfl⟩ .nil) hxz
  cases hnm with
  | str k' t hk => exact wpAny_execs_cons (wpAny_Assign_Name (Call_ (r_builtin B.wd (n_str3 w) (n_str0 w) (callWith_type1 (wpAny_items_cons (r_local B.fm h0 (wpAny_items_nil (PySem.P.str_of_str (go _ _ B ht)))))))))
  | seven t => exact wpAny_execs_cons (wpAny_Assign_Name (Call_ (r_builtin B.wd (n_str3 w) (n_str0 w) (callWith_type1 (wpAny_items_cons (r_local B.fm h0 (wpAny_items_nil (PySem.P.str_of_int (by decide +kernel) (go _ _ (B.tok _) ht)))))))))
/-- from the name on -/
theorem rec_mid {e : Shared} {L : Addr} {m : Str → Option Value} {k tl : Nat} {tk : Tok} {vt : List Value} {xs : List Str} {nv : Value} {nm : Option Str} {wh md : Bool} {c1 : Nat} (hn : A.units + 64 < cLine) (B : Bd w e.heap.objs.size e L m s) (h0 : m "name" = some nv) (h1 : m "kind" = some (.int k tk)) (h2 : m "whole" = some (.bool wh)) (h3 : m "tokens" = some (.ref tl)) (h4 : m "modal" = some (.bool md))
    (hnm : NmV nv nm) (ht : IsL s.heap tl vt.toArray c1) (hx : All2 StrV vt xs) (hxz : xs.length ≤ 3) :
    wpAny (model prog w) A (execs ((bodyOf fd_record).drop 3) (envR L)) (fun f s' => RecQ e xs nm wh md (k == 5) (match f with | .ret v => v | _ => .none) s') (fun _ _ => False) s := by
  obtain ⟨h₁, g₁, d₁, t₁, os₁⟩ := s
  have bare : ∀ t, wpAny (model prog w) A (execs (ifBody2 (bodyOf fd_record) 3) (envR L)) (fun f s' => match f with | .ret v => RecQ e xs none wh md (k == 5) v s' | _ => False) (fun _ _ => False) ⟨h₁, g₁, d₁, t, os₁⟩ := by
    intro t
    replace B := B.tok t
    refine wpAny_execs_cons (wpAny_Return_some (wpAny_List (wpAny_items_cons (r_local B.fm h3 (wpAny_items_cons (wpAny_List (wpAny_items_nil ⟨by decide, ?_⟩)))))))
    have lel := Nat.le_of_lt B.lt
    replace B := B.push { cls := .type "list", data := .seq #[] } (t)
    have qel := Heap.get?_push_size h₁ (show ({ cls := .type "list", data := .seq #[] } : Obj).isFreed = false from rfl)
    replace ht := Heap.get?_push_of_some { cls := .type "list", data := .seq #[] } ht
    dsimp only at *
    generalize h₁.objs.size = el at *
    generalize h₁.push { cls := .type "list", data := .seq #[] } = h₂ at *
    refine wpAny_items_cons (wpAny_List (wpAny_items_nil ⟨by decide, ?_⟩))
    have lsl := Nat.le_of_lt B.lt
    replace B := B.push { cls := .type "list", data := .seq #[] } (t)
    have qsl := Heap.get?_push_size h₂ (show ({ cls := .type "list", data := .seq #[] } : Obj).isFreed = false from rfl)
    replace ht := Heap.get?_push_of_some { cls := .type "list", data := .seq #[] } ht
    replace qel := Heap.get?_push_of_some { cls := .type "list", data := .seq #[] } qel
    dsimp only at *
    generalize h₂.objs.size = sl at *
    generalize h₂.push { cls := .type "list", data := .seq #[] } = h₃ at *
    refine wpAny_items_nil ⟨show 3 ≤ sizeLine by decide, ?_⟩
    have lrl := Nat.le_of_lt B.lt
    replace B := B.push { cls := .type "list", data := .seq #[.ref tl, .ref el, .ref sl] } (t)
    have qrl := Heap.get?_push_size h₃ (show ({ cls := .type "list", data := .seq #[.ref tl, .ref el, .ref sl] } : Obj).isFreed = false from rfl)
    replace ht := Heap.get?_push_of_some { cls := .type "list", data := .seq #[.ref tl, .ref el, .ref sl] } ht
    replace qel := Heap.get?_push_of_some { cls := .type "list", data := .seq #[.ref tl, .ref el, .ref sl] } qel
    replace qsl := Heap.get?_push_of_some { cls := .type "list", data := .seq #[.ref tl, .ref el, .ref sl] } qsl
    dsimp only at *
    generalize h₃.objs.size = rl at *
    generalize h₃.push { cls := .type "list", data := .seq #[.ref tl, .ref el, .ref sl] } = h₄ at *
    exact ⟨B.out.ev (Nat.le_refl _), Nat.le_of_lt B.lt, rl, tl, el, sl, vt, [], [], _, _, _, _, rfl, qrl, ht, hx, qel, .nil, qsl, .nil⟩
  refine wpAny_execs_cons (wpAny_If (isTrue_or (wpAny_isTrue_Compare1 (r_local B.fm h0 (wpAny_Constant_none ?_)))))
  cases hnm with
  | none =>
    refine is_none_none (wpAny_truthy_bool ?_)
    refine wpAny_mono (bare _) (fun f s' z => ?_) fun _ _ z => z
    cases f <;> first | exact z.elim | exact z
  | empty t =>
    refine is_str_none (wpAny_truthy_bool (isTrue_or (wpAny_isTrue_Compare1 (r_local B.fm h0 (wpAny_Constant_str ?_)))))
    refine PyProof.Rows.eq_str (wpAny_truthy_bool ?_)
    refine wpAny_mono (bare _) (fun f s' z => ?_) fun _ _ z => z
    cases f <;> first | exact z.elim | exact z
  | some v key hk =>
    cases hk with
    | str k' t hne =>
      refine is_str_none (wpAny_truthy_bool (isTrue_or (wpAny_isTrue_Compare1 (r_local B.fm h0 (wpAny_Constant_str (PyProof.Rows.eq_str (wpAny_truthy_bool ?_)))))))
      rw [beq_eq_false_iff_ne.mpr hne]
      refine isTrue_or_nil (wpAny_execs_nil (env := envR L) ?_)
      exact rec_key hn (bd_ref B _) h0 h1 h2 h3 h4 (.str _ t hne) ht hx hxz
    | seven t =>
      refine is_int_none (wpAny_truthy_bool (isTrue_or (wpAny_isTrue_Compare1 (r_local B.fm h0 (wpAny_Constant_str (PySem.EqMixed.eq_int_str (wpAny_truthy_bool ?_)))))))
      refine isTrue_or_nil (wpAny_execs_nil (env := envR L) ?_)
      exact rec_key hn (bd_ref B _) h0 h1 h2 h3 h4 (.seven t) ht hx hxz
/-- _law_record(asked) -/
theorem c_record {n : Nat} {k tp : Nat} {tk : Tok} {nv : Value} {nm : Option Str} {wh md : Bool} (R : Rm (n + 2) A) (X : Wd w s.heap) (hk : k < 6) (ht : s.heap.IsTuple tp #[.int k tk, nv, .bool wh, .bool md]) (hnm : NmV nv nm) :
    Ret prog w A (.ref 275) ⟨[.ref tp], []⟩ s (fun v s' => RecQ s (toksOf k) nm wh md (k == 5) v s') := by
  refine b_enter X X.big (Nat.le_refl _) (binds := [("asked", .ref tp)]) (body := bodyOf fd_record) R.room (fo_record X) rfl (code_of X (by kernel_rfl)) rfl (.of_eq rfl) (by decide) (locs rfl) fun L s₁ B hL ev => ?_
  have hu : (A.deeper (callEnv fd_record L 275)).units + 64 < cLine := (R.deep _).eqs
  obtain ⟨h₁, g₁, d₁, t₁, os₁⟩ := s₁
  have ht1 : h₁.IsTuple tp #[.int k tk, nv, .bool wh, .bool md] := isTup_kp ht ev.kp
  refine wpAny_execs_cons (Assign_Tuple (r_local B.fm rfl (b_four (n_hA R _) B ht1 rfl rfl rfl rfl rfl fun h₂ B K => ?_)))
  obtain ⟨vs, c, hv, hl, hvk, H⟩ := hand_at B.wd hk
  refine wpAny_execs_cons (wpAny_Assign_Name (Subscript_ (r_global B.wd (n_hand w) (r_local B.fm rfl (v_idx (IsL.isList hl) (Int.natCast_nonneg _) (by omega) (by simpa using hvk) ?_)))))
  refine b_store B fun h₃ B K3 S => ?_
  have H3 : Hand h₃ k hv := by
    cases H with
    | none => exact .none
    | str t => exact .str t
    | list k a vs c e1 e2 l x => exact .list k a vs c e1 e2 (K3.k _ _ l rfl) x
  have hxz := toks_len k
  clear K K3 S H hl
  refine wpAny_execs_cons (wpAny_Assign_Name (wpAny_IfExp (wpAny_isTrue_Compare1 (r_local B.fm (if_pos rfl) (wpAny_Constant_none ?_)))))
  cases H3 with
  | none =>
    refine is_none_none (wpAny_truthy_bool ?_)
    refine wpAny_List (wpAny_items_nil ⟨by decide, ?_⟩)
    have ltl := Nat.le_of_lt B.lt
    replace B := B.push { cls := .type "list", data := .seq #[] } (t₁ + 1 + 1 + 1 + 1 + 1)
    have qtl := Heap.get?_push_size h₃ (show ({ cls := .type "list", data := .seq #[] } : Obj).isFreed = false from rfl)
    dsimp only at *
    generalize h₃.objs.size = tl at *
    generalize h₃.push { cls := .type "list", data := .seq #[] } = h₄ at *
    refine b_store B fun h₅ B K S => ?_
    exact rec_mid hu B rfl rfl rfl rfl rfl hnm (K.k _ _ qtl rfl : IsL h₅ tl ([] : List Value).toArray 0) .nil hxz
  | str t =>
    refine is_str_none (wpAny_truthy_bool ?_)
    refine wpAny_IfExp (wpAny_isTrue_Compare1 (r_local B.fm (if_pos rfl) (wpAny_Constant_str (PyProof.Rows.eq_str (wpAny_truthy_bool ?_)))))
    replace B := bd_ref B (t₁ + 1 + 1 + 1 + 1 + 1 + 1)
    refine wpAny_List (wpAny_items_cons (r_local B.fm (if_pos rfl) (wpAny_items_nil ⟨show 1 ≤ sizeLine by decide, ?_⟩)))
    have ltl := Nat.le_of_lt B.lt
    replace B := B.push { cls := .type "list", data := .seq #[.str "a" t] } (t₁ + 1 + 1 + 1 + 1 + 1 + 1)
    have qtl := Heap.get?_push_size h₃ (show ({ cls := .type "list", data := .seq #[.str "a" t] } : Obj).isFreed = false from rfl)
    dsimp only at *
    generalize h₃.objs.size = tl at *
    generalize h₃.push { cls := .type "list", data := .seq #[.str "a" t] } = h₄ at *
    refine b_store B fun h₅ B K S => ?_
    exact rec_mid hu B rfl rfl rfl rfl rfl hnm (K.k _ _ qtl rfl : IsL h₅ tl [Value.str "a" t].toArray 0) (.cons ⟨t, rfl⟩ .nil) hxz
  | list k a vs' c' e1 e2 l x =>
    refine is_ref_none (wpAny_truthy_bool ?_)
    refine wpAny_IfExp (wpAny_isTrue_Compare1 (r_local B.fm (if_pos rfl) (wpAny_Constant_str ?_)))
    obtain ⟨as, ra⟩ := rd_list (IsL.isList l) (rd_strs x)
    refine SeqAt.compareEq_shaped ra (Reads.str _ _) (sh_strs (toks_ok k)) (by rw [SeqAt.shaped, PyData.canLay0, PyData.depth]; decide +kernel) hu (wpAny_truthy_bool ?_)
    refine Call_ (r_builtin (bd_ref B (t₁ + 1 + 1 + 1 + 1 + 1 + 1)).wd (n_list3 w) (n_list0 w) (callWith_type1 (wpAny_items_cons (r_local (bd_ref B (t₁ + 1 + 1 + 1 + 1 + 1 + 1)).fm (if_pos rfl) (wpAny_items_nil ?_)))))
    have hxl := x.length
    refine call_list_seq a (.inl rfl) l rfl rfl (fun h₄ c4 kk qtl => ?_) (by rw [List.size_toArray, sizeLine_eq]; omega)
    replace B := (bd_ref B (t₁ + 1 + 1 + 1 + 1 + 1 + 1)).keep (t := t₁ + 1 + 1 + 1 + 1 + 1 + 1) kk
    refine b_store B fun h₅ B K S => ?_
    exact rec_mid hu B rfl rfl rfl rfl rfl hnm (K.k _ _ qtl rfl) x hxz
end
end Mine
end

-- XQ
section
open PySem PySem.W PySem.Calls PyProof.Rows
set_option maxHeartbeats 4000000
namespace Mine
theorem il_none (w : World) : kitOne (KV w) (.type "NoneType") (.type "list") = some false := by kernel_rfl
theorem ItA.le {prog : Program} {w : World} {N M : Nat} {h : Heap} {v : Value} {I : Itm} (x : ItA prog w N h v I) (hm : M ≤ N) : ItA prog w M h v I := by
  cases I with
  | s x => exact x
  | sub xs => obtain ⟨a, vs, S, r, l, p, q⟩ := x; exact ⟨a, vs, S, r, Nat.le_trans hm l, p, q⟩
theorem UnA.le {prog : Program} {w : World} {N M : Nat} {h : Heap} {v : Value} {Is : List Itm} (x : UnA prog w N h v Is) (hm : M ≤ N) : UnA prog w M h v Is := by
  obtain ⟨l, os, e, a, z, b⟩ := x
  exact ⟨l, os, e, a, z, b.mono fun o I ⟨x, p, q⟩ => ⟨x, p, q.le hm⟩⟩
theorem PRt.le {prog : Program} {w : World} {N M : Nat} {h : Heap} {a : Addr} {Is : List Itm} {D : List (Str × List Itm)} {S : Str → Bool} (x : PRt prog w N h a Is D S) (hm : M ≤ N) : PRt prog w M h a Is D S := by
  obtain ⟨vs, kvs, p, q, r⟩ := x
  exact ⟨vs, kvs, p, q.mono fun _ _ z => z.le hm, All2.mono (fun _ _ ⟨e, n, u⟩ => ⟨e, n, u.le hm⟩) r⟩
section
variable {prog : Program} {w : World} {A : Around} {E : Value → Shared → Prop} {s : Shared} {env : Env}
abbrev envM (L : Addr) : Env := callEnv fd_made L 282
abbrev MadeQ (prog : Program) (w : World) (e : Shared) (k : Nat) (nm : Option Str) (wh md : Bool) (v : Value) (s' : Shared) : Prop :=
  Ev e s' ∧ ∃ a : Nat, v = .ref a ∧ e.heap.objs.size ≤ a ∧ PRt prog w e.heap.objs.size s'.heap a ((toksOf k).map .s) (namesOf nm (toksOf k) wh (k == 5)) (starsOf nm md) ∧ SmP prog w s'.heap a
/-- the two flags, as keywords -/
theorem kw_two {n : Nat} {e : Shared} {L : Addr} {m : Str → Option Value} {wh md : Bool} {p1 p2 pos : Pos} {Q : List Value → Shared → Prop} (B : Bd w n e L m s) (h2 : m "whole" = some (.bool wh)) (h3 : m "modal" = some (.bool md)) (h : Q [.bool wh, .bool md] s) :
    wpAny (model prog w) A (evalAll [do let v ← eval (.Name "whole" p1) (envM L); standAt pos; pure v, do let v ← eval (.Name "modal" p2) (envM L); standAt pos; pure v]) Q E s :=
  wpAny_evalAll_cons (wpAny_bind (r_local B.fm h2 (wpAny_bind (wpAny_standAt (wpAny_pure (wpAny_evalAll_cons (wpAny_bind (r_local B.fm h3 (wpAny_bind (wpAny_standAt (wpAny_pure (wpAny_evalAll_nil h))))))))))))
/-- _law_made(asked) -/
theorem c_law_made {n : Nat} {k tp : Nat} {tk : Tok} {nv : Value} {nm : Option Str} {wh md : Bool} (R : Rm (n + 8) A) (X : Wd w s.heap) (hk : k < 6) (ht : s.heap.IsTuple tp #[.int k tk, nv, .bool wh, .bool md]) (hnm : NmV nv nm) :
    Ret prog w A (.ref 282) ⟨[.ref tp], []⟩ s (fun v s' => MadeQ prog w s k nm wh md v s') := by
  refine b_enter X X.big (Nat.le_refl _) (binds := [("asked", .ref tp)]) (body := bodyOf fd_made) R.room (fo_made X) rfl (code_of X (by kernel_rfl)) rfl (.of_eq rfl) (by decide) (locs rfl) fun L s₁ B hL ev => ?_
  obtain ⟨h₁, g₁, d₁, t₁, os₁⟩ := s₁
  have ht1 : h₁.IsTuple tp #[.int k tk, nv, .bool wh, .bool md] := isTup_kp ht ev.kp
  refine wpAny_execs_cons (Assign_Tuple (r_local B.fm rfl (b_four (n_hA R _) B ht1 rfl rfl rfl rfl rfl fun h₂ B K => ?_)))
  obtain ⟨vs, c, hv, hl, hvk, H⟩ := hand_at B.wd hk
  refine wpAny_execs_cons (wpAny_Assign_Name (Subscript_ (r_global B.wd (n_hand w) (r_local B.fm rfl (v_idx (IsL.isList hl) (Int.natCast_nonneg _) (by omega) (by simpa using hvk) ?_)))))
  refine b_store B fun h₃ B K3 S => ?_
  have H3 : Hand h₃ k hv := by
    cases H with
    | none => exact .none
    | str t => exact .str t
    | list k a vs c e1 e2 l x => exact .list k a vs c e1 e2 (K3.k _ _ l rfl) x
  have hxz := toks_len k
  clear K K3 S H hl hvk ht1 ev
  have hk5 : ((k : Int) == 5) = (k == 5) := by
    cases q : k == 5 with
    | true => rw [beq_iff_eq] at q; subst q; rfl
    | false => rw [beq_eq_false_iff_ne] at q ⊢; omega
  refine wpAny_execs_cons (wpAny_If (wpAny_isTrue_Compare1 (r_local B.fm rfl (wpAny_Constant_int (PyProof.Rows.eq_int (wpAny_truthy_bool ?_))))))
  rw [hk5]
  cases q : k == 5 with
  | true =>
    rw [if_pos rfl]
    have hk' : k = 5 := beq_iff_eq.mp q
    subst hk'
    cases H3 with
    | list _ a vs' c' e1 e2 l x =>
    replace B := bd_ref B (t₁ + 1 + 1 + 1 + 1 + 1 + 1)
    have hxl := x.length
    refine wpAny_execs_cons (wpAny_Assign_Name (Call_ (r_global B.wd (n_PR w) (callWith_K (h₀ := h₃) B.wd (k_PR w) (wpAny_items_cons ?_)))))
    refine Call_ (r_builtin B.wd (n_list3 w) (n_list0 w) (callWith_type1 (wpAny_items_cons (r_local B.fm rfl (wpAny_items_nil ?_)))))
    refine call_list_seq a (.inl rfl) l rfl rfl (fun h₄ c4 kk qtl => ?_) (by rw [List.size_toArray, sizeLine_eq]; omega)
    replace B := B.keep (t := t₁ + 1 + 1 + 1 + 1 + 1 + 1) kk
    refine wpAny_items_nil ⟨B.wd, ?_⟩
    refine (c_plain ((R.deep _).less (k := n + 2) (by omega)) B.wd (.inr (.inr ⟨_, _, c4, rfl, qtl, rfl, rfl, by omega⟩))).call fun v s₂ z => ?_
    obtain ⟨ev2, z⟩ := z
    have z : NewPR prog w h₄.objs.size s₂.heap v vs' := z
    have hs4 : s.heap.objs.size ≤ h₄.objs.size := Nat.le_of_lt B.lt
    have hL4 : L < h₄.objs.size := by obtain ⟨o, q, _⟩ := B.fm.cls; exact Heap.lt_size q
    have h24 : h₄.objs.size ≤ s₂.heap.objs.size := by obtain ⟨a, _, _, _, _, _, _, l1, _, _, _, _, _, ha, _⟩ := z; exact Nat.le_of_lt (Nat.lt_of_le_of_lt l1 (Heap.lt_size ha))
    replace B := B.ev ev2
    refine b_store B fun h₅ B K S => ?_
    have h54 : h₄.objs.size ≤ h₅.objs.size := by rw [S.1]; exact h24
    replace z := z.ka K
    clear K S
    obtain ⟨b', dxb, tlb, tdb, anb, rfl, Pb⟩ := NewPR.prr z
    refine wpAny_execs_cons (wpAny_Assign_Name (wpAny_Call_ofName (r_global B.wd (n_PR w) (callWith_KW (h₀ := h₅) B.wd (k_PR w) rfl ?_))))
    refine wpAny_items_cons (r_local B.fm rfl (wpAny_items_cons (r_local B.fm rfl (wpAny_items_nil ?_))))
    refine kw_two B rfl rfl ⟨B.wd, ?_⟩
    refine (c_made_self ⟨rfl, rfl⟩ ((R.deep _).less (k := n + 7) (by omega)) B.wd (N := h₄.objs.size) (Nat.le_trans X.big hs4) h54 Pb x (by intro q; subst q; cases x) (by omega) hnm).call fun v s₆ z => ?_
    obtain ⟨rfl, ef, P, M⟩ := z
    replace B := B.fl ef hs4 hL4
    refine b_store B fun h₇ B K S => ?_
    refine wpAny_execs_cons (wpAny_Return_some (wpAny_IfExp (wpAny_isTrue_Compare1 (r_local B.fm rfl (r_local B.fm rfl (wpAny_is_ref_self (wpAny_truthy_bool (r_local B.fm rfl ?_))))))))
    exact ⟨B.out.ev (Nat.le_refl _), b', rfl, Nat.le_trans hs4 Pb.na, (P.le hs4).kp K, M.kp K⟩
  | false =>
    rw [if_neg (by decide)]
    refine wpAny_execs_nil (env := envM L) ?_
    replace B := bd_ref B (t₁ + 1 + 1 + 1 + 1 + 1 + 1)
    refine wpAny_execs_cons (wpAny_Return_some (wpAny_Call_ofName (r_global B.wd (n_PR w) (callWith_KW (h₀ := h₃) B.wd (k_PR w) rfl ?_))))
    refine wpAny_items_cons (wpAny_IfExp (isTrue_plain (Call_ (r_builtin B.wd (n_isi3 w) (n_isi0 w) (PyProof.Rows.callWith_builtin1 (wpAny_items_cons (r_local B.fm rfl (wpAny_items_cons (r_builtin B.wd (n_list3 w) (n_list0 w) (wpAny_items_nil ?_))))))))))
    have go : ∀ (s₄ : Shared) (v : Value) (vs' : List Value), Bd w s.heap.objs.size s L (fun z => if z = "handed" then some hv else if z = "modal" then some (Value.bool md) else if z = "whole" then some (Value.bool wh) else if z = "name" then some nv else if z = "kind" then some (Value.int k tk) else List.lookup z [(("asked" : Str), Value.ref tp)].reverse) s₄ → NewV s₄.heap v vs' → All2 StrV vs' (toksOf k) →
        wpAny (model prog w) (A.deeper (envM L)) (PySem.call (.ref 240) ([] ++ [v, nv]) [("aslist", .bool wh), ("modal", .bool md)]) (fun v s' => MadeQ prog w s k nm wh md v s') (fun _ _ => False) s₄ := by
      intro s₄ v vs' B V x
      refine (c_made ((R.deep _).less (k := n + 7) (by omega)) B.wd V x hnm).call fun v s₆ z => ?_
      obtain ⟨ev, a, rfl, ha, P, M⟩ := z
      have lt := Nat.le_of_lt B.lt
      replace B := B.ev ev
      refine ⟨B.out.ev (Nat.le_refl _), a, rfl, Nat.le_trans lt ha, ?_, M⟩
      rw [q]
      exact P.le lt
    cases H3 with
    | none =>
      refine kia_one kitx_none B.wd trivial (il_none w) (by decide) fun t₂ => wpAny_truthy_bool ?_
      replace B := bd_ref B t₂
      refine r_local B.fm rfl (wpAny_items_cons (r_local B.fm rfl (wpAny_items_nil (kw_two B rfl rfl ⟨B.wd, ?_⟩))))
      exact go _ _ _ B .none .nil
    | str t =>
      refine kia_one kitx_str B.wd trivial (il_str w) nofun fun t₂ => wpAny_truthy_bool ?_
      replace B := bd_ref B t₂
      refine r_local B.fm rfl (wpAny_items_cons (r_local B.fm rfl (wpAny_items_nil (kw_two B rfl rfl ⟨B.wd, ?_⟩))))
      exact go _ _ _ B (.str _ t) (.cons ⟨t, rfl⟩ .nil)
    | list _ a vs' c' e1 e2 l x =>
      refine kia_one kitx_list B.wd ⟨_, l, rfl⟩ (il_list w) nofun fun t₂ => wpAny_truthy_bool ?_
      replace B := bd_ref B t₂
      have hxl := x.length
      refine Call_ (r_builtin B.wd (n_list3 w) (n_list0 w) (callWith_type1 (wpAny_items_cons (r_local B.fm rfl (wpAny_items_nil ?_)))))
      refine call_list_seq a (.inl rfl) l rfl rfl (fun h₄ c4 kk qtl => ?_) (by rw [List.size_toArray, sizeLine_eq]; omega)
      replace B := B.keep (t := t₂) kk
      refine wpAny_items_cons (r_local B.fm rfl (wpAny_items_nil (kw_two B rfl rfl ⟨B.wd, ?_⟩)))
      exact go _ _ _ B (.list _ _ _ c4 qtl rfl rfl (by omega)) x
end
end Mine
end

-- XR
section
open PySem PySem.W PySem.Calls PyProof.Rows
set_option maxHeartbeats 4000000
namespace Mine
/-- all but the iterators of lists and ranges is kept -/
def Tick (h h' : Heap) : Prop := ∀ b o, h.get? b = some o → o.cls ≠ .type "list_iterator" → o.cls ≠ .type "range_iterator" → h'.get? b = some o
theorem Tick.of {h h' : Heap} (k : ∀ b o, h.get? b = some o → h'.get? b = some o) : Tick h h' := fun b o e _ _ => k b o e
theorem Tick.ext {h h' : Heap} {it : Addr} {o : Obj} {T : String} (q : h.get? it = some o) (c : o.cls = .type T) (hT : T = "list_iterator" ∨ T = "range_iterator") (S : Heap.ExtBut it h h') : Tick h h' := fun b o' e n1 n2 => S b o' (fun z => by
  subst z
  rw [q] at e; cases e
  rcases hT with rfl | rfl
  · exact n1 c
  · exact n2 c) e
theorem Tick.kp {h h' : Heap} (x : Tick h h') : Kp h h' := by
  refine ⟨fun b o e p => x b o e (fun c => ?_) (fun c => ?_), fun b o e p => .inl (x b o e (fun c => ?_) (fun c => ?_))⟩
  · unfold pl at p; rw [c] at p; exact absurd (show (!turning.contains "list_iterator") = true from p) (by decide)
  · unfold pl at p; rw [c] at p; exact absurd (show (!turning.contains "range_iterator") = true from p) (by decide)
  · rw [tab_cls p] at c; cases c
  · rw [tab_cls p] at c; cases c
theorem Tick.cell {h h' : Heap} {c : Addr} {v : Option Value} (x : Tick h h') (y : CellAt h c v) : CellAt h' c v :=
  y.at_ fun o q c' => x c o q (by rw [c']; simp) (by rw [c']; simp)
theorem range_small {N : Nat} (h : N ≤ 1000) : Builtin.Range.small 0 N 1 = true := by
  have f : ∀ i : Int, -1000 ≤ i → i ≤ 2000 → Builtin.Range.rangeFitsLong i = true := fun i a b => by
    unfold Builtin.Range.rangeFitsLong
    rw [Bool.and_eq_true, decide_eq_true_eq, decide_eq_true_eq]
    constructor <;> omega
  unfold Builtin.Range.small
  rw [rangeSize_nat, f 0 (by omega) (by omega), f N (by omega) (by omega), f 1 (by omega) (by omega), f (((N : Int) - 0).toNat : Int) (by omega) (by omega), if_pos (by decide), f _ (by omega) (by omega), Bool.or_true]
  rfl
section
variable {prog : Program} {w : World} {A : Around} {E : Value → Shared → Prop} {s : Shared} {env : Env}
/-- a for loop in a body -/
theorem b_loop {target iter : Expr} {body : List Stmt} {pos : Pos} {n : Nat} {e : Shared} {Q : Flow → Shared → Prop} {D : List Addr} {φ : Nat → (Str → Option Value) → Heap → Prop} (hφ : ∀ j m h h', φ j m h → Tick h h' → φ j m h')
    (h : wpAny (model prog w) A (eval iter env) (fun xv s₁ => wpAny (model prog w) A (pyIter xv) (fun itv s₂ => ∃ (it : Addr) (deps : List Addr) (N : Nat) (It : Nat → Heap → Prop) (P : Nat → Value → Prop) (m : Str → Option Value) (T : String), itv = .ref it ∧ Iter prog w A it deps N It P ∧ It 0 s₂.heap ∧ n ≤ it ∧
      (T = "list_iterator" ∨ T = "range_iterator") ∧ (∀ j h, It j h → (∃ o, h.get? it = some o ∧ o.cls = .type T) ∧ ∀ b ∈ deps, b ∉ D ∧ ∀ o, h.get? b = some o → tabO o = false) ∧
      (∀ j v (s' : Shared) (E' : Value → Shared → Prop) (Q' : Unit → Shared → Prop), It (j + 1) s'.heap → P j v → Q' () s' → wpAny (model prog w) A (letOwnedTupleGo target (.ref it) v) Q' E' s') ∧
      Bd w n e env.locals m s₂ ∧ φ 0 m s₂.heap ∧
      (∀ j v m' (s' : Shared), j < N → P j v → Bd w n e env.locals m' s' → φ j m' s'.heap →
        wpAny (model prog w) A (assign target env v) (fun _ s₃ => wpAny (model prog w) A (execs body env) (fun f s₄ => match f with
          | .next | .cont => (∃ m'', Bd w n e env.locals m'' s₄ ∧ φ (j + 1) m'' s₄.heap) ∧ Kx D s'.heap s₄.heap
          | .brk => False
          | .ret r => Q (.ret r) s₄) (fun _ _ => False) s₃) (fun _ _ => False) s') ∧
      (∀ m' (s' : Shared), Bd w n e env.locals m' s' → φ N m' s'.heap → Q .next s')) E s₁) E s)
    (hs : ∀ x, foldedSetIterable iter env x = pure x := by intro _; rfl) :
    wpAny (model prog w) A (exec (.For target iter body [] pos) env) Q E s := by
  refine v_For (wpAny_mono h (fun xv s₁ z => wpAny_mono z (fun itv s₂ z => ?_) fun _ _ z => z) fun _ _ z => z) hs
  obtain ⟨it, deps, N, It, P, m, T, rfl, I, i0, hn, hT, hit, hlet, B, p0, turn, fin⟩ := z
  have hfr : (.type T : Value) ≠ .type "frame" := by rcases hT with rfl | rfl <;> simp
  refine ⟨it, deps, N, It, P, fun j s' => (∃ m', Bd w n e env.locals m' s' ∧ φ j m' s'.heap) ∧ ∃ o, s'.heap.get? it = some o ∧ o.cls = .type T, rfl, I, i0, ⟨⟨m, B, p0⟩, (hit 0 _ i0).1⟩, ?_, ?_⟩
  · rintro j v s₀ h' t hj hp ⟨⟨m', B', p'⟩, o, qo, co⟩ S hi'
    refine hlet j v _ _ _ hi' hp ?_
    have tk : Tick s₀.heap h' := .ext qo co hT S.extBut
    have B'' := B'.at_ (t := t) S hn (B'.ne qo (by rw [co]; exact hfr)) ⟨o, qo, nc_cls (by rw [co]; rcases hT with rfl | rfl <;> simp)⟩
    refine wpAny_mono (turn j v m' _ hj hp B'' (hφ _ _ _ _ p' tk)) (fun _ s₃ z => wpAny_mono z (fun f s₄ z => ?_) fun _ _ z => z) fun _ _ z => z
    have kp : ∀ {s₄ : Shared}, Kx D h' s₄.heap → ∀ b ∈ deps, ∀ o, h'.get? b = some o → s₄.heap.get? b = some o := fun k b mb o q => k b o ((hit _ _ hi').2 b mb).1 q (((hit _ _ hi').2 b mb).2 o q)
    cases f with
    | next => exact ⟨⟨z.1, I.keep _ _ _ hi' (kp z.2) |> hit _ _ |>.1⟩, kp z.2⟩
    | cont => exact ⟨⟨z.1, I.keep _ _ _ hi' (kp z.2) |> hit _ _ |>.1⟩, kp z.2⟩
    | brk => exact z
    | ret r => exact z
  · rintro s₀ h' ⟨⟨m', B', p'⟩, o, qo, co⟩ hi S
    have tk : Tick s₀.heap h' := .ext qo co hT S
    exact fin m' _ (B'.ext (t := s₀.toks) S hn qo (by rw [co]; exact hfr) (nc_cls (by rw [co]; rcases hT with rfl | rfl <;> simp))) (hφ _ _ _ _ p' tk)
/-- for x in l -/
theorem b_For {target iter : Expr} {body : List Stmt} {pos : Pos} {n : Nat} {e : Shared} {Q : Flow → Shared → Prop} {D : List Addr} {φ : Nat → (Str → Option Value) → Heap → Prop} (hh : A.handled = none) (hφ : ∀ j m h h', φ j m h → Tick h h' → φ j m h')
    (ht : (∃ x p, target = .Name x p) ∨ ∃ es k p, target = .Tuple es k p)
    (h : wpAny (model prog w) A (eval iter env) (fun xv s₁ => ∃ (l : Addr) (its : List Value) (m : Str → Option Value), xv = .ref l ∧ s₁.heap.IsList l its.toArray ∧ ((∃ es k p, target = .Tuple es k p) → ∀ v ∈ its, ∃ a, v = .ref a) ∧ l ∉ D ∧ (∀ d ∈ D, d < s₁.heap.objs.size) ∧ Bd w n e env.locals m s₁ ∧ φ 0 m s₁.heap ∧
      (∀ j v m' (s' : Shared), its[j]? = some v → Bd w n e env.locals m' s' → φ j m' s'.heap →
        wpAny (model prog w) A (assign target env v) (fun _ s₃ => wpAny (model prog w) A (execs body env) (fun f s₄ => match f with
          | .next | .cont => (∃ m'', Bd w n e env.locals m'' s₄ ∧ φ (j + 1) m'' s₄.heap) ∧ Kx D s'.heap s₄.heap
          | .brk => False
          | .ret r => Q (.ret r) s₄) (fun _ _ => False) s₃) (fun _ _ => False) s') ∧
      (∀ m' (s' : Shared), Bd w n e env.locals m' s' → φ its.length m' s'.heap → Q .next s')) E s)
    (hs : ∀ x, foldedSetIterable iter env x = pure x := by intro _; rfl) :
    wpAny (model prog w) A (exec (.For target iter body [] pos) env) Q E s := by
  refine b_loop (D := D) (n := n) (e := e) hφ (wpAny_mono h (fun xv s₁ z => ?_) fun _ _ z => z) hs
  obtain ⟨l, its, m, rfl, hl, hr, hlD, hD, B, p0, turn, fin⟩ := z
  refine wpAny_pyIter_list hl ?_
  have hlt : l < s₁.heap.objs.size := by obtain ⟨o, q, _⟩ := hl; exact Heap.lt_size q
  have hne : l ≠ s₁.heap.objs.size := Nat.ne_of_lt hlt
  have k : ∀ b o, s₁.heap.get? b = some o → (s₁.heap.push { cls := .type "list_iterator", data := .fields #[.ref l, .int 0 0] }).get? b = some o := fun b o e => Heap.get?_push_of_some _ e
  have q := Heap.get?_push_size s₁.heap (show ({ cls := .type "list_iterator", data := .fields #[.ref l, .int 0 0] } : Obj).isFreed = false from rfl)
  have hn : n ≤ s₁.heap.objs.size := Nat.le_of_lt B.lt
  refine ⟨s₁.heap.objs.size, [s₁.heap.objs.size, l], its.length, _, _, m, "list_iterator", rfl, iter_list hh hne, ⟨⟨_, q, rfl, rfl⟩, isList_kp hl (.of k)⟩, hn, .inl rfl, ?_, ?_, B.keep (t := s₁.toks) k, ?_, ?_, fin⟩
  · rintro j h ⟨⟨o, q, c, r⟩, o', q', c', r'⟩
    refine ⟨⟨o, q, c⟩, fun b mb => ?_⟩
    rcases List.mem_cons.mp mb with rfl | mb
    · exact ⟨fun md => Nat.lt_irrefl _ (hD _ md), fun o'' e => by rw [q] at e; cases e; unfold tabO; rw [c]⟩
    · rcases List.mem_singleton.mp mb with rfl
      exact ⟨hlD, fun o'' e => by rw [q'] at e; cases e; unfold tabO; rw [c']⟩
  · rintro j v s' E' Q' ⟨hi, _⟩ hv hq
    rcases ht with ⟨x, p, rfl⟩ | ht
    · exact wpAny_of_eq (rfl : letOwnedTupleGo (.Name x p) _ v = pure ()) hq
    · obtain ⟨a, rfl⟩ := hr ht v (List.mem_of_getElem? hv)
      obtain ⟨es, k, p, rfl⟩ := ht
      exact wpAny_letOwnedTupleGo_listiter hi hq
  · exact hφ _ _ _ _ p0 (.of k)
  · exact fun j v m' s' hj hv B' p' => turn j v m' s' hv B' p'
/-- for x in range(N) -/
theorem b_ForR {x : Str} {px : Pos} {iter : Expr} {body : List Stmt} {pos : Pos} {n : Nat} {e : Shared} {Q : Flow → Shared → Prop} {D : List Addr} {φ : Nat → (Str → Option Value) → Heap → Prop} (hh : A.handled = none) (hφ : ∀ j m h h', φ j m h → Tick h h' → φ j m h')
    (h : wpAny (model prog w) A (eval iter env) (fun xv s₁ => ∃ (r : Addr) (N : Nat) (t u v : Tok) (m : Str → Option Value), xv = .ref r ∧ IsRange s₁.heap r 0 N 1 t u v ∧ N ≤ 1000 ∧ (∀ d ∈ D, d < s₁.heap.objs.size) ∧ Bd w n e env.locals m s₁ ∧ φ 0 m s₁.heap ∧
      (∀ (j : Nat) t m' (s' : Shared), j < N → Bd w n e env.locals m' s' → φ j m' s'.heap →
        wpAny (model prog w) A (assign (.Name x px) env (.int j t)) (fun _ s₃ => wpAny (model prog w) A (execs body env) (fun f s₄ => match f with
          | .next | .cont => (∃ m'', Bd w n e env.locals m'' s₄ ∧ φ (j + 1) m'' s₄.heap) ∧ Kx D s'.heap s₄.heap
          | .brk => False
          | .ret r => Q (.ret r) s₄) (fun _ _ => False) s₃) (fun _ _ => False) s') ∧
      (∀ m' (s' : Shared), Bd w n e env.locals m' s' → φ N m' s'.heap → Q .next s')) E s)
    (hs : ∀ x, foldedSetIterable iter env x = pure x := by intro _; rfl) :
    wpAny (model prog w) A (exec (.For (.Name x px) iter body [] pos) env) Q E s := by
  refine b_loop (D := D) (n := n) (e := e) hφ (wpAny_mono h (fun xv s₁ z => ?_) fun _ _ z => z) hs
  obtain ⟨r, N, t, u, v, m, rfl, hr, hN, hD, B, p0, turn, fin⟩ := z
  refine wpAny_pyIter_range hr (range_small hN) ?_
  have k : ∀ b o, s₁.heap.get? b = some o → (s₁.heap.push { cls := .type "range_iterator", data := .fields #[rawInt 0, rawInt (Builtin.Range.rangeSize 0 N 1), rawInt 1] }).get? b = some o := fun b o e => Heap.get?_push_of_some _ e
  have q := Heap.get?_push_size s₁.heap (show ({ cls := .type "range_iterator", data := .fields #[rawInt 0, rawInt (Builtin.Range.rangeSize 0 N 1), rawInt 1] } : Obj).isFreed = false from rfl)
  have hn : n ≤ s₁.heap.objs.size := Nat.le_of_lt B.lt
  refine ⟨s₁.heap.objs.size, [s₁.heap.objs.size], N, _, _, m, "range_iterator", rfl, iter_range hh, ?_, hn, .inr rfl, ?_, ?_, B.keep (t := s₁.toks) k, ?_, ?_, fin⟩
  · show IsRangeIter _ _ ((0 : Nat) : Int) ((N : Int) - (0 : Nat)) 1
    rw [show ((N : Int) - (0 : Nat)) = Builtin.Range.rangeSize 0 N 1 by rw [rangeSize_nat]; omega]
    exact q
  · rintro j h a
    refine ⟨⟨_, a, rfl⟩, fun b mb => ?_⟩
    rcases List.mem_singleton.mp mb with rfl
    exact ⟨fun md => Nat.lt_irrefl _ (hD _ md), fun o'' e => by rw [show _ = _ from a] at e; cases e; rfl⟩
  · rintro j v s' E' Q' _ ⟨t, rfl⟩ hq
    exact wpAny_of_eq (rfl : letOwnedTupleGo (.Name x px) _ _ = pure ()) hq
  · exact hφ _ _ _ _ p0 (.of k)
  · rintro j v m' s' hj ⟨t, rfl⟩ B' p'
    exact turn j t m' s' hj B' p'
end
end Mine
end

-- XS
section
open PySem PySem.W PySem.Calls PyProof.Rows
set_option maxHeartbeats 4000000
namespace Mine
/-- the names of entries, each once, in order -/
def firsts : List (Str × Itm) → List Str → List Str
  | [], o => o
  | x :: r, o => firsts r (if o.any (fun y => y == x.1) then o else o ++ [x.1])
theorem firsts_len : ∀ (E : List (Str × Itm)) (o : List Str), (firsts E o).length ≤ E.length + o.length
  | [], o => by rw [firsts]; omega
  | x :: r, o => by
    rw [firsts, List.length_cons]
    split
    · have := firsts_len r o; omega
    · have := firsts_len r (o ++ [x.1]); rw [List.length_append, List.length_singleton] at this; omega
theorem firsts_snoc : ∀ (E : List (Str × Itm)) (x : Str × Itm) (o : List Str), firsts (E ++ [x]) o = if (firsts E o).any (fun y => y == x.1) then firsts E o else firsts E o ++ [x.1]
  | [], x, o => rfl
  | y :: r, x, o => by rw [List.cons_append, firsts, firsts, firsts_snoc r x]
theorem All2.mem {α β : Type} {R : α → β → Prop} {as : List α} {bs : List β} {a : α} (h : All2 R as bs) (m : a ∈ as) : ∃ b ∈ bs, R a b := by
  induction h with
  | nil => cases m
  | cons x y ih =>
    rcases List.mem_cons.mp m with rfl | m
    · exact ⟨_, List.mem_cons_self, x⟩
    · obtain ⟨b, mb, r⟩ := ih m
      exact ⟨b, List.mem_cons_of_mem _ mb, r⟩
section
variable {prog : Program} {w : World} {A : Around} {E : Value → Shared → Prop} {s : Shared} {env : Env}
theorem strs_any {vs : List Value} {xs : List Str} {k : Str} {e : Value → Bool} (h : All2 StrV vs xs) (he : ∀ x t, e (.str x t) = (x == k)) : vs.toArray.any e = xs.any (fun y => y == k) := by
  rw [List.any_toArray]
  induction h with
  | nil => rfl
  | @cons v x vs xs hv _ ih =>
    obtain ⟨t, rfl⟩ := hv
    rw [List.any_cons, List.any_cons, he, ih]
def strE (k : Str) : Value → Bool
  | .str x _ => x == k
  | _ => false
/-- k not in l, for a list of texts -/
theorem v_notin_strs {l : Addr} {vs : List Value} {xs : List Str} {k : Str} {t : Tok} {Q : Value → Shared → Prop} (hl : s.heap.IsList l vs.toArray) (hx : All2 StrV vs xs) (h : Q (.bool (!xs.any (fun y => y == k))) s) : wpAny (model prog w) A (compareOp .NotIn (.str k t) (.ref l)) Q E s := by
  refine SeqAt.notIn_listAt (strE k) hl (fun y m => ?_) ?_
  · obtain ⟨x, _, t', rfl⟩ := All2.mem hx (List.mem_toArray.mp m)
    exact SeqAt.EqAt.str_str x t' k t
  · rw [strs_any hx fun _ _ => rfl]; exact h
theorem v_in_strs {l : Addr} {vs : List Value} {xs : List Str} {k : Str} {t : Tok} {Q : Value → Shared → Prop} (hl : s.heap.IsList l vs.toArray) (hx : All2 StrV vs xs) (h : Q (.bool (xs.any (fun y => y == k))) s) : wpAny (model prog w) A (compareOp .In (.str k t) (.ref l)) Q E s := by
  refine SeqAt.in_listAt (strE k) hl (fun y m => ?_) ?_
  · obtain ⟨x, _, t', rfl⟩ := All2.mem hx (List.mem_toArray.mp m)
    exact SeqAt.EqAt.str_str x t' k t
  · rw [strs_any hx fun _ _ => rfl]; exact h
abbrev envO (L : Addr) : Env := callEnv fd_order L 289
/-- _law_order(record) -/
theorem c_order {n : Nat} {v : Value} {toks : List Str} {Es : List (Str × Itm)} {St : List Str} (R : Rm (n + 2) A) (X : Wd w s.heap) (V : RecL s.heap v toks Es St) (hz : Es.length ≤ 100) :
    Ret prog w A (.ref 289) ⟨[v], []⟩ s (fun r s' => Ev s s' ∧ s.heap.objs.size ≤ s'.heap.objs.size ∧ ∃ ol vo c, r = .ref ol ∧ IsL s'.heap ol vo.toArray c ∧ All2 StrV vo (firsts Es [])) := by
  refine b_enter X X.big (Nat.le_refl _) (binds := [("record", v)]) (body := bodyOf fd_order) R.room (fo_order X) rfl (code_of X (by kernel_rfl)) rfl (.of_eq rfl) (by decide) (locs rfl) fun L s₁ B hL ev => ?_
  have hh := n_hA R (callEnv fd_order L 289)
  obtain ⟨l1, tl1, el1, sl1, vt1, ve1, vs1, c, c1, c2, c3, rfl, a1, a2, a3, a4, a5, a6, a7⟩ := V
  replace a1 := ev.kp.k _ _ a1 rfl
  replace a4 := ev.kp.k _ _ a4 rfl
  obtain ⟨h₁, g₁, d₁, t₁, os₁⟩ := s₁
  have hLs : L < h₁.objs.size := by obtain ⟨o', q, _⟩ := B.fm.cls; exact Heap.lt_size q
  refine wpAny_execs_cons (wpAny_Assign_Name (wpAny_List (wpAny_items_nil ⟨by decide, ?_⟩)))
  have hel : el1 < h₁.objs.size := Heap.lt_size a4
  have hes : s.heap.objs.size ≤ h₁.objs.size := Nat.le_of_lt B.lt
  have k2 : ∀ b o, h₁.get? b = some o → (h₁.push { cls := .type "list", data := .seq #[] }).get? b = some o := fun b o e => Heap.get?_push_of_some _ e
  have lol := Nat.le_of_lt B.lt
  replace B := B.push { cls := .type "list", data := .seq #[] } (t₁)
  have qol := Heap.get?_push_size h₁ (show ({ cls := .type "list", data := .seq #[] } : Obj).isFreed = false from rfl)
  replace a1 := Heap.get?_push_of_some { cls := .type "list", data := .seq #[] } a1
  replace a4 := Heap.get?_push_of_some { cls := .type "list", data := .seq #[] } a4
  dsimp only at *
  generalize h₁.objs.size = ol at *
  generalize h₁.push { cls := .type "list", data := .seq #[] } = h₂ at *
  refine b_store B fun h₃ B K S => ?_
  replace a1 := K.k _ _ a1 rfl
  replace a4 := K.k _ _ a4 rfl
  have hol : IsL h₃ ol ([] : List Value).toArray 0 := K.k _ _ qol rfl
  clear K S k2 qol
  have hLol : L < ol := by omega
  refine wpAny_execs_cons (b_For (D := [L, ol]) (n := s.heap.objs.size) (e := s) (φ := fun j m h => m "record" = some (.ref l1) ∧ m "order" = some (.ref ol) ∧ ∃ vo c, IsL h ol vo.toArray c ∧ All2 StrV vo (firsts (Es.take j) [])) hh ?_ (.inr ⟨_, _, _, rfl⟩) ?_)
  · rintro j m h h' ⟨q1, q2, vo, c, q4, q5⟩ tk
    exact ⟨q1, q2, vo, c, tk.kp.k _ _ q4 rfl, q5⟩
  refine Subscript_ (r_local B.fm rfl (wpAny_Constant_int (v_idx (vs := [.ref tl1, .ref el1, .ref sl1]) (IsL.isList a1) (by decide) (by decide) rfl ?_)))
  refine ⟨el1, ve1, _, rfl, IsL.isList a4, fun _ v mv => ?_, ?_, ?_, B.tok _, ⟨rfl, rfl, [], 0, hol, .nil⟩, ?_, ?_⟩
  · obtain ⟨x, _, tp, y, t, e, _⟩ := All2.mem a5 mv; exact ⟨tp, e⟩
  · have := B.ne a4 (by simp)
    intro md
    simp only [List.mem_cons, List.not_mem_nil, or_false] at md
    rcases md with md | md
    · exact this md.symm
    · exact absurd md (Nat.ne_of_lt hel)
  · have := Heap.lt_size hol
    intro d md
    simp only [List.mem_cons, List.not_mem_nil, or_false] at md
    rcases md with md | md
    · rw [md]; exact Nat.lt_trans hLol this
    · rw [md]; exact this
  · rintro j v m' s' hv B' ⟨q1, q2, vo, c, q4, q5⟩
    obtain ⟨⟨key, I⟩, hej, q3⟩ := a5.get hv
    obtain ⟨tp, y, tk, rfl, htp, hry⟩ := q3.kr (.of B'.old)
    have htk : Es.take (j + 1) = Es.take j ++ [(key, I)] := by rw [List.take_succ, hej]; rfl
    have hvo : vo.length ≤ 100 := by
      rw [q5.length]
      have e1 := firsts_len (Es.take j) []
      have e2 : (Es.take j).length ≤ Es.length := by rw [List.length_take]; omega
      rw [List.length_nil] at e1
      omega
    refine b_pair hh B' ⟨_, htp, rfl, 0, rfl⟩ rfl rfl rfl fun h₄ B4 K4 far => ?_
    have q4' := K4.k _ _ q4 rfl
    have kx4 : Kx [L, ol] s'.heap h₄ := fun b o d q _ => far b o (fun z => d (by rw [z]; exact List.mem_cons_self)) q
    refine wpAny_execs_cons (wpAny_If (wpAny_isTrue_Compare1 (r_local B4.fm rfl (r_local B4.fm q2 (v_notin_strs (IsL.isList q4') q5 (wpAny_truthy_bool ?_))))))
    cases hb : (firsts (Es.take j) []).any (fun y => y == key) with
    | true =>
      refine wpAny_execs_nil (env := envO L) (wpAny_execs_nil (env := envO L) ⟨⟨_, B4, q1, q2, vo, c, q4', ?_⟩, kx4⟩)
      rw [htk, firsts_snoc, if_pos hb]; exact q5
    | false =>
      refine wpAny_execs_cons (wpAny_Expr (MethodCall_ (r_local B4.fm q2 ?_)))
      refine getMethod_builtin (T := "list") ⟨_, q4', rfl⟩ F.plainAttrs_list F.slot_list_append F.type_list_append (fun a e => by cases e; exact ⟨_, q4', rfl⟩) ?_
      refine callWith_method1 (wpAny_items_cons (r_local B4.fm rfl (wpAny_items_nil (wpAny_list_append_plain (items := vo.toArray) ⟨c, q4'⟩ (fun h₅ hl5 S => ?_) (by rw [List.size_toArray, sizeLine_eq]; omega)))))
      obtain ⟨c5, hl5⟩ := hl5
      have B5 := B4.at_ (t := s'.toks + 1 + 1) S lol (B4.ne q4' (by simp)) ⟨_, q4', nc_cls (by simp)⟩
      refine wpAny_execs_nil (env := envO L) (wpAny_execs_nil (env := envO L) ⟨⟨_, B5, q1, q2, vo ++ [.str key tk], c5, ?_, ?_⟩, kx4.trans (.at_ S (by simp))⟩)
      · rw [show (vo ++ [Value.str key tk]).toArray = vo.toArray.push (.str key tk) by simp]; exact hl5
      · rw [htk, firsts_snoc, if_neg (by rw [hb]; decide)]
        exact q5.append (.cons ⟨tk, rfl⟩ .nil)
  · rintro m' s' B' ⟨q1, q2, vo, c, q4, q5⟩
    refine wpAny_execs_cons (wpAny_Return_some (r_local B'.fm q2 ⟨B'.out.ev (Nat.le_refl _), Nat.le_of_lt B'.lt, ol, vo, c, rfl, q4, ?_⟩))
    rwa [List.take_of_length_le (Nat.le_of_eq a5.length.symm)] at q5
end
end Mine
end

-- XT
section
open PySem PySem.W PySem.Calls PyProof.Rows
set_option maxHeartbeats 4000000
namespace Mine
section
variable {prog : Program} {w : World} {A : Around} {E : Value → Shared → Prop} {s : Shared}
/-- [elt for x in iter if ..], with what is done with the list -/
theorem v_ListCompU {elt iter : Expr} {x : Str} {px : Pos} {ifs : List Expr} {scope : Scope} {cl : List (Str × Addr)} {pos : Pos} {env : Env} {cpos : Pos} {use : Option (Value → Sem Unit)} {Q : Value → Shared → Prop}
    (hclos : closureFor scope env = pure cl) (hkind : scope.kind = .function) (hnames : ∀ x ∈ scope.names, x.2 = .local → scope.names.lookup x.1 = some .local) (hx : scope.names.lookup x = some .local) (hcell : ∀ x ∈ scope.names, x.2 ≠ .cell) (X : Wd w s.heap)
    (h : wpAny (model prog w) A (eval iter env) (fun xv s₁ => wpAny (model prog w) A (pyIter xv) (fun it s₂ => Ev s s₂ ∧ s.heap.objs.size ≤ s₂.heap.objs.size ∧ ∃ (N gl : Nat) (I : Nat → Shared → Prop) (P : Nat → Nat → Value → Heap → Prop) (p : Nat → Bool) (F : Heap → Nat → Value → Prop), N ≤ 1000 ∧ I 0 s₂ ∧ Src prog w A s s₂.heap.objs.size gl it N I P ∧
      (∀ (h : Heap) h' j y, F h j y → St s.heap.objs.size (s₂.heap.objs.size + 2) h h' → F h' j y) ∧
      (∀ j v (s' : Shared) m E', j < N → Ef s.heap.objs.size s s' → Wd w s'.heap → s₂.heap.objs.size + 2 ≤ s'.heap.objs.size → P (s₂.heap.objs.size + 2) j v s'.heap → s'.heap.Ns (s₂.heap.objs.size + 1) m → m x = some v →
        wpAny (model prog w) A (forIn ifs true fun c r => if r = true then do let ok ← isTrue c (compEnvC scope cl (s₂.heap.objs.size + 1) env) (eval c (compEnvC scope cl (s₂.heap.objs.size + 1) env)); pure (ForInStep.yield ok) else pure (ForInStep.yield r))
          (fun ok s'' => ok = p j ∧ Ev s' s'' ∧ (ok = true → wpAny (model prog w) A (eval elt (compEnvC scope cl (s₂.heap.objs.size + 1) env)) (fun y s₃ => Ev s'' s₃ ∧ F s₃.heap j y) E' s'')) E' s') ∧
      (∀ s' ys c m, Ev s s' → IsL s'.heap s₂.heap.objs.size ys.toArray c → All2 (F s'.heap) ((List.range N).filter p) ys → s'.heap.Ns (s₂.heap.objs.size + 1) m → compPost (model prog w) A E use Q (.ref s₂.heap.objs.size) (s₂.heap.objs.size + 1) (.ok .next) s')) E s₁) E s)
    (hs : ∀ x, foldedSetIterable iter env x = pure x := by intro _; rfl) :
    wpAny (model prog w) A (comprehension (.ListComp elt [⟨.Name x px, iter, ifs, 0⟩] scope pos) scope env cpos (newList []) false (eval iter env) use) Q E s := by
  refine wpAny_comprehension_free (use := use) rfl hs hclos hkind hnames ?_
  refine wpAny_mono h (fun xv s₁ h₁ => wpAny_mono h₁ (fun it s₂ h₂ => ?_) fun _ _ z => z) fun _ _ z => z
  obtain ⟨ev, hsz, N, gl, I, P, p, F, hN, hI, S, hF, helt, hQ⟩ := h₂
  refine wpAny_newObj_type (hd := by size_fits) ?_
  simp only [newFunctionEnv, Option.isSome_some, if_true]
  refine wpAny_bind (wpAny_alloc ?_)
  rw [forIn_yield_id cl (fun x hx c => by
    obtain ⟨name, kind⟩ := x
    have : (kind == NameKind.cell) = false := by simpa using hcell _ hx
    simp only [this, Bool.false_eq_true, if_false])]
  refine wpAny_bind (wpAny_pure (wpAny_bind (wpAny_of_eq (List.forIn_nil ..) (wpAny_pure ?_))))
  dsimp only
  rw [Heap.size_push]
  have hD := Heap.get?_push_size s₂.heap (show ({ cls := .type "list", data := .seq ([] : List Value).toArray } : Obj).isFreed = false from rfl)
  generalize hH : (s₂.heap.push { cls := .type "list", data := .seq ([] : List Value).toArray }) = H at *
  have hHz : H.objs.size = s₂.heap.objs.size + 1 := by rw [← hH, Heap.size_push]
  have hC : (H.push { cls := .type "dict", data := .dict #[] }).Ns (s₂.heap.objs.size + 1) (fun _ => none) := by rw [← hHz]; exact Heap.Ns.new H (.type "dict")
  have k1 : ∀ b o, s₂.heap.get? b = some o → H.get? b = some o := fun b o e => hH ▸ Heap.get?_push_of_some _ e
  have k2 : ∀ b o, H.get? b = some o → (H.push { cls := .type "dict", data := .dict #[] }).get? b = some o := fun b o e => Heap.get?_push_of_some _ e
  have hz4 : s₂.heap.objs.size + 2 ≤ (H.push { cls := .type "dict", data := .dict #[] }).objs.size := by rw [Heap.size_push, hHz]; omega
  generalize hH4 : (H.push { cls := .type "dict", data := .dict #[] }) = H₄ at *
  generalize hlo : s₂.heap.objs.size = lo at *
  have hD4 : IsL H₄ lo #[] 0 := k2 _ _ hD
  have e4 : Ev s₂ ⟨H₄, s₂.gens, s₂.drawn, s₂.toks, s₂.os⟩ := ⟨.of fun b o e => k2 _ _ (k1 _ _ e), rfl, .refl _⟩
  have start : CInv w s lo N I p F 0 ⟨H₄, s₂.gens, s₂.drawn, s₂.toks, s₂.os⟩ :=
    ⟨(ev.trans e4).ef, X.mono (ev.trans e4).kp, S.ev _ _ _ hI e4, Nat.zero_le _, ⟨[], 0, hD4, .nil⟩, ⟨_, hC⟩⟩
  have loop : codeAny (model prog w) A (.compLoop (.ListComp elt [⟨.Name x px, iter, ifs, 0⟩] scope pos) 0 it (.ref lo) (compEnvC scope cl (lo + 1) env)) (compPost (model prog w) A E use Q (.ref lo) (lo + 1)) ⟨H₄, s₂.gens, s₂.drawn, s₂.toks, s₂.os⟩ := by
    refine codeAny_compLoop_tests (fun n s' => ∃ j, n = N - j ∧ CInv w s lo N I p F j s') (fun n s' hi => ?_) N ⟨0, rfl, start⟩
    obtain ⟨j, rfl, C⟩ := hi
    refine wpAny_mono (S.next (lo + 2) j s' _ C.src C.wd (Nat.le_add_right _ _) (C.ns.elim fun m hm => hm.lt)) (fun r s₁ z => ?_) fun _ _ z => z
    obtain ⟨nx, z⟩ := z
    have up := nx.up
    obtain ⟨ys, c, hacc, hall⟩ := C.acc
    obtain ⟨m, hns⟩ := C.ns
    have st1 : St s.heap.objs.size (lo + 2) s'.heap s₁.heap := fun b o d e p => d.elim (fun d => nx.kf.k b o d e p) fun d => up b o (by omega) e
    have hacc1 : IsL s₁.heap lo ys.toArray c := up _ _ (Nat.le_refl _) hacc
    have hns1 := ns_at hns fun o e => up _ _ (Nat.le_succ _) e
    have hall1 := All2.mono (fun a b f => hF _ _ _ _ f st1) hall
    have ef1' := C.ef.nx nx
    cases r with
    | none =>
      obtain rfl := z
      exact hQ _ ys c m (ef1'.ev (Nat.le_refl _)) hacc1 hall1 hns1
    | some v =>
      obtain ⟨hj, src1, _, hp⟩ := z
      refine wpAny_assign_Name (wpAny_storeName_local (lookup_relabel_local hx) hns1 (fun h₂ hn₂ S₂ => ?_) (by show ((relabel scope env).kind == .class || ((relabel scope env).kind == .module && _)) = false; rw [show (relabel scope env).kind = .function from hkind]; rfl))
      replace S₂ : Heap.SameBut (lo + 1) s₁.heap h₂ := S₂
      have st2 : St s.heap.objs.size (lo + 2) s₁.heap h₂ := .at_ S₂ (by omega) (by omega)
      have kf2 : Kf s.heap.objs.size s₁.heap h₂ := .same S₂ (Nat.le_succ_of_le hsz) (nc_ns hns1)
      have ef2 : Ef s.heap.objs.size s { s₁ with heap := h₂, toks := s₁.toks + 1 } := ⟨ef1'.kf.trans kf2, ef1'.os, ef1'.gens⟩
      have X2 : Wd w h₂ := X.floor ef2.kf X.big
      have hacc2 : IsL h₂ lo ys.toArray c := (S₂.2 lo (Nat.ne_of_lt (Nat.lt_succ_self _))).trans hacc1
      have hz2 : lo + 2 ≤ h₂.objs.size := hn₂.lt
      refine wpAny_mono (helt j v { s₁ with heap := h₂, toks := s₁.toks + 1 } _ _ hj ef2 X2 hz2 (S.pst _ _ _ _ _ hp st2) hn₂ (by simp)) (fun ok s₃ z => ?_) fun _ _ z => z
      obtain ⟨rfl, ev3, z⟩ := z
      have src3 : I (j + 1) s₃ := S.ev _ _ _ (S.at_ _ _ _ _ _ src1 S₂ (Nat.le_succ _) (nc_ns hns1)) ev3
      have hall3 := All2.mono (fun a b f => hF _ _ _ _ f (.ka ev3.ka)) (All2.mono (fun a b f => hF _ _ _ _ f st2) hall1)
      have hacc3 : IsL s₃.heap lo ys.toArray c := ev3.ka.k _ _ hacc2 rfl
      have hns3 := ns_at hn₂ fun o e => ev3.ka.k _ _ e (by obtain ⟨o', es, ep, a1, a2, _⟩ := hn₂; exact tab_dict ((Option.some.inj (e.symm.trans a1)) ▸ a2))
      cases hpj : p j with
      | false =>
        simp only [Bool.false_eq_true, if_false]
        refine ⟨N - (j + 1), by omega, j + 1, rfl, ef2.trans ev3.ef, X2.mono ev3.kp, src3, hj, ⟨ys, c, hacc3, ?_⟩, ⟨_, hns3⟩⟩
        rw [List.range_succ, List.filter_append, List.filter_cons_of_neg (by rw [hpj]; decide), List.filter_nil, List.append_nil]; exact hall3
      | true =>
        simp only [if_true]
        refine wpAny_mono (z hpj) (fun y s₄ z => ?_) fun _ _ z => z
        obtain ⟨ev4, hf⟩ := z
        have hyz : ys.length ≤ 1000 := by
          have := hall3.length
          have e2 : ((List.range j).filter p).length ≤ (List.range j).length := List.length_filter_le _ _
          rw [List.length_range] at e2
          omega
        refine wpAny_list_append_plain (s := s₄) (hl := ⟨c, ev4.ka.k _ _ hacc3 rfl⟩) (fun h₅ hl₅ S₅ => ?_) (by rw [List.size_toArray, sizeLine_eq]; omega)
        obtain ⟨c₅, hl₅⟩ := hl₅
        have st5 : St s.heap.objs.size (lo + 2) s₄.heap h₅ := .at_ S₅ (by omega) (by omega)
        have ef5 : Ef s.heap.objs.size s { s₄ with heap := h₅ } := ⟨((ef2.trans ev3.ef).trans ev4.ef).kf.trans (.same S₅ hsz ⟨_, ev4.ka.k _ _ hacc3 rfl, nc_cls (by simp)⟩), ((ef2.trans ev3.ef).trans ev4.ef).os, ((ef2.trans ev3.ef).trans ev4.ef).gens⟩
        refine ⟨N - (j + 1), by omega, j + 1, rfl, ef5, X.floor ef5.kf X.big, S.at_ _ _ _ _ s₄.toks (S.ev _ _ _ src3 ev4) S₅ (Nat.le_refl _) ⟨_, ev4.ka.k _ _ hacc3 rfl, nc_cls (by simp)⟩, hj, ⟨ys ++ [y], c₅, ?_, ?_⟩, ⟨_, ns_at hns3 fun o e => (S₅.2 _ (Nat.ne_of_gt (Nat.lt_succ_self _))).trans (ev4.ka.k _ _ e (by obtain ⟨o', es, ep, a1, a2, _⟩ := hns3; exact tab_dict ((Option.some.inj (e.symm.trans a1)) ▸ a2)))⟩⟩
        · rw [show (ys ++ [y]).toArray = ys.toArray.push y from by simp]; exact hl₅
        · rw [List.range_succ, List.filter_append, List.filter_cons_of_pos (by rw [hpj]), List.filter_nil]
          exact (All2.mono (fun a b f => hF _ _ _ _ f st5) (All2.mono (fun a b f => hF _ _ _ _ f (.ka ev4.ka)) hall3)).append (.cons (hF _ _ _ _ hf st5) .nil)
  refine codeAny_compStart_list loop (S.iter _ _ _ _ start.src loop)
theorem Kp.hi {e h h' : Heap} {z : Addr} (k : Kp e h) (S : Heap.SameBut z h h') (hz : e.objs.size ≤ z) (hc : ∃ o, h.get? z = some o ∧ ¬ codeO o) : Kp e h' :=
  ⟨fun b o q p => (S.2 b (Nat.ne_of_lt (Nat.lt_of_lt_of_le (Heap.lt_size q) hz))).trans (k.k b o q p), fun b o q p => grown_trans (R := fun y => y ≠ z) (fun y o ny q _ => .inl ((S.2 y ny).trans q)) (fun y o q c => (S.2 y (fun e => by
    subst e
    obtain ⟨o', q', c'⟩ := hc
    rw [q] at q'; cases q'; exact c' c)).trans q) (Nat.ne_of_lt (Nat.lt_of_lt_of_le (Heap.lt_size q) hz)) (k.t b o q p) p⟩
/-- y = [elt for x in l if ..] -/
theorem v_AssignComp {elt iter : Expr} {x y : Str} {px py : Pos} {ifs : List Expr} {scope : Scope} {cl : List (Str × Addr)} {pos spos : Pos} {env : Env} {n : Nat} {e : Shared} {m : Str → Option Value} {Q : Flow → Shared → Prop} {l : Addr} {its : List Value} (hh : A.handled = none)
    (hsw : swapsWith (.ListComp elt [⟨.Name x px, iter, ifs, 0⟩] scope pos) (some (.Name y py)) spos.line env = pure true)
    (hy : env.kindOf y = some .local) (hyp : (env.scope.kind == .class || (env.scope.kind == .module && env.locals != env.globals)) = false) (B : Bd w n e env.locals m s)
    (hclos : closureFor scope env = pure cl) (hkind : scope.kind = .function) (hnames : ∀ x ∈ scope.names, x.2 = .local → scope.names.lookup x.1 = some .local) (hx : scope.names.lookup x = some .local) (hcell : ∀ x ∈ scope.names, x.2 ≠ .cell)
    (hl : s.heap.IsList l its.toArray) (hz : its.length ≤ 1000) (p : Nat → Bool) (F : Heap → Nat → Value → Prop)
    (h : wpAny (model prog w) A (eval iter env) (fun xv s₁ => xv = .ref l ∧ Ev s s₁ ∧ s.heap.objs.size ≤ s₁.heap.objs.size ∧ (∀ lo, lo = s₁.heap.objs.size + 1 →
      (∀ (h : Heap) h' j y, F h j y → St s.heap.objs.size (lo + 2) h h' → F h' j y) ∧ (∀ (h : Heap) h' j y, F h j y → Kp h h' → F h' j y) ∧
      (∀ j v (s' : Shared) m E', its[j]? = some v → Ev s s' → lo + 2 ≤ s'.heap.objs.size → s'.heap.Ns (lo + 1) m → m x = some v →
        wpAny (model prog w) A (forIn ifs true fun c r => if r = true then do let ok ← isTrue c (compEnvC scope cl (lo + 1) env) (eval c (compEnvC scope cl (lo + 1) env)); pure (ForInStep.yield ok) else pure (ForInStep.yield r))
          (fun ok s'' => ok = p j ∧ Ev s' s'' ∧ (ok = true → wpAny (model prog w) A (eval elt (compEnvC scope cl (lo + 1) env)) (fun y s₃ => Ev s'' s₃ ∧ F s₃.heap j y) E' s'')) E' s') ∧
      (∀ s' D ys c, Bd w n e env.locals (fun z => if z = y then some (.ref D) else m z) s' → Kx [env.locals] s.heap s'.heap → Kp s.heap s'.heap → s.heap.objs.size ≤ D → IsL s'.heap D ys.toArray c → All2 (F s'.heap) ((List.range its.length).filter p) ys → Q .next s'))) E s)
    (hs : ∀ x, foldedSetIterable iter env x = pure x := by intro _; rfl) :
    wpAny (model prog w) A (exec (.Assign [.Name y py] (.ListComp elt [⟨.Name x px, iter, ifs, 0⟩] scope pos) spos) env) Q E s := by
  have hLs : @LT.lt Nat _ env.locals s.heap.objs.size := by obtain ⟨o', q, _⟩ := B.fm.cls; exact Heap.lt_size q
  rw [exec_Assign_Name_used _ _ _ _ hsw]
  refine wpAny_bind (wpAny_standAt (wpAny_bind ?_))
  show wpAny _ A (do let _ ← comprehension (.ListComp elt [⟨.Name x px, iter, ifs, 0⟩] scope pos) scope env _ (newList []) false (eval iter env) (some (assign (.Name y py) env))) _ _ s
  refine wpAny_bind (wpAny_mono (v_ListCompU (Q := fun _ s' => Q .next s') hclos hkind hnames hx hcell B.wd (wpAny_mono h (fun xv s₁ z => ?_) fun _ _ z => z) hs) (fun _ s' hq => wpAny_pure (wpAny_pure hq)) fun _ _ z => z)
  obtain ⟨rfl, ev, hsz, z⟩ := z
  have hl1 := isList_kp hl ev.kp
  refine wpAny_pyIter_list hl1 ?_
  have hlt : l < s₁.heap.objs.size := by obtain ⟨o, q, _⟩ := hl1; exact Heap.lt_size q
  obtain ⟨z1, zk, z2, z3⟩ := z _ rfl
  have k : ∀ b o, s₁.heap.get? b = some o → (s₁.heap.push { cls := .type "list_iterator", data := .fields #[.ref l, .int 0 0] }).get? b = some o := fun b o e => Heap.get?_push_of_some _ e
  refine ⟨ev.trans (.of (.of k)), by rw [Heap.size_push]; omega, its.length, s₁.gens.size, _, _, p, F, hz, ⟨Nat.zero_le _, ⟨_, Heap.get?_push_size _ rfl, rfl, rfl⟩, isList_kp hl1 (.of k)⟩, src_list hh (it := s₁.heap.objs.size) (l := l) hsz (by rw [Heap.size_push]; exact Nat.lt_succ_self _) (by rw [Heap.size_push]; exact Nat.lt_succ_of_lt hlt) (Nat.ne_of_lt hlt), ?_, ?_, ?_⟩
  · rw [Heap.size_push]; exact z1
  · rw [Heap.size_push]; exact fun j v s' m E' _ ef _ hz' hp hn hm => z2 j v s' m E' hp (ef.ev (Nat.le_refl _)) hz' hn hm
  · rw [Heap.size_push]
    intro s' ys c mc ev' hD hall hns
    show wpAny (model prog w) A (assign (.Name y py) env _) _ _ _
    refine wpAny_assign_Name (b_store (B.ev ev') (fun h' B' K S => ?_) hy hyp)
    have hne : s₁.heap.objs.size + 1 + 1 ≠ env.locals := by show @Ne Nat _ _; omega
    refine ⟨mc, ns_at hns fun o q => (S.2 _ hne).trans q, fun h'' S'' => ?_⟩
    have S'' : Heap.SameBut (s₁.heap.objs.size + 1 + 1) h' h'' := S''
    have hns' : h'.Ns (s₁.heap.objs.size + 1 + 1) mc := ns_at hns fun o q => (S.2 _ hne).trans q
    have k'' : St s.heap.objs.size (s₁.heap.objs.size + 1 + 2) h' h'' := .at_ S'' (by omega) (by omega)
    refine z3 _ _ ys c (B'.at_ (t := s'.toks + 1) S'' (by have := B.lt; omega) (Ne.symm hne) (nc_ns hns')) ?_ ((ev'.kp.trans K).hi S'' (by omega) (nc_ns hns')) (by omega) ((S''.2 _ (by show @Ne Nat _ _; omega)).trans (K.k _ _ hD rfl)) (hall.mono fun _ _ f => z1 _ _ _ _ (zk _ _ _ _ f K) k'')
    exact fun b o d q p => (S''.2 b (Nat.ne_of_lt (Nat.lt_of_lt_of_le (Heap.lt_size q) (show s.heap.objs.size ≤ s₁.heap.objs.size + 1 + 1 by omega)))).trans ((S.2 b (fun r => d (by rw [r]; exact List.mem_cons_self))).trans (ev'.ka.k b o q p))
end
end Mine
end

-- XU
section
open PySem PySem.W PySem.Calls PyProof.Rows
set_option maxHeartbeats 4000000
namespace Mine
/-- what stands under a name -/
def under (E : List (Str × Itm)) (k : Str) : List Itm := (E.filter (fun e => e.1 == k)).map (·.2)
def tabOf (E : List (Str × Itm)) (St : List Str) : List (Str × PyData) := (firsts E []).map fun k => (k, tellD (St.any (fun y => y == k)) (under E k))
theorem firsts_mem : ∀ (E : List (Str × Itm)) (o : List Str) {x : Str}, x ∈ firsts E o → x ∈ o ∨ ∃ e ∈ E, e.1 = x
  | [], o, x, m => .inl m
  | y :: r, o, x, m => by
    rw [firsts] at m
    rcases firsts_mem r _ m with q | ⟨e, me, q⟩
    · split at q
      · exact .inl q
      · rcases List.mem_append.mp q with q | q
        · exact .inl q
        · exact .inr ⟨y, List.mem_cons_self, (List.mem_singleton.mp q).symm⟩
    · exact .inr ⟨e, List.mem_cons_of_mem _ me, q⟩
theorem firsts_nodup : ∀ (E : List (Str × Itm)) (o : List Str), o.Nodup → (firsts E o).Nodup
  | [], o, h => h
  | y :: r, o, h => by
    rw [firsts]
    refine firsts_nodup r _ ?_
    split
    · exact h
    · rename_i hq
      refine List.nodup_append.mpr ⟨h, by simp, fun a ma b mb => ?_⟩
      rw [List.mem_singleton] at mb; subst mb
      intro q; subst q
      exact hq (List.any_eq_true.mpr ⟨_, ma, beq_self_eq_true _⟩)
theorem under_ne {E : List (Str × Itm)} {k : Str} (h : k ∈ firsts E []) : under E k ≠ [] := by
  rcases firsts_mem E [] h with q | ⟨e, m, rfl⟩
  · cases q
  · intro q
    have : e.2 ∈ under E e.1 := List.mem_map.mpr ⟨e, List.mem_filter.mpr ⟨m, beq_self_eq_true _⟩, rfl⟩
    rw [q] at this; cases this
def isAt (E : List (Str × Itm)) (k : Str) (j : Nat) : Bool := match E[j]? with | some e => e.1 == k | none => false
theorem under_take (E : List (Str × Itm)) (k : Str) : ∀ m, m ≤ E.length → ((List.range m).filter (isAt E k)).filterMap (fun j => E[j]?.map (·.2)) = under (E.take m) k
  | 0, _ => rfl
  | m + 1, h => by
    have e1 : E[m]? = some E[m] := List.getElem?_eq_getElem h
    rw [List.range_succ, List.filter_append, List.filterMap_append, under_take E k m (Nat.le_of_succ_le h), under, under, List.take_succ, e1, Option.toList, List.filter_append, List.map_append]
    congr 1
    have e2 : isAt E k m = (E[m].1 == k) := by rw [isAt, e1]
    cases q : E[m].1 == k with
    | true =>
      have f1 : List.filter (isAt E k) [m] = [m] := by simp [List.filter, e2, q]
      have f2 : List.filter (fun e : Str × Itm => e.1 == k) [E[m]] = [E[m]] := by simp [List.filter, q]
      rw [f1, f2, List.filterMap_cons, e1]; rfl
    | false =>
      have f1 : List.filter (isAt E k) [m] = [] := by simp [List.filter, e2, q]
      have f2 : List.filter (fun e : Str × Itm => e.1 == k) [E[m]] = [] := by simp [List.filter, q]
      rw [f1, f2]; rfl
theorem under_all {h : Heap} {E : List (Str × Itm)} : ∀ {js : List Nat} {ys : List Value}, All2 (fun j y => ∃ e, E[j]? = some e ∧ Rd h y e.2.tell) js ys → All2 (fun y I => Rd h y (Itm.tell I)) ys (js.filterMap (fun j => E[j]?.map (·.2)))
  | _, _, .nil => .nil
  | _, _, .cons ⟨e, a, b⟩ r => by
    rw [List.filterMap_cons, a]
    exact .cons b (under_all r)
theorem All2.lastB {α β : Type} {R : α → β → Prop} {as : List α} {bs : List β} (h : All2 R as bs) (hb : bs ≠ []) : ∃ as' a b, as = as' ++ [a] ∧ bs.getLast? = some b ∧ R a b := by
  induction h with
  | nil => exact absurd rfl hb
  | @cons a b as bs x y ih =>
    cases y with
    | nil => exact ⟨[], a, b, rfl, rfl, x⟩
    | cons x2 y2 =>
      obtain ⟨as', a', b', e1, e2, r⟩ := ih (by simp)
      exact ⟨a :: as', a', b', by rw [e1]; rfl, by rw [List.getLast?_cons_cons]; exact e2, r⟩
theorem rd_items {h : Heap} {ys : List Value} {Is : List Itm} (x : All2 (fun y I => Rd h y (Itm.tell I)) ys Is) : All2 (Rd h) ys (Is.map Itm.tell) := by
  induction x with
  | nil => exact .nil
  | cons a _ ih => exact .cons a ih
theorem rd_strs_at {h h' : Heap} : ∀ {xs : List Str} {vs : List Value}, All2 (Rd h) vs (xs.map PyData.str) → All2 (Rd h') vs (xs.map PyData.str)
  | [], _, .nil => .nil
  | x :: r, _, .cons a b => by
    obtain ⟨t, rfl⟩ := of_rd_str a
    exact .cons (rd_str x t) (rd_strs_at b)
theorem rd_itm_at {h h' : Heap} (k : ∀ b o, h.get? b = some o → o.cls = .type "list" → h'.get? b = some o) {v : Value} {I : Itm} (x : Rd h v (Itm.tell I)) : Rd h' v (Itm.tell I) := by
  cases I with
  | s x' => obtain ⟨t, rfl⟩ := of_rd_str x; exact rd_str _ _
  | sub xs =>
    obtain ⟨a, vs, rfl, ⟨o, q, c, n, d⟩, all⟩ := of_rd_list x
    exact rd_list ⟨o, k _ _ q c, c, n, d⟩ (rd_strs_at all)
theorem rd_itms_at {h h' : Heap} (k : ∀ b o, h.get? b = some o → o.cls = .type "list" → h'.get? b = some o) : ∀ {Is : List Itm} {vs : List Value}, All2 (Rd h) vs (Is.map Itm.tell) → All2 (Rd h') vs (Is.map Itm.tell)
  | [], _, .nil => .nil
  | x :: r, _, .cons a b => .cons (rd_itm_at k a) (rd_itms_at k b)
/-- what a name tells reads lists alone -/
theorem rd_tellD_at {h h' : Heap} (k : ∀ b o, h.get? b = some o → o.cls = .type "list" → h'.get? b = some o) {v : Value} {b : Bool} {Is : List Itm} (x : Rd h v (tellD b Is)) : Rd h' v (tellD b Is) := by
  cases b with
  | true =>
    obtain ⟨a, vs, rfl, ⟨o, q, c, n, d⟩, all⟩ := of_rd_list x
    exact rd_list ⟨o, k _ _ q c, c, n, d⟩ (rd_itms_at k all)
  | false =>
    replace x : Rd h v ((Is.getLast?.map Itm.tell).getD .none) := x
    show Rd h' v ((Is.getLast?.map Itm.tell).getD .none)
    cases e : Is.getLast? with
    | none => rw [e] at x; obtain ⟨as, r⟩ := x; cases r; exact ⟨_, .none⟩
    | some I => rw [e] at x; exact rd_itm_at k x
/-- a table: names with what they tell -/
def TabL (prog : Program) (w : World) (h : Heap) (v : Value) (Ds : List (Str × PyData)) : Prop := ∃ td kvs, v = .ref td ∧ 333 ≤ td ∧ h.DictOf (PySem.strKind prog w) td kvs ∧ All2 (fun (kv : Str × Value) d => kv.1 = d.1 ∧ Rd h kv.2 d.2) kvs Ds
theorem TabL.kp {prog : Program} {w : World} {h h' : Heap} {v : Value} {Ds : List (Str × PyData)} (x : TabL prog w h v Ds) (k : Kp h h') : TabL prog w h' v Ds := by
  obtain ⟨td, kvs, e, z, d, a⟩ := x
  exact ⟨td, kvs, e, z, dictOf_kp d k, a.mono fun _ _ ⟨q, r⟩ => ⟨q, r.kp k⟩⟩
section
variable {prog : Program} {w : World} {A : Around} {E : Value → Shared → Prop} {s : Shared} {env : Env}
/-- x = v, for a name in a cell -/
theorem b_storeC {n : Nat} {e : Shared} {m : Str → Option Value} {name : Str} {c : Addr} {v0 : Option Value} {v : Value} {Q : Unit → Shared → Prop} {M : Model} (B : Bd w n e env.locals m s) (hc : env.cells.lookup name = some c) (hv : CellAt s.heap c v0) (hn : n ≤ c)
    (h : ∀ h', Bd w n e env.locals m { s with heap := h' } → CellAt h' c (some v) → Kp s.heap h' → Heap.SameBut c s.heap h' → Q () { s with heap := h' }) (hk : env.scope.kind = .function := by rfl) (hl : env.kindOf name = some .cell := by rfl) : wpAny M A (storeName env name v) Q E s := by
  obtain ⟨o, q, co, r⟩ := id hv
  exact c_storeCell hk hl hc hv fun h' hc' S => h h' (B.at_ (t := s.toks) S hn (B.ne q (by rw [co]; simp)) ⟨o, q, nc_cls (by rw [co]; simp)⟩) hc' (kp_ext q co (by decide) S.extBut) S
theorem Bd.cellNe {n : Nat} {e : Shared} {L : Addr} {m : Str → Option Value} {c : Addr} {v : Option Value} (B : Bd w n e L m s) (hv : CellAt s.heap c v) : L ≠ c := by
  obtain ⟨o, q, co, r⟩ := hv
  exact B.ne q (by rw [co]; simp)
abbrev envT (L : Addr) : Env := callEnvC fd_table L 294
/-- the choice of what a name tells -/
theorem tab_value {n : Nat} {e : Shared} {L D l1 tl1 el1 sl1 : Addr} {m : Str → Option Value} {vs1 ys : List Value} {St : List Str} {Is : List Itm} {c c3 c5 : Nat} {k : Str} {t : Tok} {Q : Value → Shared → Prop}
    (B : Bd w n e L m s) (h1 : m "record" = some (.ref l1)) (h2 : m "values" = some (.ref D)) (hc : CellAt s.heap (L + 1) (some (.str k t))) (a1 : IsL s.heap l1 #[.ref tl1, .ref el1, .ref sl1] c) (a6 : IsL s.heap sl1 vs1.toArray c3) (a7 : All2 StrV vs1 St) (hD : IsL s.heap D ys.toArray c5)
    (hy : All2 (fun y I => Rd s.heap y (Itm.tell I)) ys Is) (hne : Is ≠ []) (hz : ys.length ≤ 1000) (h : ∀ v t, Rd s.heap v (tellD (St.any (fun y => y == k)) Is) → Q v { s with toks := t }) :
    wpAny (model prog w) A (eval (asVal (forBody (bodyOf fd_table) 1) 1) (envT L)) Q E s := by
  refine wpAny_IfExp (wpAny_isTrue_Compare1 (r_cell (c := L + 1) rfl hc (Subscript_ (r_local B.fm h1 (wpAny_Constant_int (v_idx (vs := [.ref tl1, .ref el1, .ref sl1]) (IsL.isList a1) (by decide) (by decide) rfl ?_))))))
  replace B := B.tok (s.toks + 1)
  refine v_in_strs (IsL.isList (show IsL s.heap sl1 _ _ from a6)) a7 (wpAny_truthy_bool ?_)
  cases hq : St.any (fun y => y == k) with
  | true =>
    refine r_local B.fm h2 (h _ _ ?_)
    rw [hq]
    exact rd_list (IsL.isList hD) (rd_items hy)
  | false =>
    obtain ⟨os, o, I, rfl, e2, r⟩ := hy.lastB hne
    have ho2 : s.heap.IsList D (os ++ [o]).toArray := IsL.isList hD
    refine Subscript_ (r_local B.fm h2 (wpAny_UnaryOp (wpAny_Constant_int (PyProof.Rows.neg_int ?_))))
    rw [List.length_append, List.length_singleton] at hz
    refine tail_any ho2.typeIs list_getitem_lookup (wpAny_getItem_list_neg (x := o) ho2 (by decide) (by rw [List.size_toArray, List.length_append]; show -((os.length + 1 : Nat) : Int) ≤ -1; omega) (by decide) (last_at os o) ?_) (by with_unfolding_all rfl)
    refine h _ _ ?_
    rw [hq]
    show Rd _ o ((Is.getLast?.map Itm.tell).getD .none)
    rw [e2]
    exact r
theorem tb_kind {a : Value} : ∀ x ∈ [(("record" : Str), a)], fd_table.scope.names.lookup x.1 = some .local ∨ (fd_table.scope.names.lookup x.1 = some .cell ∧ ((cellsFrom (s.heap.objs.size + 1) fd_table.scope.names []).lookup x.1).isSome = true) := by
  intro x m
  rcases List.mem_singleton.mp m with rfl
  exact .inl rfl
theorem n_order (w : World) : nsIn (KV w) 3 "_law_order" = some (some (.ref 289)) := by kernel_rfl
theorem k_order (w : World) : keepIn (KV w) (.ref 289) = true := by kernel_rfl
theorem All2.keys {β : Type} {R : Value → β → Prop} {kvs : List (Str × Value)} {ds : List (Str × β)} (x : All2 (fun (kv : Str × Value) (d : Str × β) => kv.1 = d.1 ∧ R kv.2 d.2) kvs ds) : kvs.map (·.1) = ds.map (·.1) := by
  induction x with
  | nil => rfl
  | cons a _ ih => rw [List.map_cons, List.map_cons, a.1, ih]
/-- _law_table(record) -/
theorem c_table {n : Nat} {v : Value} {toks : List Str} {Es : List (Str × Itm)} {St : List Str} (R : Rm (n + 3) A) (X : Wd w s.heap) (V : RecL s.heap v toks Es St) (hz : Es.length ≤ 100) :
    Ret prog w A (.ref 294) ⟨[v], []⟩ s (fun r s' => Ev s s' ∧ s.heap.objs.size ≤ s'.heap.objs.size ∧ TabL prog w s'.heap r (tabOf Es St)) := by
  refine b_enterC X X.big (Nat.le_refl _) (binds := [("record", v)]) (body := bodyOf fd_table) R.room (fo_table X) rfl (code_of X (by kernel_rfl)) rfl (.of_eq rfl) rfl tb_kind fun L s₁ hLs B ev hg cells => ?_
  have hh := n_hA R (callEnvC fd_table L 294)
  have hcell : CellAt s₁.heap (L + 1) none := cells "name" (L + 1) rfl
  have V0 := V
  obtain ⟨l1, tl1, el1, sl1, vt1, ve1, vs1, c, c1, c2, c3, rfl, a1, a2, a3, a4, a5, a6, a7⟩ := V0
  obtain ⟨m, hm, h1⟩ : ∃ m, m = bindL (callEnvC fd_table L 294).kindOf [("record", Value.ref l1)] (fun _ => none) ∧ m "record" = some (.ref l1) := ⟨_, rfl, rfl⟩
  rw [← hm] at B
  obtain ⟨h₁, g₁, d₁, t₁, os₁⟩ := s₁
  have hL1 : @LT.lt Nat _ (L + 1) h₁.objs.size := by obtain ⟨o', q, _⟩ := hcell; exact Heap.lt_size q
  refine wpAny_execs_cons (wpAny_Assign_Name (wpAny_Dict_empty ?_))
  have k2 : ∀ b o, h₁.get? b = some o → (h₁.push { cls := .type "dict", data := .dict #[] }).get? b = some o := fun b o e => Heap.get?_push_of_some _ e
  have hcell2 := hcell.at_ fun o q _ => k2 _ _ q
  have hes : s.heap.objs.size ≤ h₁.objs.size := Nat.le_of_lt B.lt
  have ltd := Nat.le_of_lt B.lt
  replace B := B.push { cls := .type "dict", data := .dict #[] } (t₁)
  have qtd := Heap.get?_push_size h₁ (show ({ cls := .type "dict", data := .dict #[] } : Obj).isFreed = false from rfl)
  dsimp only at *
  generalize h₁.objs.size = td at *
  generalize h₁.push { cls := .type "dict", data := .dict #[] } = h₂ at *
  have hd2 : h₂.DictOf (PySem.strKind prog w) td [] := empty_dict qtd
  have hLt : L ≠ td := by show @Ne Nat _ _; omega
  refine b_store B fun h₃ B K S => ?_
  have hd3 := dictOf_kp hd2 K
  have hcell3 : CellAt h₃ (L + 1) none := hcell2.at_ fun o q _ => (S.2 _ (by show @Ne Nat _ L; omega)).trans q
  have htd3 : @LT.lt Nat _ td h₃.objs.size := by rw [S.1]; exact Heap.lt_size qtd
  clear hd2 hcell2 K S k2 qtd hcell
  refine wpAny_execs_cons (b_For (D := [L, L + 1, td]) (n := s.heap.objs.size) (e := s) (φ := fun j m h => m "record" = some (.ref l1) ∧ m "table" = some (.ref td) ∧ (∃ v, CellAt h (L + 1) v) ∧ ∃ kvs, h.DictOf (PySem.strKind prog w) td kvs ∧ All2 (fun (kv : Str × Value) d => kv.1 = d.1 ∧ Rd h kv.2 d.2) kvs ((tabOf Es St).take j)) hh ?_ (.inl ⟨_, _, rfl⟩) ?_)
  · rintro j m h h' ⟨q1, q2, ⟨v, q3⟩, kvs, q4, q5⟩ tk
    exact ⟨q1, q2, ⟨v, tk.cell q3⟩, kvs, dictOf_kp q4 tk.kp, q5.mono fun _ _ ⟨q, r⟩ => ⟨q, r.kp tk.kp⟩⟩
  refine Call_ (r_global B.wd (n_order w) (callWith_K (h₀ := h₃) B.wd (k_order w) (wpAny_items_cons (r_local B.fm ((if_neg (by decide)).trans h1) (wpAny_items_nil ⟨B.wd, ?_⟩)))))
  refine (c_order (n := n) (R.deep _) B.wd (V.kp B.old) hz).call fun v s₂ z => ?_
  obtain ⟨ev2, hs2, ol, vo, co, rfl, qo, hvo⟩ := z
  have hcell4 := hcell3.ka ev2.ka
  have hd4 := dictOf_kp hd3 ev2.kp
  replace B := B.ev ev2
  have hoz : vo.length ≤ 100 := by
    rw [hvo.length]
    have := firsts_len Es []
    rw [List.length_nil] at this
    omega
  refine ⟨ol, vo, _, rfl, IsL.isList qo, nofun, ?_, ?_, B, ⟨(if_neg (by decide)).trans h1, if_pos rfl, ⟨_, hcell4⟩, [], hd4, .nil⟩, ?_, ?_⟩
  · intro md
    simp only [List.mem_cons, List.not_mem_nil, or_false] at md
    rcases md with md | md | md
    · exact B.ne qo (by simp) md.symm
    · obtain ⟨o, q, c', _⟩ := hcell4
      exact ne_cls qo q (by rw [c']; simp) md.symm
    · obtain ⟨o, es, ep, q, c', _⟩ := hd4
      exact ne_cls qo q (by rw [c'.1]; simp) md.symm
  · intro d md
    replace hs2 : @LE.le Nat _ h₃.objs.size s₂.heap.objs.size := hs2
    simp only [List.mem_cons, List.not_mem_nil, or_false] at md
    rcases md with rfl | rfl | rfl
    · show @LT.lt Nat _ _ _; omega
    · show @LT.lt Nat _ _ _; omega
    · show @LT.lt Nat _ _ _; omega
  · rintro j v m' s' hv B' ⟨q1, q2, ⟨v0, q3⟩, kvs, q4, q5⟩
    obtain ⟨k, hk, tk, rfl⟩ := hvo.get hv
    have hkm := List.mem_of_getElem? hk
    refine wpAny_assign_Name (b_storeC B' rfl q3 (by rw [hLs]; exact Nat.le_succ _) fun h₄ B4 hc4 K4 S4 => ?_)
    have b1 : IsL h₄ l1 _ _ := B4.old.k _ _ a1 rfl
    have b4 : IsL h₄ el1 _ _ := B4.old.k _ _ a4 rfl
    have kx4 : Kx [L, L + 1, td] s'.heap h₄ := .at_ S4 (by simp)
    have z5 := a5.length
    refine wpAny_execs_cons (v_AssignComp (cl := [("name", L + 1)]) hh rfl rfl rfl B4 rfl rfl (by decide) rfl (by decide) (l := el1) (its := ve1) (IsL.isList b4) (by omega) (isAt Es k) (fun _ j y => ∃ e, Es[j]? = some e ∧ Rd s.heap y e.2.tell) ?_)
    refine Subscript_ (r_local B4.fm q1 (wpAny_Constant_int (v_idx (vs := [.ref tl1, .ref el1, .ref sl1]) (IsL.isList b1) (by decide) (by decide) rfl ⟨rfl, Ev.tok (.refl _) _, Nat.le_refl _, fun lo _ => ⟨fun _ _ _ _ x _ => x, fun _ _ _ _ x _ => x, ?_, ?_⟩⟩)))
    · intro j' v' s5 mm E' hv' ev5 hz5 hn5 hm5
      obtain ⟨e, hej, tp, y, tk', rfl, htp, hry⟩ := a5.get hv'
      have htp5 := (B4.old.trans ev5.kp).k _ _ htp rfl
      have hc5 := hc4.ka ev5.ka
      refine wpAny_tests_one (wpAny_isTrue_Compare1 (Subscript_ (r_localN hn5 hm5 (wpAny_Constant_int (item_tupleT (l := [.str e.1 tk', y]) ⟨_, htp5, rfl, 0, rfl⟩ (by decide) (by decide) (j := 0) rfl rfl (r_cell (c := L + 1) rfl hc5 (PyProof.Rows.eq_str (wpAny_truthy_bool ⟨?_, Ev.tok (.refl _) _, fun _ => ?_⟩))))))))
      · rw [isAt, hej]
      · exact Subscript_ (r_localN hn5 hm5 (wpAny_Constant_int (item_tupleT (l := [.str e.1 tk', y]) ⟨_, htp5, rfl, 0, rfl⟩ (by decide) (by decide) (j := 1) rfl rfl ⟨Ev.tok (.refl _) _, e, hej, hry⟩)))
    · intro s6 D ys c6 B6 kx6 k6 hDD hlD hall
      have hall1 : All2 (fun y I => Rd s.heap y (Itm.tell I)) ys (under Es k) := by
        have := under_all hall
        rwa [z5, under_take Es k _ (Nat.le_refl _), List.take_of_length_le (Nat.le_refl _)] at this
      have kk6 : Kp s'.heap s6.heap := K4.trans k6
      have kx6' : Kx [L, L + 1, td] s'.heap s6.heap := kx4.trans (kx6.more fun z mz => by rw [List.mem_singleton] at mz; rw [mz]; exact List.mem_cons_self)
      have hc6 : CellAt s6.heap (L + 1) (some (.str k tk)) := hc4.at_ fun o q c' => kx6 _ o (by rw [List.mem_singleton]; show ¬ @Eq Nat _ L; omega) q (by unfold tabO; rw [c'])
      have hd6 := dictOf_kp q4 kk6
      have hyz : ys.length ≤ 1000 := by
        have e1 := hall1.length
        have e2 : (under Es k).length ≤ Es.length := by rw [under, List.length_map]; exact List.length_filter_le _ _
        omega
      have hkz : kvs.length ≤ 1000 := by
        have e1 := q5.length
        rw [List.length_take, tabOf, List.length_map, ← hvo.length] at e1
        omega
      have hnk : kvs.any (fun kv => decide (kv.1 = k)) = false := by
        rw [Bool.eq_false_iff]
        intro q
        obtain ⟨kv, mk, e⟩ := List.any_eq_true.mp q
        have e := of_decide_eq_true e
        have e1 := q5.keys
        rw [List.map_take, tabOf, List.map_map, show ((fun x : Str × PyData => x.1) ∘ fun k => (k, tellD (St.any (fun y => y == k)) (under Es k))) = id from rfl, List.map_id] at e1
        have mk2 : k ∈ (firsts Es []).take j := by rw [← e1]; exact List.mem_map.mpr ⟨kv, mk, e⟩
        have hnd := firsts_nodup Es [] List.nodup_nil
        obtain ⟨i, hi, hie⟩ := List.getElem_of_mem mk2
        rw [List.length_take] at hi
        rw [List.getElem_take] at hie
        obtain ⟨hj, hje⟩ := List.getElem?_eq_some_iff.mp hk
        exact List.pairwise_iff_getElem.mp hnd i j (by omega) hj (by omega) (hie.trans hje.symm)
      refine wpAny_execs_cons (wpAny_Assign_Subscript (tab_value (St := St) B6 ((if_neg (by decide)).trans q1) (if_pos rfl) hc6 (B6.old.k _ _ a1 rfl) (B6.old.k _ _ a6 rfl) a7 hlD (hall1.mono fun _ _ r => r.kp B6.old) (under_ne hkm) hyz fun v t hr => ?_))
      have B7 := B6.tok t
      refine r_local B7.fm ((if_neg (by decide)).trans q2) (r_cell (c := L + 1) rfl hc6 (wpAny_setItem_pairs (PySem.strKind_is prog w k tk) hd6 (fun h₇ hd7 S7 => ?_) (by rw [sizeLine_eq]; omega)))
      obtain ⟨otd, qtd, ctd⟩ : ∃ o, s6.heap.get? td = some o ∧ o.cls = .type "dict" := by obtain ⟨o, es, ep, q, he, _⟩ := hd6; exact ⟨o, q, he.1⟩
      have hc7 : CellAt h₇ (L + 1) (some (.str k tk)) := hc6.at_ fun o q c' => (S7.2 _ (ne_cls qtd q (by rw [c', ctd]; simp))).trans q
      have lst7 : ∀ b o, s6.heap.get? b = some o → o.cls = .type "list" → h₇.get? b = some o := fun b o q c' => (S7.2 _ (ne_cls qtd q (by rw [c', ctd]; simp))).trans q
      refine wpAny_execs_nil (env := envT L) ⟨⟨_, B7.at_ S7 ltd (B7.ne qtd (by rw [ctd]; simp)) ⟨_, qtd, nc_cls (by rw [ctd]; simp)⟩, (if_neg (by decide)).trans q1, (if_neg (by decide)).trans q2, ⟨_, hc7⟩, _, hd7, ?_⟩, kx6'.trans (.at_ S7 (by simp))⟩
      rw [stored, hnk, if_neg (by decide)]
      have htk : (tabOf Es St).take (j + 1) = (tabOf Es St).take j ++ [(k, tellD (St.any (fun y => y == k)) (under Es k))] := by
        rw [List.take_succ, tabOf, List.getElem?_map, hk]; rfl
      rw [htk]
      refine All2.append ?_ (.cons ⟨rfl, rd_tellD_at lst7 hr⟩ .nil)
      have hin : ∀ d ∈ (tabOf Es St).take j, ∃ b Is, d.2 = tellD b Is := fun d md => by
        have := List.mem_of_mem_take md
        rw [tabOf] at this
        obtain ⟨k', _, rfl⟩ := List.mem_map.mp this
        exact ⟨_, _, rfl⟩
      have q5' : All2 (fun (kv : Str × Value) d => kv.1 = d.1 ∧ Rd s6.heap kv.2 d.2) kvs ((tabOf Es St).take j) := q5.mono fun _ _ ⟨q, r⟩ => ⟨q, r.kp kk6⟩
      clear q5
      generalize (tabOf Es St).take j = ds at q5' hin
      clear hd6 hd7 hnk hkz q4
      induction q5' with
      | nil => exact .nil
      | @cons a d as ds x y ih =>
        obtain ⟨b, Is, e⟩ := hin d List.mem_cons_self
        refine .cons ⟨x.1, ?_⟩ (ih fun d' m' => hin d' (List.mem_cons_of_mem _ m'))
        have x2 := x.2
        rw [e] at x2 ⊢
        exact rd_tellD_at lst7 x2
  · rintro m' s' B' ⟨q1, q2, q3, kvs, q4, q5⟩
    refine wpAny_execs_cons (wpAny_Return_some (r_local B'.fm q2 ⟨B'.out.ev (Nat.le_refl _), Nat.le_of_lt B'.lt, td, kvs, rfl, Nat.le_trans X.big ltd, q4, ?_⟩))
    rwa [List.take_of_length_le (by rw [tabOf, List.length_map, hvo.length]; exact Nat.le_refl _)] at q5
end
end Mine
end

-- XV
section
open PySem PySem.W PySem.Calls PyProof.Rows
set_option maxHeartbeats 4000000
namespace Mine
abbrev frs (l : List Env) : List Addr := l.filterMap (·.frame)
/-- frames of functions, all there -/
abbrev FrOk (h : Heap) (l : List Env) : Prop := h.FunFrames {} l
theorem no_heap (b : Addr) : ({} : Heap).get? b = none := rfl
/-- an exception that has left a frame: its record is vs, its traceback T marks no flight -/
def XAt (h : Heap) (e : Addr) (cls : Value) (vs : Array Value) (T : Addr) : Prop :=
  ∃ oe oT ts, h.get? e = some oe ∧ oe.cls = cls ∧ oe.data = .fields vs ∧ vs[1]? = some (.ref T) ∧ T ≠ e ∧ h.get? T = some oT ∧ oT.data = .fields ts ∧ ts[3]? = some .none ∧ oT.cls = .type "traceback"
def tbOf (vs : Array Value) : List Addr := match vs[1]? with | some (Value.ref T) => [T] | _ => []
/-- all is kept but the objects of D; frames of l keep all but their slots -/
structure Fs (l : List Env) (D : List Addr) (h h' : Heap) : Prop where
  k : ∀ b o, b ∉ frs l → b ∉ D → h.get? b = some o → h'.get? b = some o
  f : ∀ b o, b ∈ frs l → b ∉ D → h.get? b = some o → ∃ sl, h'.get? b = some { o with slots := sl }
theorem Fs.trans {l : List Env} {D : List Addr} {a b c : Heap} (x : Fs l D a b) (y : Fs l D b c) : Fs l D a c :=
  ⟨fun z o n d e => y.k z o n d (x.k z o n d e), fun z o m d e => let ⟨sl, e1⟩ := x.f z o m d e; let ⟨sl', e2⟩ := y.f z _ m d e1; ⟨sl', e2⟩⟩
theorem Fs.keep {l : List Env} {D : List Addr} {h h' : Heap} (k : ∀ b o, b ∉ D → h.get? b = some o → h'.get? b = some o) : Fs l D h h' := ⟨fun b o _ d e => k b o d e, fun b o _ d e => ⟨o.slots, k b o d e⟩⟩
/-- a field of a record is written -/
abbrev fput (h : Heap) (a : Addr) (i : Nat) (v : Value) : Heap := h.update a (Obj.mapFields (·.setIfInBounds i v))
theorem fput_ne {h : Heap} {a b : Addr} {i : Nat} {v : Value} (n : b ≠ a) : (fput h a i v).get? b = h.get? b := Heap.get?_update_other _ _ (Ne.symm n)
theorem fput_at {h : Heap} {a : Addr} {i : Nat} {v : Value} {o : Obj} {vs : Array Value} (q : h.get? a = some o) (d : o.data = .fields vs) :
    ∃ o', (fput h a i v).get? a = some o' ∧ o'.cls = o.cls ∧ o'.data = .fields (vs.setIfInBounds i v) :=
  have d' := Obj.data_mapFields d (·.setIfInBounds i v)
  ⟨_, Heap.get?_update_self _ q (Obj.isFreed_of_fields d'), Obj.cls_mapFields _ _, d'⟩
/-- the heap, once an exception e has got its traceback oT, that marks no flight -/
def noted (h : Heap) (oT : Obj) (e : Addr) : Heap := fput (fput (h.push oT) e 1 (.ref h.objs.size)) h.objs.size 3 .none
theorem noted_ne {h : Heap} {oT o : Obj} {e b : Addr} (n : b ≠ e) (q : h.get? b = some o) : (noted h oT e).get? b = some o := by
  unfold noted
  rw [fput_ne (Nat.ne_of_lt (Heap.lt_size q)), fput_ne n]
  exact Heap.get?_push_of_some _ q
theorem noted_at {h : Heap} {oT oe : Obj} {e : Addr} {vs ts : Array Value} (q : h.get? e = some oe) (d : oe.data = .fields vs) (n : 1 < vs.size) (c : oT.cls = .type "traceback") (dT : oT.data = .fields ts) (nT : 3 < ts.size) :
    XAt (noted h oT e) e oe.cls (vs.setIfInBounds 1 (.ref h.objs.size)) h.objs.size := by
  have ne : h.objs.size ≠ e := Nat.ne_of_gt (Heap.lt_size q)
  obtain ⟨o1, q1, c1, d1⟩ := fput_at (i := 1) (v := .ref h.objs.size) (Heap.get?_push_of_some oT q) d
  have qT : (fput (h.push oT) e 1 (.ref h.objs.size)).get? h.objs.size = some oT := (fput_ne ne).trans (Heap.get?_push_size h (Obj.isFreed_of_fields dT))
  obtain ⟨o2, q2, c2, d2⟩ := fput_at (i := 3) (v := .none) qT dT
  refine ⟨o1, o2, _, (fput_ne (Ne.symm ne)).trans q1, c1, d1, ?_, ne, q2, d2, ?_, c2.trans c⟩
  · rw [Array.getElem?_setIfInBounds_self, if_pos n]
  · rw [Array.getElem?_setIfInBounds_self, if_pos nT]
section
variable {M : Model} {A : Around} {E : Value → Shared → Prop} {s : Shared}
/-- an object with fields is no frame -/
theorem no_frame {l : List Env} {a : Addr} {o : Obj} {vs : Array Value} (hl : FrOk s.heap l) (q : s.heap.get? a = some o) (d : o.data = .fields vs) : a ∉ frs l := fun m => by
  obtain ⟨_, o', q', n⟩ := hl.mem m
  cases q.symm.trans q'
  exact n vs d
/-- a traceback's entry is laid, and put ahead of e's -/
theorem x_entry {env : Env} {outer : List Env} {L e : Addr} {oe : Obj} {vs : Array Value} {head : Value} {hadNext : Bool} {Q : Unit → Shared → Prop}
    (hfr : A.frames = some (env :: outer)) (hl : FrOk s.heap (env :: outer)) (hf : env.frame = some L) (he : s.heap.get? e = some oe) (hd : oe.data = .fields vs) (hsz : 1 < vs.size)
    (h : ∀ h' T', Fs (env :: outer) [e] s.heap h' → XAt h' e oe.cls (vs.setIfInBounds 1 (.ref T')) T' → s.heap.get? T' = none → Q () { s with heap := h' }) :
    wpAny M A (do let a ← frameOf env; let pl ← entryPlaceOf L hadNext; let b ← EntryCells.newEntry head a .none (rawInt L) .none pl; setField (.ref e) 1 b) (fun _ s' => wpAny M A (setFlight (.ref e) none) Q E s') E s := by
  refine wpAny_bind (wpAny_frameOf_fun hfr hl hf fun h₁ so => wpAny_bind (wpAny_entryPlaceOf fun pl hpl => wpAny_bind ?_))
  obtain ⟨size, same, slots⟩ := so
  have q₁ : h₁.get? e = some oe := (same e (no_frame hl he hd)).trans he
  unfold EntryCells.newEntry newFields
  refine wpAny_newObj_type ?_ (hpl.sizeOk5 _ _ _ _ _)
  generalize hts : ([head, .ref L, .none, rawInt L, .none] ++ (if pl.isEmpty then List.replicate 6 Value.none else pl)).toArray = ts
  have nT : 3 < ts.size := by rw [← hts, List.size_toArray, List.length_append]; exact Nat.lt_of_lt_of_le (show 3 < 5 by decide) (Nat.le_add_right ..)
  generalize hoT : ({ cls := .type "traceback", dict := none, data := .fields ts } : Obj) = oT
  have cT : oT.cls = .type "traceback" := hoT ▸ rfl
  have dT : oT.data = .fields ts := hoT ▸ rfl
  have x := noted_at q₁ hd hsz cT dT nT
  obtain ⟨o1, q1, -, d1⟩ := fput_at (i := 1) (v := .ref h₁.objs.size) (Heap.get?_push_of_some oT q₁) hd
  have ne : h₁.objs.size ≠ e := Nat.ne_of_gt (Heap.lt_size q₁)
  refine wpAny_setField (Heap.get?_push_of_some oT q₁) hd hsz (wpAny_setFlight_none q1 d1 ?_ ((fput_ne ne).trans (Heap.get?_push_size h₁ (Obj.isFreed_of_fields dT))) dT nT (h (noted h₁ oT e) h₁.objs.size ⟨fun b o n d q => ?_, fun b o _ d q => ?_⟩ x (Heap.get?_none_of_le (Nat.le_of_eq size.symm))))
  · rw [Array.getElem?_setIfInBounds_self, if_pos hsz]
  · exact noted_ne (fun z => d (z ▸ List.mem_cons_self)) ((same b n).trans q)
  · obtain ⟨sl, q'⟩ := slots b o q
    exact ⟨sl, noted_ne (fun z => d (z ▸ List.mem_cons_self)) q'⟩
/-- an exception leaves a frame, or comes to a try -/
theorem x_leave {env : Env} {outer : List Env} {L e : Addr} {oe : Obj} {vs : Array Value} {Q : Unit → Shared → Prop}
    (hfr : A.frames = some (env :: outer)) (hl : FrOk s.heap (env :: outer)) (hf : env.frame = some L) (he : s.heap.get? e = some oe) (hd : oe.data = .fields vs)
    (hT : vs[1]? = some .none ∨ ∃ T oT ts, vs[1]? = some (.ref T) ∧ T ≠ e ∧ s.heap.get? T = some oT ∧ oT.data = .fields ts ∧ ts[3]? = some .none)
    (h : ∀ h' T', Fs (env :: outer) (e :: tbOf vs) s.heap h' → XAt h' e oe.cls (vs.setIfInBounds 1 (.ref T')) T' → s.heap.get? T' = none → Q () { s with heap := h' }) :
    wpAny M A (noteFrame (.ref e) env) (fun _ s₂ => wpAny M A (setFlight (.ref e) none) Q E s₂) E s := by
  unfold noteFrame
  rw [hf]
  rcases hT with h1 | ⟨T, oT, ts, h1, ne, hq, hdT, h3⟩
  · obtain ⟨hsz, -⟩ := Array.getElem?_eq_some_iff.mp h1
    have tb : tbOf vs = [] := by rw [tbOf, h1]
    rw [tb] at h
    exact wpAny_bind (wpAny_field he hd h1 (x_entry hfr hl hf he hd hsz h))
  · obtain ⟨hsz, -⟩ := Array.getElem?_eq_some_iff.mp h1
    obtain ⟨hs3, -⟩ := Array.getElem?_eq_some_iff.mp h3
    have tb : tbOf vs = [T] := by rw [tbOf, h1]
    rw [tb] at h
    obtain ⟨o1, q1, -, -⟩ := fput_at (i := 3) (v := .none) hq hdT
    have nT := no_frame hl hq hdT
    have okF : FrOk (fput s.heap T 3 .none) (env :: outer) := hl.of_keeps fun b o q n => ⟨o, (fput_ne fun z => by subst z; cases hq.symm.trans q; exact n ts hdT).trans q, rfl⟩
    refine wpAny_bind (wpAny_field he hd h1 ?_)
    dsimp only
    rw [if_pos (show (Value.ref T != Value.none) = true from rfl)]
    refine wpAny_bind (wpAny_field hq hdT h3 ?_)
    rw [if_neg (show ¬ (Value.none == rawInt L) = true from nofun)]
    refine wpAny_bind (wpAny_setField hq hdT hs3 (x_entry (s := { s with heap := fput s.heap T 3 .none }) hfr okF hf ((fput_ne (Ne.symm ne)).trans he) hd hsz fun h' T' fs x n => h h' T' ⟨fun b o nb d q => ?_, fun b o mb d q => ?_⟩ x ?_))
    · exact fs.k b o nb (fun m => d (by rw [List.mem_singleton.mp m]; exact List.mem_cons_self)) ((fput_ne fun z => d (by rw [z]; simp)).trans q)
    · exact fs.f b o mb (fun m => d (by rw [List.mem_singleton.mp m]; exact List.mem_cons_self)) ((fput_ne fun z => d (by rw [z]; simp)).trans q)
    · by_cases z : T' = T
      · subst z
        exact nomatch q1.symm.trans n
      · exact (fput_ne z).symm.trans n
end
end Mine
end

-- XW
section
open PySem PySem.W PySem.Calls PyProof.Rows
set_option maxHeartbeats 4000000
namespace Mine
/-- frames of functions, there as frames -/
def FrC (h : Heap) (l : List Env) : Prop := ∀ env ∈ l, env.scope.kind ≠ .module ∧ ∃ L o es n, env.frame = some L ∧ h.get? L = some o ∧ o.cls = .type "frame" ∧ o.data = .dict es n
theorem FrC.fun {h : Heap} : ∀ {l : List Env}, FrC h l → FrOk h l
  | [], _ => trivial
  | env :: r, x => by
    obtain ⟨hk, L, o, es, n, hf, q, c, d⟩ := x env List.mem_cons_self
    exact ⟨hk, ⟨L, o, hf, no_heap L, q, fun vs e => by rw [d] at e; cases e⟩, FrC.fun fun e m => x e (List.mem_cons_of_mem _ m)⟩
theorem FrC.mem {h : Heap} {l : List Env} (x : FrC h l) {b : Addr} (m : b ∈ frs l) : ∃ o es n, h.get? b = some o ∧ o.cls = .type "frame" ∧ o.data = .dict es n := by
  obtain ⟨env, me, e⟩ := List.mem_filterMap.mp m
  obtain ⟨_, L, o, es, n, hf, q, c, d⟩ := x env me
  rw [hf] at e; cases e
  exact ⟨o, es, n, q, c, d⟩
theorem FrC.cons {h : Heap} {l : List Env} {env : Env} {L : Addr} {m : Str → Option Value} (x : FrC h l) (hk : env.scope.kind ≠ .module) (hf : env.frame = some L) (F : Fm h L m) : FrC h (env :: l) := fun e me => by
  rcases List.mem_cons.mp me with rfl | me
  · obtain ⟨o, es, ep, q, d, _⟩ := F.ns
    obtain ⟨o', q', c⟩ := F.cls
    rw [q] at q'; cases q'
    exact ⟨hk, L, o, es, ep, hf, q, c, d⟩
  · exact x e me
/-- a call that may have given slots to the frames of l -/
structure Fv (l : List Env) (s s' : Shared) : Prop where
  k : ∀ b o, b ∉ frs l → s.heap.get? b = some o → tabO o = false → s'.heap.get? b = some o
  f : ∀ b o, b ∈ frs l → s.heap.get? b = some o → ∃ sl, s'.heap.get? b = some { o with slots := sl }
  t : ∀ b o, s.heap.get? b = some o → tabO o = true → Grown s'.heap b o
  os : s'.os = s.os
  gens : GX s.gens s'.gens
theorem FrC.fv {l l' : List Env} {s s' : Shared} (x : FrC s.heap l) (v : Fv l' s s') : FrC s'.heap l := fun env m => by
  obtain ⟨hk, L, o, es, n, hf, q, c, d⟩ := x env m
  by_cases mL : L ∈ frs l'
  · obtain ⟨sl, q'⟩ := v.f L o mL q
    exact ⟨hk, L, _, es, n, hf, q', c, d⟩
  · exact ⟨hk, L, o, es, n, hf, v.k L o mL q (by unfold tabO; rw [c]), c, d⟩
theorem Ev.fv {s s' : Shared} (x : Ev s s') {l : List Env} (f : FrC s.heap l) : Fv l s s' :=
  ⟨fun b o _ q p => x.ka.k b o q p, fun b o m q => ⟨o.slots, x.ka.k b o q (by
    obtain ⟨o', _, _, q', c, _⟩ := f.mem m
    rw [q] at q'; cases q'
    unfold tabO; rw [c])⟩, x.ka.t, x.os, x.gens⟩
theorem Fv.trans {l : List Env} {a b c : Shared} (f : FrC b.heap l) (x : Fv l a b) (y : Fv l b c) : Fv l a c :=
  ⟨fun z o n q p => y.k z o n (x.k z o n q p) p, fun z o m q => let ⟨_, e⟩ := x.f z o m q; let ⟨sl, e'⟩ := y.f z _ m e; ⟨sl, e'⟩,
   fun z o q p => grown_trans (R := fun _ => True) (fun z o _ q p => y.t z o q p) (fun z o q cd => y.k z o (fun m => by
     obtain ⟨o', es, n, q', c', d⟩ := f.mem m
     rw [q] at q'; cases q'
     exact nc_dict d cd) q (code_tab cd)) trivial (x.t z o q p) p, y.os.trans x.os, x.gens.trans y.gens⟩
theorem Fv.kp {l : List Env} {s s' : Shared} (f : FrC s.heap l) (x : Fv l s s') : Kp s.heap s'.heap :=
  ⟨fun b o q p => x.k b o (fun m => by
    obtain ⟨o', _, _, q', c, _⟩ := f.mem m
    rw [q] at q'; cases q'
    unfold pl at p; rw [c] at p
    exact absurd (show (!turning.contains "frame") = true from p) (by decide)) q (pl_tab p), x.t⟩
theorem Fv.fm {l : List Env} {s s' : Shared} (x : Fv l s s') {L : Addr} {m : Str → Option Value} (F : Fm s.heap L m) : Fm s'.heap L m := by
  obtain ⟨o, es, ep, q, d, r⟩ := F.ns
  obtain ⟨o', q', c⟩ := F.cls
  rw [q] at q'; cases q'
  by_cases mL : L ∈ frs l
  · obtain ⟨sl, q'⟩ := x.f L o mL q
    exact ⟨⟨_, es, ep, q', d, r⟩, ⟨_, q', c⟩⟩
  · have q' := x.k L o mL q (by unfold tabO; rw [c])
    exact ⟨⟨o, es, ep, q', d, r⟩, ⟨o, q', c⟩⟩
/-- what holds of all but new objects and the slots of frames -/
theorem Fs.fv {l : List Env} {D : List Addr} {s : Shared} {h' : Heap} {t : Nat} (f : FrC s.heap l) (x : Fs l D s.heap h') (hD : ∀ b ∈ D, s.heap.get? b = none) : Fv l s { s with heap := h', toks := t } :=
  ⟨fun b o n q _ => x.k b o n (fun m => by rw [hD b m] at q; cases q) q, fun b o m q => x.f b o m (fun m => by rw [hD b m] at q; cases q) q, fun b o q p => by
    by_cases m : b ∈ frs l
    · obtain ⟨o', _, _, q', c, _⟩ := f.mem m
      rw [q] at q'; cases q'
      rw [tab_cls p] at c; cases c
    · exact .inl (x.k b o m (fun m => by rw [hD b m] at q; cases q) q), rfl, .refl _⟩
section
variable {prog : Program} {w : World} {A : Around} {E : Value → Shared → Prop} {s : Shared} {env : Env}
theorem entry_unchain : entryFor table "proto.unchain" = some Builtin.«proto.unchain» := entryFor_of_tree (by kernel_rfl)
/-- a new exception is raised while another is handled -/
theorem x_raise {α : Type} {e g : Addr} {oe og : Obj} {vs gvs : Array Value} {Q : α → Shared → Prop} (hh : A.handled = some (.ref g)) (hne : e ≠ g) (he : s.heap.get? e = some oe) (hd : oe.data = .fields vs) (hz : 2 < vs.size) (hg : s.heap.get? g = some og) (hgd : og.data = .fields gvs) (hg2 : gvs[2]? = some .none)
    (h : ∀ h', h'.get? e = some (oe.mapFields (·.setIfInBounds 2 (.ref g))) → Heap.SameBut e s.heap h' → E (.ref e) { s with heap := h' }) : wpAny (model prog w) A (raiseNew (.ref e) : Sem α) Q E s := by
  unfold raiseNew
  refine wpAny_bind (wpAny_handled ?_)
  rw [hh]
  dsimp only
  rw [if_pos (show (Value.ref g != Value.ref e) = true from by simpa using Ne.symm hne)]
  refine wpAny_bind (wpAny_holding (wpAny_runValue (codeAny_builtin entry_unchain ?_)))
  unfold Builtin.«proto.unchain»
  refine wpAny_bind (wpAny_field hg hgd hg2 ?_)
  rw [if_pos (by decide)]
  refine wpAny_bind (wpAny_pure (wpAny_pure ?_))
  refine wpAny_bind (m := updateField e 2 (Value.ref g)) ?_
  show wpAny _ _ (setField (.ref e) 2 (Value.ref g)) _ _ _
  exact wpAny_setField he hd hz (wpAny_throw (h _ (Heap.get?_update_self _ he (Obj.isFreed_of_fields (Obj.data_mapFields hd _))) (Heap.SameBut.update ..)))
end
end Mine
end

-- XX
section
open PySem PySem.W PySem.Calls PyProof.Rows
set_option maxHeartbeats 4000000
namespace Mine
/-- what a call that raises X leaves behind -/
def Xr (l : List Env) (s : Shared) (X : String) (ctx : Value) (e : Value) (s' : Shared) : Prop :=
  ∃ ea vs T, e = .ref ea ∧ s.heap.get? ea = none ∧ s.heap.get? T = none ∧ Fv l s s' ∧ XAt s'.heap ea (.type X) vs T ∧ vs[2]? = some ctx
theorem Fv.drop {l : List Env} {env : Env} {s s₂ s₃ : Shared} {L : Addr} (f : FrC s.heap l) (f2 : FrC s₂.heap (env :: l)) (hf : env.frame = some L) (hL : s.heap.objs.size ≤ L) (ev : Ev s s₂) (v : Fv (env :: l) s₂ s₃) : Fv l s s₃ := by
  have hfr : frs (env :: l) = L :: frs l := by rw [frs, List.filterMap_cons, hf]
  have hn : ∀ b o, b ∉ frs l → s.heap.get? b = some o → b ∉ frs (env :: l) := fun b o n q m => by
    rw [hfr] at m
    rcases List.mem_cons.mp m with rfl | m
    · exact absurd (Heap.lt_size q) (Nat.not_lt_of_le hL)
    · exact n m
  refine ⟨fun b o n q p => v.k b o (hn b o n q) (ev.ka.k b o q p) p, fun b o m q => v.f b o (by rw [hfr]; exact List.mem_cons_of_mem _ m) (ev.ka.k b o q ?_), fun b o q p => ?_, v.os.trans ev.os, ev.gens.trans v.gens⟩
  · obtain ⟨o', _, _, q', c, _⟩ := f.mem m
    rw [q] at q'; cases q'
    unfold tabO; rw [c]
  · exact grown_trans (R := fun _ => True) (fun z o _ q p => v.t z o q p) (fun z o q cd => v.k z o (fun m => by
      obtain ⟨o', es, n, q', c', d⟩ := f2.mem m
      rw [q] at q'; cases q'
      exact nc_dict d cd) q (code_tab cd)) trivial (ev.ka.t b o q p) p
section
variable {prog : Program} {w : World} {A : Around} {E : Value → Shared → Prop} {s : Shared} {env : Env}
theorem x_out {L : Addr} {m : Str → Option Value} {outer : List Env} {s₂ : Shared} {h₃ : Heap} {t : Nat} {ea : Addr} {oe : Obj} {vs : Array Value} {X : String} {ctx : Value} {M : Model} (hfr : A.frames = some outer) (f : FrC s.heap outer) (hk : env.scope.kind ≠ .module) (hf : env.frame = some L)
    (B : Bd w s.heap.objs.size s L m s₂) (keep : ∀ b o, s₂.heap.get? b = some o → h₃.get? b = some o) (hen : s₂.heap.get? ea = none) (he : h₃.get? ea = some oe) (hc : oe.cls = .type X) (hd : oe.data = .fields vs) (h1 : vs[1]? = some .none) (h2 : vs[2]? = some ctx) :
    wpAny M (A.deeper env) (leaving env (.ref ea)) (fun _ s'' => Xr outer s X ctx (.ref ea) s'') (fun _ _ => False) { s₂ with heap := h₃, toks := t } := by
  have ev : Ev s s₂ := B.out.ev (Nat.le_refl _)
  have f2 : FrC s₂.heap (env :: outer) := (f.fv (ev.fv f)).cons hk hf B.fm
  have f3 : FrC h₃ (env :: outer) := fun e me => by
    obtain ⟨a, L', o, es, n, b, q, r⟩ := f2 e me
    exact ⟨a, L', o, es, n, b, keep _ _ q, r⟩
  unfold leaving
  refine wpAny_bind (x_leave (s := { s₂ with heap := h₃, toks := t }) (Around.frames_deeper hfr) f3.fun hf he hd (.inl h1) fun h' T' fs x n => ?_)
  rw [tbOf, h1] at fs
  have fs2 : Fs (env :: outer) [ea] s₂.heap h' := ⟨fun b o nb d q => fs.k b o nb d (keep b o q), fun b o mb d q => fs.f b o mb d (keep b o q)⟩
  have fv2 := fs2.fv (t := t) f2 (fun b mb => by rw [List.mem_singleton] at mb; rw [mb]; exact hen)
  have old : ∀ z, s₂.heap.get? z = none → s.heap.get? z = none := fun z q => by
    cases r : s.heap.get? z with
    | none => rfl
    | some o =>
      exfalso
      cases p : tabO o with
      | false => have := ev.ka.k z o r p; rw [q] at this; cases this
      | true =>
        rcases ev.ka.t z o r p with g | ⟨_, _, _, _, g, _⟩
        · rw [q] at g; cases g
        · rw [q] at g; cases g
  refine ⟨ea, _, T', rfl, old _ hen, old _ ?_, Fv.drop f f2 hf B.lo ev fv2, by rw [← hc]; exact x, ?_⟩
  · cases r : s₂.heap.get? T' with
    | none => rfl
    | some o =>
      have n : h₃.get? T' = none := n
      exact absurd ((keep _ _ r).symm.trans n) nofun
  · rw [Array.getElem?_setIfInBounds_ne (by decide)]; exact h2
/-- a def's body is walked, to an exception -/
theorem b_enterX {n : Nat} {R : Value → Shared → Prop} {a : Addr} {o : Obj} {fd : FuncData} {args : Args} {binds : List (Str × Value)} {body : List Stmt} (X : Wd w s.heap) (hn : 333 ≤ n) (hns : n ≤ s.heap.objs.size)
    (hroom : A.depth < recursionLimit) (ho : s.heap.get? a = some o) (hdata : o.data = .func fd) (hcd : s.heap.CodeRec fd.code fd.qualname)
    (hbody : fd.body = .stmts body) (hbind : BindsNew s fd args binds)
    (hcell : ∀ x ∈ fd.scope.names, x.2 ≠ .cell) (hloc : ∀ x ∈ binds, fd.scope.names.lookup x.1 = some .local)
    (h : ∀ L s₁, Bd w n s L (fun x => binds.reverse.lookup x) s₁ → s.heap.objs.size ≤ L → Ev s s₁ →
      wpAny (model prog w) (A.deeper (callEnv fd L a)) (execs body (callEnv fd L a)) (fun _ _ => False) (fun e s' => wpAny (model prog w) (A.deeper (callEnv fd L a)) (leaving (callEnv fd L a) e) (fun _ s'' => R e s'') (fun _ _ => False) s') s₁)
    (hco : fd.scope.isCoroutine = false := by rfl) (hgen : fd.scope.isGenerator = false := by rfl) (hk : fd.scope.kind = .function := by rfl) : codeAny (model prog w) A (.call (.ref a) args) (fun r s' => match r with | .ok _ => False | .error e => R e s') s := by
  refine codeAny_call_function hroom ho hdata hco hgen hbody hcd (hbind _ _ _ _ fun h' t k hz => ?_)
  refine v_newEnv hcell hloc (fun h₀ F hk₀ => ⟨(nolimit X).keeps fun b o e => hk₀ b o (k b o e), codeAny_func ?_⟩) hk
  have keep : ∀ b o, s.heap.get? b = some o → h₀.get? b = some o := fun b o e => hk₀ b o (k b o e)
  exact wpAny_mono (h _ _ ⟨⟨.of keep, rfl, .refl _⟩, F, Nat.le_trans hns hz, hn, X⟩ hz ⟨.of keep, rfl, .refl _⟩) (fun f s' z => z.elim) fun e s' z => wpAny_mono z (fun _ _ z => z) fun _ _ z => z.elim
/-- self[place], beyond the tokens -/
theorem c_getitem_out {j : Nat} {a : Addr} {vs : List Value} {kvs : List (Str × Value)} {S : Str → Bool} {t : Tok} {outer : List Env} (hroom : A.depth < recursionLimit) (hh : A.handled = none) (hfr : A.frames = some outer) (f : FrC s.heap outer) (X : Wd w s.heap) (P : PRx prog w s.heap a vs kvs S) (hj : vs.length ≤ j) (hz : j < 1000) :
    codeAny (model prog w) A (.call (.ref 79) ⟨[.ref a, .int j t], []⟩) (fun r s' => match r with | .ok _ => False | .error e => Xr outer s "IndexError" .none e s') s := by
  obtain ⟨dx, tl, td, an, par, nm, md, k, ha, hx, hl, hd, hs, hS, _, _⟩ := P
  refine b_enterX X X.big (Nat.le_refl _) (binds := [("self", .ref a), ("i", .int j t)]) (body := bodyOf fd_getitem) hroom (fo_getitem X) rfl (code_of X (by kernel_rfl)) rfl (.of_eq rfl) (by decide) (locs rfl) fun L s₁ B hL ev => ?_
  refine g_head B rfl kitx_int (is_int_intslice w) nofun fun s₂ B ev2 => ?_
  have kp := ev.kp.trans ev2.kp
  refine wpAny_execs_cons (wpAny_Return_some (Subscript_ (Attribute_Name_ (r_local B.fm rfl (pr_get B.wd (kp.k _ _ ha rfl) (kp.k _ _ hx rfl) (c_tl w) (s_tl w) rfl rfl (r_local B.fm rfl ?_))))))
  refine tail_any (isList_kp hl kp).typeIs list_getitem_lookup (wpAny_getItem_list_out hh (isList_kp hl kp) (.inr (by rw [List.size_toArray]; omega)) (by omega) (by omega) fun h' tk e N => ?_) (by with_unfolding_all rfl)
  obtain ⟨ob, tp, he, hc, hd'⟩ := N.there
  exact x_out hfr f nofun rfl (B.tok (s₂.toks + 1)) N.keeps N.new he hc hd' rfl rfl
/-- a KeyError is raised while g is handled -/
theorem x_keyerror {α : Type} {g : Addr} {key : Value} {og : Obj} {gvs : Array Value} {Q : α → Shared → Prop} (hh : A.handled = some (.ref g)) (hg : s.heap.get? g = some og) (hgd : og.data = .fields gvs) (hg2 : gvs[2]? = some .none)
    (h : ∀ h' e oe vs, (∀ b o, s.heap.get? b = some o → h'.get? b = some o) → s.heap.get? e = none → h'.get? e = some oe → oe.cls = .type "KeyError" → oe.data = .fields vs → vs[1]? = some .none → vs[2]? = some (.ref g) → E (.ref e) { s with heap := h' }) :
    wpAny (model prog w) A (newExc (.type "KeyError") [key] >>= fun e => raiseNew e) Q E s := by
  refine wpAny_bind (wpAny_newExc_plain plainExc_KeyError fun h₁ e N => ?_)
  obtain ⟨t, he, -, -⟩ := N.there
  have fresh : ∀ b o, s.heap.get? b = some o → b ≠ e := fun b o q z => by rw [z, N.new] at q; cases q
  refine x_raise hh (Ne.symm (fresh g og hg)) he rfl (show 2 < 6 by decide) (N.keeps _ _ hg) hgd hg2 fun h₂ he₂ S => ?_
  exact h h₂ e _ _ (fun b o q => (S.2 b (fresh b o q)).trans (N.keeps b o q)) N.new he₂ (Obj.cls_mapFields _ _) (Obj.data_mapFields rfl _) rfl rfl
/-- d[key], missing, while another exception is handled -/
theorem x_missing {d g : Addr} {k : Str} {key : Value} {f : Str → Option Value} {og : Obj} {gvs : Array Value} {Q : Value → Shared → Prop} (hkey : (PySem.strKind prog w).is k key = true) (hd : (d == sysModules) = false) (hm : s.heap.MapOf (PySem.strKind prog w) d f) (hv : f k = none)
    (hh : A.handled = some (.ref g)) (hg : s.heap.get? g = some og) (hgd : og.data = .fields gvs) (hg2 : gvs[2]? = some .none)
    (h : ∀ h' e oe vs, (∀ b o, s.heap.get? b = some o → h'.get? b = some o) → s.heap.get? e = none → h'.get? e = some oe → oe.cls = .type "KeyError" → oe.data = .fields vs → vs[1]? = some .none → vs[2]? = some (.ref g) → E (.ref e) { s with heap := h', toks := s.toks + 1 }) :
    wpAny (model prog w) A (getItem (.ref d) key) Q E s := by
  have T : s.TypeIs (.ref d) "dict" := hm.typeIs
  have plain : ¬ (Value.type "dict" != Value.type "dict") = true := by decide
  have body : ∀ {Q' : Fin → Shared → Prop} {E' : Value → Shared → Prop}, (∀ h' e oe vs, (∀ b o, s.heap.get? b = some o → h'.get? b = some o) → s.heap.get? e = none → h'.get? e = some oe → oe.cls = .type "KeyError" → oe.data = .fields vs → vs[1]? = some .none → vs[2]? = some (.ref g) → E' (.ref e) { s with heap := h', toks := s.toks + 1 }) →
      wpAny (model prog w) A.in1 (Builtin.«dict.__getitem__» ⟨[.ref d, key], []⟩) Q' E' s := fun h' => by
    refine wpAny_bind (m := dictGet d key) (wpAny_dictGet_of hkey hm ?_)
    rw [hv]
    refine wpAny_bind (m := Builtin.Dict.missed d key) (wpAny_missed_other hd (wpAny_bind (wpAny_typeOf (s := { s with toks := s.toks + 1 }) (T := "dict") T ?_)))
    rw [if_neg plain]
    exact wpAny_bind (wpAny_rule (x_keyerror (s := { s with toks := s.toks + 1 }) hh hg hgd hg2 h'))
  unfold getItem
  refine wpAny_holding ?_
  exact wpAny_bind (wpAny_sequenceKey T (by decide) (wpAny_bind (wpAny_callSpecial?_slot (name := Str.ofString "__getitem__") T F.slot_dict_getitem (wpAny_call_entry F.slot_dict_getitem T F.entry_dict_getitem (body h) (args_dict_getitem _ _)))))
/-- self[k], for no name, while another exception is handled -/
theorem c_getitem_missing {g a : Addr} {vs : List Value} {kvs : List (Str × Value)} {S : Str → Bool} {k : Str} {t : Tok} {outer : List Env} {og : Obj} {gvs : Array Value} (hroom : A.depth < recursionLimit) (hh : A.handled = some (.ref g)) (hg : s.heap.get? g = some og) (hgp : tabO og = false) (hgd : og.data = .fields gvs) (hg2 : gvs[2]? = some .none)
    (hfr : A.frames = some outer) (f : FrC s.heap outer) (X : Wd w s.heap) (P : PRx prog w s.heap a vs kvs S) (hS0 : S k = false) (hk : valueAt kvs k = none) :
    codeAny (model prog w) A (.call (.ref 79) ⟨[.ref a, .str k t], []⟩) (fun r s' => match r with | .ok _ => False | .error e => Xr outer s "KeyError" (.ref g) e s') s := by
  obtain ⟨dx, tl, td, an, par, nm, md, n', ha, hx, hl, hd, hsy, hS, _, _⟩ := P
  refine b_enterX X X.big (Nat.le_refl _) (binds := [("self", .ref a), ("i", .str k t)]) (body := bodyOf fd_getitem) hroom (fo_getitem X) rfl (code_of X (by kernel_rfl)) rfl (.of_eq rfl) (by decide) (locs rfl) fun L s₁ B hL ev => ?_
  refine g_head B rfl kitx_str (is_intslice w) nofun fun s₂ B ev2 => ?_
  have kp := ev.kp.trans ev2.kp
  refine wpAny_execs_nil (env := envG L) (wpAny_execs_cons (wpAny_If (wpAny_isTrue_Compare1 (r_local B.fm rfl (Attribute_Name_ (r_local B.fm rfl (pr_get B.wd (kp.k _ _ ha rfl) (kp.k _ _ hx rfl) (c_an w) (s_an w) rfl rfl ?_)))))))
  refine wpAny_notInSet_of (PySem.strKind_is prog w k t) rfl (setOf_kp hS kp) (wpAny_truthy_bool ?_)
  rw [hS0]
  replace B := (B.tok (s₂.toks + 1)).tok (s₂.toks + 1 + 1)
  refine wpAny_execs_cons (wpAny_Return_some (Subscript_ (Subscript_ (Subscript_ (Attribute_Name_ (r_local B.fm rfl (pr_get B.wd (kp.k _ _ ha rfl) (kp.k _ _ hx rfl) (c_td w) (s_td w) rfl rfl (r_local B.fm rfl ?_))))))))
  replace B := B.tok (s₂.toks + 1 + 1 + 1)
  have hd2 := dictOf_kp hd kp
  have hg' := ev2.ka.k _ _ (ev.ka.k _ _ hg hgp) hgp
  refine tail_any hd2.typeIs F.slot_dict_getitem.lookup (x_missing (PySem.strKind_is prog w k t) hsy hd2.mapOf hk hh hg' hgd hg2 fun h' e oe vs' keep hen he hc hd' h1 h2 => ?_) (by with_unfolding_all rfl)
  exact x_out hfr f nofun rfl B keep hen he hc hd' h1 h2
end
end Mine
end

-- XY
section
open PySem PySem.W PySem.Calls PyProof.Rows
set_option maxHeartbeats 4000000
namespace Mine
theorem m_get (w : World) : findIn (KV w) (.ref 240) "get" = some (some (.ref 169)) := by kernel_rfl
theorem mf_get (w : World) : typeIn (KV w) (.ref 169) = some (.type "function") := by kernel_rfl
theorem mk_get (w : World) : keepIn (KV w) (.ref 169) = true := by kernel_rfl
theorem n_ie3 (w : World) : nsIn (KV w) 3 "IndexError" = some none := by kernel_rfl
theorem n_ie0 (w : World) : nsIn (KV w) 0 "IndexError" = some (some (.type "IndexError")) := by kernel_rfl
theorem n_ke3 (w : World) : nsIn (KV w) 3 "KeyError" = some none := by kernel_rfl
theorem n_ke0 (w : World) : nsIn (KV w) 0 "KeyError" = some (some (.type "KeyError")) := by kernel_rfl
section
variable {prog : Program} {w : World} {A : Around} {E : Value → Shared → Prop} {s : Shared} {env : Env}
theorem bn_get1 {a k : Value} (X : Wd w s.heap) : BindsNew s fd_get ⟨[a, k], []⟩ [("self", a), ("key", k), ("default_value", .none)] := by
  intro M A E Q h
  show wpAny M A (seqItems? (.ref 162) >>= _) Q E s
  exact wpAny_bind (wpAny_seqItems (X _ _ (d_162 w)) rfl (wpAny_pure (h _ s.toks (fun _ _ e => e) (Nat.le_refl _))))
theorem bn_get2 {a k d : Value} (X : Wd w s.heap) : BindsNew s fd_get ⟨[a, k, d], []⟩ [("self", a), ("key", k), ("default_value", d)] := by
  intro M A E Q h
  show wpAny M A (seqItems? (.ref 162) >>= _) Q E s
  exact wpAny_bind (wpAny_seqItems (X _ _ (d_162 w)) rfl (wpAny_pure (h _ s.toks (fun _ _ e => e) (Nat.le_refl _))))
/-- a[i], whatever the call gives or raises -/
theorem v_itemX {a dx : Addr} {sl : Array (Option Value)} {i : Value} {value slice : Expr} {Q : Value → Shared → Prop} (X : Wd w s.heap) (ha : s.heap.get? a = some (pcls dx sl)) (hx : s.heap.get? dx = some noDict)
    (h : codeAny (model prog w) A.in1 (.call (.ref 79) ⟨[.ref a, i], []⟩) (fun r s' => match r with | .ok _ => False | .error e => E e s') s)
    (hsl : subscripted slice true (.ref a) i = runValue (.builtin "lifetime.subscript" ⟨[.ref a, i], []⟩) := by with_unfolding_all rfl) :
    wpAny (model prog w) A (subscriptTail value slice (.ref a) i) Q E s := by
  exact own_item X (show InstAt s.heap a (pcls dx sl) 240 (some noDict) from ⟨ha, rfl, rfl, hx⟩) (q_gi w) (fo_getitem X) (q_fn79 w) (wpAny_call (codeAny_mono h fun r s' z => by rcases r with e | (v | _ | _ | _) <;> first | exact z.elim | exact z)) hsl
/-- setFlight of an exception that has a traceback -/
theorem x_flight {e T : Addr} {cls : Value} {vs : Array Value} {Q : Unit → Shared → Prop} {M : Model} (x : XAt s.heap e cls vs T) (h : ∀ h', Heap.SameBut T s.heap h' → Q () { s with heap := h' }) : wpAny M A (setFlight (.ref e) none) Q E s := by
  obtain ⟨oe, oT, ts, he, _, hd, h1, hTe, hT, hdT, h3, _⟩ := x
  exact wpAny_setFlight_none he hd h1 hT hdT (Array.getElem?_eq_some_iff.mp h3).1 (h _ (Heap.SameBut.update ..))
end
end Mine
end

-- XZ
section
open PySem PySem.W PySem.Calls PyProof.Rows
set_option maxHeartbeats 4000000
namespace Mine
theorem Fv.old {l : List Env} {s s' : Shared} (v : Fv l s s') {z : Addr} (q : s'.heap.get? z = none) : s.heap.get? z = none := by
  cases r : s.heap.get? z with
  | none => rfl
  | some o =>
    exfalso
    by_cases m : z ∈ frs l
    · obtain ⟨sl, e⟩ := v.f z o m r; rw [q] at e; cases e
    · cases p : tabO o with
      | false => have := v.k z o m r p; rw [q] at this; cases this
      | true =>
        rcases v.t z o r p with g | ⟨_, _, _, _, g, _⟩
        · rw [q] at g; cases g
        · rw [q] at g; cases g
theorem Fv.fs {l : List Env} {D : List Addr} {s s₁ : Shared} {h' : Heap} {t : Nat} (v : Fv l s s₁) (f : FrC s₁.heap l) (x : Fs l D s₁.heap h') (hD : ∀ b ∈ D, s.heap.get? b = none) (hDc : ∀ b ∈ D, ∀ o, s₁.heap.get? b = some o → ¬ codeO o) : Fv l s { s₁ with heap := h', toks := t } := by
  have nd : ∀ b o, s.heap.get? b = some o → b ∉ D := fun b o q m => by rw [hD b m] at q; cases q
  have nfc : ∀ z o, s₁.heap.get? z = some o → (codeO o ∨ tabO o = true) → z ∉ frs l := fun z o q c m => by
    obtain ⟨o', es, n, q', c', d⟩ := f.mem m
    rw [q] at q'; cases q'
    rcases c with c | c
    · exact nc_dict d c
    · rw [tab_cls c] at c'; cases c'
  exact ⟨fun b o n q p => x.k b o n (nd b o q) (v.k b o n q p), fun b o m q => let ⟨_, e⟩ := v.f b o m q; let ⟨sl, e'⟩ := x.f b _ m (nd b o q) e; ⟨sl, e'⟩,
    fun b o q p => grown_trans (R := fun z => z ∉ D) (fun z o nz q p => .inl (x.k z o (nfc z o q (.inr p)) nz q)) (fun z o q c => x.k z o (nfc z o q (.inl c)) (fun m => hDc z m o q c) q) (nd b o q) (v.t b o q p) p,
    v.os, v.gens⟩
theorem valueAt_none {kvs : List (Str × Value)} {k : Str} (h : ∀ kv ∈ kvs, kv.1 ≠ k) : valueAt kvs k = none := by
  unfold valueAt
  rw [List.find?_eq_none.mpr fun kv m => by simpa using h kv m]; rfl
section
variable {prog : Program} {w : World} {A : Around} {E : Value → Shared → Prop} {s : Shared} {env : Env}
abbrev envF (L : Addr) : Env := callEnv fd_refused L 313
/-- the two tries -/
theorem ref_try {n j : Nat} {L a : Addr} {m : Str → Option Value} {vs : List Value} {kvs : List (Str × Value)} {S : Str → Bool} {t t' : Tok} {outer : List Env} {s₄ : Shared} {Q : Flow → Shared → Prop} {tb : Stmt} (htb : (bodyOf fd_refused)[1]? = some tb) (R : Rm (n + 2) A) (hfr : A.frames = some outer) (f : FrC s.heap outer)
    (B : Bd w s.heap.objs.size s L m s₄) (h1 : m "made" = some (.ref a)) (h2 : m "place" = some (.int j t)) (h3 : m "name" = some (.str "z" t')) (P : PRx prog w s₄.heap a vs kvs S) (hj : vs.length ≤ j) (hjz : j < 1000) (hS : S "z" = false) (hk : valueAt kvs "z" = none)
    (hQ : ∀ s', Fv outer s s' → Q (.ret (.bool true)) s') :
    wpAny (model prog w) (A.deeper (envF L)) (exec tb (envF L)) Q E s₄ := by
  cases htb
  have ev4 : Ev s s₄ := B.out.ev (Nat.le_refl _)
  have hfr' : (A.deeper (envF L)).frames = some (envF L :: outer) := Around.frames_deeper hfr
  have f4 : FrC s₄.heap (envF L :: outer) := (f.fv (ev4.fv f)).cons nofun rfl B.fm
  obtain ⟨dx, sl, ha, hx⟩ := P.inst
  refine wpAny_Try_except ?_
  refine wpAny_execs_cons (wpAny_Expr (Subscript_ (r_local B.fm h1 (r_local B.fm h2 (v_itemX B.wd ha hx ?_)))))
  have R1 : Rm (n + 1) (A.deeper (envF L)) := R.deep _
  refine codeAny_mono (c_getitem_out (A := (A.deeper (envF L)).in1) (outer := envF L :: outer) R1.in1.room R1.in1.h hfr' f4 B.wd P hj hjz) fun r s₅ z => ?_
  cases r with
  | ok _ => exact z
  | error e =>
  obtain ⟨e1, vs1, T1, rfl, n1, nT1, fv5, x1, c1⟩ := z
  have f5 := f4.fv fv5
  have x1' := x1
  obtain ⟨oe, oT, ts, he, hc, hd, h11, hTe, hT, hdT, h13, hcT⟩ := x1'
  refine x_leave hfr' f5.fun rfl he hd (.inr ⟨T1, oT, ts, h11, hTe, hT, hdT, h13⟩) fun h6 T6 fs6 x6 nT6 => ?_
  have fv6 : Fv (envF L :: outer) s₄ { s₅ with heap := h6 } := fv5.fs (t := s₅.toks) f5 fs6 (fun b mb => by
    rw [tbOf, h11] at mb
    simp only [List.mem_cons, List.not_mem_nil, or_false] at mb
    rcases mb with rfl | rfl
    · exact n1
    · exact nT1) (fun b mb o q => by
    rw [tbOf, h11] at mb
    simp only [List.mem_cons, List.not_mem_nil, or_false] at mb
    rcases mb with rfl | rfl
    · rw [he] at q; cases q; exact nc_cls (by rw [hc]; simp)
    · rw [hT] at q; cases q; exact nc_cls (by rw [hcT]; simp))
  have f6 := f4.fv fv6
  rw [hc] at x6
  have x6' := x6
  obtain ⟨oe6, oT6, ts6, he6, hc6, hd6, h61, hT6e, hT6, _, _, hcT6⟩ := x6'
  have X6 : Wd w h6 := B.wd.mono (fv6.kp f4)
  refine wpAny_handleBy_builtin (X := "IndexError") (T := "IndexError") (b := true) (isSubtype_of_subB (by decide +kernel)) (isSubtype_of_subB (by decide +kernel)) (isSubtype_of_subB (by decide +kernel)) ?_
  refine r_builtin (s := { s₅ with heap := h6 }) X6 (n_ie3 w) (n_ie0 w) ⟨rfl, ⟨_, he6, hc6⟩, ?_⟩
  rw [if_pos rfl]
  refine x_flight x6 fun h7 S7 => ?_
  have fv7 : Fv (envF L :: outer) s₄ { s₅ with heap := h7 } := fv6.fs (D := [T6]) (t := s₅.toks) f6 ⟨fun b o _ d q => (S7.2 b (fun z => d (by rw [z]; simp))).trans q, fun b o _ d q => ⟨o.slots, (S7.2 b (fun z => d (by rw [z]; simp))).trans q⟩⟩ (fun b mb => by
    rw [List.mem_singleton] at mb; subst mb
    exact fv5.old nT6) (fun b mb o q => by
    rw [List.mem_singleton] at mb; subst mb
    rw [show h6.get? b = some oT6 from hT6] at q; cases q; exact nc_cls (by rw [hcT6]; simp))
  have f7 := f4.fv fv7
  have X7 : Wd w h7 := B.wd.mono (fv7.kp f4)
  have F7 : Fm h7 L m := fv7.fm B.fm
  have P7 : PRx prog w h7 a vs kvs S := P.kp (fv7.kp f4)
  have he7 : h7.get? e1 = some oe6 := (S7.2 _ (Ne.symm hT6e)).trans he6
  have c6 : (vs1.setIfInBounds 1 (Value.ref T6))[2]? = some .none := by rw [Array.getElem?_setIfInBounds_ne (by decide)]; exact c1
  obtain ⟨dx7, sl7, ha7, hx7⟩ := P7.inst
  refine wpAny_execs_cons (wpAny_Try_except ?_)
  refine wpAny_execs_cons (wpAny_Expr (Subscript_ (r_localN F7.ns h1 (r_localN F7.ns h3 (v_itemX X7 ha7 hx7 ?_)))))
  refine codeAny_mono (c_getitem_missing (A := ((A.deeper (envF L)).mark (some (.ref e1))).in1) (s := { s₅ with heap := h7 }) (g := e1) (outer := envF L :: outer) R1.in1.room rfl he7 (by unfold tabO; rw [hc6]) hd6 c6 hfr' f7 X7 P7 hS hk) fun r s₈ z => ?_
  cases r with
  | ok _ => exact z
  | error e =>
  obtain ⟨e2, vs2, T2, rfl, n2, nT2, fv8, x2, _⟩ := z
  have f8 := f7.fv fv8
  have x2' := x2
  obtain ⟨oe8, oT8, ts8, he8, hc8, hd8, h81, hT8e, hT8, hdT8, h83, hcT8⟩ := x2'
  refine x_leave (A := (A.deeper (envF L)).mark (some (.ref e1))) hfr' f8.fun rfl he8 hd8 (.inr ⟨T2, oT8, ts8, h81, hT8e, hT8, hdT8, h83⟩) fun h9 T9 fs9 x9 nT9 => ?_
  have fv9 : Fv (envF L :: outer) { s₅ with heap := h7 } { s₈ with heap := h9 } := fv8.fs (t := s₈.toks) f8 fs9 (fun b mb => by
    rw [tbOf, h81] at mb
    simp only [List.mem_cons, List.not_mem_nil, or_false] at mb
    rcases mb with rfl | rfl
    · exact n2
    · exact nT2) (fun b mb o q => by
    rw [tbOf, h81] at mb
    simp only [List.mem_cons, List.not_mem_nil, or_false] at mb
    rcases mb with rfl | rfl
    · rw [he8] at q; cases q; exact nc_cls (by rw [hc8]; simp)
    · rw [hT8] at q; cases q; exact nc_cls (by rw [hcT8]; simp))
  have f9 := f7.fv fv9
  rw [hc8] at x9
  have x9' := x9
  obtain ⟨oe9, oT9, ts9, he9, hc9, hd9, h91, hT9e, hT9, _, _, hcT9⟩ := x9'
  have X9 : Wd w h9 := X7.mono (fv9.kp f7)
  refine wpAny_handleBy_builtin (X := "KeyError") (T := "KeyError") (b := true) (isSubtype_of_subB (by decide +kernel)) (isSubtype_of_subB (by decide +kernel)) (isSubtype_of_subB (by decide +kernel)) ?_
  refine r_builtin (s := { s₈ with heap := h9 }) X9 (n_ke3 w) (n_ke0 w) ⟨rfl, ⟨_, he9, hc9⟩, ?_⟩
  rw [if_pos rfl]
  refine x_flight x9 fun h10 S10 => ?_
  have fv10 : Fv (envF L :: outer) { s₅ with heap := h7 } { s₈ with heap := h10 } := fv9.fs (D := [T9]) (t := s₈.toks) f9 ⟨fun b o _ d q => (S10.2 b (fun z => d (by rw [z]; simp))).trans q, fun b o _ d q => ⟨o.slots, (S10.2 b (fun z => d (by rw [z]; simp))).trans q⟩⟩ (fun b mb => by
    rw [List.mem_singleton] at mb; subst mb
    exact fv8.old nT9) (fun b mb o q => by
    rw [List.mem_singleton] at mb; subst mb
    rw [show h9.get? b = some oT9 from hT9] at q; cases q; exact nc_cls (by rw [hcT9]; simp))
  refine wpAny_execs_cons (wpAny_Return_some (wpAny_Constant_bool (hQ _ ?_)))
  exact Fv.drop f f4 rfl B.lo ev4 (fv7.trans f7 fv10)
end
end Mine
end

-- YA
section
open PySem PySem.W PySem.Calls PyProof.Rows
set_option maxHeartbeats 4000000
namespace Mine
section
variable {prog : Program} {w : World} {A : Around} {E : Value → Shared → Prop} {s : Shared} {env : Env}
/-- the call of _law_refused -/
theorem c_refused {n N j : Nat} {a : Addr} {Is : List Itm} {D : List (Str × List Itm)} {S : Str → Bool} {t t' : Tok} {outer : List Env} (R : Rm (n + 6) A) (hfr : A.frames = some outer) (f : FrC s.heap outer) (X : Wd w s.heap) (P : PRt prog w N s.heap a Is D S) (hj : Is.length ≤ j) (hjz : j < 1000) (hS : S "z" = false) (hD : ∀ d ∈ D, d.1 ≠ "z") :
    Ret prog w A (.ref 313) ⟨[.ref a, .int j t, .str "z" t'], []⟩ s (fun r s' => r = .bool true ∧ Fv outer s s') := by
  obtain ⟨vs, kvs, P, hvs, hd⟩ := P
  have hk : valueAt kvs "z" = none := valueAt_none fun kv m => by
    obtain ⟨d, md, e, _⟩ := All2.mem hd m
    rw [e]; exact hD d md
  refine b_enter X X.big (Nat.le_refl _) (binds := [("made", .ref a), ("place", .int j t), ("name", .str "z" t')]) (body := bodyOf fd_refused) R.room (fo_refused X) rfl (code_of X (by kernel_rfl)) rfl (.of_eq rfl) (by decide) (locs rfl) fun L s₁ B hL ev => ?_
  have hL3 : 333 ≤ L := Nat.le_trans X.big hL
  refine wpAny_execs_cons (wpAny_If (isTrue_or (wpAny_isTrue_Compare1 (r_local B.fm rfl (r_local B.fm rfl (v_in (n := n + 4) (R.deep _) B.wd B.fm.ns hL3 (P.kp ev.kp) fun s₂ ev2 => wpAny_truthy_bool ?_))))))
  rw [hk]
  replace B := B.ev ev2
  have P2 : PRx prog w s₂.heap a vs kvs S := P.kp B.old
  obtain ⟨dx2, sl2, ha2, hx2⟩ := P2.inst
  refine isTrue_or (wpAny_isTrue_Compare1 (MethodCall_ (r_local B.fm rfl (pr_meth B.wd ha2 hx2 (m_get w) (mf_get w) (callWith_K (h₀ := s₂.heap) B.wd (mk_get w) (wpAny_items_cons (r_local B.fm rfl (wpAny_items_cons (wpAny_Constant_str (wpAny_items_nil ⟨B.wd, ?_⟩))))))))))
  replace B := B.tok (s₂.toks + 1)
  refine (c_get (n := n) (s := { s₂ with toks := s₂.toks + 1 }) ((R.deep _).less (by omega)) B.wd P2 (.refl _) (hd.kp B.old).unr (bn_get2 B.wd)).call fun r s₃ z => ?_
  obtain ⟨ev3, _, z⟩ := z
  rw [hk] at z
  replace z : r = _ := z
  subst z
  replace B := B.ev ev3
  refine wpAny_Constant_str (PyProof.Rows.ne_str (wpAny_truthy_bool ?_))
  rw [bne_self_eq_false]
  replace B := B.tok (s₃.toks + 1)
  have P3 : PRx prog w s₃.heap a vs kvs S := P.kp B.old
  obtain ⟨dx3, sl3, ha3, hx3⟩ := P3.inst
  refine isTrue_or (wpAny_isTrue_Compare1 (MethodCall_ (r_local B.fm rfl (pr_meth B.wd ha3 hx3 (m_get w) (mf_get w) (callWith_K (h₀ := s₃.heap) B.wd (mk_get w) (wpAny_items_cons (r_local B.fm rfl (wpAny_items_nil ⟨B.wd, ?_⟩))))))))
  refine (c_get (n := n) (s := { s₃ with toks := s₃.toks + 1 }) ((R.deep _).less (by omega)) B.wd P3 (.refl _) (hd.kp B.old).unr (bn_get1 B.wd)).call fun r s₄ z => ?_
  obtain ⟨ev4, _, z⟩ := z
  rw [hk] at z
  replace z : r = _ := z
  subst z
  replace B := B.ev ev4
  refine wpAny_Constant_none (isnot_none_none (wpAny_truthy_bool (isTrue_or_nil (wpAny_execs_nil (env := envF L) ?_))))
  refine wpAny_execs_cons (ref_try (n := n) rfl (R.less (by omega)) hfr f B rfl rfl rfl (P.kp B.old) (by rw [hvs.length]; exact hj) hjz hS hk fun s' fv => ⟨rfl, fv⟩)
end
end Mine
end

-- YB
section
open PySem PySem.W PySem.Calls PyProof.Rows
set_option maxHeartbeats 4000000
namespace Mine
theorem nolen_ki : typeLookup (.type "dict_keyiterator") "__len__" = pure none := by rw [typeLookup_type, builtinLookup_eq_fast]; kernel_rfl
theorem hint_ki : typeLookup (.type "dict_keyiterator") "__length_hint__" = pure (some (.builtin "dict_keyiterator.__length_hint__")) := by rw [typeLookup_type, builtinLookup_eq_fast]; kernel_rfl
theorem f_len (w : World) : findIn (KV w) (.ref 240) "__len__" = some (some (.ref 105)) := by kernel_rfl
section
variable {prog : Program} {w : World} {A : Around} {E : Value → Shared → Prop} {s : Shared} {env : Env}
theorem l_hint_li {r : Addr} {Q : Bool → Shared → Prop} (hT : s.TypeIs (.ref r) "list_iterator") (h : Q false s) : wpAny (model prog w) A (Builtin.List.listLengthHint (.ref r)) Q E s := by
  unfold Builtin.List.listLengthHint
  refine wpAny_bind (wpAny_specialOf hT F.nolen_li ?_)
  show wpAny _ A (specialOf (Value.ref r) (Str.ofString "__length_hint__") >>= _) _ _ _
  refine wpAny_bind (wpAny_specialOf hT F.hint_li ?_)
  generalize hid : ("list_iterator.__length_hint__" : String) = id0
  wp_delta
  rw [show splitId id0 = some ("list_iterator", "__length_hint__") from by subst hid; decide +kernel]
  subst hid
  refine wpAny_bind (wpAny_isInstance (b := true) hT (by rw [isSubtype_type]; kernel_rfl) ?_)
  exact wpAny_pure h
theorem l_hint_ki {r : Addr} {Q : Bool → Shared → Prop} (hT : s.TypeIs (.ref r) "dict_keyiterator") (h : Q false s) : wpAny (model prog w) A (Builtin.List.listLengthHint (.ref r)) Q E s := by
  unfold Builtin.List.listLengthHint
  refine wpAny_bind (wpAny_specialOf hT nolen_ki ?_)
  show wpAny _ A (specialOf (Value.ref r) (Str.ofString "__length_hint__") >>= _) _ _ _
  refine wpAny_bind (wpAny_specialOf hT hint_ki ?_)
  generalize hid : ("dict_keyiterator.__length_hint__" : String) = id0
  wp_delta
  rw [show splitId id0 = some ("dict_keyiterator", "__length_hint__") from by subst hid; decide +kernel]
  subst hid
  refine wpAny_bind (wpAny_isInstance (b := true) hT (by rw [isSubtype_type]; kernel_rfl) ?_)
  exact wpAny_pure h
theorem l_hint_pr {n L : Nat} {a : Addr} {m : Str → Option Value} {vs : List Value} {kvs : List (Str × Value)} {S : Str → Bool} {Q : Bool → Shared → Prop} (R : Rm (n + 2) A) (X : Wd w s.heap) (F : s.heap.Ns L m) (hL : 333 ≤ L) (P : PRx prog w s.heap a vs kvs S)
    (h : ∀ s' b, Ev s s' → Q b s') : wpAny (model prog w) A (Builtin.List.listLengthHint (.ref a)) Q E s := by
  obtain ⟨dx, sl, ha, hx⟩ := P.inst
  have hz : vs.length ≤ 64 := by obtain ⟨_, _, _, _, _, _, _, _, _, _, _, _, _, _, z, _⟩ := P; exact z
  have I : InstAt s.heap a (pcls dx sl) 240 (some noDict) := ⟨ha, rfl, rfl, hx⟩
  unfold Builtin.List.listLengthHint
  refine wpAny_bind (m := specialOf (.ref a) "__len__") (wpAny_bind (I.type.here ((looks_findIn X (f_len w)).here ?_)))
  refine wpAny_ite_split (fun hab => absurd hab (by decide)) (fun _ => ?_)
  refine wpAny_ite_split (fun _ => ?_) (fun hab => absurd rfl hab)
  refine wpAny_bind (wpAny_rule ?_)
  refine wpAny_bind (wpAny_attempt (v_len R X F hL P fun s' t ev => ?_))
  refine wpAny_bind (m := asInt? _) (wpAny_pure ?_)
  have htl : Builtin.List.listTooLong ((vs.length : Int).toNat) = false := by simp [Builtin.List.listTooLong, sizeLine]; omega
  exact wpAny_ite_split (fun hab => absurd hab (by rw [htl]; decide)) (fun _ => wpAny_pure (h _ _ ev))
end
end Mine
end

-- YC
section
open PySem PySem.W PySem.Calls PyProof.Rows
set_option maxHeartbeats 4000000
namespace Mine
section
variable {prog : Program} {w : World} {A : Around} {E : Value → Shared → Prop} {s : Shared} {env : Env}
/-- the list makes room: nothing is seen of it -/
theorem l_touch {M : Model} {S c : Nat} {Q : Unit → Shared → Prop} (hS : IsL s.heap S #[] c) (h : ∀ h' c', IsL h' S #[] c' → Heap.SameBut S s.heap h' → Q () { s with heap := h' }) : wpAny M A (Builtin.List.listTouch (.ref S)) Q E s := by
  have u := IsL.update hS (·.push Value.none)
  exact wpAny_bind (wpAny_updateSeq hS rfl (wpAny_updateSeq (hz := by seq_fits) u rfl (h _ _ (IsL.update u (·.pop)) ((Heap.SameBut.update ..).trans (Heap.SameBut.update ..)))))
/-- list(x), for an x that is walked by an iterator -/
theorem l_list {a : Addr} {Q : Value → Shared → Prop}
    (h : ∀ (s₁ : Shared) (E' : Value → Shared → Prop), Ev s s₁ → s.heap.objs.size < s₁.heap.objs.size → wpAny (model prog w) A.in1.in1 (typeOf (.ref a)) (fun t s₂ => Ev s₁ s₂ ∧ (t == .type "list") = false ∧ (t == .type "tuple") = false ∧ a ≠ s.heap.objs.size ∧
      wpAny (model prog w) A.in1.in1 (pyIter (.ref a)) (fun iv s₃ => ∃ (it : Addr) (fp : List Addr) (n : Nat) (P : Nat → Value → Prop) (St : Nat → Heap → Prop), iv = .ref it ∧ Ev s₂ s₃ ∧ Walks prog w A.in1.in1 it fp [it] n P St ∧ St 0 s₃.heap ∧ s.heap.objs.size ∉ fp ∧
        (∀ b ∈ fp, ∀ o, s₃.heap.get? b = some o → tabO o = false) ∧ n ≤ 1000 ∧
        wpAny (model prog w) A.in1.in1 (Builtin.List.listLengthHint (.ref a)) (fun _ s₄ => Ev s₃ s₄ ∧
          ((∃ c, IsL s₄.heap s.heap.objs.size #[] c) → ∀ s' acc c', (∀ b o, b ≠ it → b ≠ s.heap.objs.size → s₄.heap.get? b = some o → s'.heap.get? b = some o) → s'.gens = s₄.gens → s'.os = s₄.os → IsL s'.heap s.heap.objs.size acc c' → ItemsOf P acc n → Q (.ref s.heap.objs.size) s')) E' s₃) E' s₂) E' s₁) :
    wpAny (model prog w) A (call (.type "list") [.ref a]) Q E s := by
  have sz : (s.heap.push { cls := .type "list", data := .seq #[] }).objs.size = s.heap.objs.size + 1 := Heap.size_push ..
  have q₁ : IsL (s.heap.push { cls := .type "list", data := .seq #[] }) s.heap.objs.size #[] 0 := Heap.get?_push_size _ rfl
  have old : ∀ b o, s.heap.get? b = some o → (s.heap.push { cls := .type "list", data := .seq #[] }).get? b = some o := fun b o e => Heap.get?_push_of_some _ e
  have lt : ∀ b o, s.heap.get? b = some o → b ≠ s.heap.objs.size := fun b o e => Nat.ne_of_lt (Heap.lt_size e)
  refine callType_codes (Q₁ := fun obj s₁ => obj = .ref s.heap.objs.size ∧ s₁ = { s with heap := s.heap.push { cls := .type "list", data := .seq #[] } }) F.called_list (F.typeCall_list_1 _) F.entry_list_init
    (code_list_new _ ⟨rfl, rfl⟩) ?_
  rintro obj s₁ ⟨rfl, rfl⟩
  generalize s.heap.push { cls := .type "list", data := .seq #[] } = h₁ at *
  generalize s.heap.objs.size = S at *
  refine ⟨⟨_, q₁, rfl⟩, F.args_list_init_2 _ _, l_reset q₁ fun h₂ c2 q₂ sb => ?_⟩
  have k2 : ∀ b o, s.heap.get? b = some o → h₂.get? b = some o := fun b o e => (sb.2 b (lt b o e)).trans (old b o e)
  unfold Builtin.List.listExtendWith
  refine wpAny_bind (wpAny_mono (h ⟨h₂, s.gens, s.drawn, s.toks, s.os⟩ _ ⟨.of k2, rfl, .refl _⟩ (Heap.lt_size q₂)) (fun t s₂ z => ?_) fun _ _ z => z)
  obtain ⟨ev2, t1, t2, hne, z⟩ := z
  have apart : Builtin.List.listSameRef (.ref S) (.ref a) = false := beq_eq_false_iff_ne.mpr (Ne.symm hne)
  rw [apart, t1, t2]
  refine wpAny_bind (wpAny_mono z (fun iv s₃ z => ?_) fun _ _ z => z)
  obtain ⟨it, fp, n, P, St, rfl, ev3, W, st, hSf, hfp, hn, z⟩ := z
  refine wpAny_bind (wpAny_holding (wpAny_mono z (fun b s₄ z => ?_) fun _ _ z => z))
  obtain ⟨ev4, fin⟩ := z
  have q₄ : IsL s₄.heap S #[] c2 := ev4.ka.k _ _ (ev3.ka.k _ _ (ev2.ka.k _ _ q₂ rfl) rfl) rfl
  have st4 : St 0 s₄.heap := W.frame 0 s₃.heap s₄.heap st fun b mb o q => ev4.ka.k b o q (hfp b mb o q)
  have loop : ∀ h c, IsL h S #[] c → (∀ b o, b ≠ S → s₄.heap.get? b = some o → h.get? b = some o) →
      codeAny (model prog w) A.in1 (.builtin "list.extend.loop" ⟨[.ref S, .ref it, .none], []⟩) (wants (fun r s₂ => r = .none ∧ Q (.ref S) s₂) E) { s₄ with heap := h } := fun h c q k =>
    codeAny_extend_loopS W.toS (by rw [sizeLine_eq]; omega) S hSf .none n 0 _ #[] c rfl (Nat.zero_le _) (W.frame 0 s₄.heap h st4 fun b mb o e => k b o (fun z => hSf (z ▸ mb)) e) q (ItemsOf.nil _) fun s' acc c' m q' all =>
      ⟨rfl, fin ⟨c2, q₄⟩ s' acc c' (fun b o nb nS e => m.heap b o (by rw [List.mem_cons, List.mem_singleton]; exact fun z => z.elim nS nb) (k b o nS e)) m.gens m.os q' all⟩
  refine wpAny_ite_split (fun _ => wpAny_bind (wpAny_rule (wpAny_bind ?_))) fun _ => ?_
  · exact l_touch q₄ fun h' c' q' same => wpAny_pure ⟨plainId_quiet F.plain_extend_loop _, loop h' c' q' fun b o n e => (same.2 b n).trans e⟩
  · exact wpAny_pure ⟨plainId_quiet F.plain_extend_loop _, loop _ _ q₄ fun _ _ _ e => e⟩
end
end Mine
end

-- YD
section
open PySem PySem.W PySem.Calls PyProof.Rows
set_option maxHeartbeats 4000000
namespace Mine
theorem l_rel {N : Nat} {it : Addr} {s s₄ s' : Shared} {oi : Obj} {T : String} {c : Nat} (ev : Ev s s₄) (hN : N ≤ it) (hNs : N ≤ s.heap.objs.size) (qi : s₄.heap.get? it = some oi) (ci : oi.cls = .type T) (hT : turning.contains T = true) (hTc : T ≠ "code")
    (hS : IsL s₄.heap s.heap.objs.size #[] c) (keep : ∀ b o, b ≠ it → b ≠ s.heap.objs.size → s₄.heap.get? b = some o → s'.heap.get? b = some o) (gens : s'.gens = s₄.gens) (os : s'.os = s₄.os) : Ef N s s' ∧ Kx [it] s.heap s'.heap ∧ Kp s.heap s'.heap := by
  have nit : ∀ b o, s₄.heap.get? b = some o → (pl o = true ∨ tabO o = true ∨ codeO o) → b ≠ it := fun b o q p z => by
    subst z
    rw [q] at qi; cases qi
    rcases p with p | p | p
    · unfold pl at p; rw [ci] at p
      have p' : (!turning.contains T) = true := p
      rw [hT] at p'; cases p'
    · rw [tab_cls p] at ci; cases ci
    · rw [p.1] at ci; cases ci; exact hTc rfl
  have nS : ∀ b o, s₄.heap.get? b = some o → (tabO o = true ∨ codeO o) → b ≠ s.heap.objs.size := fun b o q p z => by
    subst z
    rw [show s₄.heap.get? s.heap.objs.size = some _ from hS] at q; cases q
    rcases p with p | p
    · unfold tabO at p; cases p
    · exact absurd p.1 (by simp)
  refine ⟨⟨⟨fun b o l q p => keep b o (Nat.ne_of_lt (Nat.lt_of_lt_of_le l hN)) (Nat.ne_of_lt (Nat.lt_of_lt_of_le l hNs)) (ev.ka.k b o q p), fun b o q c => ?_, fun b o l q p => ?_⟩, os.trans ev.os, by rw [gens]; exact ev.gens⟩,
    fun b o d q p => keep b o (fun z => d (by rw [z]; simp)) (Nat.ne_of_lt (Heap.lt_size q)) (ev.ka.k b o q p), ⟨fun b o q p => ?_, fun b o q p => ?_⟩⟩
  · have q' := ev.ka.k b o q (code_tab c)
    exact keep b o (nit b o q' (.inr (.inr c))) (nS b o q' (.inr c)) q'
  · exact grown_trans (R := fun _ => True) (fun z o _ q p => .inl (keep z o (nit z o q (.inr (.inl p))) (nS z o q (.inl p)) q)) (fun z o q c => keep z o (nit z o q (.inr (.inr c))) (nS z o q (.inr c)) q) trivial (ev.ka.t b o q p) p
  · have q' := ev.ka.k b o q (pl_tab p)
    exact keep b o (nit b o q' (.inl p)) (Nat.ne_of_lt (Heap.lt_size q)) q'
  · exact grown_trans (R := fun _ => True) (fun z o _ q p => .inl (keep z o (nit z o q (.inr (.inl p))) (nS z o q (.inl p)) q)) (fun z o q c => keep z o (nit z o q (.inr (.inr c))) (nS z o q (.inr c)) q) trivial (ev.ka.t b o q p) p
theorem items_eq {vs : List Value} {acc : Array Value} (h : ItemsOf (fun i v => vs.toArray[i]? = some v) acc vs.toArray.size) : acc = vs.toArray := by
  obtain ⟨hz, hi⟩ := h
  refine Array.ext hz fun i h1 h2 => ?_
  have : vs.toArray[i]? = some acc[i] := hi i acc[i] (Array.getElem?_eq_getElem h1)
  rw [Array.getElem?_eq_getElem h2] at this
  exact (Option.some.inj this).symm
section
variable {prog : Program} {w : World} {A : Around} {E : Value → Shared → Prop} {s : Shared} {env : Env}
/-- list(it), for a new iterator of a list -/
theorem l_list_li {N : Nat} {it l : Addr} {vs : List Value} {Q : Value → Shared → Prop} (hh : A.handled = none) (hit : s.heap.IsListIter it l 0) (hl : s.heap.IsList l vs.toArray) (hz : vs.length ≤ 1000) (hN : N ≤ it) (hNs : N ≤ s.heap.objs.size)
    (h : ∀ s' c', Ef N s s' → Kx [it] s.heap s'.heap → Kp s.heap s'.heap → IsL s'.heap s.heap.objs.size vs.toArray c' → Q (.ref s.heap.objs.size) s') : wpAny (model prog w) A (call (.type "list") [.ref it]) Q E s := by
  obtain ⟨oi, qi, ci, di⟩ := id hit
  obtain ⟨ol, ql, cl, dl⟩ := id hl
  have li := Heap.lt_size qi
  have ll := Heap.lt_size ql
  have hne : l ≠ it := fun z => by subst z; rw [qi] at ql; cases ql; rw [ci] at cl; simp at cl
  have ti : ∀ {o : Obj} {T : String}, o.cls = .type T → tabO o = false := fun c => by unfold tabO; rw [c]
  refine l_list fun s₁ E' ev1 hz1 => ?_
  have i1 : s₁.heap.IsListIter it l 0 := ⟨oi, ev1.ka.k _ _ qi (ti ci), ci, di⟩
  refine wpAny_typeOf i1.typeIs ⟨.refl _, rfl, rfl, Nat.ne_of_lt li, ?_⟩
  refine wpAny_pyIter_listiter i1 ⟨it, [it, l], vs.toArray.size, _, _, rfl, .refl _, Walks.list (show A.in1.in1.handled = none from hh) it l hne vs.toArray, ⟨i1, isList_kp hl ev1.kp⟩, ?_, ?_, by rw [List.size_toArray]; exact hz, ?_⟩
  · intro m
    simp only [List.mem_cons, List.not_mem_nil, or_false] at m
    rcases m with m | m
    · exact Nat.ne_of_gt li m
    · exact Nat.ne_of_gt ll m
  · intro b m o q
    simp only [List.mem_cons, List.not_mem_nil, or_false] at m
    rcases m with rfl | rfl
    · rw [ev1.ka.k _ _ qi (ti ci)] at q; cases q; exact ti ci
    · rw [ev1.ka.k _ _ ql (ti cl)] at q; cases q; exact ti cl
  · refine l_hint_li i1.typeIs ⟨.refl _, fun ⟨c, hS⟩ s' acc c' keep gens os hS' hi => ?_⟩
    obtain ⟨ef, kx, kp⟩ := l_rel ev1 hN hNs (ev1.ka.k _ _ qi (ti ci)) ci (by decide) (by decide) hS keep gens os
    rw [items_eq hi] at hS'
    exact h s' c' ef kx kp hS'
/-- iter(a), the list known -/
theorem v_iter2 {n L : Nat} {a : Addr} {m : Str → Option Value} {vs : List Value} {kvs : List (Str × Value)} {S : Str → Bool} {e : Heap} {Q : Value → Shared → Prop} (R : Rm (n + 1) A) (X : Wd w s.heap) (F : s.heap.Ns L m) (hL : 333 ≤ L) (P : PRx prog w e a vs kvs S) (ke : Kp e s.heap)
    (h : ∀ (it l : Nat) s', Ev s s' → s.heap.objs.size ≤ it → s'.heap.IsListIter it l 0 → s'.heap.IsList l vs.toArray → l < e.objs.size → Q (.ref it) s') : wpAny (model prog w) A (pyIter (.ref a)) Q E s := by
  obtain ⟨dx, tl, td, an, par, nm, md, k, ha, hx, hl, hd, hs, hS, hz, hz'⟩ := P
  replace ha := ke.k _ _ ha rfl
  replace hx := ke.k _ _ hx rfl
  have ll : tl < e.objs.size := by obtain ⟨o', q, _⟩ := hl; exact Heap.lt_size q
  replace hl := isList_kp hl ke
  have I : InstAt s.heap a (prObj dx (.ref tl) (.ref td) par nm md (.ref an)) 240 (some noDict) := ⟨ha, rfl, rfl, hx⟩
  refine owit_iter (fr_of F hL) (wd_cut X) I (j_iter w) (jf_iter w) (Ret.call (Q := fun v s' => ∃ it : Nat, v = .ref it ∧ s.heap.objs.size ≤ it ∧ s'.heap.IsListIter it tl 0 ∧ s'.heap.IsList tl vs.toArray ∧ Ev s s') ?_ fun v s' z => ?_)
  · refine v_enter (binds := [("self", .ref a)]) (body := bodyOf fd_iter) R.room (fo_iter X) rfl (nolimit X) (code_of X (by kernel_rfl)) rfl (.of_eq rfl) (by decide) (locs rfl) fun h₀ F k => ?_
    have X' := X.mono (.of k)
    refine wpAny_execs_cons (wpAny_Return_some (Call_ (r_builtin X' (n_iter3 w) (n_iter0 w) (PyProof.Rows.callWith_builtin1 ?_))))
    refine wpAny_items_cons (Attribute_Name_ (r_local F rfl (pr_get X' (k _ _ ha) (k _ _ hx) (c_tl w) (s_tl w) rfl rfl ?_)))
    have hl' := isList_kp hl (.of k)
    exact wpAny_items_nil (call_iter (wpAny_pyIter_list hl' ⟨_, rfl, Nat.le_of_lt (by obtain ⟨o', q, _⟩ := F.cls; exact Heap.lt_size q), ⟨_, Heap.get?_push_size _ rfl, rfl, rfl⟩, hl'.push _, .of ((Ka.of k).trans (.push _ _))⟩))
  · obtain ⟨it, rfl, h1, h3, h4, ev⟩ := z
    unfold OwitIt
    exact wpAny_specialOf h3.typeIs slot_listiter_next.lookup (h it tl s' ev h1 h3 h4 ll)
end
end Mine
end

-- YE
section
open PySem PySem.W PySem.Calls PyProof.Rows
set_option maxHeartbeats 4000000
namespace Mine
theorem items_keys {prog : Program} {w : World} : ∀ {kvs : List (Str × Value)} {acc : List Value}, acc.length = kvs.length → (∀ (j : Nat) (v : Value), acc[j]? = some v → ∃ k x, kvs[j]? = some (k, x) ∧ (PySem.strKind prog w).is k v = true) → All2 StrV acc (kvs.map (·.1))
  | [], [], _, _ => .nil
  | [], _ :: _, e, _ => by cases e
  | _ :: _, [], e, _ => by cases e
  | (k, x) :: r, v :: acc, e, h => by
    obtain ⟨k', x', e1, e2⟩ := h 0 v rfl
    cases e1
    exact .cons (str_is e2) (items_keys (Nat.succ.inj e) fun j v' q => h (j + 1) v' q)
section
variable {prog : Program} {w : World} {A : Around} {E : Value → Shared → Prop} {s : Shared} {env : Env}
/-- list(it), for a new iterator of keys -/
theorem l_list_ki {N : Nat} {it d ep : Addr} {kvs : List (Str × Value)} {Q : Value → Shared → Prop} (hh : A.handled = none) (hit : s.heap.IsKeyIter it d 0 kvs.length ep) (hd : s.heap.DictAt (PySem.strKind prog w) d kvs ep) (hz : kvs.length ≤ 1000) (hN : N ≤ it) (hNs : N ≤ s.heap.objs.size)
    (h : ∀ s' (vs : List Value) c', Ef N s s' → Kx [it] s.heap s'.heap → Kp s.heap s'.heap → IsL s'.heap s.heap.objs.size vs.toArray c' → All2 StrV vs (kvs.map (·.1)) → Q (.ref s.heap.objs.size) s') : wpAny (model prog w) A (call (.type "list") [.ref it]) Q E s := by
  obtain ⟨oi, qi, ci, di⟩ := id hit
  obtain ⟨ol, es, ql, cl, dl⟩ := id hd
  have li := Heap.lt_size qi
  have ll := Heap.lt_size ql
  have hne : d ≠ it := fun z => by subst z; rw [qi] at ql; cases ql; rw [cl.1] at ci; simp at ci
  have ti : ∀ {o : Obj} {T : String}, o.cls = .type T → tabO o = false := fun c => by unfold tabO; rw [c]
  refine l_list fun s₁ E' ev1 hz1 => ?_
  have i1 : s₁.heap.IsKeyIter it d 0 kvs.length ep := ⟨oi, ev1.ka.k _ _ qi (ti ci), ci, di⟩
  have d1 : s₁.heap.DictAt (PySem.strKind prog w) d kvs ep := ⟨ol, es, ev1.ka.k _ _ ql (ti cl.1), cl, dl⟩
  have hT : s₁.TypeIs (.ref it) "dict_keyiterator" := ⟨_, ev1.ka.k _ _ qi (ti ci), ci⟩
  have W := Walks.dictKeys (knd := PySem.strKind prog w) (A := A.in1.in1) (show A.in1.in1.handled = none from hh) it d hne kvs ep
  refine wpAny_typeOf hT ⟨.refl _, rfl, rfl, Nat.ne_of_lt li, ?_⟩
  refine W.self 0 s₁ _ _ ⟨i1, d1⟩ ⟨it, [it, d], kvs.length, _, _, rfl, .refl _, W, ⟨i1, d1⟩, ?_, ?_, hz, ?_⟩
  · intro m
    simp only [List.mem_cons, List.not_mem_nil, or_false] at m
    rcases m with m | m
    · exact Nat.ne_of_gt li m
    · exact Nat.ne_of_gt ll m
  · intro b m o q
    simp only [List.mem_cons, List.not_mem_nil, or_false] at m
    rcases m with rfl | rfl
    · rw [ev1.ka.k _ _ qi (ti ci)] at q; cases q; exact ti ci
    · rw [ev1.ka.k _ _ ql (ti cl.1)] at q; cases q; exact ti cl.1
  · refine l_hint_ki hT ⟨.refl _, fun ⟨c, hS⟩ s' acc c' keep gens os hS' hi => ?_⟩
    obtain ⟨ef, kx, kp⟩ := l_rel ev1 hN hNs (ev1.ka.k _ _ qi (ti ci)) ci (by decide) (by decide) hS keep gens os
    refine h s' acc.toList c' ef kx kp hS' (items_keys (by rw [Array.length_toList]; exact hi.1) fun j v q => hi.2 j v (by simpa using q))
/-- list(a), for a ParseResults -/
theorem l_list_pr {n L : Nat} {a : Addr} {m : Str → Option Value} {vs : List Value} {kvs : List (Str × Value)} {S : Str → Bool} {Q : Value → Shared → Prop} (R : Rm (n + 4) A) (X : Wd w s.heap) (F : Fm s.heap L m) (hL : 333 ≤ L) (P : PRx prog w s.heap a vs kvs S)
    (h : ∀ s' c', Ev s s' → IsL s'.heap s.heap.objs.size vs.toArray c' → Q (.ref s.heap.objs.size) s') : wpAny (model prog w) A (call (.type "list") [.ref a]) Q E s := by
  obtain ⟨dx, sl, ha, hx⟩ := P.inst
  have la := Heap.lt_size ha
  have hz : vs.length ≤ 64 := by obtain ⟨_, _, _, _, _, _, _, _, _, _, _, _, _, _, z, _⟩ := P; exact z
  obtain ⟨oL, qL, cL⟩ := F.cls
  have tL : tabO oL = false := by unfold tabO; rw [cL]
  have ti : ∀ {o : Obj} {T : String}, o.cls = .type T → tabO o = false := fun c => by unfold tabO; rw [c]
  refine l_list fun s₁ E' ev1 hz1 => ?_
  have X1 := X.mono ev1.kp
  have F1 : s₁.heap.Ns L m := ns_at F.ns fun o q => ev1.ka.k _ _ q (by rw [qL] at q; cases q; exact tL)
  have I : InstAt s₁.heap a (pcls dx sl) 240 (some noDict) := ⟨ev1.ka.k _ _ ha rfl, rfl, rfl, ev1.ka.k _ _ hx rfl⟩
  refine I.type.here ⟨.refl _, rfl, rfl, Nat.ne_of_lt la, ?_⟩
  refine v_iter2 (n := n) (R.in1.in1.less (by omega)) X1 F1 hL P ev1.kp fun it l s₃ ev3 hit hli hls hll => ?_
  have hit : @LE.le Nat _ s₁.heap.objs.size it := hit
  have hll : @LT.lt Nat _ l s.heap.objs.size := hll
  have hz1 : @LT.lt Nat _ s.heap.objs.size s₁.heap.objs.size := hz1
  have hne : l ≠ it := by show @Ne Nat _ _; omega
  obtain ⟨oi, qi, ci, di⟩ := id hli
  obtain ⟨ol, ql, cl, dl⟩ := id hls
  refine ⟨it, [it, l], vs.toArray.size, _, _, rfl, ev3, Walks.list (show A.in1.in1.handled = none from R.h) it l hne vs.toArray, ⟨hli, hls⟩, ?_, ?_, by rw [List.size_toArray]; omega, ?_⟩
  · intro m
    simp only [List.mem_cons, List.not_mem_nil, or_false] at m
    rcases m with m | m
    · exact absurd m (by show @Ne Nat _ _; omega)
    · exact absurd m (by show @Ne Nat _ _; omega)
  · intro b m o q
    simp only [List.mem_cons, List.not_mem_nil, or_false] at m
    rcases m with rfl | rfl
    · rw [qi] at q; cases q; exact ti ci
    · rw [ql] at q; cases q; exact ti cl
  · have X3 := X1.mono ev3.kp
    have F3 : s₃.heap.Ns L m := ns_at F1 fun o q => ev3.ka.k _ _ q (by rw [ev1.ka.k _ _ qL tL] at q; cases q; exact tL)
    refine l_hint_pr (n := n) (R.in1.in1.less (by omega)) X3 F3 hL (P.kp (ev1.kp.trans ev3.kp)) fun s₄ b ev4 => ⟨ev4, fun ⟨c, hS⟩ s' acc c' keep gens os hS' hi => ?_⟩
    obtain ⟨ef, _, _⟩ := l_rel (N := s.heap.objs.size) ((ev1.trans ev3).trans ev4) (by omega) (Nat.le_refl _) (ev4.ka.k _ _ qi (ti ci)) ci (by decide) (by decide) hS keep gens os
    rw [items_eq hi] at hS'
    exact h s' c' (ef.ev (Nat.le_refl _)) hS'
end
end Mine
end

-- YF
section
open PySem PySem.W PySem.Calls PyProof.Rows
set_option maxHeartbeats 4000000
namespace Mine
theorem f_rev (w : World) : findIn (KV w) (.ref 240) "__reversed__" = some (some (.ref 126)) := by kernel_rfl
theorem t_rev (w : World) : typeIn (KV w) (.ref 126) = some (.type "function") := by kernel_rfl
section
variable {prog : Program} {w : World} {A : Around} {E : Value → Shared → Prop} {s : Shared} {env : Env}
/-- l[lo:hi:st] -/
theorem v_slice {l : Addr} {items : Array Value} {vl vu vk : Value} {lo hi st : Option Int} {value slice : Expr} {ops : List Value} {Q : Value → Shared → Prop} (hl : s.heap.IsList l items) (pl : IsPart vl lo) (pu : IsPart vu hi) (pk : IsPart vk st) (h0 : st ≠ some 0) (hz : items.size ≤ 1000)
    (h : ∀ h' D, (∀ b o, s.heap.get? b = some o → h'.get? b = some o) → s.heap.objs.size ≤ D → IsL h' D (slicePick items lo hi st) 0 → Q (.ref D) { s with heap := h' })
    (hs : subscripted slice false (.ref l) (.ref s.heap.objs.size) = operate ops (getItem (.ref l) (.ref s.heap.objs.size)) := by with_unfolding_all rfl)
    (ht : ∀ r, letTemporaryGo value (.ref l) r = pure () := by intro _; with_unfolding_all rfl) :
    wpAny (model prog w) A (subscriptTail value slice (.ref l) (.ref s.heap.objs.size)) Q E { s with heap := s.heap.push { cls := .type "slice", data := .fields #[vl, vu, vk] } } := by
  refine subscriptTail_ops (Heap.IsList.typeIs (s := { s with heap := s.heap.push { cls := .type "slice", data := .fields #[vl, vu, vk] } }) (hl.push _)) list_getitem_lookup
    (wpAny_getItem_list_slice (hl.push _) (Heap.IsSliceOf.new ..) pl pu pk h0 ?_ (by rw [sizeLine_eq]; omega)) hs ht
  refine h _ _ (fun b o q => Heap.get?_push_of_some _ (Heap.get?_push_of_some _ q)) ?_ (Heap.get?_push_size _ rfl)
  show s.heap.objs.size ≤ (s.heap.push _).objs.size
  rw [Heap.size_push]; exact Nat.le_succ _
/-- reversed(a), for a ParseResults -/
theorem v_reversed {n : Nat} {a : Addr} {vs : List Value} {kvs : List (Str × Value)} {S : Str → Bool} {Q : Value → Shared → Prop} (R : Rm (n + 3) A) (X : Wd w s.heap) (P : PRx prog w s.heap a vs kvs S)
    (h : ∀ it l s', s.heap.objs.size ≤ it → s'.heap.IsListIter it l 0 → s'.heap.IsList l vs.reverse.toArray → Ev s s' → Q (.ref it) s') : wpAny (model prog w) A (call (.type "reversed") [.ref a]) Q E s := by
  obtain ⟨dx, sl, ha, hx⟩ := P.inst
  have I : InstAt s.heap a (pcls dx sl) 240 (some noDict) := ⟨ha, rfl, rfl, hx⟩
  refine callType_other (U := "list_iterator") (Q₁ := fun obj s₁ => ∃ it l : Nat, obj = .ref it ∧ s.heap.objs.size ≤ it ∧ s₁.heap.IsListIter it l 0 ∧ s₁.heap.IsList l vs.reverse.toArray ∧ Ev s s₁) (by decide +kernel) F.create_reversed ⟨_, _, F.mro_reversed⟩ F.made_reversed (by rw [isSubtype_type]; kernel_rfl) (F.typeCall_reversed_1 _) ?_ ?_
  · have meth : wpAny (model prog w) A.in1.in1 (runValue (.call (.ref 126) ⟨[.ref a], []⟩)) (fun v s' => ∃ it l : Nat, v = .ref it ∧ s.heap.objs.size ≤ it ∧ s'.heap.IsListIter it l 0 ∧ s'.heap.IsList l vs.reverse.toArray ∧ Ev s s') E s :=
      (c_reversed (n := n) (R.in1.in1.less (by omega)) X P).call fun v s' z => by
        obtain ⟨⟨it, l, e, h1, h2, h3⟩, ev⟩ := z
        exact ⟨it, l, e, h1, h2, h3, ev⟩
    have spec : Looks (model prog w) s.heap (specialOf (.ref a) "__reversed__") (some (.ref 126)) := I.type.andThen (looks_findIn X (f_rev w))
    refine codeAny_call_builtin F.plain_reversed_new F.entry_reversed_new (wpAny_of_eq (F.newCall_reversed_1 _) ?_)
    refine wpAny_bind (wpAny_of_eq (newClass_reversed _) (wpAny_bind (wpAny_pure (wpAny_bind (wpAny_pure (wpAny_bind (spec.here ?_)))))))
    refine wpAny_bind ((bind_fn X _ (t_rev w)).here (wpAny_bind (wpAny_rule ?_)))
    refine wpAny_bind (wpAny_mono meth (fun v s' z => ?_) fun _ _ z => z)
    obtain ⟨it, l, rfl, z⟩ := z
    exact wpAny_pure ⟨it, l, rfl, z⟩
  · rintro obj s₁ ⟨it, l, rfl, h1, h2, h3, ev⟩
    exact ⟨h2.typeIs, h it l s₁ h1 h2 h3 ev⟩
/-- bool(a), for a ParseResults -/
theorem v_bool {n L : Nat} {a : Addr} {m : Str → Option Value} {vs : List Value} {kvs : List (Str × Value)} {S : Str → Bool} {Q : Value → Shared → Prop} (R : Rm (n + 3) A) (X : Wd w s.heap) (N : s.heap.Ns L m) (hL : 333 ≤ L) (P : PRx prog w s.heap a vs kvs S)
    (h : ∀ s', Ev s s' → Q (.bool (!(vs.isEmpty && kvs.isEmpty))) s') : wpAny (model prog w) A (call (.type "bool") [.ref a]) Q E s := by
  refine callType_newIn (S := fun A' R' s' => A' = A.in1 ∧ s' = s ∧ ∀ s'', Ev s s'' → R' (.ok (.ret (.bool (!(vs.isEmpty && kvs.isEmpty))))) s'') F.called_bool F.newNe_bool (F.typeCall_bool_1 _) (F.newCall_bool_1 _) (fun obj => F.args_object_init_2 obj _) F.entry_bool_new ?_ ⟨rfl, rfl, fun s'' ev => ⟨rfl, h s'' ev⟩⟩
  rintro A' R' s' ⟨rfl, rfl, hq⟩
  have f1 := F.conv_sub_bool
  have go : ∀ (Q' : Bool → Shared → Prop) (E' : Value → Shared → Prop), (∀ s'', Ev s' s'' → Q' (!(vs.isEmpty && kvs.isEmpty)) s'') → wpAny (model prog w) A.in1.in1 (truthy (.ref a)) Q' E' s' := fun Q' E' h' => v_truthy (n := n) (R.in1.in1.less (by omega)) X N hL P h'
  clear h X N P R hL
  obtain ⟨hp, g, d, tk, os⟩ := s'
  repeat (any_goals (first | assumption | (refine go _ _ fun s'' ev => ?_) | wp_step))
  exact hq _ ‹_›
end
end Mine
end

-- YG
section
open PySem PySem.W PySem.Calls PyProof.Rows
set_option maxHeartbeats 4000000
namespace Mine
theorem n_rev3 (w : World) : nsIn (KV w) 3 "reversed" = some none := by kernel_rfl
theorem n_rev0 (w : World) : nsIn (KV w) 0 "reversed" = some (some (.type "reversed")) := by kernel_rfl
theorem n_bool3 (w : World) : nsIn (KV w) 3 "bool" = some none := by kernel_rfl
theorem n_bool0 (w : World) : nsIn (KV w) 0 "bool" = some (some (.type "bool")) := by kernel_rfl
abbrev envH (L : Addr) : Env := callEnvC fd_holds L 306
/-- the entries, by their names -/
def grp (E : List (Str × Itm)) : List (Str × List Itm) := (firsts E []).map fun k => (k, under E k)
/-- what is known at the start of the tests -/
structure Hs (prog : Program) (w : World) (N : Nat) (e0 : Heap) (a tl ol : Addr) (tv : Value) (vs : List Value) (kvs : List (Str × Value)) (S : Str → Bool) (toks : List Str) (Es : List (Str × Itm)) (St : List Str) : Prop where
  P : PRx prog w e0 a vs kvs S
  iv : All2 (ItA prog w N e0) vs (toks.map .s)
  d : DiA prog w N e0 kvs (grp Es)
  hS : ∀ k ∈ firsts Es [], S k = St.any (fun y => y == k)
  tk : ∃ vt c, IsL e0 tl vt.toArray c ∧ All2 StrV vt toks
  od : ∃ vo c, IsL e0 ol vo.toArray c ∧ All2 StrV vo (firsts Es [])
  tab : TabL prog w e0 tv (tabOf Es St)
  okT : ∀ x ∈ toks, OkS x
  okE : ∀ e ∈ Es, ∀ x ∈ e.2.texts, OkS x
  okK : ∀ e ∈ Es, OkS e.1
  zt : toks.length ≤ 64
  ze : Es.length ≤ 60
/-- the state while the tests run -/
structure Ho (prog : Program) (w : World) (s : Shared) (L a tl ol : Addr) (tv : Value) (e0 : Heap) (m : Str → Option Value) (s' : Shared) : Prop where
  B : Bd w s.heap.objs.size s L m s'
  m1 : m "made" = some (.ref a)
  m2 : m "tokens" = some (.ref tl)
  m3 : m "order" = some (.ref ol)
  cell : CellAt s'.heap (L + 1) (some tv)
  kp : Kp e0 s'.heap
  lo : s.heap.objs.size ≤ L
section
variable {prog : Program} {w : World} {A : Around} {E : Value → Shared → Prop} {s s' s'' : Shared} {env : Env} {N : Nat} {e0 : Heap} {L a tl ol : Addr} {tv : Value} {vs : List Value} {kvs : List (Str × Value)} {S : Str → Bool} {toks : List Str} {Es : List (Str × Itm)} {St : List Str} {m : Str → Option Value}
theorem Ho.ev (H : Ho prog w s L a tl ol tv e0 m s') (x : Ev s' s'') : Ho prog w s L a tl ol tv e0 m s'' := ⟨H.B.ev x, H.m1, H.m2, H.m3, H.cell.ka x.ka, H.kp.trans x.kp, H.lo⟩
theorem Ho.tok (H : Ho prog w s L a tl ol tv e0 m s') (t : Nat) : Ho prog w s L a tl ol tv e0 m { s' with toks := t } := H.ev (Ev.tok (.refl _) _)
theorem Ho.keep (H : Ho prog w s L a tl ol tv e0 m s') {h' : Heap} {t : Nat} (k : ∀ b o, s'.heap.get? b = some o → h'.get? b = some o) : Ho prog w s L a tl ol tv e0 m { s' with heap := h', toks := t } := H.ev ⟨.of k, rfl, .refl _⟩
theorem Ho.it (H : Ho prog w s L a tl ol tv e0 m s') {it : Addr} {o : Obj} {T : String} (ef : Ef s.heap.objs.size s' s'') (kx : Kx [it] s'.heap s''.heap) (kp : Kp s'.heap s''.heap) (q : s'.heap.get? it = some o) (c : o.cls = .type T) (h1 : T ≠ "frame") (h2 : T ≠ "cell") : Ho prog w s L a tl ol tv e0 m s'' :=
  ⟨H.B.kx ef kx (by rw [List.mem_singleton]; exact H.B.ne q (by rw [c]; simpa using h1)), H.m1, H.m2, H.m3, H.cell.at_ fun o' q' c' => kx _ _ (by
    rw [List.mem_singleton]
    intro z; subst z
    rw [q] at q'; cases q'
    rw [c] at c'; exact h2 (by simpa using c')) q' (by unfold tabO; rw [c']), H.kp.trans kp, H.lo⟩
theorem Ho.big (H : Ho prog w s L a tl ol tv e0 m s') : 333 ≤ L := Nat.le_trans H.B.big H.lo
theorem tl_rd {lo : Nat} {h : Heap} : ∀ {ys : List Value} {xs : List Str}, All2 (TL lo h) ys (xs.map Itm.s) → All2 (Rd h) ys (xs.map PyData.str)
  | _, [], .nil => .nil
  | _, _ :: _, .cons a b => .cons (TL.rd a) (tl_rd b)
theorem it_strs {h : Heap} : ∀ {ys : List Value} {xs : List Str}, All2 (ItA prog w N h) ys (xs.map Itm.s) → All2 StrV ys xs
  | _, [], .nil => .nil
  | _, _ :: _, .cons a b => .cons a (it_strs b)
theorem All2.rev {α β : Type} {R : α → β → Prop} {as : List α} {bs : List β} (x : All2 R as bs) : All2 R as.reverse bs.reverse := by
  induction x with
  | nil => exact .nil
  | cons a _ ih => rw [List.reverse_cons, List.reverse_cons]; exact ih.append (.cons a .nil)
/-- two lists of the same texts -/
theorem ne_strs {v1 v2 : Value} {l1 l2 : Addr} {u1 u2 : List Value} {xs : List Str} {Q : Value → Shared → Prop} (hu : A.units + 64 < cLine) (ok : ∀ x ∈ xs, OkS x) (e1 : v1 = .ref l1) (e2 : v2 = .ref l2) (q1 : s.heap.IsList l1 u1.toArray) (q2 : s.heap.IsList l2 u2.toArray) (x1 : All2 (Rd s.heap) u1 (xs.map PyData.str)) (x2 : All2 (Rd s.heap) u2 (xs.map PyData.str))
    (h : Q (.bool false) s) : wpAny (model prog w) A (compareOp .NotEq v1 v2) Q E s := by
  subst e1 e2
  obtain ⟨as1, r1⟩ := rd_list q1 x1
  obtain ⟨as2, r2⟩ := rd_list q2 x2
  refine SeqAt.compareNe_shaped r1 r2 (sh_strs ok) (sh_strs ok) hu ?_
  rw [PyData.eqv, eqv_strs]
  exact h
/-- the first if -/
theorem h_if1 {n : Nat} {Q : Flow → Shared → Prop} (R : Rm (n + 6) A) (Z : Hs prog w N e0 a tl ol tv vs kvs S toks Es St) (H : Ho prog w s L a tl ol tv e0 m s') {st : Stmt} (hst : (bodyOf fd_holds)[1]? = some st)
    (h : ∀ s'', Ho prog w s L a tl ol tv e0 m s'' → Q .next s'') : wpAny (model prog w) A (exec st (envH L)) Q E s' := by
  cases hst
  obtain ⟨vt, ct, qt, xt⟩ := Z.tk
  have hu : A.units + 64 < cLine := R.eqs
  have P1 := Z.P.kp H.kp
  obtain ⟨dx, sl, ha, hx⟩ := P1.inst
  refine wpAny_If (isTrue_or (wpAny_isTrue_Compare1 (MethodCall_ (r_local H.B.fm H.m1 (pr_meth H.B.wd ha hx (m_al w) (mf_al w) (callWith_K0 H.B.wd (mk_al w) ?_))))))
  refine (c_as_list (n := n) (N := N) (R.less (by omega)) H.B.wd P1 (Z.iv.mono fun _ _ z => z.kp H.kp)).call fun v s₁ z => ?_
  obtain ⟨ev, _, D, ys, c, rfl, _, hD, hTL⟩ := z
  replace H := H.ev ev
  refine r_local H.B.fm H.m2 (ne_strs hu Z.okT rfl rfl (IsL.isList hD) (isList_kp (IsL.isList qt) H.kp) (tl_rd hTL) (rd_strs xt) (wpAny_truthy_bool ?_))
  clear hD hTL ha hx P1 ev
  have P1 := Z.P.kp H.kp
  refine isTrue_or (wpAny_isTrue_Compare1 (Call_ (r_builtin H.B.wd (n_len3 w) (n_len0 w) (PyProof.Rows.callWith_builtin1 (wpAny_items_cons (r_local H.B.fm H.m1 (wpAny_items_nil ?_)))))))
  refine v_len (n := n) (R.less (by omega)) H.B.wd H.B.fm.ns H.big P1 fun s₂ t ev => ?_
  replace H := H.ev ev
  refine Call_ (r_builtin H.B.wd (n_len3 w) (n_len0 w) (PyProof.Rows.callWith_builtin1 (wpAny_items_cons (r_local H.B.fm H.m2 (wpAny_items_nil ?_)))))
  have e1 := Z.iv.length
  have e2 := xt.length
  have e3 := Z.zt
  rw [List.length_map] at e1
  refine call_len_list (isList_kp (IsL.isList qt) H.kp) (by rw [List.size_toArray]; omega) (PyProof.Rows.ne_int ?_)
  rw [List.size_toArray, e1, e2, bne_self_eq_false]
  refine wpAny_truthy_bool ?_
  replace H := H.tok (s₂.toks + 1 + 1)
  clear P1 ev
  have P1 := Z.P.kp H.kp
  have iv1 := it_strs (Z.iv.mono fun _ _ z => z.kp H.kp)
  refine isTrue_or (wpAny_isTrue_Compare1 (Call_ (r_builtin H.B.wd (n_list3 w) (n_list0 w) (callWith_type1 (wpAny_items_cons (r_local H.B.fm H.m1 (wpAny_items_nil ?_)))))))
  refine l_list_pr (n := n + 2) R H.B.wd H.B.fm H.big P1 fun s₃ c3 ev hD => ?_
  replace H := H.ev ev
  refine r_local H.B.fm H.m2 (ne_strs hu Z.okT rfl rfl (IsL.isList hD) (isList_kp (IsL.isList qt) H.kp) (rd_strs iv1) (rd_strs xt) (wpAny_truthy_bool ?_))
  clear hD P1 ev
  have P1 := Z.P.kp H.kp
  refine isTrue_or (wpAny_isTrue_Compare1 (Call_ (r_builtin H.B.wd (n_list3 w) (n_list0 w) (callWith_type1 (wpAny_items_cons (Call_ (r_builtin H.B.wd (n_rev3 w) (n_rev0 w) (callWith_type1 (wpAny_items_cons (r_local H.B.fm H.m1 (wpAny_items_nil ?_)))))))))))
  have hlt : s.heap.objs.size ≤ s₃.heap.objs.size := Nat.le_of_lt H.B.lt
  refine v_reversed (n := n + 3) R H.B.wd P1 fun it l s₄ hit qit ql ev => ?_
  replace H := H.ev ev
  obtain ⟨oi, qi, ci, di⟩ := id qit
  refine wpAny_items_nil (l_list_li (N := s.heap.objs.size) R.h qit ql (by rw [List.length_reverse]; omega) (Nat.le_trans hlt hit) (Nat.le_of_lt H.B.lt) fun s₅ c5 ef kx kp hD => ?_)
  replace H := H.it ef kx kp qi ci (by decide) (by decide)
  refine Subscript_ (r_local H.B.fm H.m2 (wpAny_Slice (evalPart_none_step (evalPart_none_step (evalPart_some_step (wpAny_UnaryOp (wpAny_Constant_int (PyProof.Rows.neg_int ?_))))))))
  replace H := H.tok (s₅.toks + 1 + 1)
  refine v_slice (s := { s₅ with toks := s₅.toks + 1 + 1 }) (isList_kp (IsL.isList qt) H.kp) .none .none (.int _ _) (by decide) (by rw [List.size_toArray]; omega) fun h₆ D6 k6 _ hD6 => ?_
  rw [krv_pick] at hD6
  have H6 := H.keep (t := s₅.toks + 1 + 1) k6
  refine ne_strs (s := { s₅ with heap := h₆, toks := s₅.toks + 1 + 1 }) hu (fun x m => Z.okT x (List.mem_reverse.mp m)) rfl rfl (IsL.isList (k6 _ _ hD)) (IsL.isList hD6) (rd_strs iv1.rev) (rd_strs xt.rev) (wpAny_truthy_bool ?_)
  exact isTrue_or_nil (wpAny_execs_nil (env := envH L) (h _ H6))
end
end Mine
end

-- YH
section
open PySem PySem.W PySem.Calls PyProof.Rows
set_option maxHeartbeats 4000000
namespace Mine
def orTail (b : List Stmt) (i : Nat) : Expr := match b[i]? with | some (.If (.BoolOp o (_ :: r) p) _ _ _) => .BoolOp o r p | _ => .Constant .none 0 ⟨0, 0, 0, 0⟩
section
variable {prog : Program} {w : World} {A : Around} {E : Value → Shared → Prop} {s s' s'' : Shared} {env : Env} {N : Nat} {e0 : Heap} {L a tl ol : Addr} {tv : Value} {vs : List Value} {kvs : List (Str × Value)} {S : Str → Bool} {toks : List Str} {Es : List (Str × Itm)} {St : List Str} {m : Str → Option Value}
theorem v_ne_nil {l b : Addr} {us : List Value} {Q : Value → Shared → Prop} (hl : s.heap.IsList l us.toArray) (hb : s.heap.IsList b #[]) (hu : A.units < cLine) (h : Q (.bool (!us.isEmpty)) s) : wpAny (model prog w) A (compareOp .NotEq (.ref l) (.ref b)) Q E s := by
  cases us with
  | nil => exact (SeqAt.RcNeAt.lists (e := fun _ => true) hl hb rfl hu (fun j h1 _ => absurd h1 (Nat.not_lt_zero _))) prog w E Q h
  | cons v r => exact (SeqAt.RcNeAt.lists_lengths hl hb (by simp) hu) prog w E Q h
/-- x != [], for a list that stands -/
theorem h_ne {x : Str} {p1 p2 p3 : Pos} {l : Addr} {us : List Value} {c : Nat} {Q : Value → Shared → Prop} (hu : A.units < cLine) (H : Ho prog w s L a tl ol tv e0 m s') (hx : m x = some (.ref l)) (hk : (envH L).kindOf x = some .local) (hd : (x == ("__debug__" : Str)) = false) (q : IsL e0 l us.toArray c)
    (h : ∀ s'', Ho prog w s L a tl ol tv e0 m s'' → Q (.bool (!us.isEmpty)) s'') : wpAny (model prog w) A (eval (.Compare (.Name x p1) [.NotEq] [.List [] p2] p3) (envH L)) Q E s' := by
  refine wpAny_Compare1 (r_local H.B.fm hx (wpAny_List (wpAny_items_nil ⟨by decide, ?_⟩)) rfl hk hd)
  have k : ∀ b o, s'.heap.get? b = some o → (s'.heap.push { cls := .type "list", data := .seq #[] }).get? b = some o := fun b o e => Heap.get?_push_of_some _ e
  have H' := H.keep (t := s'.toks) k
  exact v_ne_nil (IsL.isList (k _ _ (H.kp.k _ _ q rfl))) (IsL.isList (show IsL _ _ #[] 0 from Heap.get?_push_size _ rfl)) hu (h _ H')
theorem grp_empty (Z : Hs prog w N e0 a tl ol tv vs kvs S toks Es St) : kvs.isEmpty = (firsts Es []).isEmpty := by
  rw [all2_empty Z.d, grp]
  cases firsts Es [] <;> rfl
/-- the second if -/
theorem h_if2 {n : Nat} {Q : Flow → Shared → Prop} (R : Rm (n + 6) A) (Z : Hs prog w N e0 a tl ol tv vs kvs S toks Es St) (H : Ho prog w s L a tl ol tv e0 m s') {st : Stmt} (hst : (bodyOf fd_holds)[2]? = some st)
    (h : ∀ s'', Ho prog w s L a tl ol tv e0 m s'' → Q .next s'') : wpAny (model prog w) A (exec st (envH L)) Q E s' := by
  cases hst
  obtain ⟨vt, ct, qt, xt⟩ := Z.tk
  obtain ⟨vo, co, qo, xo⟩ := Z.od
  have hu : A.units < cLine := R.cl
  have ek : kvs.isEmpty = vo.isEmpty := by rw [grp_empty Z, all2_empty xo]
  have ev : vs.isEmpty = vt.isEmpty := by
    have := all2_empty Z.iv
    rw [this, all2_empty xt]
    cases toks <;> rfl
  have P1 := Z.P.kp H.kp
  refine wpAny_If (isTrue_or (wpAny_isTrue_Compare1 (Call_ (r_builtin H.B.wd (n_bool3 w) (n_bool0 w) (callWith_type1 (wpAny_items_cons (r_local H.B.fm H.m1 (wpAny_items_nil ?_))))))))
  refine v_bool (n := n) (R.less (by omega)) H.B.wd H.B.fm.ns H.big P1 fun s₁ ev1 => ?_
  replace H := H.ev ev1
  clear P1 ev1
  rw [ek, ev]
  have fin : ∀ s₂, Ho prog w s L a tl ol tv e0 m s₂ → ∀ whole : Sem Value, wpAny (model prog w) A (PySem.isTrue (orTail (bodyOf fd_holds) 2) (envH L) whole) (fun c s₃ => c = false ∧ Ho prog w s L a tl ol tv e0 m s₃) E s₂ := by
    intro s₂ H whole
    have P1 := Z.P.kp H.kp
    obtain ⟨dx, sl, ha, hx⟩ := P1.inst
    refine isTrue_or (wpAny_isTrue_Compare1 (MethodCall_ (r_local H.B.fm H.m1 (pr_meth H.B.wd ha hx (m_hk w) (mf_hk w) (callWith_K0 H.B.wd (mk_hk w) ?_)))))
    refine (c_haskeys (n := n) (R.less (by omega)) H.B.wd P1).call fun v s₃ z => ?_
    obtain ⟨rfl, ev3⟩ := z
    replace H := H.ev ev3
    refine h_ne hu H H.m3 rfl (by decide) qo fun s₄ H => ?_
    rw [ek]
    refine PyProof.Rows.ne_bool (wpAny_truthy_bool ?_)
    rw [bne_self_eq_false]
    exact isTrue_or_nil ⟨rfl, H⟩
  refine BoolOp_or (h_ne hu H H.m2 rfl (by decide) qt fun s₂ H => wpAny_truthy_bool ?_)
  cases hv : vt.isEmpty with
  | false =>
    refine PyProof.Rows.ne_bool (wpAny_truthy_bool ?_)
    refine wpAny_mono (fin _ H _) (fun c s₃ z => ?_) fun _ _ z => z
    obtain ⟨rfl, H⟩ := z
    exact wpAny_execs_nil (env := envH L) (h _ H)
  | true =>
    refine BoolOp_one (h_ne hu H H.m3 rfl (by decide) qo fun s₃ H => ?_)
    refine PyProof.Rows.ne_bool (wpAny_truthy_bool ?_)
    rw [Bool.true_and, bne_self_eq_false]
    refine wpAny_mono (fin _ H _) (fun c s₃ z => ?_) fun _ _ z => z
    obtain ⟨rfl, H⟩ := z
    exact wpAny_execs_nil (env := envH L) (h _ H)
end
end Mine
end

-- YI
section
open PySem PySem.W PySem.Calls PyProof.Rows
set_option maxHeartbeats 4000000
namespace Mine
def orNth (b : List Stmt) (i j : Nat) : Expr := match b[i]? with | some (.If (.BoolOp _ es _) _ _ _) => (es[j]?).getD (.Constant .none 0 ⟨0, 0, 0, 0⟩) | _ => .Constant .none 0 ⟨0, 0, 0, 0⟩
section
variable {prog : Program} {w : World} {A : Around} {E : Value → Shared → Prop} {s s' s'' : Shared} {env : Env} {N : Nat} {e0 : Heap} {L a tl ol : Addr} {tv : Value} {vs : List Value} {kvs : List (Str × Value)} {S : Str → Bool} {toks : List Str} {Es : List (Str × Itm)} {St : List Str} {m : Str → Option Value}
theorem tl2_sub {hi : Nat} {h : Heap} {y : Value} {xs : List Str} (x : TL2 hi h y (xs.map .s)) : TL hi h y (.sub xs) := by
  obtain ⟨l, ys, k, e, hl, q, a⟩ := x
  refine ⟨l, ys, k, e, hl, q, ?_⟩
  have go : ∀ {ys : List Value} {xs : List Str}, All2 (TL hi h) ys (xs.map Itm.s) → All2 StrV ys xs := by
    intro ys xs
    induction xs generalizing ys with
    | nil => intro z; cases z; exact .nil
    | cons x r ih => intro z; cases z with | cons a b => exact .cons a (ih b)
  exact go a
/-- _law_plain(v), for what a name gives -/
theorem c_lp_get {n hi j : Nat} {e : Heap} {D : List (Str × List Itm)} {k : Str} {v x : Value} (R : Rm (n + 5) A) (X : Wd w s.heap) (hhi : 333 ≤ hi) (g : GetV prog w e s.heap hi kvs S k v) (d : DiA prog w N e kvs D) (ke : Kp e s.heap) (hn : (kvs.map (·.1)).Nodup) (hj : kvs[j]? = some (k, x)) :
    Ret prog w A (.ref 301) ⟨[v], []⟩ s (fun r s' => Ev s s' ∧ s.heap.objs.size ≤ s'.heap.objs.size ∧ ∃ Is, D[j]? = some (k, Is) ∧ TD s.heap.objs.size s'.heap r (S k) Is) := by
  obtain ⟨Is, hd, z⟩ := getV_itm g d hn hj
  cases hS : S k with
  | true =>
    rw [hS] at z
    obtain ⟨xs, np, q, hz⟩ := z
    obtain ⟨a, rfl, la, P⟩ := np.prx hhi hz
    exact (c_lp_pr R X P (q.mono fun _ _ z => z.kp ke)).mono fun r s' z => ⟨z.1, z.2.1, Is, hd, z.2.2⟩
  | false =>
    rw [hS] at z
    obtain ⟨I, e3, q⟩ := z
    cases I with
    | s x =>
      obtain ⟨t, rfl⟩ := q
      exact (c_lp_str (n := n + 3) R X).mono fun r s' z => by
        obtain ⟨rfl, ev, hz⟩ := z
        exact ⟨ev, hz, Is, hd, .s x, e3, t, rfl⟩
    | sub xs =>
      obtain ⟨a, vs', S', rfl, la, P, q⟩ := q
      exact (c_lp_pr (N := 0) R X (P.kp ke) (items_of q)).mono fun r s' z => ⟨z.1, z.2.1, Is, hd, .sub xs, e3, tl2_sub z.2.2⟩
theorem grp_keys (d : DiA prog w N e0 kvs (grp Es)) : kvs.map (·.1) = firsts Es [] := by
  have : kvs.map (·.1) = (grp Es).map (·.1) := All2.keys (R := fun v Is => Is ≠ [] ∧ UnA prog w N e0 v Is) d
  rw [this, grp, List.map_map]
  exact List.map_id _
theorem okN (Z : Hs prog w N e0 a tl ol tv vs kvs S toks Es St) : ∀ x ∈ firsts Es [], OkS x := fun x mx => by
  rcases firsts_mem Es [] mx with q | ⟨e, me, rfl⟩
  · cases q
  · exact Z.okK e me
theorem under_ok (Z : Hs prog w N e0 a tl ol tv vs kvs S toks Es St) (k : Str) : ∀ I ∈ under Es k, ∀ x ∈ I.texts, OkS x := fun I mI => by
  obtain ⟨e, me, rfl⟩ := List.mem_map.mp mI
  exact Z.okE e (List.mem_filter.mp me).1
theorem kvs_len (Z : Hs prog w N e0 a tl ol tv vs kvs S toks Es St) : kvs.length ≤ 60 := by
  have e1 : kvs.length = (kvs.map (·.1)).length := (List.length_map ..).symm
  rw [e1, grp_keys Z.d]
  have := firsts_len Es []
  rw [List.length_nil] at this
  have := Z.ze
  omega
theorem nodupK (Z : Hs prog w N e0 a tl ol tv vs kvs S toks Es St) : (kvs.map (·.1)).Nodup := by
  rw [grp_keys Z.d]; exact firsts_nodup Es [] List.nodup_nil
/-- the keys against the order -/
theorem h_keys {n : Nat} {Q : Bool → Shared → Prop} {whole : Sem Value} (R : Rm (n + 6) A) (Z : Hs prog w N e0 a tl ol tv vs kvs S toks Es St) (H : Ho prog w s L a tl ol tv e0 m s')
    (h : ∀ s'', Ho prog w s L a tl ol tv e0 m s'' → Q false s'') : wpAny (model prog w) A (PySem.isTrue (orNth (bodyOf fd_holds) 3 0) (envH L) whole) Q E s' := by
  obtain ⟨vo, co, qo, xo⟩ := Z.od
  have hu : A.units + 64 < cLine := R.eqs
  have P1 := Z.P.kp H.kp
  obtain ⟨dx, sl, ha, hx⟩ := P1.inst
  refine wpAny_isTrue_Compare1 (Call_ (r_builtin H.B.wd (n_list3 w) (n_list0 w) (PyProof.Rows.callWith_type1 (wpAny_items_cons (MethodCall_ (r_local H.B.fm H.m1 (pr_meth H.B.wd ha hx (m_keys w) (mf_keys w) (callWith_K0 H.B.wd (mk_keys w) ?_))))))))
  have hlt : s.heap.objs.size ≤ s'.heap.objs.size := Nat.le_of_lt H.B.lt
  refine (c_keys (n := n) (R.less (by omega)) H.B.wd P1).call fun v s₁ z => ?_
  obtain ⟨⟨it, d, ep, rfl, hit, hdl, hsy, qit, qd⟩, ev⟩ := z
  replace H := H.ev ev
  obtain ⟨oi, qi, ci, di⟩ := id qit
  refine wpAny_items_nil (l_list_ki (N := s.heap.objs.size) R.h qit qd (by have := kvs_len Z; omega) (Nat.le_trans hlt hit) (Nat.le_of_lt H.B.lt) fun s₂ us c2 ef kx kp hD hU => ?_)
  replace H := H.it ef kx kp qi ci (by decide) (by decide)
  rw [grp_keys Z.d] at hU
  exact r_local H.B.fm H.m3 (ne_strs hu (okN Z) rfl rfl (IsL.isList hD) (isList_kp (IsL.isList qo) H.kp) (rd_strs hU) (rd_strs xo) (wpAny_truthy_bool (h _ H)))
end
end Mine
end

-- YJ
section
open PySem PySem.W PySem.Calls PyProof.Rows
set_option maxHeartbeats 4000000
namespace Mine
theorem m_ad (w : World) : findIn (KV w) (.ref 240) "as_dict" = some (some (.ref 229)) := by kernel_rfl
theorem mf_ad (w : World) : typeIn (KV w) (.ref 229) = some (.type "function") := by kernel_rfl
theorem mk_ad (w : World) : keepIn (KV w) (.ref 229) = true := by kernel_rfl
theorem All2.memR {α β : Type} {R : α → β → Prop} {as : List α} {bs : List β} {b : β} (h : All2 R as bs) (m : b ∈ bs) : ∃ a ∈ as, R a b := by
  induction h with
  | nil => cases m
  | cons x y ih =>
    rcases List.mem_cons.mp m with rfl | m
    · exact ⟨_, List.mem_cons_self, x⟩
    · obtain ⟨a, ma, r⟩ := ih m
      exact ⟨a, List.mem_cons_of_mem _ ma, r⟩
theorem All2.mapR {α β γ : Type} {R : α → β → Prop} {R' : α → γ → Prop} {f : β → γ} {as : List α} {bs : List β} (h : All2 R as bs) (hf : ∀ a b, b ∈ bs → R a b → R' a (f b)) : All2 R' as (bs.map f) := by
  induction h with
  | nil => exact .nil
  | cons x y ih => exact .cons (hf _ _ List.mem_cons_self x) (ih fun a b m r => hf a b (List.mem_cons_of_mem _ m) r)
section
variable {prog : Program} {w : World} {A : Around} {E : Value → Shared → Prop} {s s' s'' : Shared} {env : Env} {N : Nat} {e0 : Heap} {L a tl ol : Addr} {tv : Value} {vs : List Value} {kvs : List (Str × Value)} {S : Str → Bool} {toks : List Str} {Es : List (Str × Itm)} {St : List Str} {m : Str → Option Value}
theorem hits_all {kb acc : List (Str × Value)} {ds : List (Str × PyData)} (hu : A.in1.units + 64 < cLine) (h : All2 (fun (kv : Str × Value) d => kv.1 = d.1 ∧ Rd s.heap kv.2 d.2) acc ds) (hb : ∀ d ∈ ds, ∃ y, valueAt kb d.1 = some y ∧ Rd s.heap y d.2)
    (sh : ∀ d ∈ ds, SeqAt.shaped d.2 = true) (eq : ∀ d ∈ ds, PyData.eqv d.2 d.2 = true) : KeqHits A.in1 s kb acc true := by
  induction h with
  | nil => exact .nil
  | @cons kv d as bs x y ih =>
    obtain ⟨k, v⟩ := kv
    obtain ⟨y', e1, as1, r1⟩ := hb d List.mem_cons_self
    obtain ⟨e2, as2, r2⟩ := x
    have e := keq_at (A := A) r2 r1 (sh d List.mem_cons_self) (sh d List.mem_cons_self) hu
    rw [eq d List.mem_cons_self] at e
    exact KeqHits.hit (by rw [show k = d.1 from e2]; exact e1) e (ih (fun d' m => hb d' (List.mem_cons_of_mem _ m)) (fun d' m => sh d' (List.mem_cons_of_mem _ m)) fun d' m => eq d' (List.mem_cons_of_mem _ m))
theorem tab_grp (Z : Hs prog w N e0 a tl ol tv vs kvs S toks Es St) : tabOf Es St = (grp Es).map fun d => (d.1, tellD (S d.1) d.2) := by
  rw [grp, List.map_map, tabOf]
  refine List.map_congr_left fun k mk => ?_
  show _ = (k, tellD (S k) (under Es k))
  rw [Z.hS k mk]
theorem tab_mem {d : Str × PyData} (m : d ∈ tabOf Es St) : ∃ k b, k ∈ firsts Es [] ∧ d = (k, tellD b (under Es k)) := by
  obtain ⟨k, mk, rfl⟩ := List.mem_map.mp m
  exact ⟨k, _, mk, rfl⟩
theorem tab_at (Z : Hs prog w N e0 a tl ol tv vs kvs S toks Es St) {kb : List (Str × Value)} (h : All2 (fun (kv : Str × Value) d => kv.1 = d.1 ∧ Rd s.heap kv.2 d.2) kb (tabOf Es St)) (hn : (kb.map (·.1)).Nodup) : ∀ d ∈ tabOf Es St, ∃ y, valueAt kb d.1 = some y ∧ Rd s.heap y d.2 := fun d md => by
  obtain ⟨kv, mk, e, r⟩ := h.memR md
  exact ⟨kv.2, by rw [← e]; exact valueAt_nodup hn mk, r⟩
/-- as_dict against the table -/
theorem h_dict {n : Nat} {Q : Bool → Shared → Prop} {whole : Sem Value} (R : Rm (n + 12) A) (T : Tb s.heap) (Z : Hs prog w N e0 a tl ol tv vs kvs S toks Es St) (H : Ho prog w s L a tl ol tv e0 m s')
    (h : ∀ s'', Ho prog w s L a tl ol tv e0 m s'' → Q false s'') : wpAny (model prog w) A (PySem.isTrue (orNth (bodyOf fd_holds) 3 1) (envH L) whole) Q E s' := by
  have hu : A.units + 65 < cLine := by have := R.u; omega
  have P1 := Z.P.kp H.kp
  obtain ⟨dx, sl, ha, hx⟩ := P1.inst
  have hlt : s.heap.objs.size ≤ s'.heap.objs.size := Nat.le_of_lt H.B.lt
  refine wpAny_isTrue_Compare1 (MethodCall_ (r_local H.B.fm H.m1 (pr_meth H.B.wd ha hx (m_ad w) (mf_ad w) (callWith_K0 H.B.wd (mk_ad w) ?_))))
  refine (c_as_dict (n := n) R H.B.wd (H.B.tb T) P1 (Z.d.kp H.kp)).call fun v s₁ z => ?_
  obtain ⟨ev, hz1, Dd, acc, rfl, hDd, qd, hall⟩ := z
  replace H := H.ev ev
  obtain ⟨td, kb, rfl, htd, qb, hb⟩ := Z.tab.kp H.kp
  have hall' : All2 (fun (kv : Str × Value) d => kv.1 = d.1 ∧ Rd s₁.heap kv.2 d.2) acc (tabOf Es St) := by
    rw [tab_grp Z]
    exact hall.mapR fun kv d _ ⟨e, t⟩ => ⟨e, t.rd⟩
  have hnd : (kb.map (·.1)).Nodup := by
    obtain ⟨o, es, ep, q, he, _, _, hn⟩ := qb
    first | exact hn | exact hn.2
  have e1 := hall'.length
  have e2 := hb.length
  refine r_cell (c := L + 1) rfl H.cell (keq_ne (knd := PySem.strKind prog w) (r := true) ?_ ?_ qd qb (by omega) (fun _ => hits_all (show A.units + 1 + 64 < cLine by omega) hall' (tab_at Z hb hnd) (fun d md => ?_) fun d md => ?_) ?_)
  · exact sys_ne (Nat.le_trans H.B.big hlt) hDd
  · exact sys_ne (Nat.le_refl 333) htd
  · obtain ⟨k, b, mk, rfl⟩ := tab_mem md
    exact sh_tellD (under_ok Z k)
  · obtain ⟨k, b, mk, rfl⟩ := tab_mem md
    exact eqv_tellD _ _
  · rw [e1, e2, beq_self_eq_true]
    exact wpAny_truthy_bool (h _ H)
end
end Mine
end

-- YK
section
open PySem PySem.W PySem.Calls PyProof.Rows
set_option maxHeartbeats 4000000
namespace Mine
theorem m_va (w : World) : findIn (KV w) (.ref 240) "values" = some (some (.ref 140)) := by kernel_rfl
theorem mf_va (w : World) : typeIn (KV w) (.ref 140) = some (.type "function") := by kernel_rfl
theorem mk_va (w : World) : keepIn (KV w) (.ref 140) = true := by kernel_rfl
theorem n_plainL (w : World) : nsIn (KV w) 3 "_law_plain" = some (some (.ref 301)) := by kernel_rfl
theorem k_plainL (w : World) : keepIn (KV w) (.ref 301) = true := by kernel_rfl
theorem all2_idx {α β : Type} {R : α → β → Prop} : ∀ {as : List α} {bs : List β}, as.length = bs.length → (∀ (j : Nat) (a : α), as[j]? = some a → ∃ b, bs[j]? = some b ∧ R a b) → All2 R as bs
  | [], [], _, _ => .nil
  | [], _ :: _, e, _ => by cases e
  | _ :: _, [], e, _ => by cases e
  | a :: as, b :: bs, e, h => by
    obtain ⟨b', e1, r⟩ := h 0 a rfl
    cases e1
    exact .cons r (all2_idx (Nat.succ.inj e) fun j a' q => h (j + 1) a' q)
theorem sh_parts {d : PyData} (h : SeqAt.shaped d = true) : d.canLay0 = true := by
  rw [SeqAt.shaped, Bool.and_eq_true] at h; exact h.1
theorem dep_tellD : ∀ (b : Bool) (Is : List Itm), (∀ I ∈ Is, ∀ x ∈ I.texts, OkS x) → (tellD b Is).depth ≤ 2
  | true, Is, h => by
    obtain ⟨_, d⟩ := lay_itms h
    rw [tellD, PyData.depth]; omega
  | false, Is, h => by
    show ((Is.getLast?.map Itm.tell).getD .none).depth ≤ 2
    cases q : Is.getLast? with
    | none => exact Nat.zero_le _
    | some I =>
      obtain ⟨_, d⟩ := sh_itm (h I (List.mem_of_getLast? q))
      show I.tell.depth ≤ 2
      omega
theorem sh_tells : ∀ {ds : List PyData}, (∀ d ∈ ds, SeqAt.shaped d = true ∧ d.depth ≤ 2) → PyData.canLayAll0 ds = true ∧ PyData.depthAll ds ≤ 2
  | [], _ => ⟨rfl, Nat.zero_le _⟩
  | d :: r, h => by
    obtain ⟨a, b⟩ := h d List.mem_cons_self
    obtain ⟨c, e⟩ := sh_tells (ds := r) fun x m => h x (List.mem_cons_of_mem _ m)
    rw [PyData.canLayAll0, PyData.depthAll, sh_parts a, c]
    exact ⟨rfl, Nat.max_le.mpr ⟨b, e⟩⟩
theorem eqv_tells : ∀ {ds : List PyData}, (∀ d ∈ ds, PyData.eqv d d = true) → PyData.eqvAll ds ds = true
  | [], _ => rfl
  | d :: r, h => by rw [PyData.eqvAll, h d List.mem_cons_self, eqv_tells (ds := r) fun x m => h x (List.mem_cons_of_mem _ m)]; rfl
section
variable {prog : Program} {w : World} {A : Around} {E : Value → Shared → Prop} {s s' s'' : Shared} {env : Env} {N : Nat} {e0 : Heap} {L a tl ol : Addr} {tv : Value} {vs : List Value} {kvs : List (Str × Value)} {S : Str → Bool} {toks : List Str} {Es : List (Str × Itm)} {St : List Str} {m : Str → Option Value}
/-- the values against the table -/
theorem h_vals {n : Nat} {Q : Bool → Shared → Prop} {whole : Sem Value} (R : Rm (n + 12) A) (T : Tb s.heap) (Z : Hs prog w N e0 a tl ol tv vs kvs S toks Es St) (H : Ho prog w s L a tl ol tv e0 m s')
    (h : ∀ s'', Ho prog w s L a tl ol tv e0 m s'' → Q false s'') : wpAny (model prog w) A (PySem.isTrue (orNth (bodyOf fd_holds) 3 2) (envH L) whole) Q E s' := by
  have hu : A.units + 64 < cLine := R.eqs
  have P1 := Z.P.kp H.kp
  obtain ⟨dx, sl, ha, hx⟩ := P1.inst
  have d1 := Z.d.kp H.kp
  have hk60 := kvs_len Z
  have hbig := H.B.big
  refine wpAny_isTrue_Compare1 (v_ListComp (cl := []) rfl rfl (by decide) rfl (by decide) H.B.wd ?_)
  refine MethodCall_ (r_local H.B.fm H.m1 (pr_meth H.B.wd ha hx (m_va w) (mf_va w) (callWith_K0 H.B.wd (mk_va w) ?_)))
  refine (c_values (n := n) (R.less (by omega)) H.B.wd (H.B.tb T) P1 d1.unr).call fun v s₁ z => ?_
  obtain ⟨ev, hz1, ga, rfl, src⟩ := z
  obtain ⟨I, i0, Sr⟩ := src A (R.less (by omega))
  have hlt1 : s.heap.objs.size ≤ s₁.heap.objs.size := Nat.le_trans (Nat.le_of_lt H.B.lt) hz1
  refine Sr.iter A s₁ _ _ i0 ⟨ev, hz1, kvs.length, s₁.gens.size, I, _, fun _ => true, fun h j y => ∃ k Is, (grp Es)[j]? = some (k, Is) ∧ TD (s₁.heap.objs.size + 2) h y (S k) Is, by omega, i0, Sr, fun h h' j y ⟨k, Is, e, t⟩ st => ⟨k, Is, e, t.st st⟩, ?_, ?_⟩
  · intro j v sx mm E' hj ef X' hzx ⟨k, x, e1, g⟩ hn hm
    refine wpAny_tests_nil ⟨rfl, .refl _, fun _ => ?_⟩
    have ka : Ka s'.heap sx.heap := ef.kf.ka (Nat.le_refl _)
    refine Call_ (r_global X' (n_plainL w) (callWith_K (h₀ := sx.heap) X' (k_plainL w) (wpAny_items_cons (r_localN hn hm (wpAny_items_nil ⟨X', ?_⟩)))))
    refine (c_lp_get (n := n) (R.less (by omega)) X' (by omega) g d1 ka.kp (nodupK Z) e1).call fun r s₂ z => ?_
    obtain ⟨ev2, _, Is, hD, td⟩ := z
    exact ⟨ev2, k, Is, hD, td.mono hzx⟩
  intro s₂ ys c ev2 hD hall
  obtain ⟨hyl, hy⟩ := all2_range hall
  replace H := H.ev ev2
  clear src Sr hall ha hx
  obtain ⟨lo, hlo⟩ : ∃ lo : Nat, lo = s₁.heap.objs.size := ⟨_, rfl⟩
  rw [← hlo] at hD hy hlt1 ⊢
  obtain ⟨vo, co, qo, xo⟩ := Z.od
  obtain ⟨td, kb, rfl, htd, qb, hb⟩ := Z.tab.kp H.kp
  have hnd : (kb.map (·.1)).Nodup := by
    obtain ⟨o, es, ep, q, he, _, _, hn⟩ := qb
    first | exact hn | exact hn.2
  have hol := isList_kp (IsL.isList qo) H.kp
  have e60 : vo.length ≤ 60 := by
    rw [xo.length]
    have := firsts_len Es []
    rw [List.length_nil] at this
    have := Z.ze
    omega
  refine v_ListComp_list (cl := [("table", L + 1)]) (l := ol) (its := vo) R.h rfl rfl (by decide) rfl (by decide) H.B.wd hol (by omega) (fun _ => true) (fun _ j y => ∃ k, (firsts Es [])[j]? = some k ∧ valueAt kb k = some y) ?_
  refine r_local H.B.fm H.m3 ⟨rfl, .refl _, Nat.le_refl _, fun lo2 _ => ⟨fun _ _ _ _ x _ => x, ?_, ?_⟩⟩
  · intro j v sx mm E' hv evx hzx hn hm
    refine wpAny_tests_nil ⟨rfl, .refl _, fun _ => ?_⟩
    obtain ⟨k, hk, t, rfl⟩ := xo.get hv
    have qbx := dictOf_kp qb evx.kp
    obtain ⟨y, hy1, _⟩ := tab_at Z hb hnd (k, tellD (St.any (fun y => y == k)) (under Es k)) (List.mem_map.mpr ⟨k, List.mem_of_getElem? hk, rfl⟩)
    refine Subscript_ (r_cell (c := L + 1) rfl (H.cell.ka evx.ka) (r_localN hn hm ?_))
    exact tail_any qbx.typeIs F.slot_dict_getitem.lookup (wpAny_getItem_of (PySem.strKind_is prog w k t) qbx.mapOf hy1 ⟨Ev.tok (.refl _) _, k, hk, hy1⟩) (by with_unfolding_all rfl)
  intro s₃ D2 zs c2 ev3 _ hD2 hall2
  obtain ⟨hzl, hz⟩ := all2_range hall2
  replace H := H.ev ev3
  have hD' := ev3.ka.k _ _ hD rfl
  have hlen : (tabOf Es St).length = kvs.length := by
    rw [tab_grp Z, List.length_map]; exact Z.d.length.symm
  have hgl : (grp Es).length = kvs.length := Z.d.length.symm
  have r1 : All2 (Rd s₃.heap) ys ((tabOf Es St).map (·.2)) := by
    refine all2_idx (by rw [List.length_map, hlen, hyl]) fun j y e => ?_
    obtain ⟨k, Is, e2, t⟩ := hy j y e
    refine ⟨tellD (S k) Is, ?_, (t.rd).kp ev3.kp⟩
    rw [tab_grp Z, List.getElem?_map, List.getElem?_map, e2]; rfl
  have r2 : All2 (Rd s₃.heap) zs ((tabOf Es St).map (·.2)) := by
    refine all2_idx (by rw [List.length_map, hlen, hzl, xo.length, ← hgl, grp, List.length_map]) fun j y e => ?_
    obtain ⟨k, e1, e2⟩ := hz j y e
    obtain ⟨y', e3, r⟩ := tab_at Z hb hnd (k, tellD (St.any (fun y => y == k)) (under Es k)) (List.mem_map.mpr ⟨k, List.mem_of_getElem? e1, rfl⟩)
    rw [e2] at e3; cases e3
    refine ⟨tellD (St.any (fun y => y == k)) (under Es k), ?_, r.kp ev3.kp⟩
    rw [tabOf, List.map_map, List.getElem?_map, e1]; rfl
  have hsh : ∀ d ∈ (tabOf Es St).map (·.2), SeqAt.shaped d = true ∧ d.depth ≤ 2 := fun d md => by
    obtain ⟨d', md', rfl⟩ := List.mem_map.mp md
    obtain ⟨k, b, mk, rfl⟩ := tab_mem md'
    exact ⟨sh_tellD (under_ok Z k), dep_tellD _ _ (under_ok Z k)⟩
  obtain ⟨as1, q1⟩ := rd_list (IsL.isList hD') r1
  obtain ⟨as2, q2⟩ := rd_list (IsL.isList hD2) r2
  obtain ⟨cl, cd⟩ := sh_tells hsh
  have hshl : SeqAt.shaped (.list ((tabOf Es St).map (·.2))) = true := by
    rw [SeqAt.shaped, PyData.canLay0, cl, PyData.depth]
    exact decide_eq_true (by omega)
  refine SeqAt.compareNe_shaped q1 q2 hshl hshl hu (wpAny_truthy_bool ?_)
  rw [PyData.eqv, eqv_tells fun d md => by
    obtain ⟨d', md', rfl⟩ := List.mem_map.mp md
    obtain ⟨k, b, mk, rfl⟩ := tab_mem md'
    exact eqv_tellD _ _]
  exact h _ H
end
end Mine
end

-- YL
section
open PySem PySem.W PySem.Calls PyProof.Rows
set_option maxHeartbeats 4000000
namespace Mine
section
variable {prog : Program} {w : World} {A : Around} {E : Value → Shared → Prop} {s s' s'' : Shared} {env : Env} {N : Nat} {e0 : Heap} {L a tl ol : Addr} {tv : Value} {vs : List Value} {kvs : List (Str × Value)} {S : Str → Bool} {toks : List Str} {Es : List (Str × Itm)} {St : List Str} {m : Str → Option Value}
/-- what is told under k, against table[name] -/
theorem h_cmp {n j hi : Nat} {k : Str} {t : Tok} {v x : Value} {p1 p2 p3 : Pos} {Q : Value → Shared → Prop} (R : Rm (n + 6) A) (Z : Hs prog w N e0 a tl ol tv vs kvs S toks Es St) (H : Ho prog w s L a tl ol tv e0 m s') (hm : m "name" = some (.str k t)) (hhi : 333 ≤ hi) (hj : kvs[j]? = some (k, x)) (hk : (firsts Es [])[j]? = some k)
    (g : GetV prog w e0 s'.heap hi kvs S k v) (h : ∀ s'', Ho prog w s L a tl ol tv e0 m s'' → Ev s' s'' → Q (.bool false) s'') :
    wpAny (model prog w) A (call (.ref 301) [v]) (fun r s₁ => wpAny (model prog w) A (eval (.Subscript (.Name "table" p1) (.Name "name" p2) p3) (envH L)) (fun y s₂ => wpAny (model prog w) A (compareOp .NotEq r y) Q E s₂) E s₁) E s' := by
  have hu : A.units + 64 < cLine := R.eqs
  refine (c_lp_get (n := n) (R.less (by omega)) H.B.wd hhi g Z.d H.kp (nodupK Z) hj).call fun r s₁ z => ?_
  obtain ⟨ev, _, Is, hD, td⟩ := z
  replace H := H.ev ev
  obtain ⟨td', kb, rfl, htd, qb, hb⟩ := Z.tab.kp H.kp
  have hnd : (kb.map (·.1)).Nodup := by
    obtain ⟨o, es, ep, q, he, _, _, hn⟩ := qb
    first | exact hn | exact hn.2
  have hkm := List.mem_of_getElem? hk
  have eIs : Is = under Es k := by
    rw [grp, List.getElem?_map, hk] at hD
    cases hD; rfl
  subst eIs
  obtain ⟨y, hy1, ry⟩ := tab_at Z hb hnd (k, tellD (St.any (fun y => y == k)) (under Es k)) (List.mem_map.mpr ⟨k, hkm, rfl⟩)
  refine Subscript_ (r_cell (c := L + 1) rfl H.cell (r_local H.B.fm hm ?_))
  refine tail_any qb.typeIs F.slot_dict_getitem.lookup (wpAny_getItem_of (PySem.strKind_is prog w k t) qb.mapOf hy1 ?_) (by with_unfolding_all rfl)
  have H' := H.tok (s₁.toks + 1)
  obtain ⟨as1, r1⟩ := td.rd
  obtain ⟨as2, r2⟩ := ry
  rw [Z.hS k hkm] at r1
  refine SeqAt.compareNe_shaped r1 r2 (sh_tellD (under_ok Z k)) (sh_tellD (under_ok Z k)) hu ?_
  rw [eqv_tellD]
  exact h _ H' (ev.tok _)
/-- the loop over the names -/
theorem h_names {n : Nat} {Q : Flow → Shared → Prop} (R : Rm (n + 7) A) (Z : Hs prog w N e0 a tl ol tv vs kvs S toks Es St) (H : Ho prog w s L a tl ol tv e0 m s') {st : Stmt} (hst : (bodyOf fd_holds)[4]? = some st)
    (h : ∀ m s'', Ho prog w s L a tl ol tv e0 m s'' → Q .next s'') : wpAny (model prog w) A (exec st (envH L)) Q E s' := by
  cases hst
  obtain ⟨vo, co, qo, xo⟩ := Z.od
  have hol := H.kp.k _ _ qo rfl
  have hLs : L < s'.heap.objs.size := by obtain ⟨o', q, _⟩ := H.B.fm.cls; exact Heap.lt_size q
  refine b_For (D := [L]) (n := s.heap.objs.size) (e := s) (φ := fun _ m h => m "made" = some (.ref a) ∧ m "tokens" = some (.ref tl) ∧ m "order" = some (.ref ol) ∧ CellAt h (L + 1) (some tv) ∧ Kp e0 h) R.h ?_ (.inl ⟨_, _, rfl⟩) ?_
  · rintro j m h h' ⟨q1, q2, q3, q4, q5⟩ tk
    exact ⟨q1, q2, q3, tk.cell q4, q5.trans tk.kp⟩
  refine r_local H.B.fm H.m3 ⟨ol, vo, m, rfl, IsL.isList hol, nofun, ?_, ?_, H.B, ⟨H.m1, H.m2, H.m3, H.cell, H.kp⟩, ?_, ?_⟩
  · intro md
    rw [List.mem_singleton] at md
    exact H.B.ne hol (by simp) md.symm
  · intro d md
    rw [List.mem_singleton] at md; subst md
    exact hLs
  · rintro j v m' s₁ hv B1 ⟨q1, q2, q3, q4, q5⟩
    obtain ⟨k, hk, t, rfl⟩ := xo.get hv
    refine wpAny_assign_Name (b_store B1 fun h₂ B2 K2 S2 => ?_)
    have hcell2 : CellAt h₂ (L + 1) (some tv) := q4.at_ fun o q _ => (S2.2 _ (by show @Ne Nat _ L; omega)).trans q
    have H2 : Ho prog w s L a tl ol tv e0 (fun z : Str => if z = "name" then some (.str k t) else m' z) { s₁ with heap := h₂, toks := s₁.toks + 1 } := ⟨B2, (if_neg (by decide)).trans q1, (if_neg (by decide)).trans q2, (if_neg (by decide)).trans q3, hcell2, q5.trans K2, H.lo⟩
    have kx2 : Kx [L] s₁.heap h₂ := .at_ S2 List.mem_cons_self
    clear S2 K2 B2
    have hkk : (kvs.map (·.1))[j]? = some k := by rw [grp_keys Z.d]; exact hk
    rw [List.getElem?_map] at hkk
    obtain ⟨⟨k', x⟩, hj, e⟩ := Option.map_eq_some_iff.mp hkk
    replace e : k' = k := e
    subst e
    have hva : valueAt kvs k' = some x := valueAt_nodup (nodupK Z) (List.mem_of_getElem? hj)
    have hm2 : (fun z : Str => if z = "name" then some (Value.str k' t) else m' z) "name" = some (.str k' t) := if_pos rfl
    generalize (fun z : Str => if z = "name" then some (Value.str k' t) else m' z) = m2 at H2 hm2
    have h333 : ∀ {sx : Shared}, Ho prog w s L a tl ol tv e0 m2 sx → 333 ≤ sx.heap.objs.size := fun Hx => Nat.le_trans Hx.B.big (Nat.le_of_lt Hx.B.lt)
    refine wpAny_execs_cons (wpAny_If (isTrue_or (wpAny_isTrue_Compare1 (r_local H2.B.fm hm2 (r_local H2.B.fm H2.m1 (v_notin (n := n) (R.less (by omega)) H2.B.wd H2.B.fm.ns H2.big (Z.P.kp H2.kp) fun s₃ ev3 => ?_))))))
    rw [hva]
    refine wpAny_truthy_bool ?_
    have H3 := H2.ev ev3
    have kx3 : Kx [L] s₁.heap s₃.heap := kx2.trans (.of ev3.ka)
    have P3 := Z.P.kp H3.kp
    obtain ⟨dx, sl, ha, hx⟩ := P3.inst
    have b3 := h333 H3
    refine isTrue_or (wpAny_isTrue_Compare1 (Call_ (r_global H3.B.wd (n_plainL w) (callWith_K (h₀ := s₃.heap) H3.B.wd (k_plainL w) (wpAny_items_cons (Subscript_ (r_local H3.B.fm H3.m1 (r_local H3.B.fm hm2 (v_item H3.B.wd ha hx ?_)))))))))
    refine (c_getitem (n := n) (A := A.in1) (R.in1.less (by omega)) H3.B.wd P3 H3.kp Z.d.unr hva).call fun r s₄ z => ?_
    obtain ⟨ev4, _, g⟩ := z
    have H4 := H3.ev ev4
    have kx4 : Kx [L] s₁.heap s₄.heap := kx3.trans (.of ev4.ka)
    refine wpAny_items_nil ⟨H4.B.wd, ?_⟩
    refine h_cmp (n := n) (R.less (by omega)) Z H4 hm2 b3 hj hk g fun s₅ H5 ev5 => wpAny_truthy_bool ?_
    have kx5 : Kx [L] s₁.heap s₅.heap := kx4.trans (.of ev5.ka)
    have P5 := Z.P.kp H5.kp
    obtain ⟨dx5, sl5, ha5, hx5⟩ := P5.inst
    have b5 := h333 H5
    refine isTrue_or (wpAny_isTrue_Compare1 (Call_ (r_global H5.B.wd (n_plainL w) (callWith_K (h₀ := s₅.heap) H5.B.wd (k_plainL w) (wpAny_items_cons (MethodCall_ (r_local H5.B.fm H5.m1 (pr_meth H5.B.wd ha5 hx5 (m_get w) (mf_get w) (callWith_K (h₀ := s₅.heap) H5.B.wd (mk_get w) (wpAny_items_cons (r_local H5.B.fm hm2 (wpAny_items_cons (wpAny_Constant_int (wpAny_items_nil ⟨H5.B.wd, ?_⟩))))))))))))))
    replace H5 := H5.tok (s₅.toks + 1)
    refine (c_get (n := n) (s := { s₅ with toks := s₅.toks + 1 }) (R.less (by omega)) H5.B.wd P5 H5.kp Z.d.unr (bn_get2 H5.B.wd)).call fun r s₆ z => ?_
    obtain ⟨ev6, _, g6⟩ := z
    rw [hva] at g6
    have H6 := H5.ev ev6
    have kx6 : Kx [L] s₁.heap s₆.heap := kx5.trans (.of ev6.ka)
    refine wpAny_items_nil ⟨H6.B.wd, ?_⟩
    refine h_cmp (n := n) (R.less (by omega)) Z H6 hm2 b5 hj hk g6 fun s₇ H7 ev7 => wpAny_truthy_bool ?_
    have kx7 : Kx [L] s₁.heap s₇.heap := kx6.trans (.of ev7.ka)
    exact isTrue_or_nil (wpAny_execs_nil (env := envH L) (wpAny_execs_nil (env := envH L) ⟨⟨m2, H7.B, H7.m1, H7.m2, H7.m3, H7.cell, H7.kp⟩, kx7⟩))
  · rintro m' s₁ B1 ⟨q1, q2, q3, q4, q5⟩
    exact h m' s₁ ⟨B1, q1, q2, q3, q4, q5, H.lo⟩
end
end Mine
end

-- YM
section
open PySem PySem.W PySem.Calls PyProof.Rows
set_option maxHeartbeats 4000000
namespace Mine
theorem n_range3 (w : World) : nsIn (KV w) 3 "range" = some none := by kernel_rfl
theorem n_range0 (w : World) : nsIn (KV w) 0 "range" = some (some (.type "range")) := by kernel_rfl
theorem n_table (w : World) : nsIn (KV w) 3 "_law_table" = some (some (.ref 294)) := by kernel_rfl
theorem k_table (w : World) : keepIn (KV w) (.ref 294) = true := by kernel_rfl
theorem n_refused (w : World) : nsIn (KV w) 3 "_law_refused" = some (some (.ref 313)) := by kernel_rfl
theorem k_refused (w : World) : keepIn (KV w) (.ref 313) = true := by kernel_rfl
section
variable {prog : Program} {w : World} {A : Around} {E : Value → Shared → Prop} {s s' s'' : Shared} {env : Env} {N : Nat} {e0 : Heap} {L a tl ol : Addr} {tv : Value} {vs : List Value} {kvs : List (Str × Value)} {S : Str → Bool} {toks : List Str} {Es : List (Str × Itm)} {St : List Str} {m : Str → Option Value}
/-- the loop over the places -/
theorem h_places {n : Nat} {Q : Flow → Shared → Prop} (R : Rm (n + 7) A) (Z : Hs prog w N e0 a tl ol tv vs kvs S toks Es St) (H : Ho prog w s L a tl ol tv e0 m s') {st : Stmt} (hst : (bodyOf fd_holds)[5]? = some st)
    (h : ∀ m s'', Ho prog w s L a tl ol tv e0 m s'' → Q .next s'') : wpAny (model prog w) A (exec st (envH L)) Q E s' := by
  cases hst
  obtain ⟨vt, ct, qt, xt⟩ := Z.tk
  have hLs : L < s'.heap.objs.size := by obtain ⟨o', q, _⟩ := H.B.fm.cls; exact Heap.lt_size q
  have e2 := xt.length
  have e3 := Z.zt
  refine b_ForR (D := [L]) (n := s.heap.objs.size) (e := s) (φ := fun _ m h => m "made" = some (.ref a) ∧ m "tokens" = some (.ref tl) ∧ m "order" = some (.ref ol) ∧ CellAt h (L + 1) (some tv) ∧ Kp e0 h) R.h ?_ ?_
  · rintro j m h h' ⟨q1, q2, q3, q4, q5⟩ tk
    exact ⟨q1, q2, q3, tk.cell q4, q5.trans tk.kp⟩
  refine Call_ (r_builtin H.B.wd (n_range3 w) (n_range0 w) (PyProof.Rows.callWith_type1 (wpAny_items_cons (Call_ (r_builtin H.B.wd (n_len3 w) (n_len0 w) (PyProof.Rows.callWith_builtin1 (wpAny_items_cons (r_local H.B.fm H.m2 (wpAny_items_nil ?_)))))))))
  refine call_len_list (isList_kp (IsL.isList qt) H.kp) (by rw [List.size_toArray]; omega) (wpAny_items_nil ?_)
  refine call_range_1 ?_
  have k1 : ∀ b o, s'.heap.get? b = some o → (s'.heap.push { cls := .type "range", data := .fields #[.int 0 (s'.toks + 1 + 1), .int vt.toArray.size (s'.toks + 1), .int 1 (s'.toks + 1 + 1 + 1)] }).get? b = some o := fun b o e => Heap.get?_push_of_some _ e
  have H1 := H.keep (t := s'.toks + 1 + 1 + 1 + 1) k1
  refine ⟨s'.heap.objs.size, vt.toArray.size, _, _, _, m, rfl, Heap.get?_push_size _ rfl, by rw [List.size_toArray]; omega, ?_, H1.B, ⟨H1.m1, H1.m2, H1.m3, H1.cell, H1.kp⟩, ?_, ?_⟩
  · intro d md
    rw [List.mem_singleton] at md; subst md
    show @LT.lt Nat _ _ (s'.heap.push _).objs.size
    rw [Heap.size_push]; exact Nat.lt_succ_of_lt hLs
  · rintro j t m' s₁ hj B1 ⟨q1, q2, q3, q4, q5⟩
    rw [List.size_toArray] at hj
    refine wpAny_assign_Name (b_store B1 fun h₂ B2 K2 S2 => ?_)
    have hcell2 : CellAt h₂ (L + 1) (some tv) := q4.at_ fun o q _ => (S2.2 _ (by show @Ne Nat _ L; omega)).trans q
    have H2 : Ho prog w s L a tl ol tv e0 (fun z : Str => if z = "place" then some (.int j t) else m' z) { s₁ with heap := h₂, toks := s₁.toks + 1 } := ⟨B2, (if_neg (by decide)).trans q1, (if_neg (by decide)).trans q2, (if_neg (by decide)).trans q3, hcell2, q5.trans K2, H.lo⟩
    have kx2 : Kx [L] s₁.heap h₂ := .at_ S2 List.mem_cons_self
    clear S2 K2 B2
    have hm2 : (fun z : Str => if z = "place" then some (Value.int j t) else m' z) "place" = some (.int j t) := if_pos rfl
    generalize (fun z : Str => if z = "place" then some (Value.int j t) else m' z) = m2 at H2 hm2
    obtain ⟨v1, hv1⟩ : ∃ v1, vt[j]? = some v1 := ⟨_, List.getElem?_eq_getElem hj⟩
    obtain ⟨x, hx1, t1, rfl⟩ := xt.get hv1
    have ivs := it_strs Z.iv
    have hj2 : j < vs.length := by rw [ivs.length, ← e2]; exact hj
    obtain ⟨v2, hv2⟩ : ∃ v2, vs[j]? = some v2 := ⟨_, List.getElem?_eq_getElem hj2⟩
    obtain ⟨x2, hx2, t2, rfl⟩ := ivs.get hv2
    rw [hx1] at hx2; cases hx2
    have P2 := Z.P.kp H2.kp
    obtain ⟨dx, sl, ha, hx⟩ := P2.inst
    refine wpAny_execs_cons (wpAny_If (wpAny_isTrue_Compare1 (Subscript_ (r_local H2.B.fm H2.m1 (r_local H2.B.fm hm2 (v_item H2.B.wd ha hx ?_))))))
    refine (c_getitem_int (n := n) (A := A.in1) (R.in1.less (by omega)) H2.B.wd P2 hv2).call fun r s₃ z => ?_
    obtain ⟨rfl, ev3⟩ := z
    have H3 := H2.ev ev3
    refine Subscript_ (r_local H3.B.fm H3.m2 (r_local H3.B.fm hm2 (v_idx (vs := vt) (isList_kp (IsL.isList qt) H3.kp) (Int.natCast_nonneg _) (by omega) (by simpa using hv1) (PyProof.Rows.ne_str (wpAny_truthy_bool ?_)))))
    rw [bne_self_eq_false]
    exact wpAny_execs_nil (env := envH L) (wpAny_execs_nil (env := envH L) ⟨⟨m2, H3.B, H3.m1, H3.m2, H3.m3, H3.cell, H3.kp⟩, kx2.trans (.of ev3.ka)⟩)
  · rintro m' s₁ B1 ⟨q1, q2, q3, q4, q5⟩
    exact h m' s₁ ⟨B1, q1, q2, q3, q4, q5, H.lo⟩
end
end Mine
end

-- YN
section
open PySem PySem.W PySem.Calls PyProof.Rows
set_option maxHeartbeats 4000000
namespace Mine
section
variable {prog : Program} {w : World} {A : Around} {E : Value → Shared → Prop} {s s' s'' : Shared} {env : Env} {N : Nat} {e0 : Heap} {L a tl ol : Addr} {tv : Value} {vs : List Value} {kvs : List (Str × Value)} {S : Str → Bool} {toks : List Str} {Es : List (Str × Itm)} {St : List Str} {m : Str → Option Value}
theorem ho_kind {a v : Value} : ∀ x ∈ [(("made" : Str), a), ("record", v)], fd_holds.scope.names.lookup x.1 = some .local ∨ (fd_holds.scope.names.lookup x.1 = some .cell ∧ ((cellsFrom (s.heap.objs.size + 1) fd_holds.scope.names []).lookup x.1).isSome = true) := by
  intro x m
  rcases List.mem_cons.mp m with rfl | m
  · exact .inl rfl
  · rcases List.mem_singleton.mp m with rfl
    exact .inl rfl
/-- the last statement: what isn't there is refused -/
theorem h_last {n : Nat} {outer : List Env} {Q : Flow → Shared → Prop} (R : Rm (n + 7) A) (hfr : A.frames = some outer) (f : FrC s.heap outer) (Z : Hs prog w N e0 a tl ol tv vs kvs S toks Es St) (H : Ho prog w s L a tl ol tv e0 m s') {st : Stmt} (hst : (bodyOf fd_holds)[6]? = some st)
    (hS : S "z" = false) (hz : ("z" : Str) ∉ firsts Es [])
    (h : ∀ s'', Fv outer s s'' → Q (.ret (.bool true)) s'') : wpAny (model prog w) (A.deeper (envH L)) (exec st (envH L)) Q E s' := by
  cases hst
  obtain ⟨vt, ct, qt, xt⟩ := Z.tk
  have e2 := xt.length
  have e3 := Z.zt
  refine wpAny_Return_some (Call_ (r_global H.B.wd (n_refused w) (callWith_K (h₀ := s'.heap) H.B.wd (k_refused w) (wpAny_items_cons (r_local H.B.fm H.m1 (wpAny_items_cons (Call_ (r_builtin H.B.wd (n_len3 w) (n_len0 w) (PyProof.Rows.callWith_builtin1 (wpAny_items_cons (r_local H.B.fm H.m2 (wpAny_items_nil ?_))))))))))))
  refine call_len_list (isList_kp (IsL.isList qt) H.kp) (by rw [List.size_toArray]; omega) (wpAny_items_cons (wpAny_Constant_str (wpAny_items_nil ⟨H.B.wd, ?_⟩)))
  have H1 := H.tok (s'.toks + 1 + 1 + 1)
  have ev : Ev s { s' with toks := s'.toks + 1 + 1 + 1 } := H1.B.out.ev (Nat.le_refl _)
  have f2 : FrC ({ s' with toks := s'.toks + 1 + 1 + 1 } : Shared).heap (envH L :: outer) := (f.fv (ev.fv f)).cons nofun rfl H.B.fm
  refine (c_refused (n := n) (N := N) (s := { s' with toks := s'.toks + 1 + 1 + 1 }) (outer := envH L :: outer) (j := vt.toArray.size) (R.deep _) (Around.frames_deeper hfr) f2 H1.B.wd ⟨vs, kvs, Z.P.kp H.kp, Z.iv.mono fun _ _ z => z.kp H.kp, Z.d.kp H.kp⟩ (by rw [List.length_map, List.size_toArray]; omega) (by rw [List.size_toArray]; omega) hS ?_).call fun r s₂ z => ?_
  · intro d md q
    obtain ⟨k, mk, rfl⟩ := List.mem_map.mp md
    exact hz (q ▸ mk)
  · obtain ⟨rfl, fv⟩ := z
    exact h _ (Fv.drop (s₂ := { s' with toks := s'.toks + 1 + 1 + 1 }) f f2 rfl H.lo ev fv)
/-- _law_holds(made, record) -/
theorem c_holds {n : Nat} {v : Value} {outer : List Env} (R : Rm (n + 14) A) (T : Tb s.heap) (hfr : A.frames = some outer) (f : FrC s.heap outer) (X : Wd w s.heap) (P : PRt prog w N s.heap a (toks.map .s) (grp Es) S) (V : RecL s.heap v toks Es St)
    (hS : ∀ k ∈ firsts Es [], S k = St.any (fun y => y == k)) (okT : ∀ x ∈ toks, OkS x) (okE : ∀ e ∈ Es, ∀ x ∈ e.2.texts, OkS x) (okK : ∀ e ∈ Es, OkS e.1) (zt : toks.length ≤ 64) (ze : Es.length ≤ 60) (hSz : S "z" = false) (hz : ("z" : Str) ∉ firsts Es []) :
    Ret prog w A (.ref 306) ⟨[.ref a, v], []⟩ s (fun r s' => r = .bool true ∧ Fv outer s s') := by
  refine b_enterC X X.big (Nat.le_refl _) (binds := [("made", .ref a), ("record", v)]) (body := bodyOf fd_holds) R.room (fo_holds X) rfl (code_of X (by kernel_rfl)) rfl (.of_eq rfl) rfl ho_kind fun L s₁ hLs B ev hg cells => ?_
  have hh := n_hA R (callEnvC fd_holds L 306)
  have hcell : CellAt s₁.heap (L + 1) none := cells "table" (L + 1) rfl
  have V0 := V
  obtain ⟨l1, tl, el1, sl1, vt1, ve1, vs1, c, c1, c2, c3, rfl, a1, a2, a3, a4, a5, a6, a7⟩ := V0
  obtain ⟨m, hm, h1, h2⟩ : ∃ m, m = bindL (callEnvC fd_holds L 306).kindOf [("made", Value.ref a), ("record", .ref l1)] (fun _ => none) ∧ m "made" = some (.ref a) ∧ m "record" = some (.ref l1) := ⟨_, rfl, rfl, rfl⟩
  rw [← hm] at B
  have R1 : Rm (n + 13) (A.deeper (callEnvC fd_holds L 306)) := R.deep _
  refine wpAny_execs_cons (Assign_Tuple (wpAny_Tuple (wpAny_items_cons (Subscript_ (r_local B.fm h2 (wpAny_Constant_int (v_idx (vs := [.ref tl, .ref el1, .ref sl1]) (IsL.isList (ev.kp.k _ _ a1 rfl)) (by decide) (by decide) rfl ?_)))))))
  replace B := B.tok (s₁.toks + 1)
  refine wpAny_items_cons (Call_ (r_global B.wd (n_order w) (callWith_K (h₀ := s₁.heap) B.wd (k_order w) (wpAny_items_cons (r_local B.fm h2 (wpAny_items_nil ⟨B.wd, ?_⟩))))))
  refine (c_order (n := n) (s := { s₁ with toks := s₁.toks + 1 }) (R1.less (by omega)) B.wd (V.kp B.old) (by omega)).call fun v2 s₂ z => ?_
  obtain ⟨ev2, _, ol, vo, co, rfl, qo, xo⟩ := z
  replace B := B.ev ev2
  have hcell2 := hcell.ka ev2.ka
  refine wpAny_items_cons (Call_ (r_global B.wd (n_table w) (callWith_K (h₀ := s₂.heap) B.wd (k_table w) (wpAny_items_cons (r_local B.fm h2 (wpAny_items_nil ⟨B.wd, ?_⟩))))))
  refine (c_table (n := n) (R1.less (by omega)) B.wd (V.kp B.old) (by omega)).call fun tv s₃ z => ?_
  obtain ⟨ev3, _, tab⟩ := z
  replace B := B.ev ev3
  have hcell3 := hcell2.ka ev3.ka
  replace qo := ev3.ka.k _ _ qo rfl
  clear hcell hcell2 ev2 ev3
  refine wpAny_items_nil ⟨show 3 ≤ sizeLine by decide, ?_⟩
  obtain ⟨h₃, g₃, d₃, t₃, os₃⟩ := s₃
  have k4 : ∀ b o, h₃.get? b = some o → (h₃.push { cls := .type "tuple", data := .seq #[.ref tl, .ref ol, tv] }).get? b = some o := fun b o e => Heap.get?_push_of_some _ e
  have qtp := Heap.get?_push_size h₃ (show ({ cls := .type "tuple", data := .seq #[.ref tl, .ref ol, tv] } : Obj).isFreed = false from rfl)
  replace B := B.keep (t := t₃) k4
  have hcell4 := hcell3.at_ fun o q _ => k4 _ _ q
  replace tab := tab.kp (.of k4)
  replace qo := k4 _ _ qo
  dsimp only at *
  generalize h₃.objs.size = tp at *
  generalize h₃.push { cls := .type "tuple", data := .seq #[.ref tl, .ref ol, tv] } = h₄ at *
  clear k4 hcell3
  refine wpAny_assign_Tuple hh ⟨_, qtp, rfl, 0, rfl⟩ rfl rfl fun h₅ he₅ => ?_
  have up : ∀ c o, h₄.get? c = some o → h₅.get? c = some o := fun c o e => he₅ c o (Nat.ne_of_lt (Heap.lt_size e)) e
  replace B := B.keep (t := t₃) up
  have hcell5 := hcell4.at_ fun o q _ => up _ _ q
  replace tab := tab.kp (.of up)
  replace qo := up _ _ qo
  show wpAny _ _ (assignInOrder [assign (.Name "tokens" _) (envH L), assign (.Name "order" _) (envH L), assign (.Name "table" _) (envH L)] [.ref tl, .ref ol, tv]) _ _ _
  refine assignInOrder_cons (wpAny_assign_Name (b_store B fun h₆ B6 K6 S6 => ?_))
  refine assignInOrder_cons (wpAny_assign_Name (b_store B6 fun h₇ B7 K7 S7 => ?_))
  have hcell7 : CellAt h₇ (L + 1) none := (hcell5.at_ fun o q _ => (S6.2 _ (by show @Ne Nat _ L; omega)).trans q).at_ fun o q _ => (S7.2 _ (by show @Ne Nat _ L; omega)).trans q
  refine assignInOrder_cons (wpAny_assign_Name (b_storeC B7 rfl hcell7 (by rw [hLs]; exact Nat.le_succ _) fun h₈ B8 hc8 K8 S8 => assignInOrder_nil ?_))
  have kk : Kp h₅ h₈ := (K6.trans K7).trans K8
  obtain ⟨vs, kvs, Px, iv, d⟩ := P
  have Z : Hs prog w N h₈ a tl ol tv vs kvs S toks Es St := ⟨Px.kp B8.old, iv.mono fun _ _ z => z.kp B8.old, d.kp B8.old, hS, ⟨vt1, c1, B8.old.k _ _ a2 rfl, a3⟩, ⟨vo, co, kk.k _ _ qo rfl, xo⟩, tab.kp kk, okT, okE, okK, zt, ze⟩
  have H : Ho prog w s L a tl ol tv h₈ (fun x : Str => if x = "order" then some (.ref ol) else if x = "tokens" then some (.ref tl) else m x) _ := ⟨B8, (if_neg (by decide)).trans ((if_neg (by decide)).trans h1), (if_neg (by decide)).trans (if_pos rfl), if_pos rfl, hc8, .refl _, by rw [hLs]; exact Nat.le_refl _⟩
  refine wpAny_execs_cons (h_if1 (n := n) (R1.less (by omega)) Z H rfl fun s₉ H => ?_)
  refine wpAny_execs_cons (h_if2 (n := n) (R1.less (by omega)) Z H rfl fun s₉ H => ?_)
  refine wpAny_execs_cons (wpAny_If (isTrue_or (h_keys (n := n) (R1.less (by omega)) Z H fun s₉ H => ?_)))
  refine isTrue_or (h_dict (n := n) (R1.less (by omega)) T Z H fun s₉ H => ?_)
  refine isTrue_or (h_vals (n := n) (R1.less (by omega)) T Z H fun s₉ H => ?_)
  refine isTrue_or_nil (wpAny_execs_nil (env := envH L) ?_)
  refine wpAny_execs_cons (h_names (n := n) (R1.less (by omega)) Z H rfl fun m s₉ H => ?_)
  refine wpAny_execs_cons (h_places (n := n) (R1.less (by omega)) Z H rfl fun m s₉ H => ?_)
  exact wpAny_execs_cons (h_last (n := n) (R.less (by omega)) hfr f Z H rfl hSz hz fun s'' fv => ⟨rfl, fv⟩)
end
end Mine
end

-- YO
section
open PySem PySem.W PySem.Calls PyProof.Rows
set_option maxHeartbeats 4000000
namespace Mine
/-- none, or one entry -/
def One (E : List (Str × Itm)) : Prop := E = [] ∨ ∃ k I, E = [(k, I)]
theorem grp_one (k : Str) (I : Itm) : grp [(k, I)] = [(k, [I])] := by simp [grp, firsts, under]
theorem ents_one (nm : Option Str) (xs : List Str) (al b : Bool) : One (entsOf nm xs al b) := by
  cases nm with
  | none => exact .inl rfl
  | some k =>
    cases xs with
    | nil => exact .inl rfl
    | cons x r => exact .inr ⟨k, _, rfl⟩
theorem names_grp (nm : Option Str) (xs : List Str) (al b : Bool) : namesOf nm xs al b = grp (entsOf nm xs al b) := by
  cases nm with
  | none => rfl
  | some k =>
    cases xs with
    | nil => rfl
    | cons x r => exact (grp_one k _).symm
theorem stars_any (nm : Option Str) (md : Bool) (y : Str) : starsOf nm md y = (starL nm md).any (fun z => z == y) := by
  cases nm with
  | none => rfl
  | some k =>
    cases md with
    | true => rfl
    | false =>
      show (!false && decide (y = k)) = (k == y || false)
      by_cases h : y = k
      · subst h; simp
      · simp [h, Ne.symm h]
theorem join_grp {E1 E2 : List (Str × Itm)} (h1 : One E1) (h2 : One E2) : joinD (grp E1) (grp E2) = grp (E1 ++ E2) := by
  rcases h2 with rfl | ⟨k2, I2, rfl⟩
  · rw [List.append_nil]; rfl
  · rw [grp_one]
    rcases h1 with rfl | ⟨k1, I1, rfl⟩
    · rw [List.nil_append, grp_one]; rfl
    · rw [grp_one]
      show addD [(k1, [I1])] k2 I2 = grp [(k1, I1), (k2, I2)]
      by_cases h : k1 = k2
      · subst h
        simp [addD, grp, firsts, under]
      · simp [addD, grp, firsts, under, h, Ne.symm h]
theorem grp_nil {E : List (Str × Itm)} (h : One E) : (grp E).isEmpty = E.isEmpty := by
  rcases h with rfl | ⟨k, I, rfl⟩
  · rfl
  · rw [grp_one]; rfl
/-- what is known of a record -/
structure RecOk (toks : List Str) (Es : List (Str × Itm)) (St : List Str) : Prop where
  okT : ∀ x ∈ toks, OkS x
  okE : ∀ e ∈ Es, ∀ x ∈ e.2.texts, OkS x
  okK : ∀ e ∈ Es, OkS e.1
  zt : toks.length ≤ 60
  ze : Es.length ≤ 60
  hz : ∀ e ∈ Es, e.1 ≠ "z"
  hs : St.any (fun y => y == ("z" : Str)) = false
theorem RecOk.add {t1 t2 : List Str} {E1 E2 : List (Str × Itm)} {S1 S2 : List Str} (x : RecOk t1 E1 S1) (y : RecOk t2 E2 S2) (ht : t1.length + t2.length ≤ 60) (he : E1.length + E2.length ≤ 60) : RecOk (t1 ++ t2) (E1 ++ E2) (S1 ++ S2) :=
  ⟨fun a m => (List.mem_append.mp m).elim (x.okT a) (y.okT a), fun a m => (List.mem_append.mp m).elim (x.okE a) (y.okE a), fun a m => (List.mem_append.mp m).elim (x.okK a) (y.okK a), by rw [List.length_append]; exact ht, by rw [List.length_append]; exact he,
    fun a m => (List.mem_append.mp m).elim (x.hz a) (y.hz a), by rw [List.any_append, x.hs, y.hs]; rfl⟩
/-- the names that the law gives -/
def NmOk (nm : Option Str) : Prop := ∀ k, nm = some k → k = "x" ∨ k = "y" ∨ k = "7"
theorem nm_ok {k : Str} (h : k = "x" ∨ k = "y" ∨ k = "7") : OkS k ∧ k ≠ "z" := by
  rcases h with rfl | rfl | rfl <;> exact ⟨by rw [OkS, PyData.canLay0]; decide +kernel, by decide⟩
theorem rec_ok (k : Nat) {nm : Option Str} (h : NmOk nm) (wh md b : Bool) : RecOk (toksOf k) (entsOf nm (toksOf k) wh b) (starL nm md) := by
  have ht := toks_ok k
  have hl := toks_len k
  generalize toksOf k = xs at ht hl
  cases nm with
  | none => exact ⟨ht, nofun, nofun, by omega, Nat.zero_le _, nofun, rfl⟩
  | some key =>
    obtain ⟨o, z⟩ := nm_ok (h key rfl)
    have hst : (starL (some key) md).any (fun y => y == ("z" : Str)) = false := by
      cases md with
      | true => rfl
      | false =>
        show (key == "z" || false) = false
        rw [Bool.or_false, beq_eq_false_iff_ne]; exact z
    cases xs with
    | nil => exact ⟨ht, nofun, nofun, by omega, Nat.zero_le _, nofun, hst⟩
    | cons x r =>
      refine ⟨ht, fun e m => ?_, fun e m => ?_, by omega, (show 1 ≤ 60 by decide), fun e m => ?_, hst⟩
      · rcases List.mem_singleton.mp m with rfl
        intro y my
        refine ht y ?_
        cases wh with
        | false => exact List.mem_cons.mpr (.inl (List.mem_singleton.mp my))
        | true =>
          cases b with
          | true => exact my
          | false => exact List.mem_cons.mpr (.inl (List.mem_singleton.mp my))
      · rcases List.mem_singleton.mp m with rfl
        exact o
      · rcases List.mem_singleton.mp m with rfl
        exact z
theorem firsts_z {E : List (Str × Itm)} (h : ∀ e ∈ E, e.1 ≠ "z") : ("z" : Str) ∉ firsts E [] := fun m => by
  rcases firsts_mem E [] m with q | ⟨e, me, q⟩
  · cases q
  · exact h e me q
section
variable {prog : Program} {w : World} {A : Around} {E : Value → Shared → Prop} {s : Shared}
/-- _law_holds, for what is known -/
theorem c_holds2 {n N a : Nat} {v : Value} {outer : List Env} {toks : List Str} {Es : List (Str × Itm)} {St : List Str} {S : Str → Bool} (R : Rm (n + 14) A) (T : Tb s.heap) (hfr : A.frames = some outer) (f : FrC s.heap outer) (X : Wd w s.heap) (P : PRt prog w N s.heap a (toks.map .s) (grp Es) S) (V : RecL s.heap v toks Es St)
    (hS : ∀ y, S y = St.any (fun z => z == y)) (O : RecOk toks Es St) : Ret prog w A (.ref 306) ⟨[.ref a, v], []⟩ s (fun r s' => r = .bool true ∧ Fv outer s s') :=
  c_holds (n := n) R T hfr f X P V (fun k _ => hS k) O.okT O.okE O.okK (by have := O.zt; omega) O.ze (by rw [hS]; exact O.hs) (firsts_z O.hz)
end
end Mine
end

-- YP
section
open PySem PySem.W PySem.Calls PyProof.Rows
set_option maxHeartbeats 4000000
namespace Mine
theorem n_drawL (w : World) : nsIn (KV w) 3 "_law_draw" = some (some (.ref 268)) := by kernel_rfl
theorem k_drawL (w : World) : keepIn (KV w) (.ref 268) = true := by kernel_rfl
theorem n_namesL (w : World) : nsIn (KV w) 3 "_law_names" = some (some (.ref 261)) := by kernel_rfl
theorem k_namesL (w : World) : keepIn (KV w) (.ref 261) = true := by kernel_rfl
/-- the draws: a list of ints, not empty -/
def DrAt (h : Heap) (d : Addr) : Prop := ∃ v vs c, IsL h d (v :: vs : List Value).toArray c ∧ (∀ x ∈ v :: vs, IntV x) ∧ vs.length ≤ 100
/-- what is asked for a record -/
def AskAt (h : Heap) (v : Value) (q : Nat × Option Str × Bool × Bool) : Prop := ∃ tp tk nv, v = .ref tp ∧ h.get? tp = some { cls := .type "tuple", data := .seq #[.int q.1 tk, nv, .bool q.2.2.1, .bool q.2.2.2] } ∧ q.1 < 6 ∧ NmV nv q.2.1 ∧ NmOk q.2.1
theorem AskAt.kp {h h' : Heap} {v : Value} {q : Nat × Option Str × Bool × Bool} (x : AskAt h v q) (k : Kp h h') : AskAt h' v q := by
  obtain ⟨tp, tk, nv, e, p, r⟩ := x
  exact ⟨tp, tk, nv, e, k.k _ _ p rfl, r⟩
def drComp : Expr := match forBody (bodyOf fd_draft) 2 with | .Expr (.Call _ (e :: _) _ _) _ :: _ => e | _ => .Constant .none 0 ⟨0, 0, 0, 0⟩
def cElt : Expr → Expr | .ListComp e _ _ _ => e | e => e
def cScope : Expr → Scope | .ListComp _ _ s _ => s | _ => default
abbrev envD (L : Addr) : Env := callEnvC fd_draft L 325
abbrev envDc (L C : Addr) : Env := compEnvC (cScope drComp) [("draws", L + 1)] C (envD L)
def nmAt : Nat → Option Str
  | 2 => some "x"
  | 3 => some "y"
  | 4 => some "7"
  | _ => none
theorem nmAt_ok (i : Nat) : NmOk (nmAt i) := by
  intro k e
  unfold nmAt at e
  split at e <;> cases e <;> simp
section
variable {prog : Program} {w : World} {A : Around} {E : Value → Shared → Prop} {s : Shared} {env : Env}
theorem dr_draw {n N d : Nat} {z : Nat} {t : Tok} {Q : Value → Shared → Prop} (R : Rm (n + 2) A) (X : Wd w s.heap) (hN : 333 ≤ N) (hNs : N ≤ s.heap.objs.size) (hNd : N ≤ d) (D : DrAt s.heap d) (hz : 0 < z) (hz2 : z < 1000)
    (h : ∀ (i : Nat) t' s', i < z → Ef N s s' → Kx [d] s.heap s'.heap → N ≤ s'.heap.objs.size → DrAt s'.heap d → Q (.int i t') s') : wpAny (model prog w) A (call (.ref 268) [.ref d, .int z t]) Q E s := by
  obtain ⟨v, vs, c, hd, hi, hl⟩ := D
  refine (c_draw (n := n) R X hN hNs hd hNd (hi v List.mem_cons_self) hz hz2 hl).call fun r s' z => ?_
  obtain ⟨ef, kx, hs, i, t', q, c', rfl, h0, h1, hq, hd'⟩ := z
  obtain ⟨i, rfl⟩ := Int.eq_ofNat_of_zero_le h0
  refine h i t' s' (by omega) ef kx hs ?_
  have hall : ∀ x ∈ vs ++ [q], IntV x := fun x m => by
    rcases List.mem_append.mp m with m | m
    · exact hi x (List.mem_cons_of_mem _ m)
    · rw [List.mem_singleton] at m; rw [m]; exact hq
  have hlen : (vs ++ [q]).length ≤ 101 := by rw [List.length_append, List.length_singleton]; omega
  cases hv : vs ++ [q] with
  | nil => simp at hv
  | cons a b =>
    rw [hv] at hd' hall hlen
    exact ⟨a, b, c', hd', hall, by rw [List.length_cons] at hlen; omega⟩
theorem DrAt.ka {h h' : Heap} {d : Addr} (x : DrAt h d) (k : Ka h h') : DrAt h' d := by
  obtain ⟨v, vs, c, q, r⟩ := x
  exact ⟨v, vs, c, k.k _ _ q rfl, r⟩
theorem DrAt.lt {h : Heap} {d : Addr} (x : DrAt h d) : d < h.objs.size := by
  obtain ⟨v, vs, c, q, r⟩ := x
  exact Heap.lt_size q
theorem nm_at {i : Nat} (hi : i < 5) (u1 u2 u3 u4 : Tok) : ∃ nv, ([Value.none, .str "" u1, .str "x" u2, .str "y" u3, .int 7 u4] : List Value)[i]? = some nv ∧ NmV nv (nmAt i) := by
  match i, hi with
  | 0, _ => exact ⟨_, rfl, .none⟩
  | 1, _ => exact ⟨_, rfl, .empty _⟩
  | 2, _ => exact ⟨_, rfl, .some _ _ (.str _ _ (by decide))⟩
  | 3, _ => exact ⟨_, rfl, .some _ _ (.str _ _ (by decide))⟩
  | 4, _ => exact ⟨_, rfl, .some _ _ (.seven _)⟩
/-- the draw of a flag -/
theorem dr_flag {n N d L C : Nat} {p1 p2 p3 p4 p5 p6 : Pos} {k1 k2 : Nat} {Q : Value → Shared → Prop} (R : Rm (n + 2) A) (X : Wd w s.heap) (hN : 333 ≤ N) (hNs : N ≤ s.heap.objs.size) (hNd : N ≤ d) (D : DrAt s.heap d) (hc : CellAt s.heap (L + 1) (some (.ref d)))
    (h : ∀ b s', Ef N s s' → Kx [d] s.heap s'.heap → N ≤ s'.heap.objs.size → DrAt s'.heap d → Q (.bool b) s') :
    wpAny (model prog w) A (eval (.Compare (.Call (.Name "_law_draw" p1) [.Name "draws" p2, .Constant (.int 2) k1 p3] [] p4) [.Eq] [.Constant (.int 1) k2 p5] p6) (envDc L C)) Q E s := by
  refine wpAny_Compare1 (Call_ (r_global X (n_drawL w) (callWith_K (h₀ := s.heap) X (k_drawL w) (wpAny_items_cons (r_cell (c := L + 1) rfl hc (wpAny_items_cons (wpAny_Constant_int (wpAny_items_nil ⟨X, ?_⟩))))))))
  refine dr_draw (n := n) (s := { s with toks := s.toks + 1 }) R X hN hNs hNd D (by decide) (by decide) fun i1 t1 s₁ h1 ef1 kx1 hs1 D1 => ?_
  exact wpAny_Constant_int (PyProof.Rows.eq_int (h _ { s₁ with toks := s₁.toks + 1 } ⟨ef1.kf, ef1.os, ef1.gens⟩ kx1 hs1 D1))
/-- the tuple of one record's draws -/
theorem dr_elt {n N d L C : Nat} {Q : Value → Shared → Prop} (R : Rm (n + 3) A) (X : Wd w s.heap) (hN : 333 ≤ N) (hNs : N ≤ s.heap.objs.size) (hNd : N ≤ d) (hds : d < s.heap.objs.size) (D : DrAt s.heap d) (hc : CellAt s.heap (L + 1) (some (.ref d)))
    (h : ∀ tp q s', Ef N s s' → Kx [d] s.heap s'.heap → N ≤ s'.heap.objs.size → DrAt s'.heap d → AskAt s'.heap (.ref tp) q → Q (.ref tp) s') : wpAny (model prog w) A (eval (cElt drComp) (envDc L C)) Q E s := by
  have hc1 : ∀ {s' : Shared}, Kx [d] s.heap s'.heap → CellAt s'.heap (L + 1) (some (.ref d)) := fun k => hc.at_ fun o q c => k _ _ (by
    rw [List.mem_singleton]
    intro z
    obtain ⟨v, vs, c', hd, _⟩ := D
    rw [z] at q
    rw [show s.heap.get? d = some _ from hd] at q; cases q
    simp at c) q (by unfold tabO; rw [c])
  refine wpAny_Tuple (wpAny_items_cons (Call_ (r_global X (n_drawL w) (callWith_K (h₀ := s.heap) X (k_drawL w) (wpAny_items_cons (r_cell (c := L + 1) rfl hc (wpAny_items_cons (wpAny_Constant_int (wpAny_items_nil ⟨X, ?_⟩)))))))))
  refine dr_draw (n := n) (s := { s with toks := s.toks + 1 }) (R.less (by omega)) X hN hNs hNd D (by decide) (by decide) fun i1 t1 s₁ h1 ef1 kx1 hs1 D1 => ?_
  replace ef1 : Ef N s s₁ := ⟨ef1.kf, ef1.os, ef1.gens⟩
  have X1 := X.floor ef1.kf hN
  refine wpAny_items_cons (Subscript_ (Call_ (r_global X1 (n_namesL w) (callWith_K0 X1 (k_namesL w) ?_))))
  refine (c_names (n := n) (R.less (by omega)) X1).call fun r s₂ z => ?_
  obtain ⟨ev2, hs2, Dn, u1, u2, u3, u4, rfl, qn⟩ := z
  have ef2 : Ef N s s₂ := ef1.trans ev2.ef
  have kx2 : Kx [d] s.heap s₂.heap := kx1.trans (.of ev2.ka)
  have D2 := D1.ka ev2.ka
  have X2 := X.floor ef2.kf hN
  have hs2 : N ≤ s₂.heap.objs.size := Nat.le_trans hs1 hs2
  have hDn : Dn ≠ d := fun z => by
    subst z
    obtain ⟨v, vs, c', hd, hi, _⟩ := D2
    have e := isList_fun (IsL.isList hd) (IsL.isList qn)
    cases e
    obtain ⟨i, t, q⟩ := hi .none List.mem_cons_self
    cases q
  refine Call_ (r_global X2 (n_drawL w) (callWith_K (h₀ := s₂.heap) X2 (k_drawL w) (wpAny_items_cons (r_cell (c := L + 1) rfl (hc1 kx2) (wpAny_items_cons (wpAny_Constant_int (wpAny_items_nil ⟨X2, ?_⟩)))))))
  refine dr_draw (n := n) (z := 5) (s := { s₂ with toks := s₂.toks + 1 }) (R.less (by omega)) X2 hN hs2 hNd D2 (by decide) (by decide) fun i2 t2 s₃ h2 ef3 kx3 hs3 D3 => ?_
  have ef3' : Ef N s s₃ := ef2.trans ⟨ef3.kf, ef3.os, ef3.gens⟩
  have kx3' : Kx [d] s.heap s₃.heap := kx2.trans kx3
  have X3 := X.floor ef3'.kf hN
  obtain ⟨nv, hnv, hnm⟩ := nm_at h2 u1 u2 u3 u4
  refine v_idx (IsL.isList (show IsL s₃.heap Dn _ _ from kx3 _ _ (by rw [List.mem_singleton]; exact hDn) qn rfl)) (Int.natCast_nonneg _) (by omega) (by simpa using hnv) ?_
  refine wpAny_items_cons (dr_flag (n := n) (R.less (by omega)) X3 hN hs3 hNd D3 (hc1 kx3') fun b1 s₄ ef4 kx4 hs4 D4 => ?_)
  have ef4' := ef3'.trans ef4
  have kx4' := kx3'.trans kx4
  refine wpAny_items_cons (dr_flag (n := n) (R.less (by omega)) (X.floor ef4'.kf hN) hN hs4 hNd D4 (hc1 kx4') fun b2 s₅ ef5 kx5 hs5 D5 => ?_)
  have ef5' := ef4'.trans ef5
  have kx5' := kx4'.trans kx5
  refine wpAny_items_nil ⟨show 4 ≤ sizeLine by decide, ?_⟩
  have k6 : ∀ b o, s₅.heap.get? b = some o → (s₅.heap.push { cls := .type "tuple", data := .seq #[.int i1 t1, nv, .bool b1, .bool b2] }).get? b = some o := fun b o e => Heap.get?_push_of_some _ e
  refine h _ (i1, nmAt i2, b1, b2) { s₅ with heap := s₅.heap.push { cls := .type "tuple", data := .seq #[.int i1 t1, nv, .bool b1, .bool b2] } } (ef5'.trans ⟨.of k6, rfl, .refl _⟩) (kx5'.trans (.keep k6)) ?_ (D5.ka (.of k6)) ⟨_, t1, nv, rfl, Heap.get?_push_size _ rfl, h1, hnm, nmAt_ok i2⟩
  · show N ≤ (s₅.heap.push _).objs.size
    rw [Heap.size_push]; exact Nat.le_succ_of_le hs5
end
end Mine
end

-- YQ
section
open PySem PySem.W PySem.Calls PyProof.Rows
set_option maxHeartbeats 4000000
namespace Mine
/-- while the two records of a pair are drawn -/
structure CI (s : Shared) (N d it lo j : Nat) (s' : Shared) : Prop where
  ef : Ef N s s'
  kx : Kx [d] s.heap s'.heap
  hs : N ≤ s'.heap.objs.size
  dr : DrAt s'.heap d
  it : IsRangeIter s'.heap it j ((2 : Int) - (j : Nat)) 1
  le : j ≤ 2
  acc : ∃ ys c qs, IsL s'.heap lo ys.toArray c ∧ All2 (AskAt s'.heap) ys qs ∧ ys.length = j
  ns : ∃ m, s'.heap.Ns (lo + 1) m
theorem all_ask {h h' : Heap} (k : ∀ b (its : Array Value), h.get? b = some { cls := .type "tuple", data := .seq its } → h'.get? b = some { cls := .type "tuple", data := .seq its }) {ys : List Value} {qs : List (Nat × Option Str × Bool × Bool)} (x : All2 (AskAt h) ys qs) : All2 (AskAt h') ys qs :=
  x.mono fun _ _ ⟨tp, tk, nv, e, p, r⟩ => ⟨tp, tk, nv, e, k _ _ p, r⟩
theorem ns_ne {h : Heap} {a b : Addr} {m : Str → Option Value} {c : Value} {its : Array Value} (x : h.Ns a m) (q : h.get? b = some { cls := c, data := .seq its }) : b ≠ a := fun z => by
  subst z
  obtain ⟨o, es, ep, a1, a2, _⟩ := x
  rw [q] at a1; cases a1; cases a2
section
variable {prog : Program} {w : World} {A : Around} {E : Value → Shared → Prop} {s : Shared} {env : Env}
/-- the draws of a pair -/
theorem dr_comp {n N d L : Nat} {Q : Value → Shared → Prop} (R : Rm (n + 3) A) (X : Wd w s.heap) (hN : 333 ≤ N) (hNs : N ≤ s.heap.objs.size) (hNd : N ≤ d) (D : DrAt s.heap d) (hc : CellAt s.heap (L + 1) (some (.ref d)))
    (h : ∀ (lo : Nat) v1 v2 q1 q2 c s', Ef N s s' → Kx [d] s.heap s'.heap → N ≤ s'.heap.objs.size → DrAt s'.heap d → s.heap.objs.size ≤ lo → IsL s'.heap lo #[v1, v2] c → AskAt s'.heap v1 q1 → AskAt s'.heap v2 q2 → Q (.ref lo) s') : wpAny (model prog w) A (eval drComp (envD L)) Q E s := by
  have hds := D.lt
  show wpAny _ _ (eval (.ListComp (cElt drComp) [⟨.Name "j" _, .Call (.Name "range" _) [.Constant (.int 2) _ _] [] _, [], 0⟩] (cScope drComp) _) (envD L)) _ _ _
  rw [eval_ListComp]
  refine wpAny_comprehension_free (use := none) (cl := [("draws", L + 1)]) rfl (by intro _; rfl) rfl rfl (by decide) ?_
  refine Call_ (r_builtin X (n_range3 w) (n_range0 w) (PyProof.Rows.callWith_type1 (wpAny_items_cons (wpAny_Constant_int (wpAny_items_nil (call_range_1 ?_))))))
  obtain ⟨h0, g0, d0, t0, os0⟩ := s
  have k1 : ∀ b o, h0.get? b = some o → (h0.push { cls := .type "range", data := .fields #[.int 0 (t0 + 1), .int 2 t0, .int 1 (t0 + 1 + 1)] }).get? b = some o := fun b o e => Heap.get?_push_of_some _ e
  have hr : IsRange (h0.push { cls := .type "range", data := .fields #[.int 0 (t0 + 1), .int 2 t0, .int 1 (t0 + 1 + 1)] }) h0.objs.size 0 (2 : Nat) 1 _ _ _ := Heap.get?_push_size _ rfl
  refine wpAny_pyIter_range hr (range_small (by decide)) ?_
  have hz1 : (h0.push { cls := .type "range", data := .fields #[.int 0 (t0 + 1), .int 2 t0, .int 1 (t0 + 1 + 1)] }).objs.size = h0.objs.size + 1 := Heap.size_push ..
  generalize (h0.push { cls := .type "range", data := .fields #[.int 0 (t0 + 1), .int 2 t0, .int 1 (t0 + 1 + 1)] }) = h1 at *
  have k2 : ∀ b o, h1.get? b = some o → (h1.push { cls := .type "range_iterator", data := .fields #[rawInt 0, rawInt (Builtin.Range.rangeSize 0 (2 : Nat) 1), rawInt 1] }).get? b = some o := fun b o e => Heap.get?_push_of_some _ e
  have hit : IsRangeIter (h1.push { cls := .type "range_iterator", data := .fields #[rawInt 0, rawInt (Builtin.Range.rangeSize 0 (2 : Nat) 1), rawInt 1] }) h1.objs.size ((0 : Nat) : Int) ((2 : Int) - (0 : Nat)) 1 := by
    rw [show ((2 : Int) - (0 : Nat)) = Builtin.Range.rangeSize 0 (2 : Nat) 1 by rw [rangeSize_nat]; rfl]
    exact Heap.get?_push_size _ rfl
  have hz2 : (h1.push { cls := .type "range_iterator", data := .fields #[rawInt 0, rawInt (Builtin.Range.rangeSize 0 (2 : Nat) 1), rawInt 1] }).objs.size = h0.objs.size + 2 := by rw [Heap.size_push, hz1]
  generalize (h1.push { cls := .type "range_iterator", data := .fields #[rawInt 0, rawInt (Builtin.Range.rangeSize 0 (2 : Nat) 1), rawInt 1] }) = h2 at *
  rw [hz1] at hit ⊢
  refine wpAny_newObj_type (hd := by size_fits) ?_
  simp only [newFunctionEnv, Option.isSome_some, if_true]
  refine wpAny_bind (wpAny_alloc ?_)
  have hcell : ∀ x ∈ (cScope drComp).names, x.2 ≠ .cell := by decide
  rw [forIn_yield_id [(("draws" : Str), L + 1)] (fun x hx c => by
    obtain ⟨name, kind⟩ := x
    have : (kind == NameKind.cell) = false := by simpa using hcell _ hx
    simp only [this, Bool.false_eq_true, if_false])]
  refine wpAny_bind (wpAny_pure (wpAny_bind (wpAny_of_eq (List.forIn_nil ..) (wpAny_pure ?_))))
  dsimp only
  rw [Heap.size_push]
  have hD := Heap.get?_push_size h2 (show ({ cls := .type "list", data := .seq ([] : List Value).toArray } : Obj).isFreed = false from rfl)
  have k3 : ∀ b o, h2.get? b = some o → (h2.push { cls := .type "list", data := .seq ([] : List Value).toArray }).get? b = some o := fun b o e => Heap.get?_push_of_some _ e
  generalize hH : (h2.push { cls := .type "list", data := .seq ([] : List Value).toArray }) = H at *
  have hHz : H.objs.size = h2.objs.size + 1 := by rw [← hH, Heap.size_push]
  have hC : (H.push { cls := .type "dict", data := .dict #[] }).Ns (h2.objs.size + 1) (fun _ => none) := by rw [← hHz]; exact Heap.Ns.new H (.type "dict")
  have k4 : ∀ b o, H.get? b = some o → (H.push { cls := .type "dict", data := .dict #[] }).get? b = some o := fun b o e => Heap.get?_push_of_some _ e
  have hz4 : (H.push { cls := .type "dict", data := .dict #[] }).objs.size = h2.objs.size + 2 := by rw [Heap.size_push, hHz]
  generalize hH4 : (H.push { cls := .type "dict", data := .dict #[] }) = H₄ at *
  rw [hz2] at hD hC hz4 ⊢
  clear hH hH4 hHz
  obtain ⟨z0, hz0⟩ : ∃ z0 : Nat, z0 = h0.objs.size := ⟨_, rfl⟩
  have kk : ∀ b o, h0.get? b = some o → H₄.get? b = some o := fun b o e => k4 _ _ (k3 _ _ (k2 _ _ (k1 _ _ e)))
  replace hit := k4 _ _ (k3 _ _ hit)
  replace hD := k4 _ _ hD
  dsimp only at *
  rw [← hz0] at hNs hds hit hD hC hz4 h ⊢
  clear k1 k2 k3 k4 hz1 hz2 hr
  have hNd : @LE.le Nat _ N d := hNd
  have hds : @LT.lt Nat _ d z0 := hds
  have start : CI ⟨h0, g0, d0, t0, os0⟩ N d (z0 + 1) (z0 + 2) 0 ⟨H₄, g0, d0, t0 + 1 + 1 + 1, os0⟩ :=
    ⟨⟨.of kk, rfl, .refl _⟩, .keep kk, by show N ≤ H₄.objs.size; omega, D.ka (.of kk), hit, Nat.zero_le _, ⟨[], 0, [], hD, .nil, rfl⟩, ⟨_, hC⟩⟩
  have loop : codeAny (model prog w) A (.compLoop drComp 0 (.ref (z0 + 1)) (.ref (z0 + 2)) (envDc L (z0 + 2 + 1))) (compPost (model prog w) A E none Q (.ref (z0 + 2)) (z0 + 2 + 1)) ⟨H₄, g0, d0, t0 + 1 + 1 + 1, os0⟩ := by
    refine codeAny_compLoop_tests (fun n s' => ∃ j, n = 2 - j ∧ CI ⟨h0, g0, d0, t0, os0⟩ N d (z0 + 1) (z0 + 2) j s') (fun n s' hi => ?_) 2 ⟨0, rfl, start⟩
    obtain ⟨j, rfl, C⟩ := hi
    obtain ⟨ef, kx, hs, dr, hit, hj, ⟨ys, c, qs, hacc, hall, hlen⟩, m, hns⟩ := C
    have lD : ∀ {h : Heap}, IsL h (z0 + 2) ys.toArray c → ∃ o, h.get? (z0 + 2) = some o ∧ ¬ codeO o := fun q => ⟨_, q, nc_cls (by simp)⟩
    by_cases hlt : j < 2
    · refine wpAny_pyNext_range_item hit (by omega) fun h₁ hit1 S1 => ?_
      have e1 : ((j : Int) + 1) = ((j + 1 : Nat) : Int) := by omega
      have e2 : ((2 : Int) - (j : Nat) - 1) = (2 : Int) - ((j + 1 : Nat) : Int) := by omega
      rw [e1, e2] at hit1
      dsimp only
      have S1 : Heap.SameBut (z0 + 1) s'.heap h₁ := S1
      have hns1 : h₁.Ns (z0 + 3) m := ns_at hns fun o e => (S1.2 _ (by show @Ne Nat _ _; omega)).trans e
      refine wpAny_assign_Name (wpAny_storeName_local (lookup_relabel_local (by decide)) hns1 (fun h₂ hn₂ S₂ => ?_) (by rfl))
      have S₂ : Heap.SameBut (z0 + 3) h₁ h₂ := S₂
      refine wpAny_tests_nil ?_
      rw [if_pos rfl]
      have far : ∀ (b : Nat) o, b ≠ z0 + 1 → b ≠ z0 + 3 → s'.heap.get? b = some o → h₂.get? b = some o := fun b o n1 n3 q => (S₂.2 b n3).trans ((S1.2 b n1).trans q)
      have ef2 : Ef N ⟨h0, g0, d0, t0, os0⟩ { s' with heap := h₂, toks := s'.toks + 1 + 1 } := (ef.st (t := s'.toks + 1) S1 (by omega) ⟨_, hit, nc_cls (by simp)⟩).st (t := s'.toks + 1 + 1) S₂ (by omega) (nc_ns hns1)
      have kx2 : Kx [d] h0 h₂ := (kx.lo S1 (by show h0.objs.size ≤ z0 + 1; omega)).lo S₂ (by show h0.objs.size ≤ z0 + 3; omega)
      have hsz : h₂.objs.size = s'.heap.objs.size := S₂.1.trans S1.1
      have dr2 : DrAt h₂ d := by
        obtain ⟨v, vs, c', q, r⟩ := dr
        exact ⟨v, vs, c', far _ _ (by show @Ne Nat _ _; omega) (by show @Ne Nat _ _; omega) q, r⟩
      have hc2 : CellAt h₂ (L + 1) (some (.ref d)) := hc.at_ fun o q c => kx2 _ _ (by
        rw [List.mem_singleton]
        intro z
        obtain ⟨v, vs, c', hd, _⟩ := D
        rw [z] at q
        rw [show h0.get? d = some _ from hd] at q; cases q
        simp at c) q (by unfold tabO; rw [c])
      have hacc2 : IsL h₂ (z0 + 2) ys.toArray c := far _ _ (by show @Ne Nat _ _; omega) (by show @Ne Nat _ _; omega) hacc
      have ask2 : All2 (AskAt h₂) ys qs := all_ask (fun b its q => far b _ (fun z => by
        subst z
        rw [show s'.heap.get? (z0 + 1) = some _ from hit] at q; simp at q) (ns_ne hns q) q) hall
      refine dr_elt (n := n) (s := { s' with heap := h₂, toks := s'.toks + 1 + 1 }) R (X.floor ef2.kf hN) hN (by show N ≤ h₂.objs.size; omega) hNd dr2.lt dr2 hc2 fun tp q s₄ ef4 kx4 hs4 dr4 ask4 => ?_
      have hd2 : d ∉ ([] : List Addr) := by simp
      have hacc4 : IsL s₄.heap (z0 + 2) ys.toArray c := kx4 _ _ (by rw [List.mem_singleton]; show ¬ @Eq Nat _ _; omega) hacc2 rfl
      refine wpAny_list_append_plain (items := ys.toArray) ⟨c, hacc4⟩ (fun h₅ hl5 S5 => ?_) (by rw [List.size_toArray, sizeLine_eq]; omega)
      obtain ⟨c5, hl5⟩ := hl5
      have S5 : Heap.SameBut (z0 + 2) s₄.heap h₅ := S5
      have stp : ∀ b (its : Array Value), s₄.heap.get? b = some { cls := .type "tuple", data := .seq its } → h₅.get? b = some { cls := .type "tuple", data := .seq its } := fun b its q => (S5.2 b (fun z => by
        subst z
        rw [show s₄.heap.get? (z0 + 2) = some _ from hacc4] at q; simp at q)).trans q
      refine ⟨2 - (j + 1), by omega, j + 1, rfl, (ef2.trans ef4).st (t := s₄.toks) S5 (by omega) (lD hacc4), (kx2.trans kx4).lo S5 (by show h0.objs.size ≤ z0 + 2; omega), by show N ≤ h₅.objs.size; rw [S5.1]; exact hs4, ?_, ?_, hlt, ⟨ys ++ [.ref tp], c5, qs ++ [q], ?_, ?_, by rw [List.length_append, hlen]; rfl⟩, ⟨_, ns_at hn₂ fun o e => (S5.2 _ (by show @Ne Nat _ _; omega)).trans (kx4 _ _ (by rw [List.mem_singleton]; show ¬ @Eq Nat _ _; omega) e (by obtain ⟨o', es, ep, a1, a2, _⟩ := hn₂; exact tab_dict ((Option.some.inj (e.symm.trans a1)) ▸ a2)))⟩⟩
      · obtain ⟨v, vs, c', q, r⟩ := dr4
        exact ⟨v, vs, c', (S5.2 _ (by show @Ne Nat _ _; omega)).trans q, r⟩
      · exact (S5.2 _ (by show @Ne Nat _ _; omega)).trans (kx4 _ _ (by rw [List.mem_singleton]; show ¬ @Eq Nat _ _; omega) ((S₂.2 _ (by show @Ne Nat _ _; omega)).trans hit1) rfl)
      · rw [show (ys ++ [Value.ref tp]).toArray = ys.toArray.push (.ref tp) by simp]; exact hl5
      · refine All2.append (all_ask (fun b its q => stp b its (kx4 _ _ (fun m => ?_) q rfl)) ask2) (.cons ?_ .nil)
        · rw [List.mem_singleton] at m; subst m
          obtain ⟨v, vs, c', q', r⟩ := dr2
          rw [show h₂.get? b = some _ from q'] at q; simp at q
        · obtain ⟨tp', tk, nv, e, p, r⟩ := ask4
          exact ⟨tp', tk, nv, e, stp _ _ p, r⟩
    · obtain rfl : j = 2 := by omega
      refine wpAny_pyNext_range_end R.h hit (by omega) fun h₁ S1 => ?_
      dsimp only
      have S1 : Heap.ExtBut (z0 + 1) s'.heap h₁ := S1
      refine ⟨m, ns_at hns fun o e => S1 _ _ (by show @Ne Nat _ _; omega) e, fun h' S' => ?_⟩
      have S' : Heap.SameBut (z0 + 2 + 1) h₁ h' := S'
      have hns1 : h₁.Ns (z0 + 2 + 1) m := ns_at hns fun o e => S1 _ _ (by show @Ne Nat _ _; omega) e
      have far : ∀ (b : Nat) o, b ≠ z0 + 1 → b ≠ z0 + 3 → s'.heap.get? b = some o → h'.get? b = some o := fun b o n1 n3 q => (S'.2 b n3).trans (S1 b o n1 q)
      have ef2 := (ef.ext (t := s'.toks) S1 (by show N ≤ z0 + 1; omega) ⟨_, hit, nc_cls (by simp)⟩).st (t := s'.toks) S' (by show N ≤ z0 + 2 + 1; omega) (nc_ns hns1)
      have ask2 : All2 (AskAt h') ys qs := all_ask (fun b its q => far b _ (fun z => by
        subst z
        rw [show s'.heap.get? (z0 + 1) = some _ from hit] at q; simp at q) (ns_ne hns q) q) hall
      match ys, qs, hlen, ask2, hacc with
      | [v1, v2], [q1, q2], _, .cons a1 (.cons a2 .nil), hacc =>
        refine h (z0 + 2) v1 v2 q1 q2 c _ ef2 (fun b o db q p => ?_) ?_ ?_ (by omega) (far _ _ (by show @Ne Nat _ _; omega) (by show @Ne Nat _ _; omega) hacc) a1 a2
        · have lb : @LT.lt Nat _ b z0 := by rw [hz0]; exact Heap.lt_size q
          exact far b o (by omega) (by omega) (kx b o db q p)
        · show N ≤ h'.objs.size
          obtain ⟨o, q, _⟩ := nc_ns hns1
          have q' : h'.get? (z0 + 2) = some _ := far _ _ (by show @Ne Nat _ _; omega) (by show @Ne Nat _ _; omega) hacc
          have := Heap.lt_size q'
          exact Nat.le_of_lt (Nat.lt_of_le_of_lt (by omega) this)
        · obtain ⟨v, vs, c', q, r⟩ := dr
          exact ⟨v, vs, c', far _ _ (by show @Ne Nat _ _; omega) (by show @Ne Nat _ _; omega) q, r⟩
  exact codeAny_compStart_list loop (wpAny_pyIter_rangeiter hit loop)
end
end Mine
end

-- YR
section
open PySem PySem.W PySem.Calls PyProof.Rows
set_option maxHeartbeats 4000000
namespace Mine
abbrev Ask := Nat × Option Str × Bool × Bool
def PairAt (lim : Nat) (h : Heap) (v : Value) (q : Ask × Ask) : Prop := ∃ (l : Nat) (v1 v2 : Value) (c : Nat), v = .ref l ∧ lim ≤ l ∧ IsL h l #[v1, v2] c ∧ AskAt h v1 q.1 ∧ AskAt h v2 q.2
theorem PairAt.kp {lim : Nat} {h h' : Heap} {v : Value} {q : Ask × Ask} (x : PairAt lim h v q) (k : Kp h h') : PairAt lim h' v q := by
  obtain ⟨l, v1, v2, c, e, z, p, a, b⟩ := x
  exact ⟨l, v1, v2, c, e, z, k.k _ _ p rfl, a.kp k, b.kp k⟩
/-- lists below lim may change -/
theorem PairAt.below {lim : Nat} {h h' : Heap} {v : Value} {q : Ask × Ask} (x : PairAt lim h v q) (k : ∀ (b : Nat) o, lim ≤ b → h.get? b = some o → tabO o = false → h'.get? b = some o) (kt : ∀ b (its : Array Value), h.get? b = some { cls := .type "tuple", data := .seq its } → h'.get? b = some { cls := .type "tuple", data := .seq its }) : PairAt lim h' v q := by
  obtain ⟨l, v1, v2, c, e, z, p, ⟨tp, tk, nv, e1, p1, r1⟩, ⟨tp', tk', nv', e2, p2, r2⟩⟩ := x
  exact ⟨l, v1, v2, c, e, z, k l _ z p rfl, ⟨tp, tk, nv, e1, kt _ _ p1, r1⟩, ⟨tp', tk', nv', e2, kt _ _ p2, r2⟩⟩
section
variable {prog : Program} {w : World} {A : Around} {E : Value → Shared → Prop} {s : Shared} {env : Env}
theorem dr_kind {v : Value} : ∀ x ∈ [(("script" : Str), v)], fd_draft.scope.names.lookup x.1 = some .local ∨ (fd_draft.scope.names.lookup x.1 = some .cell ∧ ((cellsFrom (s.heap.objs.size + 1) fd_draft.scope.names []).lookup x.1).isSome = true) := by
  intro x m
  rcases List.mem_singleton.mp m with rfl
  exact .inl rfl
/-- from the draws on -/
theorem dr_rest {n N L d : Nat} {e : Shared} {m : Str → Option Value} {Q : Value → Shared → Prop} (R : Rm (n + 4) A) (hN : N = e.heap.objs.size) (B : Bd w N e L m s) (hNd : N ≤ d) (D : DrAt s.heap d) (hc : CellAt s.heap (L + 1) (some (.ref d)))
    (h : ∀ s' (pl : Nat) ps qs c, Ev e s' → e.heap.objs.size ≤ s'.heap.objs.size → IsL s'.heap pl ps.toArray c → All2 (PairAt 0 s'.heap) ps qs → ps.length ≤ 3 → Q (.ref pl) s') :
    wpAny (model prog w) A (execs ((bodyOf fd_draft).drop 1) (envD L)) (fun f s' => Q (match f with | .ret v => v | _ => .none) s') (fun _ _ => False) s := by
  have hLd : L ≠ d := by
    obtain ⟨v, vs, c', q, _⟩ := D
    exact B.ne q (by simp)
  have hN3 : 333 ≤ N := B.big
  obtain ⟨h₁, g₁, d₁, t₁, os₁⟩ := s
  refine wpAny_execs_cons (wpAny_Assign_Name (wpAny_List (wpAny_items_nil ⟨by decide, ?_⟩)))
  have k2 : ∀ b o, h₁.get? b = some o → (h₁.push { cls := .type "list", data := .seq #[] }).get? b = some o := fun b o e => Heap.get?_push_of_some _ e
  have hd1 : @LT.lt Nat _ d h₁.objs.size := D.lt
  have D2 := D.ka (.of k2)
  have hc2 := hc.at_ fun o q _ => k2 _ _ q
  have hL1 : @LT.lt Nat _ (L + 1) h₁.objs.size := by obtain ⟨o', q, _⟩ := hc; exact Heap.lt_size q
  have lpl := Nat.le_of_lt B.lt
  replace B := B.push { cls := .type "list", data := .seq #[] } (t₁)
  have qpl := Heap.get?_push_size h₁ (show ({ cls := .type "list", data := .seq #[] } : Obj).isFreed = false from rfl)
  dsimp only at *
  generalize h₁.objs.size = pl at *
  generalize h₁.push { cls := .type "list", data := .seq #[] } = h₂ at *
  refine b_store B fun h₃ B K S => ?_
  have S : Heap.SameBut L h₂ h₃ := S
  have hpl : IsL h₃ pl ([] : List Value).toArray 0 := K.k _ _ qpl rfl
  have D3 : DrAt h₃ d := by
    obtain ⟨v, vs, c', q, r⟩ := D2
    exact ⟨v, vs, c', K.k _ _ q rfl, r⟩
  have hc3 : CellAt h₃ (L + 1) (some (.ref d)) := hc2.at_ fun o q _ => (S.2 _ (by show @Ne Nat _ L; omega)).trans q
  have hp3 : @LT.lt Nat _ pl h₃.objs.size := by rw [S.1]; exact Heap.lt_size qpl
  have hLp : L ≠ pl := by show @Ne Nat _ _; omega
  have hdp : d ≠ pl := by show @Ne Nat _ _; omega
  clear K S qpl D2 hc2 k2 hc D
  have hm : (fun z : Str => if z = "pairs" then some (Value.ref pl) else m z) "pairs" = some (.ref pl) := if_pos rfl
  change Bd w N e (envD L).locals (fun z : Str => if z = "pairs" then some (Value.ref pl) else m z) _ at B
  generalize (fun z : Str => if z = "pairs" then some (Value.ref pl) else m z) = m3 at B hm
  have hNs3 : N ≤ h₃.objs.size := Nat.le_of_lt B.lt
  have hLs3 : L < h₃.objs.size := by obtain ⟨o', q, _⟩ := B.fm.cls; exact Heap.lt_size q
  refine wpAny_execs_cons (b_ForR (D := [L, d, pl]) (n := N) (e := e) (φ := fun j m h => m "pairs" = some (.ref pl) ∧ CellAt h (L + 1) (some (.ref d)) ∧ DrAt h d ∧ ∃ ps qs c, IsL h pl ps.toArray c ∧ All2 (PairAt (pl + 1) h) ps qs ∧ ps.length = j) R.h ?_ ?_)
  · rintro j m h h' ⟨q1, q2, ⟨v, vs, c', q3, r3⟩, ps, qs, c, q4, q5, q6⟩ tk
    exact ⟨q1, tk.cell q2, ⟨v, vs, c', tk.kp.k _ _ q3 rfl, r3⟩, ps, qs, c, tk.kp.k _ _ q4 rfl, q5.mono fun _ _ z => z.kp tk.kp, q6⟩
  refine Call_ (r_builtin B.wd (n_range3 w) (n_range0 w) (PyProof.Rows.callWith_type1 (wpAny_items_cons (wpAny_BinOp (wpAny_Constant_int (Call_ (r_global B.wd (n_drawL w) (callWith_K (h₀ := h₃) B.wd (k_drawL w) (wpAny_items_cons (r_cell (c := L + 1) rfl hc3 (wpAny_items_cons (wpAny_Constant_int (wpAny_items_nil ⟨B.wd, ?_⟩)))))))))))))
  refine dr_draw (n := n) (z := 3) (N := N) (R.less (by omega)) B.wd hN3 hNs3 hNd D3 (by decide) (by decide) fun i ti s₄ hi ef4 kx4 hs4 D4 => ?_
  have B4 := B.kx ⟨ef4.kf, ef4.os, ef4.gens⟩ kx4 (by rw [List.mem_singleton]; exact hLd)
  have hpl4 : IsL s₄.heap pl ([] : List Value).toArray 0 := kx4 _ _ (by rw [List.mem_singleton]; exact Ne.symm hdp) hpl rfl
  have hc4 : CellAt s₄.heap (L + 1) (some (.ref d)) := hc3.at_ fun o q c => kx4 _ _ (by
    rw [List.mem_singleton]
    intro z
    obtain ⟨v, vs, c', hd, _⟩ := D3
    rw [z] at q
    rw [show h₃.get? d = some _ from hd] at q; cases q
    simp at c) q (by unfold tabO; rw [c])
  refine PyProof.Rows.add_int (wpAny_items_nil (call_range_1 ?_))
  obtain ⟨h₄, g₄, d₄, t₄, os₄⟩ := s₄
  have hp4 : @LT.lt Nat _ pl h₄.objs.size := Heap.lt_size hpl4
  have hLs4 : L < h₄.objs.size := by obtain ⟨o', q, _⟩ := B4.fm.cls; exact Heap.lt_size q
  have e1 : ((1 : Int) + (i : Int)) = ((1 + i : Nat) : Int) := by omega
  dsimp only
  rw [e1]
  have k5 : ∀ b o, h₄.get? b = some o → (h₄.push { cls := .type "range", data := .fields #[.int 0 (t₄ + 1), .int ((1 + i : Nat) : Int) t₄, .int 1 (t₄ + 1 + 1)] }).get? b = some o := fun b o e => Heap.get?_push_of_some _ e
  refine ⟨h₄.objs.size, 1 + i, _, _, _, m3, rfl, Heap.get?_push_size _ rfl, by omega, ?_, B4.keep (t := t₄ + 1 + 1 + 1) k5, ⟨hm, hc4.at_ fun o q _ => k5 _ _ q, D4.ka (.of k5), [], [], 0, k5 _ _ hpl4, .nil, rfl⟩, ?_, ?_⟩
  · intro x mx
    show @LT.lt Nat _ _ (h₄.push _).objs.size
    rw [Heap.size_push]
    simp only [List.mem_cons, List.not_mem_nil, or_false] at mx
    rcases mx with rfl | rfl | rfl
    · exact Nat.lt_succ_of_lt hLs4
    · exact Nat.lt_succ_of_lt (Nat.lt_trans hd1 hp4)
    · exact Nat.lt_succ_of_lt hp4
  · rintro j t m' s₁ hj B1 ⟨q1, q2, q3, ps, qs, c, q4, q5, q6⟩
    refine wpAny_assign_Name (b_store B1 fun h₅ B5 K5 S5 => ?_)
    have S5 : Heap.SameBut L s₁.heap h₅ := S5
    have hpl5 : IsL h₅ pl ps.toArray c := K5.k _ _ q4 rfl
    have hc5 : CellAt h₅ (L + 1) (some (.ref d)) := q2.at_ fun o q _ => (S5.2 _ (by show @Ne Nat _ L; omega)).trans q
    have D5 : DrAt h₅ d := by
      obtain ⟨v, vs, c', q, r⟩ := q3
      exact ⟨v, vs, c', K5.k _ _ q rfl, r⟩
    have pr5 := q5.mono fun _ _ z => z.kp K5
    have kx5 : Kx [L, d, pl] s₁.heap h₅ := .at_ S5 List.mem_cons_self
    have hp5 : @LT.lt Nat _ pl h₅.objs.size := Heap.lt_size hpl5
    have hNs5 : N ≤ h₅.objs.size := Nat.le_of_lt B5.lt
    refine wpAny_execs_cons (wpAny_Expr (MethodCall_ (r_local B5.fm ((if_neg (by decide)).trans q1) ?_)))
    refine getMethod_builtin (T := "list") ⟨_, hpl5, rfl⟩ F.plainAttrs_list F.slot_list_append F.type_list_append (fun a e => by cases e; exact ⟨_, hpl5, rfl⟩) ?_
    refine callWith_method1 (wpAny_items_cons (dr_comp (n := n) (N := N) (s := { s₁ with heap := h₅, toks := s₁.toks + 1 }) (R.less (by omega)) B5.wd hN3 hNs5 hNd D5 hc5 fun lo v1 v2 r1 r2 c6 s₆ ef6 kx6 hs6 D6 hlo hl6 a1 a2 => wpAny_items_nil ?_))
    have hlo : @LE.le Nat _ h₅.objs.size lo := hlo
    have hpl6 : IsL s₆.heap pl ps.toArray c := kx6 _ _ (by rw [List.mem_singleton]; exact Ne.symm hdp) hpl5 rfl
    refine wpAny_list_append_plain (items := ps.toArray) ⟨c, hpl6⟩ (fun h₇ hl7 S7 => ?_) (by rw [List.size_toArray, sizeLine_eq]; omega)
    obtain ⟨c7, hl7⟩ := hl7
    have B6 := B5.kx ⟨ef6.kf, ef6.os, ef6.gens⟩ kx6 (by rw [List.mem_singleton]; exact hLd)
    have B7 := B6.at_ (t := s₆.toks) S7 (Nat.le_trans hNd (Nat.le_of_lt hd1)) hLp ⟨_, hpl6, nc_cls (by simp)⟩
    have t6 : ∀ b (its : Array Value), h₅.get? b = some { cls := .type "tuple", data := .seq its } → s₆.heap.get? b = some { cls := .type "tuple", data := .seq its } := fun b its q => kx6 _ _ (by
      rw [List.mem_singleton]
      intro z
      subst z
      obtain ⟨v, vs, c', q', r⟩ := D5
      rw [show h₅.get? b = some _ from q'] at q; simp at q) q rfl
    have t7 : ∀ b (its : Array Value), s₆.heap.get? b = some { cls := .type "tuple", data := .seq its } → h₇.get? b = some { cls := .type "tuple", data := .seq its } := fun b its q => (S7.2 b (fun z => by
      subst z
      rw [show s₆.heap.get? b = some _ from hpl6] at q; simp at q)).trans q
    have u7 : ∀ (b : Nat) o, pl + 1 ≤ b → s₆.heap.get? b = some o → tabO o = false → h₇.get? b = some o := fun b o l q _ => (S7.2 b (by show @Ne Nat _ _; omega)).trans q
    have pr7 := (pr5.mono fun _ _ z => z.below (h' := s₆.heap) (fun b o l q p => kx6 b o (by rw [List.mem_singleton]; show ¬ @Eq Nat _ _; omega) q p) t6).mono fun _ _ z => z.below (h' := h₇) u7 t7
    have hc7 : CellAt h₇ (L + 1) (some (.ref d)) := (hc5.at_ fun o q c => kx6 _ _ (by
      rw [List.mem_singleton]
      intro z
      obtain ⟨v, vs, c', hd, _⟩ := D5
      rw [z] at q
      rw [show h₅.get? d = some _ from hd] at q; cases q
      simp at c) q (by unfold tabO; rw [c])).at_ fun o q c => (S7.2 _ (fun z => by
        rw [z] at q
        rw [show s₆.heap.get? pl = some _ from hpl6] at q; cases q
        simp at c)).trans q
    have D7 : DrAt h₇ d := by
      obtain ⟨v, vs, c', q, r⟩ := D6
      exact ⟨v, vs, c', (S7.2 _ hdp).trans q, r⟩
    refine wpAny_execs_nil (env := envD L) ⟨⟨_, B7, (if_neg (by decide)).trans q1, hc7, D7, ps ++ [.ref lo], qs ++ [(r1, r2)], c7, ?_, pr7.append (.cons ((show PairAt (pl + 1) s₆.heap (.ref lo) (r1, r2) from ⟨lo, v1, v2, c6, rfl, by omega, hl6, a1, a2⟩).below u7 t7) .nil), by rw [List.length_append, q6]; rfl⟩, ?_⟩
    · rw [show (ps ++ [Value.ref lo]).toArray = ps.toArray.push (.ref lo) by simp]; exact hl7
    · refine (kx5.trans (Kx.more kx6 fun z mz => ?_)).trans (.at_ S7 (by simp))
      rw [List.mem_singleton] at mz; rw [mz]; simp
  · rintro m' s₁ B1 ⟨q1, q2, q3, ps, qs, c, q4, q5, q6⟩
    refine wpAny_execs_cons (wpAny_Return_some (r_local B1.fm q1 (h s₁ pl ps qs c (B1.out.ev (by rw [hN]; exact Nat.le_refl _)) (by rw [← hN]; exact Nat.le_of_lt B1.lt) q4 (q5.mono fun _ _ z => ?_) (by omega))))
    obtain ⟨l, v1, v2, c', e, _, r⟩ := z
    exact ⟨l, v1, v2, c', e, Nat.zero_le _, r⟩
end
end Mine
end

-- YS
section
open PySem PySem.W PySem.Calls PyProof.Rows
set_option maxHeartbeats 4000000
namespace Mine
section
variable {prog : Program} {w : World} {A : Around} {E : Value → Shared → Prop} {s : Shared} {env : Env}
/-- _law_draft(script) -/
theorem c_draft {n sc : Nat} {vals : List Value} (R : Rm (n + 5) A) (X : Wd w s.heap) (hs : s.heap.IsList sc vals.toArray) (hi : ∀ x ∈ vals, IntV x) (hl : vals.length ≤ 100) :
    Ret prog w A (.ref 325) ⟨[.ref sc], []⟩ s (fun r s' => Ev s s' ∧ s.heap.objs.size ≤ s'.heap.objs.size ∧ ∃ (pl : Nat) (ps : List Value) (qs : List (Ask × Ask)) (c : Nat), r = .ref pl ∧ IsL s'.heap pl ps.toArray c ∧ All2 (PairAt 0 s'.heap) ps qs ∧ ps.length ≤ 3) := by
  refine b_enterC X X.big (Nat.le_refl _) (binds := [("script", .ref sc)]) (body := bodyOf fd_draft) R.room (fo_draft X) rfl (code_of X (by kernel_rfl)) rfl (.of_eq rfl) rfl dr_kind fun L s₁ hLs B ev hg cells => ?_
  have hcell : CellAt s₁.heap (L + 1) none := cells "draws" (L + 1) rfl
  obtain ⟨m, hm, h1⟩ : ∃ m, m = bindL (callEnvC fd_draft L 325).kindOf [("script", Value.ref sc)] (fun _ => none) ∧ m "script" = some (.ref sc) := ⟨_, rfl, rfl⟩
  rw [← hm] at B
  have hs1 := isList_kp hs ev.kp
  have hlt := Nat.le_of_lt B.lt
  have go : ∀ (s₂ : Shared) (d : Nat), Bd w s.heap.objs.size s L m s₂ → s.heap.objs.size ≤ d → DrAt s₂.heap d → CellAt s₂.heap (L + 1) none →
      wpAny (model prog w) (A.deeper (envD L)) (storeName (envD L) "draws" (.ref d)) (fun _ s' => wpAny (model prog w) (A.deeper (envD L)) (execs ((bodyOf fd_draft).drop 1) (envD L)) (fun f s' => (fun r s' => Ev s s' ∧ s.heap.objs.size ≤ s'.heap.objs.size ∧ ∃ (pl : Nat) (ps : List Value) (qs : List (Ask × Ask)) (c : Nat), r = .ref pl ∧ IsL s'.heap pl ps.toArray c ∧ All2 (PairAt 0 s'.heap) ps qs ∧ ps.length ≤ 3) (match f with | .ret v => v | _ => .none) s') (fun _ _ => False) s') (fun _ _ => False) s₂ := by
    intro s₂ d B2 hd D hc
    refine b_storeC B2 rfl hc (by rw [hLs]; exact Nat.le_succ _) fun h₃ B3 hc3 K3 S3 => ?_
    have D3 : DrAt h₃ d := by
      obtain ⟨v, vs, c', q, r⟩ := D
      exact ⟨v, vs, c', K3.k _ _ q rfl, r⟩
    exact dr_rest (n := n) (Q := fun r s' => Ev s s' ∧ s.heap.objs.size ≤ s'.heap.objs.size ∧ ∃ (pl : Nat) (ps : List Value) (qs : List (Ask × Ask)) (c : Nat), r = .ref pl ∧ IsL s'.heap pl ps.toArray c ∧ All2 (PairAt 0 s'.heap) ps qs ∧ ps.length ≤ 3) (R.deep _) rfl B3 hd D3 hc3 fun s' pl ps qs c e1 e2 q a z => ⟨e1, e2, pl, ps, qs, c, rfl, q, a, z⟩
  obtain ⟨h₁, g₁, d₁, t₁, os₁⟩ := s₁
  refine wpAny_execs_cons (wpAny_Assign_Name (wpAny_IfExp (isTrue_plain (r_local B.fm h1 (wpAny_truthy_list hs1 (by rw [List.size_toArray]; omega) ?_)))))
  replace B := bd_ref B (t₁ + 1 + 1)
  cases vals with
  | nil =>
    refine wpAny_List (wpAny_items_cons (wpAny_Constant_int (wpAny_items_nil ⟨show 1 ≤ sizeLine by decide, ?_⟩)))
    have k2 : ∀ b o, h₁.get? b = some o → (h₁.push { cls := .type "list", data := .seq #[.int 0 (t₁ + 1 + 1)] }).get? b = some o := fun b o e => Heap.get?_push_of_some _ e
    exact go _ h₁.objs.size (B.keep k2) hlt ⟨.int 0 (t₁ + 1 + 1), [], 0, Heap.get?_push_size _ rfl, fun x mx => by rw [List.mem_singleton] at mx; rw [mx]; exact ⟨_, _, rfl⟩, Nat.zero_le _⟩ (hcell.at_ fun o q _ => k2 _ _ q)
  | cons v vs =>
    refine Subscript_ (r_local B.fm h1 (wpAny_Slice (evalPart_none_step (evalPart_some_step (wpAny_Constant_int (evalPart_none_step ?_))))))
    refine v_slice (s := { heap := h₁, gens := g₁, drawn := d₁, toks := t₁ + 1 + 1 + 1, os := os₁ }) hs1 .none (.int _ _) .none (by decide) (by rw [List.size_toArray]; omega) fun h₆ D6 k6 hD hD6 => ?_
    rw [show (24 : Int) = ((24 : Nat) : Int) from rfl, slicePick_upto'] at hD6
    refine go _ D6 (B.keep k6) (Nat.le_trans hlt hD) ?_ (hcell.at_ fun o q _ => k6 _ _ q)
    have e : ((v :: vs : List Value).toArray.toList.take 24) = v :: vs.take 23 := by simp
    rw [e] at hD6
    refine ⟨v, vs.take 23, _, hD6, fun x mx => hi x ?_, by rw [List.length_take]; omega⟩
    rcases List.mem_cons.mp mx with rfl | mx
    · exact List.mem_cons_self
    · exact List.mem_cons_of_mem _ (List.mem_of_mem_take mx)
end
end Mine
end

-- YT
section
open PySem PySem.W PySem.Calls PyProof.Rows
set_option maxHeartbeats 4000000
namespace Mine
abbrev envLw (L : Addr) : Env := callEnv fd_law L 332
theorem n_recordL (w : World) : nsIn (KV w) 3 "_law_record" = some (some (.ref 275)) := by kernel_rfl
theorem k_recordL (w : World) : keepIn (KV w) (.ref 275) = true := by kernel_rfl
theorem n_madeL (w : World) : nsIn (KV w) 3 "_law_made" = some (some (.ref 282)) := by kernel_rfl
theorem k_madeL (w : World) : keepIn (KV w) (.ref 282) = true := by kernel_rfl
theorem n_holdsL (w : World) : nsIn (KV w) 3 "_law_holds" = some (some (.ref 306)) := by kernel_rfl
theorem k_holdsL (w : World) : keepIn (KV w) (.ref 306) = true := by kernel_rfl
theorem n_joinedL (w : World) : nsIn (KV w) 3 "_law_joined" = some (some (.ref 320)) := by kernel_rfl
theorem k_joinedL (w : World) : keepIn (KV w) (.ref 320) = true := by kernel_rfl
theorem n_draftL (w : World) : nsIn (KV w) 3 "_law_draft" = some (some (.ref 325)) := by kernel_rfl
theorem k_draftL (w : World) : keepIn (KV w) (.ref 325) = true := by kernel_rfl
theorem Bd.fv {w : World} {n : Nat} {e s s' : Shared} {L : Addr} {m : Str → Option Value} {env : Env} (B : Bd w n e L m s) (v : Fv [env] s s') (hf : env.frame = some L) : Bd w n e L m s' := by
  have hfr : frs [env] = [L] := by rw [frs, List.filterMap_cons, hf]; rfl
  obtain ⟨oL, qL, cL⟩ := B.fm.cls
  refine ⟨B.ef.trans ⟨⟨fun b o l q p => v.k b o ?_ q p, fun b o q c => v.k b o ?_ q (code_tab c), fun b o _ q p => v.t b o q p⟩, v.os, v.gens⟩, v.fm B.fm, B.lo, B.big, B.wd0⟩
  · rw [hfr, List.mem_singleton]
    intro z; subst z
    exact absurd l (Nat.not_lt_of_le B.lo)
  · rw [hfr, List.mem_singleton]
    intro z; subst z
    rw [qL] at q; cases q
    rw [c.1] at cL; simp at cL
theorem Fv.kx {env : Env} {s s' : Shared} {L : Addr} (v : Fv [env] s s') (hf : env.frame = some L) : Kx [L] s.heap s'.heap := fun b o d q p => v.k b o (by rw [frs, List.filterMap_cons, hf]; exact d) q p
theorem Kx.efl {D : List Addr} {e h : Heap} {s s' : Shared} (x : Kx D e s.heap) (y : Ef e.objs.size s s') : Kx D e s'.heap := fun b o d q p => y.kf.k b o (Heap.lt_size q) (x b o d q p) p
section
variable {prog : Program} {w : World} {A : Around} {E : Value → Shared → Prop} {s : Shared} {env : Env}
/-- a call of _law_holds in law -/
theorem lw_holds {n N L : Nat} {e : Shared} {m : Str → Option Value} {a : Nat} {v : Value} {toks : List Str} {Es : List (Str × Itm)} {St : List Str} {S : Str → Bool} {Q : Value → Shared → Prop} {outer : List Env} (R : Rm (n + 15) A) (hfr : A.frames = some outer) (ho : outer = []) (B : Bd w e.heap.objs.size e L m s) (T : Tb e.heap)
    (P : PRt prog w N s.heap a (toks.map .s) (grp Es) S) (V : RecL s.heap v toks Es St) (hS : ∀ y, S y = St.any (fun z => z == y)) (O : RecOk toks Es St)
    (h : ∀ s', Bd w e.heap.objs.size e L m s' → Kp s.heap s'.heap → Kx [L] s.heap s'.heap → Q (.bool true) s') : wpAny (model prog w) (A.deeper (envLw L)) (call (.ref 306) [.ref a, v]) Q E s := by
  subst ho
  have f : FrC s.heap [envLw L] := FrC.cons (l := []) (fun _ mm => by cases mm) nofun rfl B.fm
  refine (c_holds2 (n := n) (R.deep _) (B.tb T) (Around.frames_deeper hfr) f B.wd P V hS O).call fun r s' z => ?_
  obtain ⟨rfl, fv⟩ := z
  exact h s' (B.fv fv rfl) (fv.kp f) (fv.kx rfl)
end
end Mine
end

-- YU
section
open PySem PySem.W PySem.Calls PyProof.Rows
set_option maxHeartbeats 4000000
namespace Mine
section
variable {prog : Program} {w : World} {A : Around} {E : Value → Shared → Prop} {s : Shared} {env : Env}
/-- x, y = t, swapped -/
theorem b_swap2 {n : Nat} {e : Shared} {x y : Str} {tp : Nat} {a b : Value} {m : Str → Option Value} {Q : Flow → Shared → Prop} (hh : A.handled = none) (B : Bd w n e env.locals m s) (ht : s.heap.IsTuple tp #[a, b])
    (hx : env.kindOf x = some .local) (hy : env.kindOf y = some .local) (hp : (env.scope.kind == .class || (env.scope.kind == .module && env.locals != env.globals)) = false)
    (h : ∀ h', Bd w n e env.locals (fun z => if z = x then some a else if z = y then some b else m z) { s with heap := h', toks := s.toks + 1 + 1 } → Kp s.heap h' → Kx [env.locals] s.heap h' → Q .next { s with heap := h', toks := s.toks + 1 + 1 }) :
    wpAny (model prog w) A (unpackItems (.ref tp) ([x, y] : List Str).length none) (fun items s₂ => wpAny (model prog w) A (assignInOrder (([x, y] : List Str).reverse.map fun n => bindName env n) items.reverse) (fun _ => Q .next) E s₂) E s := by
  refine wpAny_unpackItems_tuple (items := #[a, b]) hh ht fun h₁ he₁ => ?_
  have up₁ : ∀ c o, s.heap.get? c = some o → h₁.get? c = some o := fun c o e => he₁ c o (Nat.ne_of_lt (Heap.lt_size e)) e
  have B₁ := B.keep (t := s.toks) up₁
  show wpAny _ _ (assignInOrder [bindName env y, bindName env x] [b, a]) _ _ _
  refine assignInOrder_cons (bindName_ (b_store B₁ (fun h₂ B₂ K₂ S₂ => ?_) hy hp))
  refine assignInOrder_cons (bindName_ (b_store B₂ (fun h₃ B₃ K₃ S₃ => ?_) hx hp))
  exact assignInOrder_nil (h h₃ B₃ (((Kp.of up₁).trans K₂).trans K₃) (((Kx.keep up₁).trans (.at_ S₂ List.mem_cons_self)).trans (.at_ S₃ List.mem_cons_self)))
/-- the records of a pair -/
theorem lw_recs {n L : Nat} {e : Shared} {m : Str → Option Value} {l c : Nat} {v1 v2 : Value} {q1 q2 : Ask} {Q : Flow → Shared → Prop} {st : Stmt} (hst : (forBody (bodyOf fd_law) 0)[0]? = some st) (R : Rm (n + 3) A) (B : Bd w e.heap.objs.size e L m s) (hm : m "pair" = some (.ref l)) (hl : IsL s.heap l #[v1, v2] c) (a1 : AskAt s.heap v1 q1) (a2 : AskAt s.heap v2 q2)
    (h : ∀ r1 r2 s', Bd w e.heap.objs.size e L (fun z => if z = "one" then some r1 else if z = "other" then some r2 else m z) s' → Kp s.heap s'.heap → Kx [L] s.heap s'.heap →
      RecL s'.heap r1 (toksOf q1.1) (entsOf q1.2.1 (toksOf q1.1) q1.2.2.1 (q1.1 == 5)) (starL q1.2.1 q1.2.2.2) → RecL s'.heap r2 (toksOf q2.1) (entsOf q2.2.1 (toksOf q2.1) q2.2.2.1 (q2.1 == 5)) (starL q2.2.1 q2.2.2.2) → Q .next s') :
    wpAny (model prog w) A (exec st (envLw L)) Q E s := by
  cases hst
  obtain ⟨k1, nm1, wh1, md1⟩ := q1
  obtain ⟨k2, nm2, wh2, md2⟩ := q2
  obtain ⟨tp1, tk1, nv1, rfl, p1, hk1, n1, o1⟩ := a1
  obtain ⟨tp2, tk2, nv2, rfl, p2, hk2, n2, o2⟩ := a2
  refine Assign_Tuple_swapped (names := ["one", "other"]) (wpAny_Tuple (wpAny_items_cons (Call_ (r_global B.wd (n_recordL w) (callWith_K (h₀ := s.heap) B.wd (k_recordL w) (wpAny_items_cons (Subscript_ (r_local B.fm hm (wpAny_Constant_int (v_idx (vs := [.ref tp1, .ref tp2]) (IsL.isList hl) (by decide) (by decide) rfl (wpAny_items_nil ⟨B.wd, ?_⟩)))))))))))
  replace B := B.tok (s.toks + 1)
  refine (c_record (n := n) (s := { s with toks := s.toks + 1 }) (R.less (by omega)) B.wd hk1 ⟨_, p1, rfl, 0, rfl⟩ n1).call fun r1 s₁ z => ?_
  obtain ⟨ev1, _, V1⟩ := z
  replace B := B.ev ev1
  refine wpAny_items_cons (Call_ (r_global B.wd (n_recordL w) (callWith_K (h₀ := s₁.heap) B.wd (k_recordL w) (wpAny_items_cons (Subscript_ (r_local B.fm hm (wpAny_Constant_int (v_idx (vs := [.ref tp1, .ref tp2]) (IsL.isList (ev1.kp.k _ _ hl rfl)) (by decide) (by decide) rfl (wpAny_items_nil ⟨B.wd, ?_⟩)))))))))
  replace B := B.tok (s₁.toks + 1)
  refine (c_record (n := n) (s := { s₁ with toks := s₁.toks + 1 }) (R.less (by omega)) B.wd hk2 ⟨_, ev1.kp.k _ _ p2 rfl, rfl, 0, rfl⟩ n2).call fun r2 s₂ z => ?_
  obtain ⟨ev2, _, V2⟩ := z
  replace B := B.ev ev2
  replace V1 := V1.kp ev2.kp
  refine wpAny_items_nil ⟨show 2 ≤ sizeLine by decide, ?_⟩
  have k3 : ∀ b o, s₂.heap.get? b = some o → (s₂.heap.push { cls := .type "tuple", data := .seq #[r1, r2] }).get? b = some o := fun b o e => Heap.get?_push_of_some _ e
  refine b_swap2 (env := envLw L) (x := "one") (y := "other") R.h (B.keep (t := s₂.toks) k3) ⟨_, Heap.get?_push_size _ rfl, rfl, 0, rfl⟩ rfl rfl rfl fun h₄ B4 K4 X4 => ?_
  have kk : Kp s₂.heap h₄ := Kp.trans (.of k3) K4
  refine h r1 r2 _ B4 ((ev1.kp.trans ev2.kp).trans kk) (((Kx.of ev1.ka).trans (.of ev2.ka)).trans ((Kx.keep k3).trans X4)) (V1.kp kk) (V2.kp kk)
end
end Mine
end

-- YV
section
open PySem PySem.W PySem.Calls PyProof.Rows
set_option maxHeartbeats 4000000
namespace Mine
/-- what is made for what was asked -/
def MadeA (prog : Program) (w : World) (N : Nat) (h : Heap) (a : Addr) (q : Ask) : Prop := PRt prog w N h a ((toksOf q.1).map .s) (grp (entsOf q.2.1 (toksOf q.1) q.2.2.1 (q.1 == 5))) (starsOf q.2.1 q.2.2.2) ∧ SmP prog w h a ∧ N ≤ a ∧ a < h.objs.size
section
variable {prog : Program} {w : World} {A : Around} {E : Value → Shared → Prop} {s : Shared} {env : Env}
theorem PRt.lt {N : Nat} {h : Heap} {a : Addr} {Is : List Itm} {D : List (Str × List Itm)} {S : Str → Bool} (x : PRt prog w N h a Is D S) : a < h.objs.size := by
  obtain ⟨vs, kvs, P, _⟩ := x
  obtain ⟨dx, sl, ha, _⟩ := P.inst
  exact Heap.lt_size ha
theorem MadeA.kr {N : Nat} {h h' : Heap} {a : Addr} {q : Ask} (x : MadeA prog w N h a q) (k : Kr h h') : MadeA prog w N h' a q := ⟨x.1.kr k, x.2.1.kr k, x.2.2.1, (x.1.kr k).lt⟩
theorem MadeA.kp {N : Nat} {h h' : Heap} {a : Addr} {q : Ask} (x : MadeA prog w N h a q) (k : Kp h h') : MadeA prog w N h' a q := x.kr (.of k)
theorem MadeA.sz {N : Nat} {h : Heap} {a : Nat} {q : Ask} (x : MadeA prog w N h a q) : N ≤ h.objs.size := Nat.le_of_lt (Nat.lt_of_le_of_lt x.2.2.1 x.2.2.2)
/-- what is made of a pair -/
theorem lw_mades {n N L : Nat} {e : Shared} {m : Str → Option Value} {l c : Nat} {v1 v2 : Value} {q1 q2 : Ask} {Q : Flow → Shared → Prop} {st : Stmt} (hst : (forBody (bodyOf fd_law) 0)[1]? = some st) (R : Rm (n + 8) A) (B : Bd w e.heap.objs.size e L m s) (hNs : N ≤ s.heap.objs.size) (hm : m "pair" = some (.ref l)) (hl : IsL s.heap l #[v1, v2] c) (a1 : AskAt s.heap v1 q1) (a2 : AskAt s.heap v2 q2)
    (h : ∀ (r1 r2 : Nat) s', Bd w e.heap.objs.size e L (fun z => if z = "first" then some (.ref r1) else if z = "second" then some (.ref r2) else m z) s' → Kp s.heap s'.heap → Kx [L] s.heap s'.heap → MadeA prog w N s'.heap r1 q1 → MadeA prog w N s'.heap r2 q2 → N ≤ s'.heap.objs.size → Q .next s') :
    wpAny (model prog w) A (exec st (envLw L)) Q E s := by
  cases hst
  obtain ⟨k1, nm1, wh1, md1⟩ := q1
  obtain ⟨k2, nm2, wh2, md2⟩ := q2
  obtain ⟨tp1, tk1, nv1, rfl, p1, hk1, n1, o1⟩ := a1
  obtain ⟨tp2, tk2, nv2, rfl, p2, hk2, n2, o2⟩ := a2
  refine Assign_Tuple_swapped (names := ["first", "second"]) (wpAny_Tuple (wpAny_items_cons (Call_ (r_global B.wd (n_madeL w) (callWith_K (h₀ := s.heap) B.wd (k_madeL w) (wpAny_items_cons (Subscript_ (r_local B.fm hm (wpAny_Constant_int (v_idx (vs := [.ref tp1, .ref tp2]) (IsL.isList hl) (by decide) (by decide) rfl (wpAny_items_nil ⟨B.wd, ?_⟩)))))))))))
  replace B := B.tok (s.toks + 1)
  refine (c_law_made (n := n) (s := { s with toks := s.toks + 1 }) R B.wd hk1 ⟨_, p1, rfl, 0, rfl⟩ n1).call fun r1 s₁ z => ?_
  obtain ⟨ev1, b1, rfl, hb1, P1, M1⟩ := z
  have V1 : MadeA prog w N s₁.heap b1 (k1, nm1, wh1, md1) := ⟨by rw [← names_grp]; exact P1.le hNs, M1, Nat.le_trans hNs hb1, P1.lt⟩
  replace B := B.ev ev1
  refine wpAny_items_cons (Call_ (r_global B.wd (n_madeL w) (callWith_K (h₀ := s₁.heap) B.wd (k_madeL w) (wpAny_items_cons (Subscript_ (r_local B.fm hm (wpAny_Constant_int (v_idx (vs := [.ref tp1, .ref tp2]) (IsL.isList (ev1.kp.k _ _ hl rfl)) (by decide) (by decide) rfl (wpAny_items_nil ⟨B.wd, ?_⟩)))))))))
  replace B := B.tok (s₁.toks + 1)
  refine (c_law_made (n := n) (s := { s₁ with toks := s₁.toks + 1 }) R B.wd hk2 ⟨_, ev1.kp.k _ _ p2 rfl, rfl, 0, rfl⟩ n2).call fun r2 s₂ z => ?_
  obtain ⟨ev2, b2, rfl, hb2, P2, M2⟩ := z
  have V2 : MadeA prog w N s₂.heap b2 (k2, nm2, wh2, md2) := ⟨by rw [← names_grp]; exact P2.le V1.sz, M2, Nat.le_trans V1.sz hb2, P2.lt⟩
  replace B := B.ev ev2
  replace V1 := V1.kp ev2.kp
  refine wpAny_items_nil ⟨show 2 ≤ sizeLine by decide, ?_⟩
  have k3 : ∀ b o, s₂.heap.get? b = some o → (s₂.heap.push { cls := .type "tuple", data := .seq #[.ref b1, .ref b2] }).get? b = some o := fun b o e => Heap.get?_push_of_some _ e
  refine b_swap2 (env := envLw L) (x := "first") (y := "second") R.h (B.keep (t := s₂.toks) k3) ⟨_, Heap.get?_push_size _ rfl, rfl, 0, rfl⟩ rfl rfl rfl fun h₄ B4 K4 X4 => ?_
  have kk : Kp s₂.heap h₄ := Kp.trans (.of k3) K4
  exact h b1 b2 _ B4 ((ev1.kp.trans ev2.kp).trans kk) (((Kx.of ev1.ka).trans (.of ev2.ka)).trans ((Kx.keep k3).trans X4)) (V1.kp kk) (V2.kp kk) (V2.kp kk).sz
end
end Mine
end

-- YW
section
open PySem PySem.W PySem.Calls PyProof.Rows
set_option maxHeartbeats 4000000
namespace Mine
section
variable {prog : Program} {w : World} {A : Around} {E : Value → Shared → Prop} {s : Shared} {env : Env}
abbrev eOf (q : Ask) : List (Str × Itm) := entsOf q.2.1 (toksOf q.1) q.2.2.1 (q.1 == 5)
abbrev sOf (q : Ask) : List Str := starL q.2.1 q.2.2.2
/-- the state in a turn -/
structure Tu (prog : Program) (w : World) (e : Shared) (s0 : Heap) (L N : Nat) (m : Str → Option Value) (r1 r2 : Value) (b1 b2 : Nat) (q1 q2 : Ask) (s : Shared) : Prop where
  B : Bd w e.heap.objs.size e L m s
  kx : Kx [L] s0 s.heap
  m1 : m "one" = some r1
  m2 : m "other" = some r2
  m3 : m "first" = some (.ref b1)
  m4 : m "second" = some (.ref b2)
  R1 : RecL s.heap r1 (toksOf q1.1) (eOf q1) (sOf q1)
  R2 : RecL s.heap r2 (toksOf q2.1) (eOf q2) (sOf q2)
  M1 : MadeA prog w N s.heap b1 q1
  M2 : MadeA prog w N s.heap b2 q2
theorem Tu.step {e s' : Shared} {s0 : Heap} {L N : Nat} {m : Str → Option Value} {r1 r2 : Value} {b1 b2 : Nat} {q1 q2 : Ask} (T : Tu prog w e s0 L N m r1 r2 b1 b2 q1 q2 s) (B : Bd w e.heap.objs.size e L m s') (k : Kr s.heap s'.heap) (x : Kx [L] s0 s'.heap) : Tu prog w e s0 L N m r1 r2 b1 b2 q1 q2 s' :=
  ⟨B, x, T.m1, T.m2, T.m3, T.m4, T.R1.kr k, T.R2.kr k, T.M1.kr k, T.M2.kr k⟩
/-- both records hold -/
theorem tu_one {n : Nat} {e : Shared} {s0 : Heap} {L N : Nat} {m : Str → Option Value} {r1 r2 : Value} {b1 b2 : Nat} {q1 q2 : Ask} {p1 p2 p3 p4 : Pos} {Q : Value → Shared → Prop} {outer : List Env} (R : Rm (n + 15) A) (hfr : A.frames = some outer) (ho : outer = []) (Tb0 : Tb e.heap) (o1 : NmOk q1.2.1)
    (T : Tu prog w e s0 L N m r1 r2 b1 b2 q1 q2 s) (h : ∀ s', Tu prog w e s0 L N m r1 r2 b1 b2 q1 q2 s' → Q (.bool true) s') :
    wpAny (model prog w) (A.deeper (envLw L)) (eval (.Call (.Name "_law_holds" p1) [.Name "first" p2, .Name "one" p3] [] p4) (envLw L)) Q E s := by
  refine Call_ (r_global T.B.wd (n_holdsL w) (callWith_K (h₀ := s.heap) T.B.wd (k_holdsL w) (wpAny_items_cons (r_local T.B.fm T.m3 (wpAny_items_cons (r_local T.B.fm T.m1 (wpAny_items_nil ⟨T.B.wd, ?_⟩)))))))
  refine lw_holds (n := n) R hfr ho T.B Tb0 T.M1.1 T.R1 (stars_any _ _) (rec_ok _ o1 _ _ _) fun s' B k x => h s' (T.step B (.of k) (T.kx.trans x))
theorem tu_two {n : Nat} {e : Shared} {s0 : Heap} {L N : Nat} {m : Str → Option Value} {r1 r2 : Value} {b1 b2 : Nat} {q1 q2 : Ask} {p1 p2 p3 p4 : Pos} {Q : Value → Shared → Prop} {outer : List Env} (R : Rm (n + 15) A) (hfr : A.frames = some outer) (ho : outer = []) (Tb0 : Tb e.heap) (o1 : NmOk q2.2.1)
    (T : Tu prog w e s0 L N m r1 r2 b1 b2 q1 q2 s) (h : ∀ s', Tu prog w e s0 L N m r1 r2 b1 b2 q1 q2 s' → Q (.bool true) s') :
    wpAny (model prog w) (A.deeper (envLw L)) (eval (.Call (.Name "_law_holds" p1) [.Name "second" p2, .Name "other" p3] [] p4) (envLw L)) Q E s := by
  refine Call_ (r_global T.B.wd (n_holdsL w) (callWith_K (h₀ := s.heap) T.B.wd (k_holdsL w) (wpAny_items_cons (r_local T.B.fm T.m4 (wpAny_items_cons (r_local T.B.fm T.m2 (wpAny_items_nil ⟨T.B.wd, ?_⟩)))))))
  refine lw_holds (n := n) R hfr ho T.B Tb0 T.M2.1 T.R2 (stars_any _ _) (rec_ok _ o1 _ _ _) fun s' B k x => h s' (T.step B (.of k) (T.kx.trans x))
end
end Mine
end

-- YX
section
open PySem PySem.W PySem.Calls PyProof.Rows
set_option maxHeartbeats 4000000
namespace Mine
theorem grp_small {E : List (Str × Itm)} (h : One E) : (grp E).length ≤ 20 ∧ (∀ x ∈ grp E, x.2.length ≤ 20) ∧ (grp E = [] ∨ ∃ k I, grp E = [(k, [I])]) := by
  rcases h with rfl | ⟨k, I, rfl⟩
  · exact ⟨Nat.zero_le _, fun _ m => (by cases m), .inl rfl⟩
  · rw [grp_one]
    refine ⟨(show 1 ≤ 20 by decide), fun x m => ?_, .inr ⟨k, I, rfl⟩⟩
    rw [List.mem_singleton] at m; subst m
    exact (by decide : 1 ≤ 20)
theorem star_len (nm : Option Str) (md : Bool) : (starL nm md).length ≤ 1 := by
  cases nm with
  | none => exact Nat.zero_le _
  | some k =>
    cases md with
    | true => exact Nat.zero_le _
    | false => exact Nat.le_refl _
theorem one_len {E : List (Str × Itm)} (h : One E) : E.length ≤ 1 := by
  rcases h with rfl | ⟨k, I, rfl⟩
  · exact Nat.zero_le _
  · exact Nat.le_refl _
section
variable {prog : Program} {w : World} {A : Around} {E : Value → Shared → Prop} {s : Shared} {env : Env}
/-- the sum holds -/
theorem tu_sum {n : Nat} {e : Shared} {s0 : Heap} {L : Nat} {m : Str → Option Value} {r1 r2 : Value} {b1 b2 : Nat} {q1 q2 : Ask} {p1 p2 p3 p4 p5 p6 p7 p8 p9 : Pos} {Q : Value → Shared → Prop} {outer : List Env} (R : Rm (n + 15) A) (hfr : A.frames = some outer) (ho : outer = []) (Tb0 : Tb e.heap) (o1 : NmOk q1.2.1) (o2 : NmOk q2.2.1) (hL : L < s0.objs.size) (hes : e.heap.objs.size ≤ s0.objs.size)
    (T : Tu prog w e s0 L s0.objs.size m r1 r2 b1 b2 q1 q2 s) (h : ∀ s', Tu prog w e s0 L s0.objs.size m r1 r2 b1 b2 q1 q2 s' → Q (.bool true) s') :
    wpAny (model prog w) (A.deeper (envLw L)) (eval (.Call (.Name "_law_holds" p1) [.BinOp (.Name "first" p2) .Add (.Name "second" p3) p4, .Call (.Name "_law_joined" p5) [.Name "one" p6, .Name "other" p7] [] p8] [] p9) (envLw L)) Q E s := by
  have R1 : Rm (n + 14) (A.deeper (envLw L)) := R.deep _
  have hbig : 333 ≤ L := Nat.le_trans T.B.big T.B.lo
  have w1 := ents_one q1.2.1 (toksOf q1.1) q1.2.2.1 (q1.1 == 5)
  have w2 := ents_one q2.2.1 (toksOf q2.1) q2.2.2.1 (q2.1 == 5)
  have g1 := grp_small w1
  have g2 := grp_small w2
  have z1 := toks_len q1.1
  have z2 := toks_len q2.1
  have O1 : RecOk _ _ _ := rec_ok q1.1 o1 q1.2.2.1 q1.2.2.2 (q1.1 == 5)
  have O2 : RecOk _ _ _ := rec_ok q2.1 o2 q2.2.2.1 q2.2.2.2 (q2.1 == 5)
  obtain ⟨vs1, kvs1, Px1, _⟩ := id T.M1.1
  obtain ⟨vs2, kvs2, Px2, _⟩ := id T.M2.1
  refine Call_ (r_global T.B.wd (n_holdsL w) (callWith_K (h₀ := s.heap) T.B.wd (k_holdsL w) (wpAny_items_cons (wpAny_BinOp (r_local T.B.fm T.m3 (r_local T.B.fm T.m4 (v_add T.B.wd T.B.fm.ns hbig Px1 Px2 ?_)))))))
  refine (c_add (n := n) (N0 := s0.objs.size) (R1.less (by omega)) T.B.wd (T.B.tb Tb0) (Nat.le_trans T.B.big hes) T.M1.sz T.M1.1 T.M1.2.1 T.M2.1 T.M2.2.1 (by rw [List.length_map, List.length_map]; omega) g1.1 g1.2.1 g2.2.2).call fun r s₁ z => ?_
  obtain ⟨ef, kr, c, rfl, Pc⟩ := z
  have T1 := T.step (T.B.fl ef hes hL) kr (Kx.efl (h := s0) T.kx ef)
  have l1 : (eOf q1).length ≤ 1 := one_len w1
  have l2 : (eOf q2).length ≤ 1 := one_len w2
  have s1 : (sOf q1).length ≤ 1 := star_len q1.2.1 q1.2.2.2
  have s2 : (sOf q2).length ≤ 1 := star_len q2.2.1 q2.2.2.2
  show wpAny (model prog w) (A.deeper (envLw L)) _ _ _ _
  refine wpAny_items_cons (Call_ (r_global T1.B.wd (n_joinedL w) (callWith_K (h₀ := s₁.heap) T1.B.wd (k_joinedL w) (wpAny_items_cons (r_local T1.B.fm T1.m1 (wpAny_items_cons (r_local T1.B.fm T1.m2 (wpAny_items_nil ⟨T1.B.wd, ?_⟩))))))))
  refine (c_joined (n := n) (R1.less (by omega)) T1.B.wd T1.R1 T1.R2 (by omega)).call fun r s₂ z => ?_
  obtain ⟨ev, _, z⟩ := z
  have T2 := T1.step (T1.B.ev ev) (.of ev.kp) (T1.kx.trans (.of ev.ka))
  have Pc2 := Pc.kp ev.kp
  refine wpAny_items_nil ⟨T2.B.wd, ?_⟩
  have eI : ((toksOf q2.1).map Itm.s).isEmpty = (toksOf q2.1).isEmpty := by cases toksOf q2.1 <;> rfl
  have eD : (grp (eOf q2)).isEmpty = (eOf q2).isEmpty := grp_nil w2
  rw [joinS, eI, eD, ← List.map_append, join_grp w1 w2] at Pc2
  cases hb : ((toksOf q2.1).isEmpty && (eOf q2).isEmpty) with
  | true =>
    rw [hb] at z Pc2
    replace z : r = r1 := z
    subst z
    rw [Bool.and_eq_true, List.isEmpty_iff, List.isEmpty_iff] at hb
    have hb2 : entsOf q2.2.1 (toksOf q2.1) q2.2.2.1 (q2.1 == 5) = [] := hb.2
    rw [hb2, hb.1, List.append_nil, List.append_nil, if_pos rfl] at Pc2
    exact lw_holds (n := n) R hfr ho T2.B Tb0 Pc2 T2.R1 (stars_any _ _) O1 fun s' B k x => h s' (T2.step B (.of k) (T2.kx.trans x))
  | false =>
    rw [hb] at z Pc2
    rw [if_neg (by decide)] at Pc2
    replace z : RecL _ r _ _ _ := z
    refine lw_holds (n := n) R hfr ho T2.B Tb0 Pc2 z (fun y => ?_) (RecOk.add (E1 := eOf q1) (E2 := eOf q2) O1 O2 (by omega) (by omega)) fun s' B k x => h s' (T2.step B (.of k) (T2.kx.trans x))
    rw [List.any_append, ← stars_any, ← stars_any]
end
end Mine
end

-- YY
section
open PySem PySem.W PySem.Calls PyProof.Rows
set_option maxHeartbeats 4000000
namespace Mine
section
variable {prog : Program} {w : World} {A : Around} {E : Value → Shared → Prop} {s : Shared} {env : Env}
/-- a turn of law -/
theorem lw_turn {n L : Nat} {e : Shared} {m : Str → Option Value} {l c : Nat} {v1 v2 : Value} {q1 q2 : Ask} {Q : Flow → Shared → Prop} {outer : List Env} (R : Rm (n + 15) A) (hfr : A.frames = some outer) (ho : outer = []) (Tb0 : Tb e.heap) (B : Bd w e.heap.objs.size e L m s) (hm : m "pair" = some (.ref l)) (hl : IsL s.heap l #[v1, v2] c) (a1 : AskAt s.heap v1 q1) (a2 : AskAt s.heap v2 q2)
    (h : ∀ m' s', Bd w e.heap.objs.size e L m' s' → Kx [L] s.heap s'.heap → Q .next s') :
    wpAny (model prog w) (A.deeper (envLw L)) (execs (forBody (bodyOf fd_law) 0) (envLw L)) Q E s := by
  have o1 : NmOk q1.2.1 := by obtain ⟨_, _, _, _, _, _, _, o⟩ := a1; exact o
  have o2 : NmOk q2.2.1 := by obtain ⟨_, _, _, _, _, _, _, o⟩ := a2; exact o
  have R1 : Rm (n + 14) (A.deeper (envLw L)) := R.deep _
  have hL : L < s.heap.objs.size := by obtain ⟨o', q, _⟩ := B.fm.cls; exact Heap.lt_size q
  have hes : e.heap.objs.size ≤ s.heap.objs.size := Nat.le_of_lt B.lt
  refine wpAny_execs_cons (lw_recs (n := n) rfl (R1.less (by omega)) B hm hl a1 a2 fun r1 r2 s₁ B1 k1 x1 V1 V2 => ?_)
  have hL1 : L < s₁.heap.objs.size := by obtain ⟨o', q, _⟩ := B1.fm.cls; exact Heap.lt_size q
  have hes1 : e.heap.objs.size ≤ s₁.heap.objs.size := Nat.le_of_lt B1.lt
  refine wpAny_execs_cons (lw_mades (n := n) (N := s₁.heap.objs.size) rfl (R1.less (by omega)) B1 (Nat.le_refl _) ((if_neg (by decide)).trans ((if_neg (by decide)).trans hm)) (k1.k _ _ hl rfl) (a1.kp k1) (a2.kp k1) fun b1 b2 s₂ B2 k2 x2 M1 M2 _ => ?_)
  have T : Tu prog w e s₁.heap L s₁.heap.objs.size _ r1 r2 b1 b2 q1 q2 s₂ := ⟨B2, x2, (if_neg (by decide)).trans ((if_neg (by decide)).trans (if_pos rfl)), (if_neg (by decide)).trans ((if_neg (by decide)).trans ((if_neg (by decide)).trans (if_pos rfl))), if_pos rfl, (if_neg (by decide)).trans (if_pos rfl), V1.kp k2, V2.kp k2, M1, M2⟩
  refine wpAny_execs_cons (wpAny_If (isTrue_or (wpAny_isTrue_Compare1 (r_local T.B.fm T.m3 (wpAny_Constant_none (is_ref_none (wpAny_truthy_bool ?_)))))))
  refine isTrue_or (wpAny_isTrue_Compare1 (r_local T.B.fm T.m4 (wpAny_Constant_none (is_ref_none (wpAny_truthy_bool ?_)))))
  refine isTrue_or (isTrue_not (isTrue_plain (tu_one (n := n) R hfr ho Tb0 o1 T fun s₃ T => wpAny_truthy_bool ?_)))
  refine isTrue_or (isTrue_not (isTrue_plain (tu_two (n := n) R hfr ho Tb0 o2 T fun s₄ T => wpAny_truthy_bool ?_)))
  refine isTrue_or_nil (wpAny_execs_nil (env := envLw L) ?_)
  refine wpAny_execs_cons (wpAny_If (isTrue_not (isTrue_plain (tu_sum (n := n) R hfr ho Tb0 o1 o2 hL1 hes1 T fun s₅ T => wpAny_truthy_bool (wpAny_execs_nil (env := envLw L) ?_)))))
  refine wpAny_execs_cons (wpAny_If (isTrue_or (isTrue_not (isTrue_plain (tu_one (n := n) R hfr ho Tb0 o1 T fun s₆ T => wpAny_truthy_bool ?_)))))
  refine isTrue_or (isTrue_not (isTrue_plain (tu_two (n := n) R hfr ho Tb0 o2 T fun s₇ T => wpAny_truthy_bool ?_)))
  exact isTrue_or_nil (wpAny_execs_nil (env := envLw L) (wpAny_execs_nil (env := envLw L) (h _ _ T.B (x1.trans T.kx))))
end
end Mine
end

-- YZ
section
open PySem PySem.W PySem.Calls PyProof.Rows
set_option maxHeartbeats 4000000
namespace Mine
section
variable {prog : Program} {w : World} {A : Around} {E : Value → Shared → Prop} {s : Shared} {env : Env}
/-- a for loop in a body -/
theorem b_loop2 {target iter : Expr} {body : List Stmt} {pos : Pos} {n : Nat} {e : Shared} {Q : Flow → Shared → Prop} {D : List Addr}
    (h : wpAny (model prog w) A (eval iter env) (fun xv s₁ => wpAny (model prog w) A (pyIter xv) (fun itv s₂ => ∃ (it : Addr) (deps : List Addr) (N : Nat) (It : Nat → Heap → Prop) (P : Nat → Value → Prop) (m : Str → Option Value) (T : String) (φ : Nat → (Str → Option Value) → Heap → Prop), (∀ j m h h', φ j m h → Tick h h' → φ j m h') ∧ itv = .ref it ∧ Iter prog w A it deps N It P ∧ It 0 s₂.heap ∧ n ≤ it ∧
      (T = "list_iterator" ∨ T = "range_iterator") ∧ (∀ j h, It j h → (∃ o, h.get? it = some o ∧ o.cls = .type T) ∧ ∀ b ∈ deps, b ∉ D ∧ ∀ o, h.get? b = some o → tabO o = false) ∧
      (∀ j v (s' : Shared) (E' : Value → Shared → Prop) (Q' : Unit → Shared → Prop), It (j + 1) s'.heap → P j v → Q' () s' → wpAny (model prog w) A (letOwnedTupleGo target (.ref it) v) Q' E' s') ∧
      Bd w n e env.locals m s₂ ∧ φ 0 m s₂.heap ∧
      (∀ j v m' (s' : Shared), j < N → P j v → Bd w n e env.locals m' s' → φ j m' s'.heap →
        wpAny (model prog w) A (assign target env v) (fun _ s₃ => wpAny (model prog w) A (execs body env) (fun f s₄ => match f with
          | .next | .cont => (∃ m'', Bd w n e env.locals m'' s₄ ∧ φ (j + 1) m'' s₄.heap) ∧ Kx D s'.heap s₄.heap
          | .brk => False
          | .ret r => Q (.ret r) s₄) (fun _ _ => False) s₃) (fun _ _ => False) s') ∧
      (∀ m' (s' : Shared), Bd w n e env.locals m' s' → φ N m' s'.heap → Q .next s')) E s₁) E s)
    (hs : ∀ x, foldedSetIterable iter env x = pure x := by intro _; rfl) :
    wpAny (model prog w) A (exec (.For target iter body [] pos) env) Q E s := by
  refine v_For (wpAny_mono h (fun xv s₁ z => wpAny_mono z (fun itv s₂ z => ?_) fun _ _ z => z) fun _ _ z => z) hs
  obtain ⟨it, deps, N, It, P, m, T, φ, hφ, rfl, I, i0, hn, hT, hit, hlet, B, p0, turn, fin⟩ := z
  have hfr : (.type T : Value) ≠ .type "frame" := by rcases hT with rfl | rfl <;> simp
  refine ⟨it, deps, N, It, P, fun j s' => (∃ m', Bd w n e env.locals m' s' ∧ φ j m' s'.heap) ∧ ∃ o, s'.heap.get? it = some o ∧ o.cls = .type T, rfl, I, i0, ⟨⟨m, B, p0⟩, (hit 0 _ i0).1⟩, ?_, ?_⟩
  · rintro j v s₀ h' t hj hp ⟨⟨m', B', p'⟩, o, qo, co⟩ S hi'
    refine hlet j v _ _ _ hi' hp ?_
    have tk : Tick s₀.heap h' := .ext qo co hT S.extBut
    have B'' := B'.at_ (t := t) S hn (B'.ne qo (by rw [co]; exact hfr)) ⟨o, qo, nc_cls (by rw [co]; rcases hT with rfl | rfl <;> simp)⟩
    refine wpAny_mono (turn j v m' _ hj hp B'' (hφ _ _ _ _ p' tk)) (fun _ s₃ z => wpAny_mono z (fun f s₄ z => ?_) fun _ _ z => z) fun _ _ z => z
    have kp : ∀ {s₄ : Shared}, Kx D h' s₄.heap → ∀ b ∈ deps, ∀ o, h'.get? b = some o → s₄.heap.get? b = some o := fun k b mb o q => k b o ((hit _ _ hi').2 b mb).1 q (((hit _ _ hi').2 b mb).2 o q)
    cases f with
    | next => exact ⟨⟨z.1, I.keep _ _ _ hi' (kp z.2) |> hit _ _ |>.1⟩, kp z.2⟩
    | cont => exact ⟨⟨z.1, I.keep _ _ _ hi' (kp z.2) |> hit _ _ |>.1⟩, kp z.2⟩
    | brk => exact z
    | ret r => exact z
  · rintro s₀ h' ⟨⟨m', B', p'⟩, o, qo, co⟩ hi S
    have tk : Tick s₀.heap h' := .ext qo co hT S
    exact fin m' _ (B'.ext (t := s₀.toks) S hn qo (by rw [co]; exact hfr) (nc_cls (by rw [co]; rcases hT with rfl | rfl <;> simp))) (hφ _ _ _ _ p' tk)
/-- for x in l -/
theorem b_For2 {target iter : Expr} {body : List Stmt} {pos : Pos} {n : Nat} {e : Shared} {Q : Flow → Shared → Prop} {D : List Addr} (hh : A.handled = none)
    (ht : (∃ x p, target = .Name x p) ∨ ∃ es k p, target = .Tuple es k p)
    (h : wpAny (model prog w) A (eval iter env) (fun xv s₁ => ∃ (l : Addr) (its : List Value) (m : Str → Option Value) (φ : Nat → (Str → Option Value) → Heap → Prop), (∀ j m h h', φ j m h → Tick h h' → φ j m h') ∧ xv = .ref l ∧ s₁.heap.IsList l its.toArray ∧ ((∃ es k p, target = .Tuple es k p) → ∀ v ∈ its, ∃ a, v = .ref a) ∧ l ∉ D ∧ (∀ d ∈ D, d < s₁.heap.objs.size) ∧ Bd w n e env.locals m s₁ ∧ φ 0 m s₁.heap ∧
      (∀ j v m' (s' : Shared), its[j]? = some v → Bd w n e env.locals m' s' → φ j m' s'.heap →
        wpAny (model prog w) A (assign target env v) (fun _ s₃ => wpAny (model prog w) A (execs body env) (fun f s₄ => match f with
          | .next | .cont => (∃ m'', Bd w n e env.locals m'' s₄ ∧ φ (j + 1) m'' s₄.heap) ∧ Kx D s'.heap s₄.heap
          | .brk => False
          | .ret r => Q (.ret r) s₄) (fun _ _ => False) s₃) (fun _ _ => False) s') ∧
      (∀ m' (s' : Shared), Bd w n e env.locals m' s' → φ its.length m' s'.heap → Q .next s')) E s)
    (hs : ∀ x, foldedSetIterable iter env x = pure x := by intro _; rfl) :
    wpAny (model prog w) A (exec (.For target iter body [] pos) env) Q E s := by
  refine b_loop2 (D := D) (n := n) (e := e) (wpAny_mono h (fun xv s₁ z => ?_) fun _ _ z => z) hs
  obtain ⟨l, its, m, φ, hφ, rfl, hl, hr, hlD, hD, B, p0, turn, fin⟩ := z
  refine wpAny_pyIter_list hl ?_
  have hlt : l < s₁.heap.objs.size := by obtain ⟨o, q, _⟩ := hl; exact Heap.lt_size q
  have hne : l ≠ s₁.heap.objs.size := Nat.ne_of_lt hlt
  have k : ∀ b o, s₁.heap.get? b = some o → (s₁.heap.push { cls := .type "list_iterator", data := .fields #[.ref l, .int 0 0] }).get? b = some o := fun b o e => Heap.get?_push_of_some _ e
  have q := Heap.get?_push_size s₁.heap (show ({ cls := .type "list_iterator", data := .fields #[.ref l, .int 0 0] } : Obj).isFreed = false from rfl)
  have hn : n ≤ s₁.heap.objs.size := Nat.le_of_lt B.lt
  refine ⟨s₁.heap.objs.size, [s₁.heap.objs.size, l], its.length, _, _, m, "list_iterator", φ, hφ, rfl, iter_list hh hne, ⟨⟨_, q, rfl, rfl⟩, isList_kp hl (.of k)⟩, hn, .inl rfl, ?_, ?_, B.keep (t := s₁.toks) k, ?_, ?_, fin⟩
  · rintro j h ⟨⟨o, q, c, r⟩, o', q', c', r'⟩
    refine ⟨⟨o, q, c⟩, fun b mb => ?_⟩
    rcases List.mem_cons.mp mb with rfl | mb
    · exact ⟨fun md => Nat.lt_irrefl _ (hD _ md), fun o'' e => by rw [q] at e; cases e; unfold tabO; rw [c]⟩
    · rcases List.mem_singleton.mp mb with rfl
      exact ⟨hlD, fun o'' e => by rw [q'] at e; cases e; unfold tabO; rw [c']⟩
  · rintro j v s' E' Q' ⟨hi, _⟩ hv hq
    rcases ht with ⟨x, p, rfl⟩ | ht
    · exact wpAny_of_eq (rfl : letOwnedTupleGo (.Name x p) _ v = pure ()) hq
    · obtain ⟨a, rfl⟩ := hr ht v (List.mem_of_getElem? hv)
      obtain ⟨es, k, p, rfl⟩ := ht
      exact wpAny_letOwnedTupleGo_listiter hi hq
  · exact hφ _ _ _ _ p0 (.of k)
  · exact fun j v m' s' hj hv B' p' => turn j v m' s' hv B' p'
theorem PairAt.kxl {h h' : Heap} {L : Addr} {v : Value} {q : Ask × Ask} (x : PairAt 0 h v q) (k : Kx [L] h h') (c : ∃ o, h.get? L = some o ∧ o.cls = .type "frame") : PairAt 0 h' v q := by
  obtain ⟨oL, qL, cL⟩ := c
  have go : ∀ b o, h.get? b = some o → o.cls ≠ .type "frame" → tabO o = false → h'.get? b = some o := fun b o q n p => k b o (by
    rw [List.mem_singleton]; intro z; subst z
    rw [q] at qL; cases qL; exact n cL) q p
  obtain ⟨l, v1, v2, c, e, z, p, ⟨tp, tk, nv, e1, p1, r1⟩, ⟨tp', tk', nv', e2, p2, r2⟩⟩ := x
  exact ⟨l, v1, v2, c, e, z, go _ _ p (by simp) rfl, ⟨tp, tk, nv, e1, go _ _ p1 (by simp) rfl, r1⟩, ⟨tp', tk', nv', e2, go _ _ p2 (by simp) rfl, r2⟩⟩
end
end Mine
end

-- ZA
section
open PySem PySem.W PySem.Calls PyProof.Rows
set_option maxHeartbeats 4000000
namespace Mine
section
variable {prog : Program} {w : World} {A : Around} {E : Value → Shared → Prop} {s : Shared} {env : Env}
/-- the loop of law -/
theorem lw_loop {n sc L : Nat} {e : Shared} {m : Str → Option Value} {vals : List Value} {Q : Flow → Shared → Prop} {outer : List Env} {st : Stmt} (hst : (bodyOf fd_law)[0]? = some st) (R : Rm (n + 15) A) (hfr : A.frames = some outer) (ho : outer = []) (Tb0 : Tb e.heap) (B : Bd w e.heap.objs.size e L m s) (hm : m "script" = some (.ref sc)) (hs : s.heap.IsList sc vals.toArray) (hi : ∀ x ∈ vals, IntV x) (hl : vals.length ≤ 100)
    (h : ∀ m' s', Bd w e.heap.objs.size e L m' s' → Q .next s') : wpAny (model prog w) (A.deeper (envLw L)) (exec st (envLw L)) Q E s := by
  cases hst
  have R1 : Rm (n + 14) (A.deeper (envLw L)) := R.deep _
  refine b_For2 (D := [L]) (n := e.heap.objs.size) (e := e) R1.h (.inl ⟨_, _, rfl⟩) ?_
  refine Call_ (r_global B.wd (n_draftL w) (callWith_K (h₀ := s.heap) B.wd (k_draftL w) (wpAny_items_cons (r_local B.fm hm (wpAny_items_nil ⟨B.wd, ?_⟩)))))
  refine (c_draft (n := n) (R1.less (by omega)) B.wd hs hi hl).call fun r s₁ z => ?_
  obtain ⟨ev, _, pl, ps, qs, c, rfl, qpl, hps, _⟩ := z
  replace B := B.ev ev
  refine ⟨pl, ps, m, fun _ _ h => All2 (PairAt 0 h) ps qs, fun j m h h' a tk => a.mono fun _ _ z => z.kp tk.kp, rfl, IsL.isList qpl, nofun, ?_, ?_, B, hps, ?_, fun m' s' B' _ => h m' s' B'⟩
  · intro md
    rw [List.mem_singleton] at md
    exact B.ne qpl (by simp) md.symm
  · intro d md
    rw [List.mem_singleton] at md; subst md
    obtain ⟨o', q, _⟩ := B.fm.cls; exact Heap.lt_size q
  · intro j v m' s₂ hv B2 hall
    obtain ⟨⟨q1, q2⟩, _, l, v1, v2, c', rfl, _, hl2, a1, a2⟩ := hall.get hv
    refine wpAny_assign_Name (b_store B2 fun h₃ B3 K3 S3 => ?_)
    have x3 : Kx [L] s₂.heap h₃ := .at_ S3 List.mem_cons_self
    refine lw_turn (n := n) R hfr ho Tb0 B3 (if_pos rfl) (K3.k _ _ hl2 rfl) (a1.kp K3) (a2.kp K3) fun m4 s₄ B4 x4 => ?_
    exact ⟨⟨m4, B4, hall.mono fun _ _ z => z.kxl (x3.trans x4) B2.fm.cls⟩, x3.trans x4⟩
end
end Mine
end

-- ZB
section
open PySem PySem.W PySem.Calls PyProof.Rows
set_option maxHeartbeats 4000000
namespace Mine
section
variable {prog : Program} {w : World} {A : Around} {E : Value → Shared → Prop} {s : Shared} {env : Env}
/-- law(script) -/
theorem c_law {n sc : Nat} {vals : List Value} {outer : List Env} (R : Rm (n + 16) A) (T : Tb s.heap) (hfr : A.frames = some outer) (ho : outer = []) (X : Wd w s.heap) (hs : s.heap.IsList sc vals.toArray) (hi : ∀ x ∈ vals, IntV x) (hl : vals.length ≤ 100) :
    Ret prog w A (.ref 332) ⟨[.ref sc], []⟩ s (fun r s' => r = .bool true ∧ Ef s.heap.objs.size s s') := by
  refine b_enter X X.big (Nat.le_refl _) (binds := [("script", .ref sc)]) (body := bodyOf fd_law) R.room (fo_law X) rfl (code_of X (by kernel_rfl)) rfl (.of_eq rfl) (by decide) (locs rfl) fun L s₁ B hL ev => ?_
  have R1 : Rm (n + 15) (A.deeper (envLw L)) := R.deep _
  refine wpAny_execs_cons (lw_loop (n := n) rfl (R.less (by omega)) hfr ho T B rfl (isList_kp hs ev.kp) hi hl fun m s₂ B => ?_)
  obtain ⟨h₂, g₂, d₂, t₂, os₂⟩ := s₂
  refine wpAny_execs_cons (wpAny_Return_some (Call_ (r_global B.wd (n_holdsL w) (callWith_K (h₀ := h₂) B.wd (k_holdsL w) (wpAny_items_cons (wpAny_BinOp (Call_ (r_global B.wd (n_PR w) (callWith_K (h₀ := h₂) B.wd (k_PR w) (wpAny_items_cons (wpAny_List (wpAny_items_cons (wpAny_Constant_str (wpAny_items_nil ⟨show 1 ≤ sizeLine by decide, ?_⟩))))))))))))))
  have hlt2 : L < h₂.objs.size := by obtain ⟨o', q, _⟩ := B.fm.cls; exact Heap.lt_size q
  have hes2 : s.heap.objs.size ≤ h₂.objs.size := Nat.le_of_lt B.lt
  replace B := bd_ref B (t₂ + 1)
  have ll1 := Nat.le_of_lt B.lt
  replace B := B.push { cls := .type "list", data := .seq #[.str "a" t₂] } (t₂ + 1)
  have ql1 := Heap.get?_push_size h₂ (show ({ cls := .type "list", data := .seq #[.str "a" t₂] } : Obj).isFreed = false from rfl)
  dsimp only at *
  generalize h₂.objs.size = l1 at *
  generalize h₂.push { cls := .type "list", data := .seq #[.str "a" t₂] } = h₃ at *
  refine wpAny_items_nil ⟨B.wd, ?_⟩
  refine (c_plain (n := n) (R1.less (by omega)) B.wd (.inr (.inr ⟨l1, _, 0, rfl, (show IsL h₃ l1 [Value.str "a" t₂].toArray 0 from ql1), rfl, rfl, (show 1 ≤ 64 by decide)⟩))).call fun r1 s₄ z => ?_
  obtain ⟨ev4, z⟩ := z
  have z1 : NewPR prog w h₃.objs.size s₄.heap r1 [.str "a" t₂] := z
  replace B := B.ev ev4
  have hL3 : L < h₃.objs.size := Nat.lt_trans hlt2 (Heap.lt_size ql1)
  have he3 : s.heap.objs.size ≤ h₃.objs.size := Nat.le_trans hes2 (Nat.le_of_lt (Heap.lt_size ql1))
  obtain ⟨a1, dx1, tl1, td1, an1, rfl, Q1⟩ := z1.prr
  have hz4 : h₃.objs.size ≤ s₄.heap.objs.size := Nat.le_of_lt (Nat.lt_of_le_of_lt Q1.na (Heap.lt_size Q1.fa))
  obtain ⟨h₄, g₄, d₄, t₄, os₄⟩ := s₄
  refine Call_ (r_global B.wd (n_PR w) (callWith_K (h₀ := h₄) B.wd (k_PR w) (wpAny_items_cons (wpAny_List (wpAny_items_nil ⟨by decide, ?_⟩)))))
  have k5 : ∀ b o, h₄.get? b = some o → (h₄.push { cls := .type "list", data := .seq #[] }).get? b = some o := fun b o e => Heap.get?_push_of_some _ e
  replace Q1 := Q1.ka (.of k5)
  have hz5 : h₃.objs.size ≤ (h₄.push { cls := .type "list", data := .seq #[] }).objs.size := by rw [Heap.size_push]; exact Nat.le_succ_of_le hz4
  have ll2 := Nat.le_of_lt B.lt
  replace B := B.push { cls := .type "list", data := .seq #[] } (t₄)
  have ql2 := Heap.get?_push_size h₄ (show ({ cls := .type "list", data := .seq #[] } : Obj).isFreed = false from rfl)
  dsimp only at *
  generalize h₄.objs.size = l2 at *
  generalize h₄.push { cls := .type "list", data := .seq #[] } = h₅ at *
  refine wpAny_items_nil ⟨B.wd, ?_⟩
  refine (c_plain (n := n) (R1.less (by omega)) B.wd (.inr (.inr ⟨l2, _, 0, rfl, (show IsL h₅ l2 ([] : List Value).toArray 0 from ql2), rfl, rfl, Nat.zero_le _⟩))).call fun r2 s₆ z => ?_
  obtain ⟨ev6, z⟩ := z
  have z2 : NewPR prog w h₅.objs.size s₆.heap r2 [] := z
  replace B := B.ev ev6
  replace Q1 := Q1.ka ev6.kp
  obtain ⟨a2, dx2, tl2, td2, an2, rfl, Q2⟩ := z2.prr
  have hb3 : 333 ≤ h₃.objs.size := Nat.le_trans X.big he3
  have P1 : PRt prog w h₃.objs.size s₆.heap a1 ((["a"] : List Str).map .s) (grp []) (fun _ => false) := ⟨_, [], Q1.prx hb3 (show 1 ≤ 64 by decide) (Nat.zero_le _), .cons ⟨t₂, rfl⟩ .nil, .nil⟩
  have P2 : PRt prog w h₃.objs.size s₆.heap a2 (([] : List Str).map .s) (grp []) (fun _ => false) := ⟨_, [], (Q2.less hz5).prx hb3 (Nat.zero_le _) (Nat.zero_le _), .nil, .nil⟩
  have hz6 : h₃.objs.size ≤ s₆.heap.objs.size := Nat.le_of_lt (Nat.lt_of_le_of_lt Q1.na (Heap.lt_size Q1.fa))
  obtain ⟨vx1, kx1, Px1, _⟩ := id P1
  obtain ⟨vx2, kx2, Px2, _⟩ := id P2
  refine v_add B.wd B.fm.ns (Nat.le_trans X.big B.lo) Px1 Px2 ?_
  refine (c_add (n := n) (N0 := h₃.objs.size) (R1.less (by omega)) B.wd (B.tb T) hb3 hz6 P1 (Q1.sm ⟨rfl, rfl⟩ nofun) P2 (Q2.sm ⟨rfl, rfl⟩ nofun) (show 1 ≤ 40 by decide) (Nat.zero_le _) nofun (.inl rfl)).call fun r s₇ z => ?_
  obtain ⟨ef7, _, c, rfl, Pc⟩ := z
  replace B := B.fl ef7 he3 hL3
  show wpAny (model prog w) (A.deeper (envLw L)) _ _ _ _
  obtain ⟨h₇, g₇, d₇, t₇, os₇⟩ := s₇
  refine wpAny_items_cons (wpAny_List (wpAny_items_cons (wpAny_List (wpAny_items_cons (wpAny_Constant_str (wpAny_items_nil ⟨show 1 ≤ sizeLine by decide, ?_⟩))))))
  replace B := bd_ref B (t₇ + 1)
  replace Pc := PRt.kp Pc (.push h₇ { cls := .type "list", data := .seq #[.str "a" t₇] })
  have lx1 := Nat.le_of_lt B.lt
  replace B := B.push { cls := .type "list", data := .seq #[.str "a" t₇] } (t₇ + 1)
  have qx1 := Heap.get?_push_size h₇ (show ({ cls := .type "list", data := .seq #[.str "a" t₇] } : Obj).isFreed = false from rfl)
  dsimp only at *
  generalize h₇.objs.size = x1 at *
  generalize h₇.push { cls := .type "list", data := .seq #[.str "a" t₇] } = h₈ at *
  refine wpAny_items_cons (wpAny_List (wpAny_items_nil ⟨by decide, ?_⟩))
  replace Pc := PRt.kp Pc (.push h₈ { cls := .type "list", data := .seq #[] })
  have lx2 := Nat.le_of_lt B.lt
  replace B := B.push { cls := .type "list", data := .seq #[] } (t₇ + 1)
  have qx2 := Heap.get?_push_size h₈ (show ({ cls := .type "list", data := .seq #[] } : Obj).isFreed = false from rfl)
  replace qx1 := Heap.get?_push_of_some { cls := .type "list", data := .seq #[] } qx1
  dsimp only at *
  generalize h₈.objs.size = x2 at *
  generalize h₈.push { cls := .type "list", data := .seq #[] } = h₉ at *
  refine wpAny_items_cons (wpAny_List (wpAny_items_nil ⟨by decide, ?_⟩))
  replace Pc := PRt.kp Pc (.push h₉ { cls := .type "list", data := .seq #[] })
  have lx3 := Nat.le_of_lt B.lt
  replace B := B.push { cls := .type "list", data := .seq #[] } (t₇ + 1)
  have qx3 := Heap.get?_push_size h₉ (show ({ cls := .type "list", data := .seq #[] } : Obj).isFreed = false from rfl)
  replace qx1 := Heap.get?_push_of_some { cls := .type "list", data := .seq #[] } qx1
  replace qx2 := Heap.get?_push_of_some { cls := .type "list", data := .seq #[] } qx2
  dsimp only at *
  generalize h₉.objs.size = x3 at *
  generalize h₉.push { cls := .type "list", data := .seq #[] } = h₁₀ at *
  refine wpAny_items_nil ⟨show 3 ≤ sizeLine by decide, ?_⟩
  replace Pc := PRt.kp Pc (.push h₁₀ { cls := .type "list", data := .seq #[.ref x1, .ref x2, .ref x3] })
  have lx4 := Nat.le_of_lt B.lt
  replace B := B.push { cls := .type "list", data := .seq #[.ref x1, .ref x2, .ref x3] } (t₇ + 1)
  have qx4 := Heap.get?_push_size h₁₀ (show ({ cls := .type "list", data := .seq #[.ref x1, .ref x2, .ref x3] } : Obj).isFreed = false from rfl)
  replace qx1 := Heap.get?_push_of_some { cls := .type "list", data := .seq #[.ref x1, .ref x2, .ref x3] } qx1
  replace qx2 := Heap.get?_push_of_some { cls := .type "list", data := .seq #[.ref x1, .ref x2, .ref x3] } qx2
  replace qx3 := Heap.get?_push_of_some { cls := .type "list", data := .seq #[.ref x1, .ref x2, .ref x3] } qx3
  dsimp only at *
  generalize h₁₀.objs.size = x4 at *
  generalize h₁₀.push { cls := .type "list", data := .seq #[.ref x1, .ref x2, .ref x3] } = h₁₁ at *
  refine wpAny_items_nil ⟨B.wd, ?_⟩
  have V : RecL h₁₁ (.ref x4) ["a"] [] [] := ⟨x4, x1, x2, x3, [.str "a" t₇], [], [], 0, 0, 0, 0, rfl, qx4, qx1, .cons ⟨t₇, rfl⟩ .nil, qx2, .nil, qx3, .nil⟩
  refine lw_holds (n := n) (R.less (by omega)) hfr ho B T (Es := []) (toks := ["a"]) Pc V (fun _ => rfl) ⟨fun x m => ?_, nofun, nofun, by decide, Nat.zero_le _, nofun, rfl⟩ fun s' B k x => ⟨rfl, B.out⟩
  rw [List.mem_singleton] at m; subst m
  rw [OkS, PyData.canLay0]; decide +kernel
end
end Mine
end

-- ZC
section
open PySem PySem.W PySem.Calls PyProof.Rows
set_option maxHeartbeats 4000000
namespace Mine
/-- the keys of a written heap grow -/
def keysUp : Nat → Frag → Bool
  | _, [] => true
  | n, (b, _) :: r => Nat.ble n b && keysUp (b + 1) r
theorem keysUp.le {a : Addr} {o : Obj} {p : Addr × Obj → Bool} : ∀ {K : Frag} {n : Nat}, keysUp n K = true → (K.filter p).lookup a = some o → n ≤ a
  | [], _, _, e => by cases e
  | (b, x) :: r, n, h, e => by
    obtain ⟨h1, h2⟩ := Bool.and_eq_true_iff.mp h
    have h1 := Nat.le_of_ble_eq_true h1
    rw [List.filter_cons] at e
    split at e
    · rw [List.lookup_cons] at e
      split at e
      · rename_i q; rw [beq_iff_eq.mp q]; exact h1
      · have := h2 |> fun h2 => keysUp.le h2 e; omega
    · have := h2 |> fun h2 => keysUp.le h2 e; omega
theorem keysUp.look {a : Addr} {o : Obj} {p : Addr × Obj → Bool} : ∀ {K : Frag} {n : Nat}, keysUp n K = true → (K.filter p).lookup a = some o → K.lookup a = some o
  | [], _, _, e => by cases e
  | (b, x) :: r, n, h, e => by
    obtain ⟨h1, h2⟩ := Bool.and_eq_true_iff.mp h
    rw [List.filter_cons] at e
    rw [List.lookup_cons]
    split at e
    · rw [List.lookup_cons] at e
      split at e
      · exact e
      · exact keysUp.look h2 e
    · have l := keysUp.le h2 e
      have q : (a == b) = false := by rw [beq_eq_false_iff_ne]; exact Nat.ne_of_gt l
      rw [q]; exact keysUp.look h2 e
theorem top_up (w : World) : keysUp 0 (hz.heap_352 w.params) = true := by kernel_rfl
theorem wd_top {w : World} {h : Heap} (X : (hz.heap_352 w.params).In h) : Wd w h := fun a o e => X a o (keysUp.look (top_up w) e)
end Mine
end

-- ZD
section
open PySem PySem.W PySem.Calls PyProof.Rows
set_option maxHeartbeats 4000000
namespace Mine
theorem ints_v : ∀ {vs : List Value} {ns : List Int}, IntsAre vs ns → ∀ x ∈ vs, IntV x
  | _, _, .nil, _, m => nomatch m
  | _, _, .cons n t h, x, m => by
    rcases List.mem_cons.mp m with rfl | m
    · exact ⟨n, t, rfl⟩
    · exact ints_v h x m
theorem rm_caller : Rm (0 + 16) callerA := ⟨by decide, by decide, rfl⟩
/-- the call of law, as the row asks it -/
theorem law_end {prog : Program} {w : World} {s₁ : Shared} {c : ClaimW} {cl : Str → Option Addr} {mean : ExcName → Option Value} {args : List WData} {vals : List Value} {ns : List Int} {sc : Nat}
    (KX : (hz.heap_352 w.params).In s₁.heap) (hg : s₁.gens = #[]) (hL : s₁.heap.IsList sc vals.toArray) (hi : IntsAre vals ns) (hl : vals.length ≤ 100)
    (hr : ∀ cls, c.raises args cls = false) (hp : c.post args (.bool true) args = true) :
    wpAny (model prog w) callerA (PySem.call (.ref 332) [.ref sc]) (fun v s' => GoodWG c cl mean args s₁ (.ok (.ret v)) s') (fun e s' => GoodWG c cl mean args s₁ (.error e) s') s₁ := by
  have T : Tb s₁.heap := tb_top KX
  refine (c_law (n := 0) rm_caller T rfl rfl (wd_top KX) hL (ints_v hi) hl).call fun r s' z => ?_
  obtain ⟨rfl, ef⟩ := z
  have k := ef.kf.ka (Nat.le_refl _)
  exact ⟨.inl ⟨_, _, [], rfl, hr, ReadsW.bool true, hp, fun _ => ⟨List.nodup_nil, fun _ hm => (nomatch hm)⟩⟩, k.oldK T, ef.os, fun y hy => ef.gens.b (fun x hx => by rw [hg] at hx; simp at hx) y hy⟩
end Mine
end

open PySem PySem.W PySem.W.X PyProof.Rows
set_option maxHeartbeats 0 in
theorem PySem.Challenge.cw_bj5025_01_holds : PySem.Challenge.rw_bj5025_01.Holds := by
  refine Mine.hz ?_
  k_fill
  intro w s₀ s₁ mg mb G y fa o pm cd doc dV kV ho hd hcd hD hmg hg args vals as L hpre hlay hrd hwl hlo
  z_open y L KX ZH ZN ZT
  refine Ground.open G ?_
  intro T B D TE TW
  wrow_args hpre hlay hrd hwl hlo
  obtain ⟨hat, hsz⟩ := script_at L
  have htk := script_toks L ZT
  rw [ZN] at hat hsz
  subst hat
  x_fa T KX hmg
  all_lens
  refine Mine.law_end KX hg (by assumption) (by assumption) ?_ (fun _ => rfl) ?_
  · omega
  · first | rfl | wrow_post
