import PyProof.Rows.All
import Wide.All
import OpenK.AllK
import Wide.FinOn
import Lean
import PySem.Challenge.RW_wo0021_02
set_option Elab.async false
section
-- B1
open PySem PySem.W PyProof.Rows PySem.Calls
namespace Mine
set_option maxRecDepth 100000

noncomputable def No (_ : Value) (_ : Shared) : Prop := False
abbrev HLe (h h' : Heap) : Prop := ∀ b o, h.get? b = some o → h'.get? b = some o

noncomputable def seqO (o : Obj) : Bool := match o.data with | .seq .. => true | _ => false
/-- no list or tuple lies there -/
noncomputable def NoSeq (h : Heap) (b : Addr) : Prop := ∀ o, h.get? b = some o → seqO o = false
theorem NoSeq.of_none {h : Heap} {b : Addr} (e : h.get? b = none) : NoSeq h b := fun o q => by rw [e] at q; cases q
theorem NoSeq.of_ns {h : Heap} {b : Addr} {m : Str → Option Value} (n : h.Ns b m) : NoSeq h b := fun o q => by
  obtain ⟨o', es, ep, e, hd, _⟩ := n
  rw [e] at q; cases q; unfold seqO; rw [hd]
/-- the lists and tuples of a heap, but for the addresses X -/
noncomputable def vw (h : Heap) (X : List Addr) (b : Addr) : Option Obj := if b ∈ X then none else (h.get? b).filter seqO
abbrev VLe (V V' : Addr → Option Obj) : Prop := ∀ b o, V b = some o → V' b = some o
theorem vw_some {h : Heap} {X : List Addr} {b : Addr} {o : Obj} : vw h X b = some o ↔ b ∉ X ∧ h.get? b = some o ∧ seqO o = true := by
  unfold vw; by_cases hb : b ∈ X <;> simp [hb, Option.filter_eq_some_iff]
theorem vle {h h' : Heap} {X X' : List Addr} (hx : ∀ b ∈ X', b ∈ X ∨ NoSeq h b) (hk : ∀ b o, b ∉ X' → h.get? b = some o → h'.get? b = some o) : VLe (vw h X) (vw h' X') := by
  intro b o e
  obtain ⟨e1, e2, e3⟩ := vw_some.mp e
  have hb : b ∉ X' := fun hb => by
    rcases hx b hb with q | q
    · exact e1 q
    · rw [q o e2] at e3; cases e3
  exact vw_some.mpr ⟨hb, hk b o hb e2, e3⟩
/-- Y is changed: of it only X holds lists and tuples -/
theorem vleN {h h' : Heap} {X Y : List Addr} (hx : ∀ b ∈ Y, b ∈ X ∨ NoSeq h b) (hk : ∀ b o, b ∉ Y → h.get? b = some o → h'.get? b = some o) : VLe (vw h X) (vw h' X) := by
  intro b o e
  obtain ⟨e1, e2, e3⟩ := vw_some.mp e
  refine vw_some.mpr ⟨e1, hk b o (fun hb => ?_) e2, e3⟩
  rcases hx b hb with q | q
  · exact e1 q
  · rw [q o e2] at e3; cases e3
theorem VLe.trans {V V' V'' : Addr → Option Obj} (a : VLe V V') (b : VLe V' V'') : VLe V V'' := fun x o e => b x o (a x o e)
theorem vle_sub {h : Heap} {X X' : List Addr} (hx : ∀ b ∈ X, b ∈ X') : VLe (vw h X') (vw h X) := fun b o e => by
  obtain ⟨e1, e2⟩ := vw_some.mp e
  exact vw_some.mpr ⟨fun q => e1 (hx b q), e2⟩

mutual
inductive Has (V : Addr → Option Obj) : Value → Dat → Prop
  | none : Has V Value.none Dat.none
  | bool (b : Bool) : Has V (Value.bool b) (Dat.bool b)
  | int (i : Int) (t : Tok) : Has V (Value.int i t) (Dat.int i)
  | str (x : Str) (t : Tok) : Has V (Value.str x t) (Dat.str x)
  | bytes (b : Array UInt8) (t : Tok) : Has V (Value.bytes b t) (Dat.bytes b)
  | tup {a : Addr} {o : Obj} {vs : List Value} {n : Nat} {ds : List Dat} : V a = some o → o.cls = .type "tuple" → o.data = .seq vs.toArray n → HasAll V vs ds → Has V (Value.ref a) (Dat.tuple ds)
  | lst {a : Addr} {vs : List Value} {n : Nat} {ds : List Dat} : V a = some (listOf vs.toArray n) → HasAll V vs ds → Has V (Value.ref a) (Dat.list ds)
inductive HasAll (V : Addr → Option Obj) : List Value → List Dat → Prop
  | nil : HasAll V [] []
  | cons {v : Value} {vs : List Value} {d : Dat} {ds : List Dat} : Has V v d → HasAll V vs ds → HasAll V (v :: vs) (d :: ds)
end
mutual
theorem Has.mono {V V' : Addr → Option Obj} (k : VLe V V') : ∀ {v : Value} {d : Dat}, Has V v d → Has V' v d
  | _, _, .none => .none
  | _, _, .bool b => .bool b
  | _, _, .int i t => .int i t
  | _, _, .str x t => .str x t
  | _, _, .bytes b t => .bytes b t
  | _, _, .tup h c d r => .tup (k _ _ h) c d (HasAll.mono k r)
  | _, _, .lst h r => .lst (k _ _ h) (HasAll.mono k r)
theorem HasAll.mono {V V' : Addr → Option Obj} (k : VLe V V') : ∀ {vs : List Value} {ds : List Dat}, HasAll V vs ds → HasAll V' vs ds
  | _, _, .nil => .nil
  | _, _, .cons h r => .cons (Has.mono k h) (HasAll.mono k r)
end
section
variable {V : Addr → Option Obj} {v : Value} {d : Dat} {vs ws : List Value} {ds es : List Dat}
theorem HasAll.length : ∀ {vs : List Value} {ds : List Dat}, HasAll V vs ds → vs.length = ds.length
  | _, _, .nil => rfl
  | _, _, .cons _ r => congrArg (· + 1) r.length
theorem HasAll.append : ∀ {vs : List Value} {ds : List Dat}, HasAll V vs ds → HasAll V ws es → HasAll V (vs ++ ws) (ds ++ es)
  | _, _, .nil, k => k
  | _, _, .cons h r, k => .cons h (r.append k)
theorem HasAll.snoc (h : HasAll V vs ds) (k : Has V v d) : HasAll V (vs ++ [v]) (ds ++ [d]) := h.append (.cons k .nil)
theorem HasAll.get (h : HasAll V vs ds) {k : Nat} {v : Value} (hv : vs[k]? = some v) : ∃ d, ds[k]? = some d ∧ Has V v d := by
  induction vs generalizing ds k with
  | nil => cases hv
  | cons u vs ih =>
    cases h with
    | cons h r =>
      cases k with
      | zero => cases hv; exact ⟨_, rfl, h⟩
      | succ k => exact ih r hv
theorem HasAll.at (h : HasAll V vs ds) {k : Nat} {d : Dat} (hd : ds[k]? = some d) : ∃ v, vs[k]? = some v ∧ Has V v d := by
  induction vs generalizing ds k with
  | nil => cases h; cases hd
  | cons u vs ih =>
    cases h with
    | cons h r =>
      cases k with
      | zero => cases hd; exact ⟨_, rfl, h⟩
      | succ k => exact ih r hd
theorem HasAll.drop (h : HasAll V vs ds) : ∀ k, HasAll V (vs.drop k) (ds.drop k) := by
  intro k
  induction k generalizing vs ds with
  | zero => exact h
  | succ k ih => cases h with
    | nil => exact .nil
    | cons _ r => exact ih r
theorem HasAll.take (h : HasAll V vs ds) : ∀ k, HasAll V (vs.take k) (ds.take k) := by
  intro k
  induction k generalizing vs ds with
  | zero => exact .nil
  | succ k ih => cases h with
    | nil => exact .nil
    | cons h r => exact .cons h (ih r)
end

theorem Has.int_inv {V : Addr → Option Obj} {v : Value} {i : Int} (h : Has V v (.int i)) : ∃ t, v = .int i t := by cases h; exact ⟨_, rfl⟩
theorem Has.str_inv {V : Addr → Option Obj} {v : Value} {i : Str} (h : Has V v (.str i)) : ∃ t, v = .str i t := by cases h; exact ⟨_, rfl⟩
theorem Has.lst_inv {V : Addr → Option Obj} {v : Value} {ds : List Dat} (h : Has V v (.list ds)) : ∃ a vs n, v = .ref a ∧ V a = some (listOf vs.toArray n) ∧ HasAll V vs ds := by cases h; exact ⟨_, _, _, rfl, ‹_›, ‹_›⟩
theorem Has.tup_inv {V : Addr → Option Obj} {v : Value} {ds : List Dat} (h : Has V v (.tuple ds)) : ∃ a o vs n, v = .ref a ∧ V a = some o ∧ o.cls = .type "tuple" ∧ o.data = .seq vs.toArray n ∧ HasAll V vs ds := by
  cases h; exact ⟨_, _, _, _, rfl, ‹_›, ‹_›, ‹_›, ‹_›⟩

/-- what a piece of a run may change: the addresses X, and what it makes anew -/
structure Chw (X : List Addr) (s s' : Shared) : Prop where
  os : s'.os = s.os
  bare : AllBare s.gens → AllBare s'.gens
  keep : ∀ b o, b ∉ X → s.heap.get? b = some o → s'.heap.get? b = some o
/-- and what stood stands -/
structure Chg (X : List Addr) (s s' : Shared) : Prop extends Chw X s s' where
  dom : ∀ b, s.heap.get? b ≠ none → s'.heap.get? b ≠ none
theorem Chg.mk4 {X : List Addr} {s s' : Shared} (a : s'.os = s.os) (b : AllBare s.gens → AllBare s'.gens) (c : ∀ b o, b ∉ X → s.heap.get? b = some o → s'.heap.get? b = some o) (d : ∀ b, s.heap.get? b ≠ none → s'.heap.get? b ≠ none) : Chg X s s' := ⟨⟨a, b, c⟩, d⟩
theorem Chw.weaken {X Y : List Addr} {s s' : Shared} (a : Chw X s s') (h : ∀ b ∈ X, b ∈ Y) : Chw Y s s' := ⟨a.os, a.bare, fun x o hx e => a.keep x o (fun q => hx (h _ q)) e⟩
theorem Chw.trans {X : List Addr} {s s' s'' : Shared} (a : Chw X s s') (b : Chw X s' s'') : Chw X s s'' :=
  ⟨b.os.trans a.os, fun h => b.bare (a.bare h), fun x o hx e => b.keep x o hx (a.keep x o hx e)⟩
theorem Chw.vle {X : List Addr} {s s' : Shared} (a : Chw X s s') : VLe (vw s.heap X) (vw s'.heap X) := Mine.vle (fun _ h => .inl h) a.keep
theorem Chw.vle' {X Y : List Addr} {s s' : Shared} (a : Chw Y s s') (h : ∀ b ∈ Y, b ∈ X) : VLe (vw s.heap X) (vw s'.heap X) := (a.weaken h).vle
/-- if what is changed did not stand at the start -/
theorem Chw.shrink {X Y : List Addr} {s s' : Shared} (a : Chw X s s') (h : ∀ b ∈ X, b ∈ Y ∨ s.heap.get? b = none) (hY : ∀ b ∈ Y, s.heap.get? b ≠ none → s'.heap.get? b ≠ none) : Chg Y s s' := by
  have k : ∀ b o, b ∉ Y → s.heap.get? b = some o → s'.heap.get? b = some o := fun b o hb e => a.keep b o (fun q => by rcases h b q with r | r; exact hb r; rw [r] at e; cases e) e
  refine .mk4 a.os a.bare k fun b e => ?_
  by_cases hb : b ∈ Y
  · exact hY b hb e
  · cases q : s.heap.get? b with
    | none => exact absurd q e
    | some o => rw [k b o hb q]; exact nofun
theorem Chg.refl (X : List Addr) (s : Shared) : Chg X s s := .mk4 rfl id (fun _ _ _ e => e) (fun _ e => e)
theorem Chg.trans {X : List Addr} {s s' s'' : Shared} (a : Chg X s s') (b : Chg X s' s'') : Chg X s s'' :=
  .mk4 (b.os.trans a.os) (fun h => b.bare (a.bare h)) (fun x o hx e => b.keep x o hx (a.keep x o hx e)) (fun x e => b.dom x (a.dom x e))
theorem Chg.weaken {X Y : List Addr} {s s' : Shared} (a : Chg X s s') (h : ∀ b ∈ X, b ∈ Y) : Chg Y s s' := ⟨a.toChw.weaken h, a.dom⟩
theorem Chg.nil {X : List Addr} {s s' : Shared} (a : Chg [] s s') : Chg X s s' := a.weaken fun _ h => by cases h
theorem Chg.kp {s s' : Shared} (a : Chg [] s s') : HLe s.heap s'.heap := fun b o e => a.keep b o List.not_mem_nil e
theorem Chg.toks {X : List Addr} {s : Shared} {t : Nat} : Chg X s { s with toks := t } := .mk4 rfl id (fun _ _ _ e => e) (fun _ e => e)
theorem Chg.of_le {X : List Addr} {s : Shared} {h : Heap} {t : Nat} (k : HLe s.heap h) : Chg X s { s with heap := h, toks := t } :=
  .mk4 rfl id (fun b o _ e => k b o e) (fun b e => by
    cases q : s.heap.get? b with
    | none => exact absurd q e
    | some o => show h.get? b ≠ none; rw [k b o q]; exact nofun)
theorem Chg.push {X : List Addr} {s : Shared} {o : Obj} {t : Nat} : Chg X s { s with heap := s.heap.push o, toks := t } := .of_le fun _ _ e => Heap.get?_push_of_some _ e
theorem Chg.same {a : Addr} {s : Shared} {h : Heap} {t : Nat} {o : Obj} (k : Heap.SameBut a s.heap h) (ha : h.get? a = some o) : Chg [a] s { s with heap := h, toks := t } :=
  .mk4 rfl id (fun b o hb e => k.extBut b o (fun q => hb (q ▸ List.mem_singleton_self _)) e) (fun b e => by
    by_cases q : b = a
    · subst q; show h.get? b ≠ none; rw [ha]; exact nofun
    · show h.get? b ≠ none; rw [k.2 b q]; exact e)
/-- if an address of X is given up that did not stand at the start -/
theorem Chg.shrink {X Y : List Addr} {s s' : Shared} (a : Chg X s s') (h : ∀ b ∈ X, b ∈ Y ∨ s.heap.get? b = none) : Chg Y s s' :=
  .mk4 a.os a.bare (fun b o hb e => a.keep b o (fun q => by rcases h b q with r | r; exact hb r; rw [r] at e; cases e) e) a.dom
theorem Chg.vle {X : List Addr} {s s' : Shared} (a : Chg X s s') : VLe (vw s.heap X) (vw s'.heap X) := Mine.vle (fun _ h => .inl h) a.keep
theorem Chg.vleN {X Y : List Addr} {s s' : Shared} (a : Chg Y s s') (h : ∀ b ∈ Y, b ∈ X ∨ NoSeq s.heap b) : VLe (vw s.heap X) (vw s'.heap X) := Mine.vleN h a.keep
theorem Chg.vle' {X Y : List Addr} {s s' : Shared} (a : Chg Y s s') (h : ∀ b ∈ Y, b ∈ X) : VLe (vw s.heap X) (vw s'.heap X) := (a.weaken h).vle

noncomputable def Dom (X : List Addr) (h : Heap) : Prop := ∀ b ∈ X, h.get? b ≠ none
theorem Dom.chg {X Y : List Addr} {s s' : Shared} (d : Dom X s.heap) (a : Chg Y s s') : Dom X s'.heap := fun b hb => a.dom b (d b hb)
theorem Dom.cons {X : List Addr} {a : Addr} {h : Heap} (d : Dom X h) (e : h.get? a ≠ none) : Dom (a :: X) h := fun b hb => by
  rcases List.mem_cons.mp hb with rfl | q
  · exact e
  · exact d b q
theorem Dom.fresh {X : List Addr} {h : Heap} (d : Dom X h) : h.objs.size ∉ X := fun q => by
  have := d _ q
  cases e : h.get? h.objs.size with
  | none => exact this e
  | some o => exact absurd (Heap.lt_size e) (Nat.lt_irrefl _)
theorem get_size_none (h : Heap) : h.get? h.objs.size = none := by
  cases e : h.get? h.objs.size with
  | none => rfl
  | some o => exact absurd (Heap.lt_size e) (Nat.lt_irrefl _)
theorem ne_none_of {h : Heap} {a : Addr} {o : Obj} (e : h.get? a = some o) : h.get? a ≠ none := by rw [e]; exact nofun
theorem ns_dom {h : Heap} {a : Addr} {m : Str → Option Value} (n : h.Ns a m) : h.get? a ≠ none := by obtain ⟨o, _, _, e, _⟩ := n; exact ne_none_of e

/-- in a def's frame L, entered at s₀ -/
structure Cx (s₀ : Shared) (L : Addr) (m : Str → Option Value) (s : Shared) : Prop where
  ns : s.heap.Ns L m
  chg : Chg [] s₀ s
  new : s₀.heap.get? L = none
theorem Cx.go {s₀ s s' : Shared} {L : Addr} {m : Str → Option Value} {X : List Addr} (c : Cx s₀ L m s) (a : Chw X s s') (hL : L ∉ X) (hX : ∀ b ∈ X, s₀.heap.get? b = none) : Cx s₀ L m s' :=
  ⟨c.ns.at' fun o e => a.keep _ o hL e, Chw.shrink (X := X) ⟨a.os.trans c.chg.os, fun h => a.bare (c.chg.bare h), fun b o hb e => a.keep b o hb (c.chg.kp b o e)⟩ (fun b hb => .inr (hX b hb)) (fun _ h => by cases h), c.new⟩
theorem Cx.on {s₀ s s' : Shared} {L : Addr} {m : Str → Option Value} (c : Cx s₀ L m s) (a : Chg [] s s') : Cx s₀ L m s' := c.go a.toChw List.not_mem_nil fun _ h => by cases h
theorem Cx.dom {s₀ s : Shared} {L : Addr} {m : Str → Option Value} (c : Cx s₀ L m s) {X : List Addr} (d : Dom X s₀.heap) : Dom (L :: X) s.heap := (d.chg c.chg).cons (ns_dom c.ns)

noncomputable def upd (m : Str → Option Value) (x : Str) (v : Value) : Str → Option Value := fun y => if y = x then some v else m y
theorem upd_eq {m : Str → Option Value} {x : Str} {v : Value} : upd m x v x = some v := if_pos rfl
theorem upd_ne {m : Str → Option Value} {x y : Str} {v : Value} {r : Option Value} (h : y ≠ x) (k : m y = r) : upd m x v y = r := (if_neg h).trans k

section
variable {prog : Program} {w : World} {A : Around} {s s₀ : Shared} {env : Env} {m : Str → Option Value}

theorem ok_any {α : Type} {t : Sem α} {Q : α → Shared → Prop} {E : Value → Shared → Prop} {s : Shared} (h : wpAny (model prog w) A t Q No s) : wpAny (model prog w) A t Q E s := wpAny_mono h (fun _ _ x => x) fun _ _ x => x.elim
/-- a local name -/
theorem nL {x : Str} {pos : Pos} {v : Value} {Q : Value → Shared → Prop} {E : Value → Shared → Prop} (c : Cx s₀ env.locals m s) (hv : m x = some v) (h : Q v s)
    (hk : env.scope.kind = .function := by rfl) (hl : env.kindOf x = some .local := by rfl) (hd : (x == ("__debug__" : Str)) = false := by decide) :
    wpAny (model prog w) A (eval (.Name x pos) env) Q E s := wpAny_Name (wpAny_loadName_local hk hl c.ns hv h) hd
theorem lL {x : Str} {v : Value} {Q : Value → Shared → Prop} {E : Value → Shared → Prop} (c : Cx s₀ env.locals m s) (hv : m x = some v) (h : Q v s)
    (hk : env.scope.kind = .function := by rfl) (hl : env.kindOf x = some .local := by rfl) :
    wpAny (model prog w) A (loadName env x) Q E s := wpAny_loadName_local hk hl c.ns hv h
theorem sL {x : Str} {v : Value} {Q : Unit → Shared → Prop} {E : Value → Shared → Prop} (c : Cx s₀ env.locals m s)
    (h : ∀ s', Chg [env.locals] s s' → (∀ X, VLe (vw s.heap X) (vw s'.heap X)) → Cx s₀ env.locals (upd m x v) s' → Q () s')
    (hk : env.scope.kind = .function := by rfl) (hl : env.kindOf x = some .local := by rfl) :
    wpAny (model prog w) A (storeName env x v) Q E s := by
  refine wpAny_storeName_local hl c.ns (fun h' hn hs => ?_) (by rw [hk]; rfl)
  obtain ⟨o, es, ep, ho, r⟩ := id hn
  have a : Chg [env.locals] s { s with heap := h', toks := s.toks + 1 } := .same hs ho
  refine h _ a (fun X => a.vleN fun b hb => .inr (by rw [List.mem_singleton.mp hb]; exact .of_ns c.ns)) ⟨hn, ?_, c.new⟩
  exact .mk4 c.chg.os c.chg.bare (fun b o _ e => a.keep b o (fun q => by rw [List.mem_singleton.mp q, c.new] at e; cases e) (c.chg.kp b o e)) (fun b e => a.dom b (c.chg.dom b e))
theorem aL {x : Str} {pos : Pos} {v : Value} {Q : Unit → Shared → Prop} {E : Value → Shared → Prop} (c : Cx s₀ env.locals m s)
    (h : ∀ s', Chg [env.locals] s s' → (∀ X, VLe (vw s.heap X) (vw s'.heap X)) → Cx s₀ env.locals (upd m x v) s' → Q () s')
    (hk : env.scope.kind = .function := by rfl) (hl : env.kindOf x = some .local := by rfl) :
    wpAny (model prog w) A (assign (.Name x pos) env v) Q E s := assign_Name (sL c h hk hl)
end

end Mine

end
section
-- B2
open PySem PySem.W PyProof.Rows PySem.Calls
namespace Mine
set_option maxRecDepth 100000

/-- an iterator I that hands out data ds to the target; it writes wr, it leans on fp; X: what else may turn meanwhile -/
structure Its (prog : Program) (w : World) (A : Around) (target : Expr) (X : List Addr) (V : Addr → Option Obj) (I : Addr) (fp wr : List Addr) (ds : List Dat) (Md : Nat → Value → Heap → Prop) (St : Nat → Heap → Prop) : Prop where
  sub : ∀ b ∈ wr, b ∈ fp
  frame : ∀ i h h', St i h → (∀ b ∈ fp, ∀ o, h.get? b = some o → h'.get? b = some o) → St i h'
  dom : ∀ i h, St i h → Dom wr h
  item : ∀ i (s : Shared) (Q : Option Value → Shared → Prop) (E : Value → Shared → Prop), i < ds.length → St i s.heap → Dom X s.heap → VLe V (vw s.heap (wr ++ X)) →
    (∀ v d s', ds[i]? = some d → Md i v s'.heap → Has (vw s'.heap (wr ++ X)) v d → Chg wr s s' → Q (some v) s') → wpAny (model prog w) A (pyNext (.ref I)) Q E s
  go : ∀ i v (s : Shared) (Q : Unit → Shared → Prop) (E : Value → Shared → Prop), Md i v s.heap → (∀ s', St (i + 1) s'.heap → Chg wr s s' → Q () s') → wpAny (model prog w) A (letOwnedTupleGo target (.ref I) v) Q E s
  done : ∀ (s : Shared) (Q : Option Value → Shared → Prop) (E : Value → Shared → Prop), St ds.length s.heap → (∀ s', Chw wr s s' → Q none s') → wpAny (model prog w) A (pyNext (.ref I)) Q E s
  self : ∀ i (s : Shared) (Q : Value → Shared → Prop) (E : Value → Shared → Prop), St i s.heap → Q (.ref I) s → wpAny (model prog w) A (pyIter (.ref I)) Q E s

theorem chg_wr {wr : List Addr} {s : Shared} {h' : Heap} {tk : Nat} (k : ∀ b o, b ∉ wr → s.heap.get? b = some o → h'.get? b = some o) (d : Dom wr h') : Chg wr s { s with heap := h', toks := tk } :=
  .mk4 rfl id k (fun b e => by
    by_cases hb : b ∈ wr
    · exact d b hb
    · cases q : s.heap.get? b with
      | none => exact absurd q e
      | some o => exact ne_none_of (k b o hb q))

section
variable {prog : Program} {w : World} {A : Around} {target : Expr} {X : List Addr} {V : Addr → Option Obj} {I : Addr} {fp wr : List Addr} {ds : List Dat}

theorem Its.ofWalks {n : Nat} {P : Nat → Value → Prop} {St : Nat → Heap → Prop} (W : Walks prog w A I fp wr n P St) (hn : n = ds.length) (hdom : ∀ i h, St i h → Dom wr h)
    (conv : ∀ i v (V' : Addr → Option Obj), P i v → VLe V V' → ∃ d, ds[i]? = some d ∧ Has V' v d)
    (hgo : ∀ i v (s : Shared) (Q : Unit → Shared → Prop) (E : Value → Shared → Prop), St i s.heap → Q () s → wpAny (model prog w) A (letOwnedTupleGo target (.ref I) v) Q E s) :
    Its prog w A target X V I fp wr ds (fun i _ h => St (i + 1) h) St where
  sub := W.sub
  frame := W.frame
  dom := hdom
  item := fun i s Q E hi st _ hv hQ => W.item i s Q E (hn ▸ hi) st fun v h' tk hP st' hk => by
    have a : Chg wr s { s with heap := h', toks := tk } := chg_wr hk (hdom _ _ st')
    obtain ⟨d, hd, hh⟩ := conv i v _ hP (hv.trans (a.vle' fun b hb => List.mem_append_left X hb))
    exact hQ v d _ hd st' hh a
  go := fun i v s Q E hm hQ => hgo (i + 1) v s Q E hm (hQ s hm (.refl _ _))
  done := fun s Q E st hQ => W.done s Q E (hn ▸ st) fun h' tk hk => hQ _ ⟨rfl, id, hk⟩
  self := W.self

theorem Its.ofWalksT {n : Nat} {elts : List Expr} {k : Nat} {pos : Pos} {Pt : Nat → Array Value → Prop} {St : Nat → Heap → Prop} {Mid : Nat → Addr → Heap → Prop} (W : WalksT prog w A I fp wr n Pt St Mid) (hn : n = ds.length) (hdom : ∀ i h, St i h → Dom wr h) (mdom : ∀ i T h, Mid i T h → Dom wr h)
    (conv : ∀ i vals (V' : Addr → Option Obj), Pt i vals → VLe V V' → ∃ es, ds[i]? = some (.tuple es) ∧ HasAll V' vals.toList es) :
    Its prog w A (.Tuple elts k pos) X V I fp wr ds (fun i v h => ∃ T, v = .ref T ∧ Mid i T h) St where
  sub := W.sub
  frame := W.frame
  dom := hdom
  item := fun i s Q E hi st hX hv hQ => W.item i s Q E (hn ▸ hi) st fun T vals h' tk hP hT hTup hm hk => by
    have a : Chg wr s { s with heap := h', toks := tk } := chg_wr hk (mdom _ _ _ hm)
    obtain ⟨es, hd, hh⟩ := conv i vals _ hP (hv.trans (a.vle' fun b hb => List.mem_append_left X hb))
    obtain ⟨o, ho, hc, n, hdat⟩ := hTup
    have hTX : T ∉ wr ++ X := fun q => by
      rcases List.mem_append.mp q with q | q
      · exact W.apart i T h' hm q
      · cases e : s.heap.get? T with
        | none => exact hX T q e
        | some o' => exact absurd (Heap.lt_size e) (Nat.not_lt.mpr hT)
    exact hQ (.ref T) (.tuple es) _ hd ⟨T, rfl, hm⟩ (.tup (vw_some.mpr ⟨hTX, ho, by unfold seqO; rw [hdat]⟩) hc (by rw [hdat]) hh) a
  go := fun i v s Q E hm hQ => by
    obtain ⟨T, rfl, hm⟩ := hm
    exact W.go elts k pos i T s Q E hm fun h' st hk => hQ _ st (chg_wr (tk := s.toks) hk (hdom _ _ st))
  done := fun s Q E st hQ => W.done s Q E (hn ▸ st) fun h' tk hk => hQ _ ⟨rfl, id, hk⟩
  self := W.self

/-- an iterator made from state s₁ on, at s₂; X: what may turn of what stood at s₁ -/
noncomputable def ItsAt (prog : Program) (w : World) (A : Around) (target : Expr) (X : List Addr) (s₁ : Shared) (it : Value) (s₂ : Shared) (ds : List Dat) : Prop :=
  ∃ I fp wr Md St, it = .ref I ∧ (∀ X', Its prog w A target X' (vw s₁.heap X) I fp wr ds Md St) ∧ St 0 s₂.heap ∧ Chg [] s₁ s₂ ∧ (∀ b ∈ wr, s₁.heap.get? b = none) ∧ ∀ b ∈ fp, b ∉ X ∧ s₂.heap.get? b ≠ none
theorem ItsAt.on {s₁ s₂ s₃ : Shared} {it : Value} (h : ItsAt prog w A target X s₁ it s₂ ds) (a : Chg [] s₂ s₃) : ItsAt prog w A target X s₁ it s₃ ds := by
  obtain ⟨I, fp, wr, Md, St, e, W, hst, hc, hwr, hfp⟩ := h
  exact ⟨I, fp, wr, Md, St, e, W, (W X).frame _ _ _ hst fun b _ o x => a.kp b o x, hc.trans a, hwr, fun b hb => ⟨(hfp b hb).1, a.dom b (hfp b hb).2⟩⟩
theorem ItsAt.self {s₁ s₂ : Shared} {it : Value} {Q : Value → Shared → Prop} {E : Value → Shared → Prop} (h : ItsAt prog w A target X s₁ it s₂ ds) (q : Q it s₂) : wpAny (model prog w) A (pyIter it) Q E s₂ := by
  obtain ⟨I, fp, wr, Md, St, rfl, W, hst, _⟩ := h
  exact (W X).self 0 s₂ Q E hst q
theorem ItsAt.chg {s₁ s₂ : Shared} {it : Value} (h : ItsAt prog w A target X s₁ it s₂ ds) : Chg [] s₁ s₂ := by obtain ⟨I, fp, wr, Md, St, rfl, W, hst, hc, _⟩ := h; exact hc

/-- what is known as a turn's body begins; X: what the body may turn; H: what data may not lean on -/
structure Turn (H X : List Addr) (s₁ : Shared) (ds : List Dat) (J : List Addr → Nat → Shared → Prop) (X' : List Addr) (i : Nat) (d : Dat) (v : Value) (s : Shared) : Prop where
  sub : ∀ b ∈ H, b ∈ X'
  fresh : ∀ b ∈ X', b ∈ H ∨ s₁.heap.get? b = none
  dom : Dom X' s.heap
  item : ds[i]? = some d
  inv : J X' i s
  chgW : ∃ W, (∀ b ∈ W, s₁.heap.get? b = none) ∧ (∀ b ∈ W, b ∈ X') ∧ Chg (W ++ X) s₁ s
  has : Has (vw s.heap X') v d
  xh : ∀ b ∈ X, b ∈ H
theorem Turn.chg {H X : List Addr} {s₁ : Shared} {ds : List Dat} {J : List Addr → Nat → Shared → Prop} {X' : List Addr} {i : Nat} {d : Dat} {v : Value} {s : Shared} (T : Turn H X s₁ ds J X' i d v s) : Chg X' s₁ s := by
  obtain ⟨W, _, h2, h3⟩ := T.chgW
  exact h3.weaken fun b hb => (List.mem_append.mp hb).elim (h2 b) fun q => T.sub b (T.xh b q)
structure Last (H X : List Addr) (s₁ : Shared) (n : Nat) (J : List Addr → Nat → Shared → Prop) (X' : List Addr) (s : Shared) : Prop where
  sub : ∀ b ∈ H, b ∈ X'
  fresh : ∀ b ∈ X', b ∈ H ∨ s₁.heap.get? b = none
  inv : J X' n s
  chg : Chg X s₁ s

/-- Y: made behind the iterator, turned meanwhile -/
theorem turns {H : List Addr} {s₁ s₂ s₃ : Shared} {it : Value} (Y : List Addr) (J : List Addr → Nat → Shared → Prop)
    (hit : ItsAt prog w A target H s₁ it s₂ ds) (hH : Dom H s₁.heap) (xh : ∀ b ∈ X, b ∈ H) (hY : ∀ b ∈ Y, s₂.heap.get? b = none) (h23 : Chg [] s₂ s₃) (dY : Dom Y s₃.heap)
    (h0 : ∀ X', (∀ b ∈ Y ++ H, b ∈ X') → (∀ b ∈ X', b ∈ Y ++ H ∨ s₁.heap.get? b = none) → J X' 0 s₃)
    (stab : ∀ X' Z i s s', (∀ b ∈ Z, b ∈ X') → (∀ b ∈ Z, b ∉ Y ++ H) → (∀ b ∈ Z, s₁.heap.get? b = none) → J X' i s → Chw Z s s' → J X' i s') :
    ∃ (inv : Nat → Shared → Prop) (n₀ : Nat), inv n₀ s₃ ∧ ∀ k s, inv k s → ∀ E, wpAny (model prog w) A (pyNext it) (fun r s' => match r with
      | none => ∃ X', Last (Y ++ H) (Y ++ X) s₁ ds.length J X' s'
      | some v => ∀ E, wpAny (model prog w) A (letOwnedTupleGo target it v) (fun _ s'' => ∃ X' i d, Turn (Y ++ H) (Y ++ X) s₁ ds J X' i d v s'' ∧ ∀ s₄, J X' (i + 1) s₄ → Chg (Y ++ X) s'' s₄ → ∃ m, m < k ∧ inv m s₄) E s') E s := by
  obtain ⟨I, fp, wr, Md, St, rfl, W, hst, hc, hwr, hfp⟩ := hit
  have W := W (Y ++ H)
  have n1 : ∀ b ∈ Y, s₁.heap.get? b = none := fun b hb => by
    cases e : s₁.heap.get? b with
    | none => rfl
    | some o => have := hc.kp b o e; rw [hY b hb] at this; cases this
  have m1 : ∀ b ∈ Y ++ H, b ∈ wr ++ (Y ++ H) := fun b hb => List.mem_append_right _ hb
  have m2 : ∀ b ∈ wr ++ (Y ++ H), b ∈ Y ++ H ∨ s₁.heap.get? b = none := fun b hb => (List.mem_append.mp hb).symm.imp id (hwr b)
  have m3 : ∀ b ∈ wr ++ (Y ++ H), b ∈ H ∨ s₁.heap.get? b = none := fun b hb => (m2 b hb).elim (fun q => (List.mem_append.mp q).symm.imp id (n1 b)) .inr
  have mw : ∀ b ∈ wr, b ∈ wr ++ (Y ++ H) := fun b hb => List.mem_append_left _ hb
  have xh' : ∀ b ∈ Y ++ X, b ∈ Y ++ H := fun b hb => (List.mem_append.mp hb).elim (List.mem_append_left _) fun q => List.mem_append_right _ (xh b q)
  have xb : ∀ b ∈ wr ++ (Y ++ X), b ∈ wr ++ (Y ++ H) := fun b hb => (List.mem_append.mp hb).elim (List.mem_append_left _) fun q => List.mem_append_right _ (xh' b q)
  have nfp : ∀ b ∈ fp, b ∉ Y ++ H := fun b hb q => by
    rcases List.mem_append.mp q with q | q
    · exact (hfp b hb).2 (hY b q)
    · exact (hfp b hb).1 q
  refine ⟨fun k s => ∃ i, St i s.heap ∧ J (wr ++ (Y ++ H)) i s ∧ Chg (wr ++ (Y ++ X)) s₁ s ∧ Dom Y s.heap ∧ i ≤ ds.length ∧ k = ds.length + 1 - i, ds.length + 1,
    ⟨0, W.frame _ _ _ hst fun b _ o x => h23.kp b o x, h0 _ m1 m2, (hc.trans h23).nil, dY, Nat.zero_le _, rfl⟩, ?_⟩
  rintro k s ⟨i, hst, hJ, hch, hdY, hi, rfl⟩ E
  have hdX : Dom (Y ++ H) s.heap := fun b hb => (List.mem_append.mp hb).elim (hdY b) ((hH.chg hch) b)
  by_cases hlt : i < ds.length
  · refine W.item i s _ _ hlt hst hdX (Mine.vle (fun b hb => (m3 b hb).imp id .of_none) (hch.weaken xb).keep) fun v d s' hd hm hh a E' => ?_
    refine W.go i v s' _ _ hm fun s'' hst'' a' => ?_
    have a2 : Chg wr s s'' := a.trans a'
    have hch2 : Chg (wr ++ (Y ++ X)) s₁ s'' := hch.trans (a2.weaken fun b hb => List.mem_append_left _ hb)
    have hdX' : Dom (wr ++ (Y ++ H)) s''.heap := fun b hb => by
      rcases List.mem_append.mp hb with q | q
      · exact W.dom _ _ hst'' b q
      · exact (hdX.chg a2) b q
    refine ⟨wr ++ (Y ++ H), i, d, ⟨m1, m2, hdX', hd, stab _ wr i s s'' mw (fun b hb => nfp b (W.sub b hb)) hwr hJ a2.toChw, ⟨wr, hwr, mw, hch2⟩, hh.mono (a'.vle' mw), xh'⟩, fun s₄ hJ4 hc4 => ?_⟩
    exact ⟨ds.length + 1 - (i + 1), by omega, i + 1, W.frame _ _ _ hst'' (fun b hb o e => hc4.keep b o (fun q => nfp b hb (xh' b q)) e), hJ4, hch2.trans (hc4.weaken fun b hb => List.mem_append_right _ hb), fun b hb => hc4.dom b (hdX' b (m1 b (List.mem_append_left _ hb))), hlt, rfl⟩
  · have hin : i = ds.length := by omega
    subst hin
    refine W.done s _ _ hst fun s' a => ⟨wr ++ (Y ++ H), m1, m2, stab _ wr _ s s' mw (fun b hb => nfp b (W.sub b hb)) hwr hJ a, ?_⟩
    exact Chw.shrink (X := wr ++ (Y ++ X)) (hch.toChw.trans (a.weaken fun b hb => List.mem_append_left _ hb)) (fun b hb => (List.mem_append.mp hb).symm.imp id (hwr b)) fun b hb e => by
      have q := hch.dom b e
      cases e' : s.heap.get? b with
      | none => exact absurd e' q
      | some o =>
        refine ne_none_of (a.keep b o (fun hw => ?_) e')
        rw [hwr b hw] at e; exact e rfl

/-- a for, by an invariant J of the turn's number -/
theorem forR {body : List Stmt} {env : Env} {s₁ s₂ : Shared} {it : Value} {R : Flow → Shared → Prop} (J : List Addr → Nat → Shared → Prop)
    (hit : ItsAt prog w A target X s₁ it s₂ ds) (hX : Dom X s₁.heap) (h0 : ∀ X', (∀ b ∈ X, b ∈ X') → (∀ b ∈ X', b ∈ X ∨ s₁.heap.get? b = none) → J X' 0 s₂)
    (stab : ∀ X' Z i s s', (∀ b ∈ Z, b ∈ X') → (∀ b ∈ Z, b ∉ X) → (∀ b ∈ Z, s₁.heap.get? b = none) → J X' i s → Chw Z s s' → J X' i s')
    (step : ∀ X' i d v s, Turn X X s₁ ds J X' i d v s →
      wpAny (model prog w) A (assign target env v) (fun _ s₃ => wpAny (model prog w) A (execs body env) (fun f s₄ => match f with
        | .next | .cont => J X' (i + 1) s₄ ∧ Chg X s s₄
        | .brk => R .next s₄
        | .ret v => R (.ret v) s₄) No s₃) No s)
    (fin : ∀ X' s, Last X X s₁ ds.length J X' s → R .next s) :
    codeAny (model prog w) A (.forLoop target it body [] env) (fun r s' => match r with | .ok f => R f s' | .error _ => False) s₂ := by
  obtain ⟨inv, n₀, h0, turn⟩ := turns [] J hit hX (fun _ h => h) (fun _ h => by cases h) (.refl _ _) (fun _ h => by cases h) h0 stab
  refine codeAny_forLoop_any inv (fun k s hI => ?_) n₀ h0
  refine wpAny_mono (turn k s hI _) (fun r s' hr => ?_) fun _ _ x => x
  cases r with
  | none => obtain ⟨X', hl⟩ := hr; exact wpAny_execs_nil (fin X' _ hl)
  | some v =>
    refine wpAny_mono (hr _) (fun _ s'' h'' => ?_) fun _ _ x => x
    obtain ⟨X', i, d, T, nxt⟩ := h''
    refine wpAny_mono (step X' i d v s'' T) (fun _ s₃ h₃ => wpAny_mono h₃ (fun f s₄ h₄ => ?_) fun _ _ x => x.elim) fun _ _ x => x.elim
    cases f with
    | next => exact nxt s₄ h₄.1 h₄.2
    | cont => exact nxt s₄ h₄.1 h₄.2
    | brk => exact h₄
    | ret v => exact h₄
end
end Mine

end
section
-- B3
open PySem PySem.W PyProof.Rows PySem.Calls
namespace Mine
set_option maxRecDepth 100000
section
variable {prog : Program} {w : World} {A : Around} {X : List Addr} {ds : List Dat} {s : Shared} {Q : Value → Shared → Prop} {E : Value → Shared → Prop}

theorem go_name {x : Str} {pos : Pos} {it v : Value} {s : Shared} {Q : Unit → Shared → Prop} {E : Value → Shared → Prop} (h : Q () s) : wpAny (model prog w) A (letOwnedTupleGo (.Name x pos) it v) Q E s := wpAny_pure h
/-- where the iterator keeps no tuple of its own -/
theorem go_plain {target : Expr} {I : Addr} {v : Value} {s : Shared} {o : Obj} {T : String} {Q : Unit → Shared → Prop} {E : Value → Shared → Prop} (ho : s.heap.get? I = some o) (hc : o.cls = .type T)
    (hT : (["enumerate", "zip", "dict_itemiterator", "dict_reverseitemiterator", "odict_iterator", "itertools.zip_longest", "itertools.pairwise"] : List String).contains T = false) (h : Q () s) :
    wpAny (model prog w) A (letOwnedTupleGo target (.ref I) v) Q E s := by
  have key : ∀ elts : List Expr, wpAny (model prog w) A (do
      let (.ref r, .ref a) := ((Value.ref I), v) | return
      let o ← load r
      match o.cls, o.data with
      | .type n, .fields vs =>
        if (["enumerate", "zip", "dict_itemiterator", "dict_reverseitemiterator", "odict_iterator", "itertools.zip_longest", "itertools.pairwise"] : List String).contains n && vs[0]? == some (rawInt a) then
          rule "for.unpacks-the-owned-tuple"
          updateField r 0 .none
      | _, _ => pure ()) Q E s := by
    intro _
    cases v with
    | ref a =>
      refine wpAny_bind (wpAny_load ho ?_)
      rw [hc]
      cases hd : o.data with
      | fields vs =>
        dsimp only
        rw [if_neg (by rw [hT]; simp)]
        exact wpAny_pure h
      | _ => exact wpAny_pure h
    | _ => exact wpAny_pure h
  unfold letOwnedTupleGo
  split
  · exact key []
  · exact key []
  · exact wpAny_pure h

theorem iter_list {target : Expr} {v : Value} (hh : A.handled = none) (hX : Dom X s.heap) (hv : Has (vw s.heap X) v (.list ds)) (h : ∀ it s', ItsAt prog w A target X s it s' ds → Q it s') :
    wpAny (model prog w) A (pyIter v) Q E s := by
  obtain ⟨a, vs, n, rfl, hV, hA⟩ := hv.lst_inv
  obtain ⟨haX, ha, _⟩ := vw_some.mp hV
  have hl : s.heap.IsList a vs.toArray := ⟨_, ha, rfl, n, rfl⟩
  refine wpAny_pyIter_list hl (h _ _ ?_)
  have hne : a ≠ s.heap.objs.size := Nat.ne_of_lt (Heap.lt_size ha)
  have hI : (s.heap.push { cls := .type "list_iterator", data := .fields #[.ref a, .int 0 0] }).IsListIter s.heap.objs.size a 0 := ⟨_, Heap.get?_push_size _ rfl, rfl, rfl⟩
  refine ⟨s.heap.objs.size, [s.heap.objs.size, a], [s.heap.objs.size], _, _, rfl, fun X' =>
    Its.ofWalks (Walks.list hh s.heap.objs.size a hne vs.toArray) (by simpa using hA.length) (fun i h st b hb => by rw [List.mem_singleton.mp hb]; obtain ⟨o, ho, _⟩ := st.1; exact ne_none_of ho) ?_ ?_, ⟨hI, hl.push _⟩, .push, ?_, ?_⟩
  · intro i v V' hP hV
    have hP' : vs[i]? = some v := by simpa using hP
    obtain ⟨d, hd, hh⟩ := hA.get hP'
    exact ⟨d, hd, hh.mono hV⟩
  · intro i v s' Q E st hQ
    obtain ⟨o, ho, hc, _⟩ := st.1
    exact go_plain ho hc (by decide) hQ
  · intro b hb; rw [List.mem_singleton.mp hb]; exact get_size_none _
  · intro b hb
    rcases List.mem_cons.mp hb with rfl | hb
    · exact ⟨hX.fresh, ne_none_of (Heap.get?_push_size _ rfl)⟩
    · rw [List.mem_singleton.mp hb]; exact ⟨haX, ne_none_of (Heap.get?_push_of_some _ ha)⟩

/-- the ints of a range -/
noncomputable def rng (a c : Int) (n : Nat) : List Int := (List.range n).map fun (i : Nat) => a + (i : Int) * c
theorem rng_get {a c : Int} {n i : Nat} (h : i < n) : (rng a c n)[i]? = some (a + (i : Int) * c) := by simp [rng, h]
theorem rng_length {a c : Int} {n : Nat} : (rng a c n).length = n := by simp [rng]

theorem iter_rangeit {target : Expr} {I : Addr} {a c : Int} {n : Nat} {s₁ : Shared} (hh : A.handled = none) (hX : Dom X s₁.heap) (hI : s₁.heap.get? I = none) (hit : IsRangeIter s.heap I a n c) (hc : Chg [] s₁ s) :
    ItsAt prog w A target X s₁ (.ref I) s ((rng a c n).map .int) := by
  have W := Walks.range (prog := prog) (w := w) hh I a c n
  have W2 : Walks prog w A I [I] [I] n (fun i v => i < n ∧ ∃ t, v = .int (a + i * c) t) (fun i h => IsRangeIter h I (a + (i : Nat) * c) ((n : Int) - (i : Nat)) c) :=
    { sub := W.sub, frame := W.frame, item := fun i s Q E hi st hQ => W.item i s Q E hi st fun v h' tk hP st' hk => hQ v h' tk ⟨hi, hP⟩ st' hk, done := W.done, self := W.self }
  refine ⟨I, [I], [I], _, _, rfl, fun X' => Its.ofWalks W2 (by simp [rng]) (fun i h st b hb => by rw [List.mem_singleton.mp hb]; exact ne_none_of st) ?_ ?_, ?_, hc, ?_, ?_⟩
  · rintro i v V' ⟨hi, t, rfl⟩ hV
    exact ⟨.int (a + i * c), by rw [List.getElem?_map, rng_get hi]; rfl, .int _ _⟩
  · intro i v s' Q E st hQ
    exact go_plain st rfl (by decide) hQ
  · simpa using hit
  · intro b hb; rw [List.mem_singleton.mp hb]; exact hI
  · intro b hb; rw [List.mem_singleton.mp hb]; exact ⟨fun hbX => hX I hbX hI, ne_none_of hit⟩

theorem iter_zip {elts : List Expr} {k : Nat} {pos : Pos} {v1 v2 : Value} {d1 d2 : List Dat} (hh : A.handled = none) (hX : Dom X s.heap) (h1 : Has (vw s.heap X) v1 (.list d1)) (h2 : Has (vw s.heap X) v2 (.list d2))
    (h : ∀ it s', ItsAt prog w A (.Tuple elts k pos) X s it s' ((d1.zip d2).map fun p => .tuple [p.1, p.2]) → Q it s') :
    wpAny (model prog w) A (call (.type "zip") [v1, v2]) (fun z s₁ => wpAny (model prog w) A (pyIter z) Q E s₁) E s := by
  obtain ⟨l1, xs, n1, rfl, hV1, hA1⟩ := h1.lst_inv
  obtain ⟨l2, ys, n2, rfl, hV2, hA2⟩ := h2.lst_inv
  obtain ⟨hX1, hl1, _⟩ := vw_some.mp hV1
  obtain ⟨hX2, hl2, _⟩ := vw_some.mp hV2
  have L1 : s.heap.IsList l1 xs.toArray := ⟨_, hl1, rfl, n1, rfl⟩
  have L2 : s.heap.IsList l2 ys.toArray := ⟨_, hl2, rfl, n2, rfl⟩
  refine call_zip_2 L1 L2 fun h' hz hTI hTO hi1 hi2 hsz hk => wpAny_pyIter_zip hz (h _ _ ?_)
  have D := PyProof.Rows.zipApart_new (Heap.lt_size hl1) (Heap.lt_size hl2)
  have up : ∀ {l : Addr} {zs : Array Value}, s.heap.IsList l zs → h'.IsList l zs := fun x => x.at fun o e => hk _ o e
  have fresh : ∀ b, s.heap.objs.size ≤ b → s.heap.get? b = none := fun b hb => Heap.get?_none_of_le hb
  have nX : ∀ b, s.heap.objs.size ≤ b → b ∉ X := fun b hb q => hX b q (fresh b hb)
  have ne1 : ∀ {h : Heap} {a l : Addr} {i : Nat}, h.IsListIter a l i → h.get? a ≠ none := fun x => by obtain ⟨o, ho, _⟩ := x; exact ne_none_of ho
  refine ⟨_, _, _, _, _, rfl, fun X' => Its.ofWalksT (WalksT.zip2 hh _ _ _ _ _ l1 l2 D xs.toArray ys.toArray) (by simp [hA1.length, hA2.length]) ?_ ?_ ?_, ⟨hz, hTI, ⟨_, _, hTO⟩, hi1, hi2, up L1, up L2⟩, .of_le hk, ?_, ?_⟩
  · intro i hp st b hb
    obtain ⟨q1, q2, ⟨_, _, q3⟩, q4, q5, _⟩ := st
    simp only [List.mem_cons, List.not_mem_nil, or_false] at hb
    rcases hb with rfl | rfl | rfl | rfl
    · exact ne_none_of q1
    · exact ne_none_of q3
    · exact ne1 q4
    · exact ne1 q5
  · intro i T hp st b hb
    obtain ⟨q1, q2, ⟨_, _, q3⟩, q4, q5, _⟩ := st
    simp only [List.mem_cons, List.not_mem_nil, or_false] at hb
    rcases hb with rfl | rfl | rfl | rfl
    · exact ne_none_of q1
    · exact ne_none_of q3
    · exact ne1 q4
    · exact ne1 q5
  · rintro i vals V' ⟨x, y, hx, hy, rfl⟩ hV
    obtain ⟨d, hd, hh1⟩ := hA1.get (k := i) (v := x) (by simpa using hx)
    obtain ⟨e, he, hh2⟩ := hA2.get (k := i) (v := y) (by simpa using hy)
    exact ⟨[d, e], by rw [List.getElem?_map, List.getElem?_zip_eq_some (z := (d, e)).mpr ⟨hd, he⟩]; rfl, .cons (hh1.mono hV) (.cons (hh2.mono hV) .nil)⟩
  · intro b hb
    simp only [List.mem_cons, List.not_mem_nil, or_false] at hb
    rcases hb with rfl | rfl | rfl | rfl <;> exact fresh _ (by omega)
  · intro b hb
    simp only [List.mem_cons, List.not_mem_nil, or_false] at hb
    rcases hb with rfl | rfl | rfl | rfl | rfl | rfl | rfl
    · exact ⟨nX _ (by omega), ne_none_of hz⟩
    · exact ⟨nX _ (by omega), ne_none_of hTI⟩
    · exact ⟨nX _ (by omega), ne_none_of hTO⟩
    · exact ⟨nX _ (by omega), ne1 hi1⟩
    · exact ⟨nX _ (by omega), ne1 hi2⟩
    · exact ⟨hX1, ne_none_of (hk _ _ hl1)⟩
    · exact ⟨hX2, ne_none_of (hk _ _ hl2)⟩

noncomputable def numbered (ds : List Dat) : List Dat := ds.zipIdx.map fun p => .tuple [.int p.2, p.1]
theorem iter_enum {elts : List Expr} {k : Nat} {pos : Pos} {v : Value} (hh : A.handled = none) (hX : Dom X s.heap) (h1 : Has (vw s.heap X) v (.list ds))
    (h : ∀ it s', ItsAt prog w A (.Tuple elts k pos) X s it s' (numbered ds) → Q it s') :
    wpAny (model prog w) A (call (.type "enumerate") [v]) (fun z s₁ => wpAny (model prog w) A (pyIter z) Q E s₁) E s := by
  obtain ⟨l, xs, n1, rfl, hV1, hA1⟩ := h1.lst_inv
  obtain ⟨hX1, hl1, _⟩ := vw_some.mp hV1
  have L1 : s.heap.IsList l xs.toArray := ⟨_, hl1, rfl, n1, rfl⟩
  have hlt := Heap.lt_size hl1
  refine call_enumerate_list L1 fun h' he hi hsz hk => wpAny_pyIter_enum he (h _ _ ?_)
  have fresh : ∀ b, s.heap.objs.size ≤ b → s.heap.get? b = none := fun b hb => Heap.get?_none_of_le hb
  have nX : ∀ b, s.heap.objs.size ≤ b → b ∉ X := fun b hb q => hX b q (fresh b hb)
  have ne1 : ∀ {h : Heap} {a l : Addr} {i : Nat}, h.IsListIter a l i → h.get? a ≠ none := fun x => by obtain ⟨o, ho, _⟩ := x; exact ne_none_of ho
  have W := WalksT.enumerate (prog := prog) (w := w) hh (s.heap.objs.size + 1) s.heap.objs.size l (Nat.succ_ne_self _) (Nat.ne_of_lt (Nat.lt_succ_of_lt hlt)) (Nat.ne_of_lt hlt) xs.toArray
  refine ⟨_, _, _, _, _, rfl, fun X' => Its.ofWalksT W (by simp [numbered, hA1.length]) ?_ ?_ ?_, ⟨⟨_, he⟩, hi, L1.at fun o e => hk _ o e⟩, .of_le hk, ?_, ?_⟩
  · intro i hp st b hb
    obtain ⟨⟨_, q1⟩, q2, _⟩ := st
    simp only [List.mem_cons, List.not_mem_nil, or_false] at hb
    rcases hb with rfl | rfl
    · exact ne_none_of q1
    · exact ne1 q2
  · intro i T hp st b hb
    obtain ⟨⟨_, q1⟩, q2, _⟩ := st
    simp only [List.mem_cons, List.not_mem_nil, or_false] at hb
    rcases hb with rfl | rfl
    · exact ne_none_of q1
    · exact ne1 q2
  · rintro i vals V' ⟨t, x, hx, rfl⟩ hV
    obtain ⟨d, hd, hh1⟩ := hA1.get (k := i) (v := x) (by simpa using hx)
    exact ⟨[.int i, d], by simp [numbered, hd], .cons (.int _ _) (.cons (hh1.mono hV) .nil)⟩
  · intro b hb
    simp only [List.mem_cons, List.not_mem_nil, or_false] at hb
    rcases hb with rfl | rfl <;> exact fresh _ (by omega)
  · intro b hb
    simp only [List.mem_cons, List.not_mem_nil, or_false] at hb
    rcases hb with rfl | rfl | rfl
    · exact ⟨nX _ (by omega), ne_none_of he⟩
    · exact ⟨nX _ (by omega), ne1 hi⟩
    · exact ⟨hX1, ne_none_of (hk _ _ hl1)⟩
end
end Mine

end
section
-- B4
open PySem PySem.W PyProof.Rows PySem.Calls
namespace Mine
set_option maxRecDepth 100000
section
variable {prog : Program} {w : World} {A : Around}

theorem no_noted {env : Env} {E : Value → Shared → Prop} : ∀ e s, No e s → notedBy (model prog w) A env E e s := fun _ _ x => x.elim

theorem Turn.chgX {H X Y : List Addr} {s₁ : Shared} {ds : List Dat} {J : List Addr → Nat → Shared → Prop} {X' : List Addr} {i : Nat} {d : Dat} {v : Value} {s : Shared} (T : Turn H (Y ++ X) s₁ ds J X' i d v s) (n : ∀ b ∈ Y, s₁.heap.get? b = none) : Chg X s₁ s := by
  obtain ⟨W, h1, _, h3⟩ := T.chgW
  refine h3.shrink fun b hb => ?_
  rcases List.mem_append.mp hb with q | q
  · exact .inr (h1 b q)
  · exact (List.mem_append.mp q).symm.imp id (n b)
/-- one clause's loop, the last one -/
theorem compLoop1 {α : Type} {elt target iter : Expr} {ifs : List Expr} {gens : List Comprehension} {scope : Scope} {pos : Pos} {depth : Nat} {D : Addr} {env : Env} {H X Y : List Addr} {s₁ s₂ s₃ : Shared} {it : Value}
    {xs : List α} {enc : α → Dat} {p : α → Bool} {f : α → Dat} {ds0 : List Dat} {vs0 : List Value} {m0 : Str → Option Value} {N : (Str → Option Value) → Prop} {R : Shared → Prop}
    (heq : ∀ it acc, compTurn (.ListComp elt gens scope pos) depth it acc env = (do
      standAt iter.pos
      match ← pyNext it with
      | none => pure (.done .next)
      | some v =>
        letOwnedTupleGo target it v
        assign target env v
        let mut ok := true
        for c in ifs do
          if ok then ok ← isTrue c env (eval c env)
        if ok then
          (do let _ ← call (.builtin "list.append") [acc, ← eval elt env])
        again (.compLoop (.ListComp elt gens scope pos) depth it acc env)))
    (hit : ItsAt prog w A target H s₁ it s₂ (xs.map enc)) (hH : Dom H s₁.heap) (xh : ∀ b ∈ X, b ∈ H) (hY : ∀ b ∈ Y, s₂.heap.get? b = none) (h23 : Chg [] s₂ s₃) (dY : Dom Y s₃.heap)
    (hD : D ∈ Y ++ X) (hC : env.locals ∈ Y ++ X) (hDC : D ≠ env.locals)
    (acc0 : s₃.heap.PlainList D vs0.toArray) (has0 : HasAll (vw s₁.heap H) vs0 ds0) (ns0 : s₃.heap.Ns env.locals m0) (N0 : N m0)
    (helt : ∀ X' v s m x, (∀ b ∈ Y ++ H, b ∈ X') → (∀ b ∈ X', b ∈ Y ++ H ∨ s₁.heap.get? b = none) → Dom X' s.heap → x ∈ xs → Chg X s₁ s → s.heap.Ns env.locals m → N m → Has (vw s.heap X') v (enc x) →
      wpAny (model prog w) A (assign target env v) (fun _ s₄ =>
        wpAny (model prog w) A (forIn ifs true fun c r => if r = true then do let ok ← isTrue c env (eval c env); pure (ForInStep.yield ok) else pure (ForInStep.yield r)) (fun ok s₅ => ok = p x ∧
          if p x = true then wpAny (model prog w) A (eval elt env) (fun y s₆ => Has (vw s₆.heap X') y (f x) ∧ Chg [env.locals] s s₆ ∧ ∃ m, s₆.heap.Ns env.locals m ∧ N m) No s₅
          else Chg [env.locals] s s₅ ∧ ∃ m, s₅.heap.Ns env.locals m ∧ N m) No s₄) No s)
    (hsz : ds0.length + xs.length ≤ sizeLine)
    (fin : ∀ s' vs m, s'.heap.PlainList D vs.toArray → HasAll (vw s'.heap (Y ++ H)) vs (ds0 ++ (xs.filter p).map f) → s'.heap.Ns env.locals m → N m → Chg (Y ++ X) s₁ s' → R s') :
    codeAny (model prog w) A (.compLoop (.ListComp elt gens scope pos) depth it (.ref D) env) (fun r s' => r = .ok .next ∧ R s') s₃ := by
  have xh' : ∀ b ∈ Y ++ X, b ∈ Y ++ H := fun b hb => (List.mem_append.mp hb).elim (List.mem_append_left _) fun q => List.mem_append_right _ (xh b q)
  have h03 : Chg [] s₁ s₃ := hit.chg.trans h23
  have n1 : ∀ b ∈ Y, s₁.heap.get? b = none := fun b hb => by
    cases e : s₁.heap.get? b with
    | none => rfl
    | some o => have := hit.chg.kp b o e; rw [hY b hb] at this; cases this
  have acc0' : ∀ X', (∀ b ∈ X', b ∈ Y ++ H ∨ s₁.heap.get? b = none) → HasAll (vw s₃.heap X') vs0 (ds0 ++ ((xs.take 0).filter p).map f) := fun X' h2 => by
    have e0 : ds0 ++ ((xs.take 0).filter p).map f = ds0 := by simp
    rw [e0]
    refine has0.mono (Mine.vle (fun b hb => ?_) fun b o _ e => h03.kp b o e)
    rcases h2 b hb with q | q
    · rcases List.mem_append.mp q with q | q
      · refine .inr fun o e => ?_
        have := hit.chg.kp b o e; rw [hY b q] at this; cases this
      · exact .inl q
    · exact .inr (.of_none q)
  obtain ⟨inv, n₀, h0, turn⟩ := turns (X := X) Y (fun X' i s => ∃ vs m, s.heap.PlainList D vs.toArray ∧ HasAll (vw s.heap X') vs (ds0 ++ ((xs.take i).filter p).map f) ∧ s.heap.Ns env.locals m ∧ N m)
    hit hH xh hY h23 dY (fun X' h1 h2 => ⟨vs0, m0, acc0, acc0' X' h2, ns0, N0⟩) (fun X' Z i s s' hz1 hz2 hz3 ⟨vs, m, h1, h2, h3, h4⟩ a =>
      ⟨vs, m, h1.at fun o e => a.keep D o (fun q => hz2 D q (xh' D hD)) e, h2.mono (a.vle' hz1), h3.at' fun o e => a.keep _ o (fun q => hz2 _ q (xh' _ hC)) e, h4⟩)
  refine codeAny_loop rfl inv (fun k s hI => ?_) n₀ h0
  show wpAny _ A ((compTurn (.ListComp elt gens scope pos) depth it (.ref D) env).onRaise (fun x => do noteFrame x env; theTreesLotGoes x)) _ _ s
  refine wpAny_noted ?_
  rw [heq]
  refine wpAny_bind (wpAny_standAt (wpAny_bind (wpAny_mono (turn k s hI _) (fun r s₁' h₁ => ?_) no_noted)))
  cases r with
  | none =>
    obtain ⟨X', hl⟩ := h₁
    obtain ⟨vs, m, q1, q2, q3, q4⟩ := hl.inv
    refine wpAny_pure ⟨rfl, fin _ vs m q1 ?_ q3 q4 hl.chg⟩
    rw [List.length_map, List.take_length] at q2
    exact q2.mono (vle_sub hl.sub)
  | some v =>
    refine wpAny_bind (wpAny_mono (h₁ _) (fun _ s' h' => ?_) no_noted)
    obtain ⟨X', i, d, T, nxt⟩ := h'
    obtain ⟨vs, m, q1, q2, q3, q4⟩ := T.inv
    obtain ⟨x, hx, rfl⟩ : ∃ x, xs[i]? = some x ∧ enc x = d := by simpa using T.item
    have hmem : x ∈ xs := List.mem_of_getElem? hx
    have hDX' : D ∈ X' := T.sub D (xh' D hD)
    have hCX' : env.locals ∈ X' := T.sub _ (xh' _ hC)
    refine wpAny_bind (wpAny_mono (helt X' v s' m x T.sub T.fresh T.dom hmem (T.chgX n1) q3 q4 T.has) (fun _ s₄ h₄ => wpAny_bind (wpAny_mono h₄ (fun ok s₅ h₅ => ?_) no_noted)) no_noted)
    obtain ⟨rfl, h₅⟩ := h₅
    have tk : (xs.take (i + 1)).filter p = (xs.take i).filter p ++ (if p x then [x] else []) := take_succ_filter p xs i x hx
    have hlen : vs.length ≤ sizeLine := by
      have e1 := q2.length
      have e2 : ((xs.take i).filter p).length ≤ (xs.take i).length := List.length_filter_le _ _
      have e3 : (xs.take i).length ≤ xs.length := by rw [List.length_take]; omega
      simp only [List.length_append, List.length_map] at e1
      omega
    cases hp : p x with
    | false =>
      rw [hp] at h₅
      simp only [Bool.false_eq_true, if_false] at h₅ ⊢
      obtain ⟨hc5, m5, hn5, hN5⟩ := h₅
      refine wpAny_pure ⟨rfl, nxt s₅ ⟨vs, m5, q1.at fun o e => hc5.keep D o (fun q => hDC (List.mem_singleton.mp q)) e, ?_, hn5, hN5⟩ (hc5.weaken fun b hb => by rw [List.mem_singleton.mp hb]; exact hC)⟩
      rw [tk, hp]
      simpa using q2.mono (hc5.vle' fun b hb => by rw [List.mem_singleton.mp hb]; exact hCX')
    | true =>
      rw [hp] at h₅
      simp only [if_true] at h₅ ⊢
      refine wpAny_bind (wpAny_bind (wpAny_mono h₅ (fun y s₆ h₆ => ?_) no_noted))
      obtain ⟨hy, hc6, m6, hn6, hN6⟩ := h₆
      have hD6 : s₆.heap.PlainList D vs.toArray := q1.at fun o e => hc6.keep D o (fun q => hDC (List.mem_singleton.mp q)) e
      refine wpAny_bind ?_
      refine wpAny_list_append_plain (hsz := by simpa using hlen) hD6 fun h₇ hl₇ hs₇ => ?_
      refine wpAny_pure ?_
      refine wpAny_pure (And.intro rfl ?_)
      obtain ⟨n7, ho7⟩ := id hl₇
      have a7 : Chg [D] s₆ { s₆ with heap := h₇ } := .same (t := s₆.toks) hs₇ ho7
      refine nxt _ ⟨vs ++ [y], m6, by simpa using hl₇, ?_, hn6.sameBut hs₇ (Ne.symm hDC), hN6⟩ ((hc6.weaken fun b hb => by rw [List.mem_singleton.mp hb]; exact hC).trans (a7.weaken fun b hb => by rw [List.mem_singleton.mp hb]; exact hD))
      rw [tk, hp]
      have m7 : VLe (vw s₆.heap X') (vw h₇ X') := a7.vle' fun b hb => by rw [List.mem_singleton.mp hb]; exact hDX'
      have := ((q2.mono (hc6.vle' fun b hb => by rw [List.mem_singleton.mp hb]; exact hCX')).snoc hy).mono m7
      simpa [List.append_assoc] using this

theorem compStart_ {elt : Expr} {gens : List Comprehension} {g : Comprehension} {scope : Scope} {pos : Pos} {depth : Nat} {it acc : Value} {env : Env} {R : Result → Shared → Prop} {s : Shared}
    (hg : gens[depth]? = some g) (ha : g.is_async = 0)
    (h0 : codeAny (model prog w) A (.compLoop (.ListComp elt gens scope pos) depth it acc env) R s)
    (h : ∀ Q E, Q it s → wpAny (model prog w) A (pyIter it) Q E s) :
    codeAny (model prog w) A (.compStart (.ListComp elt gens scope pos) depth it acc env) R s := by
  refine codeAny_of_tree ?_
  show wpAny _ _ ((compStart (.ListComp elt gens scope pos) depth it acc env).onRaise (fun x => do noteFrame x env; standAt theWindowsPlace)) _ _ s
  refine wpAny_notedAt ?_
  unfold compStart
  have e1 : (clausesOf (.ListComp elt gens scope pos))[depth]? = some g := hg
  simp only [e1, Option.elim, ha]
  show wpAny _ _ (ask >>= _) _ _ s
  refine wpAny_bind (wpAny_askSetting ?_)
  split
  · exact wpAny_bind (wpAny_pure (wpAny_pure (And.intro rfl h0)))
  · exact wpAny_bind (wpAny_rule (wpAny_bind (wpAny_standAt (wpAny_bind (h _ _ (wpAny_pure (And.intro rfl h0)))))))

/-- the tests of a clause -/
abbrev tests (ifs : List Expr) (env : Env) : Sem Bool := forIn ifs true fun c r => if r = true then do let ok ← isTrue c env (eval c env); pure (ForInStep.yield ok) else pure (ForInStep.yield r)

/-- what an element of a comprehension does with an item x -/
noncomputable def Elt (prog : Program) (w : World) (A : Around) {α : Type} (H : List Addr) (s : Shared) (target : Expr) (ifs : List Expr) (elt : Expr) (cenv : Addr → Env) (xs : List α) (enc : α → Dat) (p : α → Bool) (f : α → Dat) : Prop :=
  ∀ C X' v s' m x, s.heap.get? C = none → C ∈ X' → (∀ b ∈ H, b ∈ X') → (∀ b ∈ X', b ∈ H ∨ s.heap.get? b = none) → Dom X' s'.heap → x ∈ xs → Chg [] s s' → s'.heap.Ns C m → Has (vw s'.heap X') v (enc x) →
    wpAny (model prog w) A (assign target (cenv C) v) (fun _ s₄ => wpAny (model prog w) A (tests ifs (cenv C)) (fun ok s₅ => ok = p x ∧
      if p x = true then wpAny (model prog w) A (eval elt (cenv C)) (fun y s₆ => Has (vw s₆.heap X') y (f x) ∧ Chg [C] s' s₆ ∧ ∃ m, s₆.heap.Ns C m) No s₅
      else Chg [C] s' s₅ ∧ ∃ m, s₅.heap.Ns C m) No s₄) No s'

theorem compBlock {α : Type} {elt target iter : Expr} {ifs : List Expr} {scope : Scope} {cl : List (Str × Addr)} {pos : Pos} {env : Env} {H : List Addr} {s s₁ s₂ : Shared} {it : Value} {E : Value → Shared → Prop}
    {xs : List α} {enc : α → Dat} {p : α → Bool} {f : α → Dat} {RR : Value → Addr → Result → Shared → Prop}
    (hit : ItsAt prog w A target H s₁ it s₂ (xs.map enc)) (hs : Chg [] s s₁) (hH : Dom H s.heap)
    (hcell : (scope.names.all fun y => y.2 != .cell) = true) (hkind : scope.kind = .function)
    (helt : Elt prog w A H s target ifs elt (fun C => compEnvC scope cl C env) xs enc p f) (hsz : xs.length ≤ sizeLine)
    (hRR : ∀ D C s' m vs n, s.heap.get? D = none → s.heap.get? C = none → D ≠ C → Chg [] s s' → s'.heap.Ns C m → s'.heap.get? D = some (listOf (vs : List Value).toArray n) → HasAll (vw s'.heap (D :: C :: H)) vs ((xs.filter p).map f) → RR (.ref D) C (.ok .next) s') :
    wpAny (model prog w) A (newList []) (fun acc s₃ => wpAny (model prog w) A (newFunctionEnv scope env.globals cl [] env.qual none .none (some env)) (fun cenv s₄ =>
      codeAny (model prog w) A (.compStart (.ListComp elt [⟨target, iter, ifs, 0⟩] scope pos) 0 it acc { cenv with scope := relabel scope env }) (RR acc cenv.locals) s₄) E s₃) E s₂ := by
  refine wpAny_newObj_type (wpAny_newFunctionEnv (fun x hx => by simpa using List.all_eq_true.mp hcell x hx) (by intro y hy; simp at hy) (fun h₁ hns₁ hsb₁ => ?_) hkind)
  dsimp only at hns₁ hsb₁ ⊢
  generalize hH2 : s₂.heap.push { cls := .type "list", dict := none, data := .seq ([] : List Value).toArray } = H2 at hns₁ hsb₁ ⊢
  have hC : H2.objs.size = s₂.heap.objs.size + 1 := by rw [← hH2, Heap.size_push]
  have hDC : s₂.heap.objs.size ≠ H2.objs.size := by rw [hC]; exact Nat.ne_of_lt (Nat.lt_succ_self _)
  have lt2 : ∀ {b o}, s₂.heap.get? b = some o → b ≠ H2.objs.size ∧ b ≠ s₂.heap.objs.size := fun {b o} e => by
    have h := Heap.lt_size e; rw [hC]; exact ⟨Nat.ne_of_lt (Nat.lt_succ_of_lt h), Nat.ne_of_lt h⟩
  have kp : HLe s₂.heap h₁ := fun b o e => hsb₁.extBut b o (lt2 e).1 (Heap.get?_push_of_some _ (hH2 ▸ Heap.get?_push_of_some _ e))
  have hD₁ : h₁.get? s₂.heap.objs.size = some { cls := .type "list", dict := none, data := .seq ([] : List Value).toArray } := hsb₁.extBut _ _ hDC (Heap.get?_push_of_some _ (hH2 ▸ Heap.get?_push_size _ rfl))
  have c23 : Chg [] s₂ { s₂ with heap := h₁, toks := s₂.toks + ([] : List (Str × Value)).length } := .of_le kp
  have c02 : Chg [] s s₂ := hs.trans hit.chg
  have n2D : s₂.heap.get? s₂.heap.objs.size = none := get_size_none _
  have n2C : s₂.heap.get? H2.objs.size = none := Heap.get?_none_of_le (by rw [hC]; exact Nat.le_succ _)
  have back : ∀ b, s₂.heap.get? b = none → s.heap.get? b = none := fun b e => by
    cases q : s.heap.get? b with
    | none => rfl
    | some o => rw [c02.kp b o q] at e; cases e
  have back1 : ∀ b, s₁.heap.get? b = none → s.heap.get? b = none := fun b e => by
    cases q : s.heap.get? b with
    | none => rfl
    | some o => rw [hs.kp b o q] at e; cases e
  have loop : ∀ s₃ : Shared, s₃ = { s₂ with heap := h₁, toks := s₂.toks + ([] : List (Str × Value)).length } → ItsAt prog w A target H s₁ it s₃ (xs.map enc) →
      codeAny (model prog w) A (.compLoop (.ListComp elt [⟨target, iter, ifs, 0⟩] scope pos) 0 it (.ref s₂.heap.objs.size) (compEnvC scope cl H2.objs.size env)) (RR (.ref s₂.heap.objs.size) H2.objs.size) s₃ := by
    rintro s₃ rfl _
    refine codeAny_mono (compLoop1 (Y := [s₂.heap.objs.size, H2.objs.size]) (X := []) (H := H) (env := compEnvC scope cl H2.objs.size env) (N := fun _ => True) (ds0 := []) (vs0 := []) (p := p) (f := f)
      (R := fun s' => RR (.ref s₂.heap.objs.size) H2.objs.size (.ok .next) s') (fun _ _ => rfl) hit (hH.chg hs) (fun _ h => by cases h) ?_ c23 ?_ (by simp) (by simp [compEnvC]) hDC ⟨_, hD₁⟩ .nil hns₁ trivial ?_ (by simpa using hsz) ?_) ?_
    · intro b hb
      simp only [List.mem_cons, List.not_mem_nil, or_false] at hb
      rcases hb with rfl | rfl
      · exact n2D
      · exact n2C
    · intro b hb
      simp only [List.mem_cons, List.not_mem_nil, or_false] at hb
      rcases hb with rfl | rfl
      · exact ne_none_of hD₁
      · exact ns_dom hns₁
    · intro X' v s' m x h1 h2 hd hx hc hn _ hv
      have h2' : ∀ b ∈ X', b ∈ H ∨ s.heap.get? b = none := fun b hb => by
        rcases h2 b hb with q | q
        · rcases List.mem_append.mp q with q | q
          · simp only [List.mem_cons, List.not_mem_nil, or_false] at q
            rcases q with rfl | rfl
            · exact .inr (back _ n2D)
            · exact .inr (back _ n2C)
          · exact .inl q
        · exact .inr (back1 _ q)
      refine wpAny_mono (helt H2.objs.size X' v s' m x (back _ n2C) (h1 _ (by simp)) (fun b hb => h1 b (List.mem_append_right _ hb)) h2' hd hx (hs.trans hc) hn hv) (fun _ s₄ h₄ => wpAny_mono h₄ (fun ok s₅ h₅ => ⟨h₅.1, ?_⟩) fun _ _ x => x) fun _ _ x => x
      have h₅ := h₅.2
      split at h₅
      · rename_i hp; rw [if_pos hp]
        exact wpAny_mono h₅ (fun y s₆ ⟨a, b, m, c⟩ => ⟨a, b, m, c, trivial⟩) fun _ _ x => x
      · rename_i hp; rw [if_neg hp]
        obtain ⟨a, m, c⟩ := h₅
        exact ⟨a, m, c, trivial⟩
    · intro s' vs m hD' hA hn _ hc
      obtain ⟨n, hD'⟩ := hD'
      refine hRR _ _ s' m vs n (back _ n2D) (back _ n2C) hDC ?_ hn hD' (by simpa using hA)
      refine (hs.nil.trans hc).shrink fun b hb => .inr ?_
      simp only [List.append_nil, List.mem_cons, List.not_mem_nil, or_false] at hb
      rcases hb with rfl | rfl
      · exact back _ n2D
      · exact back _ n2C
    · rintro r s' ⟨rfl, hr⟩
      exact hr
  exact compStart_ rfl rfl (loop _ rfl (hit.on c23)) fun Q E q => (hit.on c23).self q

/-- where a comprehension's iterator comes from -/
noncomputable def Src (prog : Program) (w : World) (A : Around) (H : List Addr) (target iter : Expr) (env : Env) (s : Shared) (ds : List Dat) : Prop :=
  ∀ Q : Value → Shared → Prop, (∀ it s₁ s₂, Chg [] s s₁ → ItsAt prog w A target H s₁ it s₂ ds → Q it s₂) → wpAny (model prog w) A (eval iter env) (fun x s₁ => wpAny (model prog w) A (pyIter x) Q No s₁) No s

theorem listComp {α : Type} {elt target iter : Expr} {ifs : List Expr} {scope : Scope} {cl : List (Str × Addr)} {pos : Pos} {env : Env} {H : List Addr} {s : Shared} {Q : Value → Shared → Prop} {E : Value → Shared → Prop}
    {xs : List α} {enc : α → Dat} (p : α → Bool) (f : α → Dat)
    (hclos : closureFor scope env = pure cl) (hsc : (scope.names.all fun y => y.2 != .cell) = true) (hkind : scope.kind = .function)
    (hnames : (scope.names.all fun y => y.2 != .local || decide (scope.names.lookup y.1 = some .local)) = true) (hs : ∀ x, foldedSetIterable iter env x = pure x)
    (hH : Dom H s.heap) (src : Src prog w A H target iter env s (xs.map enc)) (helt : Elt prog w A H s target ifs elt (fun C => compEnvC scope cl C env) xs enc p f) (hsz : xs.length ≤ sizeLine)
    (hQ : ∀ r s', Chg [] s s' → Has (vw s'.heap H) r (.list ((xs.filter p).map f)) → Q r s') :
    wpAny (model prog w) A (eval (.ListComp elt [⟨target, iter, ifs, 0⟩] scope pos) env) Q E s := by
  refine ok_any ?_
  rw [eval_ListComp]
  refine wpAny_comprehension_free (use := none) rfl hs hclos hkind (fun y hy hl => ?_) (src _ fun it s₁ s₂ h1 h2 => ?_)
  · have := List.all_eq_true.mp hnames y hy
    simpa [hl] using this
  · refine compBlock (RR := fun acc C r s' => compPost (model prog w) A No none Q acc C r s') h2 h1 hH hsc hkind helt hsz fun D C s' m vs n hD hC hDC hc hn hl hA => ?_
    refine ⟨m, hn, fun h' hs' => hQ _ _ ?_ ?_⟩
    · have e : Chw [C] s' { s' with heap := h' } := ⟨rfl, id, fun b o hb e => hs'.extBut b o (fun q => hb (q ▸ List.mem_singleton_self _)) e⟩
      exact Chw.shrink (X := [C]) ((hc.toChw.weaken (fun _ h => by cases h)).trans e) (fun b hb => .inr (by rw [List.mem_singleton.mp hb]; exact hC)) fun _ h => by cases h
    · have hDH : D ∉ H := fun q => hH D q hD
      refine .lst (n := n) (vs := vs) (vw_some.mpr ⟨hDH, hs'.extBut _ _ hDC hl, rfl⟩) (hA.mono ?_)
      intro b o e
      obtain ⟨e1, e2, e3⟩ := vw_some.mp e
      simp only [List.mem_cons, not_or] at e1
      exact vw_some.mpr ⟨e1.2.2, hs'.extBut _ _ e1.2.1 e2, e3⟩

theorem assignComp {α : Type} {elt target iter : Expr} {ifs : List Expr} {scope : Scope} {cl : List (Str × Addr)} {pos spos py : Pos} {y : Str} {env : Env} {H : List Addr} {s s₀ : Shared} {m : Str → Option Value} {Q : Flow → Shared → Prop} {E : Value → Shared → Prop}
    {xs : List α} {enc : α → Dat} (p : α → Bool) (f : α → Dat) (c : Cx s₀ env.locals m s)
    (hsw : swapsWith (.ListComp elt [⟨target, iter, ifs, 0⟩] scope pos) (some (.Name y py)) spos.line env = pure true)
    (hclos : closureFor scope env = pure cl) (hsc : (scope.names.all fun y => y.2 != .cell) = true) (hkind : scope.kind = .function)
    (hnames : (scope.names.all fun y => y.2 != .local || decide (scope.names.lookup y.1 = some .local)) = true) (hs : ∀ x, foldedSetIterable iter env x = pure x)
    (hH : Dom H s.heap) (src : Src prog w A H target iter env s (xs.map enc)) (helt : Elt prog w A H s target ifs elt (fun C => compEnvC scope cl C env) xs enc p f) (hsz : xs.length ≤ sizeLine)
    (hQ : ∀ r s', Chg [env.locals] s s' → Cx s₀ env.locals (upd m y r) s' → Has (vw s'.heap H) r (.list ((xs.filter p).map f)) → Q .next s')
    (hy : env.kindOf y = some .local := by rfl) (hk : env.scope.kind = .function := by rfl) :
    wpAny (model prog w) A (exec (.Assign [.Name y py] (.ListComp elt [⟨target, iter, ifs, 0⟩] scope pos) spos) env) Q E s := by
  refine ok_any ?_
  rw [exec_Assign_Name_used _ _ _ _ hsw]
  refine wpAny_bind (wpAny_standAt (wpAny_bind ?_))
  show wpAny _ A (do let _ ← comprehension (.ListComp elt [⟨target, iter, ifs, 0⟩] scope pos) scope env _ (newList []) false (eval iter env) (some (assign (.Name y py) env))) _ _ s
  refine wpAny_bind (wpAny_mono (wpAny_comprehension_free (use := some (assign (.Name y py) env)) (Q := fun _ s' => Q .next s') rfl hs hclos hkind (fun y hy hl => ?_) (src _ fun it s₁ s₂ h1 h2 => ?_)) (fun _ s' hq => wpAny_pure (wpAny_pure hq)) fun _ _ e => e)
  · have := List.all_eq_true.mp hnames y hy
    simpa [hl] using this
  · refine compBlock (RR := fun acc C r s' => compPost (model prog w) A No (some (assign (.Name y py) env)) (fun _ s' => Q .next s') acc C r s') h2 h1 hH hsc hkind helt hsz fun D C s' mC vs n hD hC hDC hc hn hl hA => ?_
    show wpAny _ A (assign (.Name y py) env (.ref D)) _ _ _
    have hLC : env.locals ≠ C := fun q => ns_dom c.ns (q ▸ hC)
    have hLD : env.locals ≠ D := fun q => ns_dom c.ns (q ▸ hD)
    have hDH : D ∉ H := fun q => hH D q hD
    refine aL (c.on hc) (fun s'' hc'' hv'' c'' => ⟨mC, hn.at' fun o e => hc''.keep _ o (fun q => hLC (List.mem_singleton.mp q).symm) e, fun h' hs' => ?_⟩) hk hy
    have hn'' : s''.heap.Ns C mC := hn.at' fun o e => hc''.keep _ o (fun q => hLC (List.mem_singleton.mp q).symm) e
    have e : Chw [C] s'' { s'' with heap := h' } := ⟨rfl, id, fun b o hb e => hs'.extBut b o (fun q => hb (q ▸ List.mem_singleton_self _)) e⟩
    refine hQ (.ref D) _ ?_ ?_ ?_
    · refine Chw.shrink (X := [C, env.locals]) (((hc.toChw.weaken fun _ h => by cases h).trans (hc''.toChw.weaken fun b hb => List.mem_cons_of_mem _ hb)).trans (e.weaken fun b hb => by rw [List.mem_singleton.mp hb]; exact List.mem_cons_self ..)) (fun b hb => ?_) fun b hb q => ?_
      · rcases List.mem_cons.mp hb with rfl | hb
        · exact .inr hC
        · exact .inl hb
      · rw [List.mem_singleton.mp hb]
        show h'.get? _ ≠ none
        rw [hs'.2 _ hLC]; exact ns_dom c''.ns
    · exact c''.go e (fun q => hLC (List.mem_singleton.mp q)) fun b hb => by
        rw [List.mem_singleton.mp hb]
        cases q : s₀.heap.get? C with
        | none => rfl
        | some o => rw [c.chg.kp C o q] at hC; cases hC
    · refine .lst (n := n) (vs := vs) (vw_some.mpr ⟨hDH, hs'.extBut _ _ hDC (hc''.keep _ _ (fun q => hLD (List.mem_singleton.mp q).symm) hl), rfl⟩) ((hA.mono (hv'' _)).mono ?_)
      intro b o e
      obtain ⟨e1, e2, e3⟩ := vw_some.mp e
      simp only [List.mem_cons, not_or] at e1
      exact vw_some.mpr ⟨e1.2.2, hs'.extBut _ _ e1.2.1 e2, e3⟩
end
end Mine

end
section
-- B5
open PySem PySem.W PyProof.Rows PySem.Calls
namespace Mine
set_option maxRecDepth 100000

/-- room for n calls more -/
structure Rm (A : Around) (n : Nat) : Prop where
  hd : A.handled = none
  dep : A.depth + n < recursionLimit
  un : A.units + 8 * n < cLine
theorem Rm.one {A : Around} {n : Nat} (r : Rm A (n + 1)) : A.depth < recursionLimit := Nat.lt_of_le_of_lt (Nat.le_add_right _ _) r.dep
theorem Rm.less {A : Around} {n k : Nat} (r : Rm A n) (h : k ≤ n) : Rm A k := ⟨r.hd, by have := r.dep; omega, by have := r.un; omega⟩

structure Glb (K : Frag) (h : Heap) : Prop where
  K : K.In h
  T : ∃ p loose mean mg mb, Top p loose mean mg mb h
theorem Glb.keeps {K : Frag} {h h' : Heap} (G : Glb K h) (k : HLe h h') : Glb K h' :=
  ⟨G.K.keeps k, let ⟨p, a, b, c, d, T⟩ := G.T; ⟨p, a, b, c, d, T.keeps k⟩⟩
theorem Glb.nolimit {K : Frag} {h : Heap} (G : Glb K h) : h.NoLimit := let ⟨_, _, _, _, _, T⟩ := G.T; T.nolimit
theorem Glb.on {K : Frag} {s s' : Shared} (G : Glb K s.heap) (a : Chg [] s s') : Glb K s'.heap := G.keeps a.kp
theorem Glb.cx {K : Frag} {s s' : Shared} {L : Addr} {m : Str → Option Value} (G : Glb K s.heap) (c : Cx s L m s') : Glb K s'.heap := G.on c.chg

/-- the cells of a frame entered at s₀ -/
structure Ce (s₀ : Shared) (cs : List (Str × Addr)) (cm : Str → Option Value) (s : Shared) : Prop where
  is : ∀ n c, cs.lookup n = some c → s.heap.IsCell c (cm n)
  new : ∀ n c, cs.lookup n = some c → s₀.heap.get? c = none
  apart : cs.Pairwise fun x y => x.2 ≠ y.2
theorem cell_noseq {h : Heap} {c : Addr} {v : Option Value} (x : h.IsCell c v) : NoSeq h c := fun o q => by obtain ⟨o', e, hd⟩ := x; rw [e] at q; cases q; unfold seqO; rw [hd]
theorem cell_dom {h : Heap} {c : Addr} {v : Option Value} (x : h.IsCell c v) : h.get? c ≠ none := by obtain ⟨o', e, hd⟩ := x; exact ne_none_of e
theorem cell_ne_ns {h : Heap} {c L : Addr} {v : Option Value} {m : Str → Option Value} (x : h.IsCell c v) (n : h.Ns L m) : c ≠ L := fun q => by
  obtain ⟨o', e, hd⟩ := x; obtain ⟨o, es, ep, e2, hd2, _⟩ := n
  rw [q, e2] at e; cases e; rw [hd2] at hd; cases hd
theorem Ce.go {s₀ s s' : Shared} {cs : List (Str × Addr)} {cm : Str → Option Value} {X : List Addr} (k : Ce s₀ cs cm s) (a : Chw X s s') (h : ∀ n c, cs.lookup n = some c → c ∉ X) : Ce s₀ cs cm s' :=
  ⟨fun n c e => let ⟨o, ho, hd⟩ := k.is n c e; ⟨o, a.keep c o (h n c e) ho, hd⟩, k.new, k.apart⟩
theorem Ce.on {s₀ s s' : Shared} {cs : List (Str × Addr)} {cm : Str → Option Value} (k : Ce s₀ cs cm s) (a : Chg [] s s') : Ce s₀ cs cm s' := k.go a.toChw fun _ _ _ h => by cases h
theorem Ce.ns {s₀ s s' : Shared} {cs : List (Str × Addr)} {cm m : Str → Option Value} {L : Addr} (k : Ce s₀ cs cm s) (n : s.heap.Ns L m) (a : Chg [L] s s') : Ce s₀ cs cm s' :=
  k.go a.toChw fun _ _ e h => cell_ne_ns (k.is _ _ e) n (List.mem_singleton.mp h)

section
variable {prog : Program} {w : World} {A : Around} {s s₀ : Shared} {env : Env} {m cm : Str → Option Value} {K : Frag}

/-- a name in a block whose names lie at env.locals -/
theorem nN {x : Str} {pos : Pos} {v : Value} {Q : Value → Shared → Prop} {E : Value → Shared → Prop} (hn : s.heap.Ns env.locals m) (hv : m x = some v) (h : Q v s)
    (hk : env.scope.kind = .function := by rfl) (hl : env.kindOf x = some .local := by rfl) (hd : (x == ("__debug__" : Str)) = false := by decide) :
    wpAny (model prog w) A (eval (.Name x pos) env) Q E s := wpAny_Name (wpAny_loadName_local hk hl hn hv h) hd
theorem nC {x : Str} {pos : Pos} {v : Value} {c : Addr} {Q : Value → Shared → Prop} {E : Value → Shared → Prop} (hc : s.heap.IsCell c (some v)) (h : Q v s)
    (hk : env.scope.kind = .function := by rfl) (hl : env.kindOf x = some .cell := by rfl) (hcl : env.cells.lookup x = some c := by rfl) (hd : (x == ("__debug__" : Str)) = false := by decide) :
    wpAny (model prog w) A (eval (.Name x pos) env) Q E s := wpAny_Name (wpAny_loadName_cell hk hl hcl hc h) hd
theorem sC {x : Str} {v : Value} {v₀ : Option Value} {c : Addr} {Q : Unit → Shared → Prop} {E : Value → Shared → Prop} (hc : s.heap.IsCell c v₀)
    (h : ∀ s', Chg [c] s s' → (∀ X, VLe (vw s.heap X) (vw s'.heap X)) → s'.heap.IsCell c (some v) → Q () s')
    (hk : env.scope.kind = .function := by rfl) (hl : env.kindOf x = some .cell := by rfl) (hcl : env.cells.lookup x = some c := by rfl) :
    wpAny (model prog w) A (storeName env x v) Q E s := by
  refine wpAny_storeName_cell hk hl hcl hc fun h' hc' hs => ?_
  obtain ⟨o, ho, hd⟩ := id hc'
  have a : Chg [c] s { s with heap := h', toks := s.toks } := .same hs ho
  exact h _ a (fun X => a.vleN fun b hb => .inr (by rw [List.mem_singleton.mp hb]; exact cell_noseq hc)) hc'
theorem nG {x : Str} {pos : Pos} {v : Value} {Q : Value → Shared → Prop} {E : Value → Shared → Prop} (G : Glb K s.heap) (e : nsIn K mainGlobals x = some (some v)) (h : Q v s)
    (hg : env.globals = mainGlobals := by rfl) (hk : env.scope.kind = .function := by rfl) (hx : env.kindOf x = some .globalImplicit := by rfl) (hd : (x == ("__debug__" : Str)) = false := by decide) :
    wpAny (model prog w) A (eval (.Name x pos) env) Q E s := by
  obtain ⟨p, loose, mean, mg, mb, T⟩ := G.T
  exact Name_function_global hk hx (loadGlobal_global (show s.heap.Ns env.globals mg from hg ▸ T.g) (mg_of G.K T.g e) h) hd
theorem nB {x : Str} {pos : Pos} {v : Value} {Q : Value → Shared → Prop} {E : Value → Shared → Prop} (G : Glb K s.heap) (e : nsIn K mainGlobals x = some none) (hv : bootBuiltins x = some v) (hn : x ≠ "__name__") (h : Q v s)
    (hg : env.globals = mainGlobals := by rfl) (hb : env.builtins = builtinsNs := by rfl) (hk : env.scope.kind = .function := by rfl) (hx : env.kindOf x = some .globalImplicit := by rfl) (hd : (x == ("__debug__" : Str)) = false := by decide) :
    wpAny (model prog w) A (eval (.Name x pos) env) Q E s := by
  obtain ⟨p, loose, mean, mg, mb, T⟩ := G.T
  exact Name_function_global hk hx (loadGlobal_builtin (show s.heap.Ns env.globals mg from hg ▸ T.g) (mg_none_of G.K T.g e) (show s.heap.Ns env.builtins mb from hb ▸ T.b) ((T.builtins x hn).trans hv) h) hd

/-- a def of the text -/
noncomputable def fdOf (K : Frag) (f : Addr) : FuncData := match K.lookup f with
  | some ⟨_, _, .func fd, _⟩ => fd
  | _ => default
noncomputable def nones : Str → Option Value := fun _ => none
/-- a call of a def of the text -/
theorem enter {Q : Value → Shared → Prop} {E : Value → Shared → Prop} {f : Addr} {body : List Stmt} {pos : List Value} {n : Nat} (fd : FuncData) (binds : List (Str × Value))
    (G : Glb K s.heap) (ho : ∃ oc od osl, K.lookup f = some ⟨oc, od, .func fd, osl⟩) (hbody : fd.body = .stmts body) (hcd : codeIn K fd.code fd.qualname = true) (hA : Rm A (n + 1))
    (hbind : bindArgs fd ⟨pos, []⟩ = pure binds) (hclo : fd.closure = [])
    (hkind : (binds.all fun x => decide (fd.scope.names.lookup x.1 = some .local) || (decide (fd.scope.names.lookup x.1 = some .cell) && ((cellsFrom 0 fd.scope.names []).lookup x.1).isSome)) = true)
    (hsc : (fd.scope.isCoroutine, fd.scope.isGenerator, fd.scope.kind) = (false, false, .function))
    (h : ∀ L s₁ A', s.heap.get? L = none → Rm A' n → Cx s L (bindL (callEnvC fd L f).kindOf binds nones) s₁ → Ce s (cellsFrom (L + 1) fd.scope.names []) (bindC (callEnvC fd L f).kindOf binds nones) s₁ →
      wpAny (model prog w) A' (execs body (callEnvC fd L f)) (fun fl s' => Q (match fl with | .ret v => v | _ => .none) s') No s₁) :
    wpAny (model prog w) A (call (.ref f) pos) Q E s := by
  obtain ⟨oc, od, osl, ho⟩ := ho
  refine wpAny_call (codeAny_call_cells hA.one (G.K _ _ ho) rfl G.nolimit (codeRec_of G.K hcd) hbody hbind hclo (fun x hx => ?_) (fun s₁ x => ?_)
    (congrArg (·.1) hsc) (congrArg (·.2.1) hsc) (congrArg (·.2.2) hsc))
  · have := List.all_eq_true.mp hkind x hx
    rcases Bool.or_eq_true_iff.mp this with q | q
    · exact .inl (of_decide_eq_true q)
    · obtain ⟨q1, q2⟩ := Bool.and_eq_true_iff.mp q
      refine .inr ⟨of_decide_eq_true q1, cellsFrom_some _ _ _ (.inl (of_decide_eq_true q1))⟩
  · have hnew : ∀ b, s.heap.objs.size ≤ b → s.heap.get? b = none := fun b hb => Heap.get?_none_of_le hb
    obtain ⟨h', tk, rfl, hk'⟩ := x.toInCall.done
    refine wpAny_mono (h s.heap.objs.size _ (A.deeper _) (hnew _ (Nat.le_refl _)) ⟨hA.hd, ?_, ?_⟩ ⟨x.toInCall.ns, .of_le hk', hnew _ (Nat.le_refl _)⟩ ⟨x.cell, fun n c e => hnew _ ?_, x.apart⟩) (fun _ _ q => q) (fun _ _ q => q.elim)
    · show A.depth + 1 + n < recursionLimit
      have := hA.dep; omega
    · show A.units + 3 + 8 * n < cLine
      have := hA.un; omega
    · exact Nat.le_of_lt (x.above n c (mem_of_lookup e))
end
end Mine

end
section
-- B6
open PySem PySem.W PyProof.Rows PySem.Calls
namespace Mine
set_option maxRecDepth 100000
section
variable {prog : Program} {w : World} {A : Around} {s s₀ : Shared} {env : Env} {m cm : Str → Option Value} {K : Frag} {X : List Addr}

theorem aN {x : Str} {pos : Pos} {v : Value} {Q : Unit → Shared → Prop} {E : Value → Shared → Prop} (hn : s.heap.Ns env.locals m)
    (h : ∀ s', Chg [env.locals] s s' → (∀ X, VLe (vw s.heap X) (vw s'.heap X)) → s'.heap.Ns env.locals (upd m x v) → Q () s')
    (hk : env.scope.kind = .function := by rfl) (hl : env.kindOf x = some .local := by rfl) :
    wpAny (model prog w) A (assign (.Name x pos) env v) Q E s := by
  refine assign_Name (wpAny_storeName_local hl hn (fun h' hn' hs => ?_) (by rw [hk]; rfl))
  obtain ⟨o, es, ep, ho, r⟩ := id hn'
  have a : Chg [env.locals] s { s with heap := h', toks := s.toks + 1 } := .same hs ho
  exact h _ a (fun X => a.vleN fun b hb => .inr (by rw [List.mem_singleton.mp hb]; exact .of_ns hn)) hn'

theorem unpackR {elts : List Expr} {k : Nat} {pos : Pos} {v : Value} {ds : List Dat} {Q : Unit → Shared → Prop} {E : Value → Shared → Prop} (hh : A.handled = none) (hv : Has (vw s.heap X) v (.tuple ds))
    (hn : (assignEach elts env).length = ds.length) (hstar : (assignEach elts env).findIdx? (·.1) = none)
    (h : ∀ s' vs, Chg [] s s' → HasAll (vw s'.heap X) vs ds → wpAny (model prog w) A (assignInOrder ((assignEach elts env).map (·.2)) vs) Q E s') :
    wpAny (model prog w) A (assign (.Tuple elts k pos) env v) Q E s := by
  obtain ⟨a, o, vs, n, rfl, hV, hc, hd, hA⟩ := hv.tup_inv
  obtain ⟨_, ho, _⟩ := vw_some.mp hV
  have ht : IsTup s.heap a vs.toArray := ⟨o, ho, hc, n, hd⟩
  refine assign_Tuple_tuple hh ht (by rw [hn]; simpa using hA.length.symm) hstar fun h' he => ?_
  have c : Chg [] s { s with heap := h' } := .of_le (t := s.toks) fun b o e => he b o (Nat.ne_of_lt (Heap.lt_size e)) e
  exact h _ vs c (hA.mono c.nil.vle)

theorem unpack2N {x y : Str} {px py pos : Pos} {k : Nat} {v : Value} {d1 d2 : Dat} {Q : Unit → Shared → Prop} {E : Value → Shared → Prop} (hh : A.handled = none) (hn : s.heap.Ns env.locals m) (hv : Has (vw s.heap X) v (.tuple [d1, d2]))
    (h : ∀ s' v1 v2, Chg [env.locals] s s' → (∀ X, VLe (vw s.heap X) (vw s'.heap X)) → s'.heap.Ns env.locals (upd (upd m x v1) y v2) → Has (vw s'.heap X) v1 d1 → Has (vw s'.heap X) v2 d2 → Q () s')
    (hk : env.scope.kind = .function := by rfl) (hl : env.kindOf x = some .local := by rfl) (hl2 : env.kindOf y = some .local := by rfl) :
    wpAny (model prog w) A (assign (.Tuple [.Name x px, .Name y py] k pos) env v) Q E s := by
  refine unpackR hh hv rfl rfl fun s₁ vs c1 hA => ?_
  cases hA with | cons h1 r => cases r with | cons h2 r => cases r with | nil =>
  refine assignInOrder_cons (aN (hn.keeps c1.kp) (fun s₂ c2 v2 n2 => assignInOrder_cons (aN n2 (fun s₃ c3 v3 n3 => assignInOrder_nil ?_) hk hl2)) hk hl)
  exact h s₃ _ _ (c1.nil.trans (c2.trans c3)) (fun X => c1.nil.vle.trans ((v2 X).trans (v3 X))) n3 ((h1.mono (v2 _)).mono (v3 _)) ((h2.mono (v2 _)).mono (v3 _))

theorem Cx.of_ns {s' : Shared} {m' : Str → Option Value} {L : Addr} (c : Cx s₀ L m s) (a : Chg [L] s s') (n : s'.heap.Ns L m') : Cx s₀ L m' s' :=
  ⟨n, .mk4 (a.os.trans c.chg.os) (fun h => a.bare (c.chg.bare h)) (fun b o _ e => a.keep b o (fun q => by rw [List.mem_singleton.mp q, c.new] at e; cases e) (c.chg.kp b o e)) (fun b e => a.dom b (c.chg.dom b e)), c.new⟩
theorem unpack2L {x y : Str} {px py pos : Pos} {k : Nat} {v : Value} {d1 d2 : Dat} {Q : Unit → Shared → Prop} {E : Value → Shared → Prop} (hh : A.handled = none) (c : Cx s₀ env.locals m s) (hv : Has (vw s.heap X) v (.tuple [d1, d2]))
    (h : ∀ s' v1 v2, Chg [env.locals] s s' → (∀ X, VLe (vw s.heap X) (vw s'.heap X)) → Cx s₀ env.locals (upd (upd m x v1) y v2) s' → Has (vw s'.heap X) v1 d1 → Has (vw s'.heap X) v2 d2 → Q () s')
    (hk : env.scope.kind = .function := by rfl) (hl : env.kindOf x = some .local := by rfl) (hl2 : env.kindOf y = some .local := by rfl) :
    wpAny (model prog w) A (assign (.Tuple [.Name x px, .Name y py] k pos) env v) Q E s :=
  unpack2N hh c.ns hv (fun s' v1 v2 a b n h1 h2 => h s' v1 v2 a b (c.of_ns a n) h1 h2) hk hl hl2

theorem Try_ok {body orelse : List Stmt} {h₀ : ExceptHandler} {hs : List ExceptHandler} {pos : Pos} {Q : Flow → Shared → Prop} {E : Value → Shared → Prop}
    (h : wpAny (model prog w) A (execs body env) (fun f s₁ => match f with | .next => wpAny (model prog w) A (execs orelse env) Q E s₁ | f => Q f s₁) No s) :
    wpAny (model prog w) A (exec (.Try body (h₀ :: hs) orelse [] pos) env) Q E s :=
  wpAny_Try_except (wpAny_mono h (fun _ _ x => x) fun _ _ x => x.elim)
end
end Mine

end
section
-- B7
open PySem PySem.W PyProof.Rows PySem.Calls
namespace Mine
set_option maxRecDepth 100000
section
variable {prog : Program} {w : World} {A : Around}

/-- the outer clause of two: an item x is bound, and the inner clause's iterator is made -/
noncomputable def Out2 (prog : Program) (w : World) (A : Around) {α β : Type} (H : List Addr) (s : Shared) (t1 i2 t2 : Expr) (cenv : Addr → Env) (xs : List α) (enc : α → Dat) (ys : α → List β) (encB : β → Dat) (N : α → (Str → Option Value) → Prop) : Prop :=
  ∀ C X' v s' m x, s.heap.get? C = none → C ∈ X' → (∀ b ∈ H, b ∈ X') → (∀ b ∈ X', b ∈ H ∨ s.heap.get? b = none) → Dom X' s'.heap → x ∈ xs → Chg [] s s' → s'.heap.Ns C m → Has (vw s'.heap X') v (enc x) →
    wpAny (model prog w) A (assign t1 (cenv C) v) (fun _ s₃ => wpAny (model prog w) A (eval i2 (cenv C)) (fun z s₄ => wpAny (model prog w) A (pyIter z) (fun it s₅ =>
      ∃ sb, Chg [C] s' sb ∧ ItsAt prog w A t2 X' sb it s₅ ((ys x).map encB) ∧ ∃ m, s₅.heap.Ns C m ∧ N x m) No s₄) No s₃) No s'
/-- the element, an item of both bound -/
noncomputable def Elt2 (prog : Program) (w : World) (A : Around) {α β : Type} (H : List Addr) (s : Shared) (t2 elt : Expr) (cenv : Addr → Env) (xs : List α) (ys : α → List β) (encB : β → Dat) (f : α → β → Dat) (N : α → (Str → Option Value) → Prop) : Prop :=
  ∀ C X' v s' m x y, s.heap.get? C = none → C ∈ X' → (∀ b ∈ H, b ∈ X') → (∀ b ∈ X', b ∈ H ∨ s.heap.get? b = none) → Dom X' s'.heap → x ∈ xs → y ∈ ys x → Chg [] s s' → s'.heap.Ns C m → N x m → Has (vw s'.heap X') v (encB y) →
    wpAny (model prog w) A (assign t2 (cenv C) v) (fun _ s₄ => wpAny (model prog w) A (eval elt (cenv C)) (fun r s₅ => Has (vw s₅.heap X') r (f x y) ∧ Chg [C] s' s₅ ∧ ∃ m, s₅.heap.Ns C m ∧ N x m) No s₄) No s'

theorem compLoop2 {α β : Type} {elt t1 i1 t2 i2 : Expr} {scope : Scope} {pos : Pos} {D : Addr} {env : Env} {H Y : List Addr} {s₁ s₂ s₃ : Shared} {it : Value}
    {xs : List α} {enc : α → Dat} {ys : α → List β} {encB : β → Dat} {f : α → β → Dat} {m0 : Str → Option Value} {N : α → (Str → Option Value) → Prop} {R : Shared → Prop} {C : Addr} {cenv : Addr → Env} {s : Shared} {n : Nat}
    (hit : ItsAt prog w A t1 H s₁ it s₂ (xs.map enc)) (hs : Chg [] s s₁) (hH : Dom H s₁.heap) (hY : ∀ b ∈ Y, s₂.heap.get? b = none) (h23 : Chg [] s₂ s₃) (dY : Dom Y s₃.heap)
    (hYe : Y = [D, C]) (henv : env = cenv C) (hloc : env.locals = C) (hDC : D ≠ C)
    (acc0 : s₃.heap.PlainList D #[]) (ns0 : s₃.heap.Ns C m0) (hf : ∀ x, foldedSetIterable i2 env x = pure x)
    (hout : Out2 prog w A H s t1 i2 t2 cenv xs enc ys encB N) (helt : Elt2 prog w A H s t2 elt cenv xs ys encB f N)
    (hsz : ∀ i, (xs.take i |>.flatMap ys).length + n ≤ sizeLine) (hn : ∀ x ∈ xs, (ys x).length ≤ n)
    (fin : ∀ s' vs m, s'.heap.PlainList D vs.toArray → HasAll (vw s'.heap (Y ++ H)) vs (xs.flatMap fun x => (ys x).map (f x)) → s'.heap.Ns C m → Chg Y s₁ s' → R s') :
    codeAny (model prog w) A (.compLoop (.ListComp elt [⟨t1, i1, [], 0⟩, ⟨t2, i2, [], 0⟩] scope pos) 0 it (.ref D) env) (fun r s' => r = .ok .next ∧ R s') s₃ := by
  have hDY : D ∈ Y := by rw [hYe]; simp
  have hCY : C ∈ Y := by rw [hYe]; simp
  have h03 : Chg [] s₁ s₃ := hit.chg.trans h23
  obtain ⟨inv, n₀, h0, turn⟩ := turns (X := []) Y (fun X' i s => ∃ vs m, s.heap.PlainList D vs.toArray ∧ HasAll (vw s.heap X') vs ((xs.take i).flatMap fun x => (ys x).map (f x)) ∧ s.heap.Ns C m)
    hit hH (fun _ h => by cases h) hY h23 dY (fun X' h1 h2 => ⟨[], m0, acc0, HasAll.nil, ns0⟩) (fun X' Z i s s' hz1 hz2 hz3 hJ a => by
      obtain ⟨vs, m, h1, h2, h3⟩ := hJ
      exact ⟨vs, m, h1.at fun o e => a.keep D o (fun q => hz2 D q (List.mem_append_left _ hDY)) e, h2.mono (a.vle' hz1), h3.at' fun o e => a.keep _ o (fun q => hz2 _ q (List.mem_append_left _ hCY)) e⟩)
  have back1 : ∀ b, s₁.heap.get? b = none → s.heap.get? b = none := fun b e => by
    cases q : s.heap.get? b with
    | none => rfl
    | some o => rw [hs.kp b o q] at e; cases e
  have n1 : ∀ b ∈ Y, s₁.heap.get? b = none := fun b hb => by
    cases e : s₁.heap.get? b with
    | none => rfl
    | some o => have := hit.chg.kp b o e; rw [hY b hb] at this; cases this
  refine codeAny_loop rfl inv (fun k s' hI => ?_) n₀ h0
  show wpAny _ A ((compTurn (.ListComp elt [⟨t1, i1, [], 0⟩, ⟨t2, i2, [], 0⟩] scope pos) 0 it (.ref D) env).onRaise (fun x => do noteFrame x env; theTreesLotGoes x)) _ _ s'
  refine wpAny_noted ?_
  have heq : compTurn (.ListComp elt [⟨t1, i1, [], 0⟩, ⟨t2, i2, [], 0⟩] scope pos) 0 it (.ref D) env = (do
      standAt i1.pos
      match ← pyNext it with
      | none => pure (.done .next)
      | some v =>
        letOwnedTupleGo t1 it v
        assign t1 env v
        let x ← eval i2 env
        standAt i2.pos
        let x ← foldedSetIterable i2 env x
        let _ ← runOwn (.compStart (.ListComp elt [⟨t1, i1, [], 0⟩, ⟨t2, i2, [], 0⟩] scope pos) (0 + 1) (← holding [x] (pyIter x)) (.ref D) env) env
        again (.compLoop (.ListComp elt [⟨t1, i1, [], 0⟩, ⟨t2, i2, [], 0⟩] scope pos) 0 it (.ref D) env)) := by rfl
  rw [heq]
  refine wpAny_bind (wpAny_standAt (wpAny_bind (wpAny_mono (turn k s' hI _) (fun r s₁' h₁ => ?_) no_noted)))
  cases r with
  | none =>
    obtain ⟨X', hl⟩ := h₁
    obtain ⟨vs, m, q1, q2, q3⟩ := hl.inv
    refine wpAny_pure ⟨rfl, fin _ vs m q1 ?_ q3 ?_⟩
    · rw [List.length_map, List.take_length] at q2
      exact q2.mono (vle_sub hl.sub)
    · simpa using hl.chg
  | some v =>
    refine wpAny_bind (wpAny_mono (h₁ _) (fun _ s'' h' => ?_) no_noted)
    obtain ⟨X', i, d, T, nxt⟩ := h'
    obtain ⟨vs, m, q1, q2, q3⟩ := T.inv
    obtain ⟨x, hx, rfl⟩ : ∃ x, xs[i]? = some x ∧ enc x = d := by simpa using T.item
    have hmem : x ∈ xs := List.mem_of_getElem? hx
    have hDX' : D ∈ X' := T.sub D (List.mem_append_left _ hDY)
    have hCX' : C ∈ X' := T.sub C (List.mem_append_left _ hCY)
    have hHX' : ∀ b ∈ H, b ∈ X' := fun b hb => T.sub b (List.mem_append_right _ hb)
    have fr : ∀ b ∈ X', b ∈ H ∨ s.heap.get? b = none := fun b hb => by
      rcases T.fresh b hb with q | q
      · rcases List.mem_append.mp q with q | q
        · exact .inr (back1 b (n1 b q))
        · exact .inl q
      · exact .inr (back1 b q)
    have hT : Chg [] s s'' := hs.trans (Turn.chgX T n1)
    have h1 := hout C X' v s'' m x (back1 _ (n1 _ hCY)) hCX' hHX' fr T.dom hmem hT q3 T.has
    rw [← henv] at h1
    refine wpAny_bind (wpAny_mono h1 (fun _ s₃' h₃ => wpAny_bind (wpAny_mono h₃ (fun z s₄ h₄ => ?_) no_noted)) no_noted)
    refine wpAny_bind (wpAny_standAt (wpAny_bind (wpAny_of_eq (hf z) (wpAny_bind (wpAny_holding (wpAny_mono h₄ (fun it2 s₅ h₅ => ?_) no_noted))))))
    obtain ⟨sb, hcb, hit2, m5, hn5, hN5⟩ := h₅
    have cb5 : Chg [] sb s₅ := hit2.chg
    have keepD : ∀ o, s''.heap.get? D = some o → s₅.heap.get? D = some o := fun o e => cb5.kp D o (hcb.keep D o (fun q => hDC (List.mem_singleton.mp q)) e)
    have hdb : Dom X' sb.heap := T.dom.chg hcb
    have tk : (xs.take (i + 1)).flatMap (fun x => (ys x).map (f x)) = (xs.take i).flatMap (fun x => (ys x).map (f x)) ++ (ys x).map (f x) := by
      rw [List.take_add_one, hx]; simp
    refine wpAny_bind (wpAny_runOwn (codeAny_mono (R := fun r s' => r = .ok .next ∧ (∃ vs m, s'.heap.PlainList D vs.toArray ∧ HasAll (vw s'.heap X') vs ((xs.take (i + 1)).flatMap fun x => (ys x).map (f x)) ∧ s'.heap.Ns C m) ∧ Chg [D, C] sb s')
      (compStart_ rfl rfl ?_ fun Q E q => hit2.self q) (fun r s' hr => ?_)))
    · refine compLoop1 (ifs := []) (H := X') (X := [D, C]) (Y := []) (p := fun _ => true) (f := f x) (ds0 := (xs.take i).flatMap fun x => (ys x).map (f x)) (vs0 := vs) (N := N x) (fun _ _ => rfl) hit2 hdb ?_ (fun _ h => by cases h) (.refl _ _) (fun _ h => by cases h) (by simp) (by simp [hloc]) (by rw [hloc]; exact hDC)
        (q1.at keepD) (q2.mono (hcb.vle' fun b hb => by rw [List.mem_singleton.mp hb]; exact hCX')) (by rw [hloc]; exact hn5) hN5 ?_ ?_ ?_
      · intro b hb
        simp only [List.mem_cons, List.not_mem_nil, or_false] at hb
        rcases hb with rfl | rfl
        · exact hDX'
        · exact hCX'
      · intro X'' v' s6 m6 y g1 g2 g3 g4 g5 g6 g7 g8
        rw [hloc] at g6
        have g2' : ∀ b ∈ X'', b ∈ H ∨ s.heap.get? b = none := fun b hb => by
          rcases g2 b hb with q | q
          · exact fr b (by simpa using q)
          · refine .inr ?_
            cases q' : s.heap.get? b with
            | none => rfl
            | some o =>
              have e1 : s''.heap.get? b ≠ none := T.chg.dom b (ne_none_of (hs.kp b o q'))
              exact absurd q (hcb.dom b e1)
        have h6 := helt C X'' v' s6 m6 x y (back1 _ (n1 _ hCY)) (g1 C (by simpa using hCX')) (fun b hb => g1 b (by simpa using hHX' b hb)) g2' g3 hmem g4
          (((hT.nil.trans ((hcb.weaken (Y := [D, C]) fun b hb => by rw [List.mem_singleton.mp hb]; simp))).trans g5).shrink fun b hb => by
            simp only [List.mem_cons, List.not_mem_nil, or_false] at hb
            rcases hb with rfl | rfl
            · exact .inr (back1 _ (n1 _ hDY))
            · exact .inr (back1 _ (n1 _ hCY))) g6 g7 g8
        rw [← henv] at h6
        refine wpAny_mono h6 (fun _ s7 h7 => wpAny_tests_nil ⟨rfl, ?_⟩) fun _ _ x => x
        rw [if_pos rfl, hloc]
        exact h7
      · have e1 := hsz i
        have e2 := hn x hmem
        have e3 : ((xs.take i).flatMap fun x => (ys x).map (f x)).length = ((xs.take i).flatMap ys).length := by simp [List.length_flatMap]
        rw [e3]; omega
      · intro s8 vs8 m8 a1 a2 a3 _ a5
        refine ⟨⟨vs8, m8, a1, ?_, by rw [hloc] at a3; exact a3⟩, by simpa using a5⟩
        have e9 : (ys x).filter (fun _ => true) = ys x := List.filter_eq_self.mpr fun _ _ => rfl
        rw [e9] at a2
        rw [tk]; simpa using a2
    · obtain ⟨rfl, hJ, hc8⟩ := hr
      refine wpAny_pure ⟨rfl, nxt s' hJ ?_⟩
      rw [List.append_nil, hYe]
      exact (hcb.weaken fun b hb => by rw [List.mem_singleton.mp hb]; simp).trans hc8

theorem assignComp2 {α β : Type} {elt t1 i1 t2 i2 : Expr} {scope : Scope} {cl : List (Str × Addr)} {pos spos py : Pos} {y : Str} {env : Env} {H : List Addr} {s s₀ : Shared} {m : Str → Option Value} {Q : Flow → Shared → Prop} {E : Value → Shared → Prop}
    {xs : List α} {enc : α → Dat} (ys : α → List β) (encB : β → Dat) (f : α → β → Dat) (N : α → (Str → Option Value) → Prop) (n : Nat) (c : Cx s₀ env.locals m s)
    (hsw : swapsWith (.ListComp elt [⟨t1, i1, [], 0⟩, ⟨t2, i2, [], 0⟩] scope pos) (some (.Name y py)) spos.line env = pure true)
    (hclos : closureFor scope env = pure cl) (hsc : (scope.names.all fun y => y.2 != .cell) = true) (hkind : scope.kind = .function)
    (hnames : (scope.names.all fun y => y.2 != .local || decide (scope.names.lookup y.1 = some .local)) = true) (hs1 : ∀ x, foldedSetIterable i1 env x = pure x) (hs2 : ∀ C x, foldedSetIterable i2 (compEnvC scope cl C env) x = pure x)
    (hH : Dom H s.heap) (src : Src prog w A H t1 i1 env s (xs.map enc))
    (hout : Out2 prog w A H s t1 i2 t2 (fun C => compEnvC scope cl C env) xs enc ys encB N) (helt : Elt2 prog w A H s t2 elt (fun C => compEnvC scope cl C env) xs ys encB f N)
    (hsz : (xs.flatMap ys).length + n ≤ sizeLine) (hn : ∀ x ∈ xs, (ys x).length ≤ n)
    (hQ : ∀ r s', Chg [env.locals] s s' → Cx s₀ env.locals (upd m y r) s' → Has (vw s'.heap H) r (.list (xs.flatMap fun x => (ys x).map (f x))) → Q .next s')
    (hy : env.kindOf y = some .local := by rfl) (hk : env.scope.kind = .function := by rfl) :
    wpAny (model prog w) A (exec (.Assign [.Name y py] (.ListComp elt [⟨t1, i1, [], 0⟩, ⟨t2, i2, [], 0⟩] scope pos) spos) env) Q E s := by
  refine ok_any ?_
  rw [exec_Assign_Name_used _ _ _ _ hsw]
  refine wpAny_bind (wpAny_standAt (wpAny_bind ?_))
  show wpAny _ A (do let _ ← comprehension (.ListComp elt [⟨t1, i1, [], 0⟩, ⟨t2, i2, [], 0⟩] scope pos) scope env _ (newList []) false (eval i1 env) (some (assign (.Name y py) env))) _ _ s
  refine wpAny_bind (wpAny_mono (wpAny_comprehension_free (use := some (assign (.Name y py) env)) (Q := fun _ s' => Q .next s') rfl hs1 hclos hkind (fun y hy hl => ?_) (src _ fun it s₁ s₂ hs hit => ?_)) (fun _ s' hq => wpAny_pure (wpAny_pure hq)) fun _ _ e => e)
  · have := List.all_eq_true.mp hnames y hy
    simpa [hl] using this
  refine wpAny_newObj_type (wpAny_newFunctionEnv (fun x hx => by simpa using List.all_eq_true.mp hsc x hx) (by intro y hy; simp at hy) (fun h₁ hns₁ hsb₁ => ?_) hkind)
  dsimp only at hns₁ hsb₁ ⊢
  generalize hH2 : s₂.heap.push { cls := .type "list", dict := none, data := .seq ([] : List Value).toArray } = H2 at hns₁ hsb₁ ⊢
  have hC : H2.objs.size = s₂.heap.objs.size + 1 := by rw [← hH2, Heap.size_push]
  have hDC : s₂.heap.objs.size ≠ H2.objs.size := by rw [hC]; exact Nat.ne_of_lt (Nat.lt_succ_self _)
  have lt2 : ∀ {b o}, s₂.heap.get? b = some o → b ≠ H2.objs.size ∧ b ≠ s₂.heap.objs.size := fun {b o} e => by
    have h := Heap.lt_size e; rw [hC]; exact ⟨Nat.ne_of_lt (Nat.lt_succ_of_lt h), Nat.ne_of_lt h⟩
  have kp : HLe s₂.heap h₁ := fun b o e => hsb₁.extBut b o (lt2 e).1 (Heap.get?_push_of_some _ (hH2 ▸ Heap.get?_push_of_some _ e))
  have hD₁ : h₁.get? s₂.heap.objs.size = some { cls := .type "list", dict := none, data := .seq ([] : List Value).toArray } := hsb₁.extBut _ _ hDC (Heap.get?_push_of_some _ (hH2 ▸ Heap.get?_push_size _ rfl))
  have c23 : Chg [] s₂ { s₂ with heap := h₁, toks := s₂.toks + ([] : List (Str × Value)).length } := .of_le kp
  have c02 : Chg [] s s₂ := hs.trans hit.chg
  have n2D : s₂.heap.get? s₂.heap.objs.size = none := get_size_none _
  have n2C : s₂.heap.get? H2.objs.size = none := Heap.get?_none_of_le (by rw [hC]; exact Nat.le_succ _)
  have back : ∀ b, s₂.heap.get? b = none → s.heap.get? b = none := fun b e => by
    cases q : s.heap.get? b with
    | none => rfl
    | some o => rw [c02.kp b o q] at e; cases e
  have hitC : ItsAt prog w A t1 H s₁ it { s₂ with heap := h₁, toks := s₂.toks + ([] : List (Str × Value)).length } (xs.map enc) := hit.on c23
  refine compStart_ (A := A) rfl rfl ?_ fun Q E q => hitC.self q
  refine codeAny_mono (compLoop2 (Y := [s₂.heap.objs.size, H2.objs.size]) (H := H) (C := H2.objs.size) (cenv := fun C => compEnvC scope cl C env) (f := f) (ys := ys) (n := n) (N := N)
    (R := fun s' => compPost (model prog w) A No (some (assign (.Name y py) env)) (fun _ s' => Q .next s') (.ref s₂.heap.objs.size) H2.objs.size (.ok .next) s') hit hs (hH.chg hs) ?_ c23 ?_ rfl rfl rfl hDC ⟨_, hD₁⟩ hns₁ (hs2 _) hout helt ?_ hn ?_) ?_
  · intro b hb
    simp only [List.mem_cons, List.not_mem_nil, or_false] at hb
    rcases hb with rfl | rfl
    · exact n2D
    · exact n2C
  · intro b hb
    simp only [List.mem_cons, List.not_mem_nil, or_false] at hb
    rcases hb with rfl | rfl
    · exact ne_none_of hD₁
    · exact ns_dom hns₁
  · intro i
    refine Nat.le_trans ?_ hsz
    have : xs.flatMap ys = (xs.take i).flatMap ys ++ (xs.drop i).flatMap ys := by rw [← List.flatMap_append, List.take_append_drop]
    rw [this, List.length_append]; omega
  · intro s' vs mC hD' hA hn' hc
    obtain ⟨n', hl⟩ := hD'
    have hDn : s.heap.get? s₂.heap.objs.size = none := back _ n2D
    have hCn : s.heap.get? H2.objs.size = none := back _ n2C
    have hc0 : Chg [] s s' := (hs.nil.trans hc).shrink fun b hb => .inr (by
      simp only [List.mem_cons, List.not_mem_nil, or_false] at hb
      rcases hb with rfl | rfl
      · exact hDn
      · exact hCn)
    show wpAny _ A (assign (.Name y py) env (.ref s₂.heap.objs.size)) _ _ _
    have hLC : env.locals ≠ H2.objs.size := fun q => ns_dom c.ns (q ▸ hCn)
    have hLD : env.locals ≠ s₂.heap.objs.size := fun q => ns_dom c.ns (q ▸ hDn)
    have hDH : s₂.heap.objs.size ∉ H := fun q => hH _ q hDn
    refine aL (c.on hc0) (fun s'' hc'' hv'' c'' => ⟨mC, hn'.at' fun o e => hc''.keep _ o (fun q => hLC (List.mem_singleton.mp q).symm) e, fun h' hs' => ?_⟩) hk hy
    have e : Chw [H2.objs.size] s'' { s'' with heap := h' } := ⟨rfl, id, fun b o hb e => hs'.extBut b o (fun q => hb (q ▸ List.mem_singleton_self _)) e⟩
    refine hQ (.ref s₂.heap.objs.size) _ ?_ ?_ ?_
    · refine Chw.shrink (X := [H2.objs.size, env.locals]) (((hc0.toChw.weaken fun _ h => by cases h).trans (hc''.toChw.weaken fun b hb => List.mem_cons_of_mem _ hb)).trans (e.weaken fun b hb => by rw [List.mem_singleton.mp hb]; exact List.mem_cons_self ..)) (fun b hb => ?_) fun b hb q => ?_
      · rcases List.mem_cons.mp hb with rfl | hb
        · exact .inr hCn
        · exact .inl hb
      · rw [List.mem_singleton.mp hb]
        show h'.get? _ ≠ none
        rw [hs'.2 _ hLC]; exact ns_dom c''.ns
    · exact c''.go e (fun q => hLC (List.mem_singleton.mp q)) fun b hb => by
        rw [List.mem_singleton.mp hb]
        cases q : s₀.heap.get? H2.objs.size with
        | none => rfl
        | some o => rw [c.chg.kp _ o q] at hCn; cases hCn
    · refine .lst (n := n') (vs := vs) (vw_some.mpr ⟨hDH, hs'.extBut _ _ hDC (hc''.keep _ _ (fun q => hLD (List.mem_singleton.mp q).symm) hl), rfl⟩) ((hA.mono (hv'' _)).mono ?_)
      intro b o e
      obtain ⟨e1, e2, e3⟩ := vw_some.mp e
      simp only [List.cons_append, List.nil_append, List.mem_cons, not_or] at e1
      exact vw_some.mpr ⟨e1.2.2, hs'.extBut _ _ e1.2.1 e2, e3⟩
  · rintro r s' ⟨rfl, hr⟩
    exact hr
end
end Mine

end
section
-- B8
open PySem PySem.W PyProof.Rows PySem.Calls
namespace Mine
set_option maxRecDepth 100000

section
variable {prog : Program} {w : World} {A : Around} {s : Shared}
theorem pow_nat {a b : Int} {t u : Tok} {Q : Value → Shared → Prop} {E : Value → Shared → Prop} (hb : 0 ≤ b) (hs : Builtin.Int.intTooBig (((Builtin.Int.intBits a : Nat) : Int) * b) = false)
    (h : Q (.int (a ^ b.toNat) s.toks) { s with toks := s.toks + 1 }) : wpAny (model prog w) A (binaryOp .Pow (.int a t) (.int b u)) Q E s := by
  by_cases h0 : b = 0
  · subst h0
    rw [show (0 : Int).toNat = 0 from rfl, Int.pow_zero] at h
    exact AutoIntOps.pow_0 (by omega) rfl h
  · have hp : 0 < b.toNat := by omega
    by_cases h1 : (a == 0 || a == 1) = true
    · refine AutoIntOps.pow_1 (by omega) (by simpa using h0) h1 ?_
      have e : a ^ b.toNat = a := by
        rcases Bool.or_eq_true_iff.mp h1 with q | q
        · have : a = 0 := by simpa using q
          subst this; exact Int.zero_pow (by omega)
        · have : a = 1 := by simpa using q
          subst this; exact Int.one_pow
      rw [e] at h; exact h
    · by_cases h2 : (a == -1) = true
      · refine AutoIntOps.pow_2 (by omega) (by simpa using h0) h1 h2 ?_
        have ha : a = -1 := by simpa using h2
        subst ha
        have e : (if (b % 2 == 0) = true then (1 : Int) else -1) = (-1) ^ b.toNat := by
          rw [neg_one_pow']
          by_cases q : b % 2 = 0
          · rw [if_pos (by simpa using q), if_pos (by omega)]
          · rw [if_neg (by simpa using q), if_neg (by omega)]
        rw [e]; exact h
      · exact AutoIntOps.pow_4 (by omega) (by simpa using h0) h1 h2 (by rw [hs]; exact Bool.false_ne_true) h
end

/-- a name that reads v while the heap is h -/
noncomputable def Rd (prog : Program) (w : World) (A : Around) (env : Env) (h : Heap) (x : Str) (v : Value) : Prop :=
  ∀ (pos : Pos) (s : Shared) (Q : Value → Shared → Prop) (E : Value → Shared → Prop), s.heap = h → Q v s → wpAny (model prog w) A (eval (.Name x pos) env) Q E s

/-- an expression of ints: run at h it gives n -/
noncomputable def IE (prog : Program) (w : World) (A : Around) (env : Env) (h : Heap) (e : Expr) (n : Int) : Prop :=
  ∀ (s : Shared) (Q : Value → Shared → Prop) (E : Value → Shared → Prop), s.heap = h → (∀ t k, Q (.int n t) { s with toks := k }) → wpAny (model prog w) A (eval e env) Q E s
section
variable {prog : Program} {w : World} {A : Around} {env : Env} {h : Heap} {l r e idx : Expr} {a b n i : Int} {pos pos' : Pos} {x : Str} {v : Value} {X : List Addr} {ds : List Dat}
theorem IE.run (x : IE prog w A env h e n) (s : Shared) (Q : Value → Shared → Prop) (E : Value → Shared → Prop) (hs : s.heap = h) (hQ : ∀ t k, Q (.int n t) { s with toks := k }) : wpAny (model prog w) A (eval e env) Q E s := x s Q E hs hQ
theorem IE.of (H : ∀ (s : Shared) (Q : Value → Shared → Prop) (E : Value → Shared → Prop), s.heap = h → (∀ t k, Q (.int n t) { s with toks := k }) → wpAny (model prog w) A (eval e env) Q E s) : IE prog w A env h e n := H
theorem IE.const {k : Nat} : IE prog w A env h (.Constant (.int i) k pos) i := fun _ _ _ _ hQ => wpAny_Constant_int (hQ _ _)
theorem IE.name {t : Tok} (r : Rd prog w A env h x (.int n t)) : IE prog w A env h (.Name x pos) n := fun s Q E hs hQ => r _ s Q E hs (hQ _ s.toks)
theorem IE.add (hl : IE prog w A env h l a) (hr : IE prog w A env h r b) : IE prog w A env h (.BinOp l .Add r pos) (a + b) := fun s _ _ hs hQ => wpAny_BinOp (hl s _ _ hs fun _ _ => hr _ _ _ hs fun _ _ => P.add_int (hQ _ _))
theorem IE.sub (hl : IE prog w A env h l a) (hr : IE prog w A env h r b) : IE prog w A env h (.BinOp l .Sub r pos) (a - b) := fun s _ _ hs hQ => wpAny_BinOp (hl s _ _ hs fun _ _ => hr _ _ _ hs fun _ _ => P.sub_int (hQ _ _))
theorem IE.mul (hl : IE prog w A env h l a) (hr : IE prog w A env h r b) (hm : IntMulOk a b) : IE prog w A env h (.BinOp l .Mult r pos) (a * b) := fun s _ _ hs hQ => wpAny_BinOp (hl s _ _ hs fun _ _ => hr _ _ _ hs fun _ _ => P.mul_int (hQ _ _) hm)
theorem IE.fdiv (hl : IE prog w A env h l a) (hr : IE prog w A env h r b) (h0 : b ≠ 0) (hp : Builtin.divisionGoesByPylong a b = false) : IE prog w A env h (.BinOp l .FloorDiv r pos) (a.fdiv b) := fun s _ _ hs hQ => wpAny_BinOp (hl s _ _ hs fun _ _ => hr _ _ _ hs fun _ _ => AutoIntOps.floordiv_1 (by simpa using h0) (by rw [hp]; exact Bool.false_ne_true) (hQ _ _))
theorem IE.mod (hl : IE prog w A env h l a) (hr : IE prog w A env h r b) (h0 : b ≠ 0) : IE prog w A env h (.BinOp l .Mod r pos) (a.fmod b) := fun s _ _ hs hQ => wpAny_BinOp (hl s _ _ hs fun _ _ => hr _ _ _ hs fun _ _ => AutoIntOps.mod_1 (by simpa using h0) (hQ _ _))
theorem IE.pow (hl : IE prog w A env h l a) (hr : IE prog w A env h r b) (h0 : 0 ≤ b) (hp : Builtin.Int.intTooBig (((Builtin.Int.intBits a : Nat) : Int) * b) = false) : IE prog w A env h (.BinOp l .Pow r pos) (a ^ b.toNat) := fun s _ _ hs hQ => wpAny_BinOp (hl s _ _ hs fun _ _ => hr _ _ _ hs fun _ _ => pow_nat h0 hp (hQ _ _))
theorem IE.neg (he : IE prog w A env h e a) : IE prog w A env h (.UnaryOp .USub e pos) (-a) := fun s _ _ hs hQ => wpAny_UnaryOp (he s _ _ hs fun _ _ => P.neg_int (hQ _ _))
theorem IE.item (r : Rd prog w A env h x v) (hv : Has (vw h X) v (.list ds)) (hi : IE prog w A env h idx i) (h0 : 0 ≤ i) (hsz : i < 2 ^ 63) (hd : ds[i.toNat]? = some (.int n))
    (hs' : ∀ o i, subscripted idx false o i = operate [o, i] (getItem o i)) : IE prog w A env h (.Subscript (.Name x pos') idx pos) n := fun s Q E hs hQ => by
  obtain ⟨a, vs, m, rfl, hV, hA⟩ := hv.lst_inv
  obtain ⟨_, ha, _⟩ := vw_some.mp hV
  obtain ⟨v', hv', hh⟩ := hA.at hd
  obtain ⟨t, rfl⟩ := hh.int_inv
  have hl : s.heap.IsList a vs.toArray := by rw [hs]; exact ⟨_, ha, rfl, m, rfl⟩
  refine Subscript_ (r _ s _ _ hs (hi s _ _ hs fun t' k => subscriptTail_builtin (T := "list") hl.typeIs F.slot_list_getitem.lookup (wpAny_getItem_list hl h0 hsz (by simpa using hv') (hQ _ _)) (hs' _ _) (fun _ => rfl)))
end

section
variable {prog : Program} {w : World} {A : Around} {s s₀ : Shared} {env : Env} {m : Str → Option Value} {K : Frag}
theorem Rd.loc {x : Str} {v : Value} (c : Cx s₀ env.locals m s) (hv : m x = some v) (hk : env.scope.kind = .function := by rfl) (hl : env.kindOf x = some .local := by rfl) (hd : (x == ("__debug__" : Str)) = false := by decide) :
    Rd prog w A env s.heap x v := fun _ _ _ _ e q => nN (e ▸ c.ns) hv q hk hl hd
theorem Rd.ns {x : Str} {v : Value} {h : Heap} (n : h.Ns env.locals m) (hv : m x = some v) (hk : env.scope.kind = .function := by rfl) (hl : env.kindOf x = some .local := by rfl) (hd : (x == ("__debug__" : Str)) = false := by decide) :
    Rd prog w A env h x v := fun _ _ _ _ e q => nN (e ▸ n) hv q hk hl hd
theorem Rd.cell {x : Str} {v : Value} {c : Addr} {h : Heap} (hc : h.IsCell c (some v)) (hk : env.scope.kind = .function := by rfl) (hl : env.kindOf x = some .cell := by rfl) (hcl : env.cells.lookup x = some c := by rfl) (hd : (x == ("__debug__" : Str)) = false := by decide) :
    Rd prog w A env h x v := fun _ _ _ _ e q => nC (e ▸ hc) q hk hl hcl hd
theorem Rd.on {x : Str} {v : Value} {h h' : Heap} (r : Rd prog w A env h x v) (e : h' = h) : Rd prog w A env h' x v := e ▸ r
/-- what stands as it stood in the frame -/
theorem Cx.stab {s₁ s' : Shared} {L : Addr} {m1 : Str → Option Value} {X Z : List Addr} (c1 : Cx s₀ L m1 s₁) (hL : L ∈ X) (hZ : ∀ b ∈ Z, b ∉ X) (hn : ∀ b ∈ Z, s₁.heap.get? b = none) (c : Cx s₀ L m s) (a : Chw Z s s') : Cx s₀ L m s' :=
  c.go a (fun q => hZ _ q hL) fun b hb => by
    cases e : s₀.heap.get? b with
    | none => rfl
    | some o => have := c1.chg.kp b o e; rw [hn b hb] at this; cases this
end

section
variable {prog : Program} {w : World} {A : Around} {s : Shared} {env : Env} {h : Heap}
theorem rd {x : Str} {v : Value} {pos : Pos} {Q : Value → Shared → Prop} {E : Value → Shared → Prop} (r : Rd prog w A env h x v) (e : s.heap = h) (q : Q v s) : wpAny (model prog w) A (eval (.Name x pos) env) Q E s := r _ s _ _ e q
theorem IE.call1 {f : Str} {fp pos : Pos} {id : String} {e : Expr} {n : Int} {v : Value} (r : Rd prog w A env h f (.builtin id)) (he : ∀ (s : Shared) (Q : Value → Shared → Prop) (E : Value → Shared → Prop), s.heap = h → (∀ (k : Nat), Q v { s with toks := k }) → wpAny (model prog w) A (eval e env) Q E s)
    (hc : ∀ (s : Shared) (Q : Value → Shared → Prop) (E : Value → Shared → Prop), s.heap = h → (∀ t k, Q (.int n t) { s with toks := k }) → wpAny (model prog w) A (call (.builtin id) [v]) Q E s)
    (hst : starEach [e] env = (false, eval e env) :: starEach [] env := by rfl) : IE prog w A env h (.Call (.Name f fp) [e] [] pos) n :=
  .of fun s Q E hs hQ => wpAny_Call_NameR (rd r hs (callWith_builtin1 (spliced_more (he s _ _ hs fun k => spliced_none (hc _ _ _ hs hQ)) hst) hst))
theorem IE.lenB {x f : Str} {xp fp pos : Pos} {b : Array UInt8} {t : Tok} (r : Rd prog w A env h f (.builtin "len")) (rx : Rd prog w A env h x (.bytes b t)) (hb : b.size ≤ 1099511627776)
    (hst : starEach [.Name x xp] env = (false, eval (.Name x xp) env) :: starEach [] env := by rfl) : IE prog w A env h (.Call (.Name f fp) [.Name x xp] [] pos) b.size :=
  .call1 r (fun s Q E e q => rd rx e (q _)) (fun s Q E e q => len_bytes hb (q _ _)) hst
theorem IE.lenL {x f : Str} {xp fp pos : Pos} {X : List Addr} {ds : List Dat} {v : Value} (r : Rd prog w A env h f (.builtin "len")) (rx : Rd prog w A env h x v) (hv : Has (vw h X) v (.list ds)) (hb : ds.length ≤ 1099511627776)
    (hst : starEach [.Name x xp] env = (false, eval (.Name x xp) env) :: starEach [] env := by rfl) : IE prog w A env h (.Call (.Name f fp) [.Name x xp] [] pos) ds.length := by
  obtain ⟨a, vs, n, rfl, hV, hA⟩ := hv.lst_inv
  obtain ⟨_, ha, _⟩ := vw_some.mp hV
  have hl : h.IsList a vs.toArray := ⟨_, ha, rfl, n, rfl⟩
  rw [show (ds.length : Int) = (vs.toArray.size : Int) by rw [hA.length.symm]; simp]
  refine .call1 r (fun s Q E e q => rd rx e (q s.toks)) (fun s Q E e q => ?_) hst
  exact call_len_list (show s.heap.IsList a vs.toArray from e ▸ hl) (by have := hA.length; simp [this]; omega) (q _ _)
theorem IE.lenS {x f : Str} {xp fp pos : Pos} {y : Str} {t : Tok} (r : Rd prog w A env h f (.builtin "len")) (rx : Rd prog w A env h x (.str y t)) (hb : y.length ≤ 1099511627776)
    (hst : starEach [.Name x xp] env = (false, eval (.Name x xp) env) :: starEach [] env := by rfl) : IE prog w A env h (.Call (.Name f fp) [.Name x xp] [] pos) y.length :=
  .call1 r (fun s Q E e q => rd rx e (q s.toks)) (fun s Q E e q => SBL.len (by omega) (q _ _)) hst
end
end Mine

end
section
-- B9
open PySem PySem.W PyProof.Rows PySem.Calls
namespace Mine
set_option maxRecDepth 100000
section
variable {prog : Program} {w : World} {A : Around} {X : List Addr} {s : Shared} {Q : Value → Shared → Prop} {E : Value → Shared → Prop} {target : Expr}

theorem small_of {a b c : Int} {n : Nat} (hn : Builtin.Range.rangeSize a b c = n) (hn' : n ≤ 2 ^ 40) (hc : 0 < c) (ha : -(2 ^ 40) ≤ a ∧ a ≤ 2 ^ 40) (hb : -(2 ^ 40) ≤ b ∧ b ≤ 2 ^ 40) (hc2 : c ≤ 2 ^ 40) : Builtin.Range.small a b c = true := by
  unfold Builtin.Range.small
  rw [hn, if_pos hc]
  have f : ∀ x : Int, -(2 ^ 42) ≤ x ∧ x ≤ 2 ^ 42 → Builtin.Range.rangeFitsLong x = true := fun x hx => by
    unfold Builtin.Range.rangeFitsLong
    simp only [Bool.and_eq_true, decide_eq_true_eq]; omega
  rw [f a (by omega), f b (by omega), f c (by omega), f n (by omega), f (b + (c - 1)) (by omega)]
  simp
theorem rangeSize_up {a b : Int} {n : Nat} (h : b - a = n) : Builtin.Range.rangeSize a b 1 = n := by
  unfold Builtin.Range.rangeSize
  rw [if_pos (by omega)]
  split <;> omega
theorem rangeSize_mul {k m : Nat} (hk : 0 < k) : Builtin.Range.rangeSize 0 (m * k : Nat) k = m := by
  unfold Builtin.Range.rangeSize
  rw [if_pos (by omega)]
  cases m with
  | zero => rw [Nat.zero_mul, if_neg (by omega)]; rfl
  | succ m =>
    have h1 : (0 : Int) < ((m + 1) * k : Nat) := Int.ofNat_lt.mpr (Nat.mul_pos (Nat.succ_pos m) hk)
    rw [if_pos h1]
    have h2 : (((m + 1) * k : Nat) : Int) - 0 - 1 = (k - 1 : Int) + k * m := by
      rw [Nat.add_mul, Nat.one_mul, Int.natCast_add, Int.natCast_mul, Int.mul_comm]; omega
    rw [h2, Int.add_mul_ediv_left _ _ (by omega), Int.ediv_eq_zero_of_lt (by omega) (by omega)]
    omega

theorem range_it {a b c : Int} {t u v : Tok} {n tk : Nat} (hh : A.handled = none) (hX : Dom X s.heap) (e : Builtin.Range.rangeSize a b c = n) (hs : Builtin.Range.small a b c = true)
    (h : ∀ it s', ItsAt prog w A target X s it s' ((rng a c n).map .int) → Q it s') :
    wpAny (model prog w) A (pyIter (.ref s.heap.objs.size)) Q E { s with heap := s.heap.push { cls := .type "range", data := .fields #[.int a t, .int b u, .int c v] }, toks := tk } := by
  refine wpAny_pyIter_range (Heap.get?_push_size _ rfl) hs ?_
  have hlt : ∀ {x : Obj}, (s.heap.push x).objs.size = s.heap.objs.size + 1 := fun {x} => Heap.size_push ..
  refine h _ _ (iter_rangeit hh hX ?_ ?_ ((Chg.push (t := tk)).trans .push))
  · exact Heap.get?_none_of_le (by rw [hlt]; omega)
  · rw [← e]; exact Heap.get?_push_size _ rfl
theorem rng_item {a c : Int} {n i : Nat} {d : Dat} (h : ((rng a c n).map Dat.int)[i]? = some d) : i < n ∧ d = .int (a + i * c) := by
  have hi : i < n := by
    by_cases q : i < n
    · exact q
    · rw [List.getElem?_eq_none (by simp [rng]; omega)] at h; cases h
  rw [List.getElem?_map, rng_get hi] at h
  exact ⟨hi, (Option.some.inj h).symm⟩
theorem one_in {a : Addr} {X : List Addr} (h : a ∈ X) : ∀ b ∈ [a], b ∈ X := fun b hb => by rw [List.mem_singleton.mp hb]; exact h
/-- range(n), walked -/
theorem range1 {n : Nat} {t : Tok} (hh : A.handled = none) (hX : Dom X s.heap) (hn : n ≤ 2 ^ 40) (h : ∀ it s', ItsAt prog w A target X s it s' ((rng 0 1 n).map .int) → Q it s') :
    wpAny (model prog w) A (call (.type "range") [.int n t]) (fun r s₁ => wpAny (model prog w) A (pyIter r) Q E s₁) E s := by
  have e := rangeSize_up (a := 0) (b := n) (n := n) (by omega)
  exact call_range_1 (range_it hh hX e (small_of e hn (by omega) (by omega) (by omega) (by omega)) h)
theorem range2 {a b : Int} {n : Nat} {t u : Tok} (hh : A.handled = none) (hX : Dom X s.heap) (e : b - a = n) (hn : n ≤ 2 ^ 40) (ha : -(2 ^ 40) ≤ a ∧ a ≤ 2 ^ 40) (hb : -(2 ^ 40) ≤ b ∧ b ≤ 2 ^ 40) (h : ∀ it s', ItsAt prog w A target X s it s' ((rng a 1 n).map .int) → Q it s') :
    wpAny (model prog w) A (call (.type "range") [.int a t, .int b u]) (fun r s₁ => wpAny (model prog w) A (pyIter r) Q E s₁) E s := by
  have e := rangeSize_up e
  exact call_range_2 (range_it hh hX e (small_of e hn (by omega) ha hb (by omega)) h)
theorem range3 {m k : Nat} {b : Int} {t u v : Tok} (hh : A.handled = none) (hX : Dom X s.heap) (hk : 0 < k) (hm : m ≤ 2 ^ 40) (hb : b = (m * k : Nat)) (hs : m * k ≤ 2 ^ 40) (hk2 : k ≤ 2 ^ 20) (h : ∀ it s', ItsAt prog w A target X s it s' ((rng 0 k m).map .int) → Q it s') :
    wpAny (model prog w) A (call (.type "range") [.int 0 t, .int b u, .int k v]) (fun r s₁ => wpAny (model prog w) A (pyIter r) Q E s₁) E s := by
  subst hb
  have e := rangeSize_mul (k := k) (m := m) hk
  exact call_range_3 (by omega) (range_it hh hX e (small_of e hm (by omega) (by omega) (by omega) (by omega)) h) (.inl (PyProof.noPylong_small (by omega)))

theorem back {s s' : Shared} {b : Addr} (a : Chg [] s s') (e : s'.heap.get? b = none) : s.heap.get? b = none := by
  cases q : s.heap.get? b with
  | none => rfl
  | some o => rw [a.kp b o q] at e; cases e
theorem Turn.back {H X : List Addr} {s s₁ : Shared} {ds : List Dat} {J : List Addr → Nat → Shared → Prop} {X' : List Addr} {i : Nat} {d : Dat} {v : Value} {st : Shared} (T : Turn H X s₁ ds J X' i d v st) (a : Chg [] s s₁) : Turn H X s ds J X' i d v st :=
  { sub := T.sub, fresh := fun b hb => (T.fresh b hb).imp id (Mine.back a), dom := T.dom, item := T.item, inv := T.inv,
    chgW := let ⟨W, h1, h2, h3⟩ := T.chgW; ⟨W, fun b hb => Mine.back a (h1 b hb), h2, a.nil.trans h3⟩, has := T.has, xh := T.xh }
theorem Last.back {H X : List Addr} {s s₁ : Shared} {n : Nat} {J : List Addr → Nat → Shared → Prop} {X' : List Addr} {st : Shared} (T : Last H X s₁ n J X' st) (a : Chg [] s s₁) : Last H X s n J X' st :=
  ⟨T.sub, fun b hb => (T.fresh b hb).imp id (Mine.back a), T.inv, a.nil.trans T.chg⟩

variable {iter : Expr} {body : List Stmt} {env : Env} {pos : Pos} {ds : List Dat}
/-- a for statement -/
theorem forI {R : Flow → Shared → Prop} (J : List Addr → Nat → Shared → Prop) (src : Src prog w A X target iter env s ds) (hX : Dom X s.heap)
    (h0 : ∀ X' s₂, Chg [] s s₂ → (∀ b ∈ X, b ∈ X') → (∀ b ∈ X', b ∈ X ∨ s.heap.get? b = none) → J X' 0 s₂)
    (stab : ∀ X' Z i st st', (∀ b ∈ Z, b ∈ X') → (∀ b ∈ Z, b ∉ X) → (∀ b ∈ Z, s.heap.get? b = none) → J X' i st → Chw Z st st' → J X' i st')
    (step : ∀ X' i d v st, Turn X X s ds J X' i d v st →
      wpAny (model prog w) A (assign target env v) (fun _ s₃ => wpAny (model prog w) A (execs body env) (fun f s₄ => match f with
        | .next | .cont => J X' (i + 1) s₄ ∧ Chg X st s₄
        | .brk => R .next s₄
        | .ret v => R (.ret v) s₄) No s₃) No st)
    (fin : ∀ X' st, Last X X s ds.length J X' st → R .next st)
    (hs : ∀ x, foldedSetIterable iter env x = pure x := by intro _; rfl) :
    wpAny (model prog w) A (exec (.For target iter body [] pos) env) R E s := by
  refine wpAny_For (ok_any (wpAny_mono (src _ fun it s₁ s₂ a hit => ?_) (fun _ _ q => wpAny_mono q (fun _ _ x => x) fun _ _ x => x.elim) fun _ _ x => x)) hs
  refine codeAny_mono (forR (R := R) J hit (hX.chg a) (fun X' h1 h2 => h0 X' s₂ (a.trans hit.chg) h1 fun b hb => (h2 b hb).imp id (Mine.back a))
    (fun X' Z i st st' h1 h2 h3 => stab X' Z i st st' h1 h2 fun b hb => Mine.back a (h3 b hb)) (fun X' i d v st T => step X' i d v st (T.back a)) fun X' st T => fin X' st (T.back a)) fun r s' hr => ?_
  cases r with
  | ok f => exact hr
  | error e => exact hr.elim
theorem srcRange1 {e : Expr} {rp p : Pos} {n : Nat} (hh : A.handled = none) (hX : Dom X s.heap) (rr : Rd prog w A env s.heap (Str.ofString "range") (.type "range")) (he : IE prog w A env s.heap e n) (hn : n ≤ 2 ^ 40)
    (hst : starEach [e] env = (false, eval e env) :: starEach [] env := by rfl) : Src prog w A X target (.Call (.Name (Str.ofString "range") rp) [e] [] p) env s ((rng 0 1 n).map .int) := by
  intro Q hQ
  exact wpAny_Call_NameR (rr _ s _ _ rfl (Pv.callWith_type1 (spliced_more (he.run s _ _ rfl fun t k => spliced_none (range1 hh hX hn fun it s' hit => hQ it _ s' .toks hit)) hst) hst rfl))
theorem srcRange2 {e1 e2 : Expr} {rp p : Pos} {a b : Int} {n : Nat} (hh : A.handled = none) (hX : Dom X s.heap) (rr : Rd prog w A env s.heap (Str.ofString "range") (.type "range")) (he1 : IE prog w A env s.heap e1 a) (he2 : IE prog w A env s.heap e2 b) (hn : b - a = n) (hn2 : n ≤ 2 ^ 40) (ha : -(2 ^ 40) ≤ a ∧ a ≤ 2 ^ 40) (hb : -(2 ^ 40) ≤ b ∧ b ≤ 2 ^ 40)
    (hst : starEach [e1, e2] env = (false, eval e1 env) :: starEach [e2] env := by rfl) (hst2 : starEach [e2] env = (false, eval e2 env) :: starEach [] env := by rfl) (hpl : (backTo p (starEach [e2] env)).any (·.1) = false := by rfl) :
    Src prog w A X target (.Call (.Name (Str.ofString "range") rp) [e1, e2] [] p) env s ((rng a 1 n).map .int) := by
  intro Q hQ
  exact wpAny_Call_NameR (rr _ s _ _ rfl (Pv.callWith_type1 (spliced_more (he1.run s _ _ rfl fun t k => spliced_more (he2.run _ _ _ rfl fun t' k' => spliced_none (range2 hh hX hn hn2 ha hb fun it s' hit => hQ it _ s' .toks hit)) hst2) hst) hst hpl))
theorem srcRange3 {e1 e2 e3 : Expr} {rp p : Pos} {m k : Nat} {b : Int} (hh : A.handled = none) (hX : Dom X s.heap) (rr : Rd prog w A env s.heap (Str.ofString "range") (.type "range"))
    (he1 : IE prog w A env s.heap e1 0) (he2 : IE prog w A env s.heap e2 b) (he3 : IE prog w A env s.heap e3 k)
    (hk : 0 < k) (hm : m ≤ 2 ^ 40) (hb : b = (m * k : Nat)) (hs : m * k ≤ 2 ^ 40) (hk2 : k ≤ 2 ^ 20)
    (hst : starEach [e1, e2, e3] env = (false, eval e1 env) :: starEach [e2, e3] env := by rfl) (hst2 : starEach [e2, e3] env = (false, eval e2 env) :: starEach [e3] env := by rfl) (hst3 : starEach [e3] env = (false, eval e3 env) :: starEach [] env := by rfl) (hpl : (backTo p (starEach [e2, e3] env)).any (·.1) = false := by rfl) :
    Src prog w A X target (.Call (.Name (Str.ofString "range") rp) [e1, e2, e3] [] p) env s ((rng 0 k m).map .int) := by
  intro Q hQ
  exact wpAny_Call_NameR (rr _ s _ _ rfl (Pv.callWith_type1 (spliced_more (he1.run s _ _ rfl fun t k1 => spliced_more (he2.run _ _ _ rfl fun t' k' => spliced_more (he3.run _ _ _ rfl fun t'' k'' => spliced_none (range3 hh hX hk hm hb hs hk2 fun it s' hit => hQ it _ s' .toks hit)) hst3) hst2) hst) hst hpl))
/-- a list that an expression gives -/
theorem srcList (hh : A.handled = none) (hX : Dom X s.heap) (h : ∀ Q : Value → Shared → Prop, (∀ v s', Chg [] s s' → Has (vw s'.heap X) v (.list ds) → Q v s') → wpAny (model prog w) A (eval iter env) Q No s) : Src prog w A X target iter env s ds :=
  fun Q hQ => h _ fun v s' a hv => iter_list hh (hX.chg a) hv fun it s₂ hit => hQ it s' s₂ a hit
end
section
variable {prog : Program} {w : World} {A : Around} {s s₀ : Shared} {env : Env} {m : Str → Option Value} {K : Frag}
theorem Rd.glob {x : Str} {v : Value} (G : Glb K s.heap) (e : nsIn K mainGlobals x = some (some v)) 
    (hg : env.globals = mainGlobals := by rfl) (hk : env.scope.kind = .function := by rfl) (hx : env.kindOf x = some .globalImplicit := by rfl) (hd : (x == ("__debug__" : Str)) = false := by decide) : Rd prog w A env s.heap x v :=
  fun _ _ _ _ e' q => nG (e' ▸ G) e q hg hk hx hd
theorem Rd.bi {x : Str} {v : Value} (G : Glb K s.heap) (e : nsIn K mainGlobals x = some none) (hv : bootBuiltins x = some v) (hn : x ≠ "__name__")
    (hg : env.globals = mainGlobals := by rfl) (hb : env.builtins = builtinsNs := by rfl) (hk : env.scope.kind = .function := by rfl) (hx : env.kindOf x = some .globalImplicit := by rfl) (hd : (x == ("__debug__" : Str)) = false := by decide) : Rd prog w A env s.heap x v :=
  fun _ _ _ _ e' q => nB (e' ▸ G) e hv hn q hg hb hk hx hd
end
end Mine

end
section
-- X1
open PySem PySem.W PyProof.Rows PySem.Calls
namespace Mine
set_option maxRecDepth 100000

/-- a code under which a bytearray is not held -/
noncomputable def cleanC (c : Code) : Bool := !c.isGuard && (match c with | .builtin id _ => !(Builtin.Bytes.decodersThatHold.contains id) | _ => true)
noncomputable def Safe (Γ : Ctx) : Prop := cleanC Γ.code = true ∧ ∀ x ∈ Γ.below, cleanC x.1 = true
/-- as wpAny, but under clean codes alone, and raising nothing -/
noncomputable def wpX {α : Type} (M : Model) (A : Around) (t : Sem α) (Q : α → Shared → Prop) (s : Shared) : Prop :=
  ∀ Γ p, Γ.In A → Safe Γ → Sem.wp M Γ t (fun a _ s' => Q a s') (fun _ _ _ => False) p s
noncomputable def codeX (M : Model) (A : Around) (c : Code) (R : Result → Shared → Prop) (s : Shared) : Prop :=
  ∀ Γ p, Γ.code = c → Γ.Below A → (∀ x ∈ Γ.below, cleanC x.1 = true) → wpCode M Γ R p s

section
variable {α β : Type} {M : Model} {A : Around} {s : Shared}
theorem wpX.of {t : Sem α} {Q : α → Shared → Prop} (h : wpAny M A t Q No s) : wpX M A t Q s := fun Γ p hΓ _ => h Γ p hΓ
theorem codeX.of {c : Code} {R : Result → Shared → Prop} (h : codeAny M A c R s) : codeX M A c R s := fun Γ p hc hΓ _ => h Γ p hc hΓ
theorem wpX_mono {t : Sem α} {Q Q' : α → Shared → Prop} (h : wpX M A t Q s) (hQ : ∀ a s, Q a s → Q' a s) : wpX M A t Q' s :=
  fun Γ p hΓ hS => Sem.wp_mono M Γ t (fun a _ s => hQ a s) (fun _ _ _ x => x) p s (h Γ p hΓ hS)
theorem wpX_pure {a : α} {Q : α → Shared → Prop} (h : Q a s) : wpX M A (pure a) Q s := .of (wpAny_pure h)
theorem wpX_bind {m : Sem α} {f : α → Sem β} {Q : β → Shared → Prop} (h : wpX M A m (fun a s' => wpX M A (f a) Q s') s) : wpX M A (m >>= f) Q s := fun Γ p hΓ hS => by
  rw [Sem.wp_bind']
  exact Sem.wp_mono M Γ m (fun a p' s' h' => h' Γ p' hΓ hS) (fun _ _ _ h' => h') p s (h Γ p hΓ hS)
theorem wpX_bindA {m : Sem α} {f : α → Sem β} {Q : β → Shared → Prop} (h : wpAny M A m (fun a s' => wpX M A (f a) Q s') No s) : wpX M A (m >>= f) Q s := wpX_bind (.of h)
theorem wpX_holding {vs : List Value} {m : Sem α} {Q : α → Shared → Prop} (h : wpX M A m Q s) : wpX M A (holding vs m) Q s :=
  fun Γ p hΓ hS => by rw [Sem.wp_holding]; exact h Γ p hΓ hS
theorem wpX_keep {vs : List Value} {m : Sem α} {Q : α → Shared → Prop} (h : wpX M A m Q s) : wpX M A (m.keep vs) Q s :=
  fun Γ p hΓ hS => by rw [Sem.wp_keep]; exact h Γ p hΓ hS
theorem wpX_onRaise {m : Sem α} {k : Value → Sem Unit} {Q : α → Shared → Prop} (h : wpX M A m Q s) : wpX M A (m.onRaise k) Q s := fun Γ p hΓ hS => by
  rw [Sem.wp_onRaise]
  exact Sem.wp_mono M Γ m (fun _ _ _ h' => h') (fun e p' s' h' => h'.elim) p s (h Γ p hΓ hS)
theorem safe_enter {Γ : Ctx} {c : Code} {h : Option Value} {p : Pos} (S : Safe Γ) : ∀ x ∈ (Γ.enter c h p).below, cleanC x.1 = true := by
  intro x hx
  rcases List.mem_cons.mp hx with rfl | hx
  · exact S.1
  · exact S.2 x hx
theorem wpX_run {c : Code} {h : Option Value} {Q : Flow → Shared → Prop}
    (hc : codeX M (A.mark h) c (fun r s' => match r with | .ok f => Q f s' | .error _ => False) s) (hnb : h ≠ some byPass := by intro x; cases x) : wpX M A (run c h) Q s :=
  fun Γ p hΓ hS => by rw [Sem.wp_run]; exact hc _ p rfl (hΓ.enter c h p hnb) (safe_enter hS)
theorem wpX_runValue {c : Code} {Q : Value → Shared → Prop}
    (hc : codeX M A c (fun r s' => match r with | .ok (.ret v) => Q v s' | .ok _ => False | .error _ => False) s) :
    wpX M A (runValue c) Q s := fun Γ p hΓ hS => by rw [Sem.wp_runValue]; exact hc _ p rfl (hΓ.enter c none p (by intro x; cases x)) (safe_enter hS)
theorem wpX_call {f : Value} {pos : List Value} {kw : List (Str × Value)} {Q : Value → Shared → Prop}
    (hc : codeX M A (.call f ⟨pos, kw⟩) (fun r s' => match r with | .ok (.ret v) => Q v s' | .ok _ => False | .error _ => False) s) : wpX M A (call f pos kw) Q s := wpX_runValue hc
theorem wpX_runOwn {c : Code} {env : Env} {h : Option Value} {Q : Flow → Shared → Prop}
    (hc : codeX M (A.mark h) c (fun r s' => match r with | .ok f => Q f s' | .error _ => False) s) (hnb : h ≠ some byPass := by intro x; cases x) :
    wpX M A (runOwn c env h) Q s := by
  unfold runOwn
  exact wpX_onRaise (wpX_run hc hnb)
theorem codeX_of_tree {c : Code} {R : Result → Shared → Prop} (hcl : cleanC c = true)
    (h : wpX M (A.under c) (M.den c) (fun fin s' => match fin with | .done f => R (.ok f) s' | .again c' => c'.quiet = true ∧ codeX M A c' R s') s) : codeX M A c R s := fun Γ p hc hΓ hS => by
  rw [wpCode_iff_wp, hc]
  refine Sem.wp_mono M Γ _ (fun fin p' s' h' => ?_) (fun _ _ _ h' => h'.elim) p s (h Γ p (hc ▸ hΓ.in) ⟨by rw [hc]; exact hcl, hS⟩)
  cases fin with
  | done f => exact h'
  | again c' => exact ⟨h'.1, h'.2 (Γ.goto c') p' rfl (hΓ.goto c') hS⟩
theorem codeX_loop {c : Code} {R : Result → Shared → Prop} (hq : c.quiet = true) (hcl : cleanC c = true) (I : Nat → Shared → Prop)
    (turn : ∀ n s, I n s → wpX M (A.under c) (M.den c) (fun fin s' => match fin with
        | .done f => R (.ok f) s'
        | .again c' => (c' = c ∧ ∃ m, m < n ∧ I m s') ∨ (c'.quiet = true ∧ codeX M A c' R s')) s) :
    ∀ (n : Nat) {s : Shared}, I n s → codeX M A c R s := fun n s h => codeX_of_tree hcl (wpX_mono (turn n s h) fun
      | .done _, _, e => e
      | .again _, _, .inl ⟨e, m, _, i⟩ => ⟨e ▸ hq, e ▸ codeX_loop hq hcl I turn m i⟩
      | .again _, _, .inr e => e)
termination_by n => n

theorem exported_clean {c : Code} {p : Pos} {self : Value} (h : cleanC c = true) : (match (c, p) with
    | (.builtin "bytearray.__contains__" ⟨v :: _, _⟩, _) | (.builtin "bytearray.__mod__" ⟨v :: _, _⟩, _)
    | (.builtin "bytearray.__rmod__" ⟨_ :: v :: _, _⟩, _) | (.builtin "_struct.pack_into.held" ⟨v :: _, _⟩, _) => Builtin.Bytes.sameRef v self
    | (.builtin "bytearray.find.held" ⟨_ :: _ :: held, _⟩, _) => held.any (Builtin.Bytes.sameRef self)
    | (.builtin id ⟨v :: _, _⟩, _) => Builtin.Bytes.sameRef v self && Builtin.Bytes.decodersThatHold.contains id
    | _ => false) = false := by
  obtain ⟨h1, h2⟩ := Bool.and_eq_true_iff.mp h
  split
  case h_6 =>
    rename_i hq
    injection hq with hq _
    subst hq
    have h2' : (!(Builtin.Bytes.decodersThatHold.contains _)) = true := h2
    rw [Bool.not_eq_true'] at h2'
    rw [h2', Bool.and_false]
  case h_7 => rfl
  all_goals
    rename_i hq
    injection hq with hq _
    subst hq
    exact absurd h1 (by simp [Code.isGuard, guardIds])
theorem wpX_exported {self : Value} {Q : Bool → Shared → Prop} (h : Q false s) : wpX M A (Builtin.Bytes.exported self) Q s := fun Γ p hΓ hS => by
  unfold Builtin.Bytes.exported
  show Q (List.any ((Γ.code, p) :: Γ.below) _) s
  have e : ∀ x ∈ (Γ.code, p) :: Γ.below, cleanC x.1 = true := fun x hx => by
    rcases List.mem_cons.mp hx with rfl | hx
    · exact hS.1
    · exact hS.2 x hx
  rw [List.any_eq_false.mpr]
  · exact h
  · intro x hx
    rw [Bool.not_eq_true]
    exact exported_clean (c := x.1) (p := x.2) (e x hx)
end
end Mine

end
section
-- X2
open PySem PySem.W PyProof.Rows PySem.Calls
namespace Mine
set_option maxRecDepth 100000

section
variable {prog : Program} {w : World} {A : Around} {s : Shared} {env : Env} {K : Frag}

theorem xCons {st : Stmt} {rest : List Stmt} {Q : Flow → Shared → Prop}
    (h : wpX (model prog w) A (exec st env) (fun f s' => match f with | .next => wpX (model prog w) A (execs rest env) Q s' | f => Q f s') s) : wpX (model prog w) A (execs (st :: rest) env) Q s := by
  rw [execs_cons]
  refine wpX_bind (wpX_mono h fun f s' h' => ?_)
  cases f <;> first | exact h' | exact wpX_pure h'
/-- a statement that holds no bytearray's making -/
theorem xStep {st : Stmt} {rest : List Stmt} {Q : Flow → Shared → Prop}
    (h : wpAny (model prog w) A (exec st env) (fun f s' => match f with | .next => wpX (model prog w) A (execs rest env) Q s' | f => Q f s') No s) : wpX (model prog w) A (execs (st :: rest) env) Q s := xCons (.of h)
theorem xNil {Q : Flow → Shared → Prop} (h : Q .next s) : wpX (model prog w) A (execs [] env) Q s := .of (wpAny_execs_nil h)
theorem xAssign {x : Str} {pos' pos : Pos} {value : Expr} {Q : Flow → Shared → Prop}
    (h : wpX (model prog w) A (eval value env) (fun v s₁ => wpAny (model prog w) A (storeName env x v) (fun _ => Q .next) No s₁) s)
    (hs : swapsWith value (some (.Name x pos')) pos.line env = pure false := by rfl) :
    wpX (model prog w) A (exec (.Assign [.Name x pos'] value pos) env) Q s := fun Γ p hΓ hS => by
  simp only [exec_Assign_Name env x pos' value pos hs, Sem.wp_bind', Sem.wp_cmd_standAt, Sem.wp_bindName, Sem.wp_pure']
  exact Sem.wp_mono _ Γ _ (fun v _ s₁ h₁ => h₁ Γ _ hΓ) (fun _ _ _ h' => h') _ _ (h Γ _ hΓ hS)
theorem xIf {test : Expr} {body orelse : List Stmt} {pos : Pos} {Q : Flow → Shared → Prop}
    (h : wpAny (model prog w) A (isTrue test env (eval test env)) (fun b s₂ => if b then wpX (model prog w) A (execs body env) Q s₂ else wpX (model prog w) A (execs orelse env) Q s₂) No s) :
    wpX (model prog w) A (exec (.If test body orelse pos) env) Q s := fun Γ p hΓ hS => by
  simp only [exec_If, Sem.wp_bind', Sem.wp_cmd_standAt]
  refine Sem.wp_mono _ Γ _ (fun b p₂ s₂ h₂ => ?_) (fun _ _ _ h' => h'.elim) _ _ (h Γ _ hΓ)
  cases b <;> exact h₂ Γ p₂ hΓ hS
theorem xCall {id : Str} {p pos : Pos} {args : List Expr} {Q : Value → Shared → Prop}
    (h : wpAny (model prog w) A (eval (.Name id p) env) (fun f s₁ => wpX (model prog w) A (callWith pos f [] (backTo pos (starEach args env)) []) Q s₁) No s) :
    wpX (model prog w) A (eval (.Call (.Name id p) args [] pos) env) Q s := by
  show wpX (model prog w) A (do callWith pos (← eval (.Name id p) env) [] (backTo pos (starEach args env)) (backToKw pos (keywordEach [] env))) Q s
  exact wpX_bindA h
theorem xMethod {o : Expr} {name : Str} {apos pos : Pos} {args : List Expr} {pl : Sem Bool} {Q : Value → Shared → Prop}
    (h : wpX (model prog w) A (eval o env) (fun ov s₁ => wpAny (model prog w) A (getMethod ov name pl) (fun fx s₂ => wpAny (model prog w) A (callWith pos fx.1 fx.2 (backTo pos (starEach args env)) []) Q No s₂) No s₁) s)
    (he : eval (.Call (.Attribute o name apos) args [] pos) env = (do
      let ov ← eval o env
      standAt apos.atName
      let (f, first) ← holding [ov] (getMethod ov name pl)
      callWith pos f first (backTo pos (starEach args env)) []) := by rfl) :
    wpX (model prog w) A (eval (.Call (.Attribute o name apos) args [] pos) env) Q s := by
  rw [he]
  refine wpX_bind (wpX_mono h fun ov s₁ h₁ => .of ?_)
  exact wpAny_bind (wpAny_standAt (wpAny_bind (wpAny_holding (wpAny_mono h₁ (fun fx s₂ h₂ => h₂) fun _ _ x => x))))
theorem xTail {t : Sem Value} {Q : Value → Shared → Prop} (ht : wpX (model prog w) A t Q s) : wpX (model prog w) A (t >>= fun r => holding [r] point >>= fun _ => pure r) Q s :=
  wpX_bind (wpX_mono ht fun _ _ hr => .of (wpAny_bind (wpAny_holding (wpAny_point (wpAny_pure hr)))))
theorem wpX_ite {α : Type} {c : Prop} [Decidable c] {a b : Sem α} {Q : α → Shared → Prop} (h : if c then wpX (model prog w) A a Q s else wpX (model prog w) A b Q s) : wpX (model prog w) A (if c then a else b) Q s := by split <;> simp_all
theorem xCallType {pos : Pos} {T : String} {e : Expr} {rest : List Expr} {Q : Value → Shared → Prop}
    (h : wpAny (model prog w) A (spliced (backTo pos (starEach (e :: rest) env))) (fun vs s₁ => wpX (model prog w) A (call (.type T) vs) Q s₁) No s)
    (he : starEach (e :: rest) env = (false, eval e env) :: starEach rest env := by rfl)
    (hplain : (backTo pos (starEach rest env)).any (·.1) = false := by rfl) :
    wpX (model prog w) A (callWith pos (.type T) [] (backTo pos (starEach (e :: rest) env)) []) Q s := by
  rw [he] at h ⊢
  have hp : (backTo pos ((false, eval e env) :: starEach rest env)).any (·.1) = false := by show (false || (backTo pos (starEach rest env)).any (·.1)) = false; rw [hplain]; rfl
  unfold callWith
  refine wpX_bind (wpX_holding (.of ?_))
  refine evalArgs_plain (wpAny_mono h (fun vs s₁ h₁ => ?_) fun _ _ x => x)
  refine wpX_bindA (wpAny_standAt ?_)
  simp only [hp, List.any_nil, Bool.or_false]
  refine wpX_bindA (wpAny_pure ?_)
  exact xTail h₁
theorem xCallDef {pos : Pos} {f : Addr} {o : Obj} {fd : FuncData} {e : Expr} {rest : List Expr} {Q : Value → Shared → Prop} (hdat : o.data = .func fd)
    (h : wpAny (model prog w) A (spliced (backTo pos (starEach (e :: rest) env))) (fun vs s₁ => s₁.heap.get? f = some o ∧ wpX (model prog w) A (call (.ref f) vs) Q s₁) No s)
    (he : starEach (e :: rest) env = (false, eval e env) :: starEach rest env := by rfl) :
    wpX (model prog w) A (callWith pos (.ref f) [] (backTo pos (starEach (e :: rest) env)) []) Q s := by
  rw [he] at h ⊢
  unfold callWith
  refine wpX_bind (wpX_holding (.of ?_))
  refine evalArgs_plain (wpAny_mono h (fun vs s₁ h₁ => ?_) fun _ _ x => x)
  refine wpX_bindA (wpAny_standAt ?_)
  cases hs : (backTo pos ((false, eval e env) :: starEach rest env)).any (·.1) <;> simp only [hs, List.any_nil, Bool.or_false] <;>
    refine wpX_bind (m := keeperOf (.ref f)) (.of ?_) <;> unfold keeperOf <;>
    refine wpAny_bind (wpAny_load h₁.1 ?_) <;> rw [hdat] <;> refine wpAny_pure ?_
  · refine wpX_ite (c := (backTo pos ((false, eval e env) :: starEach rest env)).length + 2 * ([] : List (Option Str × Sem Value)).length > 30) ?_
    split
    · exact xTail (t := call (.ref f) ([] ++ vs)) h₁.2
    · exact xTail (t := callMarked plainCall (.ref f) ([] ++ vs) []) (by unfold callMarked; exact wpX_keep h₁.2)
  · exact xTail (t := callMarked starredCall (.ref f) ([] ++ vs) []) (by unfold callMarked; exact wpX_keep h₁.2)

theorem xFor {target iter : Expr} {body orelse : List Stmt} {pos : Pos} {Q : Flow → Shared → Prop}
    (h : wpAny (model prog w) A (eval iter env) (fun x s₁ => wpAny (model prog w) A (pyIter x) (fun it s₂ =>
      codeX (model prog w) A (.forLoop target it body orelse env) (fun r s' => match r with | .ok f => Q f s' | .error _ => False) s₂) No s₁) No s)
    (hs : ∀ x, foldedSetIterable iter env x = pure x := by intro _; rfl) :
    wpX (model prog w) A (exec (.For target iter body orelse pos) env) Q s := by
  rw [exec_For]
  refine wpX_bindA (wpAny_standAt (wpX_bindA (wpAny_mono h (fun x s₁ h₁ => wpX_bindA (wpAny_of_eq (hs x) (wpX_bindA (wpAny_standAt (wpX_bindA (wpAny_holding (wpAny_mono h₁ (fun it s₂ h₂ => wpX_runOwn h₂) fun _ _ x => x))))))) fun _ _ x => x)))

theorem xBlockNil {R : Result → Shared → Prop} (h : R (.ok .next) s) : codeX (model prog w) A (.block [] env) R s :=
  .of (codeAny_block (wpAny_execs_nil h))
theorem codeX_forLoop {R : Result → Shared → Prop} {target : Expr} {it : Value} {body : List Stmt} (I : Nat → Shared → Prop)
    (turn : ∀ n s, I n s → wpAny (model prog w) A (pyNext it) (fun r s₁ => match r with
      | none => R (.ok .next) s₁
      | some v => wpAny (model prog w) A (letOwnedTupleGo target it v) (fun _ s₁' =>
          wpAny (model prog w) A (assign target env v) (fun _ s₂ => wpX (model prog w) A (execs body env) (fun f s₃ => match f with
            | .next | .cont => ∃ m, m < n ∧ I m s₃
            | .brk => R (.ok .next) s₃
            | .ret v => R (.ok (.ret v)) s₃) s₂) No s₁') No s₁) No s)
    (n : Nat) (h : I n s) : codeX (model prog w) A (.forLoop target it body [] env) R s := by
  refine codeX_loop rfl rfl I (fun n s hI => ?_) n h
  show wpX _ A ((forTurn target it body [] env).onRaise (fun x => do noteFrame x env; theTreesLotGoes x)) _ s
  refine wpX_onRaise ?_
  simp only [forTurn]
  refine wpX_bindA (wpAny_standAt (wpX_bind (wpX_onRaise (.of (wpAny_mono (turn n s hI) (fun r s₁ h₁ => ?_) fun _ _ h' => h')))))
  cases r with
  | none => exact wpX_pure (.inr ⟨rfl, xBlockNil h₁⟩)
  | some v =>
    refine wpX_bindA (wpAny_mono h₁ (fun _ s₁' h₁' => ?_) fun _ _ h' => h')
    refine wpX_bindA (wpAny_mono h₁' (fun _ s₂ h₂ => wpX_bind (wpX_mono h₂ fun f s₃ h₃ => ?_)) fun _ _ h' => h')
    cases f with
    | next => exact wpX_pure (.inl ⟨rfl, h₃⟩)
    | cont => exact wpX_pure (.inl ⟨rfl, h₃⟩)
    | brk => exact wpX_pure h₃
    | ret v => exact wpX_pure h₃

/-- a for, by an invariant J of the turn's number -/
theorem forX {target : Expr} {X : List Addr} {ds : List Dat} {body : List Stmt} {s₁ s₂ : Shared} {it : Value} {R : Flow → Shared → Prop} (J : List Addr → Nat → Shared → Prop)
    (hit : ItsAt prog w A target X s₁ it s₂ ds) (hX : Dom X s₁.heap) (h0 : ∀ X', (∀ b ∈ X, b ∈ X') → (∀ b ∈ X', b ∈ X ∨ s₁.heap.get? b = none) → J X' 0 s₂)
    (stab : ∀ X' Z i s s', (∀ b ∈ Z, b ∈ X') → (∀ b ∈ Z, b ∉ X) → (∀ b ∈ Z, s₁.heap.get? b = none) → J X' i s → Chw Z s s' → J X' i s')
    (step : ∀ X' i d v s, Turn X X s₁ ds J X' i d v s →
      wpAny (model prog w) A (assign target env v) (fun _ s₃ => wpX (model prog w) A (execs body env) (fun f s₄ => match f with
        | .next | .cont => J X' (i + 1) s₄ ∧ Chg X s s₄
        | .brk => R .next s₄
        | .ret v => R (.ret v) s₄) s₃) No s)
    (fin : ∀ X' s, Last X X s₁ ds.length J X' s → R .next s) :
    codeX (model prog w) A (.forLoop target it body [] env) (fun r s' => match r with | .ok f => R f s' | .error _ => False) s₂ := by
  obtain ⟨inv, n₀, h0, turn⟩ := turns [] J hit hX (fun _ h => h) (fun _ h => by cases h) (.refl _ _) (fun _ h => by cases h) h0 stab
  refine codeX_forLoop inv (fun k s hI => ?_) n₀ h0
  refine wpAny_mono (turn k s hI _) (fun r s' hr => ?_) fun _ _ x => x
  cases r with
  | none => obtain ⟨X', hl⟩ := hr; exact fin X' _ hl
  | some v =>
    refine wpAny_mono (hr _) (fun _ s'' h'' => ?_) fun _ _ x => x
    obtain ⟨X', i, d, T, nxt⟩ := h''
    refine wpAny_mono (step X' i d v s'' T) (fun _ s₃ h₃ => wpX_mono h₃ fun f s₄ h₄ => ?_) fun _ _ x => x.elim
    cases f with
    | next => exact nxt s₄ h₄.1 h₄.2
    | cont => exact nxt s₄ h₄.1 h₄.2
    | brk => exact h₄
    | ret v => exact h₄

theorem codeX_func {R : Result → Shared → Prop} {body : List Stmt}
    (h : wpX (model prog w) (A.deeper env) (execs body env) (fun f s' => R (.ok (.ret (match f with | .ret v => v | _ => .none))) s') s) : codeX (model prog w) A (.func body env) R s := by
  refine codeX_of_tree rfl ?_
  show wpX _ (A.deeper env) (do point; match ← (execs body env).onRaise (leaving env) with | .ret v => ret v | _ => ret .none) _ s
  refine wpX_bindA (wpAny_point (wpX_bind (wpX_onRaise (wpX_mono h fun f s' h' => ?_))))
  cases f <;> exact wpX_pure h'
theorem codeX_call_cells {R : Result → Shared → Prop} {a : Addr} {o : Obj} {fd : FuncData} {body : List Stmt} {vals : List Value} {binds : List (Str × Value)}
    (hroom : A.depth < recursionLimit) (ho : s.heap.get? a = some o) (hdata : o.data = .func fd) (hlim : s.heap.NoLimit) (hcd : s.heap.CodeRec fd.code fd.qualname)
    (hbody : fd.body = .stmts body) (hbind : bindArgs fd ⟨vals, []⟩ = pure binds) (hclo : fd.closure = [])
    (hkind : ∀ x ∈ binds, fd.scope.names.lookup x.1 = some .local ∨ (fd.scope.names.lookup x.1 = some .cell ∧ ((cellsFrom (s.heap.objs.size + 1) fd.scope.names []).lookup x.1).isSome = true))
    (h : ∀ s₁, InCallC s (callEnvC fd s.heap.objs.size a).locals (bindL (callEnvC fd s.heap.objs.size a).kindOf binds fun _ => none) (callEnvC fd s.heap.objs.size a).cells
        (bindC (callEnvC fd s.heap.objs.size a).kindOf binds fun _ => none) s₁ →
      wpX (model prog w) (A.deeper (callEnvC fd s.heap.objs.size a)) (execs body (callEnvC fd s.heap.objs.size a)) (fun f s' => R (.ok (.ret (match f with | .ret v => v | _ => .none))) s') s₁)
    (hco : fd.scope.isCoroutine = false) (hgen : fd.scope.isGenerator = false) (hk : fd.scope.kind = .function) :
    codeX (model prog w) A (.call (.ref a) ⟨vals, []⟩) R s := by
  refine codeX_of_tree rfl ?_
  show wpX _ A.in1 (callAny (.ref a) ⟨vals, []⟩) _ s
  simp only [callAny]
  refine wpX_bindA (wpAny_load ho ?_)
  obtain ⟨c, oc, vs, tq, hc, hoc, hdc, hq⟩ := hcd
  simp only [hdata, callFunction, hco, hgen, hbody, hc]
  refine wpX_bindA (m := field (.ref c) 1) (wpAny_field hoc hdc hq (wpX_bindA (wpAny_pure ?_)))
  rw [hbind, hclo]
  refine wpX_bindA (wpAny_pure ?_)
  refine wpX_bindA ?_
  rw [← hc]
  refine wpAny_newFunctionEnv_cells hk hkind fun env he s' x => ?_
  subst he
  exact wpX_bindA (wpAny_enterFrame (hlim.keeps x.toInCall.keep) hroom (wpX_pure (And.intro rfl (codeX_func (h s' x)))))
end
end Mine

end
section
-- X3
open PySem PySem.W PyProof.Rows PySem.Calls
namespace Mine
set_option maxRecDepth 100000

/-- the tree t where every code on the stack is clean, else d at once. The library's head takes any tree of the caller's, so it takes this one;
  and the caller's own stack is clean, so that one step of the machine takes the guard off again. -/
noncomputable def guarded {α : Type} (d : α) (t : Sem α) : Sem α := .stack fun l => if l.all (fun x => cleanC x.1) then t else .pure d

theorem wp_guarded {α : Type} {M : Model} {Γ : PySem.Ctx} {d : α} {t : Sem α} {Q : α → Pos → Shared → Prop} {E : Value → Pos → Shared → Prop} {p : Pos} {s : Shared} :
    Sem.wp M Γ (guarded d t) Q E p s ↔ (Safe Γ → Sem.wp M Γ t Q E p s) ∧ (¬ Safe Γ → Q d p s) := by
  unfold guarded
  rw [Sem.wp_stack]
  have e : (((Γ.code, p) :: Γ.below).all fun x => cleanC x.1) = true ↔ Safe Γ := by
    rw [List.all_cons, Bool.and_eq_true, List.all_eq_true]; exact Iff.rfl
  by_cases g : Safe Γ
  · rw [if_pos (e.mpr g)]; exact ⟨fun x => ⟨fun _ => x, fun n => absurd g n⟩, fun x => x.1 g⟩
  · rw [if_neg fun q => g (e.mp q)]; exact ⟨fun x => ⟨fun n => absurd n g, fun _ => x⟩, fun x => x.2 g⟩

theorem wpAny_guarded {α : Type} {M : Model} {A : Around} {d : α} {t : Sem α} {Q : α → Shared → Prop} {E : Value → Shared → Prop} {s : Shared} (h : wpX M A t Q s) (hd : Q d s) : wpAny M A (guarded d t) Q E s :=
  fun Γ p hΓ => wp_guarded.mpr ⟨fun g => Sem.wp_mono M Γ t (fun _ _ _ x => x) (fun _ _ _ x => x.elim) p s (h Γ p hΓ g), fun _ => hd⟩

/-- one step of the machine takes the guard off -/
theorem unguard_run {prog : Program} {w : World} {t : Sem Fin} {d : Fin} {s s' : Shared} {o : Outcome} {n : Nat} (z : s.asleep)
    (h : schedN (denote table) prog w n (.single s ⟨guarded d t, .builtin "claim.caller" {}, default, []⟩) = .halted o s') :
    ∃ m, schedN (denote table) prog w m (.single s ⟨t, .builtin "claim.caller" {}, default, []⟩) = .halted o s' := by
  cases n with
  | zero => cases h
  | succ n =>
    have hs : step (denote table) prog w s ⟨guarded d t, .builtin "claim.caller" {}, default, []⟩ = .go s ⟨t, .builtin "claim.caller" {}, default, []⟩ := by
      obtain ⟨_, _, _, _, _⟩ := s; rfl
    unfold schedN at h
    rcases sstep_single (denote table) prog w s ⟨guarded d t, .builtin "claim.caller" {}, default, []⟩ (by rfl) z with e | e
    · rw [e, hs] at h; exact ⟨n, h⟩
    · rw [hs] at e; cases e

theorem unguard {c : ClaimW} {tree : List Value → Sem Fin} {d : Fin} {ds ks : List Str} {wr : Bool}
    (H : c.HoldsOpenBy (fun vs => ⟨guarded d (tree vs), .builtin "claim.caller" {}, default, []⟩) ds ks wr) : c.HoldsOpenBy (fun vs => ⟨tree vs, .builtin "claim.caller" {}, default, []⟩) ds ks wr := by
  obtain ⟨bare, witness, runs⟩ := H
  refine ⟨bare, witness, fun w => ⟨(runs w).1, fun s after => ?_⟩⟩
  obtain ⟨s₀, fence, none, s₁, top, defs, recs, apart, from_⟩ := (runs w).2 s after
  have z : s₁.asleep := Shared.asleep_of_life (top.2.1.trans (fence_lifeW fence)) (AfterImport.life after)
  refine ⟨s₀, fence, none, s₁, top, defs, recs, apart, fun args pre lay ord perm => ?_⟩
  obtain ⟨vs, s₂, laid, n, o, s', run, rest⟩ := from_ args pre lay ord perm
  obtain ⟨m, run⟩ := unguard_run (Shared.asleep_of_life (layAllW_rest _ _ _ laid).2.2.2 z) run
  exact ⟨vs, s₂, laid, m, o, s', run, rest⟩

/-- the caller's tree under guard: it finds the def by its name and then calls it -/
theorem guarded_caller {prog : Program} {w : World} {A : Around} {name : Str} {vs : List Value} {s : Shared} {mg : Str → Option Value} {f : Value} {Q : Fin → Shared → Prop} {E : Value → Shared → Prop}
    (hg : s.heap.Ns mainGlobals mg) (hf : mg name = some f) (h : wpAny (model prog w) A (guarded (.bool true) (call f vs)) (fun v s' => Q (.done (.ret v)) s') E s) :
    wpAny (model prog w) A (guarded (.done (.ret (.bool true))) (callStub name vs).cur) Q E s := fun Γ p hΓ => by
  refine wp_guarded.mpr ⟨fun g => ?_, (wp_guarded.mp (h Γ p hΓ)).2⟩
  show Sem.wp _ Γ (nsGet mainNs name >>= _) _ _ p s
  rw [Sem.wp_bind']
  refine Sem.wp_mono _ Γ _ (fun r q s₁ e => ?_) (fun _ _ _ x => x) p s (wpAny_nsGet (Q := fun r s₁ => r = some f ∧ s₁ = s) hg ⟨hf, rfl⟩ Γ p hΓ)
  obtain ⟨rfl, rfl⟩ := e
  show Sem.wp _ Γ (call f vs >>= _) _ _ q _
  rw [Sem.wp_bind']
  exact (wp_guarded.mp (h Γ q hΓ)).1 g

/-- a law's call that changed nothing of before and gave True has ended well -/
theorem end_true {l : OpenLaw} {cl : Str → Option Addr} {mean : ExcName → Option Value} {args : List WData} {s₁ s' : Shared} (a : Chg [] s₁ s') (hg : s₁.gens = #[]) :
    GoodWG l.row.toRowW.claim cl mean args s₁ (.ok (.ret (.bool true))) s' := by
  refine ⟨.inl ⟨_, .bool true, [], rfl, fun cls => rfl, .bool _, ?_, fun _ => ⟨List.nodup_nil, fun a h => by cases h⟩⟩, .of_keep a.kp, a.os, a.bare (.of_eq hg)⟩
  refine postW_of (r := l.row.toRowW) (X := true) rfl ?_ rfl
  show WTm.value [] (.eq .res (.lit (.bool true))) _ = _
  simp only [WTm.value, W.same]
  rfl

/-- the walk that is asked: under clean codes the law's call gives True and changes nothing of before -/
noncomputable def Walk (l : OpenLaw) (q : Program) (XP : (Str → Option Value) → Heap → Prop) (YP : World → Heap → Prop) : Prop :=
  ∀ w s₀ s₁ mg mb args vals as, Ground q [] l.row.records XP w s₀ mg mb s₁.heap → YP w s₁.heap → Laid l.row.records w s₀ s₁ args vals as → sysModules < s₀.heap.objs.size →
    l.row.claim.pre args = true → WData.layableAll args = true → ∀ law, mg l.row.name = some (.ref law) → wpX (model l.row.prog w) callerA (PySem.call (.ref law) vals) (fun v s' => Chg [] s₁ s' ∧ v = .bool true) s₁

/-- from the walk to what the library's open_anyG asks of the call, by the guard -/
theorem Walk.call {l : OpenLaw} {q : Program} {XP : (Str → Option Value) → Heap → Prop} {YP : World → Heap → Prop} (walk : Walk l q XP YP) {D : DefRec × List (Str × Expr)} (hd : defOf q l.row.name = some D)
    (w : World) (s₀ s₁ : Shared) (mg mb : Str → Option Value) (G : Ground q [] l.row.records XP w s₀ mg mb s₁.heap) (Y : YP w s₁.heap) (args : List WData) (vals : List Value) (as : List Addr)
    (pre : l.row.claim.pre args = true) (lay : WData.layableAll args = true) (L : Laid l.row.records w s₀ s₁ args vals as) (low : sysModules < s₀.heap.objs.size) :
    ∃ f, mg l.row.name = some f ∧ wpAny (model l.row.prog w) callerA (guarded (.bool true) (PySem.call f vals)) (fun v s' => GoodWG l.row.toRowW.claim (classAt s₀.heap) (ExcName.means s₀.heap) args s₁ (.ok (.ret v)) s')
      (fun e s' => GoodWG l.row.toRowW.claim (classAt s₀.heap) (ExcName.means s₀.heap) args s₁ (.error e) s') s₁ := by
  obtain ⟨law, _, _, _, _, _, _, named, _⟩ := G.fn (d := D.1) (kw := D.2) hd
  refine ⟨_, named, wpAny_guarded (wpX_mono (walk w s₀ s₁ mg mb args vals as G Y L low pre lay law named) fun v s' e => ?_) (end_true (Chg.refl _ _) L.gens)⟩
  obtain ⟨e, rfl⟩ := e
  exact end_true e L.gens

/-- the law's def stands as it is written -/
theorem stands {l : OpenLaw} {q : Program} {XP : (Str → Option Value) → Heap → Prop} {D : DefRec × List (Str × Expr)} (hd : defOf q l.row.name = some D) (hp : l.row.prog.theDef l.row.name = some (D.1.params, D.1.body, D.1.scope))
    (hk : kwWritten? D.1.params.kwonlyargs D.1.params.kw_defaults = some D.2) (w : World) (s : Shared) (hg : s.heap.isNs mainGlobals = true)
    (G : Ground q [] [] XP w s (s.heap.nsMap mainGlobals) (s.heap.nsMap builtinsNs) s.heap) (n : Str) (hn : n ∈ if l.row.pinned then [l.row.name] else []) : isTheDefsW l.row.prog s.heap n := by
  have e : n = l.row.name := by
    split at hn
    · exact List.mem_singleton.mp hn
    · cases hn
  exact e ▸ pinned_of_view hg G hd hp hk

/-- the head: the guarded caller's claim gives the law's row -/
theorem head_of {l : OpenLaw} (said : l.row.wellSaid = true) (witness : l.row.toRowW.promised)
    (H : l.row.toRowW.promised → l.row.toRowW.claim.HoldsOpenBy (fun vs => ⟨guarded (.done (.ret (.bool true))) (callStub l.row.name vs).cur, .builtin "claim.caller" {}, default, []⟩) (if l.row.pinned then [l.row.name] else []) l.row.keeps l.row.writes) : l.row.Holds :=
  ⟨said, witness, unguard (H witness)⟩
end Mine

end
section
-- HX2
open PySem PySem.W PyProof.Rows
namespace Mine.HX
/-- the text without its marks of the files' names -/
noncomputable def viewQ : Program := { PySem.Challenge.pw_wo0021_02 with main := { PySem.Challenge.pw_wo0021_02.main with
  body := match PySem.Challenge.pw_wo0021_02.main.body with
    | [_, a1, a2, a3, _, a5, a6, _, a8, _, a10, a11, a12, a13, a14, a15, a16, a17] => [a1, a2, a3, a5, a6, a8, a10, a11, a12, a13, a14, a15, a16, a17]
    | _ => [] } }
local macro_rules | `(tactic| o_head $H) => `(tactic| (
  refine Mine.head_of (l := PySem.Challenge.rw_wo0021_02) (by first | assumption | decide +kernel) ?hw fun hw =>
    open_anyG (q := viewQ) (loose := []) (N := 962) (Xt := fun s => xlAt viewQ [] s && recOk (RowW.records PySem.Challenge.rw_wo0021_02.row.toRowW) s) (XP := XL viewQ []) (Yf := Hook.obs $H) (Ya := Hook.val $H) (YP := Hook.says $H)
      (run := fun f vs => Mine.guarded (.bool true) (PySem.call f vs)) ?hl (Hook.of $H) (Hook.keeps $H) (fun s e => xl_of s (Bool.and_eq_true_iff.mp e).1) XL.keeps (fun s e => recFacts_of (Bool.and_eq_true_iff.mp e).2)
      (by rfl) (by decide +kernel) ⟨rfl, rfl, rfl, rfl, rfl, by decide +kernel⟩ hw (fun vs w s mg f Q E hg hf h => Mine.guarded_caller hg hf h)
      (Mine.stands (by rfl) (by rfl) (by rfl))
      (Mine.Walk.call ?hc (by rfl));
  (case hl => (intro w; kernel_rfl))))
set_option maxRecDepth 100000 in
set_option maxHeartbeats 0 in
open_top hd for PySem.Challenge.rw_wo0021_02
end Mine.HX

end
section
-- X4
open PySem PySem.W PyProof.Rows PySem.Calls
namespace Mine
set_option maxRecDepth 100000

section
variable {prog : Program} {w : World} {A : Around} {s s₀ : Shared} {env : Env} {m cm : Str → Option Value} {K : Frag}
theorem enterX {Q : Value → Shared → Prop} {f : Addr} {body : List Stmt} {pos : List Value} {n : Nat} (fd : FuncData) (binds : List (Str × Value))
    (G : Glb K s.heap) (ho : ∃ oc od osl, K.lookup f = some ⟨oc, od, .func fd, osl⟩) (hbody : fd.body = .stmts body) (hcd : codeIn K fd.code fd.qualname = true) (hA : Rm A (n + 1))
    (hbind : bindArgs fd ⟨pos, []⟩ = pure binds) (hclo : fd.closure = [])
    (hkind : (binds.all fun x => decide (fd.scope.names.lookup x.1 = some .local) || (decide (fd.scope.names.lookup x.1 = some .cell) && ((cellsFrom 0 fd.scope.names []).lookup x.1).isSome)) = true)
    (hsc : (fd.scope.isCoroutine, fd.scope.isGenerator, fd.scope.kind) = (false, false, .function))
    (h : ∀ L s₁ A', s.heap.get? L = none → Rm A' n → Cx s L (bindL (callEnvC fd L f).kindOf binds nones) s₁ → Ce s (cellsFrom (L + 1) fd.scope.names []) (bindC (callEnvC fd L f).kindOf binds nones) s₁ →
      wpX (model prog w) A' (execs body (callEnvC fd L f)) (fun fl s' => Q (match fl with | .ret v => v | _ => .none) s') s₁) :
    wpX (model prog w) A (call (.ref f) pos) Q s := by
  obtain ⟨oc, od, osl, ho⟩ := ho
  refine wpX_call (codeX_call_cells hA.one (G.K _ _ ho) rfl G.nolimit (codeRec_of G.K hcd) hbody hbind hclo (fun x hx => ?_) (fun s₁ x => ?_)
    (congrArg (·.1) hsc) (congrArg (·.2.1) hsc) (congrArg (·.2.2) hsc))
  · have := List.all_eq_true.mp hkind x hx
    rcases Bool.or_eq_true_iff.mp this with q | q
    · exact .inl (of_decide_eq_true q)
    · obtain ⟨q1, q2⟩ := Bool.and_eq_true_iff.mp q
      refine .inr ⟨of_decide_eq_true q1, cellsFrom_some _ _ _ (.inl (of_decide_eq_true q1))⟩
  · have hnew : ∀ b, s.heap.objs.size ≤ b → s.heap.get? b = none := fun b hb => Heap.get?_none_of_le hb
    obtain ⟨h', tk, rfl, hk'⟩ := x.toInCall.done
    refine wpX_mono (h s.heap.objs.size _ (A.deeper _) (hnew _ (Nat.le_refl _)) ⟨hA.hd, ?_, ?_⟩ ⟨x.toInCall.ns, .of_le hk', hnew _ (Nat.le_refl _)⟩ ⟨x.cell, fun n c e => hnew _ ?_, x.apart⟩) (fun _ _ q => q)
    · show A.depth + 1 + n < recursionLimit
      have := hA.dep; omega
    · show A.units + 3 + 8 * n < cLine
      have := hA.un; omega
    · exact Nat.le_of_lt (x.above n c (mem_of_lookup e))
end
end Mine

end
section
-- X5
open PySem PySem.W PyProof.Rows PySem.Calls
namespace Mine
set_option maxRecDepth 100000
section
variable {prog : Program} {w : World} {A : Around} {s : Shared}
theorem codeX_builtin {R : Result → Shared → Prop} {id : String} {args : Args} {b : Builtin} (hcl : cleanC (.builtin id args) = true) (hb : entryFor table id = some b)
    (h : wpX (model prog w) (A.under (.builtin id args)) (b args)
      (fun fin s' => match fin with | .done f => R (.ok f) s' | .again c' => c'.quiet = true ∧ codeX (model prog w) A c' R s') s) :
    codeX (model prog w) A (.builtin id args) R s := by
  refine codeX_of_tree hcl ?_
  show wpX _ _ (match entryFor table id with | some b => b args | none => unsupported ((withoutEnding? id "#data").getD id)) _ s
  rw [hb]; exact h
theorem codeX_call_builtin {R : Result → Shared → Prop} {id : String} {args : Args} {b : Builtin} (hcl : cleanC (.builtin id ⟨[], []⟩) = true) (hq : plainId id = true) (hb : entryFor table id = some b)
    (h : wpAny (model prog w) A.in1 (checkBuiltinCall id args) (fun _ s₁ => wpX (model prog w) A.in1 (b args)
      (fun fin s' => match fin with | .done f => R (.ok f) s' | .again c' => c'.quiet = true ∧ codeX (model prog w) A c' R s') s₁) No s) : codeX (model prog w) A (.call (.builtin id) args) R s := by
  refine codeX_of_tree rfl ?_
  show wpX _ A.in1 (do checkBuiltinCall id args; again (.builtin id args)) _ s
  refine wpX_bindA (wpAny_mono h (fun _ s₁ h₁ => wpX_pure (And.intro (plainId_quiet hq args) (codeX_builtin hcl hb (by rw [Around.under_plainId hq args]; exact h₁)))) fun _ _ h' => h')
theorem callTypeX {T newId initId : String} {Bi : Builtin} {args : List Value} {Q Q₁ : Value → Shared → Prop} (ft : TypeCalled T newId initId)
    (hct : checkTypeCall T ⟨args, []⟩ = pure ()) (entryI : entryFor table initId = some Bi) (hcl : cleanC (.builtin initId ⟨[], []⟩) = true)
    (hnew : codeAny (model prog w) A.in1 (.call (.builtin newId) ⟨.type T :: args, []⟩) (wants Q₁ No) s)
    (hnext : ∀ obj s₁, Q₁ obj s₁ → s₁.TypeIs obj T ∧ argsOk initId ⟨obj :: args, []⟩ ∧
      wpX (model prog w) A.in1.in1 (Bi ⟨obj :: args, []⟩) (fun fin s' => fin = .done (.ret .none) ∧ Q obj s') s₁) :
    wpX (model prog w) A (call (.type T) args) Q s := by
  obtain ⟨c, tl, hmro⟩ := ft.mro
  have hmade := ft.made
  have hsub := ft.sub
  refine wpX_call (codeX_of_tree rfl ?_)
  show wpX _ _ (callAny (.type T) _) _ _
  refine wpX_pure ⟨Code.quiet_builtin _ (by decide +kernel), codeX_builtin (by rfl) F.entry_type_call ?_⟩
  rw [Around.under_plain (weight_type_call_type T args []) rfl]
  have h1 := ft.notType
  have h2 := ft.canCreate
  unfold Builtin.«type.__call__»
  simp only [h1, h2, hct, hmro, hmade, pure_bind, List.isEmpty_cons, Bool.false_eq_true, if_false]
  refine wpX_bind (wpX_holding (.of (wpAny_call (codeAny_mono hnew fun r s₁ hr => ?_))))
  cases r with
  | error e => exact hr.elim
  | ok fl =>
    cases fl with
    | ret obj =>
      obtain ⟨hT, hok, hsi⟩ := hnext _ _ hr
      refine wpX_bindA (wpAny_isInstance hT hsub ?_)
      simp only [Bool.not_true, Bool.false_eq_true, if_false]
      refine wpX_bind (wpX_holding ?_)
      unfold callSpecial?
      refine wpX_bindA (wpAny_specialOf hT ft.init.lookup ?_)
      refine wpX_holding ?_
      simp only [ft.init.bind obj, pure_bind]
      refine wpX_bind (wpX_call (codeX_call_builtin hcl ft.init.plain entryI ?_))
      refine ft.init.check _ _ _ _ _ _ _ _ hT hok (wpX_mono hsi fun fin s₂ h => ?_)
      obtain ⟨rfl, hq⟩ := h
      exact wpX_pure (wpX_pure hq)
    | _ => exact hr.elim
end
end Mine

end
section
-- X6
open PySem PySem.W PyProof.Rows PySem.Calls
namespace Mine
set_option maxRecDepth 100000
namespace BA
theorem mro_ba : mroOf (.type "bytearray") = pure [.type "bytearray", .type "object"] := by rw [mroOf_type]; kernel_rfl
theorem lookup_new : typeLookup (.type "bytearray") "__new__" = pure (some (.builtin "bytearray.__new__")) := by rw [typeLookup_type, builtinLookup_eq_fast]; kernel_rfl
theorem slot_init : Slot "bytearray" "__init__" "bytearray.__init__" :=
  .of (owner := "bytearray") (n := "__init__") (by rw [typeLookup_type, builtinLookup_eq_fast]; kernel_rfl) (by decide +kernel) (by decide +kernel) (by decide +kernel)
    (by first | exact .inl (by decide +kernel) | exact .inr (by decide +kernel)) (by rw [isSubtype_type]; kernel_rfl)
theorem entry_init : entryFor table "bytearray.__init__" = some Builtin.«bytearray.__init__» := entryFor_of_tree (by kernel_rfl)
theorem called : TypeCalled "bytearray" "bytearray.__new__" "bytearray.__init__" :=
  ⟨by decide +kernel, by decide +kernel, ⟨_, _, mro_ba⟩, madeBy_type mro_ba lookup_new (by decide +kernel), by decide +kernel, F.sub_bytearray_bytearray, slot_init⟩
theorem typeCall_1 (a : Value) : checkTypeCall "bytearray" ⟨[a], []⟩ = pure () := by kernel_rfl
theorem newCall_1 (a : Value) : checkBuiltinCall "bytearray.__new__" ⟨[.type "bytearray", a], []⟩ = pure () := by kernel_rfl
theorem entry_new : entryFor table "bytearray.__new__" = some Builtin.«list.__new__» :=
  entryFor_alias (id' := "list.__new__") (by kernel_rfl) (by decide +kernel) (by decide +kernel) (by kernel_rfl)
theorem plain_new : plainId "bytearray.__new__" = true := by decide +kernel
theorem owner_ba : Manifest.owners.lookup (String.ofList ['y', 'a', 'r', 'r', 'a', 'e', 't', 'y', 'b'].reverse) = some Manifest.sig_bytearray := by kernel_rfl
theorem args_init (a b : Value) : argsOk "bytearray.__init__" ⟨[a, b], []⟩ := by
  unfold argsOk; rw [signature?_of (id := "bytearray.__init__") (n := ['_', '_', 't', 'i', 'n', 'i', '_', '_']) (o := ['y', 'a', 'r', 'r', 'a', 'e', 't', 'y', 'b']) (by kernel_rfl) owner_ba]; kernel_rfl
theorem owner_new : ("bytearray.__new__".splitOn ".__new__").headD "" = "bytearray" := by rw [split_bytearray]; rfl

section
variable {prog : Program} {w : World} {A : Around} {E : Value → Shared → Prop} {s : Shared}
theorem code_new (a : Value) {Q₁ : Value → Shared → Prop}
    (h : Q₁ (.ref s.heap.objs.size) { s with heap := s.heap.push { cls := .type "bytearray", data := .bytearray #[] } }) :
    codeAny (model prog w) A (.call (.builtin "bytearray.__new__") ⟨[.type "bytearray", a], []⟩) (wants Q₁ E) s := by
  refine codeAny_call_builtin_code (plainId_quiet plain_new _) (wpAny_of_eq (newCall_1 a) (codeAny_builtin_stack entry_new rfl fun p st => ?_))
  rw [Around.under_plainId plain_new _]
  have hsub := F.sub_bytearray_bytearray
  have hown := owner_new
  obtain ⟨hp, g, d, tk, os⟩ := s
  simp only [hown]
  wp_walk
  exact h
end
end BA
end Mine

end
section
-- X7
open PySem PySem.W PyProof.Rows PySem.Calls
namespace Mine
set_option maxRecDepth 100000
namespace BA
section
variable {prog : Program} {w : World} {A : Around} {E : Value → Shared → Prop} {s : Shared}
theorem lookup_rel : typeLookup (.type "bytearray") "__release_buffer__" = pure (some (.builtin "bytearray.__release_buffer__")) := by rw [typeLookup_type, builtinLookup_eq_fast]; kernel_rfl
theorem ends_rel : "bytearray.__release_buffer__".endsWith ("." ++ "__release_buffer__") = true := by decide +kernel
theorem drop_rel : "bytearray.__release_buffer__".dropRight ("__release_buffer__".length + 1) = "bytearray" := by decide +kernel
theorem own_release {a : Addr} {o : Obj} {Q : Bool → Shared → Prop} (ho : s.heap.get? a = some o) (hc : o.cls = .type "bytearray") (h : Q false s) : wpAny (model prog w) A (Builtin.Bytes.ownRelease (.ref a)) Q E s := by
  have hT : s.TypeIs (.ref a) "bytearray" := ⟨_, ho, hc⟩
  unfold Builtin.Bytes.ownRelease Builtin.Bytes.slotIsOwn
  refine wpAny_bind (wpAny_bind (wpAny_specialOf hT lookup_rel ?_))
  simp only [ends_rel, drop_rel, Bool.not_true, Bool.false_eq_true, if_false]
  exact wpAny_isInstance hT F.sub_bytearray_bytearray (wpAny_pure h)
theorem bind_opt (n : Value) : Builtin.Bytes.bindOptional "bytearray.__init__" "bytearray" ["source", "encoding", "errors"] [n] [] = pure [some n, none, none] := by
  rfl
abbrev baO (b : Array UInt8) : Obj := { cls := .type "bytearray", data := .bytearray b }
theorem write_ba {a : Addr} {b : Array UInt8} {f : Array UInt8 → Array UInt8} {Q : Unit → Shared → Prop} (ho : s.heap.get? a = some (baO b)) (hf : (f b).size ≤ 1000)
    (h : ∀ h', h'.get? a = some (baO (f b)) → Heap.SameBut a s.heap h' → Q () { s with heap := h' }) : wpAny (model prog w) A (Builtin.Bytes.write (.ref a) f) Q E s := by
  unfold Builtin.Bytes.write updateBytearray
  refine wpAny_bind (wpAny_load ho ?_)
  dsimp only
  refine wpAny_bind (wpAny_update ho ?_)
  have ho' : (s.heap.update a (Obj.mapBytearray f)).get? a = some (baO (f b)) := by rw [Heap.get?_update_self _ ho rfl]; rfl
  refine wpAny_lookBehind (o := baO (f b)) ho' ?_ (h _ ho' (Heap.SameBut.update ..))
  show (if _ > _ then _ else _) = _
  exact if_neg (Nat.not_lt.mpr (Nat.le_trans hf (by decide)))
theorem init_int {a : Addr} {n : Nat} {t : Tok} {Q : Value → Shared → Prop} (h0 : 0 < n) (hn : n ≤ 1000)
    (ho : s.heap.get? a = some { cls := .type "bytearray", data := .bytearray #[] })
    (h : ∀ h', h'.get? a = some { cls := .type "bytearray", data := .bytearray (Array.replicate n 0) } → Heap.SameBut a s.heap h' → Q (.ref a) { s with heap := h' }) :
    wpX (model prog w) A (Builtin.«bytearray.__init__» ⟨[.ref a, .int n t], []⟩) (fun fin s' => fin = .done (.ret .none) ∧ Q (.ref a) s') s := by
  have hT : s.TypeIs (.ref a) "bytearray" := ⟨_, ho, rfl⟩
  unfold Builtin.«bytearray.__init__»
  simp only [bind_opt, pure_bind]
  refine wpX_bindA (own_release ho rfl ?_)
  simp only [Bool.false_eq_true, if_false, Builtin.Bytes.checkCodecArg, pure_bind]
  refine wpX_bind ?_
  unfold orM
  refine wpX_bind (wpX_exported ?_)
  refine .of ?_
  show wpAny _ _ (do let x ← Builtin.Bytes.exportsOf (Value.ref a); pure (decide (x > 0))) _ _ _
  unfold Builtin.Bytes.exportsOf
  refine wpAny_bind (wpAny_bind (wpAny_load ho (wpAny_pure (wpAny_pure ?_))))
  rw [if_neg (by decide)]
  refine .of (wpAny_bind (write_ba (f := fun _ => #[]) ho (Nat.zero_le _) fun h1 ho1 hs1 => ?_))
  have e1 : asStr? (Value.int (n : Int) t) = pure none := rfl
  have e2 : asIndex (Value.int (n : Int) t) = pure (n : Int) := rfl
  have e3 : specialOf (Value.int (n : Int) t) (Str.ofString "__index__") = pure (some (.builtin "int.__index__")) := by
    show (typeOf (Value.int (n : Int) t) >>= fun x => typeLookup x (Str.ofString "__index__")) = _
    rw [show typeOf (Value.int (n : Int) t) = pure (.type "int") from rfl, pure_bind]
    exact F.slot_int_index.lookup
  have e4 : (pure (n : Int) : Sem Int).attempt = pure (.ok (n : Int)) := rfl
  simp only [e1, e2, e3, e4, pure_bind, Option.isSome_none, Option.isSome_some, Bool.false_eq_true, if_false, if_true]
  have f1 : Builtin.Bytes.fitsIndex (n : Int) = true := by unfold Builtin.Bytes.fitsIndex; simp; omega
  have f2 : ¬ (n : Int) < 0 := by omega
  have f3 : ((n : Int) == 2 ^ 63 - 1) = false := by simp; omega
  have f4 : Builtin.Bytes.tooLong (n : Int).toNat = false := decide_eq_false (Nat.not_lt.mpr (Nat.le_trans (by simpa using hn) (by decide)))
  have f5 : (n : Int) > 0 := by omega
  simp only [f1, f2, f3, f4, f5, Bool.not_true, Bool.false_eq_true, if_false, if_true]
  refine wpAny_bind (wpAny_rule ?_)
  refine wpAny_bind (write_ba (f := fun _ => Array.replicate (n : Int).toNat 0) ho1 (by simp; exact hn) fun h2 ho2 hs2 => wpAny_pure ⟨rfl, h h2 (by simpa using ho2) (hs1.trans hs2)⟩)
theorem make_int {n : Nat} {t : Tok} {Q : Value → Shared → Prop} (h0 : 0 < n) (hn : n ≤ 1000)
    (h : ∀ s' a, Chg [] s s' → s.heap.get? a = none → s'.heap.get? a = some (baO (Array.replicate n 0)) → Q (.ref a) s') :
    wpX (model prog w) A (call (.type "bytearray") [.int n t]) Q s := by
  refine callTypeX (Q₁ := fun obj s₁ => obj = .ref s.heap.objs.size ∧ s₁ = { s with heap := s.heap.push { cls := .type "bytearray", data := .bytearray #[] } }) called (typeCall_1 _) entry_init (by rfl) (code_new _ ⟨rfl, rfl⟩) ?_
  rintro obj s₁ ⟨rfl, rfl⟩
  have ho : (s.heap.push { cls := .type "bytearray", data := .bytearray #[] }).get? s.heap.objs.size = some (baO #[]) := Heap.get?_push_size _ rfl
  refine ⟨⟨_, ho, rfl⟩, args_init _ _, init_int h0 hn ho fun h' ho' hs => h _ _ ?_ (Heap.get?_none_of_le (Nat.le_refl _)) ho'⟩
  have c1 : Chg [] s { s with heap := s.heap.push { cls := .type "bytearray", data := .bytearray #[] } } := .push
  exact (c1.nil.trans (.same (t := s.toks) hs ho')).shrink (fun b hb => .inr (by rw [List.mem_singleton.mp hb]; exact Heap.get?_none_of_le (Nat.le_refl _)))
end
end BA
end Mine

end
section
-- X8
open PySem PySem.W PyProof.Rows PySem.Calls
namespace Mine
set_option maxRecDepth 100000
namespace BA
theorem slot_setitem : Slot "bytearray" "__setitem__" "bytearray.__setitem__" :=
  .of (owner := "bytearray") (n := "__setitem__") (by rw [typeLookup_type, builtinLookup_eq_fast]; kernel_rfl) (by decide +kernel) (by decide +kernel) (by decide +kernel)
    (by first | exact .inl (by decide +kernel) | exact .inr (by decide +kernel)) (by rw [isSubtype_type]; kernel_rfl)
theorem entry_setitem : entryFor table "bytearray.__setitem__" = some Builtin.«bytearray.__setitem__» := entryFor_of_tree (by kernel_rfl)
theorem args_setitem (a b c : Value) : argsOk "bytearray.__setitem__" ⟨[a, b, c], []⟩ := by
  unfold argsOk; rw [signature?_of (id := "bytearray.__setitem__") (n := ['_', '_', 'm', 'e', 't', 'i', 't', 'e', 's', '_', '_']) (o := ['y', 'a', 'r', 'r', 'a', 'e', 't', 'y', 'b']) (by kernel_rfl) owner_ba]; kernel_rfl
section
variable {prog : Program} {w : World} {A : Around} {E : Value → Shared → Prop} {s : Shared}
theorem at_ {α β : Type} {M : Model} {m : Sem α} {f : α → Sem β} {v : α} {Q : β → Shared → Prop} (h : ∀ (Q' : α → Shared → Prop) (E' : Value → Shared → Prop), Q' v s → wpAny M A m Q' E' s) (h2 : wpAny M A (f v) Q E s) : wpAny M A (m >>= f) Q E s := wpAny_bind (h _ _ h2)
theorem e_special_int (n : Int) (t : Tok) : specialOf (Value.int n t) (Str.ofString "__index__") = pure (some (.builtin "int.__index__")) := by
  show (typeOf (Value.int n t) >>= fun x => typeLookup x (Str.ofString "__index__")) = _
  rw [show typeOf (Value.int n t) = pure (.type "int") from rfl, pure_bind]
  exact F.slot_int_index.lookup
theorem e_index_int (n : Int) (t : Tok) : asIndex (Value.int n t) = pure n := rfl
theorem payload_ba {a : Addr} {b : Array UInt8} {Q : Array UInt8 → Shared → Prop} (ho : s.heap.get? a = some (baO b)) (h : Q b s) : wpAny (model prog w) A (Builtin.Bytes.payload (.ref a)) Q E s := by
  unfold Builtin.Bytes.payload Builtin.Bytes.payload?
  exact wpAny_bind (wpAny_bind (wpAny_load ho (wpAny_pure (wpAny_pure h))))
theorem setItem_ba {a : Addr} {b : Array UInt8} {k x : Int} {t u : Tok} {Q : Unit → Shared → Prop} (ho : s.heap.get? a = some (baO b)) (hb : b.size ≤ 1000) (h0 : 0 ≤ k) (hn : k < b.size) (hx0 : 0 ≤ x) (hx : x < 256)
    (hQ : ∀ h', h'.get? a = some (baO (b.setIfInBounds k.toNat x.toNat.toUInt8)) → Heap.SameBut a s.heap h' → Q () { s with heap := h' }) :
    wpAny (model prog w) A (setItem (.ref a) (.int k t) (.int x u)) Q E s := by
  have hT : s.TypeIs (.ref a) "bytearray" := ⟨_, ho, rfl⟩
  unfold setItem
  try with_reducible refine wpAny_holding ?_
  first | refine wpAny_bind (wpAny_pure ?_) | skip
  refine wpAny_bind (wpAny_sequenceKey hT (by decide) ?_)
  refine wpAny_bind (wpAny_callSpecial?_slot (name := Str.ofString "__setitem__") hT slot_setitem
    (wpAny_call_entry slot_setitem hT entry_setitem ?_ (args_setitem _ _ _)))
  unfold Builtin.«bytearray.__setitem__» Builtin.Bytes.subscript? Builtin.Bytes.byteValue
  have f1 : Builtin.Bytes.fitsIndex k = true := by simp only [Builtin.Bytes.fitsIndex, Bool.and_eq_true, decide_eq_true_eq]; omega
  have f2 : (decide (x < 0) || decide (x ≥ 256)) = false := by simp; omega
  simp only [e_special_int, e_index_int, pure_bind, f1, f2, List.isEmpty_nil, Bool.not_true, Bool.false_eq_true, if_false, Option.isNone_some]
  refine wpAny_bind (payload_ba ho ?_)
  have f3 : seqIndex? k b.size = some k.toNat := by
    have h1 : ¬ k < 0 := by omega
    simp [seqIndex?, h1, h0, hn]
  simp only [f3]
  exact wpAny_bind (write_ba ho (by simpa using hb) fun h' ho' hs => wpAny_pure ⟨_, rfl, wpAny_pure (hQ h' ho' hs)⟩)
theorem no_bytes : typeLookup (.type "bytearray") "__bytes__" = pure none := by rw [typeLookup_type, builtinLookup_eq_fast]; kernel_rfl
theorem none_index : typeLookup (.type "bytearray") "__index__" = pure none := by rw [typeLookup_type, builtinLookup_eq_fast]; kernel_rfl
theorem look_buffer : typeLookup (.type "bytearray") "__buffer__" = pure (some (.builtin "bytearray.__buffer__")) := by rw [typeLookup_type, builtinLookup_eq_fast]; kernel_rfl
theorem ends_buf : "bytearray.__buffer__".endsWith ("." ++ "__buffer__") = true := by decide +kernel
theorem drop_buf : "bytearray.__buffer__".dropRight ("__buffer__".length + 1) = "bytearray" := by decide +kernel
theorem buffer_ba {a : Addr} {b : Array UInt8} {Q : Option (Array UInt8) → Shared → Prop} (ho : s.heap.get? a = some (baO b)) (h : Q (some b) s) : wpAny (model prog w) A (Builtin.Bytes.buffer? "bytes.__new__" (.ref a) true) Q E s := by
  have hT : s.TypeIs (.ref a) "bytearray" := ⟨_, ho, rfl⟩
  unfold Builtin.Bytes.buffer? Builtin.Bytes.slotIsOwn
  refine at_ (v := some (.builtin "bytearray.__buffer__")) (fun _ _ q => wpAny_specialOf hT look_buffer q) ?_
  refine wpAny_bind (at_ (v := some (.builtin "bytearray.__buffer__")) (fun _ _ q => wpAny_specialOf hT look_buffer q) ?_)
  simp only [ends_buf, drop_buf, Bool.not_true, Bool.false_eq_true, if_false]
  refine wpAny_isInstance hT F.sub_bytearray_bytearray ?_
  simp only [Bool.not_true, Bool.false_eq_true, if_false]
  refine at_ (v := some (.builtin "bytearray.__buffer__")) (fun _ _ q => wpAny_specialOf hT look_buffer q) ?_
  refine wpAny_bind (own_release ho rfl ?_)
  simp only [Bool.false_eq_true, if_false]
  exact wpAny_bind (payload_ba ho (wpAny_pure h))
theorem bytes_new_ba (a : Addr) (b : Array UInt8) : Meets (Builtin.«bytes.__new__» ⟨[.type "bytes", .ref a], []⟩)
    (fun _ R s => s.heap.get? a = some (baO b) ∧ b.size ≤ 1000 ∧ R (.ok (.ret (.bytes b s.toks))) { s with toks := s.toks + 1 }) := by
  refine Meets.of_wp fun prog w A R s hs => ?_
  obtain ⟨ho, hb, hR⟩ := hs
  have hT : s.TypeIs (.ref a) "bytearray" := ⟨_, ho, rfl⟩
  have hsub := F.bm_sub
  unfold Builtin.«bytes.__new__»
  have e1 : isType (.type "bytes") = pure true := rfl
  simp only [F.bm_bind, Builtin.Bytes.checkCodecArg, pure_bind, hsub, e1, Bool.not_true, Option.isSome_none, Bool.false_eq_true, if_false]
  refine at_ (v := none) (fun _ _ q => wpAny_specialOf hT no_bytes q) ?_
  have e2 : ∀ (Q' : Option Str → Shared → Prop) (E' : Value → Shared → Prop), Q' none s → wpAny (model prog w) A.in1 (asStr? (.ref a)) Q' E' s := fun Q' E' q => by
    show wpAny _ _ (load a >>= _) _ _ _
    exact wpAny_bind (wpAny_load ho (wpAny_pure q))
  refine at_ (v := false) (fun _ _ q => at_ (v := none) e2 (wpAny_pure q)) ?_
  simp only [Bool.false_eq_true, if_false]
  refine at_ (v := none) (fun _ _ q => wpAny_specialOf hT none_index q) ?_
  simp only [Option.isNone_none, if_true]
  show wpAny _ _ (Builtin.Bytes.buffer? "bytes.__new__" (.ref a) true >>= _) _ _ _
  refine at_ (v := some b) (fun _ _ q => buffer_ba ho q) ?_
  show wpAny _ _ (rule "bytes.__new__.bytes-like" >>= _) _ _ _
  refine wpAny_bind (wpAny_rule ?_)
  unfold mkBytes
  rw [if_neg (Nat.not_lt.mpr (Nat.le_trans hb (by decide)))]
  refine wpAny_bind (wpAny_bind (wpAny_fresh (wpAny_pure ?_)))
  exact wpAny_pure ⟨_, rfl, hR⟩
theorem bytes_ba {a : Addr} {b : Array UInt8} {Q : Value → Shared → Prop} (ho : s.heap.get? a = some (baO b)) (hb : b.size ≤ 1000) (h : Q (.bytes b s.toks) { s with toks := s.toks + 1 }) :
    wpAny (model prog w) A (call (.type "bytes") [.ref a]) Q E s :=
  callType_new F.bm_called (by decide) (F.bm_typeCall _) (F.bm_newCall _) (fun obj => F.args_object_init_2 obj _) F.bm_entry (bytes_new_ba a b) ⟨ho, hb, rfl, h⟩
end
end BA
end Mine

end
section
-- C1
open PySem PySem.W PyProof.Rows PySem.Calls
namespace Mine
set_option maxRecDepth 100000
set_option maxHeartbeats 4000000

noncomputable abbrev HK (w : World) : Frag := HX.hd.heap_39 w.params

noncomputable def fd28 : FuncData := ({ val := _, property := fun _ => rfl } : { fd // ∀ P, fdOf (HX.hd.heap_39 P) 28 = fd }).val

theorem build_spec {prog : Program} {w : World} {A : Around} {E : Value → Shared → Prop} {s : Shared} {X : List Addr} {v : Value} {x y : Str} (G : Glb (HK w) s.heap) (r : Rm A 1)
    (hv : Has (vw s.heap X) v (.tuple [.str x, .str y])) (hsz : x.length + y.length + 1 ≤ sizeLine) :
    wpAny (model prog w) A (call (.ref 28) [v]) (fun r s' => Chg [] s s' ∧ ∃ t, r = .str (x ++ Str.ofString "." ++ y) t) E s := by
  refine enter fd28 [(Str.ofString "localetuple", v)] G ⟨_, _, _, rfl⟩ rfl (by rfl) r rfl rfl (by rfl) (by rfl) ?_
  have hsz' : x.length + (Str.ofString ".").length + y.length ≤ sizeLine := by rw [show (Str.ofString ".").length = 1 from rfl]; omega
  intro L s₁ A' hL r' c k
  refine wpAny_execs_cons (Try_ok (wpAny_execs_cons (Assign_Tuple (nL c rfl ?_))))
  refine unpack2L r'.hd c (hv.mono c.chg.nil.vle) fun s₂ v1 v2 c2 m2 c h1 h2 => ?_
  obtain ⟨t1, rfl⟩ := h1.str_inv
  obtain ⟨t2, rfl⟩ := h2.str_inv
  refine wpAny_execs_cons (wpAny_If (wpAny_isTrue_Compare1 (nL c rfl (wpAny_Constant_none (is_none ?_)))))
  refine wpAny_truthy_bool ?_
  refine wpAny_execs_nil (wpAny_execs_cons (wpAny_If (wpAny_isTrue_Compare1 (nL c rfl (wpAny_Constant_none (is_none ?_))))))
  refine wpAny_truthy_bool ?_
  refine wpAny_execs_cons (wpAny_Return_some (wpAny_BinOp (wpAny_BinOp (nL c rfl (wpAny_Constant_str ?_)))))
  refine PyProof.Rows.add_str (fun t' tk => nL (c.on .toks) rfl (PyProof.Rows.add_str (fun t'' tk'' => ⟨?_, _, rfl⟩) ?_)) ?_
  · exact c.chg.trans .toks
  · rw [Str.length_append]; exact hsz'
  · exact Nat.le_trans (Nat.le_add_right _ y.length) hsz'
end Mine

end
section
-- B10
open PySem PySem.W PyProof.Rows PySem.Calls
namespace Mine
set_option maxRecDepth 100000

/-- data that stands in no heap -/
noncomputable def Flat : Dat → Bool
  | .list _ | .tuple _ => false
  | _ => true
theorem Has.flat {V V' : Addr → Option Obj} {v : Value} {d : Dat} (h : Has V v d) (f : Flat d = true) : Has V' v d := by
  cases h <;> first | (cases f; done) | constructor
theorem HasAll.flat {V V' : Addr → Option Obj} {vs : List Value} {ds : List Dat} (h : HasAll V vs ds) (f : ds.all Flat = true) : HasAll V' vs ds := by
  induction vs generalizing ds with
  | nil => cases h; exact .nil
  | cons v vs ih =>
    cases h with
    | cons h r =>
      rw [List.all_cons, Bool.and_eq_true] at f
      exact .cons (h.flat f.1) (ih r f.2)
theorem map_erase {α β : Type} (f : α → β) (l : List α) (k : Nat) : (l.map f).eraseIdx k = (l.eraseIdx k).map f := by
  induction l generalizing k with
  | nil => rfl
  | cons x l ih => cases k with
    | zero => rfl
    | succ k => exact congrArg (f x :: ·) (ih k)
theorem Has.lst_notin {h : Heap} {X : List Addr} {a : Addr} {ds : List Dat} (hv : Has (vw h X) (.ref a) (.list ds)) : a ∉ X ∧ h.get? a ≠ Option.none := by
  obtain ⟨a', vs, n, e, hV, _⟩ := hv.lst_inv
  cases e
  obtain ⟨h1, h2, _⟩ := vw_some.mp hV
  exact ⟨h1, ne_none_of h2⟩
theorem flat_strs (xs : List Str) : (xs.map Dat.str).all Flat = true := by induction xs <;> simp_all [Flat]
theorem flat_ints (xs : List Int) : (xs.map Dat.int).all Flat = true := by induction xs <;> simp_all [Flat]

section
variable {prog : Program} {w : World} {A : Around} {s : Shared} {env : Env} {h : Heap} {X : List Addr}

theorem itemV {x : Str} {pos pos' : Pos} {idx : Expr} {v : Value} {ds : List Dat} {i : Int} {d : Dat} {Q : Value → Shared → Prop} {E : Value → Shared → Prop} (r : Rd prog w A env h x v) (hv : Has (vw h X) v (.list ds)) (hi : IE prog w A env h idx i) (h0 : 0 ≤ i) (hsz : i < 2 ^ 63) (hd : ds[i.toNat]? = some d) (hs : s.heap = h)
    (hQ : ∀ v k, Has (vw h X) v d → Q v { s with toks := k }) (hs' : ∀ o i, subscripted idx false o i = operate [o, i] (getItem o i) := by intro _ _; rfl) : wpAny (model prog w) A (eval (.Subscript (.Name x pos') idx pos) env) Q E s := by
  obtain ⟨a, vs, m, rfl, hV, hA⟩ := hv.lst_inv
  obtain ⟨_, ha, _⟩ := vw_some.mp hV
  obtain ⟨v', hv', hh⟩ := hA.at hd
  have hl : s.heap.IsList a vs.toArray := by rw [hs]; exact ⟨_, ha, rfl, m, rfl⟩
  refine Subscript_ (r _ s _ _ hs (hi.run s _ _ hs fun t' k => subscriptTail_builtin (T := "list") hl.typeIs F.slot_list_getitem.lookup (wpAny_getItem_list hl h0 hsz (by simpa using hv') (hQ _ _ hh)) (hs' _ _) (fun _ => rfl)))
theorem itemVn {x : Str} {pos pos' : Pos} {idx : Expr} {v : Value} {ds : List Dat} {i : Int} {d : Dat} {Q : Value → Shared → Prop} {E : Value → Shared → Prop} (r : Rd prog w A env h x v) (hv : Has (vw h X) v (.list ds)) (hi : IE prog w A env h idx i) (h0 : i < 0) (h1 : -(ds.length : Int) ≤ i) (hsz : -(2 ^ 63) ≤ i) (hd : ds[(i + ds.length).toNat]? = some d) (hs : s.heap = h)
    (hQ : ∀ v k, Has (vw h X) v d → Q v { s with toks := k }) (hs' : ∀ o i, subscripted idx false o i = operate [o, i] (getItem o i) := by intro _ _; rfl) : wpAny (model prog w) A (eval (.Subscript (.Name x pos') idx pos) env) Q E s := by
  obtain ⟨a, vs, m, rfl, hV, hA⟩ := hv.lst_inv
  obtain ⟨_, ha, _⟩ := vw_some.mp hV
  obtain ⟨v', hv', hh⟩ := hA.at hd
  have hl : s.heap.IsList a vs.toArray := by rw [hs]; exact ⟨_, ha, rfl, m, rfl⟩
  have hlen := hA.length
  refine Subscript_ (r _ s _ _ hs (hi.run s _ _ hs fun t' k => subscriptTail_builtin (T := "list") hl.typeIs F.slot_list_getitem.lookup (wpAny_getItem_list_neg hl h0 (by simpa [hlen] using h1) hsz (by simpa [hlen] using hv') (hQ _ _ hh)) (hs' _ _) (fun _ => rfl)))

/-- del x[idx] -/
theorem delV {x : Str} {pos pos' dpos : Pos} {idx : Expr} {a : Addr} {ds : List Dat} {i : Int} {k : Nat} {Q : Flow → Shared → Prop} {E : Value → Shared → Prop} (r : Rd prog w A env s.heap x (.ref a)) (hv : Has (vw s.heap X) (.ref a) (.list ds)) (hf : ds.all Flat = true) (hi : IE prog w A env s.heap idx i)
    (hfit : Builtin.List.listFitsIndex i = true) (hk : seqIndex? i ds.length = some k) (hsz : ds.length ≤ sizeLine)
    (hQ : ∀ s', Chg [a] s s' → Has (vw s'.heap X) (.ref a) (.list (ds.eraseIdx k)) → Q .next s') : wpAny (model prog w) A (exec (.Delete [.Subscript (.Name x pos') idx pos] dpos) env) Q E s := by
  obtain ⟨a', vs, m, e, hV, hA⟩ := hv.lst_inv
  cases e
  obtain ⟨haX, ha, _⟩ := vw_some.mp hV
  have hlen := hA.length
  refine wpAny_Delete (wpAny_deleteEach_cons (wpAny_delete_Subscript (rd r rfl (hi.run s _ _ rfl fun t k' => ?_))))
  refine delItem_at ha hfit (by simpa [hlen] using hk) (fun h' hs' ho' => wpAny_deleteEach_nil (hQ _ (.same hs' ho') ?_)) (by simpa [hlen] using hsz)
  refine .lst (vw_some.mpr ⟨haX, ho', rfl⟩) ?_
  have : HasAll (vw h' X) (vs.eraseIdx k) (ds.eraseIdx k) := by
    rw [List.eraseIdx_eq_take_drop_succ, List.eraseIdx_eq_take_drop_succ]
    have hA' : HasAll (vw h' X) vs ds := hA.flat hf
    exact (hA'.take k).append (hA'.drop (k + 1))
  simpa using this


open PySem.Builtin in
noncomputable def find4 (x y : Str) (i j : Int) : Int := match Builtin.Str.occurrences x y (fromIndex x.length i) (min (fromIndex x.length j) x.length) 1 with | k :: _ => (k : Int) | [] => -1
theorem gives_find4 (x y : Str) (i j : Int) (t u v v' : Tok) : Gives (Builtin.«str.find» ⟨[.str x t, .str y u, .int i v, .int j v'], []⟩) (.int (find4 x y i j)) := by
  show Gives (match Builtin.Str.occurrences x y (fromIndex x.length i) (min (fromIndex x.length j) x.length) 1 with | k :: _ => retInt k | [] => (do rule "str.find.not-found"; retInt (-1))) _
  unfold find4
  cases Builtin.Str.occurrences x y (fromIndex x.length i) (min (fromIndex x.length j) x.length) 1 with
  | nil => exact .rule (.of_eq rfl)
  | cons k _ => exact .of_eq rfl
theorem call_find4 {x y : Str} {i j : Int} {t u v v' : Tok} {Q : Value → Shared → Prop} {E : Value → Shared → Prop} (hq : Q (.int (find4 x y i j) s.toks) { s with toks := s.toks + 1 }) : wpAny (model prog w) A (call (.builtin "str.find") [.str x t, .str y u, .int i v, .int j v']) Q E s :=
  call_gives F.slot_str_find (typeIs_str _ _ _) F.entry_str_find (F.args_str_find_4 _ _ _ _) (gives_find4 x y i j t u v v') hq
theorem hasAll_strs {V : Addr → Option Obj} : ∀ (l : List (Str × Tok)), HasAll V (strValues l) ((l.map (·.1)).map Dat.str)
  | [] => .nil
  | x :: l => .cons (.str x.1 x.2) (hasAll_strs l)
/-- x.split(y) -/
theorem call_split {x y : Str} {t u : Tok} {Q : Value → Shared → Prop} {E : Value → Shared → Prop} (hy : (y.length == 0) = false) (hX : Dom X s.heap)
    (hsz : x.length ≤ sizeLine) (hsz2 : (Builtin.Str.partsBetween x (Builtin.Str.occurrences x y 0 x.length (x.length + 1)) y.length).length ≤ sizeLine)
    (hq : ∀ D s', Chg [] s s' → s.heap.get? D = none → Has (vw s'.heap X) (.ref D) (.list ((Txt.split x y).map .str)) → Q (.ref D) s') : wpAny (model prog w) A (call (.builtin "str.split") [.str x t, .str y u]) Q E s := by
  have fin : ∀ (l : List (Str × Tok)) (n tk : Nat), l.map (·.1) = Txt.split x y → Q (.ref s.heap.objs.size) { s with heap := s.heap.push { cls := .type "list", data := .seq (strValues l).toArray n }, toks := tk } := fun l n tk e => by
    refine hq _ _ .push (get_size_none _) (.lst (vw_some.mpr ⟨hX.fresh, Heap.get?_push_size _ rfl, rfl⟩) ?_)
    rw [← e]
    exact hasAll_strs l
  cases h1 : (decide (x.length < y.length) || decide (Builtin.Str.strKind x < Builtin.Str.strKind y))
  · cases hf : (Builtin.Str.occurrences x y 0 x.length (x.length + 1)).isEmpty
    · refine call_meets F.slot_str_split (typeIs_str _ _ _) F.entry_str_split (F.args_str_split_2 _ _) (meets_str_split_sep x y t u h1 hy hf hsz hsz2) ?_
      show wants Q E _ { s with toks := _, heap := s.heap.push { cls := .type "list", data := .seq (strsFrom s.toks (Builtin.Str.partsBetween x (Builtin.Str.occurrences x y 0 x.length (x.length + 1)) y.length)).toArray } }
      rw [strsFrom_eq]
      exact fin (PySem.numbered s.toks _) 0 _ ((numbered_texts _ _).trans ((if_neg (ne_true_of_eq_false h1)).trans (if_neg (ne_true_of_eq_false hf))).symm)
    · exact call_meets F.slot_str_split (typeIs_str _ _ _) F.entry_str_split (F.args_str_split_2 _ _) (meets_str_split_not_found x y t u h1 hy hf)
        (fin [(x, t)] 0 s.toks ((if_neg (ne_true_of_eq_false h1)).trans (if_pos hf)).symm)
  · exact call_meets F.slot_str_split (typeIs_str _ _ _) F.entry_str_split (F.args_str_split_2 _ _) (meets_str_split_cannot_occur x y t u h1)
      (fin [(x, t)] 0 s.toks (if_pos h1).symm)
end
end Mine

end
section
-- B11
open PySem PySem.W PyProof.Rows PySem.Calls
namespace Mine
set_option maxRecDepth 100000
section
variable {prog : Program} {w : World} {A : Around} {s s₀ : Shared} {env : Env} {X : List Addr} {m : Str → Option Value}

theorem tupN {vs : List Value} {ds : List Dat} {Q : Value → Shared → Prop} {E : Value → Shared → Prop} (hX : Dom X s.heap) (hA : HasAll (vw s.heap X) vs ds) (hsz : vs.length ≤ 1000)
    (h : ∀ r s', Chg [] s s' → Has (vw s'.heap X) r (.tuple ds) → Q r s') : wpAny (model prog w) A (newTuple vs) Q E s :=
  wpAny_newTuple (h _ _ (.push (t := s.toks)) (.tup (vw_some.mpr ⟨hX.fresh, Heap.get?_push_size _ rfl, rfl⟩) rfl rfl (hA.mono (Chg.push (X := X) (t := s.toks)).vle))) (Nat.le_trans hsz (by decide))
theorem listN {vs : List Value} {ds : List Dat} {Q : Value → Shared → Prop} {E : Value → Shared → Prop} (hX : Dom X s.heap) (hA : HasAll (vw s.heap X) vs ds) (hsz : vs.length ≤ 1000)
    (h : ∀ a s', Chg [] s s' → s.heap.get? a = none → Has (vw s'.heap X) (.ref a) (.list ds) → Q (.ref a) s') : wpAny (model prog w) A (newList vs) Q E s :=
  wpAny_newList (h _ _ (.push (t := s.toks)) (get_size_none _) (.lst (vw_some.mpr ⟨hX.fresh, Heap.get?_push_size _ rfl, rfl⟩) (hA.mono (Chg.push (X := X) (t := s.toks)).vle))) (Nat.le_trans hsz (by decide))

theorem unpackV {vs : List Value} {a : Addr} {o : Obj} {n k : Nat} {Q : List Value → Shared → Prop} {E : Value → Shared → Prop} (hh : A.handled = none) (ho : s.heap.get? a = some o) (hc : o.cls = .type "tuple") (hd : o.data = .seq vs.toArray n) (hk : k = vs.length)
    (h : ∀ s', Chg [] s s' → Q vs s') : wpAny (model prog w) A (unpackItems (.ref a) k none) Q E s := by
  subst hk
  have ht : IsTup s.heap a vs.toArray := ⟨o, ho, hc, n, hd⟩
  have := unpackItems_tuple (prog := prog) (w := w) (A := A) (Q := Q) (E := E) hh ht fun h' he => by
    have c : Chg [] s { s with heap := h' } := .of_le (t := s.toks) fun b o e => he b o (Nat.ne_of_lt (Heap.lt_size e)) e
    exact h _ c
  simpa using this

/-- x, y = e1, e2: the stores in the other order -/
theorem swap2 {x y : Str} {px py tpos vpos pos : Pos} {k k' : Nat} {e1 e2 : Expr} {Q : Flow → Shared → Prop} {E : Value → Shared → Prop} (hh : A.handled = none)
    (h : wpAny (model prog w) A (eval e1 env) (fun v1 s1 => wpAny (model prog w) A (eval e2 env) (fun v2 s2 => Cx s₀ env.locals m s2 ∧
      ∀ s', Chg [env.locals] s2 s' → (∀ X, VLe (vw s2.heap X) (vw s'.heap X)) → Cx s₀ env.locals (upd (upd m y v2) x v1) s' → Q .next s') E s1) E s)
    (hs : swapsWithSole [.Tuple [.Name x px, .Name y py] k tpos] (.Tuple [e1, e2] k' vpos) pos.line env = pure false := by rfl)
    (hw : swappedStores [.Tuple [.Name x px, .Name y py] k tpos] (.Tuple [e1, e2] k' vpos) env = pure (some [x, y]) := by rfl)
    (hst : starEach [e1, e2] env = (false, eval e1 env) :: starEach [e2] env := by rfl) (hst2 : starEach [e2] env = (false, eval e2 env) :: starEach [] env := by rfl)
    (hk : env.scope.kind = .function := by rfl) (hl : env.kindOf x = some .local := by rfl) (hl2 : env.kindOf y = some .local := by rfl) :
    wpAny (model prog w) A (exec (.Assign [.Tuple [.Name x px, .Name y py] k tpos] (.Tuple [e1, e2] k' vpos) pos) env) Q E s := by
  refine Assign_Tuple_swapped (Tuple_ (spliced_more (wpAny_mono h (fun v1 s1 h1 => spliced_more (wpAny_mono h1 (fun v2 s2 h2 => spliced_none ?_) fun _ _ x => x) hst2) fun _ _ x => x) hst)) hs hw
  obtain ⟨c, hq⟩ := h2
  refine wpAny_newTuple ?_ (by show 2 ≤ sizeLine; decide)
  refine unpackV hh (Heap.get?_push_size _ rfl) rfl rfl rfl fun s' ch => ?_
  have ch' : Chg [] s2 s' := (Chg.push (t := s2.toks)).trans ch
  refine assignInOrder_cons (wpAny_bindName (sL (c.on ch') (fun s3 g3 v3 c3 => assignInOrder_cons (wpAny_bindName (sL c3 (fun s4 g4 v4 c4 => assignInOrder_nil ?_) hk hl))) hk hl2))
  exact hq s4 (ch'.nil.trans (g3.trans g4)) (fun X => ch'.nil.vle.trans ((v3 X).trans (v4 X))) c4
end
end Mine

end
section
-- C3
open PySem PySem.W PyProof.Rows PySem.Calls PySem.Builtin.Str
namespace Mine
set_option maxRecDepth 100000
set_option maxHeartbeats 4000000

noncomputable def fd35 : FuncData := ({ val := _, property := fun _ => rfl } : { fd // ∀ P, fdOf (HX.hd.heap_39 P) 35 = fd }).val

/-- the search for the middle pieces -/
noncomputable def emLoop (got : Str) (ep : Int) : List Str → Int → Bool
  | [], _ => true
  | w :: ws, sp => if find4 got w sp ep < 0 then false else emLoop got ep ws (find4 got w sp ep + w.length)
noncomputable def emMid (got : Str) (ws : List Str) (sp ep : Int) : Bool := if sp > ep then false else emLoop got ep ws sp
noncomputable def emTail (got : Str) (ws : List Str) (sp : Int) : Bool :=
  if (ws.getLast?.getD ⟨#[]⟩).length ≠ 0 then (if Txt.endswith got (ws.getLast?.getD ⟨#[]⟩) then emMid got (ws.eraseIdx (ws.length - 1)) sp (got.length - (ws.getLast?.getD ⟨#[]⟩).length) else false)
  else emMid got ws sp got.length
noncomputable def emB (got : Str) (ws : List Str) : Bool :=
  if (ws.head?.getD ⟨#[]⟩).length ≠ 0 then (if Txt.startswith got (ws.head?.getD ⟨#[]⟩) then emTail got (ws.eraseIdx 0) (ws.head?.getD ⟨#[]⟩).length else false)
  else emTail got ws 0

noncomputable def body35 : List Stmt := match fd35.body with | .stmts b => b | _ => []
theorem em_mid {prog : Program} {w : World} {A : Around} {s st : Shared} {L D : Addr} {got : Str} {u tp te : Tok} {sp ep : Int} {ws : List Str} {mm : Str → Option Value} (G : Glb (HK w) s.heap) (hh : A.handled = none) (c : Cx s L mm st) (hg : got.length ≤ 1000) (hwl : ∀ x ∈ ws, x.length ≤ 1000)
    (h1 : mm (Str.ofString "got") = some (.str got u)) (h2 : mm (Str.ofString "ws") = some (.ref D)) (h3 : mm (Str.ofString "startpos") = some (.int sp tp)) (h4 : mm (Str.ofString "endpos") = some (.int ep te)) (hv : Has (vw st.heap [L]) (.ref D) (.list (ws.map .str))) :
    wpAny (model prog w) A (execs (body35.drop 8) (callEnvC fd35 L 35)) (fun fl s' => Chg [] s s' ∧ (match fl with | .ret v => v | _ => .none) = .bool (emMid got ws sp ep)) No st := by
  refine wpAny_execs_cons (wpAny_If (wpAny_isTrue_Compare1 (nL c h3 (nL c h4 (P.gt_int (wpAny_truthy_bool ?_))))))
  by_cases hgt : sp > ep
  · rw [decide_eq_true hgt]
    refine wpAny_execs_cons (wpAny_Return_some (wpAny_Constant_bool ⟨c.chg, ?_⟩))
    unfold emMid
    rw [if_pos hgt]
  · rw [decide_eq_false hgt]
    refine wpAny_execs_nil ?_
    unfold emMid
    rw [if_neg hgt]
    have hX : Dom [L] st.heap := Dom.cons (fun b hb => by cases hb) (ns_dom c.ns)
    let J : List Addr → Nat → Shared → Prop := fun _ i st => ∃ mm p tp, Cx s L mm st ∧ mm (Str.ofString "got") = some (.str got u) ∧ mm (Str.ofString "endpos") = some (.int ep te) ∧ mm (Str.ofString "startpos") = some (.int p tp) ∧ emLoop got ep ws sp = emLoop got ep (ws.drop i) p
    refine wpAny_execs_cons (forI J (srcList (ds := ws.map .str) hh hX fun Q hQ => nL c h2 (hQ _ _ (.refl _ _) hv)) hX ?_ ?_ ?_ ?_)
    · intro X' s₄ ch _ _
      exact ⟨_, sp, tp, c.on ch, h1, h4, h3, rfl⟩
    · rintro X' Z i st st' hZ hZX hn ⟨mm, p, tp, cx, h⟩ ch
      exact ⟨mm, p, tp, c.stab (.head _) hZX hn cx ch, h⟩
    · rintro X' i d v st T
      obtain ⟨mm, p, tp, cx, h1, h2, h3, h4⟩ := T.inv
      have hi := T.item
      rw [List.getElem?_map] at hi
      obtain ⟨x, hx, rfl⟩ := Option.map_eq_some_iff.mp hi
      obtain ⟨tx, rfl⟩ := T.has.str_inv
      have hil : i < ws.length := (List.getElem?_eq_some_iff.mp hx).1
      have hdrop : ws.drop i = x :: ws.drop (i + 1) := by rw [List.drop_eq_getElem_cons hil, (List.getElem?_eq_some_iff.mp hx).2]
      rw [hdrop] at h4
      refine aL cx fun st2 g2 v2 cx2 => ?_
      refine wpAny_execs_cons (wpAny_Assign_Name (MethodCall_ (nL cx2 (upd_ne (by decide) h1) (GM.find (callWith_method1 (spliced_more (nL cx2 upd_eq (spliced_more (nL cx2 (upd_ne (by decide) h3) (spliced_more (nL cx2 (upd_ne (by decide) h2) (spliced_none (call_find4 ?_)))))))))))))
      refine sL (cx2.on .toks) fun st3 g3 v3 cx3 => ?_
      refine wpAny_execs_cons (wpAny_If (wpAny_isTrue_Compare1 (nL cx3 upd_eq (wpAny_Constant_int (P.lt_int (wpAny_truthy_bool ?_))))))
      by_cases hlt : find4 got x p ep < 0
      · rw [decide_eq_true hlt]
        refine wpAny_execs_cons (wpAny_Return_some (wpAny_Constant_bool ⟨(cx3.on .toks).chg, ?_⟩))
        rw [h4, emLoop, if_pos hlt]
      · rw [decide_eq_false hlt]
        refine wpAny_execs_nil ?_
        have cx4 := cx3.on (Chg.toks (t := st3.toks + 1))
        refine wpAny_execs_cons (wpAny_AugAssign_Name (lL cx4 upd_eq ((IE.lenS (.bi (G.cx cx4) rfl rfl (by decide)) (.loc cx4 (upd_ne (by decide) upd_eq)) (by have := hwl x (List.mem_of_getElem? hx); omega)).run _ _ _ rfl fun t4 k4 => P.iadd_int (sL (cx4.on (Chg.toks.trans .toks)) fun st5 g5 v5 cx5 => ?_))))
        refine wpAny_execs_nil ⟨⟨_, _, _, cx5, upd_ne (by decide) (upd_ne (by decide) (upd_ne (by decide) h1)), upd_ne (by decide) (upd_ne (by decide) (upd_ne (by decide) h2)), upd_eq, ?_⟩, ?_⟩
        · rw [h4, emLoop, if_neg hlt]
        · exact g2.trans ((Chg.toks.trans g3).trans (Chg.toks.trans g5))
    · rintro X' st Lst
      obtain ⟨mm, p, tp, cx, h1, h2, h3, h4⟩ := Lst.inv
      refine wpAny_execs_cons (wpAny_Return_some (wpAny_Constant_bool ⟨cx.chg, ?_⟩))
      rw [h4, List.length_map, List.drop_length]
      rfl
theorem em_tail {prog : Program} {w : World} {A : Around} {s st : Shared} {L D : Addr} {got : Str} {u tp te : Tok} {sp : Int} {ws : List Str} {mm : Str → Option Value} (G : Glb (HK w) s.heap) (hh : A.handled = none) (c : Cx s L mm st) (hg : got.length ≤ 1000) (hwl : ∀ x ∈ ws, x.length ≤ 1000) (hn : ws.length ≤ 1000) (h0 : 0 < ws.length)
    (hD : s.heap.get? D = none) (h1 : mm (Str.ofString "got") = some (.str got u)) (h2 : mm (Str.ofString "ws") = some (.ref D)) (h3 : mm (Str.ofString "startpos") = some (.int sp tp)) (h4 : mm (Str.ofString "endpos") = some (.int got.length te)) (hv : Has (vw st.heap [L]) (.ref D) (.list (ws.map .str))) :
    wpAny (model prog w) A (execs (body35.drop 6) (callEnvC fd35 L 35)) (fun fl s' => Chg [] s s' ∧ (match fl with | .ret v => v | _ => .none) = .bool (emTail got ws sp)) No st := by
  have hlast : ∃ x, ws.getLast? = some x ∧ ws[ws.length - 1]? = some x := by
    cases e : ws.getLast? with
    | none => rw [List.getLast?_eq_none_iff] at e; subst e; cases h0
    | some x => exact ⟨x, rfl, by rw [← List.getLast?_eq_getElem?]; exact e⟩
  obtain ⟨x, hx, hx'⟩ := hlast
  unfold emTail
  rw [hx, Option.getD_some]
  have hxl : x.length ≤ 1000 := hwl x (List.mem_of_getElem? hx')
  refine wpAny_execs_cons (wpAny_Assign_Name (itemVn (i := -1) (d := .str x) (.loc c h2) hv (.neg .const) (by omega) (by simp; omega) (by omega) ?_ rfl fun v k hvx => ?_))
  · rw [List.length_map, show ((-1 : Int) + ws.length).toNat = ws.length - 1 by omega, List.getElem?_map, hx']; rfl
  obtain ⟨tx, rfl⟩ := hvx.str_inv
  refine sL (c.on .toks) fun st2 g2 v2 c2 => ?_
  have hv2 : Has (vw st2.heap [L]) (.ref D) (.list (ws.map .str)) := hv.mono (v2 _)
  refine wpAny_execs_cons (wpAny_If (wpAny_isTrue_value (nL c2 upd_eq (P.truthy_str (by omega) ?_))))
  by_cases hz : x.length ≠ 0
  · rw [if_pos hz, show ((x.length : Int) != 0) = true by simpa using hz]
    have c2' := c2.on (Chg.toks (t := st2.toks + 1 + 1))
    refine wpAny_execs_cons (wpAny_If (wpAny_isTrue_value (MethodCall_ (nL c2' (upd_ne (by decide) h1) (GM.endswith (callWith_method1 (spliced_more (nL c2' upd_eq (spliced_none (SC.endswith (wpAny_truthy_bool ?_)))))))))))
    cases he : Txt.endswith got x with
    | false =>
      refine wpAny_execs_cons (wpAny_Return_some (wpAny_Constant_bool ⟨c2'.chg, rfl⟩))
    | true =>
      refine wpAny_execs_cons (wpAny_AugAssign_Name (lL c2' (upd_ne (by decide) h4) ((IE.lenS (.bi (G.cx c2') rfl rfl (by decide)) (.loc c2' upd_eq) (by omega)).run _ _ _ rfl fun t4 k4 => P.isub_int (sL (c2'.on (Chg.toks.trans .toks)) fun st3 g3 v3 c3 => ?_))))
      have hv3 : Has (vw st3.heap [L]) (.ref D) (.list (ws.map .str)) := hv2.mono (v3 _)
      refine wpAny_execs_cons (delV (i := -1) (k := ws.length - 1) (.loc c3 (upd_ne (by decide) (upd_ne (by decide) h2))) hv3 (flat_strs _) (.neg .const) (by decide) ?_ (by simp; exact Nat.le_trans hn (by decide)) fun st4 g4 hv4 => ?_)
      · rw [List.length_map]; simp [seqIndex?]; omega
      refine wpAny_execs_nil (wpAny_execs_nil ?_)
      rw [map_erase] at hv4
      have hDL : L ≠ D := fun q => by subst q; exact hv.lst_notin.1 (.head _)
      exact em_mid G hh (c3.go (X := [D]) g4.toChw (fun q => hDL (List.mem_singleton.mp q)) (fun b hb => by rw [List.mem_singleton.mp hb]; exact hD)) hg (fun y hy => hwl y (List.mem_of_mem_eraseIdx hy)) (upd_ne (by decide) (upd_ne (by decide) h1)) (upd_ne (by decide) (upd_ne (by decide) h2)) (upd_ne (by decide) (upd_ne (by decide) h3)) upd_eq hv4
  · rw [if_neg hz, show ((x.length : Int) != 0) = false by simpa using hz]
    refine wpAny_execs_nil ?_
    exact em_mid G hh (c2.on (Chg.toks.trans .toks)) hg hwl (upd_ne (by decide) h1) (upd_ne (by decide) h2) (upd_ne (by decide) h3) (upd_ne (by decide) h4) hv2

theorem ellipsis_spec {prog : Program} {w : World} {A : Around} {s : Shared} {want got : Str} {t u : Tok} (G : Glb (HK w) s.heap) (r : Rm A 1) (hc : Txt.contains want (Str.ofString "...") = true) (h2 : 2 ≤ (Txt.split want (Str.ofString "...")).length)
    (hn : (Txt.split want (Str.ofString "...")).length ≤ 1000) (hwl : ∀ x ∈ Txt.split want (Str.ofString "..."), x.length ≤ 1000) (hw : want.length ≤ 1000) (hg : got.length ≤ 1000)
    (hps : (partsBetween want (occurrences want (Str.ofString "...") 0 want.length (want.length + 1)) (Str.ofString "...").length).length ≤ sizeLine) :
    wpAny (model prog w) A (call (.ref 35) [.str want t, .str got u]) (fun r s' => Chg [] s s' ∧ r = .bool (emB got (Txt.split want (Str.ofString "...")))) No s := by
  refine enter fd35 [(Str.ofString "want", .str want t), (Str.ofString "got", .str got u)] (body := body35) G ⟨_, _, _, rfl⟩ rfl (by rfl) r rfl rfl (by rfl) (by rfl) ?_
  intro L s₁ A' hL r' c ce
  refine wpAny_execs_cons (wpAny_If (wpAny_isTrue_Compare1 (rd (.glob (v := .str (Str.ofString "...") 211) (G.cx c) rfl) rfl (nL c rfl (SB.notContains (wpAny_truthy_bool ?_))))))
  rw [hc]
  refine wpAny_execs_nil (wpAny_execs_cons (wpAny_Assign_Name (MethodCall_ (nL c rfl (GM.split (callWith_method1 (spliced_more (rd (.glob (v := .str (Str.ofString "...") 211) (G.cx c) rfl) rfl (spliced_none ?_)))))))))
  have hX1 : Dom [L] s₁.heap := Dom.cons (fun b hb => by cases hb) (ns_dom c.ns)
  generalize hws : Txt.split want (Str.ofString "...") = ws at h2 hn hwl
  refine call_split (X := [L]) (by decide) hX1 (Nat.le_trans hw (by decide)) hps fun D s₂ g2 hD hv => ?_
  rw [hws] at hv
  have hDs : s.heap.get? D = none := back c.chg hD
  refine sL (c.on g2) fun s₃ g3 v3 c3 => ?_
  have hv3 : Has (vw s₃.heap [L]) (.ref D) (.list (ws.map .str)) := hv.mono (v3 _)
  refine wpAny_execs_cons (wpAny_Assert r'.hd (wpAny_isTrue_Compare1 ((IE.lenL (.bi (G.cx c3) rfl rfl (by decide)) (.loc c3 upd_eq) hv3 (by simp; omega)).run _ _ _ rfl fun t4 k4 => wpAny_Constant_int (P.ge_int (wpAny_truthy_bool ?_)))))
  rw [List.length_map, decide_eq_true (by omega : (ws.length : Int) ≥ 2)]
  have c4 := c3.on (Chg.toks (t := k4 + 1))
  refine wpAny_execs_cons (swap2 (s₀ := s) (m := upd (bindL (callEnvC fd35 L 35).kindOf [(Str.ofString "want", .str want t), (Str.ofString "got", .str got u)] nones) (Str.ofString "ws") (.ref D)) r'.hd (wpAny_Constant_int ((IE.lenS (.bi (G.cx c4) rfl rfl (by decide)) (.loc c4 (upd_ne (by decide) rfl)) (by omega)).run _ _ _ rfl fun t5 k5 => ⟨c4.on .toks, fun s5 g5 v5 c5 => ?_⟩)))
  have hv5 : Has (vw s5.heap [L]) (.ref D) (.list (ws.map .str)) := hv3.mono (v5 _)
  have hhead : ∃ x, ws.head? = some x ∧ ws[0]? = some x := by
    cases ws with
    | nil => simp at h2
    | cons x _ => exact ⟨x, rfl, rfl⟩
  obtain ⟨x, hx, hx'⟩ := hhead
  unfold emB
  rw [hx, Option.getD_some]
  have hxl : x.length ≤ 1000 := hwl x (List.mem_of_getElem? hx')
  refine wpAny_execs_cons (wpAny_Assign_Name (itemV (i := 0) (d := .str x) (.loc c5 (upd_ne (by decide) (upd_ne (by decide) upd_eq))) hv5 .const (by omega) (by omega) (by simp [hx']) rfl fun v k hvx => ?_))
  obtain ⟨tx, rfl⟩ := hvx.str_inv
  refine sL (c5.on .toks) fun st2 g6 v6 c6 => ?_
  have hv6 : Has (vw st2.heap [L]) (.ref D) (.list (ws.map .str)) := hv5.mono (v6 _)
  refine wpAny_execs_cons (wpAny_If (wpAny_isTrue_value (nL c6 upd_eq (P.truthy_str (by omega) ?_))))
  have c6' := c6.on (Chg.toks (t := st2.toks + 1 + 1))
  by_cases hz : x.length ≠ 0
  · rw [if_pos hz, show ((x.length : Int) != 0) = true by simpa using hz]
    refine wpAny_execs_cons (wpAny_If (wpAny_isTrue_value (MethodCall_ (nL c6' (upd_ne (by decide) (upd_ne (by decide) (upd_ne (by decide) (upd_ne (by decide) rfl)))) (GM.startswith (callWith_method1 (spliced_more (nL c6' upd_eq (spliced_none (SC.startswith (wpAny_truthy_bool ?_)))))))))))
    cases he : Txt.startswith got x with
    | false => refine wpAny_execs_cons (wpAny_Return_some (wpAny_Constant_bool ⟨c6'.chg, rfl⟩))
    | true =>
      refine wpAny_execs_cons (wpAny_Assign_Name ((IE.lenS (.bi (G.cx c6') rfl rfl (by decide)) (.loc c6' upd_eq) (by omega)).run _ _ _ rfl fun t4 k4 => sL (c6'.on .toks) fun st3 g7 v7 c7 => ?_))
      have hv7 : Has (vw st3.heap [L]) (.ref D) (.list (ws.map .str)) := hv6.mono (v7 _)
      refine wpAny_execs_cons (delV (i := 0) (k := 0) (.loc c7 (upd_ne (by decide) (upd_ne (by decide) (upd_ne (by decide) (upd_ne (by decide) upd_eq))))) hv7 (flat_strs _) .const (by decide) ?_ (by simp; exact Nat.le_trans hn (by decide)) fun st4 g8 hv8 => ?_)
      · have hpos : 0 < ws.length := by omega
        rw [List.length_map]; simp [seqIndex?, hpos]
      refine wpAny_execs_nil (wpAny_execs_nil ?_)
      rw [map_erase] at hv8
      have hDL : L ≠ D := fun q => by subst q; exact hv7.lst_notin.1 (.head _)
      refine em_tail G r'.hd (c7.go (X := [D]) g8.toChw (fun q => hDL (List.mem_singleton.mp q)) (fun b hb => by rw [List.mem_singleton.mp hb]; exact hDs)) hg (fun y hy => hwl y (List.mem_of_mem_eraseIdx hy)) ?_ ?_ hDs (upd_ne (by decide) (upd_ne (by decide) (upd_ne (by decide) (upd_ne (by decide) (upd_ne (by decide) rfl))))) (upd_ne (by decide) (upd_ne (by decide) (upd_ne (by decide) (upd_ne (by decide) upd_eq)))) upd_eq (upd_ne (by decide) (upd_ne (by decide) (upd_ne (by decide) upd_eq))) hv8
      · exact Nat.le_trans (List.length_eraseIdx_le ..) hn
      · rw [List.length_eraseIdx]; split <;> omega
  · rw [if_neg hz, show ((x.length : Int) != 0) = false by simpa using hz]
    refine wpAny_execs_nil ?_
    exact em_tail G r'.hd c6' hg hwl hn (by omega) hDs (upd_ne (by decide) (upd_ne (by decide) (upd_ne (by decide) (upd_ne (by decide) rfl)))) (upd_ne (by decide) (upd_ne (by decide) (upd_ne (by decide) upd_eq))) (upd_ne (by decide) upd_eq) (upd_ne (by decide) (upd_ne (by decide) upd_eq)) hv6
end Mine

end
section
-- B12
open PySem PySem.W PyProof.Rows PySem.Calls
namespace Mine
set_option maxRecDepth 100000
section
variable {prog : Program} {w : World} {A : Around} {s s₀ : Shared} {env : Env} {h : Heap} {X : List Addr} {m : Str → Option Value}

theorem HasAll.rep {V : Addr → Option Obj} {vs : List Value} {ds : List Dat} (hA : HasAll V vs ds) : ∀ k : Nat, HasAll V (List.replicate k vs).flatten (List.replicate k ds).flatten
  | 0 => .nil
  | k + 1 => by
    rw [List.replicate_succ, List.replicate_succ, List.flatten_cons, List.flatten_cons]
    exact hA.append (HasAll.rep hA k)

theorem addL {v1 v2 : Value} {d1 d2 : List Dat} {Q : Value → Shared → Prop} {E : Value → Shared → Prop} (hX : Dom X s.heap) (h1 : Has (vw s.heap X) v1 (.list d1)) (h2 : Has (vw s.heap X) v2 (.list d2)) (hsz : d1.length + d2.length ≤ sizeLine)
    (hQ : ∀ a s', Chg [] s s' → s.heap.get? a = none → Has (vw s'.heap X) (.ref a) (.list (d1 ++ d2)) → Q (.ref a) s') : wpAny (model prog w) A (binaryOp .Add v1 v2) Q E s := by
  obtain ⟨a, vs, n, rfl, hV, hA⟩ := h1.lst_inv
  obtain ⟨b, ws, k, rfl, hW, hB⟩ := h2.lst_inv
  obtain ⟨_, ha, _⟩ := vw_some.mp hV
  obtain ⟨_, hb, _⟩ := vw_some.mp hW
  have e : vs.toArray ++ ws.toArray = (vs ++ ws).toArray := by simp
  refine concat_meets ⟨_, ha, rfl⟩ ⟨_, hb, rfl⟩ noFill_list_add seq_list_add PySem.F.slot_list_add PySem.F.entry_list_add (PySem.F.args_list_add_2 _ _) (list_addW a b vs.toArray ws.toArray n k none none #[] #[] (by have := hA.length; have := hB.length; simp; omega)) ⟨ha, hb, ?_⟩
  rw [e]
  exact hQ _ _ (.push (t := s.toks)) (get_size_none _) (.lst (vw_some.mpr ⟨hX.fresh, Heap.get?_push_size _ rfl, rfl⟩) ((hA.append hB).mono (Chg.push (X := X) (t := s.toks)).vle))

theorem mulL {v : Value} {ds : List Dat} {k : Int} {u : Tok} {Q : Value → Shared → Prop} {E : Value → Shared → Prop} (hX : Dom X s.heap) (h1 : Has (vw s.heap X) v (.list ds)) (hlo : 0 ≤ k) (hhi : k < 2 ^ 20) (hsz : ds.length * k.toNat ≤ 2 ^ 24)
    (hQ : ∀ a s', Chg [] s s' → s.heap.get? a = none → Has (vw s'.heap X) (.ref a) (.list (List.replicate k.toNat ds).flatten) → Q (.ref a) s') : wpAny (model prog w) A (binaryOp .Mult v (.int k u)) Q E s := by
  obtain ⟨l, vs, n, rfl, hV, hA⟩ := h1.lst_inv
  obtain ⟨_, hl, _⟩ := vw_some.mp hV
  have hlen : vs.toArray.size = ds.length := by have := hA.length; simpa using this
  have hm : vs.toArray.size * k.toNat ≤ 2 ^ 24 := by rw [hlen]; exact hsz
  refine wpAny_binaryOp_repeat_ref (T := "list") (U := "int") (by decide) ⟨_, hl, rfl⟩ (fun s' => typeIs_int s' k u) noFill_list_mul F.fills_int_mul F.slot_int_rmul repeat_list F.slot_int_index.lookup
    (call_meets F.slot_int_rmul (typeIs_int s k u) F.entry_int_rmul (F.args_int_rmul_2 _ _) (int___rmul___int_list k u l vs.toArray n)
      ⟨hl, rfl, ⟨_, hl, rfl⟩, call_meets F.slot_list_mul ⟨_, hl, rfl⟩ F.entry_list_mul (F.args_list_mul_2 _ _)
        (AutoListH.list___mul___list_int_3 l vs.toArray n k u (by simp [Builtin.List.listFitsIndex]; omega) (by omega) (by simp only [Builtin.List.listTooLong, sizeLine]; simpa using hm))
        ⟨hl, ?_⟩⟩)
  rw [listMul_foldl_if]
  exact hQ _ _ (.push (t := s.toks)) (get_size_none _) (.lst (vw_some.mpr ⟨hX.fresh, Heap.get?_push_size _ rfl, rfl⟩) ((hA.rep _).mono (Chg.push (X := X) (t := s.toks)).vle))

/-- an item of a tuple that an expression makes -/
theorem itemD {value idx : Expr} {pos : Pos} {ds : List Dat} {i : Int} {d : Dat} {Q : Value → Shared → Prop} {E : Value → Shared → Prop}
    (hv : wpAny (model prog w) A (eval value env) (fun v s₁ => Has (vw s₁.heap X) v (.tuple ds) ∧ IE prog w A env s₁.heap idx i ∧ ∀ v' k, Has (vw s₁.heap X) v' d → Q v' { s₁ with toks := k }) E s)
    (h0 : 0 ≤ i) (hd : ds[i.toNat]? = some d) (hsz : ds.length ≤ 1000) (hs' : ∀ o i, subscripted idx false o i = operate [o, i] (getItem o i) := by intro _ _; rfl) : wpAny (model prog w) A (eval (.Subscript value idx pos) env) Q E s := by
  refine Subscript_ (wpAny_mono hv (fun v s₁ hq => ?_) fun _ _ x => x)
  obtain ⟨hh, hi, hQ⟩ := hq
  obtain ⟨a, o, vs, n, rfl, hV, hc, hdat, hA⟩ := hh.tup_inv
  obtain ⟨_, ha, _⟩ := vw_some.mp hV
  obtain ⟨x, hx, hxd⟩ := hA.at hd
  have hlen := hA.length
  have hlt : i.toNat < ds.length := (List.getElem?_eq_some_iff.mp hd).1
  have ht : IsTup s₁.heap a vs.toArray := ⟨o, ha, hc, n, hdat⟩
  refine hi.run s₁ _ _ rfl fun t k => subscriptTail_builtinR (x := x) (T := "tuple") ht.typeIs slot_tuple_getitem.lookup ?_ (hs' _ _)
  refine getItem_tuple (j := i.toNat) ht (by omega) (by omega) ?_ (by simpa using hx) ⟨rfl, hQ x k hxd⟩
  have h1 : ¬ i < 0 := by omega
  have h2 : i < (vs.toArray.size : Int) := by simp [hlen]; omega
  simp only [seqIndex?, h1, if_false]
  simp [h0, h2]
  simpa using h2

/-- x, y, z = e1, e2, e3: the stores in the other order -/
theorem swap3 {x y z : Str} {px py pz tpos vpos pos : Pos} {k k' : Nat} {e1 e2 e3 : Expr} {Q : Flow → Shared → Prop} {E : Value → Shared → Prop} (hh : A.handled = none)
    (h : wpAny (model prog w) A (eval e1 env) (fun v1 s1 => wpAny (model prog w) A (eval e2 env) (fun v2 s2 => wpAny (model prog w) A (eval e3 env) (fun v3 s3 => Cx s₀ env.locals m s3 ∧
      ∀ s', Chg [env.locals] s3 s' → (∀ X, VLe (vw s3.heap X) (vw s'.heap X)) → Cx s₀ env.locals (upd (upd (upd m z v3) y v2) x v1) s' → Q .next s') E s2) E s1) E s)
    (hs : swapsWithSole [.Tuple [.Name x px, .Name y py, .Name z pz] k tpos] (.Tuple [e1, e2, e3] k' vpos) pos.line env = pure false := by rfl)
    (hw : swappedStores [.Tuple [.Name x px, .Name y py, .Name z pz] k tpos] (.Tuple [e1, e2, e3] k' vpos) env = pure (some [x, y, z]) := by rfl)
    (hst : starEach [e1, e2, e3] env = (false, eval e1 env) :: starEach [e2, e3] env := by rfl) (hst2 : starEach [e2, e3] env = (false, eval e2 env) :: starEach [e3] env := by rfl) (hst3 : starEach [e3] env = (false, eval e3 env) :: starEach [] env := by rfl)
    (hk : env.scope.kind = .function := by rfl) (hl : env.kindOf x = some .local := by rfl) (hl2 : env.kindOf y = some .local := by rfl) (hl3 : env.kindOf z = some .local := by rfl) :
    wpAny (model prog w) A (exec (.Assign [.Tuple [.Name x px, .Name y py, .Name z pz] k tpos] (.Tuple [e1, e2, e3] k' vpos) pos) env) Q E s := by
  refine Assign_Tuple_swapped (Tuple_ (spliced_more (wpAny_mono h (fun v1 s1 h1 => spliced_more (wpAny_mono h1 (fun v2 s2 h2 => spliced_more (wpAny_mono h2 (fun v3 s3 h3 => spliced_none ?_) fun _ _ x => x) hst3) fun _ _ x => x) hst2) fun _ _ x => x) hst)) hs hw
  obtain ⟨c, hq⟩ := h3
  refine wpAny_newTuple ?_ (by show 3 ≤ sizeLine; decide)
  refine unpackV hh (Heap.get?_push_size _ rfl) rfl rfl rfl fun s' ch => ?_
  have ch' : Chg [] s3 s' := (Chg.push (t := s3.toks)).trans ch
  refine assignInOrder_cons (wpAny_bindName (sL (c.on ch') (fun s4 g4 v4 c4 => assignInOrder_cons (wpAny_bindName (sL c4 (fun s5 g5 v5 c5 => assignInOrder_cons (wpAny_bindName (sL c5 (fun s6 g6 v6 c6 => assignInOrder_nil ?_) hk hl))) hk hl2))) hk hl3))
  exact hq s6 (ch'.nil.trans (g4.trans (g5.trans g6))) (fun X => ch'.nil.vle.trans ((v4 X).trans ((v5 X).trans (v6 X)))) c6
end
end Mine

end
section
-- C4
open PySem PySem.W PyProof.Rows PySem.Calls
namespace Mine
set_option maxRecDepth 100000
set_option maxHeartbeats 4000000

noncomputable def fd49 : FuncData := ({ val := _, property := fun _ => rfl } : { fd // ∀ P, fdOf (HX.hd.heap_39 P) 49 = fd }).val

noncomputable def pairL (kind : Nat) : List Str := match kind with
  | 0 => [Str.ofString "abba", Str.ofString "baab"]
  | 1 => [Str.ofString "abab", Str.ofString "baba"]
  | _ => [Str.ofString "aabb", Str.ofString "bbaa"]
noncomputable def stockL (kind : Nat) (few : Bool) : List Str := if few then pairL kind else pairL kind ++ [Str.ofString "aaaa"]

theorem two_strs {prog : Program} {w : World} {A : Around} {s : Shared} {env : Env} {X : List Addr} {x y : Str} {k k' : Nat} {p p' pos : Pos} {Q : Value → Shared → Prop} (hX : Dom X s.heap)
    (h : ∀ v s', Chg [] s s' → Has (vw s'.heap X) v (.list [.str x, .str y]) → Q v s') : wpAny (model prog w) A (eval (.List [.Constant (.str x) k p, .Constant (.str y) k' p'] pos) env) Q No s :=
  List_ (spliced_more (wpAny_Constant_str (spliced_more (wpAny_Constant_str (spliced_none (listN (s := { s with toks := s.toks + 1 + 1 }) hX (.cons (.str _ _) (.cons (.str _ _) .nil)) (by simp) fun a s' c _ hv => h _ s' (Chg.toks.trans c) hv)))))) 

theorem stock_spec {prog : Program} {w : World} {A : Around} {s : Shared} {X : List Addr} {kind : Nat} {few : Bool} {t : Tok} (G : Glb (HK w) s.heap) (r : Rm A 1) (hk : kind < 3) (hX : Dom X s.heap) :
    wpAny (model prog w) A (call (.ref 49) [.int kind t, .bool few]) (fun r s' => Chg [] s s' ∧ Has (vw s'.heap X) r (.list ((stockL kind few).map .str))) No s := by
  refine enter fd49 [(Str.ofString "kind", .int kind t), (Str.ofString "few", .bool few)] G ⟨_, _, _, rfl⟩ rfl (by rfl) r rfl rfl (by rfl) (by rfl) ?_
  intro L s₁ A' hL r' c ce
  have hX1 : Dom X s₁.heap := hX.chg c.chg
  refine wpAny_execs_cons ?_
  refine wpAny_Assign_Name ?_
  refine itemD (X := X) (i := kind) (ds := [.list [.str (Str.ofString "abba"), .str (Str.ofString "baab")], .list [.str (Str.ofString "abab"), .str (Str.ofString "baba")], .list [.str (Str.ofString "aabb"), .str (Str.ofString "bbaa")]]) (d := .list ((pairL kind).map .str)) ?_ (by omega) ?_ (by simp)
  · refine Tuple_ ?_
    refine spliced_more (he := by kernel_rfl) ?_
    refine two_strs hX1 fun v1 s1 c1 h1 => ?_
    refine spliced_more (he := by kernel_rfl) ?_
    refine two_strs (hX1.chg c1) fun v2 s2 c2 h2 => ?_
    refine spliced_more (he := by kernel_rfl) ?_
    refine two_strs ((hX1.chg c1).chg c2) fun v3 s3 c3 h3 => spliced_none ?_
    refine tupN (((hX1.chg c1).chg c2).chg c3) (.cons ((h1.mono c2.nil.vle).mono c3.nil.vle) (.cons (h2.mono c3.nil.vle) (.cons h3 .nil))) (by simp) fun r s4 c4 hr => ⟨hr, ?_, fun v k hv => ?_⟩
    · exact .name (.loc (c.on (c1.trans (c2.trans (c3.trans c4)))) rfl)
    · have ca := c.on ((c1.trans (c2.trans (c3.trans c4))).trans (Chg.toks (t := k)))
      refine sL ca fun s5 g5 v5 c5 => ?_
      have hv5 : Has (vw s5.heap X) v (.list ((pairL kind).map .str)) := hv.mono (v5 X)
      have hX5 : Dom X s5.heap := hX.chg c5.chg
      refine wpAny_execs_cons ?_
      refine wpAny_Return_some ?_
      refine wpAny_IfExp (wpAny_isTrue_value (nL c5 (upd_ne (by decide) rfl) (wpAny_truthy_bool ?_)))
      cases few with
      | true => exact nL c5 upd_eq ⟨c5.chg, hv5⟩
      | false =>
        refine wpAny_BinOp ?_
        refine nL c5 upd_eq ?_
        refine List_ ?_
        refine spliced_more (he := by kernel_rfl) (wpAny_Constant_str (spliced_none ?_))
        refine listN (s := { s5 with toks := s5.toks + 1 }) hX5 (.cons (.str _ _) .nil) (by simp) fun a s6 c6 _ ha => ?_
        refine addL (hX5.chg (Chg.toks.trans c6)) (hv5.mono (Chg.toks.trans c6).nil.vle) ha ?_ fun b s7 c7 _ hb => ⟨c5.chg.trans ((Chg.toks.trans c6).trans c7), ?_⟩
        · have : (pairL kind).length = 2 := by unfold pairL; split <;> rfl
          simp [this]; decide
        · rw [show stockL kind false = pairL kind ++ [Str.ofString "aaaa"] from rfl, List.map_append]
          exact hb
  · have : kind = 0 ∨ kind = 1 ∨ kind = 2 := by omega
    rcases this with rfl | rfl | rfl <;> rfl
end Mine

end
section
-- B13
open PySem PySem.W PyProof.Rows PySem.Calls
namespace Mine
set_option maxRecDepth 100000

inductive IEs (prog : Program) (w : World) (A : Around) (env : Env) (h : Heap) : List Expr → List Int → Prop where
  | nil : IEs prog w A env h [] []
  | cons {e es n ns} (x : IE prog w A env h e n) (r : IEs prog w A env h es ns) : IEs prog w A env h (e :: es) (n :: ns)
theorem IEs.run {prog : Program} {w : World} {A : Around} {env : Env} {h : Heap} {pos : Pos} {es : List Expr} {ns : List Int} (x : IEs prog w A env h es ns) : ∀ (s : Shared) (Q : List Value → Shared → Prop) (E : Value → Shared → Prop), s.heap = h →
    (∀ vs k, (∀ V, HasAll V vs (ns.map .int)) → Q vs { s with toks := k }) → wpAny (model prog w) A (spliced (backTo pos (es.map fun e => (false, eval e env)))) Q E s := by
  induction x with
  | nil => intro s Q E hs hQ; exact Calls.spliced_nil (hQ [] s.toks fun _ => .nil)
  | cons x _ ih =>
    intro s Q E hs hQ
    exact Calls.spliced_cons (x.run s _ _ hs fun t k => ih _ _ _ hs fun vs k' hv => hQ _ k' fun V => .cons (.int _ _) (hv V))
section
variable {prog : Program} {w : World} {A : Around} {s : Shared} {env : Env} {X : List Addr}
/-- a display of ints -/
theorem listIE {es : List Expr} {ns : List Int} {pos : Pos} {Q : Value → Shared → Prop} {E : Value → Shared → Prop} (hX : Dom X s.heap) (x : IEs prog w A env s.heap es ns) (hsz : ns.length ≤ 1000) (hst : starEach es env = es.map fun e => (false, eval e env))
    (h : ∀ a s', Chg [] s s' → s.heap.get? a = none → Has (vw s'.heap X) (.ref a) (.list (ns.map .int)) → Q (.ref a) s') : wpAny (model prog w) A (eval (.List es pos) env) Q E s := by
  refine List_ ?_
  rw [hst]
  refine x.run s _ _ rfl fun vs k hv => ?_
  have hl : vs.length = ns.length := by have := (hv fun _ => none).length; simpa using this
  exact listN (s := { s with toks := k }) hX (hv _) (by omega) fun a s' c e ha => h a s' (Chg.toks.trans c) e ha

variable {h : Heap} {e : Expr}
theorem IE.cast {a b : Int} (x : IE prog w A env h e a) (q : a = b) : IE prog w A env h e b := q ▸ x
theorem fmod_nat (a b : Nat) : (a : Int).fmod b = (a % b : Nat) := by rw [Int.fmod_eq_emod_of_nonneg _ (Int.natCast_nonneg b)]; rfl
theorem fdiv_nat (a b : Nat) : (a : Int).fdiv b = (a / b : Nat) := by rw [Int.fdiv_eq_ediv_of_nonneg _ (Int.natCast_nonneg b)]; rfl
theorem IE.nmod {n k kk : Nat} {p pos : Pos} (x : IE prog w A env h e n) (hk : k ≠ 0) : IE prog w A env h (.BinOp e .Mod (.Constant (.int (k : Int)) kk p) pos) ((n % k : Nat) : Int) :=
  (IE.mod x .const (by omega)).cast (fmod_nat n k)
theorem IE.ndiv {n k kk : Nat} {p pos : Pos} (x : IE prog w A env h e n) (hk : k ≠ 0) (hk2 : k < 1073741824) : IE prog w A env h (.BinOp e .FloorDiv (.Constant (.int (k : Int)) kk p) pos) ((n / k : Nat) : Int) :=
  (IE.fdiv x .const (by omega) (PyProof.noPylong_small (by omega))).cast (fdiv_nat n k)
theorem IE.nth {x : Str} {pos pos' cp : Pos} {ck : Nat} {v : Value} {ds : List Dat} {i : Nat} {n : Int} (r : Rd prog w A env h x v) (hv : Has (vw h X) v (.list ds)) (hi : i < 2 ^ 60) (hd : ds[i]? = some (.int n)) : IE prog w A env h (.Subscript (.Name x pos') (.Constant (.int (i : Int)) ck cp) pos) n :=
  .item r hv .const (by omega) (by omega) (by simpa using hd) (fun _ _ => rfl)
end
end Mine

end
section
-- G1
open PySem PySem.W PyProof.Rows PySem.Calls
namespace Mine
set_option maxRecDepth 100000
section
variable {prog : Program} {w : World} {A : Around} {R : GenEnd} {Y : Protocol} {n : Nat} {s₀ : Shared} {c : Code} {fs : List Frame} {s : Shared} {env : Env}
  {K : Flow → Sem Fin} {H : Value → Sem Fin} {gd : Bool → Bool} {lv : List Value → List Value}

/-- what a for loop's end goes back to -/
noncomputable def backOf (env : Env) (K : Flow → Sem Fin) (H : Value → Sem Fin) (gd : Bool → Bool) (lv : List Value → List Value) : Result → Sem Fin := fun r =>
  ((match r with | .ok f => (.pure f : Sem Flow) | .error e => .raise e).onRaise fun (x : Value) => do
    if (← field x 1) == Value.none then unsupported "frame.own-activation:exception-without-traceback"
    setFlight x env.frame).wrap K H gd lv
theorem seg_For {target iter : Expr} {body orelse : List Stmt} {pos : Pos}
    (h : wpAny (model prog w) (A.over c fs) (eval iter env) (fun x s1 => wpAny (model prog w) (A.over c fs) (pyIter x) (fun it s2 => ∀ p,
      Seg (model prog w) A R Y n s₀ (.forLoop target it body orelse env) ((model prog w).den (.forLoop target it body orelse env)) (.ret (backOf env K H gd lv) none (gd false) (lv []) c p [] :: fs) s2) No s1) No s)
    (hs : ∀ x, foldedSetIterable iter env x = pure x := by intro _; rfl) :
    Seg (model prog w) A R Y n s₀ c ((exec (.For target iter body orelse pos) env).wrap K H gd lv) fs s := by
  rw [exec_For]
  show Seg _ A R Y n s₀ c (.at pos fun _ => (eval iter env >>= fun x => (foldedSetIterable iter env x >>= fun x => (standAt iter.pos >>= fun _ => (holding [x] (pyIter x) >>= fun it => runOwn (.forLoop target it body orelse env) env)))).wrap K H gd lv) fs s
  refine seg_at ?_
  rw [Sem.bind_eq_wrap', Sem.wrap_wrap]
  refine seg_wrap (wpAny_mono h (fun x s1 h1 => ?_) fun _ _ q => q.elim)
  rw [hs x, pure_bind]
  show Seg _ A R Y n s₀ c (.at iter.pos fun _ => (holding [x] (pyIter x) >>= fun it => runOwn (.forLoop target it body orelse env) env).wrap K H gd lv) fs s1
  refine seg_at ?_
  rw [Sem.bind_eq_wrap', Sem.wrap_wrap]
  refine seg_wrap (wpAny_holding (wpAny_mono h1 (fun it s2 h2 => ?_) fun _ _ q => q.elim))
  exact seg_call h2

theorem seg_forLoop {target : Expr} {it : Value} {body orelse : List Stmt}
    (h : wpAny (model prog w) (A.over (.forLoop target it body orelse env) fs) (pyNext it) (fun r s1 => match r with
      | none => Seg (model prog w) A R Y n s₀ (.forLoop target it body orelse env) (.pure (.again (.block orelse env))) fs s1
      | some v => wpAny (model prog w) (A.over (.forLoop target it body orelse env) fs) (letOwnedTupleGo target it v) (fun _ s2 => wpAny (model prog w) (A.over (.forLoop target it body orelse env) fs) (assign target env v) (fun _ s3 =>
          Seg (model prog w) A R Y n s₀ (.forLoop target it body orelse env) ((execs body env).wrap (fun f => match f with
            | .next | .cont => .pure (.again (.forLoop target it body orelse env))
            | .brk => .pure (.done .next)
            | .ret v => .pure (.done (.ret v))) (fun e => (do noteFrame e env; theTreesLotGoes e : Sem Unit).wrap (fun _ => .raise e) .raise id id) id id) fs s3) No s2) No s1) No s) :
    Seg (model prog w) A R Y n s₀ (.forLoop target it body orelse env) ((model prog w).den (.forLoop target it body orelse env)) fs s := by
  show Seg _ A R Y n s₀ _ ((forTurn target it body orelse env).onRaise (fun x => do noteFrame x env; theTreesLotGoes x)) fs s
  unfold forTurn
  rw [Sem.onRaise_eq_wrap]
  rw [Sem.bind_eq_wrap' (standAt target.pos), Sem.wrap_wrap]
  refine seg_wrap (wpAny_standAt ?_)
  rw [Sem.bind_eq_wrap' ((pyNext it).onRaise _), Sem.wrap_wrap]
  refine seg_wrap (wpAny_onRaise (wpAny_mono h (fun r s1 h1 => ?_) fun _ _ q => q.elim))
  cases r with
  | none => exact h1
  | some v =>
    show Seg _ A R Y n s₀ _ ((letOwnedTupleGo target it v >>= fun _ => (assign target env v >>= fun _ => (execs body env >>= fun f => (match f with
      | .next => again (.forLoop target it body orelse env)
      | .cont => again (.forLoop target it body orelse env)
      | .brk => pure (.done .next)
      | .ret v => pure (.done (.ret v)) : Sem Fin)))).wrap _ _ _ _) fs s1
    rw [Sem.bind_eq_wrap' (letOwnedTupleGo target it v), Sem.wrap_wrap]
    refine seg_wrap (wpAny_mono h1 (fun _ s2 h2 => ?_) fun _ _ q => q.elim)
    rw [Sem.bind_eq_wrap' (assign target env v), Sem.wrap_wrap]
    refine seg_wrap (wpAny_mono h2 (fun _ s3 h3 => ?_) fun _ _ q => q.elim)
    rw [Sem.bind_eq_wrap' (execs body env), Sem.wrap_wrap]
    rw [Sem.wrap_congr (execs body env) _ _ (K' := fun f => match f with
            | .next | .cont => .pure (.again (.forLoop target it body orelse env))
            | .brk => .pure (.done .next)
            | .ret v => .pure (.done (.ret v))) (H' := (fun e => (do noteFrame e env; theTreesLotGoes e : Sem Unit).wrap (fun _ => .raise e) .raise id id))
        (fun f => by cases f <;> rfl)
        (fun e => by first | exact Sem.bind_eq_wrap _ _ | (show (do noteFrame e env; theTreesLotGoes e : Sem Unit).bind (fun _ => .raise e) = _; rw [Sem.bind_eq_wrap]))]
    exact h3
/-- an If in a generator -/
theorem seg_If {test : Expr} {body orelse : List Stmt} {pos : Pos}
    (h : wpAny (model prog w) (A.over c fs) (isTrue test env (eval test env)) (fun b s' => if b = true then Seg (model prog w) A R Y n s₀ c ((execs body env).wrap K H gd lv) fs s' else Seg (model prog w) A R Y n s₀ c ((execs orelse env).wrap K H gd lv) fs s') No s) :
    Seg (model prog w) A R Y n s₀ c ((exec (.If test body orelse pos) env).wrap K H gd lv) fs s := by
  rw [exec_If]
  rw [Sem.bind_eq_wrap' (standAt pos), Sem.wrap_wrap]
  refine seg_wrap (wpAny_standAt ?_)
  rw [Sem.bind_eq_wrap', Sem.wrap_wrap]
  refine seg_wrap (wpAny_mono h (fun b s1 h1 => ?_) fun _ _ q => q.elim)
  cases b <;> exact h1
/-- a statement that yields nothing -/
theorem seg_stmt {st : Stmt}
    (h : wpAny (model prog w) (A.over c fs) (exec st env) (fun f s' => Seg (model prog w) A R Y n s₀ c (K f) fs s') No s) :
    Seg (model prog w) A R Y n s₀ c ((exec st env).wrap K H gd lv) fs s := seg_wrap (wpAny_mono h (fun _ _ q => q) fun _ _ q => q.elim)
theorem seg_block_nil (h : ∀ f, f = Flow.next → Seg (model prog w) A R Y n s₀ (.block [] env) (leafOf (.ok f)) fs s) : Seg (model prog w) A R Y n s₀ c (.pure (.again (.block [] env))) fs s :=
  seg_again rfl (h _ rfl)
end
end Mine

end
section
-- G2
open PySem PySem.W PyProof.Rows PySem.Calls
namespace Mine
set_option maxRecDepth 100000
set_option maxHeartbeats 4000000
noncomputable def fd21 : FuncData := ({ val := _, property := fun _ => rfl } : { fd // ∀ P, fdOf (HX.hd.heap_39 P) 21 = fd }).val
noncomputable def body21 : List Stmt := match fd21.body with | .stmts b => b | _ => []
noncomputable abbrev genv (C : Addr) : Env := callEnvC fd21 C 21

/-- only the generator's frame and its iterator turn -/
noncomputable def Since (C I : Addr) (s₀ s : Shared) : Prop := ∃ h tk, s = { s₀ with heap := h, toks := tk } ∧ ∀ b o, b ≠ C → b ≠ I → s₀.heap.get? b = some o → h.get? b = some o
theorem Since.refl (C I : Addr) (s : Shared) : Since C I s s := ⟨s.heap, s.toks, rfl, fun _ _ _ _ e => e⟩
theorem Since.trans {C I : Addr} {s s' s'' : Shared} (a : Since C I s s') (b : Since C I s' s'') : Since C I s s'' := by
  obtain ⟨h, tk, rfl, k⟩ := a
  obtain ⟨h', tk', rfl, k'⟩ := b
  exact ⟨h', tk', rfl, fun b o h1 h2 e => k' b o h1 h2 (k b o h1 h2 e)⟩
theorem Since.step {C I : Addr} {s s' : Shared} {h : Heap} {tk : Nat} (a : Since C I s s') (k : ∀ b o, b ≠ C → b ≠ I → s'.heap.get? b = some o → h.get? b = some o) : Since C I s { s' with heap := h, toks := tk } :=
  a.trans ⟨h, tk, rfl, k⟩

section
variable {prog : Program} {w : World} {h0 : Heap} {B : Around} {C I l : Addr} {pre : List Int} {tail : List Int} {N : Nat} {inf : Bool}

/-- what the generator hands out -/
noncomputable def gval (pre : List Int) (i : Nat) : Int := (pre[i]?).getD (pre.getLast?.getD 0)
/-- the generator's yields: m more may come -/
noncomputable def YY (h0 : Heap) (C I l : Addr) (pre : List Int) (N : Nat) (inf : Bool) : Protocol := fun m s₀ v s kap =>
  (∃ t, v = .int (gval pre (N - 1 - m)) t) ∧ Since C I s₀ s ∧ ((inf = true ∧ m = 0) ∨ ∀ s'', (∀ b, b = C ∨ b = I ∨ b = l → ∀ o, s.heap.get? b = some o → s''.heap.get? b = some o) → HLe h0 s''.heap → kap (.send .none) s'')
noncomputable def RR (C I : Addr) : GenEnd := fun n s₀ r s₁ => r = .ok (.ret .none) ∧ (n = 0 ∧ Since C I s₀ s₁)

/-- the generator's frame at the list's place i -/
structure Fr21 (C I l : Addr) (vs : List Value) (i : Nat) (last : Value) (s : Shared) : Prop where
  ns : ∃ m, s.heap.Ns C m ∧ m (Str.ofString "last_interval") = some last
  it : s.heap.IsListIter I l i
  ls : s.heap.IsList l vs.toArray
theorem Fr21.on {vs : List Value} {i : Nat} {last : Value} {s s' : Shared} (x : Fr21 C I l vs i last s) (k : ∀ b, b = C ∨ b = I ∨ b = l → ∀ o, s.heap.get? b = some o → s'.heap.get? b = some o) : Fr21 C I l vs i last s' :=
  ⟨let ⟨m, n, e⟩ := x.ns; ⟨m, n.at' fun o q => k C (.inl rfl) o q, e⟩, x.it.at fun o e => k I (.inr (.inl rfl)) o e, x.ls.at fun o e => k l (.inr (.inr rfl)) o e⟩

noncomputable def tgt21 : Expr := match body21 with | [_, .For t _ _ _ _] => t | _ => .Name ⟨#[]⟩ default
noncomputable def bf21 : List Stmt := match body21 with | [_, .For _ _ b _ _] => b | _ => []

theorem gval_lt {i : Nat} {x : Int} (h : pre[i]? = some x) : gval pre i = x := by unfold gval; rw [h]; rfl
theorem gval_ge {i : Nat} (h : pre.length ≤ i) : gval pre i = pre.getLast?.getD 0 := by unfold gval; rw [List.getElem?_eq_none h]; rfl

/-- the loop's own turn and return -/
noncomputable abbrev Kb (C I : Addr) : Flow → Sem Fin := fun f => match f with
  | .next | .cont => .pure (.again (.forLoop tgt21 (.ref I) bf21 [] (genv C)))
  | .brk => .pure (.done .next)
  | .ret v => .pure (.done (.ret v))
noncomputable abbrev Hb (C : Addr) : Value → Sem Fin := fun e => (do noteFrame e (genv C); theTreesLotGoes e : Sem Unit).wrap (fun _ => .raise e) .raise id id
/-- after an item is bound -/
structure Fr22 (h0 : Heap) (C I l : Addr) (vs : List Value) (i : Nat) (last x : Value) (s : Shared) : Prop where
  ns : ∃ m, s.heap.Ns C m ∧ m (Str.ofString "last_interval") = some last ∧ m (Str.ofString "interval") = some x
  it : s.heap.IsListIter I l i
  ls : s.heap.IsList l vs.toArray
  le : HLe h0 s.heap
theorem Fr22.on {vs : List Value} {i : Nat} {last x : Value} {s s' : Shared} (y : Fr22 h0 C I l vs i last x s) (k : ∀ b, b = C ∨ b = I ∨ b = l → ∀ o, s.heap.get? b = some o → s'.heap.get? b = some o) (g : HLe h0 s'.heap) : Fr22 h0 C I l vs i last x s' :=
  ⟨let ⟨m, n, e⟩ := y.ns; ⟨m, n.at' fun o q => k C (.inl rfl) o q, e⟩, y.it.at fun o e => k I (.inr (.inl rfl)) o e, y.ls.at fun o e => k l (.inr (.inr rfl)) o e, g⟩
theorem Fr22.toks {vs : List Value} {i tk : Nat} {last x : Value} {s : Shared} (y : Fr22 h0 C I l vs i last x s) : Fr22 h0 C I l vs i last x { s with toks := tk } := ⟨y.ns, y.it, y.ls, y.le⟩
theorem Since.toks {C I : Addr} {s s' : Shared} {tk : Nat} (a : Since C I s s') : Since C I s { s' with toks := tk } := a.step (h := s'.heap) fun _ _ _ _ e => e
theorem gen_turn {fs : List Frame} {vs : List Value} {i n : Nat} {s₀ s : Shared} {last x : Value} {R : GenEnd} {Y : Protocol} (hC0 : h0.get? C = none) (hI0 : h0.get? I = none) (hne : l ≠ I) (hCI : C ≠ I) (hlC : l ≠ C)
    (hS : Since C I s₀ s) (G : HLe h0 s.heap) (F : Fr21 C I l vs i last s) (hv : vs[i]? = some x)
    (h : ∀ s2, Fr22 h0 C I l vs (i + 1) last x s2 → Since C I s₀ s2 → Seg (model prog w) B R Y n s₀ (.forLoop tgt21 (.ref I) bf21 [] (genv C)) ((execs bf21 (genv C)).wrap (Kb C I) (Hb C) id id) fs s2) :
    Seg (model prog w) B R Y n s₀ (.forLoop tgt21 (.ref I) bf21 [] (genv C)) ((model prog w).den (.forLoop tgt21 (.ref I) bf21 [] (genv C))) fs s := by
  have hk1 : ∀ {h h' : Heap} {b : Addr}, (b = C ∨ b = I) → HLe h0 h → Heap.SameBut b h h' → HLe h0 h' := fun {h h' b} hb g hs b' o e => hs.extBut b' o (fun q => by
    subst q; rcases hb with rfl | rfl
    · rw [hC0] at e; cases e
    · rw [hI0] at e; cases e) (g b' o e)
  refine seg_forLoop (wpAny_pyNext_list_item F.it F.ls (x := x) (by simpa using hv) fun h1 hit1 hs1 => ?_)
  obtain ⟨m, hm, hlm⟩ := F.ns
  have hm1 : h1.Ns C m := hm.sameBut hs1 hCI
  have hl1 : h1.IsList l vs.toArray := F.ls.extBut hs1.extBut hne
  have G1 : HLe h0 h1 := hk1 (.inr rfl) G hs1
  refine go_name (assign_Name (wpAny_storeName_local (m := m) rfl hm1 (fun h2 hm2 hs2 => ?_) rfl))
  refine h _ ⟨⟨_, hm2, ?_, if_pos rfl⟩, hit1.extBut hs2.extBut hCI.symm, hl1.extBut hs2.extBut hlC, hk1 (.inl rfl) G1 hs2⟩ (hS.step fun b o h1' h2' e => hs2.extBut b o h1' (hs1.extBut b o h2' e))
  rw [if_neg (by decide)]; exact hlm
/-- the tests for 127 and for 0 -/
theorem gen_tests {fs : List Frame} {vs : List Value} {i n : Nat} {s₀ s : Shared} {last : Value} {x : Int} {t : Tok} {R : GenEnd} {Y : Protocol} (G0 : Glb (HK w) h0) (F : Fr22 h0 C I l vs i last (.int x t) s) (hS : Since C I s₀ s) (h1 : x ≠ 127) (h2 : x ≠ 0)
    (h : ∀ s2, Fr22 h0 C I l vs i last (.int x t) s2 → Since C I s₀ s2 → Seg (model prog w) B R Y n s₀ (.forLoop tgt21 (.ref I) bf21 [] (genv C)) ((execs (bf21.drop 2) (genv C)).wrap (Kb C I) (Hb C) id id) fs s2) :
    Seg (model prog w) B R Y n s₀ (.forLoop tgt21 (.ref I) bf21 [] (genv C)) ((execs bf21 (genv C)).wrap (Kb C I) (Hb C) id id) fs s := by
  obtain ⟨m, hm, hlm, him⟩ := F.ns
  refine seg_execs_cons (seg_If (wpAny_isTrue_Compare1 (nN (env := genv C) hm him (rd (.glob (v := .int 127 189) (G0.keeps F.le) rfl) rfl (P.eq_int (wpAny_truthy_bool ?_))))))
  rw [show (x == 127) = false by simpa using h1]
  refine seg_execs_nil (seg_execs_cons (seg_If (wpAny_isTrue_Compare1 (nN (env := genv C) hm him (wpAny_Constant_int (P.eq_int (wpAny_truthy_bool ?_)))))))
  rw [show (x == 0) = false by simpa using h2]
  exact seg_execs_nil (h _ F.toks hS.toks)
noncomputable def wh21 : Stmt := match bf21 with | [_, .If _ [_, x] _ _, _, _] => x | _ => .Pass default
noncomputable def wt21 : Expr := match wh21 with | .While t _ _ _ => t | _ => .Name ⟨#[]⟩ default
noncomputable def wb21 : List Stmt := match wh21 with | .While _ b _ _ => b | _ => []
theorem gen_forever {fs : List Frame} {vs : List Value} {i : Nat} {last : Int} {t : Tok} {x : Value} (hfs : splitAtGen fs = none) (hfg : fs.any Frame.guarded = false) (hv : ∀ m, pre.length ≤ m → gval pre m = last) :
    ∀ n s₀ s, inf = true → n + 1 ≤ N → pre.length ≤ N - (n + 1) → Since C I s₀ s → Fr22 h0 C I l vs i (.int last t) x s →
      Seg (model prog w) B (RR C I) (YY h0 C I l pre N inf) (n + 1) s₀ (.whileLoop wt21 wb21 [] (genv C)) ((model prog w).den (.whileLoop wt21 wb21 [] (genv C))) fs s := by
  intro n
  induction n with
  | zero =>
    intro s₀ s hinf hn hp hS F
    obtain ⟨m, hm, hlm, him⟩ := F.ns
    refine seg_whileLoop (wpAny_isTrue_value (wpAny_Constant_bool (wpAny_truthy_bool ?_)))
    refine seg_execs_cons (seg_Expr_Yield hfs rfl hfg (nN (env := genv C) hm hlm fun kap hkap => ⟨⟨t, ?_⟩, hS, .inl ⟨hinf, rfl⟩⟩))
    rw [hv _ (by omega)]
  | succ n ih =>
    intro s₀ s hinf hn hp hS F
    obtain ⟨m, hm, hlm, him⟩ := F.ns
    refine seg_whileLoop (wpAny_isTrue_value (wpAny_Constant_bool (wpAny_truthy_bool ?_)))
    refine seg_execs_cons (seg_Expr_Yield hfs rfl hfg (nN (env := genv C) hm hlm fun kap hkap => ⟨⟨t, ?_⟩, hS, .inr fun s4 hk4 hle4 => hkap .none s4 ?_⟩))
    · rw [hv _ (by omega)]
    · exact seg_execs_nil (seg_again rfl (ih s4 s4 hinf (by omega) (by omega) (.refl _ _ _) (F.on hk4 hle4)))
theorem gen_loop (G0 : Glb (HK w) h0) (hC0 : h0.get? C = none) (hI0 : h0.get? I = none) {K : Result → Sem Fin} {l0 : List Value} {c : Code} {p : Pos} {vs : List Value} (hh : B.handled = none) (hne : l ≠ I) (hCI : C ≠ I) (hlC : l ≠ C)
    (hpre : ∀ x ∈ pre, x ≠ 0 ∧ x ≠ 127) (hvs : ∀ (i : Nat) (x : Int), (pre ++ tail)[i]? = some x → ∃ t, vs[i]? = some (Value.int x t)) (hlen : vs.length = (pre ++ tail).length)
    (hfin : inf = false → N = pre.length ∧ (tail = [] ∨ ∃ r, tail = 127 :: r)) (hinf : inf = true → pre ≠ [] ∧ ∃ r, tail = 0 :: r)
    (hK : ∀ f s s₀, (f = .next ∨ f = .ret .none) → Since C I s₀ s → Seg (model prog w) B (RR C I) (YY h0 C I l pre N inf) 0 s₀ c (K (.ok f)) [] s) :
    ∀ k i, pre.length - i = k → i ≤ pre.length → ∀ n s₀ s last, n = N - i → (inf = true → i < N) → Since C I s₀ s → HLe h0 s.heap → Fr21 C I l vs i last s → (0 < i → ∃ t, last = .int ((pre[i - 1]?).getD 0) t) →
      Seg (model prog w) B (RR C I) (YY h0 C I l pre N inf) n s₀ (.forLoop tgt21 (.ref I) bf21 [] (genv C)) ((model prog w).den (.forLoop tgt21 (.ref I) bf21 [] (genv C))) [.ret K none false l0 c p []] s := by
  intro k
  induction k with
  | zero =>
    intro i hk hi n s₀ s last hn hiN hS G F hlast
    have hi' : i = pre.length := by omega
    subst hi'
    cases inf with
    | false =>
      obtain ⟨hN, ht⟩ := hfin rfl
      obtain rfl : n = 0 := by omega
      rcases ht with rfl | ⟨r, rfl⟩
      · refine seg_forLoop (wpAny_pyNext_list_end hh F.it F.ls (by simp [hlen]) fun h' he => ?_)
        refine seg_block_nil fun f hf => seg_leaf (.ok f) ?_
        exact hK f _ s₀ (.inl hf) (hS.step (h := h') (tk := s.toks) fun b o _ h2 e => he b o h2 e)
      · obtain ⟨t, hv⟩ := hvs pre.length 127 (by simp)
        refine gen_turn hC0 hI0 hne hCI hlC hS G F hv fun s2 F2 S2 => ?_
        obtain ⟨m, hm, hlm, him⟩ := F2.ns
        refine seg_execs_cons (seg_If (wpAny_isTrue_Compare1 (nN (env := genv C) hm him (rd (.glob (v := .int 127 189) (G0.keeps F2.le) rfl) rfl (P.eq_int (wpAny_truthy_bool ?_))))))
        refine seg_execs_cons (seg_stmt (wpAny_Return_none ?_))
        exact seg_leaf (.ok (.ret .none)) (hK _ _ s₀ (.inr rfl) S2)
    | true =>
      obtain ⟨hne', r, rfl⟩ := hinf rfl
      have hiN := hiN rfl
      have hp : 0 < pre.length := by cases pre with | nil => exact absurd rfl hne' | cons _ _ => exact Nat.succ_pos _
      obtain ⟨tl, rfl⟩ := hlast hp
      obtain ⟨t, hv⟩ := hvs pre.length 0 (by simp)
      obtain ⟨n', rfl⟩ : ∃ n', n = n' + 1 := ⟨n - 1, by omega⟩
      refine gen_turn hC0 hI0 hne hCI hlC hS G F hv fun s2 F2 S2 => ?_
      obtain ⟨m, hm, hlm, him⟩ := F2.ns
      refine seg_execs_cons (seg_If (wpAny_isTrue_Compare1 (nN (env := genv C) hm him (rd (.glob (v := .int 127 189) (G0.keeps F2.le) rfl) rfl (P.eq_int (wpAny_truthy_bool ?_))))))
      refine seg_execs_nil (seg_execs_cons (seg_If (wpAny_isTrue_Compare1 (nN (env := genv C) hm him (wpAny_Constant_int (P.eq_int (wpAny_truthy_bool ?_)))))))
      refine seg_execs_cons (seg_If (wpAny_isTrue_Compare1 (nN (env := genv C) hm hlm (wpAny_Constant_none (is_none (wpAny_truthy_bool ?_))))))
      refine seg_execs_nil (seg_execs_cons (seg_While fun p' => ?_))
      refine gen_forever (fs := _) rfl rfl (fun m hm => ?_) n' s₀ _ rfl (by omega) (by omega) S2.toks F2.toks
      rw [gval_ge hm]
      have : pre[pre.length - 1]? = pre.getLast? := by rw [List.getLast?_eq_getElem?]
      rw [this]
  | succ k ih =>
    intro i hk hi n s₀ s last hn hiN hS G F hlast
    have hil : i < pre.length := by omega
    have hx : pre[i]? = some pre[i] := List.getElem?_eq_getElem hil
    obtain ⟨hx0, hx127⟩ := hpre _ (List.getElem_mem hil)
    obtain ⟨t, hv⟩ := hvs i pre[i] (by rw [List.getElem?_append_left hil]; exact hx)
    have hpos : ∃ n', n = n' + 1 := by
      cases inf with
      | true => exact ⟨n - 1, by have := hiN rfl; omega⟩
      | false => exact ⟨n - 1, by have := (hfin rfl).1; omega⟩
    obtain ⟨n', rfl⟩ := hpos
    refine gen_turn hC0 hI0 hne hCI hlC hS G F hv fun s2 F2 S2 => gen_tests G0 F2 S2 hx127 hx0 fun s3 F3 S3 => ?_
    obtain ⟨m, hm, hlm, him⟩ := F3.ns
    refine seg_execs_cons (seg_Expr_Yield rfl rfl rfl (nN (env := genv C) hm him fun kap hkap => ⟨⟨t, ?_⟩, S3, ?_⟩))
    · rw [show N - 1 - n' = i by omega, gval_lt hx]
    · by_cases hlast' : inf = true ∧ n' = 0
      · exact .inl hlast'
      · refine .inr fun s4 hk4 hle4 => hkap .none s4 ?_
        have F4 := F3.on hk4 hle4
        obtain ⟨m4, hm4, hlm4, him4⟩ := F4.ns
        refine seg_execs_cons (seg_stmt (wpAny_Assign_Name (nN (env := genv C) hm4 him4 (wpAny_storeName_local (m := m4) rfl hm4 (fun h5 hm5 hs5 => ?_) rfl))))
        refine seg_execs_nil (seg_again rfl ?_)
        have hk1 : HLe h0 h5 := fun b' o e => hs5.extBut b' o (fun q => by rw [q, show h0.get? (genv C).locals = none from hC0] at e; cases e) (hle4 b' o e)
        refine ih (i + 1) (by omega) (by omega) n' s4 _ (.int pre[i] t) (by omega) (fun hi' => ?_) ((Since.refl C I s4).step fun b o h1' h2' e => hs5.extBut b o h1' e) hk1 ⟨⟨_, hm5, if_pos rfl⟩, F4.it.extBut hs5.extBut hCI.symm, F4.ls.extBut hs5.extBut hlC⟩ fun _ => ⟨t, ?_⟩
        · have := hiN hi'
          have : n' ≠ 0 := fun q => hlast' ⟨hi', q⟩
          omega
        · rw [show i + 1 - 1 = i by omega, hx]; rfl
end
end Mine

end
section
-- Y1
open PySem PySem.W PyProof.Rows PySem.Calls
namespace Mine
set_option maxRecDepth 100000
set_option maxHeartbeats 4000000
section
variable {prog : Program} {w : World} {A : Around} {E : Value → Shared → Prop} {s : Shared}
/-- a new StopIteration -/
theorem new_stop {Q : Value → Shared → Prop} (h : ∀ h' e, HLe s.heap h' → (∃ o, h'.get? e = some o ∧ o.cls = .type "StopIteration") → Q (.ref e) { s with heap := h' }) :
    wpAny (model prog w) A (newExc (.type "StopIteration") []) Q E s := by
  have made := fun o o' => h ((s.heap.push o).push o') (s.heap.push o).objs.size (fun b x e => Heap.get?_push_of_some _ (Heap.get?_push_of_some _ e))
  unfold newExc newTuple
  obtain ⟨hp, g, d, tk, os⟩ := s
  wp_walk
  exact made _ _ ⟨_, Heap.get?_push_size _ rfl, rfl⟩
/-- an iterator's next item, by what its type's __next__ does -/
theorem next_by {T id : String} {B : Builtin} {v : Value} {Q : Value → Shared → Prop} (slot : Slot T "__next__" id) (hT : s.TypeIs v T) (entry : entryFor table id = some B) (ok : argsOk id ⟨[v], []⟩)
    (h : wpAny (model prog w) A.in1 (B ⟨[v], []⟩) (fun fin s' => ∃ r, fin = .done (.ret r) ∧ Q r s') E s) : wpAny (model prog w) A (Builtin.SmallTypes.nextOf v) Q E s := by
  unfold Builtin.SmallTypes.nextOf
  refine wpAny_bind (wpAny_callSpecial?_slot (name := Str.ofString "__next__") hT slot (wpAny_call_entry slot hT entry (wpAny_mono h (fun fin s' q => ?_) fun _ _ q => q) ok))
  obtain ⟨r, rfl, q⟩ := q
  exact ⟨r, rfl, wpAny_pure q⟩
theorem range_in {it : Addr} {x left step : Int} {Q : Value → Shared → Prop} (hit : IsRangeIter s.heap it x left step) (hleft : 0 < left)
    (hQ : ∀ h', IsRangeIter h' it (x + step) (left - 1) step → Heap.SameBut it s.heap h' → Q (.int x s.toks) { s with heap := h', toks := s.toks + 1 }) :
    wpAny (model prog w) A (Builtin.SmallTypes.nextOf (.ref it)) Q E s := by
  refine next_by F.slot_range_iterator_next ⟨_, hit, rfl⟩ F.entry_range_iterator_next (F.args_range_iterator_next_1 _) ?_
  have more : ¬ left ≤ 0 := by omega
  obtain ⟨hp, g, d, tk, os⟩ := s
  wp_walk
  exact ⟨_, rfl, hQ _ (Heap.get?_update_self _ (Heap.get?_update_self _ hit rfl) rfl) ((Heap.SameBut.update ..).trans (Heap.SameBut.update ..))⟩
theorem range_out {it : Addr} {x left step : Int} {Q : Value → Shared → Prop} (hh : A.handled = none) (hit : IsRangeIter s.heap it x left step) (hleft : left ≤ 0)
    (hE : ∀ h' e, HLe s.heap h' → (∃ o, h'.get? e = some o ∧ o.cls = .type "StopIteration") → E (.ref e) { s with heap := h' }) : wpAny (model prog w) A (Builtin.SmallTypes.nextOf (.ref it)) Q E s := by
  refine next_by F.slot_range_iterator_next ⟨_, hit, rfl⟩ F.entry_range_iterator_next (F.args_range_iterator_next_1 _) ?_
  have out : ∀ Q, wpAny (model prog w) A.in1 (Builtin.SmallTypes.stopIteration : Sem Unit) Q E s := fun Q => wpAny_bind (new_stop fun h' e le o => wpAny_raiseNew_none hh (hE h' e le o))
  obtain ⟨hp, g, d, tk, os⟩ := s
  wp_walk using out _
/-- a generator's next item, or its end -/
theorem nextOf_gen {a : Addr} {g n : Nat} {gs : GenState} {P : Nat → Shared → Shared → Prop} {Y : Protocol} {Q : Value → Shared → Prop} (hh : A.handled = none)
    (hl : s.heap.NoLimit) (hroom : A.depth < recursionLimit) (hg : s.heap.IsGen a g) (hgs : s.gens[g]? = some gs)
    (hgo : gs.Goes (model prog w) A.in1 (fun n s₀ r s₁ => r = .ok (.ret .none) ∧ P n s₀ s₁) Y n (.send .none) (s.setGen g .running))
    (hY : ∀ v s₁ gs', gs'.bare = true → Y (n - 1) (s.setGen g .running) v s₁ (fun r' s'' => match n with
        | 0 => False
        | m + 1 => gs'.Goes (model prog w) A.in1 (fun n s₀ r s₁ => r = .ok (.ret .none) ∧ P n s₀ s₁) Y m r' s'') → Q v (s₁.setGen g gs'))
    (hP : ∀ s₁, P n (s.setGen g .running) s₁ → ∀ h' e, HLe s₁.heap h' → (∃ o, h'.get? e = some o ∧ o.cls = .type "StopIteration") → E (.ref e) { s₁.setGen g .finished with heap := h' }) :
    wpAny (model prog w) A (Builtin.SmallTypes.nextOf (.ref a)) Q E s := by
  refine next_by slot_gen_next hg.typeIs entry_gen_next (args_gen_next _) ?_
  have woken : ∀ {k : Unit → Sem Fin} {Q' : Fin → Shared → Prop}, wpAny (model prog w) A.in1 (k ()) Q' E s → wpAny (model prog w) A.in1 (match gs.status with | .fresh => roomToWake >>= k | .suspended => roomToWake >>= k | _ => k ()) Q' E s := fun h => by
    cases gs <;> first | exact wpAny_bind (wpAny_roomToWake hl hroom h) | exact h
  show wpAny _ _ (Builtin.Generator.genWake (.ref a) (.send .none)) _ _ s
  unfold Builtin.Generator.genWake
  refine wpAny_bind (wpAny_holding (wpAny_genNumber hg (wpAny_bind (wpAny_genState hgs ?_))))
  refine woken (wpAny_bind (wpAny_resumeQ hgs hgo (fun x s₁ e => ?_) fun v s₁ gs' bare y => ?_))
  · obtain ⟨rfl, p⟩ := e
    exact wpAny_pure (wpAny_bind (new_stop fun h' e le o => wpAny_bind (wpAny_raiseNew_none hh (hP s₁ p h' e le o))))
  · exact wpAny_pure (wpAny_pure ⟨v, rfl, hY v s₁ gs' bare y⟩)
theorem zip_turn {z TI TO i1 i2 : Addr} {a1 b1 : Value} {Q : Value → Shared → Prop} (tz : TO ≠ z)
    (hz : IsZip s.heap z TI TO .none) (hTI : IsPair s.heap TI (.ref i1) (.ref i2))
    (first : ∀ h₁, IsZip h₁ z TI TO .ellipsis → Heap.SameBut z s.heap h₁ → wpAny (model prog w) A (Builtin.SmallTypes.nextOf (.ref i1)) (fun x s₂ => IsPair s₂.heap TO a1 b1 ∧
        ∀ h₃, IsPair h₃ TO x b1 → Heap.SameBut TO s₂.heap h₃ → wpAny (model prog w) A (Builtin.SmallTypes.nextOf (.ref i2)) (fun y s₄ => IsPair s₄.heap TO x b1 ∧ IsZip s₄.heap z TI TO .ellipsis ∧
          ∀ h', IsZip h' z TI TO (rawInt s₄.heap.objs.size) → IsPair h' TO x y → IsPair h' s₄.heap.objs.size x y → (∀ c o, c ≠ z → c ≠ TO → s₄.heap.get? c = some o → h'.get? c = some o) → Q (.ref s₄.heap.objs.size) { s₄ with heap := h' })
          (fun e s₄ => IsZip s₄.heap z TI TO .ellipsis ∧ ∀ h', Heap.SameBut z s₄.heap h' → E e { s₄ with heap := h' }) { s₂ with heap := h₃ })
      (fun e s₂ => IsZip s₂.heap z TI TO .ellipsis ∧ ∀ h', Heap.SameBut z s₂.heap h' → E e { s₂ with heap := h' }) { s with heap := h₁ }) :
    wpAny (model prog w) A (Builtin.«zip.__next__» ⟨[.ref z], []⟩) (fun fin s' => ∃ v, fin = .done (.ret v) ∧ Q v s') E s := by
  unfold Builtin.«zip.__next__» Builtin.SmallTypes.ownedTupleIsFree
  obtain ⟨hp, g, d, tk, os⟩ := s
  wp_walk
  show wpAny _ _ (Sem.onRaise (Builtin.SmallTypes.nextOf (.ref i1) >>= fun v => pure (some v)) fun _ => setField (.ref z) 0 .none) _ _ _
  refine wpAny_onRaise (wpAny_bind (wpAny_mono (first _ (Heap.get?_update_self _ hz rfl) (Heap.SameBut.update ..)) (fun x s₂ q => ?_) fun e s₂ q => ?_))
  · obtain ⟨hp2, g2, d2, tk2, os2⟩ := s₂
    obtain ⟨hTO, next⟩ := q
    wp_walk
    show wpAny _ _ (Sem.onRaise (Builtin.SmallTypes.nextOf (.ref i2) >>= fun v => pure (some v)) fun _ => setField (.ref z) 0 .none) _ _ _
    refine wpAny_onRaise (wpAny_bind (wpAny_mono (next _ (Heap.get?_update_self _ hTO rfl) (Heap.SameBut.update ..)) (fun y s₄ q => ?_) fun e s₄ q => ?_))
    · obtain ⟨hp4, g4, d4, tk4, os4⟩ := s₄
      obtain ⟨hTO4, hz4, out⟩ := q
      wp_walk
      refine ⟨_, rfl, ?_⟩
      generalize e5 : hp4.update TO (Obj.mapSeq fun x => x.setIfInBounds (0 + 1) y) = h5
      have s5 : Heap.SameBut TO hp4 h5 := e5 ▸ .update ..
      have z5 : IsZip h5 z TI TO .ellipsis := s5.extBut _ _ tz.symm hz4
      have t5 : IsPair h5 TO x y := e5 ▸ Heap.get?_update_self _ hTO4 rfl
      have n5 : h5.objs.size = hp4.objs.size := s5.1
      have zT : z ≠ h5.objs.size := Nat.ne_of_lt (Heap.lt_size z5)
      generalize e6 : h5.push _ = h6
      have k6 : HLe h5 h6 := fun b o e => e6 ▸ Heap.get?_push_of_some _ e
      have T6 : IsPair h6 h5.objs.size x y := e6 ▸ Heap.get?_push_size _ rfl
      generalize e7 : h6.update z _ = h7
      have s7 : Heap.SameBut z h6 h7 := e7 ▸ .update ..
      have z7 : IsZip h7 z TI TO (rawInt h5.objs.size) := e7 ▸ Heap.get?_update_self _ (k6 _ _ z5) rfl
      have s8 := Heap.SameBut.update h7 z (Obj.mapFields fun x => x.setIfInBounds 1 (Value.bool false))
      have z8 := Heap.get?_update_self (Obj.mapFields fun x => x.setIfInBounds 1 (Value.bool false)) z7 rfl
      have up : ∀ c o, c ≠ z → h5.get? c = some o → (h7.update z (Obj.mapFields fun x => x.setIfInBounds 1 (Value.bool false))).get? c = some o := fun c o n e => s8.extBut _ _ n (s7.extBut _ _ n (k6 _ _ e))
      have T8 := s8.extBut _ _ zT.symm (s7.extBut _ _ zT.symm T6)
      rw [n5] at z8 T8 ⊢
      exact out _ z8 (up _ _ tz t5) T8 fun c o n1 n2 e => up c o n1 (s5.extBut _ _ n2 e)
    · obtain ⟨hp4, g4, d4, tk4, os4⟩ := s₄
      obtain ⟨hz4, out⟩ := q
      wp_walk
      exact out _ (Heap.SameBut.update ..)
  · obtain ⟨hp2, g2, d2, tk2, os2⟩ := s₂
    obtain ⟨hz2, out⟩ := q
    wp_walk
    exact out _ (Heap.SameBut.update ..)
end
end Mine

end
section
-- G3
open PySem PySem.W PyProof.Rows PySem.Calls
namespace Mine
set_option maxRecDepth 100000
set_option maxHeartbeats 4000000
section
variable {prog : Program} {w : World} {h0 : Heap} {B : Around} {C l : Addr} {pre : List Int} {tail : List Int} {N : Nat} {inf : Bool}

/-- the ruler is the one that the generator goes by -/
structure Ruler (pre tail : List Int) (N : Nat) (inf : Bool) (vs : List Value) : Prop where
  rpre : ∀ x ∈ pre, x ≠ 0 ∧ x ≠ 127
  rvs : ∀ (i : Nat) (x : Int), (pre ++ tail)[i]? = some x → ∃ t, vs[i]? = some (Value.int x t)
  rlen : vs.length = (pre ++ tail).length
  rfin : inf = false → N = pre.length ∧ (tail = [] ∨ ∃ r, tail = 127 :: r)
  rinf : inf = true → pre ≠ [] ∧ ∃ r, tail = 0 :: r
  rpos : 0 < N

theorem gen_start {vs : List Value} {m0 : Str → Option Value} {s : Shared} (G0 : Glb (HK w) h0) (hC0 : h0.get? C = none) (hh : B.handled = none) (hlC : l ≠ C) (hle : HLe h0 s.heap) (Ru : Ruler pre tail N inf vs)
    (hn : s.heap.Ns C m0) (hg : m0 (Str.ofString "grouping") = some (.ref l)) (hl : s.heap.IsList l vs.toArray) :
    Seg (model prog w) B (RR C s.heap.objs.size) (YY h0 C s.heap.objs.size l pre N inf) N s (.func body21 (genv C)) ((model prog w).den (.func body21 (genv C))) [] s := by
  refine seg_func ?_
  refine seg_execs_cons (seg_stmt (wpAny_Assign_Name (wpAny_Constant_none (wpAny_storeName_local (m := m0) rfl hn (fun h1 hn1 hs1 => ?_) rfl))))
  have hsz : h1.objs.size = s.heap.objs.size := hs1.1
  have hl1 : h1.IsList l vs.toArray := hl.extBut hs1.extBut hlC
  have hle1 : HLe h0 h1 := fun b o e => hs1.extBut b o (fun q => by rw [q, show h0.get? (genv C).locals = none from hC0] at e; cases e) (hle b o e)
  have hg1 : (if Str.ofString "grouping" = Str.ofString "last_interval" then some Value.none else m0 (Str.ofString "grouping")) = some (.ref l) := by rw [if_neg (by decide)]; exact hg
  refine seg_execs_cons (seg_For (nN (env := genv C) hn1 hg1 (wpAny_pyIter_list hl1 fun p => ?_)))
  have hI : h1.objs.size = s.heap.objs.size := hsz
  have hClt : C < s.heap.objs.size := by obtain ⟨o, es, ep, e, _⟩ := hn; exact Heap.lt_size e
  have hllt : l < s.heap.objs.size := by obtain ⟨o, e, _⟩ := hl; exact Heap.lt_size e
  rw [← hI]
  refine gen_loop (tail := tail) (vs := vs) G0 hC0 (hI0 := ?_) hh (Nat.ne_of_lt (hI ▸ hllt)) (Nat.ne_of_lt (hI ▸ hClt)) hlC Ru.rpre Ru.rvs Ru.rlen Ru.rfin Ru.rinf ?_ pre.length 0 (by omega) (by omega) N s _ .none (by omega) (fun _ => Ru.rpos) ((Since.refl C _ s).step fun b o h1' _ e => Heap.get?_push_of_some _ (hs1.extBut b o h1' e)) (fun b o e => Heap.get?_push_of_some _ (hle1 b o e)) ⟨⟨_, hn1.push _, if_pos rfl⟩, ⟨_, Heap.get?_push_size _ rfl, rfl, rfl⟩, hl1.push _⟩ (fun h => absurd h (Nat.lt_irrefl _))
  · cases e : h0.get? h1.objs.size with
    | none => rfl
    | some o => exact absurd (Heap.lt_size (hle1 _ o e)) (Nat.lt_irrefl _)
  · rintro f s' s₀ (rfl | rfl) hS
    · exact seg_end (.ok (.ret .none)) ⟨rfl, rfl, hS⟩
    · exact seg_end (.ok (.ret .none)) ⟨rfl, rfl, hS⟩
end
/-- a piece that turns at most C, I, and generators -/
structure Gz (W : List Addr) (s s' : Shared) : Prop where
  os : s'.os = s.os
  bare : AllBare s.gens → AllBare s'.gens
  keep : ∀ b o, b ∉ W → s.heap.get? b = some o → s'.heap.get? b = some o

structure GLive (prog : Program) (w : World) (h0 : Heap) (B : Around) (C I l : Addr) (pre : List Int) (N : Nat) (inf : Bool) (a : Addr) (g j : Nat) (s : Shared) : Prop where
  gen : s.heap.IsGen a g
  st : ∃ gs, s.gens[g]? = some gs ∧ ((inf = true ∧ j = N) ∨ ∀ s'', (∀ b, b = C ∨ b = I ∨ b = l → ∀ o, s.heap.get? b = some o → s''.heap.get? b = some o) → HLe h0 s''.heap →
    gs.Goes (model prog w) B (RR C I) (YY h0 C I l pre N inf) (N - j) (.send .none) s'')
theorem GLive.on {prog : Program} {w : World} {h0 : Heap} {B : Around} {C I l : Addr} {pre : List Int} {N : Nat} {inf : Bool} {a : Addr} {g j : Nat} {s s' : Shared} (x : GLive prog w h0 B C I l pre N inf a g j s)
    (hg : s'.gens = s.gens) (k : ∀ b, b = C ∨ b = I ∨ b = l ∨ b = a → ∀ o, s.heap.get? b = some o → s'.heap.get? b = some o) : GLive prog w h0 B C I l pre N inf a g j s' := by
  refine ⟨?_, ?_⟩
  · obtain ⟨o, nm, qn, ho, r⟩ := x.gen
    exact ⟨o, nm, qn, k a (.inr (.inr (.inr rfl))) o ho, r⟩
  · obtain ⟨gs, e, h⟩ := x.st
    refine ⟨gs, hg ▸ e, h.imp id fun h s'' hk hle => h s'' (fun b hb o e => hk b hb o (k b ?_ o e)) hle⟩
    rcases hb with rfl | rfl | rfl
    · exact .inl rfl
    · exact .inr (.inl rfl)
    · exact .inr (.inr (.inl rfl))
section
variable {prog : Program} {w : World} {h0 : Heap} {A : Around} {E : Value → Shared → Prop} {s : Shared} {C I l a : Addr} {g j : Nat} {pre : List Int} {tail : List Int} {N : Nat} {inf : Bool} {Q : Value → Shared → Prop}
theorem setGen_bare {s : Shared} {g : Nat} {gs : GenState} (hb : gs.bare = true) (h : AllBare s.gens) : AllBare (s.setGen g gs).gens := by
  intro y hy
  have hy : y ∈ s.gens.setIfInBounds g gs := hy
  obtain ⟨i, hi, rfl⟩ := Array.mem_iff_getElem.mp hy
  rw [Array.getElem_setIfInBounds (by simpa using hi)]
  split
  · exact hb
  · exact h _ (Array.getElem_mem _)
theorem since_le {s s' : Shared} (hC0 : h0.get? C = none) (hI0 : h0.get? I = none) (hS : Since C I s s') (hle : HLe h0 s.heap) : HLe h0 s'.heap := by
  obtain ⟨h, tk, rfl, k⟩ := hS
  exact fun b o e => k b o (fun q => by rw [q, hC0] at e; cases e) (fun q => by rw [q, hI0] at e; cases e) (hle b o e)
theorem since_gz {s s₁ : Shared} {gs' : GenState} (hb : gs'.bare = true) (hS : Since C I (s.setGen g .running) s₁) : Gz [C, I] s (s₁.setGen g gs') := by
  obtain ⟨h, tk, rfl, k⟩ := hS
  exact ⟨rfl, fun q => setGen_bare (g := g) hb (s := { s.setGen g .running with heap := h, toks := tk }) (setGen_bare (g := g) rfl q), fun b o hb e => k b o (fun q => hb (by simp [q])) (fun q => hb (by simp [q])) e⟩
theorem since_gen {s s₁ : Shared} {gs gs' : GenState} (hgs : s.gens[g]? = some gs) (hS : Since C I (s.setGen g .running) s₁) : (s₁.setGen g gs').gens[g]? = some gs' := by
  obtain ⟨h, tk, rfl, k⟩ := hS
  exact setGen_self (s := { s.setGen g .running with heap := h, toks := tk }) (gs := .running) (setGen_self hgs)
theorem since_isgen {s s₁ : Shared} {gs' : GenState} (haC : a ≠ C) (haI : a ≠ I) (x : s.heap.IsGen a g) (hS : Since C I (s.setGen g .running) s₁) : (s₁.setGen g gs').heap.IsGen a g := by
  obtain ⟨h, tk, rfl, k⟩ := hS
  obtain ⟨o, nm, qn, ho, r⟩ := x
  exact ⟨o, nm, qn, k a o haC haI ho, r⟩

theorem next_live (G : Glb (HK w) s.heap) (hh : A.handled = none) (hroom : A.depth < recursionLimit) (hle : HLe h0 s.heap) (haC : a ≠ C) (haI : a ≠ I) (L : GLive prog w h0 A.in1 C I l pre N inf a g j s) (hj : j < N)
    (hQ : ∀ t s', Gz [C, I] s s' → GLive prog w h0 A.in1 C I l pre N inf a g (j + 1) s' → Q (.int (gval pre j) t) s') : wpAny (model prog w) A (Builtin.SmallTypes.nextOf (.ref a)) Q E s := by
  obtain ⟨gs, hgs, h⟩ := L.st
  have h := h.resolve_left (fun q => by omega)
  obtain ⟨m, hm⟩ : ∃ m, N - j = m + 1 := ⟨N - j - 1, by omega⟩
  rw [hm] at h
  refine nextOf_gen (P := fun n s₀ s₁ => n = 0 ∧ Since C I s₀ s₁) hh G.nolimit hroom L.gen hgs (h (s.setGen g .running) (fun _ _ _ e => e) hle) (fun v s₁ gs' hb hv => ?_) (fun s₁ hp => absurd hp.1 (Nat.succ_ne_zero m))
  obtain ⟨⟨t, rfl⟩, hS, hkap⟩ := hv
  rw [show N - 1 - (m + 1 - 1) = j by omega]
  refine hQ t _ (since_gz hb hS) ⟨since_isgen haC haI L.gen hS, gs', since_gen hgs hS, ?_⟩
  refine hkap.imp (fun q => ⟨q.1, by have := q.2; omega⟩) fun h s'' hk hle => ?_
  rw [show N - (j + 1) = m by omega]
  exact h s'' hk hle
theorem next_first {vs : List Value} {m0 : Str → Option Value} (G0 : Glb (HK w) h0) (hC0 : h0.get? C = none) (hh : A.handled = none) (hroom : A.depth < recursionLimit) (hle : HLe h0 s.heap) (haC : a ≠ C) (hlC : l ≠ C) (Ru : Ruler pre tail N inf vs)
    (hn : s.heap.Ns C m0) (hg0 : m0 (Str.ofString "grouping") = some (.ref l)) (hl : s.heap.IsList l vs.toArray) (hg : s.heap.IsGen a g) (hgs : s.gens[g]? = some (.fresh (.func body21 (genv C))))
    (hQ : ∀ t s', Gz [C, s.heap.objs.size] s s' → GLive prog w h0 A.in1 C s.heap.objs.size l pre N inf a g 1 s' → Q (.int (gval pre 0) t) s') : wpAny (model prog w) A (Builtin.SmallTypes.nextOf (.ref a)) Q E s := by
  have haI : a ≠ s.heap.objs.size := by obtain ⟨o, _, _, ho, _⟩ := hg; exact Nat.ne_of_lt (Heap.lt_size ho)
  obtain ⟨m, hm⟩ : ∃ m, N = m + 1 := ⟨N - 1, by have := Ru.rpos; omega⟩
  have hseg := gen_start (prog := prog) (B := A.in1) (s := s.setGen g .running) G0 hC0 hh hlC hle Ru hn hg0 hl
  refine nextOf_gen (n := m + 1) (P := fun n s₀ s₁ => n = 0 ∧ Since C s.heap.objs.size s₀ s₁) (Y := YY h0 C s.heap.objs.size l pre N inf) hh (G0.keeps hle).nolimit hroom hg hgs ⟨rfl, hm ▸ hseg⟩ (fun v s₁ gs' hb hv => ?_) (fun s₁ hp => absurd hp.1 (Nat.succ_ne_zero m))
  obtain ⟨⟨t, rfl⟩, hS, hkap⟩ := hv
  rw [show N - 1 - (m + 1 - 1) = 0 by omega]
  refine hQ t _ (since_gz hb hS) ⟨since_isgen haC haI hg hS, gs', since_gen hgs hS, ?_⟩
  refine hkap.imp (fun q => ⟨q.1, by have := q.2; omega⟩) fun h s'' hk hle => ?_
  rw [show N - 1 = m by omega]
  exact h s'' hk hle
theorem next_end (G : Glb (HK w) s.heap) (hC0 : h0.get? C = none) (hI0 : h0.get? I = none) (hh : A.handled = none) (hroom : A.depth < recursionLimit) (hle : HLe h0 s.heap) (hinf : inf = false) (L : GLive prog w h0 A.in1 C I l pre N inf a g N s)
    (hE : ∀ s' e, Gz [C, I] s s' → (∃ o, s'.heap.get? e = some o ∧ o.cls = .type "StopIteration") → E (.ref e) s') : wpAny (model prog w) A (Builtin.SmallTypes.nextOf (.ref a)) Q E s := by
  obtain ⟨gs, hgs, h⟩ := L.st
  have h := h.resolve_left (fun q => by rw [hinf] at q; cases q.1)
  rw [Nat.sub_self] at h
  refine nextOf_gen (P := fun n s₀ s₁ => n = 0 ∧ Since C I s₀ s₁) hh G.nolimit hroom L.gen hgs (h (s.setGen g .running) (fun _ _ _ e => e) hle) (fun v s₁ gs' hb hv => ?_) (fun s₁ hp h' e hk he => ?_)
  · obtain ⟨_, hS, hkap⟩ := hv
    rcases hkap with q | q
    · rw [hinf] at q; cases q.1
    · exact (q s₁ (fun _ _ _ e => e) (since_le hC0 hI0 hS hle)).elim
  · have z := since_gz (gs' := .finished) rfl hp.2
    exact hE _ e ⟨z.os, z.bare, fun b o hb e => hk b o (z.keep b o hb e)⟩ he
end
end Mine

end
section
-- G4
open PySem PySem.W PyProof.Rows PySem.Calls
namespace Mine
set_option maxRecDepth 100000
set_option maxHeartbeats 4000000

abbrev zgH1 (h : Heap) (b c n : Int) : Heap := h.push { cls := .type "range_iterator", data := .fields #[rawInt b, rawInt n, rawInt c] }
abbrev zgH2 (h : Heap) (a : Addr) (b c n : Int) : Heap := (zgH1 h b c n).push { cls := .type "tuple", data := .seq #[.ref h.objs.size, .ref a] }
abbrev zgH3 (h : Heap) (a : Addr) (b c n : Int) : Heap := (zgH2 h a b c n).push { cls := .type "tuple", data := .seq #[.none, .none] }
abbrev zgH4 (h : Heap) (a : Addr) (b c n : Int) : Heap := (zgH3 h a b c n).push { cls := .type "zip", data := .fields #[.none, .bool false, .bool false, .ref (zgH1 h b c n).objs.size, .ref (zgH2 h a b c n).objs.size] }
theorem meets_zip_rg (r a g : Addr) (x y c : Int) (t u v : Tok) (hs : Builtin.Range.small x y c = true) :
    Meets (Builtin.«zip.__new__» ⟨[.type "zip", .ref r, .ref a], []⟩) (fun _ R s => IsRange s.heap r x y c t u v ∧ s.heap.IsGen a g ∧
      R (.ok (.ret (.ref (zgH3 s.heap a x c (Builtin.Range.rangeSize x y c)).objs.size))) { s with heap := zgH4 s.heap a x c (Builtin.Range.rangeSize x y c) }) :=
  .of_wp fun prog w A R s h => by
    obtain ⟨hp, g', d, tk, os⟩ := s; obtain ⟨hr, hg, h⟩ := h
    have hsub := sub_zip
    have hR1 : IsRange (Shared.heap ⟨hp, g', d, tk, os⟩) r x y c t u v := hr
    have hG1 : Heap.IsGen (Shared.heap ⟨hp.push { cls := .type "range_iterator", data := .fields #[rawInt x, rawInt (Builtin.Range.rangeSize x y c), rawInt c] }, g', d, tk, os⟩) a g := Heap.IsGen.push hg _
    wp_walk using wpAny_pyIter_range hR1 hs, wpAny_pyIter_gen hG1
    exact ⟨_, rfl, h⟩

section
variable {prog : Program} {w : World} {A : Around} {E : Value → Shared → Prop} {s : Shared}
theorem call_zip_rg {r a g : Addr} {x y c : Int} {t u v : Tok} {n : Nat} {Q : Value → Shared → Prop} (hr : IsRange s.heap r x y c t u v) (hg : s.heap.IsGen a g) (hs : Builtin.Range.small x y c = true) (hn : Builtin.Range.rangeSize x y c = n)
    (h : ∀ h', IsZip h' (s.heap.objs.size + 3) (s.heap.objs.size + 1) (s.heap.objs.size + 2) .none → IsPair h' (s.heap.objs.size + 1) (.ref s.heap.objs.size) (.ref a) →
      IsPair h' (s.heap.objs.size + 2) .none .none → IsRangeIter h' s.heap.objs.size x n c → h'.objs.size = s.heap.objs.size + 4 → HLe s.heap h' → Q (.ref (s.heap.objs.size + 3)) { s with heap := h' }) :
    wpAny (model prog w) A (call (.type "zip") [.ref r, .ref a]) Q E s := by
  refine callType_new F.called_zip (by decide) (F.typeCall_zip_2 _ _) (F.newCall_zip_2 _ _) (fun obj => F.args_object_init_3 obj _ _) F.entry_zip_new
    (meets_zip_rg r a g x y c t u v hs) ⟨hr, hg, ?_⟩
  rw [hn]
  have z1 : (zgH1 s.heap x c n).objs.size = s.heap.objs.size + 1 := Heap.size_push ..
  have z2 : (zgH2 s.heap a x c n).objs.size = s.heap.objs.size + 2 := by rw [Heap.size_push, z1]
  have z3 : (zgH3 s.heap a x c n).objs.size = s.heap.objs.size + 3 := by rw [Heap.size_push, z2]
  have z4 : (zgH4 s.heap a x c n).objs.size = s.heap.objs.size + 4 := by rw [Heap.size_push, z3]
  have g4 : (zgH4 s.heap a x c n).get? (zgH3 s.heap a x c n).objs.size = some _ := Heap.get?_push_size _ rfl
  have g3 : (zgH4 s.heap a x c n).get? (zgH2 s.heap a x c n).objs.size = some _ := Heap.get?_push_of_some _ (Heap.get?_push_size _ rfl)
  have g2 : (zgH4 s.heap a x c n).get? (zgH1 s.heap x c n).objs.size = some _ := Heap.get?_push_of_some _ (Heap.get?_push_of_some _ (Heap.get?_push_size _ rfl))
  have g1 : (zgH4 s.heap a x c n).get? s.heap.objs.size = some _ := Heap.get?_push_of_some _ (Heap.get?_push_of_some _ (Heap.get?_push_of_some _ (Heap.get?_push_size _ rfl)))
  show _ ∧ _
  rw [z1, z2, z3] at g4
  rw [z1] at g2
  rw [z2] at g3
  rw [z3]
  exact ⟨⟨_, g4, rfl⟩, h _ g4 g2 g3 g1 z4 fun b o e => Heap.get?_push_of_some _ (Heap.get?_push_of_some _ (Heap.get?_push_of_some _ (Heap.get?_push_of_some _ e)))⟩

/-- what the second iterator of the zip sees as it is asked -/
structure Mid (z TO i1 : Addr) (s s1 : Shared) : Prop where
  gens : s1.gens = s.gens
  os : s1.os = s.os
  size : s1.heap.objs.size = s.heap.objs.size
  keep : ∀ c o, c ≠ z → c ≠ TO → c ≠ i1 → s.heap.get? c = some o → s1.heap.get? c = some o
theorem zipg_item {z TI TO i1 a : Addr} {W : List Addr} {x left : Int} {a1 b1 : Value} {P : Value → Shared → Prop} {Q : Value → Shared → Prop}
    (TIz : TI ≠ z) (TOz : TO ≠ z) (i1z : i1 ≠ z) (TITO : TI ≠ TO) (TIi1 : TI ≠ i1) (TOi1 : TO ≠ i1) (Wz : z ∉ W) (WTO : TO ∉ W) (Wi1 : i1 ∉ W)
    (hz : IsZip s.heap z TI TO .none) (hTI : IsPair s.heap TI (.ref i1) (.ref a)) (hTO : IsPair s.heap TO a1 b1) (h1 : IsRangeIter s.heap i1 x left 1) (hleft : 0 < left)
    (hnext : ∀ s1 (Q' : Value → Shared → Prop) (E' : Value → Shared → Prop), Mid z TO i1 s s1 → (∀ y s2, Gz W s1 s2 → P y s2 → Q' y s2) → wpAny (model prog w) A (Builtin.SmallTypes.nextOf (.ref a)) Q' E' s1)
    (hQ : ∀ t y s1 s2 h', Mid z TO i1 s s1 → Gz W s1 s2 → P y s2 → IsZip h' z TI TO (rawInt s2.heap.objs.size) → IsPair h' TO (.int x t) y → IsRangeIter h' i1 (x + 1) (left - 1) 1 → IsPair h' s2.heap.objs.size (.int x t) y →
      (∀ c o, c ≠ z → c ≠ TO → s2.heap.get? c = some o → h'.get? c = some o) → Q (.ref s2.heap.objs.size) { s2 with heap := h' }) :
    wpAny (model prog w) A (Builtin.«zip.__next__» ⟨[.ref z], []⟩) (fun fin s' => ∃ v, fin = .done (.ret v) ∧ Q v s') E s := by
  refine zip_turn TOz hz hTI fun h₁ z1 b1 => range_in (b1.extBut _ _ i1z h1) hleft fun h₂ r2 b2 => ⟨b2.extBut _ _ TOi1 (b1.extBut _ _ TOz hTO), fun h₃ p3 b3 => ?_⟩
  have M : Mid z TO i1 s { s with heap := h₃, toks := s.toks + 1 } := ⟨rfl, rfl, b3.1.trans (b2.1.trans b1.1), fun c o c1 c2 c3 e => b3.extBut _ _ c2 (b2.extBut _ _ c3 (b1.extBut _ _ c1 e))⟩
  refine hnext _ _ _ M fun y s₄ g4 P4 => ⟨g4.keep _ _ WTO p3, g4.keep _ _ Wz (b3.extBut _ _ TOz.symm (b2.extBut _ _ i1z.symm z1)), fun h' z' p' T' up => ?_⟩
  exact hQ _ y _ s₄ h' M g4 P4 z' p' (up _ _ i1z TOi1.symm (g4.keep _ _ Wi1 (b3.extBut _ _ TOi1.symm r2))) T' up
end
end Mine

end
section
-- G5
open PySem PySem.W PyProof.Rows PySem.Calls
namespace Mine
set_option maxRecDepth 100000
set_option maxHeartbeats 4000000
section
variable {prog : Program} {w : World} {A : Around} {s : Shared}
theorem zipg_end1 {z TI TO i1 a : Addr} {x left : Int} {Q : Fin → Shared → Prop} {E : Value → Shared → Prop} (hh : A.handled = none) 
    (TIz : TI ≠ z) (TOz : TO ≠ z) (i1z : i1 ≠ z) (hz : IsZip s.heap z TI TO .none) (hTI : IsPair s.heap TI (.ref i1) (.ref a)) (h1 : IsRangeIter s.heap i1 x left 1) (hleft : left ≤ 0)
    (hE : ∀ h' e, (∀ c o, c ≠ z → c ≠ i1 → s.heap.get? c = some o → h'.get? c = some o) → (∃ o, h'.get? e = some o ∧ o.cls = .type "StopIteration") → E (.ref e) { s with heap := h' }) :
    wpAny (model prog w) A (Builtin.«zip.__next__» ⟨[.ref z], []⟩) Q E s := by
  refine wpAny_mono (zip_turn (a1 := .none) (b1 := .none) (Q := fun _ _ => False) TOz hz hTI fun h₁ z1 b1 => range_out hh (b1.extBut _ _ i1z h1) hleft fun h₂ e le o => ⟨le _ _ z1, fun h' b' => ?_⟩) (fun _ _ q => ?_) fun _ _ q => q
  · obtain ⟨o, ho, hc⟩ := o
    have ez : e ≠ z := fun q => by subst q; have := (le _ _ z1).symm.trans ho; cases this; simp at hc
    exact hE h' e (fun c o c1 _ x => b'.extBut _ _ c1 (le _ _ (b1.extBut _ _ c1 x))) ⟨o, b'.extBut _ _ ez ho, hc⟩
  · obtain ⟨_, _, q⟩ := q; exact q.elim

theorem zipg_end2 {z TI TO i1 a : Addr} {W : List Addr} {x left : Int} {a1 b1 : Value} {Q : Fin → Shared → Prop} {E : Value → Shared → Prop}
    (TIz : TI ≠ z) (TOz : TO ≠ z) (i1z : i1 ≠ z) (TOi1 : TO ≠ i1) (Wz : z ∉ W)
    (hz : IsZip s.heap z TI TO .none) (hTI : IsPair s.heap TI (.ref i1) (.ref a)) (hTO : IsPair s.heap TO a1 b1) (h1 : IsRangeIter s.heap i1 x left 1) (hleft : 0 < left)
    (hnext : ∀ s1 (Q' : Value → Shared → Prop) (E' : Value → Shared → Prop), Mid z TO i1 s s1 → (∀ e s2, Gz W s1 s2 → (∃ o, s2.heap.get? e = some o ∧ o.cls = .type "StopIteration") → E' (.ref e) s2) → wpAny (model prog w) A (Builtin.SmallTypes.nextOf (.ref a)) Q' E' s1)
    (hE : ∀ s1 s2 h' e, Mid z TO i1 s s1 → Gz W s1 s2 → (∀ c o, c ≠ z → s2.heap.get? c = some o → h'.get? c = some o) → (∃ o, h'.get? e = some o ∧ o.cls = .type "StopIteration") → E (.ref e) { s2 with heap := h' }) :
    wpAny (model prog w) A (Builtin.«zip.__next__» ⟨[.ref z], []⟩) Q E s := by
  refine wpAny_mono (zip_turn (Q := fun _ _ => False) TOz hz hTI fun h₁ z1 b1 => range_in (b1.extBut _ _ i1z h1) hleft fun h₂ r2 b2 => ⟨b2.extBut _ _ TOi1 (b1.extBut _ _ TOz hTO), fun h₃ p3 b3 => ?_⟩) (fun _ _ q => ?_) fun _ _ q => q
  · have M : Mid z TO i1 s { s with heap := h₃, toks := s.toks + 1 } := ⟨rfl, rfl, b3.1.trans (b2.1.trans b1.1), fun c o c1 c2 c3 e => b3.extBut _ _ c2 (b2.extBut _ _ c3 (b1.extBut _ _ c1 e))⟩
    refine hnext _ _ _ M fun e s₄ g4 o => ?_
    have z4 := g4.keep _ _ Wz (b3.extBut _ _ TOz.symm (b2.extBut _ _ i1z.symm z1))
    obtain ⟨o, ho, hc⟩ := o
    have ez : e ≠ z := fun q => by subst q; have := z4.symm.trans ho; cases this; simp at hc
    exact ⟨z4, fun h' b' => hE _ s₄ h' e M g4 (fun c o c1 x => b'.extBut _ _ c1 x) ⟨o, b'.extBut _ _ ez ho, hc⟩⟩
  · obtain ⟨_, _, q⟩ := q; exact q.elim
end
end Mine

end
section
-- G6
open PySem PySem.W PyProof.Rows PySem.Calls
namespace Mine
set_option maxRecDepth 100000
set_option maxHeartbeats 4000000

/-- the addresses of a zip over a range and the generator, all new at h0 -/
structure ZAp (h0 : Heap) (z TI TO i1 a C D Cc l : Addr) : Prop where
  nd : [z, TI, TO, i1, a, C, D, Cc].Nodup
  new : ∀ b ∈ [z, TI, TO, i1, a, C, D, Cc], h0.get? b = none
  old : h0.get? l ≠ none

structure ZS (prog : Program) (w : World) (B : Around) (s1 : Shared) (z TI TO i1 a C D Cc l g : Nat) (pre : List Int) (N k : Nat) (inf : Bool) (j : Nat) (s : Shared) : Prop where
  os : s.os = s1.os
  bare : AllBare s1.gens → AllBare s.gens
  le : HLe s1.heap s.heap
  ti : IsPair s.heap TI (.ref i1) (.ref a)
  to : ∃ x y, IsPair s.heap TO x y
  rng : IsRangeIter s.heap i1 j ((k : Int) - j) 1
  acc : ∃ vs : List Value, s.heap.PlainList D vs.toArray ∧ ∀ V, HasAll V vs ((List.range j).map fun i => .int (gval pre i))
  ns : ∃ m, s.heap.Ns Cc m
  gen : (j = 0 ∧ s.heap.IsGen a g ∧ s.gens[g]? = some (.fresh (.func body21 (genv C))) ∧ ∃ m0, s.heap.Ns C m0 ∧ m0 (Str.ofString "grouping") = some (.ref l)) ∨
    (∃ I, I ∉ [z, TI, TO, i1, a, C, D, Cc, l] ∧ s1.heap.get? I = none ∧ GLive prog w s1.heap B C I l pre N inf a g j s)
section
variable {prog : Program} {w : World} {A : Around} {s s1 : Shared} {z TI TO i1 a C D Cc l g : Nat} {pre tail : List Int} {N k : Nat} {inf : Bool} {vs : List Value}

/-- one turn of the zip: an item, or the end -/
theorem zip_next {j : Nat} {E : Value → Shared → Prop} {Q : Option Value → Shared → Prop} (G0 : Glb (HK w) s1.heap) (hh : A.handled = none) (hroom : A.depth < recursionLimit) (P : ZAp s1.heap z TI TO i1 a C D Cc l) (Ru : Ruler pre tail N inf vs) (hl : s1.heap.IsList l vs.toArray)
    (hk : (inf = true → k = N) ∧ (inf = false → N < k)) (hj : j ≤ N) (Z : ZS prog w A.in1.in1 s1 z TI TO i1 a C D Cc l g pre N k inf j s) (hz : IsZip s.heap z TI TO .none)
    (hitem : j < N → ∀ (T : Nat) s', IsZip s'.heap z TI TO (rawInt T) → (∃ t u, IsPair s'.heap T (.int j t) (.int (gval pre j) u)) →
      (∃ x y, IsPair s'.heap TO x y) → IsRangeIter s'.heap i1 ((j + 1 : Nat) : Int) ((k : Int) - (j + 1 : Nat)) 1 → s'.os = s.os → (AllBare s.gens → AllBare s'.gens) → (∀ b o, b ∉ [z, TO, i1, C] → s1.heap.get? b = some o ∨ b ∈ [TI, a, D, Cc] → s.heap.get? b = some o → s'.heap.get? b = some o) →
      (∃ I, I ∉ [z, TI, TO, i1, a, C, D, Cc, l] ∧ s1.heap.get? I = none ∧ GLive prog w s1.heap A.in1.in1 C I l pre N inf a g (j + 1) s') → Q (some (.ref T)) s')
    (hend : j = N → ∀ s', s'.os = s.os → (AllBare s.gens → AllBare s'.gens) → (∀ b o, b ∉ [z, TO, i1, C] → s1.heap.get? b = some o ∨ b ∈ [TI, a, D, Cc] → s.heap.get? b = some o → s'.heap.get? b = some o) → Q none s') :
    wpAny (model prog w) A (pyNext (.ref z)) Q E s := by
  have hT : s.TypeIs (.ref z) "zip" := ⟨_, hz, rfl⟩
  have nd := P.nd
  simp only [List.nodup_cons, List.mem_cons, List.not_mem_nil, or_false, not_or] at nd
  obtain ⟨⟨n1, n2, n3, n4, n5, n6, n7⟩, ⟨n8, n9, n10, n11, n12, n13⟩, ⟨n14, n15, n16, n17, n18⟩, ⟨n19, n20, n21, n22⟩, ⟨n23, n24, n25⟩, ⟨n26, n27⟩, n28, _⟩ := nd
  have new : ∀ {b : Addr} {o : Obj}, s1.heap.get? b = some o → b ∉ [z, TI, TO, i1, a, C, D, Cc] := fun {b o} e q => by rw [P.new b q] at e; cases e
  have mle : ∀ {sm : Shared}, Mid z TO i1 s sm → HLe s1.heap sm.heap := fun {sm} M b o e => M.keep b o (fun q => new e (by simp [q])) (fun q => new e (by simp [q])) (fun q => new e (by simp [q])) (Z.le b o e)
  have ha : s.heap.IsGen a g := by
    rcases Z.gen with ⟨_, q, _⟩ | ⟨I, _, _, q⟩
    · exact q
    · exact q.gen
  have mgen : ∀ {sm : Shared}, Mid z TO i1 s sm → sm.heap.IsGen a g := fun {sm} M => by
    obtain ⟨o, nm, qn, ho, r⟩ := ha
    exact ⟨o, nm, qn, M.keep a o (fun q => n4 q.symm) (fun q => n15 q.symm) (fun q => n19 q.symm) ho, r⟩
  obtain ⟨x0, y0, hTO⟩ := Z.to
  have hkN : N ≤ k := by cases inf with | true => exact Nat.le_of_eq (hk.1 rfl).symm | false => exact Nat.le_of_lt (hk.2 rfl)
  by_cases hlt : j < N
  · refine wpAny_bind (wpAny_attempt (wpAny_callSpecial?_slot (name := Str.ofString "__next__") hT F.slot_zip_next
      (wpAny_call_entry F.slot_zip_next hT F.entry_zip_next ?_ (F.args_zip_next_1 _))))
    have item : ∀ I, I ∉ [z, TI, TO, i1, a, C, D, Cc, l] → s1.heap.get? I = none →
        (∀ sm (Q' : Value → Shared → Prop) (E' : Value → Shared → Prop), Mid z TO i1 s sm → (∀ y s2, Gz [C, I] sm s2 → (∃ u, y = .int (gval pre j) u ∧ GLive prog w s1.heap A.in1.in1 C I l pre N inf a g (j + 1) s2) → Q' y s2) → wpAny (model prog w) A.in1 (Builtin.SmallTypes.nextOf (.ref a)) Q' E' sm) →
        wpAny (model prog w) A.in1 (Builtin.«zip.__next__» ⟨[.ref z], []⟩) (fun fin s' => ∃ v, fin = .done (.ret v) ∧ Q (some v) s') No s := by
      intro I hI hI0 hnext
      simp only [List.mem_cons, List.not_mem_nil, or_false, not_or] at hI
      obtain ⟨i1', i2', i3', i4', i5', i6', i7', i8', i9'⟩ := hI
      refine wpAny_mono (zipg_item (W := [C, I]) (Ne.symm n1) (Ne.symm n2) (Ne.symm n3) n8 n9 n14 (by simp; exact ⟨n5, Ne.symm i1'⟩) (by simp; exact ⟨n16, Ne.symm i3'⟩) (by simp; exact ⟨n20, Ne.symm i4'⟩) hz Z.ti hTO Z.rng (by omega) hnext
        (Q := fun v s' => Q (some v) s') (E := No) fun t y sm s2 h' M Gz2 P2 hz' hTO' hr' hT' kp => ?_) (fun fin s' q => q) fun _ _ q => q
      obtain ⟨u, rfl, L⟩ := P2
      have keep : ∀ b o, b ∉ [z, TO, i1, C] → s1.heap.get? b = some o ∨ b ∈ [TI, a, D, Cc] → s.heap.get? b = some o → h'.get? b = some o := fun b o hb hs e => by
        simp only [List.mem_cons, List.not_mem_nil, or_false, not_or] at hb
        obtain ⟨b1, b2, b3, b4⟩ := hb
        have bI : b ≠ I := fun q => by
          subst q
          rcases hs with q | q
          · rw [hI0] at q; cases q
          · simp only [List.mem_cons, List.not_mem_nil, or_false] at q
            rcases q with q | q | q | q
            · exact i2' q
            · exact i5' q
            · exact i7' q
            · exact i8' q
        exact kp b o b1 b2 (Gz2.keep b o (by simp; exact ⟨b4, bI⟩) (M.keep b o b1 b2 b3 e))
      refine hitem hlt s2.heap.objs.size { s2 with heap := h' } hz' ⟨t, u, hT'⟩ ⟨_, _, hTO'⟩ ?_ (Gz2.os.trans M.os) (fun q => Gz2.bare (M.gens ▸ q)) keep ⟨I, ?_, hI0, L.on rfl fun b hb o e => kp b o ?_ ?_ e⟩
      · rw [show ((j + 1 : Nat) : Int) = (j : Int) + 1 by omega, show (k : Int) - ((j : Int) + 1) = (k : Int) - j - 1 by omega]; exact hr'
      · simp only [List.mem_cons, List.not_mem_nil, or_false, not_or]
        exact ⟨i1', i2', i3', i4', i5', i6', i7', i8', i9'⟩
      · rcases hb with rfl | rfl | rfl | rfl
        · exact Ne.symm n5
        · exact i1'
        · exact fun q => P.old (by rw [q]; exact P.new z (by simp))
        · exact Ne.symm n4
      · rcases hb with rfl | rfl | rfl | rfl
        · exact Ne.symm n16
        · exact i3'
        · exact fun q => P.old (by rw [q]; exact P.new TO (by simp))
        · exact Ne.symm n15
    have lne : ∀ b ∈ [z, TI, TO, i1, a, C, D, Cc], l ≠ b := fun b hb q => P.old (by rw [q]; exact P.new b hb)
    refine wpAny_mono (?_ : wpAny (model prog w) A.in1 (Builtin.«zip.__next__» ⟨[.ref z], []⟩) (fun fin s' => ∃ v, fin = .done (.ret v) ∧ Q (some v) s') No s) (fun fin s' q => ?_) (fun _ _ q => q.elim)
    · rcases Z.gen with ⟨hj0, hg, hgs, m0, hm0, hgr⟩ | ⟨I, hI, hI0, L⟩
      · subst hj0
        have lt : ∀ {b : Nat} {o : Obj}, s.heap.get? b = some o → s.heap.objs.size ≠ b := fun e => Nat.ne_of_gt (Heap.lt_size e)
        obtain ⟨vs', hD, _⟩ := Z.acc
        obtain ⟨nD, hD⟩ := hD
        obtain ⟨mc, hCc⟩ := Z.ns
        obtain ⟨ol, hol, _⟩ := id hl
        have hI0 : s1.heap.get? s.heap.objs.size = none := by
          cases e : s1.heap.get? s.heap.objs.size with
          | none => rfl
          | some o => exact absurd rfl (lt (Z.le _ o e))
        refine item s.heap.objs.size ?_ hI0 fun sm Q' E' M cont => ?_
        · simp only [List.mem_cons, List.not_mem_nil, or_false, not_or]
          refine ⟨lt hz, lt Z.ti, lt hTO, lt Z.rng, ?_, ?_, lt hD, ?_, lt (Z.le _ _ hol)⟩
          · obtain ⟨o, _, _, ho, _⟩ := hg; exact lt ho
          · obtain ⟨o, es, ep, e, _⟩ := hm0; exact lt e
          · obtain ⟨o, es, ep, e, _⟩ := hCc; exact lt e
        · rw [← M.size] at cont
          refine next_first (A := A.in1) (h0 := s1.heap) (tail := tail) (vs := vs) (inf := inf) G0 (P.new C (by simp)) hh hroom (mle M) n23 (lne C (by simp)) Ru (hm0.at' fun o e => M.keep C o (Ne.symm n5) (Ne.symm n16) (Ne.symm n20) e) hgr (hl.at fun o e => mle M _ o e) (mgen M) (by rw [M.gens]; exact hgs) fun t s' z' L' => ?_
          exact cont _ s' z' ⟨t, rfl, L'⟩
      · refine item I hI hI0 fun sm Q' E' M cont => ?_
        simp only [List.mem_cons, List.not_mem_nil, or_false, not_or] at hI
        refine next_live (A := A.in1) (G0.keeps (mle M)) hh hroom (mle M) n23 (Ne.symm hI.2.2.2.2.1) (L.on M.gens fun b hb o e => M.keep b o ?_ ?_ ?_ e) hlt fun t s' z' L' => cont _ s' z' ⟨t, rfl, L'⟩
        · rcases hb with rfl | rfl | rfl | rfl
          · exact Ne.symm n5
          · exact hI.1
          · exact lne z (by simp)
          · exact Ne.symm n4
        · rcases hb with rfl | rfl | rfl | rfl
          · exact Ne.symm n16
          · exact hI.2.2.1
          · exact lne TO (by simp)
          · exact Ne.symm n15
        · rcases hb with rfl | rfl | rfl | rfl
          · exact Ne.symm n20
          · exact hI.2.2.2.1
          · exact lne i1 (by simp)
          · exact Ne.symm n19
    · obtain ⟨v, rfl, q⟩ := q
      exact ⟨v, rfl, wpAny_pure q⟩
  · have hjN : j = N := by omega
    have lne : ∀ b ∈ [z, TI, TO, i1, a, C, D, Cc], l ≠ b := fun b hb q => P.old (by rw [q]; exact P.new b hb)
    have fin : ∀ (e : Addr) (s' : Shared), (∃ o, s'.heap.get? e = some o ∧ o.cls = .type "StopIteration") → Q none s' → wpAny (model prog w) A (isInstance (.ref e) (.type "StopIteration") >>= fun b => if b = true then pure none else throw (.ref e)) Q E s' := fun e s' he q => by
      obtain ⟨o, ho, hc⟩ := he
      exact wpAny_bind (wpAny_isInstance (T := "StopIteration") (b := true) ⟨o, ho, hc⟩ isSubtype_stop (wpAny_pure q))
    refine wpAny_bind (wpAny_attempt (wpAny_callSpecial?_slot (name := Str.ofString "__next__") hT F.slot_zip_next
      (wpAny_call_entry F.slot_zip_next hT F.entry_zip_next ?_ (F.args_zip_next_1 _))))
    cases inf with
    | true =>
      have hkN := hk.1 rfl
      refine zipg_end1 (A := A.in1) hh (Ne.symm n1) (Ne.symm n2) (Ne.symm n3) hz Z.ti Z.rng (by omega) fun h' e kp he => ?_
      refine fin e { s with heap := h' } he (hend hjN _ rfl id fun b o hb _ q => kp b o ?_ ?_ q)
      · exact fun q => hb (by simp [q])
      · exact fun q => hb (by simp [q])
    | false =>
      have hkN := hk.2 rfl
      rcases Z.gen with ⟨hj0, _⟩ | ⟨I, hI, hI0, L⟩
      · have := Ru.rpos; omega
      · simp only [List.mem_cons, List.not_mem_nil, or_false, not_or] at hI
        refine zipg_end2 (A := A.in1) (W := [C, I]) (Ne.symm n1) (Ne.symm n2) (Ne.symm n3) n14 (by simp; exact ⟨n5, Ne.symm hI.1⟩) hz Z.ti hTO Z.rng (by omega) (fun sm Q' E' M cont => ?_) fun sm s2 h' e M Gz2 kp he => ?_
        · subst hjN
          refine next_end (A := A.in1) (G0.keeps (mle M)) (P.new C (by simp)) hI0 hh hroom (mle M) rfl (L.on M.gens fun b hb o e => M.keep b o ?_ ?_ ?_ e) fun s' e z' he => cont e s' z' he
          · rcases hb with rfl | rfl | rfl | rfl
            · exact Ne.symm n5
            · exact hI.1
            · exact lne z (by simp)
            · exact Ne.symm n4
          · rcases hb with rfl | rfl | rfl | rfl
            · exact Ne.symm n16
            · exact hI.2.2.1
            · exact lne TO (by simp)
            · exact Ne.symm n15
          · rcases hb with rfl | rfl | rfl | rfl
            · exact Ne.symm n20
            · exact hI.2.2.2.1
            · exact lne i1 (by simp)
            · exact Ne.symm n19
        · refine fin e { s2 with heap := h' } he (hend hjN _ (Gz2.os.trans M.os) (fun q => Gz2.bare (M.gens ▸ q)) fun b o hb hs q => ?_)
          simp only [List.mem_cons, List.not_mem_nil, or_false, not_or] at hb
          obtain ⟨b1, b2, b3, b4⟩ := hb
          have bI : b ≠ I := fun q => by
            subst q
            rcases hs with q | q
            · rw [hI0] at q; cases q
            · simp only [List.mem_cons, List.not_mem_nil, or_false] at q
              rcases q with q | q | q | q
              · exact hI.2.1 q
              · exact hI.2.2.2.2.1 q
              · exact hI.2.2.2.2.2.2.1 q
              · exact hI.2.2.2.2.2.2.2.1 q
          exact kp b o b1 (Gz2.keep b o (by simp; exact ⟨b4, bI⟩) (M.keep b o b1 b2 b3 q))
end
end Mine

end
section
-- G7
open PySem PySem.W PyProof.Rows PySem.Calls
namespace Mine
set_option maxRecDepth 100000
set_option maxHeartbeats 4000000
section
variable {prog : Program} {w : World} {A : Around} {s s1 : Shared} {z TI TO i1 a C D Cc l g : Nat} {pre tail : List Int} {N k : Nat} {inf : Bool} {vs : List Value}

theorem compLoopG {x y : Str} {px py tpos ep pos : Pos} {kk : Nat} {iter : Expr} {scope : Scope} {env : Env} {R : Shared → Prop} (G0 : Glb (HK w) s1.heap) (hh : A.handled = none) (hroom : A.depth < recursionLimit) (P : ZAp s1.heap z TI TO i1 a C D Cc l) (Ru : Ruler pre tail N inf vs) (hl : s1.heap.IsList l vs.toArray)
    (hk : (inf = true → k = N) ∧ (inf = false → N < k)) (hN : N ≤ 100) (Z : ZS prog w A.in1.in1 s1 z TI TO i1 a C D Cc l g pre N k inf 0 s) (hz : IsZip s.heap z TI TO .none)
    (hCc : env.locals = Cc) (hkf : env.scope.kind = .function) (hx : env.kindOf x = some .local) (hy : env.kindOf y = some .local) (hyd : (y == ("__debug__" : Str)) = false)
    (fin : ∀ s' ws m, s'.heap.PlainList D (ws : List Value).toArray → (∀ V, HasAll V ws ((List.range N).map fun i => .int (gval pre i))) → s'.heap.Ns Cc m → s'.os = s1.os → (AllBare s1.gens → AllBare s'.gens) → HLe s1.heap s'.heap → R s') :
    codeAny (model prog w) A (.compLoop (.ListComp (.Name y ep) [⟨.Tuple [.Name x px, .Name y py] kk tpos, iter, [], 0⟩] scope pos) 0 (.ref z) (.ref D) env) (fun r s' => r = .ok .next ∧ R s') s := by
  have nd := P.nd
  simp only [List.nodup_cons, List.mem_cons, List.not_mem_nil, or_false, not_or] at nd
  obtain ⟨⟨n1, n2, n3, n4, n5, n6, n7⟩, ⟨n8, n9, n10, n11, n12, n13⟩, ⟨n14, n15, n16, n17, n18⟩, ⟨n19, n20, n21, n22⟩, ⟨n23, n24, n25⟩, ⟨n26, n27⟩, n28, _⟩ := nd
  have new : ∀ {b : Addr} {o : Obj}, s1.heap.get? b = some o → b ∉ [z, TI, TO, i1, a, C, D, Cc] := fun {b o} e q => by rw [P.new b q] at e; cases e
  refine codeAny_loop rfl (fun n st => ∃ j, j ≤ N ∧ n = N + 1 - j ∧ ZS prog w A.in1.in1 s1 z TI TO i1 a C D Cc l g pre N k inf j st ∧ IsZip st.heap z TI TO .none) (fun n st hI => ?_) (N + 1) ⟨0, Nat.zero_le _, rfl, Z, hz⟩
  obtain ⟨j, hj, rfl, Z, hz⟩ := hI
  show wpAny _ A ((compTurn (.ListComp (.Name y ep) [⟨.Tuple [.Name x px, .Name y py] kk tpos, iter, [], 0⟩] scope pos) 0 (.ref z) (.ref D) env).onRaise (fun x => do noteFrame x env; theTreesLotGoes x)) _ _ st
  refine wpAny_noted ?_
  have heq : compTurn (.ListComp (.Name y ep) [⟨.Tuple [.Name x px, .Name y py] kk tpos, iter, [], 0⟩] scope pos) 0 (.ref z) (.ref D) env = (do
      standAt iter.pos
      match ← pyNext (.ref z) with
      | none => pure (.done .next)
      | some v =>
        letOwnedTupleGo (.Tuple [.Name x px, .Name y py] kk tpos) (.ref z) v
        assign (.Tuple [.Name x px, .Name y py] kk tpos) env v
        (do let _ ← call (.builtin "list.append") [.ref D, ← eval (.Name y ep) env])
        again (.compLoop (.ListComp (.Name y ep) [⟨.Tuple [.Name x px, .Name y py] kk tpos, iter, [], 0⟩] scope pos) 0 (.ref z) (.ref D) env)) := rfl
  rw [heq]
  obtain ⟨ws, hD, hws⟩ := Z.acc
  refine wpAny_bind (wpAny_standAt (wpAny_bind (zip_next G0 hh hroom P Ru hl hk hj Z hz (fun hlt T s' hz' hT hTO hr hos hb keep hI => ?_) fun hjN s' hos hb keep => ?_)))
  · obtain ⟨t, u, hT⟩ := hT
    have hTz : T ≠ z := fun q => by subst q; have e := congrArg Obj.cls (Option.some.inj (hz'.symm.trans hT)); simp at e
    refine wpAny_bind (wpAny_letOwnedTupleGo_zip hz' fun h1 hz1 hs1 => ?_)
    have hT1 : IsPair h1 T (.int j t) (.int (gval pre j) u) := hs1.extBut _ _ hTz hT
    have ht : IsTup h1 T #[.int j t, .int (gval pre j) u] := ⟨_, hT1, rfl, 0, rfl⟩
    obtain ⟨m, hm⟩ := Z.ns
    have hm' : s'.heap.Ns Cc m := hm.at' fun o e => keep Cc o (by simp; exact ⟨Ne.symm n7, Ne.symm n18, Ne.symm n22, Ne.symm n27⟩) (.inr (by simp)) e
    have hm1 : h1.Ns Cc m := hm'.sameBut hs1 (Ne.symm n7)
    have hlen : ws.length = j := by have := (hws (fun _ => none)).length; simpa using this
    refine wpAny_bind (assign_Tuple_tuple (hh := hh) ht rfl rfl fun h2 he2 => ?_)
    have hm2 : h2.Ns env.locals m := by rw [hCc]; exact hm1.at' fun o e => he2 _ o (Nat.ne_of_lt (Heap.lt_size e)) e
    refine assignInOrder_cons (PyProof.Rows.assign_Name (wpAny_storeName_local (m := m) hx hm2 (fun h3 hm3 hs3 => assignInOrder_cons (PyProof.Rows.assign_Name (wpAny_storeName_local hy hm3 (fun h4 hm4 hs4 => assignInOrder_nil ?_) (by rw [hkf]; rfl)))) (by rw [hkf]; rfl)))
    refine wpAny_bind (wpAny_bind (nN hm4 (if_pos rfl) ?_ hkf hy hyd))
    have k4 : ∀ b o, b ≠ z → b ≠ Cc → s'.heap.get? b = some o → h4.get? b = some o := fun b o b1 b2 e => hs4.extBut b o (hCc ▸ b2) (hs3.extBut b o (hCc ▸ b2) (by
      have e1 := hs1.extBut b o b1 e
      exact he2 b o (Nat.ne_of_lt (Heap.lt_size e1)) e1))
    have hD' : s'.heap.PlainList D ws.toArray := hD.at fun o e => keep D o (by simp; exact ⟨Ne.symm n6, Ne.symm n17, Ne.symm n21, Ne.symm n26⟩) (.inr (by simp)) e
    have hD4 : h4.PlainList D ws.toArray := hD'.at fun o e => k4 D o (Ne.symm n6) n28 e
    refine wpAny_bind (wpAny_list_append_plain (hsz := by simp [hlen]; exact Nat.le_trans hj (Nat.le_trans hN (by decide))) hD4 fun h5 hl5 hs5 => wpAny_pure (wpAny_pure ⟨rfl, N + 1 - (j + 1), by omega, j + 1, hlt, rfl, ?_, ?_⟩))
    · have k5 : ∀ b o, b ≠ z → b ≠ Cc → b ≠ D → s'.heap.get? b = some o → h5.get? b = some o := fun b o b1 b2 b3 e => hs5.extBut b o b3 (k4 b o b1 b2 e)
      obtain ⟨x0, y0, hTO⟩ := hTO
      obtain ⟨I, hI1, hI2, L⟩ := hI
      have hle : HLe s1.heap s'.heap := fun b o e => keep b o (fun q => new e (by
        simp only [List.mem_cons, List.not_mem_nil, or_false] at q ⊢
        rcases q with q | q | q | q <;> simp [q])) (.inl e) (Z.le b o e)
      refine ⟨hos.trans Z.os, fun q => hb (Z.bare q), fun b o e => k5 b o (fun q => new e (by simp [q])) (fun q => new e (by simp [q])) (fun q => new e (by simp [q])) (hle b o e), k5 TI _ (Ne.symm n1) n13 n12 (keep TI _ (by simp; exact ⟨Ne.symm n1, n8, n9, n11⟩) (.inr (by simp)) Z.ti), ⟨x0, y0, k5 TO _ (Ne.symm n2) n18 n17 hTO⟩, k5 i1 _ (Ne.symm n3) n22 n21 hr,
        ⟨ws ++ [.int (gval pre j) u], by simpa using hl5, fun V => ?_⟩, ⟨_, by rw [← hCc]; exact hm4.sameBut hs5 (by rw [hCc]; exact Ne.symm n28)⟩, .inr ⟨I, hI1, hI2, L.on rfl fun b hb o e => k5 b o ?_ ?_ ?_ e⟩⟩
      · rw [List.range_succ, List.map_append]
        exact (hws V).append (.cons (.int _ _) .nil)
      all_goals
        simp only [List.mem_cons, List.not_mem_nil, or_false, not_or] at hI1
        have lne : ∀ b ∈ [z, TI, TO, i1, a, C, D, Cc], l ≠ b := fun b hb q => P.old (by rw [q]; exact P.new b hb)
      · rcases hb with rfl | rfl | rfl | rfl
        · exact Ne.symm n5
        · exact hI1.1
        · exact lne z (by simp)
        · exact Ne.symm n4
      · rcases hb with rfl | rfl | rfl | rfl
        · exact n27
        · exact hI1.2.2.2.2.2.2.2.1
        · exact lne Cc (by simp)
        · exact n25
      · rcases hb with rfl | rfl | rfl | rfl
        · exact n26
        · exact hI1.2.2.2.2.2.2.1
        · exact lne D (by simp)
        · exact n24
    · exact hs5.extBut z _ n6 (hs4.extBut z _ (hCc ▸ n7) (hs3.extBut z _ (hCc ▸ n7) (he2 z _ (Nat.ne_of_lt (Heap.lt_size hz1)) hz1)))
  · subst hjN
    refine wpAny_pure ⟨rfl, ?_⟩
    have hD' : s'.heap.PlainList D ws.toArray := hD.at fun o e => keep D o (by simp; exact ⟨Ne.symm n6, Ne.symm n17, Ne.symm n21, Ne.symm n26⟩) (.inr (by simp)) e
    obtain ⟨m, hm⟩ := Z.ns
    refine fin s' ws m hD' hws (hm.at' fun o e => keep Cc o (by simp; exact ⟨Ne.symm n7, Ne.symm n18, Ne.symm n22, Ne.symm n27⟩) (.inr (by simp)) e) (hos.trans Z.os) (fun q => hb (Z.bare q)) fun b o e => keep b o (fun q => new e ?_) (.inl e) (Z.le b o e)
    simp only [List.mem_cons, List.not_mem_nil, or_false] at q ⊢
    rcases q with q | q | q | q <;> simp [q]
end
end Mine

end
section
-- G8
open PySem PySem.W PyProof.Rows PySem.Calls
namespace Mine
set_option maxRecDepth 100000
set_option maxHeartbeats 4000000
section
variable {prog : Program} {w : World} {A : Around} {s : Shared}

theorem nodup_nat (S C a h H : Nat) (h1 : C < a) (h2 : a < S) (h3 : h = S + 4) (h4 : H = h + 1) : [S + 3, S + 1, S + 2, S, a, C, h, H].Nodup := by
  simp; omega
theorem base_nat (n S C a h H : Nat) (h0 : n ≤ C) (h1 : C < a) (h2 : a < S) (h3 : h = S + 4) (h4 : H = h + 1) : ∀ b ∈ [S + 3, S + 1, S + 2, S, a, C, h, H], n ≤ b := by
  simp; omega
/-- a call of the generator's def -/
theorem gen_call {l : Addr} {Q : Value → Shared → Prop} {E : Value → Shared → Prop} (G : Glb (HK w) s.heap) (hroom : A.depth < recursionLimit)
    (h : ∀ s' a C m0, HLe s.heap s'.heap → s'.os = s.os → (AllBare s.gens → AllBare s'.gens) → s.heap.objs.size ≤ C → C < a → s'.heap.IsGen a s.gens.size → s'.gens[s.gens.size]? = some (.fresh (.func body21 (genv C))) →
      s'.heap.Ns C m0 → m0 (Str.ofString "grouping") = some (.ref l) → Q (.ref a) s') :
    wpAny (model prog w) A (call (.ref 21) [.ref l]) Q E s := by
  have ho : ∃ oc od osl, (HK w).lookup 21 = some ⟨oc, od, .func fd21, osl⟩ := ⟨_, _, _, rfl⟩
  obtain ⟨oc, od, osl, ho⟩ := ho
  have hbind : bindArgs fd21 ⟨[.ref l], []⟩ = pure [(Str.ofString "grouping", .ref l)] := rfl
  refine wpAny_call (codeAny_call_generator (body := body21) hroom (G.K _ _ ho) rfl rfl rfl rfl (codeRec_of G.K (by rfl)) ?_)
  rw [hbind]
  refine wpAny_pure ?_
  have hclo : fd21.closure = [] := rfl
  rw [hclo]
  refine wpAny_newFunctionEnv_cells rfl (fun x hx => .inl (by rw [List.mem_singleton.mp hx]; rfl)) fun env he s2 x => ?_
  subst he
  obtain ⟨h', tk, rfl, hk'⟩ := x.toInCall.done
  have hns := x.toInCall.ns
  have hlt : s.heap.objs.size < h'.objs.size := by obtain ⟨o, es, ep, e, _⟩ := hns; exact Heap.lt_size e
  refine ⟨G.nolimit.keeps hk', h _ h'.objs.size s.heap.objs.size _ (fun b o e => Heap.get?_push_of_some _ (hk' b o e)) rfl (fun q => q.push rfl) (Nat.le_refl _) hlt ⟨_, _, _, Heap.get?_push_size _ rfl, rfl, rfl, rfl⟩ (Array.getElem?_push_size ..) (hns.push _) rfl⟩

/-- the run's own change, as the generator is in it: what stood stands, and generators are left bare -/
theorem toldComp {x y told : Str} {px py tpos ep pos spos pt zp rp gp rlp cpos rpos gpos zpos : Pos} {kk ck : Nat} {scope : Scope} {cl : List (Str × Addr)} {env : Env} {s₀ : Shared} {m : Str → Option Value} {pre tail : List Int} {N k : Nat} {inf : Bool} {vs : List Value} {l : Addr} {Q : Flow → Shared → Prop} {E : Value → Shared → Prop} {X : List Addr}
    (G : Glb (HK w) s.heap) (hh : A.handled = none) (hroom : A.depth < recursionLimit) (c : Cx s₀ env.locals m s) (Ru : Ruler pre tail N inf vs) (hl : s.heap.IsList l vs.toArray)
    (hk : (inf = true → k = N) ∧ (inf = false → N < k)) (hN : N ≤ 100) (hk100 : k ≤ 100) (hX : Dom X s.heap) (hrul : m (Str.ofString "ruler") = some (.ref l))
    (hsw : swapsWith (.ListComp (.Name y ep) [⟨.Tuple [.Name x px, .Name y py] kk tpos, .Call (.Name (Str.ofString "zip") zp) [.Call (.Name (Str.ofString "range") rp) [.Constant (.int k) ck cpos] [] rpos, .Call (.Name (Str.ofString "_grouping_intervals") gp) [.Name (Str.ofString "ruler") rlp] [] gpos] [] zpos, [], 0⟩] scope pos) (some (.Name told pt)) spos.line env = pure true)
    (hclos : closureFor scope env = pure cl) (hsc : (scope.names.all fun y => y.2 != .cell) = true) (hkind : scope.kind = .function)
    (hnames : (scope.names.all fun y => y.2 != .local || decide (scope.names.lookup y.1 = some .local)) = true) 
    (hs : ∀ x, foldedSetIterable (.Call (.Name (Str.ofString "zip") zp) [.Call (.Name (Str.ofString "range") rp) [.Constant (.int k) ck cpos] [] rpos, .Call (.Name (Str.ofString "_grouping_intervals") gp) [.Name (Str.ofString "ruler") rlp] [] gpos] [] zpos) env x = pure x)
    (hst1 : starEach [.Call (.Name (Str.ofString "range") rp) [.Constant (.int k) ck cpos] [] rpos, .Call (.Name (Str.ofString "_grouping_intervals") gp) [.Name (Str.ofString "ruler") rlp] [] gpos] env = (false, eval (.Call (.Name (Str.ofString "range") rp) [.Constant (.int k) ck cpos] [] rpos) env) :: starEach [.Call (.Name (Str.ofString "_grouping_intervals") gp) [.Name (Str.ofString "ruler") rlp] [] gpos] env)
    (hst2 : starEach [.Call (.Name (Str.ofString "_grouping_intervals") gp) [.Name (Str.ofString "ruler") rlp] [] gpos] env = (false, eval (.Call (.Name (Str.ofString "_grouping_intervals") gp) [.Name (Str.ofString "ruler") rlp] [] gpos) env) :: starEach [] env)
    (hst3 : starEach [Expr.Constant (.int k) ck cpos] env = (false, eval (.Constant (.int k) ck cpos) env) :: starEach [] env) (hst4 : starEach [Expr.Name (Str.ofString "ruler") rlp] env = (false, eval (.Name (Str.ofString "ruler") rlp) env) :: starEach [] env)
    (hpl : (backTo zpos (starEach [.Call (.Name (Str.ofString "_grouping_intervals") gp) [.Name (Str.ofString "ruler") rlp] [] gpos] env)).any (·.1) = false) (hpl2 : (backTo rpos (starEach [] env)).any (·.1) = false)
    (rz : Rd prog w A env s.heap (Str.ofString "zip") (.type "zip")) (rr : Rd prog w A env s.heap (Str.ofString "range") (.type "range")) (hgg : env.globals = mainGlobals) (hkg : env.kindOf (Str.ofString "_grouping_intervals") = some .globalImplicit) (hrl : env.kindOf (Str.ofString "ruler") = some .local)
    (hcx : ∀ C, (compEnvC scope cl C env).scope.kind = .function ∧ (compEnvC scope cl C env).kindOf x = some .local ∧ (compEnvC scope cl C env).kindOf y = some .local) (hyd : (y == ("__debug__" : Str)) = false) 
    (hQ : ∀ r s', s'.os = s.os → (AllBare s.gens → AllBare s'.gens) → (∀ b o, b ≠ env.locals → s.heap.get? b = some o → s'.heap.get? b = some o) → s'.heap.Ns env.locals (upd m told r) → Has (vw s'.heap X) r (.list ((List.range N).map fun i => .int (gval pre i))) → Q .next s')
    (hy : env.kindOf told = some .local) (hkf : env.scope.kind = .function) :
    wpAny (model prog w) A (exec (.Assign [.Name told pt] (.ListComp (.Name y ep) [⟨.Tuple [.Name x px, .Name y py] kk tpos, .Call (.Name (Str.ofString "zip") zp) [.Call (.Name (Str.ofString "range") rp) [.Constant (.int k) ck cpos] [] rpos, .Call (.Name (Str.ofString "_grouping_intervals") gp) [.Name (Str.ofString "ruler") rlp] [] gpos] [] zpos, [], 0⟩] scope pos) spos) env) Q E s := by
  refine ok_any ?_
  rw [exec_Assign_Name_used _ _ _ _ hsw]
  refine wpAny_bind (wpAny_standAt (wpAny_bind ?_))
  show wpAny _ A (do let _ ← comprehension _ scope env _ (newList []) false (eval _ env) (some (assign (.Name told pt) env))) _ _ s
  refine wpAny_bind (wpAny_mono (wpAny_comprehension_free (use := some (assign (.Name told pt) env)) (Q := fun _ s' => Q .next s') rfl hs hclos hkind (fun y hy hl => ?_) ?_) (fun _ s' hq => wpAny_pure (wpAny_pure hq)) fun _ _ e => e)
  · have := List.all_eq_true.mp hnames y hy
    simpa [hl] using this
  refine wpAny_Call_NameR (rd rz rfl (Pv.callWith_type1 (spliced_more (wpAny_Call_NameR (rd rr rfl (Pv.callWith_type1 (spliced_more (wpAny_Constant_int (spliced_none (call_range_1 ?_))) hst3) hst3 hpl2))) hst1) hst1 hpl))
  generalize hR : ({ s with heap := s.heap.push { cls := .type "range", data := .fields #[.int 0 (s.toks + 1), .int k s.toks, .int 1 (s.toks + 1 + 1)] }, toks := s.toks + 1 + 1 + 1 } : Shared) = sR
  have hRr : IsRange sR.heap s.heap.objs.size 0 k 1 (s.toks + 1) s.toks (s.toks + 1 + 1) := by rw [← hR]; exact Heap.get?_push_size _ rfl
  have hRle : HLe s.heap sR.heap := by rw [← hR]; exact fun b o e => Heap.get?_push_of_some _ e
  have hRg : sR.gens = s.gens := by rw [← hR]
  have hRos : sR.os = s.os := by rw [← hR]
  have hRsz : sR.heap.objs.size = s.heap.objs.size + 1 := by rw [← hR]; exact Heap.size_push ..
  have hns : sR.heap.Ns env.locals m := c.ns.keeps hRle
  have GR : Glb (HK w) sR.heap := G.keeps hRle
  obtain ⟨oc, od, osl, ho⟩ : ∃ oc od osl, (HK w).lookup 21 = some ⟨oc, od, .func fd21, osl⟩ := ⟨_, _, _, rfl⟩
  show wpAny _ A _ _ _ sR
  refine spliced_more (wpAny_Call_NameR (nG (K := HK w) GR (v := .ref 21) rfl (callWith_def (o := ⟨oc, od, .func fd21, osl⟩) (fd := fd21) rfl (spliced_more (nN hns hrul (spliced_none ⟨GR.K _ _ ho, gen_call GR hroom fun s2 a C m0 hle2 hos2 hb2 hC2 hCa hgen hfresh hnsC hgr => ?_⟩) hkf hrl) hst4) hst4) hgg hkf hkg)) hst2
  refine spliced_none ?_
  have e := rangeSize_up (a := 0) (b := k) (n := k) (by omega)
  refine call_zip_rg (hle2 _ _ hRr) hgen (small_of e (by omega) (by omega) (by omega) (by omega) (by omega)) e fun h3 hz hTI hTO hr hsz3 hle3 => ?_
  refine wpAny_pyIter_zip hz ?_
  refine wpAny_newObj_type (wpAny_newFunctionEnv (fun x hx => by simpa using List.all_eq_true.mp hsc x hx) (by intro y hy; simp at hy) (fun h₁ hns₁ hsb₁ => ?_) hkind)
  dsimp only at hns₁ hsb₁ ⊢
  generalize hH2 : h3.push { cls := .type "list", dict := none, data := .seq ([] : List Value).toArray } = H2 at hns₁ hsb₁ ⊢
  have hC : H2.objs.size = h3.objs.size + 1 := by rw [← hH2, Heap.size_push]
  have hDC : h3.objs.size ≠ H2.objs.size := by rw [hC]; exact Nat.ne_of_lt (Nat.lt_succ_self _)
  have kp : HLe h3 h₁ := fun b o e => hsb₁.extBut b o (by rw [hC]; exact Nat.ne_of_lt (Nat.lt_succ_of_lt (Heap.lt_size e))) (Heap.get?_push_of_some _ (hH2 ▸ Heap.get?_push_of_some _ e))
  have hD₁ : h₁.get? h3.objs.size = some { cls := .type "list", dict := none, data := .seq ([] : List Value).toArray } := hsb₁.extBut _ _ hDC (Heap.get?_push_of_some _ (hH2 ▸ Heap.get?_push_size _ rfl))
  have hle : HLe s.heap h₁ := fun b o e => kp b o (hle3 b o (hle2 b o (hRle b o e)))
  have ha2 : a < s2.heap.objs.size := by obtain ⟨o, _, _, ho, _⟩ := hgen; exact Heap.lt_size ho
  have nw : ∀ {b : Nat}, s.heap.objs.size ≤ b → s.heap.get? b = none := fun hb => Heap.get?_none_of_le hb
  have hlold : s.heap.get? l ≠ none := by obtain ⟨o, ho, _⟩ := hl; exact ne_none_of ho
  have P : ZAp s.heap (s2.heap.objs.size + 3) (s2.heap.objs.size + 1) (s2.heap.objs.size + 2) s2.heap.objs.size a C h3.objs.size H2.objs.size l := by
    refine ⟨nodup_nat _ _ _ _ _ hCa ha2 hsz3 hC, fun b hb => nw (base_nat _ _ _ _ _ _ ?_ hCa ha2 hsz3 hC b hb), hlold⟩
    exact Nat.le_trans (Nat.le_of_lt (by rw [hRsz]; exact Nat.lt_succ_self _)) hC2
  show codeAny _ A (.compStart _ 0 (.ref (s2.heap.objs.size + 3)) (.ref h3.objs.size) (compEnvC scope cl H2.objs.size env)) _ _
  obtain ⟨hx1, hx2, hx3⟩ := hcx H2.objs.size
  have hzf : IsZip h₁ (s2.heap.objs.size + 3) (s2.heap.objs.size + 1) (s2.heap.objs.size + 2) .none := kp _ _ hz
  refine codeAny_mono (compStart_ rfl rfl (compLoopG (s1 := s) (g := sR.gens.size) (k := k) (inf := inf) (C := C) (a := a) (R := fun s' => compPost (model prog w) A No (some (assign (.Name told pt) env)) (fun _ s' => Q .next s') (.ref h3.objs.size) H2.objs.size (.ok .next) s') G hh hroom P Ru hl hk hN ?_ hzf rfl hx1 hx2 hx3 hyd ?_) fun Q E q => wpAny_pyIter_zip hzf q) (fun r s' q => by obtain ⟨rfl, q⟩ := q; exact q)
  · refine ⟨hos2.trans hRos, fun q => hb2 (hRg ▸ q), hle, kp _ _ hTI, ⟨_, _, kp _ _ hTO⟩, by simpa using kp _ _ hr, ⟨[], ⟨_, hD₁⟩, fun V => .nil⟩, ⟨_, hns₁⟩, .inl ⟨rfl, ?_, hfresh, m0, hnsC.keeps fun b o e => kp b o (hle3 b o e), hgr⟩⟩
    obtain ⟨o, nm, qn, ho, r⟩ := hgen
    exact ⟨o, nm, qn, kp _ _ (hle3 _ _ ho), r⟩
  · intro s' ws mC hD hws hn hos hb hle'
    show wpAny _ A (assign (.Name told pt) env (.ref h3.objs.size)) _ _ _
    have hLlt : env.locals < s.heap.objs.size := by obtain ⟨o, es, ep, e, _⟩ := c.ns; exact Heap.lt_size e
    have hsz : s.heap.objs.size < h3.objs.size := by omega
    have hsH : s.heap.objs.size < H2.objs.size := by omega
    have hLC : H2.objs.size ≠ env.locals := Nat.ne_of_gt (Nat.lt_trans hLlt hsH)
    have hLD : h3.objs.size ≠ env.locals := Nat.ne_of_gt (Nat.lt_trans hLlt hsz)
    refine PyProof.Rows.assign_Name (wpAny_storeName_local (m := m) hy (c.ns.keeps hle') (fun h5 hn5 hs5 => ⟨mC, hn.sameBut hs5 hLC, fun h' hs' => ?_⟩) (by rw [hkf]; rfl))
    obtain ⟨nD, hD⟩ := hD
    refine hQ (.ref h3.objs.size) _ hos hb (fun b o hb e => hs'.extBut b o (fun q => ?_) (hs5.extBut b o hb (hle' b o e))) (hn5.sameBut hs' (Ne.symm hLC)) (.lst (n := nD) (vs := ws) (vw_some.mpr ⟨fun q => hX _ q (nw (by omega)), hs'.extBut _ _ hDC (hs5.extBut _ _ hLD hD), rfl⟩) (hws _))
    have h := Heap.lt_size e
    rw [q] at h
    exact absurd (Nat.lt_trans h hsH) (Nat.lt_irrefl _)
end
end Mine

end
section
-- C5a
open PySem PySem.W PyProof.Rows PySem.Calls
namespace Mine
set_option maxRecDepth 100000
set_option maxHeartbeats 4000000

noncomputable def fd54 : FuncData := ({ val := _, property := fun _ => rfl } : { fd // ∀ P, fdOf (HX.hd.heap_39 P) 54 = fd }).val
noncomputable def body54 : List Stmt := match fd54.body with | .stmts b => b | _ => []

/-- a step's length -/
noncomputable def pw (n : Nat) : Int := 2 ^ (n % 3)
noncomputable def rulerL (kind : Nat) (a b c : Int) : List Int := match kind with
  | 0 => [a, 0, b] | 1 => [a, 127, b] | 2 => [a, b, 0, c] | _ => [a, b, c]
noncomputable def dueL (kind : Nat) (a b c : Int) : List Int := match kind with
  | 0 => [a, a, a, a] | 1 => [a] | 2 => [a, b, b, b] | _ => [a, b, c]
theorem pw_pos (n : Nat) : pw n = 1 ∨ pw n = 2 ∨ pw n = 4 := by
  unfold pw
  have : n % 3 = 0 ∨ n % 3 = 1 ∨ n % 3 = 2 := by omega
  rcases this with h | h | h <;> rw [h] <;> simp

theorem IE.pw {prog : Program} {w : World} {A : Around} {env : Env} {h : Heap} {e : Expr} {k k2 : Nat} {p1 p2 p3 p4 : Pos} {n : Nat} (x : IE prog w A env h e n) : IE prog w A env h (.BinOp (.Constant (.int 2) k p1) .Pow (.BinOp e .Mod (.Constant (.int 3) k2 p2) p3) p4) (pw n) := by
  refine (IE.pow .const (x.nmod (k := 3) (by decide)) (by omega) ?_).cast ?_
  · have h3 : n % 3 = 0 ∨ n % 3 = 1 ∨ n % 3 = 2 := by omega
    rcases h3 with q | q | q <;> rw [q] <;> decide +kernel
  · rw [Int.toNat_natCast]; rfl

noncomputable def preL (kind : Nat) (a b c : Int) : List Int := match kind with | 0 => [a] | 1 => [a] | 2 => [a, b] | _ => [a, b, c]
noncomputable def tailL (kind : Nat) (a b c : Int) : List Int := match kind with | 0 => [0, b] | 1 => [127, b] | 2 => [0, c] | _ => []
noncomputable def NL (kind : Nat) : Nat := match kind with | 0 => 4 | 1 => 1 | 2 => 4 | _ => 3
noncomputable def infL (kind : Nat) : Bool := match kind with | 0 => true | 1 => false | 2 => true | _ => false
theorem ruler_of {kind : Nat} {one two three : Int} {vs : List Value} (hkd : kind < 4)
    (o1 : one = 1 ∨ one = 2 ∨ one = 4) (o2 : two = 1 ∨ two = 2 ∨ two = 4) (o3 : three = 1 ∨ three = 2 ∨ three = 4) (hA : HasAll (fun _ => none) vs ((rulerL kind one two three).map .int)) :
    Ruler (preL kind one two three) (tailL kind one two three) (NL kind) (infL kind) vs := by
  have hk : kind = 0 ∨ kind = 1 ∨ kind = 2 ∨ kind = 3 := by omega
  have e : rulerL kind one two three = preL kind one two three ++ tailL kind one two three := by rcases hk with rfl | rfl | rfl | rfl <;> rfl
  rw [e] at hA
  refine ⟨?_, ?_, ?_, ?_, ?_, ?_⟩
  · rcases hk with rfl | rfl | rfl | rfl <;> simp [preL] <;> omega
  · intro i x hx
    obtain ⟨v, hv, hh⟩ := hA.at (k := i) (d := .int x) (by rw [List.getElem?_map, hx]; rfl)
    obtain ⟨t, rfl⟩ := hh.int_inv
    exact ⟨t, hv⟩
  · have := hA.length; simpa using this
  · rcases hk with rfl | rfl | rfl | rfl <;> simp [infL, NL, preL, tailL]
  · rcases hk with rfl | rfl | rfl | rfl <;> simp [infL, NL, preL, tailL]
  · rcases hk with rfl | rfl | rfl | rfl <;> simp [NL]
theorem due_of {kind : Nat} {one two three : Int} (hkd : kind < 4) : (List.range (NL kind)).map (fun i => Dat.int (gval (preL kind one two three) i)) = (dueL kind one two three).map .int := by
  have hk : kind = 0 ∨ kind = 1 ∨ kind = 2 ∨ kind = 3 := by omega
  rcases hk with rfl | rfl | rfl | rfl <;> rfl
theorem sizes_told {prog : Program} {w : World} {A : Around} {s s3 : Shared} {L : Addr} {X : List Addr} {kind : Nat} {one two three : Int} {rv dv : Value} {m3 : Str → Option Value} (G : Glb (HK w) s.heap) (r0 : Rm A 2) (hX : Dom X s.heap) (c3 : Cx s L m3 s3) (hkd : kind < 4)
    (o1 : one = 1 ∨ one = 2 ∨ one = 4) (o2 : two = 1 ∨ two = 2 ∨ two = 4) (o3 : three = 1 ∨ three = 2 ∨ three = 4)
    (er : m3 (Str.ofString "ruler") = some rv) (hv : Has (vw s3.heap X) rv (.list ((rulerL kind one two three).map .int))) (ed : m3 (Str.ofString "due") = some dv) (hd : Has (vw s3.heap X) dv (.list ((dueL kind one two three).map .int))) :
    wpAny (model prog w) A (execs (body54.drop 4) (callEnvC fd54 L 54)) (fun fl s' => Chg [] s s' ∧
      Has (vw s'.heap X) (match fl with | .ret v => v | _ => .none) (.tuple [.list ((dueL kind one two three).map .int), .list ((dueL kind one two three).map .int)])) No s3 := by
  obtain ⟨l, vs, n, rfl, hV, hA⟩ := hv.lst_inv
  obtain ⟨_, hl, _⟩ := vw_some.mp hV
  have Ru := ruler_of hkd o1 o2 o3 (hA.flat (flat_ints _))
  have hX3 : Dom X s3.heap := hX.chg c3.chg
  refine wpAny_execs_cons ?_
  refine toldComp (X := X) (vs := vs) (s₀ := s) (m := m3) (k := 4) (N := NL kind) (inf := infL kind) (G.cx c3) r0.hd (Nat.lt_of_le_of_lt (Nat.le_add_right _ _) r0.dep) c3 Ru ⟨_, hl, rfl, n, rfl⟩ ?_ ?_ (by decide) hX3 er (by rfl) (by rfl) (by rfl) (by rfl) (by rfl) (by intro _; rfl) (by kernel_rfl) (by kernel_rfl) (by kernel_rfl) (by kernel_rfl) (by rfl) (by rfl) (.bi (G.cx c3) rfl rfl (by decide)) (.bi (G.cx c3) rfl rfl (by decide)) rfl rfl rfl (fun _ => ⟨rfl, rfl, rfl⟩) (by decide) ?_ rfl rfl
  · have hk : kind = 0 ∨ kind = 1 ∨ kind = 2 ∨ kind = 3 := by omega
    rcases hk with rfl | rfl | rfl | rfl <;> decide
  · have hk : kind = 0 ∨ kind = 1 ∨ kind = 2 ∨ kind = 3 := by omega
    rcases hk with rfl | rfl | rfl | rfl <;> decide
  · intro r s' hos hb keep hns hr
    have hL : (callEnvC fd54 L 54).locals = L := rfl
    have ch : Chg [L] s3 s' := .mk4 hos hb (fun b o hb e => keep b o (fun q => hb (by rw [q]; exact .head _)) e) (fun b e => by
      by_cases q : b = L
      · rw [q]; exact ns_dom hns
      · cases e' : s3.heap.get? b with
        | none => exact absurd e' e
        | some o => rw [keep b o q e']; exact nofun)
    have cN : Cx s L (upd m3 (Str.ofString "told") r) s' := c3.of_ns ch hns
    have hr' : Has (vw s'.heap X) r (.list ((dueL kind one two three).map .int)) := by rw [← due_of hkd]; exact hr
    have hd' : Has (vw s'.heap X) dv (.list ((dueL kind one two three).map .int)) := hd.mono (ch.vleN fun b hb => .inr (by rw [List.mem_singleton.mp hb]; exact .of_ns c3.ns))
    refine wpAny_execs_cons ?_
    refine wpAny_Return_some ?_
    refine Tuple_ ?_
    refine spliced_more (nL cN upd_eq (spliced_more (nL cN (upd_ne (by decide) ed) (spliced_none ?_))))
    exact tupN (hX.chg cN.chg) (.cons hr' (.cons hd' .nil)) (by simp) fun v s'' c2 hv2 => ⟨cN.chg.trans c2, hv2⟩
end Mine

end
section
-- C5b
open PySem PySem.W PyProof.Rows PySem.Calls
namespace Mine
set_option maxRecDepth 100000
set_option maxHeartbeats 4000000
theorem sizes_due {prog : Program} {w : World} {A : Around} {s s3 : Shared} {L : Addr} {X : List Addr} {kind : Nat} {one two three : Int} {t1 t2 t3 t4 : Tok} {rv : Value} {m3 : Str → Option Value} (G : Glb (HK w) s.heap) (r0 : Rm A 2) (hX : Dom X s.heap) (c3 : Cx s L m3 s3) (hkd : kind < 4)
    (o1 : one = 1 ∨ one = 2 ∨ one = 4) (o2 : two = 1 ∨ two = 2 ∨ two = 4) (o3 : three = 1 ∨ three = 2 ∨ three = 4)
    (e1 : m3 (Str.ofString "one") = some (.int one t1)) (e2 : m3 (Str.ofString "two") = some (.int two t2)) (e3 : m3 (Str.ofString "three") = some (.int three t3)) (e4 : m3 (Str.ofString "kind") = some (.int kind t4))
    (er : m3 (Str.ofString "ruler") = some rv) (hv : Has (vw s3.heap X) rv (.list ((rulerL kind one two three).map .int))) :
    wpAny (model prog w) A (execs (body54.drop 3) (callEnvC fd54 L 54)) (fun fl s' => Chg [] s s' ∧
      Has (vw s'.heap X) (match fl with | .ret v => v | _ => .none) (.tuple [.list ((dueL kind one two three).map .int), .list ((dueL kind one two three).map .int)])) No s3 := by
  have hX3 : Dom X s3.heap := hX.chg c3.chg
  refine wpAny_execs_cons ?_
  refine wpAny_Assign_Name ?_
  refine itemD (X := X) (i := kind) (ds := [.list ((dueL 0 one two three).map .int), .list ((dueL 1 one two three).map .int), .list ((dueL 2 one two three).map .int), .list ((dueL 3 one two three).map .int)]) (d := .list ((dueL kind one two three).map .int)) ?_ (by omega) ?_ (by simp)
  · have i1 : ∀ {s' : Shared}, Chg [] s3 s' → ∀ {p : Pos}, IE prog w A (callEnvC fd54 L 54) s'.heap (.Name (Str.ofString "one") p) one := fun {s'} a {p} => .name (.loc (c3.on a) e1)
    have i2 : ∀ {s' : Shared}, Chg [] s3 s' → ∀ {p : Pos}, IE prog w A (callEnvC fd54 L 54) s'.heap (.Name (Str.ofString "two") p) two := fun {s'} a {p} => .name (.loc (c3.on a) e2)
    have i3 : ∀ {s' : Shared}, Chg [] s3 s' → ∀ {p : Pos}, IE prog w A (callEnvC fd54 L 54) s'.heap (.Name (Str.ofString "three") p) three := fun {s'} a {p} => .name (.loc (c3.on a) e3)
    refine Tuple_ ?_
    refine spliced_more (he := by kernel_rfl) ?_
    refine wpAny_BinOp ?_
    refine listIE (X := X) (ns := [one]) hX3 (.cons (i1 (.refl _ _)) .nil) (by simp) (by kernel_rfl) fun a0 s0' g0 _ h0 => wpAny_Constant_int ?_
    refine mulL (s := { s0' with toks := s0'.toks + 1 }) ((hX3.chg g0).chg (Chg.toks (X := []))) h0 (by decide) (by decide) (by simp) fun a1 s4 g4x _ h4 => ?_
    have g4 : Chg [] s3 s4 := g0.trans (Chg.toks.trans g4x)
    refine spliced_more (he := by kernel_rfl) ?_
    refine listIE (X := X) (ns := dueL 1 one two three) (hX3.chg g4) (.cons (i1 g4) .nil) (by simp [dueL]) (by kernel_rfl) fun a2 s5 g5 _ h5 => ?_
    have g5' := g4.trans g5
    refine spliced_more (he := by kernel_rfl) ?_
    refine listIE (X := X) (ns := dueL 2 one two three) (hX3.chg g5') (.cons (i1 g5') (.cons (i2 g5') (.cons (i2 g5') (.cons (i2 g5') .nil)))) (by simp [dueL]) (by kernel_rfl) fun a3 s6 g6 _ h6 => ?_
    have g6' := g5'.trans g6
    refine spliced_more (he := by kernel_rfl) ?_
    refine listIE (X := X) (ns := dueL 3 one two three) (hX3.chg g6') (.cons (i1 g6') (.cons (i2 g6') (.cons (i3 g6') .nil))) (by simp [dueL]) (by kernel_rfl) fun a4 s7 g7 _ h7 => spliced_none ?_
    have g7' := g6'.trans g7
    have h4' : Has (vw s4.heap X) (.ref a1) (.list ((dueL 0 one two three).map .int)) := by simpa [dueL, List.replicate] using h4
    refine tupN (hX3.chg g7') (.cons (h4'.mono (g5.trans (g6.trans g7)).nil.vle) (.cons (h5.mono (g6.trans g7).nil.vle) (.cons (h6.mono g7.nil.vle) (.cons h7 .nil)))) (by simp) fun r s8 g8 hr => ⟨hr, ?_, fun v k hdv => ?_⟩
    · exact .name (.loc (c3.on (g7'.trans g8)) e4)
    · have g8' := (g7'.trans g8).trans (Chg.toks (X := []) (t := k))
      refine sL (c3.on g8') fun s9 g9 v9 c9 => ?_
      have hv9 : Has (vw s9.heap X) rv (.list ((rulerL kind one two three).map .int)) := (hv.mono g8'.nil.vle).mono (v9 X)
      have hd9 : Has (vw s9.heap X) v (.list ((dueL kind one two three).map .int)) := hdv.mono (v9 X)
      exact sizes_told G r0 hX c9 hkd o1 o2 o3 (upd_ne (by decide) er) hv9 upd_eq hd9
  · have : kind = 0 ∨ kind = 1 ∨ kind = 2 ∨ kind = 3 := by omega
    rcases this with rfl | rfl | rfl | rfl <;> rfl

theorem sizes_rest {prog : Program} {w : World} {A : Around} {s s3 : Shared} {L : Addr} {X : List Addr} {kind : Nat} {one two three : Int} {t1 t2 t3 t4 : Tok} {m3 : Str → Option Value} (G : Glb (HK w) s.heap) (r0 : Rm A 2) (hX : Dom X s.heap) (c3 : Cx s L m3 s3) (hkd : kind < 4)
    (o1 : one = 1 ∨ one = 2 ∨ one = 4) (o2 : two = 1 ∨ two = 2 ∨ two = 4) (o3 : three = 1 ∨ three = 2 ∨ three = 4)
    (e1 : m3 (Str.ofString "one") = some (.int one t1)) (e2 : m3 (Str.ofString "two") = some (.int two t2)) (e3 : m3 (Str.ofString "three") = some (.int three t3)) (e4 : m3 (Str.ofString "kind") = some (.int kind t4)) :
    wpAny (model prog w) A (execs (body54.drop 2) (callEnvC fd54 L 54)) (fun fl s' => Chg [] s s' ∧
      Has (vw s'.heap X) (match fl with | .ret v => v | _ => .none) (.tuple [.list ((dueL kind one two three).map .int), .list ((dueL kind one two three).map .int)])) No s3 := by
  have hX3 : Dom X s3.heap := hX.chg c3.chg
  refine wpAny_execs_cons ?_
  refine wpAny_Assign_Name ?_
  refine itemD (X := X) (i := kind) (ds := [.list ((rulerL 0 one two three).map .int), .list ((rulerL 1 one two three).map .int), .list ((rulerL 2 one two three).map .int), .list ((rulerL 3 one two three).map .int)]) (d := .list ((rulerL kind one two three).map .int)) ?_ (by omega) ?_ (by simp)
  · have i1 : ∀ {s' : Shared}, Chg [] s3 s' → ∀ {p : Pos}, IE prog w A (callEnvC fd54 L 54) s'.heap (.Name (Str.ofString "one") p) one := fun {s'} a {p} => .name (.loc (c3.on a) e1)
    have i2 : ∀ {s' : Shared}, Chg [] s3 s' → ∀ {p : Pos}, IE prog w A (callEnvC fd54 L 54) s'.heap (.Name (Str.ofString "two") p) two := fun {s'} a {p} => .name (.loc (c3.on a) e2)
    have i3 : ∀ {s' : Shared}, Chg [] s3 s' → ∀ {p : Pos}, IE prog w A (callEnvC fd54 L 54) s'.heap (.Name (Str.ofString "three") p) three := fun {s'} a {p} => .name (.loc (c3.on a) e3)
    refine Tuple_ ?_
    refine spliced_more (he := by kernel_rfl) ?_
    refine listIE (X := X) (ns := rulerL 0 one two three) hX3 (.cons (i1 (.refl _ _)) (.cons .const (.cons (i2 (.refl _ _)) .nil))) (by simp [rulerL]) (by kernel_rfl) fun a1 s4 g4 _ h4 => ?_
    refine spliced_more (he := by kernel_rfl) ?_
    refine listIE (X := X) (ns := rulerL 1 one two three) (hX3.chg g4) (.cons (i1 g4) (.cons .const (.cons (i2 g4) .nil))) (by simp [rulerL]) (by kernel_rfl) fun a2 s5 g5 _ h5 => ?_
    have g5' := g4.trans g5
    refine spliced_more (he := by kernel_rfl) ?_
    refine listIE (X := X) (ns := rulerL 2 one two three) (hX3.chg g5') (.cons (i1 g5') (.cons (i2 g5') (.cons .const (.cons (i3 g5') .nil)))) (by simp [rulerL]) (by kernel_rfl) fun a3 s6 g6 _ h6 => ?_
    have g6' := g5'.trans g6
    refine spliced_more (he := by kernel_rfl) ?_
    refine listIE (X := X) (ns := rulerL 3 one two three) (hX3.chg g6') (.cons (i1 g6') (.cons (i2 g6') (.cons (i3 g6') .nil))) (by simp [rulerL]) (by kernel_rfl) fun a4 s7 g7 _ h7 => spliced_none ?_
    have g7' := g6'.trans g7
    refine tupN (hX3.chg g7') (.cons (h4.mono (g5.trans (g6.trans g7)).nil.vle) (.cons (h5.mono (g6.trans g7).nil.vle) (.cons (h6.mono g7.nil.vle) (.cons h7 .nil)))) (by simp) fun r s8 g8 hr => ⟨hr, ?_, fun v k hv => ?_⟩
    · exact .name (.loc (c3.on (g7'.trans g8)) e4)
    · refine sL (c3.on ((g7'.trans g8).trans (Chg.toks (t := k)))) fun s9 g9 v9 c9 => ?_
      have hv9 : Has (vw s9.heap X) v (.list ((rulerL kind one two three).map .int)) := hv.mono (v9 X)
      have hX9 : Dom X s9.heap := hX.chg c9.chg
      exact sizes_due G r0 hX c9 hkd o1 o2 o3 (upd_ne (by decide) e1) (upd_ne (by decide) e2) (upd_ne (by decide) e3) (upd_ne (by decide) e4) upd_eq hv9
  · have : kind = 0 ∨ kind = 1 ∨ kind = 2 ∨ kind = 3 := by omega
    rcases this with rfl | rfl | rfl | rfl <;> rfl

theorem sizes_spec {prog : Program} {w : World} {A : Around} {s : Shared} {X : List Addr} {v : Value} {d0 d1 d2 : Nat} (G : Glb (HK w) s.heap) (r : Rm A 3) (hX : Dom X s.heap) (hv : Has (vw s.heap X) v (.list [.int d0, .int d1, .int d2])) :
    wpAny (model prog w) A (call (.ref 54) [v]) (fun r s' => Chg [] s s' ∧
      Has (vw s'.heap X) r (.tuple [.list ((dueL (d0 / 6 % 4) (pw d1) (pw d2) (pw (d2 / 3))).map .int), .list ((dueL (d0 / 6 % 4) (pw d1) (pw d2) (pw (d2 / 3))).map .int)])) No s := by
  refine enter fd54 [(Str.ofString "draws", v)] (body := body54) G ⟨_, _, _, rfl⟩ rfl (by rfl) r rfl rfl (by rfl) (by rfl) ?_
  intro L s₁ A' hL r' c ce
  have hv1 : Has (vw s₁.heap X) v (.list [.int d0, .int d1, .int d2]) := hv.mono c.chg.nil.vle
  have hX1 : Dom X s₁.heap := hX.chg c.chg
  refine wpAny_execs_cons ?_
  refine swap3 (s₀ := s) (m := bindL (callEnvC fd54 L 54).kindOf [(Str.ofString "draws", v)] nones) r'.hd ?_
  have rdr : Rd prog w A' (callEnvC fd54 L 54) s₁.heap (Str.ofString "draws") v := .loc (env := callEnvC fd54 L 54) c rfl
  refine (IE.pw (.nth (i := 1) (n := d1) rdr hv1 (by decide) rfl)).run s₁ _ _ rfl fun t1 k1 => ?_
  refine (IE.pw (.nth (i := 2) (n := d2) rdr hv1 (by decide) rfl)).run _ _ _ rfl fun t2 k2 => ?_
  refine (IE.pw (.ndiv (k := 3) (.nth (i := 2) (n := d2) rdr hv1 (by decide) rfl) (by decide) (by decide))).run _ _ _ rfl fun t3 k3 => ?_
  refine ⟨c.on .toks, fun s2 g2 v2 c2 => ?_⟩
  have hv2 : Has (vw s2.heap X) v (.list [.int d0, .int d1, .int d2]) := hv1.mono (v2 X)
  refine wpAny_execs_cons ?_
  refine wpAny_Assign_Name ?_
  refine (IE.nmod (k := 4) (.ndiv (k := 6) (.nth (i := 0) (n := d0) (.loc c2 (upd_ne (by decide) (upd_ne (by decide) (upd_ne (by decide) rfl)))) hv2 (by decide) rfl) (by decide) (by decide)) (by decide)).run s2 _ _ rfl fun t4 k4 => ?_
  refine sL (c2.on .toks) fun s3 g3 v3 c3 => ?_
  have q1 := c3
  generalize hm3 : upd (upd (upd (upd (bindL (callEnvC fd54 L 54).kindOf [(Str.ofString "draws", v)] nones) (Str.ofString "three") (.int (pw (d2 / 3)) t3)) (Str.ofString "two") (.int (pw d2) t2)) (Str.ofString "one") (.int (pw d1) t1)) (Str.ofString "kind") (.int ((d0 / 6 % 4 : Nat) : Int) t4) = m3 at c3
  have e1 : m3 (Str.ofString "one") = some (.int (pw d1) t1) := by rw [← hm3]; exact upd_ne (by decide) upd_eq
  have e2 : m3 (Str.ofString "two") = some (.int (pw d2) t2) := by rw [← hm3]; exact upd_ne (by decide) (upd_ne (by decide) upd_eq)
  have e3 : m3 (Str.ofString "three") = some (.int (pw (d2 / 3)) t3) := by rw [← hm3]; exact upd_ne (by decide) (upd_ne (by decide) (upd_ne (by decide) upd_eq))
  have e4 : m3 (Str.ofString "kind") = some (.int ((d0 / 6 % 4 : Nat) : Int) t4) := by rw [← hm3]; exact upd_eq
  clear q1 hm3 g2 v2 c2 hv2 g3 v3
  exact sizes_rest G r' hX c3 (Nat.mod_lt _ (by decide)) (pw_pos d1) (pw_pos d2) (pw_pos (d2 / 3)) e1 e2 e3 e4
end Mine

end
section
-- C6
open PySem PySem.W PyProof.Rows PySem.Calls
namespace Mine
set_option maxRecDepth 100000
set_option maxHeartbeats 4000000

noncomputable def fd59 : FuncData := ({ val := _, property := fun _ => rfl } : { fd // ∀ P, fdOf (HX.hd.heap_39 P) 59 = fd }).val
noncomputable def body59 : List Stmt := match fd59.body with | .stmts b => b | _ => []

noncomputable def wordsL (stock : List Str) (weights : List Int) : Nat → List (Str × Int)
  | 0 => [(⟨#[]⟩, 1)]
  | n + 1 => (wordsL stock weights n).flatMap fun x => (stock.zip weights).map fun y => (x.1 ++ y.1, x.2 * y.2)
noncomputable def encP (x : Str × Int) : Dat := .tuple [.str x.1, .int x.2]

theorem wordsL_len {stock : List Str} {weights : List Int} (hsl : ∀ x ∈ stock, x.length ≤ 4) : ∀ n, ∀ x ∈ wordsL stock weights n, x.1.length ≤ 4 * n := by
  intro n
  induction n with
  | zero => intro x hx; rw [List.mem_singleton.mp hx]; exact Nat.le_refl _
  | succ n ih =>
    intro x hx
    obtain ⟨y, hy, hx⟩ := List.mem_flatMap.mp hx
    obtain ⟨z, hz, rfl⟩ := List.mem_map.mp hx
    have h1 := ih y hy
    have h2 := hsl z.1 (List.of_mem_zip hz).1
    have h3 : (y.1 ++ z.1).length = y.1.length + z.1.length := Array.size_append
    show (y.1 ++ z.1).length ≤ _
    omega
theorem flatMap_len_le {α β : Type} (f : α → List β) (k : Nat) : ∀ l : List α, (∀ x ∈ l, (f x).length ≤ k) → (l.flatMap f).length ≤ l.length * k
  | [], _ => by simp
  | x :: l, h => by
    rw [List.flatMap_cons, List.length_append, List.length_cons, Nat.add_mul, Nat.one_mul]
    have := flatMap_len_le f k l fun y hy => h y (List.mem_cons_of_mem _ hy)
    have := h x (List.mem_cons_self ..)
    omega
theorem wordsL_count {stock : List Str} {weights : List Int} (hl : stock.length ≤ 3) : ∀ n, (wordsL stock weights n).length ≤ 3 ^ n := by
  intro n
  induction n with
  | zero => exact Nat.le_refl _
  | succ n ih =>
    refine Nat.le_trans (flatMap_len_le _ 3 _ fun x _ => ?_) (by rw [Nat.pow_succ]; exact Nat.mul_le_mul_right 3 ih)
    rw [List.length_map, List.length_zip]; omega
theorem zipDat (stock : List Str) (weights : List Int) : ((stock.map Dat.str).zip (weights.map Dat.int)).map (fun p => Dat.tuple [p.1, p.2]) = (stock.zip weights).map encP := by
  rw [List.zip_map, List.map_map]; rfl
theorem cell_go {s s' : Shared} {c : Addr} {v : Option Value} {X : List Addr} (x : s.heap.IsCell c v) (a : Chw X s s') (h : c ∉ X) : s'.heap.IsCell c v := let ⟨o, ho, hd⟩ := x; ⟨o, a.keep c o h ho, hd⟩
theorem cell_on {s s' : Shared} {c : Addr} {v : Option Value} (x : s.heap.IsCell c v) (a : Chg [] s s') : s'.heap.IsCell c v := cell_go x a.toChw fun h => by cases h
theorem cell_ns {s s' : Shared} {c L : Addr} {v : Option Value} {m : Str → Option Value} (x : s.heap.IsCell c v) (n : s.heap.Ns L m) (a : Chg [L] s s') : s'.heap.IsCell c v := cell_go x a.toChw fun h => cell_ne_ns x n (List.mem_singleton.mp h)
theorem cell_fr {s s' st : Shared} {c : Addr} {v : Option Value} {Z : List Addr} (x : st.heap.IsCell c v) (y : s.heap.get? c ≠ none) (hz : ∀ b ∈ Z, s.heap.get? b = none) (a : Chw Z st s') : s'.heap.IsCell c v := cell_go x a fun h => y (hz c h)
/-- data of the caller, seen past addresses that did not stand there -/
theorem Has.past {s s' : Shared} {X X' : List Addr} {v : Value} {d : Dat} (h : Has (vw s.heap X) v d) (a : Chg [] s s') (hx : ∀ b ∈ X', b ∈ X ∨ s.heap.get? b = Option.none) : Has (vw s'.heap X') v d :=
  h.mono (Mine.vle (fun b hb => (hx b hb).imp id NoSeq.of_none) fun b o _ e => a.kp b o e)

theorem words_turn {prog : Program} {w : World} {A : Around} {s st : Shared} {L : Addr} {X X' : List Addr} {vs vw' v : Value} {stock : List Str} {weights : List Int} {i : Nat} {m : Str → Option Value} {Q : Flow → Shared → Prop} (G : Glb (HK w) s.heap) (hh : A.handled = none) (c : Cx s L m st)
    (k1 : st.heap.IsCell (L + 1) (some vs)) (k2 : st.heap.IsCell (L + 2) (some vw')) (hs : Has (vw s.heap X) vs (.list (stock.map .str))) (hw : Has (vw s.heap X) vw' (.list (weights.map .int)))
    (hd : Dom X' st.heap) (hx : ∀ b ∈ X', b ∈ X ∨ s.heap.get? b = none)
    (hi : i < 6) (hl : stock.length ≤ 3) (hsl : ∀ x ∈ stock, x.length ≤ 4) (hwb : ∀ x ∈ weights, Builtin.Int.intBits x ≤ 64)
    (e : m (Str.ofString "words") = some v) (hv : Has (vw st.heap X') v (.list ((wordsL stock weights i).map encP)))
    (hQ : ∀ r s', Chg [L] st s' → Cx s L (upd m (Str.ofString "words") r) s' → Has (vw s'.heap X') r (.list ((wordsL stock weights (i + 1)).map encP)) → Q .next s') :
    wpAny (model prog w) A (execs (match body59 with | [_, .For _ _ b _ _, _] => b | _ => []) (callEnvC fd59 L 59)) Q No st := by
  refine wpAny_execs_cons ?_
  refine assignComp2 (prog := prog) (w := w) (H := X') (xs := wordsL stock weights i) (enc := encP) (fun _ => stock.zip weights) encP (fun x y => encP (x.1 ++ y.1, x.2 * y.2)) (fun x m => ∃ t u, m (Str.ofString "text") = some (.str x.1 t) ∧ m (Str.ofString "times") = some (.int x.2 u)) 3 (env := callEnvC fd59 L 59) c rfl rfl rfl rfl rfl (fun _ => rfl) (fun _ _ => rfl) hd ?_ ?_ ?_ ?_ ?_ ?_
  · exact srcList hh hd fun Q hQ => nL (env := callEnvC fd59 L 59) c e (hQ v _ (.refl _ _) hv)
  · intro C X2 v2 s2 m2 x hC0 hC hH2 hfr hd2 hx2 g2 hn2 hv2
    refine unpack2N hh hn2 hv2 fun s3 v1 v2 g3 _ hn3 h1 h2 => ?_
    obtain ⟨t1, rfl⟩ := h1.str_inv
    obtain ⟨u1, rfl⟩ := h2.int_inv
    have q1 : s3.heap.IsCell (L + 1) (some vs) := cell_ns (cell_on k1 g2) hn2 g3
    have q2 : s3.heap.IsCell (L + 2) (some vw') := cell_ns (cell_on k2 g2) hn2 g3
    have g3' : Chg [C] s2 s3 := g3
    have gs : Chg [] st s3 := (g2.nil.trans g3').shrink fun b hb => .inr (by rw [List.mem_singleton.mp hb]; exact hC0)
    have G3 : Glb (HK w) s3.heap := (G.cx c).on gs
    have a3 : Chg [] s s3 := c.chg.trans gs
    have hfr' : ∀ b ∈ X2, b ∈ X ∨ s.heap.get? b = none := fun b hb => (hfr b hb).elim (hx b) fun q => .inr (Mine.back c.chg q)
    refine wpAny_Call_NameR ?_
    refine rd (.bi G3 rfl rfl (by decide)) rfl ?_
    refine Pv.callWith_type1 (spliced_more (he := by kernel_rfl) ?_) (by kernel_rfl) (by kernel_rfl)
    refine nC q1 ?_
    refine spliced_more (he := by kernel_rfl) ?_
    refine nC q2 (spliced_none ?_)
    refine iter_zip (d1 := stock.map .str) (d2 := weights.map .int) hh (hd2.chg g3') (hs.past a3 hfr') (hw.past a3 hfr') fun it s' hit => ⟨s3, g3', Eq.mp (congrArg (ItsAt prog w A _ X2 s3 it s') (zipDat stock weights)) hit, _, hn3.keeps hit.chg.kp, t1, u1, upd_ne (by decide) upd_eq, upd_eq⟩
  · intro C X2 v2 s2 m2 x y hC0 hC hH2 hfr hd2 hx2 hy2 g2 hn2 hN2 hv2
    obtain ⟨t, u, n1, n2⟩ := hN2
    refine unpack2N hh hn2 hv2 fun s3 v1 v2 g3 _ hn3 h1 h2 => ?_
    obtain ⟨t1, rfl⟩ := h1.str_inv
    obtain ⟨u1, rfl⟩ := h2.int_inv
    refine Tuple_ ?_
    refine spliced_more (he := by kernel_rfl) ?_
    refine wpAny_BinOp ?_
    have hyz := List.of_mem_zip (show (y.1, y.2) ∈ stock.zip weights from hy2)
    refine nN hn3 (upd_ne (by decide) (upd_ne (by decide) n1)) ?_
    refine nN hn3 (upd_ne (by decide) upd_eq) (add_str (fun t' tk => ?_) ?_)
    · refine spliced_more (he := by kernel_rfl) ?_
      refine wpAny_BinOp ?_
      refine nN hn3 (upd_ne (by decide) (upd_ne (by decide) n2)) ?_
      refine nN hn3 upd_eq (P.mul_int ?_ (IntMulOk.of_right (hwb _ hyz.2)))
      refine spliced_none ?_
      refine tupN (s := { s3 with toks := tk + 1 }) (hd2.chg (g3.trans .toks)) (.cons (.str _ _) (.cons (.int _ _) .nil)) (by simp) fun r s4 g4 hr => ⟨hr, g3.trans (Chg.toks.trans g4.nil), _, hn3.keeps g4.kp, t, u, upd_ne (by decide) (upd_ne (by decide) n1), upd_ne (by decide) (upd_ne (by decide) n2)⟩
    · have := wordsL_len (weights := weights) hsl i x hx2
      have := hsl _ hyz.1
      have : 1000 ≤ sizeLine := by decide
      omega
  · have h1 := flatMap_len_le (fun _ => stock.zip weights) 3 (wordsL stock weights i) fun _ _ => by rw [List.length_zip]; omega
    have h2 := wordsL_count (weights := weights) hl i
    have h3 : 3 ^ i ≤ 3 ^ 5 := Nat.pow_le_pow_right (by decide) (by omega)
    have : (3 : Nat) ^ 5 = 243 := rfl
    have : 1000 ≤ sizeLine := by decide
    omega
  · intro _ _; rw [List.length_zip]; omega
  · intro r s' g c' hr
    refine wpAny_execs_nil (hQ r s' g c' ?_)
    have : (wordsL stock weights (i + 1)).map encP = (wordsL stock weights i).flatMap fun x => (stock.zip weights).map fun y => encP (x.1 ++ y.1, x.2 * y.2) := by
      show List.map _ (List.flatMap _ _) = _
      rw [List.map_flatMap]; congr 1; funext x; rw [List.map_map]; rfl
    rw [this]; exact hr

theorem words_spec {prog : Program} {w : World} {A : Around} {s : Shared} {X : List Addr} {vs vw' : Value} {stock : List Str} {weights : List Int} {count : Nat} {t : Tok} (G : Glb (HK w) s.heap) (r : Rm A 1) (hX : Dom X s.heap) (hs : Has (vw s.heap X) vs (.list (stock.map .str))) (hw : Has (vw s.heap X) vw' (.list (weights.map .int)))
    (hn : count ≤ 6) (hl : stock.length ≤ 3) (hsl : ∀ x ∈ stock, x.length ≤ 4) (hwb : ∀ x ∈ weights, Builtin.Int.intBits x ≤ 64) :
    wpAny (model prog w) A (call (.ref 59) [vs, vw', .int count t]) (fun r s' => Chg [] s s' ∧ Has (vw s'.heap X) r (.list ((wordsL stock weights count).map encP))) No s := by
  refine enter fd59 [(Str.ofString "stock", vs), (Str.ofString "weights", vw'), (Str.ofString "count", .int count t)] (body := body59) G ⟨_, _, _, rfl⟩ rfl (by rfl) r rfl rfl (by rfl) (by rfl) ?_
  intro L s₁ A' hL r' c ce
  have hX1 : Dom X s₁.heap := hX.chg c.chg
  refine wpAny_execs_cons ?_
  refine wpAny_Assign_Name ?_
  refine List_ ?_
  refine spliced_more (he := by kernel_rfl) ?_
  refine Tuple_ ?_
  refine spliced_more (he := by kernel_rfl) (wpAny_Constant_str ?_)
  refine spliced_more (he := by kernel_rfl) (wpAny_Constant_int (spliced_none ?_))
  refine tupN (s := { s₁ with toks := s₁.toks + 1 + 1 }) (X := X) (ds := [.str ⟨#[]⟩, .int 1]) (hX1.chg (Chg.toks (X := []))) (.cons (.str _ _) (.cons (.int _ _) .nil)) (by simp) fun r s4 g4 hr => ?_
  refine spliced_none ?_
  have g4' : Chg [] s₁ s4 := Chg.toks.trans g4
  refine listN (X := X) (ds := [encP (⟨#[]⟩, 1)]) (hX1.chg g4') (.cons hr .nil) (by simp) fun a s5 g5 _ ha => ?_
  refine sL (c.on (g4'.trans g5)) fun s6 g6 v6 c6 => ?_
  have ha6 := ha.mono (v6 X)
  have k1 : s6.heap.IsCell (L + 1) (some vs) := cell_ns (cell_on (ce.is (Str.ofString "stock") (L + 1) rfl) (g4'.trans g5)) (c.on (g4'.trans g5)).ns g6
  have k2 : s6.heap.IsCell (L + 2) (some vw') := cell_ns (cell_on (ce.is (Str.ofString "weights") (L + 2) rfl) (g4'.trans g5)) (c.on (g4'.trans g5)).ns g6
  clear g6 v6 ha hr
  refine wpAny_execs_cons ?_
  refine forI (X := L :: X) (ds := (rng 0 1 count).map .int) (fun X' i st => ∃ m v, Cx s L m st ∧ m (Str.ofString "words") = some v ∧ st.heap.IsCell (L + 1) (some vs) ∧ st.heap.IsCell (L + 2) (some vw') ∧ Has (vw st.heap X') v (.list ((wordsL stock weights i).map encP)))
    (srcRange1 r'.hd (c6.dom hX) (.bi (G.cx c6) rfl rfl (by decide)) (.name (.loc (env := callEnvC fd59 L 59) c6 rfl)) (by omega)) (c6.dom hX) ?_ ?_ ?_ ?_
  · intro X' s7 g7 h1 h2
    refine ⟨_, _, c6.on g7, upd_eq, cell_on k1 g7, cell_on k2 g7, ?_⟩
    refine ha6.mono (Mine.vle (fun b hb => ?_) fun b o _ e => g7.kp b o e)
    rcases h2 b hb with q | q
    · rcases List.mem_cons.mp q with rfl | q
      · exact .inr (.of_ns c6.ns)
      · exact .inl q
    · exact .inr (.of_none q)
  · rintro X' Z i st st' h1 h2 h3 ⟨m, v, j1, j2, j3, j4, j5⟩ a
    exact ⟨m, v, c6.stab (X := L :: X) (List.mem_cons_self ..) h2 h3 j1 a, j2, cell_fr j3 (cell_dom k1) h3 a, cell_fr j4 (cell_dom k2) h3 a, j5.mono (a.vle' h1)⟩
  · intro X' i d v st T
    obtain ⟨m, v1, j1, j2, j3, j4, j5⟩ := T.inv
    obtain ⟨hi, rfl⟩ := rng_item T.item
    refine aL (env := callEnvC fd59 L 59) j1 fun s7 g7 v7 c7 => ?_
    have j3' := cell_ns j3 j1.ns g7
    have j4' := cell_ns j4 j1.ns g7
    refine words_turn (X' := X') G r'.hd c7 j3' j4' hs hw (T.dom.chg g7) (fun b hb => ?_) (by omega) hl hsl hwb (upd_ne (by decide) j2) (j5.mono (v7 X')) fun r s8 g8 c8 h8 => ?_
    · rcases T.fresh b hb with q | q
      · rcases List.mem_cons.mp q with rfl | q
        · exact .inr c.new
        · exact .inl q
      · exact .inr (Mine.back c6.chg q)
    · have j3'' := cell_ns j3' c7.ns g8
      have j4'' := cell_ns j4' c7.ns g8
      exact ⟨⟨_, r, c8, upd_eq, j3'', j4'', h8⟩, (g7.trans g8).weaken fun b hb => by rw [List.mem_singleton.mp hb]; exact List.mem_cons_self ..⟩
  · intro X' st T
    obtain ⟨m, v1, j1, j2, j3, j4, j5⟩ := T.inv
    rw [List.length_map, rng_length] at j5
    refine wpAny_execs_cons ?_
    refine wpAny_Return_some ?_
    exact nL (env := callEnvC fd59 L 59) j1 j2 ⟨j1.chg, j5.mono (vle_sub fun b hb => T.sub b (List.mem_cons_of_mem _ hb))⟩
end Mine

end
section
-- C7a
open PySem PySem.W PyProof.Rows PySem.Calls
namespace Mine
set_option maxRecDepth 100000
set_option maxHeartbeats 4000000
section
open PySem.Builtin PySem.Builtin._codecs
theorem encode_tree_ascii (x : Str) (t u : Tok) : Builtin.«str.encode» ⟨[.str x t, .str (Str.ofString "ascii") u], []⟩ = (do ret (← encodeRoad "str.encode" (.str x t) x (Str.ofString "ascii") none)) := by kernel_rfl
theorem encodeRoad_ascii (id : String) (self : Value) (x : Str) (errors : Option Str) : encodeRoad id self x (Str.ofString "ascii") errors = (do mkBytes (← encodeNarrow id asciiCodec errors self x)) := by rfl
theorem decodeRoad_ascii {id : String} {b : Array UInt8} : _codecs.decodeRoad id b (Str.ofString "ascii") none [] = (_codecs.runDecoder id _codecs.asciiDecoder none true b 0 [] >>= fun r => mkStr ⟨r.1⟩) := by kernel_rfl
theorem decode_tree_ascii {c : UInt8} {cs : List UInt8} {t u : Tok} : Builtin.«bytes.decode» ⟨[.bytes (c :: cs).toArray t, .str (Str.ofString "ascii") u], []⟩ = (mkStr (Str.ofString "utf-8") >>= fun _ => mkStr (Str.ofString "ascii") >>= fun e => mkStr (Str.ofString "bytes.decode") >>= fun d =>
    call (.builtin "_codecs.decode.text") [.bytes (c :: cs).toArray t, e, .none, d] >>= fun v => ret v) := by kernel_rfl
theorem meets_encode {x : Str} {b : Array UInt8} {t u : Tok} (he : encodeNarrow "str.encode" asciiCodec none (.str x t) x = pure b) :
    Meets (Builtin.«str.encode» ⟨[.str x t, .str (Str.ofString "ascii") u], []⟩) (fun _ R s => b.size ≤ sizeLine ∧ R (.ok (.ret (.bytes b s.toks))) { s with toks := s.toks + 1 }) := by
  rw [encode_tree_ascii, encodeRoad_ascii, he, pure_bind]
  exact .of_wp fun _ _ _ _ _ h => wpAny_bind (wpAny_mkBytes (wpAny_pure ⟨_, rfl, h.2⟩) h.1)
/-- with the decoder's answer known, the codec's inner call is just the making of the text -/
theorem text_of_ascii {x : Str} {b : Array UInt8} {n : Nat} {t t1 t2 : Tok} {d : Str} (hd : ∀ id, _codecs.runDecoder id _codecs.asciiDecoder none true b 0 [] = pure (x.cps, n)) :
    «_codecs.decode.text» ⟨[.bytes b t, .str (Str.ofString "ascii") t1, .none, .str d t2], []⟩ = (mkStr x >>= fun v => ret v) := by
  unfold «_codecs.decode.text»
  simp only [pure_bind, KBd.like_eq, KBd.held_eq, decodeRoad_ascii, hd]
theorem call_encode {prog : Program} {w : World} {A : Around} {s : Shared} {E : Value → Shared → Prop} {Q : Value → Shared → Prop} {x : Str} {b : Array UInt8} {t u : Tok} (he : encodeNarrow "str.encode" asciiCodec none (.str x t) x = pure b) (hsz : b.size ≤ sizeLine) (h : Q (.bytes b s.toks) { s with toks := s.toks + 1 }) :
    wpAny (model prog w) A (call (.builtin "str.encode") [.str x t, .str (Str.ofString "ascii") u]) Q E s :=
  call_meets F.slot_str_encode (typeIs_str _ _ _) F.entry_str_encode (F.args_str_encode_2 _ _) (meets_encode he) ⟨hsz, h⟩
theorem args_decode_2 (a b : Value) : argsOk "bytes.decode" ⟨[a, b], []⟩ := by unfold argsOk; kernel_rfl
theorem call_decode {prog : Program} {w : World} {A : Around} {s : Shared} {E : Value → Shared → Prop} {Q : Value → Shared → Prop} {x : Str} {c : UInt8} {cs : List UInt8} {n : Nat} {t u : Tok} (hd : ∀ id, _codecs.runDecoder id _codecs.asciiDecoder none true (c :: cs).toArray 0 [] = pure (x.cps, n)) (hsz : x.length ≤ sizeLine) (h : ∀ t' k, Q (.str x t') { s with toks := k }) :
    wpAny (model prog w) A (call (.builtin "bytes.decode") [.bytes (c :: cs).toArray t, .str (Str.ofString "ascii") u]) Q E s :=
  call_meets (S := fun _ R s => x.length ≤ sizeLine ∧ ∀ t' k, R (.ok (.ret (.str x t'))) { s with toks := k }) FB.slot_bytes_decode (typeIs_bytes _ _ _) FB.entry_bytes_decode (args_decode_2 _ _) (by
    rw [decode_tree_ascii]
    refine .of_wp fun _ _ _ _ _ h => wpAny_bind (wpAny_mkStr (wpAny_bind (wpAny_mkStr (wpAny_bind (wpAny_mkStr (wpAny_bind ?_) (by decide))) (by decide))) (by decide))
    refine call_function_meets (S := fun _ R s => R (.ok (.ret (.str x s.toks))) { s with toks := s.toks + 1 }) KBd.kind_text KBd.plain_text KBd.entry_text (KBd.args_text _ _ _ _) ?_ (wpAny_pure ⟨_, rfl, h.2 _ _⟩)
    rw [text_of_ascii hd]
    exact .of_wp fun _ _ _ _ _ r => wpAny_bind (wpAny_mkStr (wpAny_pure ⟨_, rfl, r⟩) h.1)) ⟨hsz, h⟩
end
end Mine

end
section
-- C2
open PySem PySem.W PyProof.Rows PySem.Calls
namespace Mine
set_option maxRecDepth 100000
set_option maxHeartbeats 4000000

noncomputable def fd42 : FuncData := ({ val := _, property := fun _ => rfl } : { fd // ∀ P, fdOf (HX.hd.heap_39 P) 42 = fd }).val

/-- one byte laid -/
noncomputable def swapStep (k : Nat) (l : List UInt8) (r : Nat) (b : Array UInt8) (j : Nat) : Array UInt8 := b.setIfInBounds (r * k + k - 1 - j) (l.getD (r * k + j) 0)
noncomputable def swapRow (k : Nat) (l : List UInt8) (b : Array UInt8) (r : Nat) : Array UInt8 := (List.range k).foldl (swapStep k l r) b
noncomputable def swapB (k m : Nat) (l : List UInt8) : Array UInt8 := (List.range m).foldl (swapRow k l) (Array.replicate (m * k) 0)

theorem swapRow_size {k : Nat} {l : List UInt8} {b : Array UInt8} {r : Nat} : (swapRow k l b r).size = b.size := by
  unfold swapRow
  generalize List.range k = js
  induction js generalizing b with
  | nil => rfl
  | cons x js ih => rw [List.foldl_cons, ih]; exact Array.size_setIfInBounds
theorem swap_spec {prog : Program} {w : World} {A : Around} {s : Shared} {l : List UInt8} {t u : Tok} {k m : Nat} (G : Glb (HK w) s.heap) (r : Rm A 1) (hk : 0 < k) (hm : 0 < m) (hl : l.length = m * k) (hsz : l.length ≤ 1000) :
    wpX (model prog w) A (call (.ref 42) [.bytes l.toArray t, .int k u]) (fun r s' => Chg [] s s' ∧ ∃ t, r = .bytes (swapB k m l) t) s := by
  refine enterX fd42 [(Str.ofString "data", .bytes l.toArray t), (Str.ofString "width", .int k u)] G ⟨_, _, _, rfl⟩ rfl (by rfl) r rfl rfl (by rfl) (by rfl) ?_
  intro L s₁ A' hL r' c ce
  refine xCons (xAssign (xCall (nB (G.cx c) rfl rfl (by decide) (xCallType (spliced_more (wpAny_Call_NameR (nB (G.cx c) rfl rfl (by decide) (callWith_builtin1 (spliced_more (nL c rfl (spliced_none (len_bytes (by simp; omega) ?_))))))))))))
  refine spliced_none ?_
  rw [List.size_toArray]
  refine BA.make_int (by rw [hl]; exact Nat.mul_pos hm hk) hsz fun s₂ a g2 hna ha => ?_
  refine sL (c.on (Chg.toks.trans g2)) fun s₃ g3 v3 c3 => ?_
  have ha3 : s₃.heap.get? a = some (BA.baO (Array.replicate l.length 0)) := g3.keep _ _ (fun q => by rw [List.mem_singleton.mp q] at hna; exact absurd hna (ns_dom c.ns)) ha
  have hnew : s.heap.get? a = none := by
    cases e : s.heap.get? a with
    | none => rfl
    | some o => have := c.chg.kp a o e; rw [show s₁.heap.get? a = none from hna] at this; cases this
  have hLa : L ≠ a := fun q => by subst q; exact absurd hna (ns_dom c.ns)
  clear g3 v3 ha g2 hna
  refine .of ?_
  have hm1 : m ≤ 1000 := Nat.le_trans (Nat.le_mul_of_pos_right m hk) (hl ▸ hsz)
  have hk1 : k ≤ 1000 := Nat.le_trans (Nat.le_mul_of_pos_left k hm) (hl ▸ hsz)
  have hX3 : Dom [L, a] s₃.heap := (Dom.cons (fun b hb => by cases hb) (ne_none_of ha3)).cons (ns_dom c3.ns)
  let J : List Addr → Nat → Shared → Prop := fun _ i st => ∃ mm, Cx s L mm st ∧ mm (Str.ofString "data") = some (.bytes l.toArray t) ∧ mm (Str.ofString "width") = some (.int k u) ∧ mm (Str.ofString "swapped_data") = some (.ref a) ∧
    st.heap.get? a = some (BA.baO ((List.range i).foldl (swapRow k l) (Array.replicate l.length 0)))
  have hsize : ∀ (rs : List Nat) (b : Array UInt8), (rs.foldl (swapRow k l) b).size = b.size := fun rs => by
    induction rs with
    | nil => intro b; rfl
    | cons x rs ih => intro b; rw [List.foldl_cons, ih]; exact swapRow_size
  refine wpAny_execs_cons (forI J (srcRange3 (m := m) (k := k) r'.hd hX3 (.bi (G.cx c3) rfl rfl (by decide)) .const (.lenB (.bi (G.cx c3) rfl rfl (by decide)) (.loc c3 rfl) (by simp; omega)) (.name (.loc c3 rfl)) hk (by omega) (by simp [hl]) (by omega) (by omega)) hX3 ?_ ?_ ?_ ?_)
  · intro X' s₄ ch _ _
    exact ⟨_, c3.on ch, rfl, rfl, rfl, ch.kp _ _ ha3⟩
  · rintro X' Z i st st' hZ hZX hn ⟨mm, cx, h1, h2, h3, h4⟩ ch
    exact ⟨mm, c3.stab (.head _) hZX hn cx ch, h1, h2, h3, ch.keep _ _ (fun q => hZX _ q (.tail _ (.head _))) h4⟩
  · rintro X' i d v st T
    obtain ⟨mm, cx, h1, h2, h3, h4⟩ := T.inv
    obtain ⟨hi, rfl⟩ := rng_item T.item
    obtain ⟨ti, rfl⟩ := T.has.int_inv
    refine aL cx fun st2 g2 v2 cx2 => ?_
    have h4' : st2.heap.get? a = _ := g2.keep _ _ (fun q => hLa (List.mem_singleton.mp q).symm) h4
    have hX4 : Dom [L, a] st2.heap := (Dom.cons (fun b hb => by cases hb) (ne_none_of h4')).cons (ns_dom cx2.ns)
    let J2 : List Addr → Nat → Shared → Prop := fun _ j st => ∃ mm, Cx s L mm st ∧ mm (Str.ofString "data") = some (.bytes l.toArray t) ∧ mm (Str.ofString "width") = some (.int k u) ∧ mm (Str.ofString "swapped_data") = some (.ref a) ∧
      mm (Str.ofString "i") = some (.int (0 + i * k) ti) ∧ st.heap.get? a = some (BA.baO ((List.range j).foldl (swapStep k l i) ((List.range i).foldl (swapRow k l) (Array.replicate l.length 0))))
    refine wpAny_execs_cons (forI J2 (srcRange1 r'.hd hX4 (.bi (G.cx cx2) rfl rfl (by decide)) (.name (.loc cx2 (upd_ne (by decide) h2))) (by omega)) hX4 ?_ ?_ ?_ ?_)
    · intro X' s₄ ch _ _
      exact ⟨_, cx2.on ch, upd_ne (by decide) h1, upd_ne (by decide) h2, upd_ne (by decide) h3, upd_eq, ch.kp _ _ h4'⟩
    · rintro X' Z i st st' hZ hZX hn ⟨mm, cx, h1, h2, h3, h5, h4⟩ ch
      exact ⟨mm, cx2.stab (.head _) hZX hn cx ch, h1, h2, h3, h5, ch.keep _ _ (fun q => hZX _ q (.tail _ (.head _))) h4⟩
    · rintro X' j d v st T
      obtain ⟨mm, cx, h1, h2, h3, h5, h4⟩ := T.inv
      obtain ⟨hj, rfl⟩ := rng_item T.item
      obtain ⟨tj, rfl⟩ := T.has.int_inv
      refine aL cx fun st2 g2 v2 cx2 => ?_
      have h4' : st2.heap.get? a = _ := g2.keep _ _ (fun q => hLa (List.mem_singleton.mp q).symm) h4
      have hik : i * k + k ≤ m * k := by
        have h1 : (i + 1) * k ≤ m * k := Nat.mul_le_mul_right k hi
        rwa [Nat.add_mul, Nat.one_mul] at h1
      have hij : i * k + j < m * k := by omega
      have e1 : ((0 : Int) + i * k + (0 + j * 1)) = ((i * k + j : Nat) : Int) := by
        rw [Int.natCast_add, Int.natCast_mul]; omega
      have e2 : ((0 : Int) + i * k + k - 1 - (0 + j * 1)) = ((i * k + k - 1 - j : Nat) : Int) := by
        have : ((i * k : Nat) : Int) = i * k := Int.natCast_mul i k
        omega
      have hsz2 : ∀ (js : List Nat) (b : Array UInt8), (js.foldl (swapStep k l i) b).size = b.size := fun js => by
        induction js with
        | nil => intro b; rfl
        | cons x js ih => intro b; rw [List.foldl_cons, ih]; exact Array.size_setIfInBounds
      refine wpAny_execs_cons (wpAny_Assign_Subscript (Subscript_ (nL cx2 (upd_ne (by decide) h1) ((IE.add (.name (.loc cx2 (upd_ne (by decide) h5))) (.name (.loc cx2 upd_eq))).run _ _ _ rfl fun t1 k1 => ?_))))
      rw [e1]
      refine subscriptTail_builtin (typeIs_bytes _ _ _) FB.slot_bytes_getitem.lookup (getItem_bytes (by omega) (by omega) (by omega) ?_)
      refine nL (cx2.on (Chg.toks.trans .toks)) (upd_ne (by decide) h3) ?_
      refine (IE.sub (.sub (.add (.name (.loc cx2 (upd_ne (by decide) h5))) (.name (.loc cx2 (upd_ne (by decide) h2)))) .const) (.name (.loc cx2 upd_eq))).run _ _ _ rfl fun t1 k1 => ?_
      rw [e2]
      refine BA.setItem_ba h4' (by rw [hsz2, hsize]; simpa using hsz) (by omega) ?_ (by omega) (by have := (l.getD (((i * k + j : Nat) : Int)).toNat 0).toNat_lt; omega) fun h' ho' hs' => ?_
      · rw [hsz2, hsize, Array.size_replicate, hl]; omega
      · have g3 : Chg [a] st2 { st2 with heap := h', toks := k1 } := .same hs' ho'
        refine wpAny_execs_nil ⟨⟨_, cx2.go (X := [a]) g3.toChw (fun q => hLa (List.mem_singleton.mp q)) (fun b hb => by rw [List.mem_singleton.mp hb]; exact hnew), upd_ne (by decide) h1, upd_ne (by decide) h2, upd_ne (by decide) h3, upd_ne (by decide) h5, ?_⟩, ?_⟩
        · rw [List.range_succ, List.foldl_append]
          simp only [Int.toNat_natCast] at ho'
          simpa [swapStep] using ho'
        · exact (g2.weaken (one_in (.head _))).trans (g3.weaken (one_in (.tail _ (.head _))))
    · rintro X' st Lst
      obtain ⟨mm, cx, h1, h2, h3, h5, h4⟩ := Lst.inv
      refine wpAny_execs_nil ⟨⟨mm, cx, h1, h2, h3, ?_⟩, ?_⟩
      · rw [List.length_map, rng_length] at h4
        rw [List.range_succ, List.foldl_append]
        exact h4
      · exact (g2.weaken (one_in (.head _))).trans Lst.chg
  · rintro X' st Lst
    obtain ⟨mm, cx, h1, h2, h3, h4⟩ := Lst.inv
    rw [List.length_map, rng_length] at h4
    refine wpAny_execs_cons (wpAny_Return_some (wpAny_Call_NameR (nB (G.cx cx) rfl rfl (by decide) (Pv.callWith_type1 (spliced_more (nL cx h3 (spliced_none (BA.bytes_ba h4 (by rw [hsize]; simpa using hsz) ?_))))))))
    refine ⟨cx.chg.trans .toks, st.toks, ?_⟩
    unfold swapB
    rw [hl]
end Mine

end
section
-- X9
open PySem PySem.W PyProof.Rows PySem.Calls
namespace Mine
set_option maxRecDepth 100000
section
variable {prog : Program} {w : World} {A : Around} {X : List Addr} {s : Shared} {Q : Value → Shared → Prop} {E : Value → Shared → Prop} {target iter : Expr} {body : List Stmt} {env : Env} {pos : Pos} {ds : List Dat} {K : Frag}
/-- a for statement, under clean codes -/
theorem forIX {R : Flow → Shared → Prop} (J : List Addr → Nat → Shared → Prop) (src : Src prog w A X target iter env s ds) (hX : Dom X s.heap)
    (h0 : ∀ X' s₂, Chg [] s s₂ → (∀ b ∈ X, b ∈ X') → (∀ b ∈ X', b ∈ X ∨ s.heap.get? b = none) → J X' 0 s₂)
    (stab : ∀ X' Z i st st', (∀ b ∈ Z, b ∈ X') → (∀ b ∈ Z, b ∉ X) → (∀ b ∈ Z, s.heap.get? b = none) → J X' i st → Chw Z st st' → J X' i st')
    (step : ∀ X' i d v st, Turn X X s ds J X' i d v st →
      wpAny (model prog w) A (assign target env v) (fun _ s₃ => wpX (model prog w) A (execs body env) (fun f s₄ => match f with
        | .next | .cont => J X' (i + 1) s₄ ∧ Chg X st s₄
        | .brk => R .next s₄
        | .ret v => R (.ret v) s₄) s₃) No st)
    (fin : ∀ X' st, Last X X s ds.length J X' st → R .next st)
    (hs : ∀ x, foldedSetIterable iter env x = pure x := by intro _; rfl) :
    wpX (model prog w) A (exec (.For target iter body [] pos) env) R s := by
  refine xFor (src _ fun it s₁ s₂ a hit => ?_) hs
  exact forX (R := R) J hit (hX.chg a) (fun X' h1 h2 => h0 X' s₂ (a.trans hit.chg) h1 fun b hb => (h2 b hb).imp id (Mine.back a))
    (fun X' Z i st st' h1 h2 h3 => stab X' Z i st st' h1 h2 fun b hb => Mine.back a (h3 b hb)) (fun X' i d v st T => step X' i d v st (T.back a)) fun X' st T => fin X' st (T.back a)
theorem srcEnum {x : Str} {xp fp p tp : Pos} {elts : List Expr} {k : Nat} {v : Value} (hh : A.handled = none) (hX : Dom X s.heap) (rf : Rd prog w A env s.heap (Str.ofString "enumerate") (.type "enumerate")) (rx : Rd prog w A env s.heap x v) (hv : Has (vw s.heap X) v (.list ds))
    (hst : starEach [.Name x xp] env = (false, eval (.Name x xp) env) :: starEach [] env := by rfl) :
    Src prog w A X (.Tuple elts k tp) (.Call (.Name (Str.ofString "enumerate") fp) [.Name x xp] [] p) env s (numbered ds) := by
  intro Q hQ
  exact wpAny_Call_NameR (rd rf rfl (Pv.callWith_type1 (spliced_more (rd rx rfl (spliced_none (iter_enum hh hX hv fun it s' hit => hQ it _ s' (.refl _ _) hit))) hst) hst rfl))
/-- a call of a def of the text, by its name -/
theorem callDef {nm : Str} {np p : Pos} {e : Expr} {rest : List Expr} {f : Addr} {fd : FuncData} (G : Glb K s.heap) (r : Rd prog w A env s.heap nm (.ref f)) (ho : ∃ oc od osl, K.lookup f = some ⟨oc, od, .func fd, osl⟩)
    (h : wpAny (model prog w) A (spliced (backTo p (starEach (e :: rest) env))) (fun vs s₁ => Chg [] s s₁ ∧ wpAny (model prog w) A (call (.ref f) vs) Q E s₁) E s)
    (he : starEach (e :: rest) env = (false, eval e env) :: starEach rest env := by rfl) : wpAny (model prog w) A (eval (.Call (.Name nm np) (e :: rest) [] p) env) Q E s := by
  obtain ⟨oc, od, osl, ho⟩ := ho
  exact wpAny_Call_NameR (rd r rfl (callWith_def (o := ⟨oc, od, .func fd, osl⟩) (fd := fd) rfl (wpAny_mono h (fun vs s₁ q => ⟨q.1.kp _ _ (G.K _ _ ho), q.2⟩) fun _ _ x => x) he))
theorem callDefX {nm : Str} {np p : Pos} {e : Expr} {rest : List Expr} {f : Addr} {fd : FuncData} (G : Glb K s.heap) (r : Rd prog w A env s.heap nm (.ref f)) (ho : ∃ oc od osl, K.lookup f = some ⟨oc, od, .func fd, osl⟩)
    (h : wpAny (model prog w) A (spliced (backTo p (starEach (e :: rest) env))) (fun vs s₁ => Chg [] s s₁ ∧ wpX (model prog w) A (call (.ref f) vs) Q s₁) No s)
    (he : starEach (e :: rest) env = (false, eval e env) :: starEach rest env := by rfl) : wpX (model prog w) A (eval (.Call (.Name nm np) (e :: rest) [] p) env) Q s := by
  obtain ⟨oc, od, osl, ho⟩ := ho
  exact xCall (rd r rfl (xCallDef (o := ⟨oc, od, .func fd, osl⟩) (fd := fd) rfl (wpAny_mono h (fun vs s₁ q => ⟨q.1.kp _ _ (G.K _ _ ho), q.2⟩) fun _ _ x => x) he))
noncomputable def takeS (n : Nat) (x : Str) : Str := ⟨(x.cps.toList.take n).toArray⟩
noncomputable def cutS (i j : Nat) (x : Str) : Str := ⟨((x.cps.toList.drop i).take (j - i)).toArray⟩
theorem keptLe {h₀ : Heap} : KeptH (fun h => HLe h₀ h) := fun h ob k b o e => Heap.get?_push_of_some ob (k b o e)
/-- x[:idx] of a text -/
theorem takeV {value idx : Expr} {p p' : Pos} {j : Nat} (hx : wpAny (model prog w) A (eval value env) (fun v s₁ => ∃ x t, v = .str x t ∧ j ≤ x.length ∧ x.length ≤ 1000 ∧ IE prog w A env s₁.heap idx j ∧ ∀ t' s', Chg [] s₁ s' → Q (.str (takeS j x) t') s') E s)
    (hs : ∀ x r, subscripted (.Slice none (some idx) none p) false x r = operate [r, x] (getItem x r) := by intro _ _; rfl) 
    (ht : ∀ x r, letTemporaryGo value x r = pure () := by intro _ _; rfl) : wpAny (model prog w) A (eval (.Subscript value (.Slice none (some idx) none p) p') env) Q E s := by
  refine Subscript_ (wpAny_mono hx (fun v s₁ hq => ?_) fun _ _ x => x)
  obtain ⟨x, t, rfl, hj, hl, hi, hQ⟩ := hq
  refine wpAny_Slice (evalPart_none_step (evalPart_some_step (hi.run s₁ _ _ rfl fun t1 k1 => evalPart_none_step ?_)))
  refine tail_of_ItemOn (s := { s₁ with heap := s₁.heap.push _, toks := k1 }) (SBH.sliceItem_ns (s := { s₁ with toks := k1 }) (P := fun h => HLe s₁.heap h) keptLe (fun _ _ e => e) (fun h' t' k hk => ?_) (Nat.le_trans hl (by decide))) (hs _ _) (ht _)
  have e := eq_of_beq (slice_closes_toL (x := x) (j := j) (by omega) (by omega))
  rw [e]
  have := hQ t' { s₁ with heap := h', toks := k } (.of_le hk)
  simpa [takeS] using this
/-- x[i:j] of a text -/
theorem cutV {value e1 e2 : Expr} {p p' : Pos} {i j : Nat} (hx : wpAny (model prog w) A (eval value env) (fun v s₁ => ∃ x t, v = .str x t ∧ i ≤ j ∧ j ≤ x.length ∧ x.length ≤ 1000 ∧ IE prog w A env s₁.heap e1 i ∧ IE prog w A env s₁.heap e2 j ∧ ∀ t' s', Chg [] s₁ s' → Q (.str (cutS i j x) t') s') E s)
    (hs : ∀ x r, subscripted (.Slice (some e1) (some e2) none p) false x r = operate [r, x] (getItem x r) := by intro _ _; rfl) 
    (ht : ∀ x r, letTemporaryGo value x r = pure () := by intro _ _; rfl) : wpAny (model prog w) A (eval (.Subscript value (.Slice (some e1) (some e2) none p) p') env) Q E s := by
  refine Subscript_ (wpAny_mono hx (fun v s₁ hq => ?_) fun _ _ x => x)
  obtain ⟨x, t, rfl, hij, hj, hl, h1, h2, hQ⟩ := hq
  refine wpAny_Slice (evalPart_some_step (h1.run s₁ _ _ rfl fun t1 k1 => evalPart_some_step (h2.run _ _ _ rfl fun t2 k2 => evalPart_none_step ?_)))
  refine tail_of_ItemOn (s := { s₁ with heap := s₁.heap.push _, toks := k2 }) (SBH.sliceItem_ss (s := { s₁ with toks := k2 }) (P := fun h => HLe s₁.heap h) keptLe (fun _ _ e => e) (fun h' t' k hk => ?_) (Nat.le_trans hl (by decide))) (hs _ _) (ht _)
  have e := eq_of_beq (slice_closesL (x := x) (i := i) (j := j) (by omega) (by omega) (by omega))
  rw [e]
  have := hQ t' { s₁ with heap := h', toks := k } (.of_le hk)
  simpa [cutS, show ((j : Int) - i).toNat = j - i by omega] using this
end

section
variable {prog : Program} {w : World} {A : Around} {s : Shared} {D : Addr} {kvs : List (Str × Value)} {k x : Str} {v : Value} {t : Tok} {E : Value → Shared → Prop}
theorem valueAt_stored {K : Type} [DecidableEq K] (kvs : List (K × Value)) (k x : K) (v : Value) : valueAt (stored kvs k v) x = if x = k then some v else valueAt kvs x := by
  unfold stored
  by_cases h : kvs.any (fun kv => kv.1 = k) = true
  · rw [if_pos h]
    induction kvs with
    | nil => simp at h
    | cons y l ih =>
      unfold valueAt at ih ⊢
      rw [List.map_cons, List.find?_cons, List.find?_cons]
      by_cases hy : y.1 = k
      · rw [if_pos hy]
        by_cases hx : x = k
        · simp [hx, hy]
        · have hx' : ¬ y.1 = x := fun q => hx (q.symm.trans hy)
          simp only [decide_eq_false hx', if_neg hx]
          clear ih h
          induction l with
          | nil => rfl
          | cons z l ih2 =>
            rw [List.map_cons, List.find?_cons, List.find?_cons]
            by_cases hz : z.1 = k
            · have : ¬ z.1 = x := fun q => hx (q.symm.trans hz)
              simp only [if_pos hz, decide_eq_false this]; exact ih2
            · simp only [if_neg hz]
              by_cases hzx : z.1 = x
              · simp [hzx]
              · simp only [decide_eq_false hzx]; exact ih2
      · rw [if_neg hy]
        have h' : l.any (fun kv => decide (kv.1 = k)) = true := by simpa [hy] using h
        have ih := ih h'
        by_cases hyx : y.1 = x
        · have hx : ¬ x = k := fun q => hy (hyx.trans q)
          simp [hyx, if_neg hx]
        · simp only [decide_eq_false hyx]; exact ih
  · rw [if_neg h]
    unfold valueAt
    rw [List.find?_append]
    have hn : ∀ y ∈ kvs, ¬ y.1 = k := fun y hy q => h (List.any_eq_true.mpr ⟨y, hy, by simp [q]⟩)
    by_cases hx : x = k
    · subst hx
      have : kvs.find? (fun kv => decide (kv.1 = x)) = none := List.find?_eq_none.mpr fun y hy => by simpa using hn y hy
      simp [this]
    · have : ¬ k = x := fun q => hx q.symm
      simp [hx, this]
end
end Mine

end
section
-- N1
open PySem PySem.W PyProof.Rows PySem.Calls PySem.Builtin PySem.Builtin._codecs
namespace Mine
set_option maxRecDepth 100000

noncomputable def asciiS (x : Str) : Prop := ∀ c ∈ x.cps, c < 128
noncomputable def bytesOf (x : Str) : List UInt8 := x.cps.toList.map (·.toUInt8)

theorem foldl_bytes (c : Nat → List UInt8) (l : List Nat) (acc : Array UInt8) : l.foldl (fun acc y => acc ++ (c y).toArray) acc = acc ++ (l.flatMap c).toArray := by
  induction l generalizing acc with
  | nil => simp
  | cons x l ih => rw [List.foldl_cons, ih]; simp
theorem two_turns {β γ : Type} {n : Nat} {f : Nat → β → Sem (ForInStep β)} {g : β → Sem γ} {b0 : β} {r : Sem γ} (b1 : β) (h0 : n = 0 → g b0 = r) (h1 : n ≠ 0 → ∀ i, f i b0 = pure (.yield b1)) (h2 : n ≠ 0 → ∀ i, f i b1 = pure (.done b1)) (h3 : n ≠ 0 → g b1 = r) :
    (forIn (List.range' 0 n) b0 f >>= g) = r := by
  cases n with
  | zero => simp [h0]
  | succ n =>
    rw [List.range'_succ, List.forIn_cons, h1 (by omega)]
    simp only [pure_bind]
    cases n with
    | zero => simp [h3]
    | succ n =>
      rw [List.range'_succ, List.forIn_cons, h2 (by omega)]
      simp [h3]
theorem encode_ascii {x : Str} {t : Tok} (h : asciiS x) (hl : x.length ≤ 1000) : encodeNarrow "str.encode" asciiCodec none (.str x t) x = pure (bytesOf x).toArray := by
  have hbad : ∀ c ∈ x.cps, ¬ asciiCodec.bad c = true := fun c hc => by have := h c hc; simp [asciiCodec]; omega
  have hfind : x.cps.findIdx? asciiCodec.bad = none := by
    rw [Array.findIdx?_eq_none_iff]; intro c hc; simpa using hbad c hc
  have hby : asciiCodec.bytesOf = fun c => [c.toUInt8] := rfl
  unfold encodeNarrow
  simp only [Std.Legacy.Range.forIn_eq_forIn_range']
  have hsz : (Std.Legacy.Range.mk 0 x.length 1 (by decide)).size = x.length := by simp [Std.Legacy.Range.size]
  refine two_turns (x.length, (bytesOf x).toArray, {}) ?_ ?_ ?_ ?_
  · intro h0
    rw [hsz] at h0
    have : x.cps = #[] := Array.eq_empty_of_size_eq_zero h0
    simp [bytesOf, this]
  · intro h0 i
    rw [hsz] at h0
    have h0' : 0 < x.cps.size := Nat.pos_of_ne_zero h0
    dsimp only
    rw [if_neg (by simp), Array.getElem?_eq_getElem h0']
    dsimp only
    rw [if_pos (by simpa using hbad _ (Array.getElem_mem h0'))]
    simp only [Array.extract_size, hfind, Option.getD_none, hby]
    have e : x.cps.foldl (fun acc y => acc ++ [y.toUInt8].toArray) #[] = (bytesOf x).toArray := by
      rw [← Array.foldl_toList, foldl_bytes (fun c => [c.toUInt8])]
      simp [bytesOf]
      induction x.cps.toList with
      | nil => rfl
      | cons a l ih => simp [ih]
    have e2 : (#[] : Array UInt8).size = 0 := rfl
    rw [e, Nat.zero_add]
    rfl
  · intro h0 i
    dsimp only
    rw [if_neg (by have : 1000 ≤ sizeLine := by decide
                   have e : (bytesOf x).toArray.size = x.length := by simp [bytesOf]; rfl
                   omega), show x.cps[x.length]? = none from Array.getElem?_eq_none (Nat.le_refl _)]
  · intro h0; rfl
theorem all_turns {β : Type} {f : Nat → β → Sem (ForInStep β)} (st : Nat → β) (n : Nat) (h : ∀ i, i < n → ∀ j, f j (st i) = pure (.yield (st (i + 1)))) : ∀ k j, j + k = n → ∀ a, forIn (List.range' a k) (st j) f = pure (st n) := by
  intro k
  induction k with
  | zero => intro j hj a; simp at hj; subst hj; simp
  | succ k ih =>
    intro j hj a
    rw [List.range'_succ, List.forIn_cons, h j (by omega)]
    simp only [pure_bind]
    exact ih (j + 1) (by omega) _
theorem decode_ascii {b : List UInt8} (h : ∀ c ∈ b, c.toNat < 128) (hl : b.length ≤ 1000) (id : String) : runDecoder id asciiDecoder none true b.toArray 0 [] = pure ((b.map (·.toNat)).toArray, b.length) := by
  unfold runDecoder
  simp only [Std.Legacy.Range.forIn_eq_forIn_range']
  have hsz : (Std.Legacy.Range.mk 0 b.toArray.size 1 (by decide)).size = b.length := by simp [Std.Legacy.Range.size]
  rw [hsz]
  refine (congrArg (· >>= _) (all_turns (fun i => (i, ((b.take i).map (·.toNat)).toArray, ({ held := [] } : Faults))) b.length ?_ b.length 0 (Nat.zero_add _) 0)).trans ?_
  rotate_left
  · rw [pure_bind, List.take_length]
  · intro i hi j
    dsimp only
    rw [if_neg (by have : 1000 ≤ sizeLine := by decide
                   simp only [List.size_toArray, List.length_map, List.length_take]; omega), if_neg (by simp only [List.size_toArray]; omega)]
    have hc : b.toArray.getD i 0 = b[i] := by simp [Array.getD, hi]
    have hf : asciiDecoder.find true b.toArray i = .char (b[i]).toNat (i + 1) := by
      show (if (b.toArray.getD i 0).toNat < 128 then _ else _) = _
      rw [hc, if_pos (h _ (List.getElem_mem hi))]
    rw [hf]
    have e1 : b.take (i + 1) = b.take i ++ [b[i]] := by rw [List.take_add_one]; simp [hi]
    have e2 : ((b.take i).map (·.toNat)).toArray ++ [(b[i]).toNat].toArray = ((b.take (i + 1)).map (·.toNat)).toArray := by rw [e1, List.map_append]; simp
    show pure (ForInStep.yield (i + 1, ((b.take i).map (·.toNat)).toArray ++ [(b[i]).toNat].toArray, ({ held := [] } : Faults))) = _
    rw [e2]
end Mine

end
section
-- C7b
open PySem PySem.W PyProof.Rows PySem.Calls
namespace Mine
set_option maxRecDepth 100000
set_option maxHeartbeats 4000000

noncomputable def turnS (k : Nat) (x : Str) : Str := ⟨((swapB k (x.length / k) (bytesOf x)).toList.map (·.toNat)).toArray⟩
noncomputable def wantS (k : Nat) (x : Str) : Str := x ++ Str.ofString "." ++ (Str.ofString ".." ++ turnS k x)

theorem bytesOf_length (x : Str) : (bytesOf x).length = x.length := by simp [bytesOf]; rfl
theorem bytesOf_lt {x : Str} (h : asciiS x) : ∀ c ∈ bytesOf x, c.toNat < 128 := by
  intro c hc
  obtain ⟨a, ha, rfl⟩ := List.mem_map.mp hc
  have := h a (by simpa using ha)
  show (a.toUInt8).toNat < 128
  rw [Nat.toUInt8_eq, UInt8.toNat_ofNat']
  omega
theorem swapStep_lt {k : Nat} {l : List UInt8} {r : Nat} {b : Array UInt8} {j : Nat} (hl : ∀ c ∈ l, c.toNat < 128) (hb : ∀ c ∈ b, c.toNat < 128) : ∀ c ∈ swapStep k l r b j, c.toNat < 128 := by
  intro c hc
  unfold swapStep at hc
  rcases Array.mem_or_eq_of_mem_setIfInBounds hc with q | rfl
  · exact hb c q
  · rw [List.getD_eq_getElem?_getD]
    cases e : l[r * k + j]? with
    | none => decide
    | some d => exact hl d (List.mem_of_getElem? e)
theorem swapRow_lt {k : Nat} {l : List UInt8} {r : Nat} (hl : ∀ c ∈ l, c.toNat < 128) : ∀ (js : List Nat) (b : Array UInt8), (∀ c ∈ b, c.toNat < 128) → ∀ c ∈ js.foldl (swapStep k l r) b, c.toNat < 128
  | [], _, h => h
  | j :: js, b, h => swapRow_lt hl js _ (swapStep_lt hl h)
theorem swapRows_lt {k : Nat} {l : List UInt8} (hl : ∀ c ∈ l, c.toNat < 128) : ∀ (rs : List Nat) (b : Array UInt8), (∀ c ∈ b, c.toNat < 128) → ∀ c ∈ rs.foldl (swapRow k l) b, c.toNat < 128
  | [], _, h => h
  | r :: rs, b, h => swapRows_lt hl rs _ (swapRow_lt hl _ _ h)
theorem swapRows_size {k : Nat} {l : List UInt8} : ∀ (rs : List Nat) (b : Array UInt8), (rs.foldl (swapRow k l) b).size = b.size
  | [], _ => rfl
  | r :: rs, b => by rw [List.foldl_cons, swapRows_size rs, swapRow_size]
theorem swapB_lt {k m : Nat} {l : List UInt8} (hl : ∀ c ∈ l, c.toNat < 128) : ∀ c ∈ swapB k m l, c.toNat < 128 :=
  swapRows_lt hl _ _ fun c hc => by rw [Array.mem_replicate] at hc; rw [hc.2]; decide
theorem swapB_size {k m : Nat} {l : List UInt8} : (swapB k m l).size = m * k := by unfold swapB; rw [swapRows_size, Array.size_replicate]
theorem turnS_length {k : Nat} {x : Str} (hk : k ∣ x.length) : (turnS k x).length = x.length := by
  show ((swapB k (x.length / k) (bytesOf x)).toList.map (·.toNat)).toArray.size = _
  rw [List.size_toArray, List.length_map, Array.length_toList, swapB_size, Nat.div_mul_cancel hk]

noncomputable def fd66 : FuncData := ({ val := _, property := fun _ => rfl } : { fd // ∀ P, fdOf (HX.hd.heap_39 P) 66 = fd }).val
noncomputable def body66 : List Stmt := match fd66.body with | .stmts b => b | _ => []

theorem turned_run {prog : Program} {w : World} {A : Around} {s : Shared} {env : Env} {x : Str} {t u : Tok} {k : Nat} (G : Glb (HK w) s.heap) (r : Rm A 1) (hk : 0 < k) (hd : k ∣ x.length) (hx : asciiS x) (h0 : 0 < x.length) (hsz : x.length ≤ 1000)
    (rb : Rd prog w A env s.heap (Str.ofString "_byteswap") (.ref 42)) (rf : Rd prog w A env s.heap (Str.ofString "front") (.str x t)) (rs : Rd prog w A env s.heap (Str.ofString "size") (.int k u)) :
    wpX (model prog w) A (eval (match body66 with | [_, .For _ _ [.For _ _ [.Assign _ v _, _] _ _] _ _, _] => v | _ => default) env)
      (fun v s' => Chg [] s s' ∧ ∃ t, v = .str (turnS k x) t) s := by
  have hlen := bytesOf_length x
  have hm : 0 < x.length / k := Nat.div_pos (Nat.le_of_dvd h0 hd) hk
  have hmk : x.length / k * k = x.length := Nat.div_mul_cancel hd
  refine xMethod ?_
  refine callDefX (K := HK w) G rb ⟨_, _, _, rfl⟩ ?_ (by kernel_rfl)
  refine spliced_more (he := by kernel_rfl) ?_
  refine MethodCall_ (rd rf rfl ?_)
  refine GM.of (.str x t) (typeIs_str _ _ _) F.slot_str_encode F.type_str_encode GM.noRef ?_
  refine callWith_method1 (spliced_more (he := by kernel_rfl) (wpAny_Constant_str (spliced_none ?_))) (by kernel_rfl) (by kernel_rfl)
  refine call_encode (encode_ascii hx hsz) (by rw [List.size_toArray, hlen]; exact Nat.le_trans hsz (by decide)) ?_
  refine spliced_more (he := by kernel_rfl) (rd rs rfl (spliced_none ⟨.toks, ?_⟩))
  have e0 : (bytesOf x).length = x.length / k * k := by rw [hlen, hmk]
  refine wpX_mono (swap_spec (m := x.length / k) (show Glb (HK w) _ from G) r hk hm e0 (by rw [hlen]; exact hsz)) fun v s1 q => ?_
  obtain ⟨c1, t1, rfl⟩ := q
  have hne : ∃ c cs, swapB k (x.length / k) (bytesOf x) = (c :: cs).toArray := by
    have hs := swapB_size (k := k) (m := x.length / k) (l := bytesOf x)
    rw [hmk] at hs
    generalize swapB k (x.length / k) (bytesOf x) = b at hs
    obtain ⟨b⟩ := b
    cases b with
    | nil => simp at hs; omega
    | cons c cs => exact ⟨c, cs, rfl⟩
  obtain ⟨c, cs, e⟩ := hne
  have hlt : ∀ d ∈ c :: cs, d.toNat < 128 := fun d hd => swapB_lt (k := k) (m := x.length / k) (bytesOf_lt hx) d (by rw [e]; simpa using hd)
  have hcl : (c :: cs).length = x.length := by
    have hs := swapB_size (k := k) (m := x.length / k) (l := bytesOf x)
    rw [e, hmk] at hs; simpa using hs
  have eT : turnS k x = ⟨((c :: cs).map (·.toNat)).toArray⟩ := by unfold turnS; rw [e]
  rw [e]
  refine KBd.method ?_
  refine callWith_method1 (spliced_more (he := by kernel_rfl) (wpAny_Constant_str (spliced_none ?_))) (by kernel_rfl) (by kernel_rfl)
  refine call_decode (x := turnS k x) (n := (c :: cs).length) (fun id => ?_) ?_ fun t' j => ⟨(Chg.trans (Chg.toks (s := s)) c1).trans (.toks (s := s1) (t := j)), t', rfl⟩
  · rw [eT]; exact decode_ascii hlt (by omega) id
  · rw [turnS_length hd]; exact Nat.le_trans hsz (by decide)
end Mine

end
section
-- C7c
open PySem PySem.W PyProof.Rows PySem.Calls
namespace Mine
set_option maxRecDepth 100000
set_option maxHeartbeats 4000000

noncomputable def WantsOk (prog : Program) (w : World) (sizes : List Nat) (P : Nat → Str → Prop) (h : Heap) (D : Addr) (n : Nat) : Prop :=
  ∃ kvs, h.DictOf (strKind prog w) D kvs ∧ kvs.length ≤ n ∧ ∀ p k x, sizes[p]? = some k → P p x → ∃ t, valueAt kvs x = some (.str (wantS k x) t)
theorem WantsOk.go {prog : Program} {w : World} {sizes : List Nat} {P : Nat → Str → Prop} {s s' : Shared} {D : Addr} {n : Nat} {X : List Addr} (x : WantsOk prog w sizes P s.heap D n) (a : Chw X s s') (h : D ∉ X) : WantsOk prog w sizes P s'.heap D n := by
  obtain ⟨kvs, ⟨o, es, ep, ho, r⟩, h2, h3⟩ := x
  exact ⟨kvs, ⟨o, es, ep, a.keep _ _ h ho, r⟩, h2, h3⟩
theorem WantsOk.on {prog : Program} {w : World} {sizes : List Nat} {P : Nat → Str → Prop} {s s' : Shared} {D : Addr} {n : Nat} (x : WantsOk prog w sizes P s.heap D n) (a : Chg [] s s') : WantsOk prog w sizes P s'.heap D n := x.go a.toChw List.not_mem_nil
theorem WantsOk.dom {prog : Program} {w : World} {sizes : List Nat} {P : Nat → Str → Prop} {h : Heap} {D : Addr} {n : Nat} (x : WantsOk prog w sizes P h D n) : h.get? D ≠ none := by
  obtain ⟨kvs, ⟨o, es, ep, ho, r⟩, h2, h3⟩ := x
  exact ne_none_of ho
theorem WantsOk.more {prog : Program} {w : World} {sizes : List Nat} {P P' : Nat → Str → Prop} {h : Heap} {D : Addr} {n n' : Nat} (x : WantsOk prog w sizes P h D n) (hn : n ≤ n') (hp : ∀ p x, P' p x → P p x) : WantsOk prog w sizes P' h D n' := by
  obtain ⟨kvs, h1, h2, h3⟩ := x
  exact ⟨kvs, h1, Nat.le_trans h2 hn, fun p k x e q => h3 p k x e (hp p x q)⟩
theorem WantsOk.set {prog : Program} {w : World} {A : Around} {E : Value → Shared → Prop} {s : Shared} {sizes : List Nat} {P P' : Nat → Str → Prop} {D : Addr} {n i k : Nat} {x : Str} {t u : Tok} {Q : Unit → Shared → Prop} (W : WantsOk prog w sizes P s.heap D n) (hn : n ≤ 1000) (hk : sizes[i]? = some k)
    (hP : ∀ p y, P' p y → (y ≠ x ∧ P p y) ∨ (p = i ∧ (y = x ∨ P p y))) (h : ∀ s', Chg [D] s s' → WantsOk prog w sizes P' s'.heap D (n + 1) → Q () s') :
    wpAny (model prog w) A (setItem (.ref D) (.str x t) (.str (wantS k x) u)) Q E s := by
  obtain ⟨kvs, h1, h2, h3⟩ := W
  refine wpAny_setItem_pairs (strKind_is prog w x t) h1 (fun h' hd hs => ?_) (Nat.le_trans h2 (Nat.le_trans hn (by decide)))
  obtain ⟨o, es, ep, ho, r⟩ := id hd
  refine h _ (.same (t := s.toks + 1) hs ho) ⟨_, hd, Nat.le_trans (stored_length_le kvs x _) (Nat.succ_le_succ h2), fun p k' y e q => ?_⟩
  rw [valueAt_stored]
  by_cases hy : y = x
  · rw [if_pos hy]
    subst hy
    rcases hP p y q with ⟨q, _⟩ | ⟨rfl, _⟩
    · exact absurd rfl q
    · rw [hk] at e; cases e; exact ⟨u, rfl⟩
  · rw [if_neg hy]
    rcases hP p y q with ⟨_, q⟩ | ⟨_, q | q⟩
    · exact h3 p k' y e q
    · exact absurd q hy
    · exact h3 p k' y e q

theorem wordsL_len4 {stock : List Str} {weights : List Int} (hsl : ∀ x ∈ stock, x.length = 4) : ∀ n, ∀ x ∈ wordsL stock weights n, x.1.length = 4 * n := by
  intro n
  induction n with
  | zero => intro x hx; rw [List.mem_singleton.mp hx]; rfl
  | succ n ih =>
    intro x hx
    obtain ⟨y, hy, hx⟩ := List.mem_flatMap.mp hx
    obtain ⟨z, hz, rfl⟩ := List.mem_map.mp hx
    have h1 := ih y hy
    have h2 := hsl z.1 (List.of_mem_zip hz).1
    have h3 : (y.1 ++ z.1).length = y.1.length + z.1.length := Array.size_append
    show (y.1 ++ z.1).length = _
    omega
theorem asciiS_append {x y : Str} (hx : asciiS x) (hy : asciiS y) : asciiS (x ++ y) := fun c hc => by
  rcases Array.mem_append.mp (show c ∈ x.cps ++ y.cps from hc) with q | q
  · exact hx c q
  · exact hy c q
theorem wordsL_ascii {stock : List Str} {weights : List Int} (hsl : ∀ x ∈ stock, asciiS x) : ∀ n, ∀ x ∈ wordsL stock weights n, asciiS x.1 := by
  intro n
  induction n with
  | zero => intro x hx; rw [List.mem_singleton.mp hx]; intro c hc; simp at hc
  | succ n ih =>
    intro x hx
    obtain ⟨y, hy, hx⟩ := List.mem_flatMap.mp hx
    obtain ⟨z, hz, rfl⟩ := List.mem_map.mp hx
    exact asciiS_append (ih y hy) (hsl z.1 (List.of_mem_zip hz).1)

/-- the inner turn's body -/
theorem wants_turn {prog : Program} {w : World} {A : Around} {s st : Shared} {L D : Addr} {x : Str} {n i k : Nat} {t u : Tok} {sizes : List Nat} {P P' : Nat → Str → Prop} {m : Str → Option Value} {Q : Flow → Shared → Prop} (G : Glb (HK w) s.heap) (r : Rm A 1) (c : Cx s L m st) (hDL : D ≠ L) (hDn : s.heap.get? D = none)
    (W : WantsOk prog w sizes P st.heap D n) (hn : n ≤ 1000) (hk : sizes[i]? = some k) (hP : ∀ p y, P' p y → (y ≠ x ∧ P p y) ∨ (p = i ∧ (y = x ∨ P p y))) (h0k : 0 < k) (hd : k ∣ x.length) (hx : asciiS x) (h0 : 0 < x.length) (hsz : x.length ≤ 100)
    (e1 : m (Str.ofString "front") = some (.str x t)) (e2 : m (Str.ofString "size") = some (.int k u)) (e3 : m (Str.ofString "wants") = some (.ref D))
    (hQ : ∀ s' v, Chg [L, D] st s' → Cx s L (upd m (Str.ofString "turned") v) s' → WantsOk prog w sizes P' s'.heap D (n + 1) → Q .next s') :
    wpX (model prog w) A (execs (match body66 with | [_, .For _ _ [.For _ _ b _ _] _ _, _] => b | _ => default) (callEnvC fd66 L 66)) Q st := by
  refine xCons ?_
  refine xAssign ?_
  refine wpX_mono (turned_run (G.cx c) r h0k hd hx h0 (by omega) (.glob (G.cx c) rfl) (.loc (env := callEnvC fd66 L 66) c e1) (.loc (env := callEnvC fd66 L 66) c e2)) fun v s1 q => ?_
  obtain ⟨c1, t1, rfl⟩ := q
  have W1 := W.on c1
  refine sL (env := callEnvC fd66 L 66) (c.on c1) fun s2 g2 v2 c2 => ?_
  have hDL' : D ∉ [(callEnvC fd66 L 66).locals] := fun q => hDL (List.mem_singleton.mp q)
  have W2 := W1.go g2.toChw hDL'
  refine xStep ?_
  refine wpAny_Assign_Subscript ?_
  refine callDef (K := HK w) (G.cx c2) (.glob (env := callEnvC fd66 L 66) (G.cx c2) rfl) ⟨_, _, _, rfl⟩ ?_ (by kernel_rfl)
  refine spliced_more (he := by kernel_rfl) ?_
  refine Tuple_ ?_
  refine spliced_more (he := by kernel_rfl) (nL (env := callEnvC fd66 L 66) c2 (upd_ne (by decide) e1) ?_)
  refine spliced_more (he := by kernel_rfl) ?_
  refine wpAny_BinOp (wpAny_Constant_str (nL (env := callEnvC fd66 L 66) (c2.on .toks) upd_eq (add_str (fun t' tk => spliced_none ?_) ?_)))
  · refine tupN (X := []) (ds := [.str x, .str (Str.ofString ".." ++ turnS k x)]) (fun _ h => by cases h) (.cons (.str _ _) (.cons (.str _ _) .nil)) (by simp) fun rv s3 g3 hr => ?_
    refine spliced_none ⟨Chg.toks.trans g3, ?_⟩
    have g3' : Chg [] s2 s3 := Chg.toks.trans g3
    refine wpAny_mono (build_spec ((G.cx c2).on g3') r hr ?_) (fun v s4 q => ?_) fun _ _ x => x
    · have e : (Str.ofString ".." ++ turnS k x).length = 2 + x.length := by
        rw [Str.length_append, turnS_length hd]; rfl
      rw [e]
      exact Nat.le_trans (by omega : _ ≤ 1000) (by decide)
    · obtain ⟨g4, t4, rfl⟩ := q
      have g4' : Chg [] s2 s4 := g3'.trans g4
      refine nL (env := callEnvC fd66 L 66) (c2.on g4') (upd_ne (by decide) e3) ?_
      refine nL (env := callEnvC fd66 L 66) (c2.on g4') (upd_ne (by decide) e1) ?_
      refine WantsOk.set (W2.on g4') hn hk hP fun s5 g5 W5 => xNil ?_
      refine hQ s5 _ ?_ ((c2.on g4').go g5.toChw (fun q => hDL (List.mem_singleton.mp q).symm) fun b hb => by rw [List.mem_singleton.mp hb]; exact hDn) W5
      exact (c1.nil.trans (g2.weaken (one_in (.head _)))).trans (g4'.nil.trans (g5.weaken (one_in (.tail _ (.head _)))))
  · have e : (Str.ofString "..").length = 2 := rfl
    rw [e, turnS_length hd]
    exact Nat.le_trans (by omega : _ ≤ 1000) (by decide)
end Mine

end
section
-- C7d
open PySem PySem.W PyProof.Rows PySem.Calls
namespace Mine
set_option maxRecDepth 100000
set_option maxHeartbeats 4000000

noncomputable def natD (k : Nat) : Dat := .int (k : Int)
/-- what is known of the table as the turn (i, j) begins -/
noncomputable def WP (stock : List Str) (weights : List Int) (i j : Nat) (p : Nat) (x : Str) : Prop :=
  (p < i ∧ x ∈ (wordsL stock weights (p + 1)).map (·.1)) ∨ (p = i ∧ x ∈ ((wordsL stock weights (i + 1)).take j).map (·.1))

theorem WP.step {stock : List Str} {weights : List Int} {i j : Nat} {y : Str × Int} (hsl : ∀ x ∈ stock, x.length = 4) (hy : (wordsL stock weights (i + 1))[j]? = some y) :
    ∀ p x, WP stock weights i (j + 1) p x → (x ≠ y.1 ∧ WP stock weights i j p x) ∨ (p = i ∧ (x = y.1 ∨ WP stock weights i j p x)) := by
  intro p x h
  rcases h with ⟨h1, h2⟩ | ⟨rfl, h2⟩
  · refine .inl ⟨fun q => ?_, .inl ⟨h1, h2⟩⟩
    obtain ⟨z, hz, rfl⟩ := List.mem_map.mp h2
    have l1 := wordsL_len4 (weights := weights) hsl _ z hz
    have l2 := wordsL_len4 (weights := weights) hsl _ y (List.mem_of_getElem? hy)
    rw [q] at l1; omega
  · refine .inr ⟨rfl, ?_⟩
    rw [List.take_add_one, hy, List.map_append, List.mem_append] at h2
    rcases h2 with h2 | h2
    · exact .inr (.inr ⟨rfl, h2⟩)
    · exact .inl (by simpa using h2)
theorem numbered_get {ds : List Dat} {i : Nat} {d : Dat} (h : (numbered ds)[i]? = some d) : ∃ e, ds[i]? = some e ∧ d = .tuple [.int i, e] := by
  unfold numbered at h
  rw [List.getElem?_map, List.getElem?_zipIdx] at h
  cases e : ds[i]? with
  | none => rw [e] at h; cases h
  | some x => rw [e] at h; exact ⟨x, rfl, by simpa using h.symm⟩

theorem wants_inner {prog : Program} {w : World} {A : Around} {s st : Shared} {L D : Addr} {X : List Addr} {vs vw' vz : Value} {stock : List Str} {weights : List Int} {sizes : List Nat} {i k : Nat} {t u : Tok} {m : Str → Option Value} {Q : Flow → Shared → Prop} (G : Glb (HK w) s.heap) (r : Rm A 1) (hX : Dom X s.heap) (c : Cx s L m st) (hDL : D ≠ L) (hDn : s.heap.get? D = none)
    (hs : Has (vw s.heap X) vs (.list (stock.map .str))) (hw : Has (vw s.heap X) vw' (.list (weights.map .int)))
    (hl : stock.length ≤ 3) (hsl : ∀ x ∈ stock, x.length = 4) (hsa : ∀ x ∈ stock, asciiS x) (hwb : ∀ x ∈ weights, Builtin.Int.intBits x ≤ 64)
    (hk : sizes[i]? = some k) (hk4 : k = 1 ∨ k = 2 ∨ k = 4) (hi : i < 3)
    (W : WantsOk prog w sizes (WP stock weights i 0) st.heap D (i * 27))
    (e1 : m (Str.ofString "part") = some (.int i t)) (e2 : m (Str.ofString "size") = some (.int k u)) (e3 : m (Str.ofString "wants") = some (.ref D)) (e4 : m (Str.ofString "stock") = some vs) (e5 : m (Str.ofString "weights") = some vw') (e6 : m (Str.ofString "sizes") = some vz)
    (hQ : ∀ s' m', Chg (L :: D :: X) st s' → Cx s L m' s' → m' (Str.ofString "wants") = some (.ref D) → m' (Str.ofString "stock") = some vs → m' (Str.ofString "weights") = some vw' → m' (Str.ofString "sizes") = some vz → WantsOk prog w sizes (WP stock weights (i + 1) 0) s'.heap D ((i + 1) * 27) → Q .next s') :
    wpX (model prog w) A (execs (match body66 with | [_, .For _ _ b _ _, _] => b | _ => default) (callEnvC fd66 L 66)) Q st := by
  have hX0 : Dom (L :: D :: X) st.heap := Dom.cons (Dom.cons (hX.chg c.chg) W.dom) (ns_dom c.ns)
  have hfr : ∀ b ∈ L :: D :: X, b ∈ X ∨ s.heap.get? b = none := fun b hb => by
    rcases List.mem_cons.mp hb with rfl | hb
    · exact .inr c.new
    rcases List.mem_cons.mp hb with rfl | hb
    · exact .inr hDn
    · exact .inl hb
  have hcnt := wordsL_count (weights := weights) hl (i + 1)
  have h27 : (wordsL stock weights (i + 1)).length ≤ 27 := Nat.le_trans hcnt (by
    have : 3 ^ (i + 1) ≤ 3 ^ 3 := Nat.pow_le_pow_right (by decide) (by omega)
    simpa using this)
  refine xCons ?_
  refine forIX (X := L :: D :: X) (ds := (wordsL stock weights (i + 1)).map encP) (fun X' j st' => ∃ m', Cx s L m' st' ∧ (m' (Str.ofString "size") = some (.int k u) ∧ m' (Str.ofString "wants") = some (.ref D) ∧ m' (Str.ofString "stock") = some vs ∧ m' (Str.ofString "weights") = some vw' ∧ m' (Str.ofString "sizes") = some vz) ∧
      WantsOk prog w sizes (WP stock weights i j) st'.heap D (i * 27 + j)) ?_ hX0 ?_ ?_ ?_ ?_
  · refine srcList r.hd hX0 fun Q hQ => ?_
    refine callDef (K := HK w) (G.cx c) (.glob (env := callEnvC fd66 L 66) (G.cx c) rfl) ⟨_, _, _, rfl⟩ ?_ (by kernel_rfl)
    refine spliced_more (he := by kernel_rfl) (nL (env := callEnvC fd66 L 66) c e4 ?_)
    refine spliced_more (he := by kernel_rfl) (nL (env := callEnvC fd66 L 66) c e5 ?_)
    refine spliced_more (he := by kernel_rfl) ?_
    refine (IE.add (.name (.loc (env := callEnvC fd66 L 66) c e1)) .const).run st _ _ rfl fun t1 k1 => spliced_none ⟨.toks, ?_⟩
    have ee : ((i : Int) + 1) = ((i + 1 : Nat) : Int) := by omega
    rw [ee]
    have ck := c.on (Chg.toks (s := st) (t := k1))
    refine wpAny_mono (words_spec (s := { st with toks := k1 }) (X := L :: D :: X) (G.cx ck) r hX0 (hs.past ck.chg hfr) (hw.past ck.chg hfr) (by omega) hl (fun x hx => Nat.le_of_eq (hsl x hx)) hwb) (fun v s' q => hQ v s' (Chg.toks.trans q.1) q.2) fun _ _ x => x
  · intro X' s2 g2 h1 h2
    exact ⟨m, c.on g2, ⟨e2, e3, e4, e5, e6⟩, by simpa using W.on g2⟩
  · rintro X' Z j st1 st2 hz1 hz2 hz3 ⟨m', c', e, W'⟩ a
    exact ⟨m', c.stab (.head _) hz2 hz3 c' a, e, W'.go a fun q => hz2 _ q (.tail _ (.head _))⟩
  · intro X' j d v st1 T
    obtain ⟨m', c', ⟨f2, f3, f4, f5, f6⟩, W'⟩ := T.inv
    have hj := T.item
    rw [List.getElem?_map] at hj
    obtain ⟨y, hy, rfl⟩ := Option.map_eq_some_iff.mp hj
    have hmem := List.mem_of_getElem? hy
    have hj27 : j < 27 := Nat.lt_of_lt_of_le (List.getElem?_eq_some_iff.mp hy).1 h27
    have hyl := wordsL_len4 (weights := weights) hsl _ y hmem
    refine unpack2L (env := callEnvC fd66 L 66) r.hd c' T.has fun st2 v1 v2 g2 w2 c2 h1 h2 => ?_
    obtain ⟨t1, rfl⟩ := h1.str_inv
    have hDL' : D ∉ [(callEnvC fd66 L 66).locals] := fun q => hDL (List.mem_singleton.mp q)
    have W2 := W'.go g2.toChw hDL'
    refine wants_turn (i := i) (k := k) (u := u) G r c2 hDL hDn W2 (by omega) hk (WP.step hsl hy) (by omega) ?_ (wordsL_ascii (weights := weights) hsa _ y hmem) (by omega) (by omega) (upd_ne (by decide) upd_eq) (upd_ne (by decide) (upd_ne (by decide) f2)) (upd_ne (by decide) (upd_ne (by decide) f3)) fun s' v g3 c3 W3 => ?_
    · rw [hyl]
      refine Nat.dvd_trans ?_ (Nat.dvd_mul_right 4 (i + 1))
      rcases hk4 with rfl | rfl | rfl <;> decide
    · refine ⟨⟨_, c3, ⟨?_, ?_, ?_, ?_, ?_⟩, W3⟩, (g2.weaken (one_in (.head _))).trans (g3.weaken fun b hb => ?_)⟩
      · exact upd_ne (by decide) (upd_ne (by decide) (upd_ne (by decide) f2))
      · exact upd_ne (by decide) (upd_ne (by decide) (upd_ne (by decide) f3))
      · exact upd_ne (by decide) (upd_ne (by decide) (upd_ne (by decide) f4))
      · exact upd_ne (by decide) (upd_ne (by decide) (upd_ne (by decide) f5))
      · exact upd_ne (by decide) (upd_ne (by decide) (upd_ne (by decide) f6))
      · simp only [List.mem_cons, List.not_mem_nil, or_false] at hb
        rcases hb with rfl | rfl
        · exact .head _
        · exact .tail _ (.head _)
  · rintro X' st1 Lst
    obtain ⟨m', c', ⟨f2, f3, f4, f5, f6⟩, W'⟩ := Lst.inv
    rw [List.length_map] at W'
    refine xNil (hQ st1 m' Lst.chg c' f3 f4 f5 f6 (W'.more (by omega) fun p x q => ?_))
    rcases q with ⟨q1, q2⟩ | ⟨_, q2⟩
    · rcases Nat.lt_or_ge p i with h | h
      · exact .inl ⟨h, q2⟩
      · obtain rfl : p = i := by omega
        exact .inr ⟨rfl, by rw [List.take_length]; exact q2⟩
    · simp at q2

theorem wants_spec {prog : Program} {w : World} {A : Around} {s : Shared} {X : List Addr} {vs vw' vz : Value} {stock : List Str} {weights : List Int} {sizes : List Nat} (G : Glb (HK w) s.heap) (r : Rm A 2) (hX : Dom X s.heap)
    (hs : Has (vw s.heap X) vs (.list (stock.map .str))) (hw : Has (vw s.heap X) vw' (.list (weights.map .int))) (hz : Has (vw s.heap X) vz (.list (sizes.map natD)))
    (hl : stock.length ≤ 3) (hsl : ∀ x ∈ stock, x.length = 4) (hsa : ∀ x ∈ stock, asciiS x) (hwb : ∀ x ∈ weights, Builtin.Int.intBits x ≤ 64) (hk4 : ∀ k ∈ sizes, k = 1 ∨ k = 2 ∨ k = 4) (hzl : sizes.length ≤ 3) :
    wpX (model prog w) A (call (.ref 66) [vs, vw', vz]) (fun r s' => Chg [] s s' ∧ ∃ D, r = .ref D ∧ s.heap.get? D = none ∧ WantsOk prog w sizes (WP stock weights sizes.length 0) s'.heap D 1000) s := by
  refine enterX fd66 [(Str.ofString "stock", vs), (Str.ofString "weights", vw'), (Str.ofString "sizes", vz)] (body := body66) G ⟨_, _, _, rfl⟩ rfl (by rfl) r rfl rfl (by rfl) (by rfl) ?_
  intro L s₁ A' hL r' c ce
  refine xStep ?_
  refine wpAny_Assign_Name (wpAny_Dict_empty ?_)
  have hDn1 : s₁.heap.get? s₁.heap.objs.size = none := get_size_none _
  have hDL : s₁.heap.objs.size ≠ L := fun q => by rw [q] at hDn1; exact ns_dom c.ns hDn1
  have hDn : s.heap.get? s₁.heap.objs.size = none := back c.chg hDn1
  have hDO : (s₁.heap.push { cls := .type "dict", data := .dict #[] }).DictOf (strKind prog w) s₁.heap.objs.size [] := Heap.DictOf.new _
  have g1 : Chg [] s₁ { s₁ with heap := s₁.heap.push { cls := .type "dict", data := .dict #[] } } := .push (t := s₁.toks)
  generalize hh1 : s₁.heap.push { cls := .type "dict", data := .dict #[] } = h1 at hDO g1
  have W1 : WantsOk prog w sizes (WP stock weights 0 0) h1 s₁.heap.objs.size 0 := ⟨[], hDO, Nat.le_refl _, fun p k x _ q => by
    rcases q with ⟨q, _⟩ | ⟨_, q⟩
    · cases q
    · simp at q⟩
  generalize s₁.heap.objs.size = D at hDn1 hDL hDn hDO W1
  refine sL (c.on g1) fun s2 g2 v2 c2 => ?_
  have hDL' : D ∉ [(callEnvC fd66 L 66).locals] := fun q => hDL (List.mem_singleton.mp q)
  have W2 := WantsOk.go (s := { s₁ with heap := h1 }) W1 g2.toChw hDL'
  have hX0 : Dom (L :: D :: X) s2.heap := Dom.cons (Dom.cons (hX.chg c2.chg) W2.dom) (ns_dom c2.ns)
  have hfr : ∀ b ∈ L :: D :: X, b ∈ X ∨ s.heap.get? b = none := fun b hb => by
    rcases List.mem_cons.mp hb with rfl | hb
    · exact .inr c2.new
    rcases List.mem_cons.mp hb with rfl | hb
    · exact .inr hDn
    · exact .inl hb
  refine xCons ?_
  refine forIX (X := L :: D :: X) (ds := numbered (sizes.map natD)) (fun X' i st' => ∃ m', Cx s L m' st' ∧ (m' (Str.ofString "wants") = some (.ref D) ∧ m' (Str.ofString "stock") = some vs ∧ m' (Str.ofString "weights") = some vw' ∧ m' (Str.ofString "sizes") = some vz) ∧
      WantsOk prog w sizes (WP stock weights i 0) st'.heap D (i * 27)) ?_ hX0 ?_ ?_ ?_ ?_
  · exact srcEnum r'.hd hX0 (.bi (env := callEnvC fd66 L 66) (G.cx c2) rfl rfl (by decide)) (.loc (env := callEnvC fd66 L 66) c2 (upd_ne (by decide) rfl)) (hz.past c2.chg hfr)
  · intro X' s3 g3 h1 h2
    exact ⟨_, c2.on g3, ⟨upd_eq, upd_ne (by decide) rfl, upd_ne (by decide) rfl, upd_ne (by decide) rfl⟩, by simpa using W2.on g3⟩
  · rintro X' Z j st1 st2 hz1 hz2 hz3 ⟨m', c', e, W'⟩ a
    exact ⟨m', c2.stab (.head _) hz2 hz3 c' a, e, W'.go a fun q => hz2 _ q (.tail _ (.head _))⟩
  · intro X' i d v st1 T
    obtain ⟨m', c', ⟨f3, f4, f5, f6⟩, W'⟩ := T.inv
    obtain ⟨e, he, rfl⟩ := numbered_get T.item
    rw [List.getElem?_map] at he
    obtain ⟨k, hk, rfl⟩ := Option.map_eq_some_iff.mp he
    have hi3 : i < 3 := Nat.lt_of_lt_of_le (List.getElem?_eq_some_iff.mp hk).1 hzl
    refine unpack2L (env := callEnvC fd66 L 66) r'.hd c' T.has fun st2 v1 v2 g2 w2 c2 h1 h2 => ?_
    obtain ⟨t1, rfl⟩ := h1.int_inv
    obtain ⟨t2, rfl⟩ := Has.int_inv (i := (k : Int)) h2
    have W2 := W'.go g2.toChw hDL'
    refine wants_inner (t := t1) (u := t2) (m := upd (upd m' (Str.ofString "part") (.int i t1)) (Str.ofString "size") (.int k t2)) G r' hX c2 hDL hDn hs hw hl hsl hsa hwb hk (hk4 k (List.mem_of_getElem? hk)) hi3 W2 (upd_ne (by decide) upd_eq) upd_eq (upd_ne (by decide) (upd_ne (by decide) f3)) (upd_ne (by decide) (upd_ne (by decide) f4)) (upd_ne (by decide) (upd_ne (by decide) f5)) (upd_ne (by decide) (upd_ne (by decide) f6)) fun s' m2 g3 c3 f3 f4 f5 f6 W3 => ?_
    exact ⟨⟨m2, c3, ⟨f3, f4, f5, f6⟩, W3⟩, (g2.weaken (one_in (.head _))).trans g3⟩
  · rintro X' st1 Lst
    obtain ⟨m', c', ⟨f3, f4, f5, f6⟩, W'⟩ := Lst.inv
    have hlen : (numbered (sizes.map natD)).length = sizes.length := by simp [numbered]
    rw [hlen] at W'
    refine xStep ?_
    refine wpAny_Return_some ?_
    refine nL (env := callEnvC fd66 L 66) c' f3 ⟨c'.chg, D, rfl, hDn, W'.more (by omega) fun _ _ q => q⟩
end Mine

end
section
-- C8
open PySem PySem.W PyProof.Rows PySem.Calls PySem.Builtin.Str
namespace Mine
set_option maxRecDepth 100000
set_option maxHeartbeats 4000000

noncomputable def fd73 : FuncData := ({ val := _, property := fun _ => rfl } : { fd // ∀ P, fdOf (HX.hd.heap_39 P) 73 = fd }).val
noncomputable def body73 : List Stmt := match fd73.body with | .stmts b => b | _ => []

/-- a list of ints that is changed in place -/
noncomputable def LI (h : Heap) (S : Addr) (ns : List Int) : Prop := ∃ vs n, h.get? S = some (PySem.W.listOf (vs : List Value).toArray n) ∧ ∀ V, HasAll V vs (ns.map .int)
theorem LI.go {s s' : Shared} {S : Addr} {ns : List Int} {X : List Addr} (x : LI s.heap S ns) (a : Chw X s s') (h : S ∉ X) : LI s'.heap S ns := let ⟨vs, n, e, q⟩ := x; ⟨vs, n, a.keep _ _ h e, q⟩
theorem LI.on {s s' : Shared} {S : Addr} {ns : List Int} (x : LI s.heap S ns) (a : Chg [] s s') : LI s'.heap S ns := x.go a.toChw List.not_mem_nil
theorem LI.dom {h : Heap} {S : Addr} {ns : List Int} (x : LI h S ns) : h.get? S ≠ none := let ⟨_, _, e, _⟩ := x; ne_none_of e
theorem LI.of_has {V : Addr → Option Obj} {h : Heap} {X : List Addr} {S : Addr} {ns : List Int} (x : Has (vw h X) (.ref S) (.list (ns.map .int))) : LI h S ns := by
  obtain ⟨a, vs, n, e, hV, hA⟩ := x.lst_inv
  cases e
  exact ⟨vs, n, (vw_some.mp hV).2.1, fun V => hA.flat (flat_ints ns)⟩
theorem LI.has {h : Heap} {X : List Addr} {S : Addr} {ns : List Int} (x : LI h S ns) (hX : S ∉ X) : Has (vw h X) (.ref S) (.list (ns.map .int)) := by
  obtain ⟨vs, n, e, q⟩ := x
  exact .lst (vw_some.mpr ⟨hX, e, rfl⟩) (q _)
theorem HasAll.set {V : Addr → Option Obj} {vs : List Value} {ds : List Dat} {v : Value} {d : Dat} (h : HasAll V vs ds) (hv : Has V v d) (k : Nat) : HasAll V (vs.set k v) (ds.set k d) := by
  induction vs generalizing ds k with
  | nil => cases h; exact .nil
  | cons u vs ih =>
    cases h with
    | cons h r =>
      cases k with
      | zero => exact .cons hv r
      | succ k => exact .cons h (ih r k)
/-- what ellipsis_spec asks of two texts -/
structure EmOk (want got : Str) : Prop where
  hc : Txt.contains want (Str.ofString "...") = true
  h2 : 2 ≤ (Txt.split want (Str.ofString "...")).length
  hn : (Txt.split want (Str.ofString "...")).length ≤ 1000
  hwl : ∀ x ∈ Txt.split want (Str.ofString "..."), x.length ≤ 1000
  hw : want.length ≤ 1000
  hg : got.length ≤ 1000
  hps : (partsBetween want (occurrences want (Str.ofString "...") 0 want.length (want.length + 1)) (Str.ofString "...").length).length ≤ sizeLine
noncomputable def emS (want got : Str) : Bool := emB got (Txt.split want (Str.ofString "..."))
noncomputable def leastG (g : Nat → Bool) (n : Nat) : Nat := match (List.range n).find? (fun i => g (i + 1)) with | some i => i + 1 | none => 0
noncomputable def matchAt (sizes : List Nat) (x : Str) (part : Nat) : Bool := emS (wantS (sizes.getD (part - 1) 0) (takeS (4 * part) x)) x
noncomputable def sumsL (sizes : List Nat) (parts tried : Nat) (ws : List (Str × Int)) : List Int :=
  ws.foldl (fun acc x => acc.set (leastG (matchAt sizes x.1) tried) (acc.getD (leastG (matchAt sizes x.1) tried) 0 + x.2)) (List.replicate (parts + 1) 0)
theorem leastG_le (g : Nat → Bool) (n : Nat) : leastG g n ≤ n := by
  unfold leastG
  split
  · rename_i i h
    have := List.mem_of_find?_eq_some h
    simp at this; omega
  · omega
theorem leastG_hit {g : Nat → Bool} {n i : Nat} (hi : i < n) (h : g (i + 1) = true) (hb : ∀ j, j < i → g (j + 1) = false) : leastG g n = i + 1 := by
  unfold leastG
  have : (List.range n).find? (fun i => g (i + 1)) = some i := by
    rw [List.find?_range_eq_some]
    exact ⟨h, by simpa using hi, fun j hj => by simpa using hb j hj⟩
  rw [this]
theorem leastG_none {g : Nat → Bool} {n : Nat} (hb : ∀ j, j < n → g (j + 1) = false) : leastG g n = 0 := by
  unfold leastG
  have : (List.range n).find? (fun i => g (i + 1)) = none := by
    rw [List.find?_eq_none]; intro j hj; simpa using hb j (by simpa using hj)
  rw [this]

theorem WantsOk.get {prog : Program} {w : World} {A : Around} {E : Value → Shared → Prop} {s : Shared} {sizes : List Nat} {P : Nat → Str → Prop} {D : Addr} {n p k : Nat} {x : Str} {t : Tok} {Q : Value → Shared → Prop} (W : WantsOk prog w sizes P s.heap D n) (hk : sizes[p]? = some k) (hP : P p x)
    (h : ∀ u k', Q (.str (wantS k x) u) { s with toks := k' }) : wpAny (model prog w) A (getItem (.ref D) (.str x t)) Q E s := by
  obtain ⟨kvs, h1, _, h3⟩ := W
  obtain ⟨u, e⟩ := h3 p k x hk hP
  exact wpAny_getItem_of (strKind_is prog w x t) h1.mapOf e (h u _)
theorem WantsOk.typeIs {prog : Program} {w : World} {s : Shared} {sizes : List Nat} {P : Nat → Str → Prop} {D : Addr} {n : Nat} (W : WantsOk prog w sizes P s.heap D n) : s.TypeIs (.ref D) "dict" := by
  obtain ⟨kvs, h1, _, h3⟩ := W
  exact h1.typeIs

theorem wm_run {prog : Program} {w : World} {A : Around} {s : Shared} {env : Env} {sizes : List Nat} {P : Nat → Str → Prop} {D : Addr} {n i k : Nat} {x : Str} {t u : Tok} (G : Glb (HK w) s.heap) (r : Rm A 1) (W : WantsOk prog w sizes P s.heap D n)
    (hk : sizes[i]? = some k) (hP : P i (takeS (4 * (i + 1)) x)) (hx : 4 * (i + 1) ≤ x.length) (hxl : x.length ≤ 1000) (ok : EmOk (wantS k (takeS (4 * (i + 1)) x)) x)
    (r1 : Rd prog w A env s.heap (Str.ofString "_ellipsis_match") (.ref 35)) (r2 : ∀ s', Chg [] s s' → Rd prog w A env s'.heap (Str.ofString "wants") (.ref D)) (r3 : ∀ s', Chg [] s s' → Rd prog w A env s'.heap (Str.ofString "word") (.str x t)) (r4 : ∀ s', Chg [] s s' → Rd prog w A env s'.heap (Str.ofString "part") (.int (i + 1 : Nat) u)) :
    wpAny (model prog w) A (eval (match body73 with | [_, .For _ _ [_, .For _ _ [.If e _ _ _] _ _, _] _ _, _] => e | _ => default) env) (fun v s' => Chg [] s s' ∧ v = .bool (matchAt sizes x (i + 1))) No s := by
  refine callDef (K := HK w) G r1 ⟨_, _, _, rfl⟩ ?_ (by kernel_rfl)
  refine spliced_more (he := by kernel_rfl) ?_
  refine Subscript_ (rd (r2 s (.refl _ _)) rfl ?_)
  refine takeV (j := 4 * (i + 1)) (rd (r3 s (.refl _ _)) rfl ⟨x, t, rfl, hx, hxl, ?_, fun t' s1 g1 => ?_⟩)
  · refine IE.cast (.mul .const (.name (r4 s (.refl _ _))) ?_) (by push_cast; rfl)
    exact IntMulOk.of_left (by decide)
  · refine subscriptTail_builtin (T := "dict") ((W.on g1).typeIs) slot_dict_getitem.lookup ((W.on g1).get hk hP fun u' k' => ?_) (by kernel_rfl) (fun _ => by kernel_rfl)
    refine spliced_more (he := by kernel_rfl) (rd (r3 _ (g1.trans .toks)) rfl (spliced_none ⟨g1.trans .toks, ?_⟩))
    refine wpAny_mono (ellipsis_spec (s := { s1 with toks := k' }) (G.on (g1.trans (.toks (t := k')))) r ok.hc ok.h2 ok.hn ok.hwl ok.hw ok.hg ok.hps) (fun v s2 q => ⟨(g1.trans (.toks (t := k'))).trans q.1, ?_⟩) fun _ _ x => x
    rw [q.2]
    unfold matchAt emS
    rw [Nat.add_sub_cancel, List.getD_eq_getElem?_getD, hk]
    rfl
end Mine

end
section
-- C8b
open PySem PySem.W PyProof.Rows PySem.Calls PySem.Builtin.Str
namespace Mine
set_option maxRecDepth 100000
set_option maxHeartbeats 4000000

theorem LI.get {prog : Program} {w : World} {A : Around} {E : Value → Shared → Prop} {s : Shared} {S : Addr} {ns : List Int} {k : Nat} {t : Tok} {Q : Value → Shared → Prop} (x : LI s.heap S ns) (hk : k < ns.length) (hk2 : k < 2 ^ 60)
    (h : ∀ u, Q (.int (ns.getD k 0) u) s) : wpAny (model prog w) A (getItem (.ref S) (.int k t)) Q E s := by
  obtain ⟨vs, n, e, q⟩ := x
  obtain ⟨v, hv, hh⟩ := (q fun _ => none).at (k := k) (d := .int (ns.getD k 0)) (by rw [List.getElem?_map, List.getD_eq_getElem?_getD]; simp [hk])
  obtain ⟨u, rfl⟩ := hh.int_inv
  exact wpAny_getItem_list ⟨_, e, rfl, n, rfl⟩ (by omega) (by omega) (by simpa using hv) (h u)
theorem LI.set {prog : Program} {w : World} {A : Around} {E : Value → Shared → Prop} {s : Shared} {S : Addr} {ns : List Int} {k : Nat} {i : Int} {t u : Tok} {Q : Unit → Shared → Prop} (x : LI s.heap S ns) (hk : k < ns.length) (hk2 : k < 2 ^ 60)
    (h : ∀ s', Chg [S] s s' → LI s'.heap S (ns.set k i) → Q () s') : wpAny (model prog w) A (setItem (.ref S) (.int k t) (.int i u)) Q E s := by
  obtain ⟨vs, n, e, q⟩ := x
  have hlen : vs.length = ns.length := by have := (q fun _ => none).length; simpa using this
  refine ki_setAt e (by omega) (by omega) (by rw [List.size_toArray, hlen]; omega) ?_
  have hu := PySem.IsL.update (h := s.heap) (l := S) (items := vs.toArray) (n := n) e (fun z => z.setIfInBounds (k : Int).toNat (.int i u))
  have e2 : vs.toArray.setIfInBounds (k : Int).toNat (.int i u) = (vs.set k (.int i u)).toArray := by simp
  have e3 := hu
  rw [e2] at e3
  refine h _ (.same (t := s.toks) (Heap.SameBut.update ..) hu) ⟨vs.set k (.int i u), _, e3, fun V => ?_⟩
  rw [List.map_set]
  exact (q V).set (.int _ _) k

/-- the inner loop -/
theorem sums_least {prog : Program} {w : World} {A : Around} {s st : Shared} {L D S : Addr} {sizes : List Nat} {P : Nat → Str → Prop} {n tried : Nat} {x : Str} {t u tt : Tok} {times : Int} {acc : List Int} {m : Str → Option Value} {Q : Flow → Shared → Prop} (G : Glb (HK w) s.heap) (r : Rm A 1) (c : Cx s L m st) (hDL : D ≠ L) (hSL : S ≠ L)
    (W : WantsOk prog w sizes P st.heap D n) (SI : LI st.heap S acc) (htr : tried ≤ 10)
    (hE : ∀ i, i < tried → ∃ k, sizes[i]? = some k ∧ P i (takeS (4 * (i + 1)) x) ∧ 4 * (i + 1) ≤ x.length ∧ EmOk (wantS k (takeS (4 * (i + 1)) x)) x) (hxl : x.length ≤ 1000)
    (e1 : m (Str.ofString "word") = some (.str x t)) (e2 : m (Str.ofString "times") = some (.int times u)) (e3 : m (Str.ofString "wants") = some (.ref D)) (e4 : m (Str.ofString "sums") = some (.ref S)) (e5 : m (Str.ofString "tried") = some (.int tried tt))
    (hQ : ∀ s' m' tl, Chg [L] st s' → Cx s L m' s' → m' (Str.ofString "times") = some (.int times u) → m' (Str.ofString "wants") = some (.ref D) → m' (Str.ofString "sums") = some (.ref S) → m' (Str.ofString "tried") = some (.int tried tt) →
      m' (Str.ofString "least") = some (.int (leastG (matchAt sizes x) tried) tl) → WantsOk prog w sizes P s'.heap D n → LI s'.heap S acc → wpAny (model prog w) A (execs (match body73 with | [_, .For _ _ b _ _, _] => b.drop 2 | _ => default) (callEnvC fd73 L 73)) Q No s') :
    wpAny (model prog w) A (execs (match body73 with | [_, .For _ _ b _ _, _] => b | _ => default) (callEnvC fd73 L 73)) Q No st := by
  refine wpAny_execs_cons (wpAny_Assign_Name (wpAny_Constant_int ?_))
  refine sL (env := callEnvC fd73 L 73) (c.on .toks) fun s2 g2 v2 c2 => ?_
  have hDL' : D ∉ [(callEnvC fd73 L 73).locals] := fun q => hDL (List.mem_singleton.mp q)
  have hSL' : S ∉ [(callEnvC fd73 L 73).locals] := fun q => hSL (List.mem_singleton.mp q)
  have gk : Chg [] st { st with toks := st.toks + 1 } := .toks
  have W2 := (W.on gk).go g2.toChw hDL'
  have S2 := (SI.on gk).go g2.toChw hSL'
  have gs : Chg [L] st s2 := gk.nil.trans g2
  clear g2 v2 gk
  have hX : Dom [L] s2.heap := Dom.cons (fun b hb => by cases hb) (ns_dom c2.ns)
  refine wpAny_execs_cons ?_
  refine wpAny_mono (forI (R := fun fl s' => fl = .next ∧ ∃ m' tl, Chg [L] s2 s' ∧ Cx s L m' s' ∧ (m' (Str.ofString "times") = some (.int times u) ∧ m' (Str.ofString "wants") = some (.ref D) ∧ m' (Str.ofString "sums") = some (.ref S) ∧ m' (Str.ofString "tried") = some (.int tried tt)) ∧
      m' (Str.ofString "least") = some (.int (leastG (matchAt sizes x) tried) tl) ∧ WantsOk prog w sizes P s'.heap D n ∧ LI s'.heap S acc)
    (X := [L]) (ds := (rng 1 1 tried).map .int) (fun X' i st' => ∃ m' tl, Cx s L m' st' ∧ (m' (Str.ofString "times") = some (.int times u) ∧ m' (Str.ofString "wants") = some (.ref D) ∧ m' (Str.ofString "sums") = some (.ref S) ∧ m' (Str.ofString "tried") = some (.int tried tt)) ∧ m' (Str.ofString "word") = some (.str x t) ∧
      m' (Str.ofString "least") = some (.int 0 tl) ∧ (∀ j, j < i → matchAt sizes x (j + 1) = false) ∧ WantsOk prog w sizes P st'.heap D n ∧ LI st'.heap S acc)
    (srcRange2 (n := tried) r.hd hX (.bi (env := callEnvC fd73 L 73) (G.cx c2) rfl rfl (by decide)) .const (.add (.name (.loc (env := callEnvC fd73 L 73) c2 (upd_ne (by decide) e5))) .const) (by omega) (by omega) (by omega) (by omega)) hX ?_ ?_ ?_ ?_) (fun fl s' q => ?_) fun _ _ x => x
  · intro X' s3 g3 h1 h2
    exact ⟨_, _, c2.on g3, ⟨upd_ne (by decide) e2, upd_ne (by decide) e3, upd_ne (by decide) e4, upd_ne (by decide) e5⟩, upd_ne (by decide) e1, upd_eq, fun j h => absurd h (Nat.not_lt_zero _), W2.on g3, S2.on g3⟩
  · rintro X' Z j st1 st2 hz1 hz2 hz3 ⟨m', tl, c', f1, f2, f3, f4, W', S'⟩ a
    have nz : ∀ {b : Addr}, s2.heap.get? b ≠ none → b ∉ Z := fun h q => h (hz3 _ q)
    exact ⟨m', tl, c2.stab (.head _) hz2 hz3 c' a, f1, f2, f3, f4, W'.go a (nz W2.dom), S'.go a (nz S2.dom)⟩
  · intro X' i d v st1 T
    obtain ⟨m', tl, c', ⟨f1, f2, f3, f4⟩, f5, f6, f7, W', S'⟩ := T.inv
    obtain ⟨hi, rfl⟩ := rng_item T.item
    obtain ⟨ti, rfl⟩ := T.has.int_inv
    have gT : Chg [L] s2 st1 := T.chgX (Y := []) (X := [L]) fun _ h => by cases h
    refine aL (env := callEnvC fd73 L 73) c' fun st2 g2 w2 c2' => ?_
    have W3 := W'.go g2.toChw hDL'
    have S3 := S'.go g2.toChw hSL'
    obtain ⟨k, hk, hP, hx4, ok⟩ := hE i hi
    have ei : ((1 : Int) + i * 1) = ((i + 1 : Nat) : Int) := by push_cast; omega
    rw [ei] at c2'
    refine wpAny_execs_cons (wpAny_If (wpAny_isTrue_value ?_))
    refine wpAny_mono (wm_run (env := callEnvC fd73 L 73) (i := i) (u := ti) (G.cx c2') r W3 hk hP hx4 hxl ok (.glob (G.cx c2') rfl) (fun s' g => .loc (env := callEnvC fd73 L 73) (c2'.on g) (upd_ne (by decide) f2)) (fun s' g => .loc (env := callEnvC fd73 L 73) (c2'.on g) (upd_ne (by decide) f5)) (fun s' g => .loc (env := callEnvC fd73 L 73) (c2'.on g) upd_eq)) (fun v s5 q => ?_) fun _ _ x => x
    obtain ⟨g5, rfl⟩ := q
    refine wpAny_truthy_bool ?_
    have c5 := c2'.on g5
    cases hm : matchAt sizes x (i + 1) with
    | true =>
      refine wpAny_execs_cons (wpAny_Assign_Name (nL (env := callEnvC fd73 L 73) c5 upd_eq ?_))
      refine sL (env := callEnvC fd73 L 73) c5 fun s6 g6 v6 c6 => ?_
      refine wpAny_execs_cons (wpAny_Break ?_)
      refine ⟨rfl, _, ti, ((gT.trans g2).trans g5.nil).trans g6, c6, ⟨upd_ne (by decide) (upd_ne (by decide) f1), upd_ne (by decide) (upd_ne (by decide) f2), upd_ne (by decide) (upd_ne (by decide) f3), upd_ne (by decide) (upd_ne (by decide) f4)⟩, ?_, (W3.on g5).go g6.toChw hDL', (S3.on g5).go g6.toChw hSL'⟩
      rw [leastG_hit hi hm f7]
      exact upd_eq
    | false =>
      refine wpAny_execs_nil (wpAny_execs_nil ?_)
      refine ⟨⟨_, tl, c5, ⟨upd_ne (by decide) f1, upd_ne (by decide) f2, upd_ne (by decide) f3, upd_ne (by decide) f4⟩, upd_ne (by decide) f5, upd_ne (by decide) f6, fun j hj => ?_, W3.on g5, S3.on g5⟩, g2.trans g5.nil⟩
      rcases Nat.lt_or_ge j i with h | h
      · exact f7 j h
      · obtain rfl : j = i := by omega
        exact hm
  · rintro X' st1 Lst
    obtain ⟨m', tl, c', f1, f2, f3, f4, W', S'⟩ := Lst.inv
    rw [List.length_map, rng_length] at f4
    exact ⟨rfl, m', tl, Lst.chg, c', f1, by rw [leastG_none f4]; exact f3, W', S'⟩
  · obtain ⟨rfl, m', tl, g3, c3, ⟨f1, f2, f3, f4⟩, f5, W3, S3⟩ := q
    exact hQ s' m' tl (gs.trans g3) c3 f1 f2 f3 f4 f5 W3 S3
end Mine

end
section
-- C8c
open PySem PySem.W PyProof.Rows PySem.Calls PySem.Builtin.Str
namespace Mine
set_option maxRecDepth 100000
set_option maxHeartbeats 4000000

theorem sumsL_length {sizes : List Nat} {parts tried : Nat} (ws : List (Str × Int)) : (sumsL sizes parts tried ws).length = parts + 1 := by
  unfold sumsL
  have : ∀ (ws : List (Str × Int)) (acc : List Int), (ws.foldl (fun acc x => acc.set (leastG (matchAt sizes x.1) tried) (acc.getD (leastG (matchAt sizes x.1) tried) 0 + x.2)) acc).length = acc.length := fun ws => by
    induction ws with
    | nil => intro acc; rfl
    | cons x ws ih => intro acc; rw [List.foldl_cons, ih, List.length_set]
  rw [this, List.length_replicate]

theorem sums_spec {prog : Program} {w : World} {A : Around} {s : Shared} {X : List Addr} {vws : Value} {D : Addr} {sizes : List Nat} {P : Nat → Str → Prop} {n parts tried : Nat} {ws : List (Str × Int)} {t1 t2 : Tok} (G : Glb (HK w) s.heap) (r : Rm A 2) (hX : Dom X s.heap)
    (hv : Has (vw s.heap X) vws (.list (ws.map encP))) (W : WantsOk prog w sizes P s.heap D n) (hp : parts ≤ 10) (htr : tried ≤ parts)
    (hE : ∀ x ∈ ws, ∀ i, i < tried → ∃ k, sizes[i]? = some k ∧ P i (takeS (4 * (i + 1)) x.1) ∧ 4 * (i + 1) ≤ x.1.length ∧ EmOk (wantS k (takeS (4 * (i + 1)) x.1)) x.1) (hxl : ∀ x ∈ ws, x.1.length ≤ 1000) :
    wpAny (model prog w) A (call (.ref 73) [vws, .ref D, .int parts t1, .int tried t2]) (fun r s' => Chg [] s s' ∧ ∃ S, r = .ref S ∧ s.heap.get? S = none ∧ LI s'.heap S (sumsL sizes parts tried ws)) No s := by
  refine enter fd73 [(Str.ofString "words", vws), (Str.ofString "wants", .ref D), (Str.ofString "parts", .int parts t1), (Str.ofString "tried", .int tried t2)] (body := body73) G ⟨_, _, _, rfl⟩ rfl (by rfl) r rfl rfl (by rfl) (by rfl) ?_
  intro L s₁ A' hL r' c ce
  have hX1 : Dom X s₁.heap := hX.chg c.chg
  have W1 := W.on c.chg
  have hDL : D ≠ L := fun q => W.dom (q ▸ hL)
  refine wpAny_execs_cons (wpAny_Assign_Name (wpAny_BinOp ?_))
  refine listIE (X := X) (ns := [0]) hX1 (.cons .const .nil) (by simp) (by kernel_rfl) fun a s2 g2 _ h2 => ?_
  refine (IE.add (.name (.loc (env := callEnvC fd73 L 73) (c.on g2) rfl)) .const).run s2 _ _ rfl fun t3 k3 => ?_
  refine mulL (s := { s2 with toks := k3 }) (X := X) (hX1.chg (g2.trans (Chg.toks (s := s2) (t := k3)))) h2 (by omega) (by omega) (by simp; omega) fun S s3 g3 hS h3 => ?_
  have g3' : Chg [] s₁ s3 := g2.trans (Chg.trans (Chg.toks (s := s2) (t := k3)) g3)
  have e0 : (List.replicate (((parts : Int) + 1)).toNat ([0].map Dat.int)).flatten = (sumsL sizes parts tried (ws.take 0)).map .int := by
    have : ((parts : Int) + 1).toNat = parts + 1 := by omega
    rw [this, List.take_zero]
    show _ = (List.replicate (parts + 1) (0 : Int)).map Dat.int
    generalize parts + 1 = q
    induction q with
    | zero => rfl
    | succ q ih => rw [List.replicate_succ, List.flatten_cons, ih]; rfl
  rw [e0] at h3
  have SI := LI.of_has (V := fun _ => none) h3
  have hS1 : s₁.heap.get? S = none := back g2 hS
  have hS0 : s.heap.get? S = none := back c.chg hS1
  have hSL : S ≠ L := fun q => by rw [q] at hS1; exact ns_dom c.ns hS1
  have hDS : D ≠ S := fun q => W1.dom (q ▸ hS1)
  refine sL (env := callEnvC fd73 L 73) (c.on g3') fun s4 g4 v4 c4 => ?_
  have hDL' : D ∉ [(callEnvC fd73 L 73).locals] := fun q => hDL (List.mem_singleton.mp q)
  have hSL' : S ∉ [(callEnvC fd73 L 73).locals] := fun q => hSL (List.mem_singleton.mp q)
  have W4 := (W1.on g3').go g4.toChw hDL'
  have S4 := SI.go g4.toChw hSL'
  clear g2 g3 h2 h3 g4 v4 g3' SI W1
  have hX0 : Dom (L :: S :: X) s4.heap := Dom.cons (Dom.cons (hX.chg c4.chg) S4.dom) (ns_dom c4.ns)
  have hfr : ∀ b ∈ L :: S :: X, b ∈ X ∨ s.heap.get? b = none := fun b hb => by
    rcases List.mem_cons.mp hb with rfl | hb
    · exact .inr c4.new
    rcases List.mem_cons.mp hb with rfl | hb
    · exact .inr hS0
    · exact .inl hb
  refine wpAny_execs_cons ?_
  refine forI (X := L :: S :: X) (ds := ws.map encP) (fun X' i st' => ∃ m', Cx s L m' st' ∧ (m' (Str.ofString "wants") = some (.ref D) ∧ m' (Str.ofString "sums") = some (.ref S) ∧ m' (Str.ofString "tried") = some (.int tried t2)) ∧
      WantsOk prog w sizes P st'.heap D n ∧ LI st'.heap S (sumsL sizes parts tried (ws.take i))) ?_ hX0 ?_ ?_ ?_ ?_
  · exact srcList r'.hd hX0 fun Q hQ => nL (env := callEnvC fd73 L 73) c4 (upd_ne (by decide) rfl) (hQ _ _ (.refl _ _) (hv.past c4.chg hfr))
  · intro X' s5 g5 h1 h2
    exact ⟨_, c4.on g5, ⟨upd_ne (by decide) rfl, upd_eq, upd_ne (by decide) rfl⟩, W4.on g5, S4.on g5⟩
  · rintro X' Z j st1 st2 hz1 hz2 hz3 ⟨m', c', f1, W', S'⟩ a
    exact ⟨m', c4.stab (.head _) hz2 hz3 c' a, f1, W'.go a fun q => W4.dom (hz3 _ q), S'.go a fun q => S4.dom (hz3 _ q)⟩
  · intro X' i d v st1 T
    obtain ⟨m', c', ⟨f1, f2, f3⟩, W', S'⟩ := T.inv
    have hj := T.item
    rw [List.getElem?_map] at hj
    obtain ⟨y, hy, rfl⟩ := Option.map_eq_some_iff.mp hj
    have hmem := List.mem_of_getElem? hy
    refine unpack2L (env := callEnvC fd73 L 73) r'.hd c' T.has fun st2 v1 v2 g2 w2 c2 h1 h2 => ?_
    obtain ⟨t1, rfl⟩ := h1.str_inv
    obtain ⟨u1, rfl⟩ := h2.int_inv
    have W2 := W'.go g2.toChw hDL'
    have S2 := S'.go g2.toChw hSL'
    refine sums_least G r' c2 hDL hSL W2 S2 (by omega) (hE y hmem) (hxl y hmem) (upd_ne (by decide) upd_eq) upd_eq (upd_ne (by decide) (upd_ne (by decide) f1)) (upd_ne (by decide) (upd_ne (by decide) f2)) (upd_ne (by decide) (upd_ne (by decide) f3)) fun s5 m5 tl g5 c5 e1 e2 e3 e4 e5 W5 S5 => ?_
    have hle := leastG_le (matchAt sizes y.1) tried
    have hlen := sumsL_length (sizes := sizes) (parts := parts) (tried := tried) (ws.take i)
    refine wpAny_execs_cons (wpAny_AugAssign_Subscript ?_)
    refine nL (env := callEnvC fd73 L 73) c5 e3 ?_
    refine nL (env := callEnvC fd73 L 73) c5 e5 ?_
    refine S5.get (by omega) (by omega) fun u => ?_
    refine nL (env := callEnvC fd73 L 73) c5 e1 ?_
    refine PySem.P.iadd_int ?_
    refine LI.set (s := { s5 with toks := s5.toks + 1 }) S5 (by omega) (by omega) fun s6 g6 S6 => ?_
    have g6' : Chg [S] s5 s6 := (Chg.toks (s := s5) (t := s5.toks + 1)).trans g6
    refine wpAny_execs_nil ?_
    refine ⟨⟨m5, c5.go g6'.toChw (fun q => hSL (List.mem_singleton.mp q).symm) fun b hb => by rw [List.mem_singleton.mp hb]; exact hS0, ⟨e2, e3, e4⟩, W5.go g6'.toChw fun q => hDS (List.mem_singleton.mp q), ?_⟩, ?_⟩
    · have e : sumsL sizes parts tried (ws.take (i + 1)) = (sumsL sizes parts tried (ws.take i)).set (leastG (matchAt sizes y.1) tried) ((sumsL sizes parts tried (ws.take i)).getD (leastG (matchAt sizes y.1) tried) 0 + y.2) := by
        unfold sumsL
        rw [List.take_add_one, hy]
        simp only [Option.toList_some, List.foldl_append, List.foldl_cons, List.foldl_nil]
      rw [e]
      exact S6
    · exact (g2.weaken (one_in (.head _))).trans ((g5.weaken (one_in (.head _))).trans (g6'.weaken (one_in (.tail _ (.head _)))))
  · rintro X' st1 Lst
    obtain ⟨m', c', ⟨f1, f2, f3⟩, W', S'⟩ := Lst.inv
    rw [List.length_map, List.take_length] at S'
    refine wpAny_execs_cons (wpAny_Return_some ?_)
    exact nL (env := callEnvC fd73 L 73) c' f2 ⟨c'.chg, S, rfl, hS0, S'⟩
end Mine

end
section
-- B14
open PySem PySem.W PyProof.Rows PySem.Calls
namespace Mine
set_option maxRecDepth 100000
section
variable {prog : Program} {w : World} {A : Around}

/-- the loop of one clause; W: what an element turns; N: what holds of that -/
theorem compLoopW {α : Type} {elt target iter : Expr} {ifs : List Expr} {gens : List Comprehension} {scope : Scope} {pos : Pos} {depth : Nat} {D : Addr} {env : Env} {H X Y : List Addr} {s₁ s₂ s₃ : Shared} {it : Value}
    {xs : List α} {enc : α → Dat} {p : α → Bool} {f : α → Dat} {W : List Addr} {N : Heap → Prop} {R : Shared → Prop}
    (heq : ∀ it acc, compTurn (.ListComp elt gens scope pos) depth it acc env = (do
      standAt iter.pos
      match ← pyNext it with
      | none => pure (.done .next)
      | some v =>
        letOwnedTupleGo target it v
        assign target env v
        let mut ok := true
        for c in ifs do
          if ok then ok ← isTrue c env (eval c env)
        if ok then
          (do let _ ← call (.builtin "list.append") [acc, ← eval elt env])
        again (.compLoop (.ListComp elt gens scope pos) depth it acc env)))
    (hit : ItsAt prog w A target H s₁ it s₂ (xs.map enc)) (hH : Dom H s₁.heap) (xh : ∀ b ∈ X, b ∈ H) (hY : ∀ b ∈ Y, s₂.heap.get? b = none) (h23 : Chg [] s₂ s₃) (dY : Dom Y s₃.heap)
    (hD : D ∈ Y ++ X) (hW : ∀ b ∈ W, b ∈ Y ++ X) (hDW : D ∉ W) (hN : ∀ h h', N h → (∀ b ∈ W, ∀ o, h.get? b = some o → h'.get? b = some o) → N h')
    (acc0 : s₃.heap.PlainList D #[]) (N0 : N s₃.heap)
    (helt : ∀ X' v s x, (∀ b ∈ Y ++ H, b ∈ X') → (∀ b ∈ X', b ∈ Y ++ H ∨ s₁.heap.get? b = none) → Dom X' s.heap → x ∈ xs → Chg X s₁ s → N s.heap → Has (vw s.heap X') v (enc x) →
      wpAny (model prog w) A (assign target env v) (fun _ s₄ =>
        wpAny (model prog w) A (forIn ifs true fun c r => if r = true then do let ok ← isTrue c env (eval c env); pure (ForInStep.yield ok) else pure (ForInStep.yield r)) (fun ok s₅ => ok = p x ∧
          if p x = true then wpAny (model prog w) A (eval elt env) (fun y s₆ => Has (vw s₆.heap X') y (f x) ∧ Chg W s s₆ ∧ N s₆.heap) No s₅
          else Chg W s s₅ ∧ N s₅.heap) No s₄) No s)
    (hsz : xs.length ≤ sizeLine)
    (fin : ∀ s' vs, s'.heap.PlainList D vs.toArray → HasAll (vw s'.heap (Y ++ H)) vs ((xs.filter p).map f) → N s'.heap → Chg (Y ++ X) s₁ s' → R s') :
    codeAny (model prog w) A (.compLoop (.ListComp elt gens scope pos) depth it (.ref D) env) (fun r s' => r = .ok .next ∧ R s') s₃ := by
  have xh' : ∀ b ∈ Y ++ X, b ∈ Y ++ H := fun b hb => (List.mem_append.mp hb).elim (List.mem_append_left _) fun q => List.mem_append_right _ (xh b q)
  have h03 : Chg [] s₁ s₃ := hit.chg.trans h23
  have n1 : ∀ b ∈ Y, s₁.heap.get? b = none := fun b hb => by
    cases e : s₁.heap.get? b with
    | none => rfl
    | some o => have := hit.chg.kp b o e; rw [hY b hb] at this; cases this
  obtain ⟨inv, n₀, h0, turn⟩ := turns (X := X) Y (fun X' i s => ∃ vs, s.heap.PlainList D vs.toArray ∧ HasAll (vw s.heap X') vs (((xs.take i).filter p).map f) ∧ N s.heap)
    hit hH xh hY h23 dY (fun X' h1 h2 => ⟨[], acc0, by simpa using HasAll.nil, N0⟩) (fun X' Z i s s' hz1 hz2 hz3 hJ a => by
      obtain ⟨vs, h1, h2, h4⟩ := hJ
      exact ⟨vs, h1.at fun o e => a.keep D o (fun q => hz2 D q (xh' D hD)) e, h2.mono (a.vle' hz1), hN _ _ h4 fun b hb o e => a.keep b o (fun q => hz2 _ q (xh' _ (hW b hb))) e⟩)
  refine codeAny_loop rfl inv (fun k s hI => ?_) n₀ h0
  show wpAny _ A ((compTurn (.ListComp elt gens scope pos) depth it (.ref D) env).onRaise (fun x => do noteFrame x env; theTreesLotGoes x)) _ _ s
  refine wpAny_noted ?_
  rw [heq]
  refine wpAny_bind (wpAny_standAt (wpAny_bind (wpAny_mono (turn k s hI _) (fun r s₁' h₁ => ?_) no_noted)))
  cases r with
  | none =>
    obtain ⟨X', hl⟩ := h₁
    obtain ⟨vs, q1, q2, q4⟩ := hl.inv
    refine wpAny_pure ⟨rfl, fin _ vs q1 ?_ q4 hl.chg⟩
    rw [List.length_map, List.take_length] at q2
    exact q2.mono (vle_sub hl.sub)
  | some v =>
    refine wpAny_bind (wpAny_mono (h₁ _) (fun _ s' h' => ?_) no_noted)
    obtain ⟨X', i, d, T, nxt⟩ := h'
    obtain ⟨vs, q1, q2, q4⟩ := T.inv
    obtain ⟨x, hx, rfl⟩ : ∃ x, xs[i]? = some x ∧ enc x = d := by simpa using T.item
    have hmem : x ∈ xs := List.mem_of_getElem? hx
    have hDX' : D ∈ X' := T.sub D (xh' D hD)
    have hWX' : ∀ b ∈ W, b ∈ X' := fun b hb => T.sub b (xh' b (hW b hb))
    refine wpAny_bind (wpAny_mono (helt X' v s' x T.sub T.fresh T.dom hmem (T.chgX n1) q4 T.has) (fun _ s₄ h₄ => wpAny_bind (wpAny_mono h₄ (fun ok s₅ h₅ => ?_) no_noted)) no_noted)
    obtain ⟨rfl, h₅⟩ := h₅
    have tk : (xs.take (i + 1)).filter p = (xs.take i).filter p ++ (if p x then [x] else []) := take_succ_filter p xs i x hx
    have hlen : vs.length ≤ sizeLine := by
      have e1 := q2.length
      have e2 : ((xs.take i).filter p).length ≤ (xs.take i).length := List.length_filter_le _ _
      have e3 : (xs.take i).length ≤ xs.length := by rw [List.length_take]; omega
      simp only [List.length_map] at e1
      omega
    cases hp : p x with
    | false =>
      rw [hp] at h₅
      simp only [Bool.false_eq_true, if_false] at h₅ ⊢
      obtain ⟨hc5, hN5⟩ := h₅
      refine wpAny_pure ⟨rfl, nxt s₅ ⟨vs, q1.at fun o e => hc5.keep D o hDW e, ?_, hN5⟩ (hc5.weaken hW)⟩
      rw [tk, hp]
      simpa using q2.mono (hc5.vle' hWX')
    | true =>
      rw [hp] at h₅
      simp only [if_true] at h₅ ⊢
      refine wpAny_bind (wpAny_bind (wpAny_mono h₅ (fun y s₆ h₆ => ?_) no_noted))
      obtain ⟨hy, hc6, hN6⟩ := h₆
      have hD6 : s₆.heap.PlainList D vs.toArray := q1.at fun o e => hc6.keep D o hDW e
      refine wpAny_bind ?_
      refine wpAny_list_append_plain (hsz := by simpa using hlen) hD6 fun h₇ hl₇ hs₇ => ?_
      refine wpAny_pure ?_
      refine wpAny_pure (And.intro rfl ?_)
      obtain ⟨n7, ho7⟩ := id hl₇
      have a7 : Chg [D] s₆ { s₆ with heap := h₇ } := .same (t := s₆.toks) hs₇ ho7
      refine nxt _ ⟨vs ++ [y], by simpa using hl₇, ?_, hN _ _ hN6 fun b hb o e => hs₇.extBut b o (fun q => hDW (q ▸ hb)) e⟩ ((hc6.weaken hW).trans (a7.weaken fun b hb => by rw [List.mem_singleton.mp hb]; exact hD))
      rw [tk, hp]
      have m7 : VLe (vw s₆.heap X') (vw h₇ X') := a7.vle' fun b hb => by rw [List.mem_singleton.mp hb]; exact hDX'
      have := ((q2.mono (hc6.vle' hWX')).snoc hy).mono m7
      simpa [List.append_assoc] using this

/-- what an element does where the clause's target is a cell -/
noncomputable def EltC (prog : Program) (w : World) (A : Around) {α : Type} (H : List Addr) (s : Shared) (target : Expr) (elt : Expr) (cenv : Addr → Env) (xs : List α) (enc : α → Dat) (f : α → Dat) : Prop :=
  ∀ C X' v s' m cv x, s.heap.get? C = none → s.heap.get? (C + 1) = none → C ∈ X' → C + 1 ∈ X' → (∀ b ∈ H, b ∈ X') → (∀ b ∈ X', b ∈ H ∨ s.heap.get? b = none) → Dom X' s'.heap → x ∈ xs → Chg [] s s' → s'.heap.Ns C m → s'.heap.IsCell (C + 1) cv → Has (vw s'.heap X') v (enc x) →
    wpAny (model prog w) A (assign target (cenv C) v) (fun _ s₄ => wpAny (model prog w) A (eval elt (cenv C)) (fun y s₆ => Has (vw s₆.heap X') y (f x) ∧ Chg [C, C + 1] s' s₆ ∧ (∃ m, s₆.heap.Ns C m) ∧ ∃ cv, s₆.heap.IsCell (C + 1) cv) No s₄) No s'

theorem ListCompC {α : Type} {elt target iter : Expr} {scope : Scope} {cl : List (Str × Addr)} {pos : Pos} {env : Env} {H : List Addr} {s : Shared} {Q : Value → Shared → Prop} {E : Value → Shared → Prop} {y : Str}
    {xs : List α} {enc : α → Dat} (f : α → Dat)
    (hclos : closureFor scope env = pure cl) (hpc : ∀ h, pushCells h scope.names = h.push { cls := .type "cell", data := .cell none }) (hcf : ∀ n, cellsFrom n scope.names cl = (y, n) :: cl) (hkind : scope.kind = .function)
    (hnames : (scope.names.all fun y => y.2 != .local || decide (scope.names.lookup y.1 = some .local)) = true) (hs : ∀ x, foldedSetIterable iter env x = pure x)
    (hH : Dom H s.heap) (src : Src prog w A H target iter env s (xs.map enc)) (helt : EltC prog w A H s target elt (fun C => compEnvC scope ((y, C + 1) :: cl) C env) xs enc f) (hsz : xs.length ≤ sizeLine)
    (hQ : ∀ r s', Chg [] s s' → Has (vw s'.heap H) r (.list (xs.map f)) → Q r s') :
    wpAny (model prog w) A (eval (.ListComp elt [⟨target, iter, [], 0⟩] scope pos) env) Q E s := by
  refine ok_any ?_
  rw [eval_ListComp]
  refine wpAny_comprehension_free (use := none) rfl hs hclos hkind (fun y hy hl => ?_) (src _ fun it s₁ s₂ hs hit => ?_)
  · have := List.all_eq_true.mp hnames y hy
    simpa [hl] using this
  refine wpAny_newObj_type ?_
  simp only [newFunctionEnv, Option.isSome_some, if_true]
  refine wpAny_bind (wpAny_alloc ?_)
  refine wpAny_bind (wpAny_layCells _ (fun name kind cells => by cases hkc : kind == NameKind.cell <;> simp [hkc]) _ _ _ _ ?_)
  dsimp only
  rw [hcf, hpc]
  simp only [List.forIn_nil]
  refine wpAny_bind (wpAny_pure (wpAny_pure ?_))
  dsimp only
  generalize hH2 : s₂.heap.push { cls := .type "list", dict := none, data := .seq ([] : List Value).toArray } = H2
  generalize hH3 : H2.push { cls := .type "dict", data := .dict #[] } = H3
  have hC : H2.objs.size = s₂.heap.objs.size + 1 := by rw [← hH2, Heap.size_push]
  have hC3 : H3.objs.size = H2.objs.size + 1 := by rw [← hH3, Heap.size_push]
  rw [hC3]
  have hDC : s₂.heap.objs.size ≠ H2.objs.size := by rw [hC]; exact Nat.ne_of_lt (Nat.lt_succ_self _)
  have hDc : s₂.heap.objs.size ≠ H2.objs.size + 1 := by rw [hC]; exact Nat.ne_of_lt (Nat.lt_succ_of_lt (Nat.lt_succ_self _))
  have hCc : H2.objs.size ≠ H2.objs.size + 1 := Nat.ne_of_lt (Nat.lt_succ_self _)
  generalize hh₁ : H3.push { cls := .type "cell", data := .cell none } = h₁
  have kp : HLe s₂.heap h₁ := fun b o e => hh₁ ▸ Heap.get?_push_of_some _ (hH3 ▸ Heap.get?_push_of_some _ (hH2 ▸ Heap.get?_push_of_some _ e))
  have hD₁ : h₁.get? s₂.heap.objs.size = some { cls := .type "list", dict := none, data := .seq ([] : List Value).toArray } := hh₁ ▸ Heap.get?_push_of_some _ (hH3 ▸ Heap.get?_push_of_some _ (hH2 ▸ Heap.get?_push_size _ rfl))
  have hn₁ : h₁.Ns H2.objs.size fun _ => none := hh₁ ▸ Heap.Ns.push (hH3 ▸ Heap.Ns.new H2 (.type "dict")) _
  have hc₁ : h₁.IsCell (H2.objs.size + 1) none := ⟨_, by rw [← hC3, ← hh₁]; exact Heap.get?_push_size _ rfl, rfl⟩
  have c23 : Chg [] s₂ { s₂ with heap := h₁ } := .of_le (t := s₂.toks) kp
  have c02 : Chg [] s s₂ := hs.trans hit.chg
  have n2D : s₂.heap.get? s₂.heap.objs.size = none := get_size_none _
  have n2C : s₂.heap.get? H2.objs.size = none := Heap.get?_none_of_le (by rw [hC]; exact Nat.le_succ _)
  have n2c : s₂.heap.get? (H2.objs.size + 1) = none := Heap.get?_none_of_le (by rw [hC]; exact Nat.le_succ_of_le (Nat.le_succ _))
  have bk : ∀ b, s₂.heap.get? b = none → s.heap.get? b = none := fun b e => back c02 e
  have memY : ∀ b, b ∈ [s₂.heap.objs.size, H2.objs.size, H2.objs.size + 1] → s₂.heap.get? b = none := fun b hb => by
    simp only [List.mem_cons, List.not_mem_nil, or_false] at hb
    rcases hb with rfl | rfl | rfl
    · exact n2D
    · exact n2C
    · exact n2c
  show codeAny _ A (.compStart _ 0 it _ (compEnvC scope ((y, H2.objs.size + 1) :: cl) H2.objs.size env)) _ _
  refine compStart_ rfl rfl ?_ fun Q E q => (hit.on c23).self q
  refine codeAny_mono (compLoopW (Y := [s₂.heap.objs.size, H2.objs.size, H2.objs.size + 1]) (X := []) (H := H) (env := compEnvC scope ((y, H2.objs.size + 1) :: cl) H2.objs.size env) (W := [H2.objs.size, H2.objs.size + 1]) (N := fun h => (∃ m, h.Ns H2.objs.size m) ∧ ∃ cv, h.IsCell (H2.objs.size + 1) cv) (p := fun _ => true) (f := f)
    (R := fun s' => compPost (model prog w) A No none Q (.ref s₂.heap.objs.size) H2.objs.size (.ok .next) s') (fun _ _ => rfl) hit (hH.chg hs) (fun _ h => by cases h) memY c23 ?_ (by simp) (by simp) ?_ ?_ ⟨_, hD₁⟩ ⟨⟨_, hn₁⟩, _, hc₁⟩ ?_ (by simpa using hsz) ?_) ?_
  · intro b hb
    simp only [List.mem_cons, List.not_mem_nil, or_false] at hb
    rcases hb with rfl | rfl | rfl
    · exact ne_none_of hD₁
    · exact ns_dom hn₁
    · exact cell_dom hc₁
  · intro q
    simp only [List.mem_cons, List.not_mem_nil, or_false] at q
    exact q.elim hDC hDc
  · rintro h h' ⟨⟨m, hm⟩, cv, hc⟩ k
    refine ⟨⟨m, hm.at' fun o e => k _ (by simp) o e⟩, cv, ?_⟩
    obtain ⟨o, ho, hd⟩ := hc
    exact ⟨o, k _ (by simp) o ho, hd⟩
  · rintro X' v s' x h1 h2 hd hx hc ⟨⟨m, hn⟩, cv, hcv⟩ hv
    have h2' : ∀ b ∈ X', b ∈ H ∨ s.heap.get? b = none := fun b hb => by
      rcases h2 b hb with q | q
      · rcases List.mem_append.mp q with q | q
        · exact .inr (bk b (memY b q))
        · exact .inl q
      · exact .inr (back hs q)
    refine wpAny_mono (helt H2.objs.size X' v s' m cv x (bk _ n2C) (bk _ n2c) (h1 _ (by simp)) (h1 _ (by simp)) (fun b hb => h1 b (List.mem_append_right _ hb)) h2' hd hx (hs.trans hc) hn hcv hv) (fun _ s₄ h₄ => ?_) fun _ _ x => x
    refine wpAny_pure ⟨rfl, ?_⟩
    exact wpAny_mono h₄ (fun y s₆ ⟨a, b, c, d⟩ => ⟨a, b, c, d⟩) fun _ _ x => x
  · rintro s' vs ⟨n, hD'⟩ hA ⟨⟨m, hn⟩, cv, hcv⟩ hc
    have hc0 : Chg [] s s' := (hs.nil.trans hc).shrink fun b hb => .inr (by
      rw [List.append_nil] at hb; exact bk b (memY b hb))
    rw [List.filter_eq_self.mpr fun _ _ => rfl] at hA
    refine ⟨m, hn, fun h' hs' => hQ _ _ ?_ ?_⟩
    · have e : Chw [H2.objs.size] s' { s' with heap := h' } := ⟨rfl, id, fun b o hb e => hs'.extBut b o (fun q => hb (q ▸ List.mem_singleton_self _)) e⟩
      exact Chw.shrink (X := [H2.objs.size]) ((hc0.toChw.weaken (fun _ h => by cases h)).trans e) (fun b hb => .inr (by rw [List.mem_singleton.mp hb]; exact bk _ n2C)) fun _ h => by cases h
    · have hDH : s₂.heap.objs.size ∉ H := fun q => hH _ q (bk _ n2D)
      refine .lst (n := n) (vs := vs) (vw_some.mpr ⟨hDH, hs'.extBut _ _ hDC hD', rfl⟩) (HasAll.mono ?_ hA)
      intro b o e
      obtain ⟨e1, e2, e3⟩ := vw_some.mp e
      simp only [List.cons_append, List.nil_append, List.mem_cons, not_or] at e1
      exact vw_some.mpr ⟨e1.2.2.2, hs'.extBut _ _ e1.2.1 e2, e3⟩
  · rintro r s' ⟨rfl, hr⟩
    exact hr
end
end Mine

end
section
-- B15
open PySem PySem.W PyProof.Rows PySem.Calls
namespace Mine
set_option maxRecDepth 100000

theorem HasAll.strs {V : Addr → Option Obj} {vs : List Value} {xs : List Str} (h : HasAll V vs (xs.map .str)) : StrsAre vs xs := by
  induction vs generalizing xs with
  | nil => cases xs with
    | nil => exact .nil
    | cons x xs => cases h
  | cons v vs ih => cases xs with
    | nil => cases h
    | cons x xs => cases h with
      | cons h r =>
        obtain ⟨t, rfl⟩ := h.str_inv
        exact .cons x t (ih r)
theorem HasAll.ints {V : Addr → Option Obj} {vs : List Value} {xs : List Int} (h : HasAll V vs (xs.map .int)) : IntsAre vs xs := by
  induction vs generalizing xs with
  | nil => cases xs with
    | nil => exact .nil
    | cons x xs => cases h
  | cons v vs ih => cases xs with
    | nil => cases h
    | cons x xs => cases h with
      | cons h r =>
        obtain ⟨t, rfl⟩ := h.int_inv
        exact .cons x t (ih r)
noncomputable def revS (x : Str) : Str := ⟨x.cps.toList.reverse.toArray⟩
theorem rev_slice (x : Str) (u : Tok) : Txt.sliceBy x none none (-1, u) = revS x := by
  have h := step_rev_list x u
  have h2 : (List.range x.length).map (fun k => x.cps.getD (x.length - 1 - k) 0) = x.cps.toList.reverse := by
    refine List.ext_getElem (by simp [Str.length]) fun i h1 h2 => ?_
    have hi : i < x.cps.size := by simpa [Str.length] using h1
    rw [List.getElem_map, List.getElem_range, List.getElem_reverse]
    have : x.length - 1 - i < x.cps.size := by show x.cps.size - 1 - i < _; omega
    have this' : x.cps.size - 1 - i < x.cps.size := this
    simp [Array.getD, this', Str.length]
  rw [h2] at h
  generalize Txt.sliceBy x none none (-1, u) = y at h
  obtain ⟨⟨l⟩⟩ := y
  simp only at h
  subst h
  rfl
section
variable {prog : Program} {w : World} {A : Around} {X : List Addr} {s : Shared} {Q : Value → Shared → Prop} {E : Value → Shared → Prop} {env : Env}
/-- x[::-1] of a text -/
theorem revV {value : Expr} {p p' pu pc : Pos} {kk : Nat} (hx : wpAny (model prog w) A (eval value env) (fun v s₁ => ∃ x t, v = .str x t ∧ x.length ≤ 1000 ∧ ∀ t' s', Chg [] s₁ s' → Q (.str (revS x) t') s') E s)
    (hs : ∀ x r, subscripted (.Slice none none (some (.UnaryOp .USub (.Constant (.int 1) kk pc) pu)) p) false x r = operate [x, r] (getItem x r) := by intro _ _; rfl) 
    (ht : ∀ y t r, letTemporaryGo value (.str y t) r = pure () := by intro _ _ _; rfl) : wpAny (model prog w) A (eval (.Subscript value (.Slice none none (some (.UnaryOp .USub (.Constant (.int 1) kk pc) pu)) p) p') env) Q E s := by
  refine Subscript_ (wpAny_mono hx (fun v s₁ hq => ?_) fun _ _ x => x)
  obtain ⟨x, t, rfl, hl, hQ⟩ := hq
  refine wpAny_Slice (evalPart_none_step (evalPart_none_step (evalPart_some_step ((IE.neg IE.const).run s₁ _ _ rfl fun t1 k1 => ?_))))
  refine tail_of_ItemOn (s := { s₁ with heap := s₁.heap.push _, toks := k1 }) ⟨"str", _, F.slot_str_getitem.lookup, typeIs_str _ _ _, wpAny_getItem_str_slice (l := none) (u := none) (st := some (-1, t1)) ⟨_, Heap.get?_push_size _ rfl, rfl, rfl⟩ rfl
    (post_val_or_str ⟨Nat.le_trans (Txt.sliceBy_le x _ _ (-1, t1) (show (-1 : Int) ≠ 0 by decide)) (Nat.le_trans hl (by decide)), fun t' c => ?_⟩)⟩ (hs _ _) (ht _ _)
  show Q (.str (Txt.sliceBy x none none (-1, t1)) t') _
  rw [rev_slice]
  exact hQ t' _ ((Chg.push (t := k1)).trans .toks)
theorem indexL {l : Addr} {xs : List Str} {x : Str} {t : Tok} (hv : Has (vw s.heap X) (.ref l) (.list (xs.map .str))) (hx : x ∈ xs) (hsz : xs.length ≤ 1000) (h : Q (.int (xs.idxOf x : Nat) s.toks) { s with toks := s.toks + 1 }) :
    wpAny (model prog w) A (call (.builtin "list.index") [.ref l, .str x t]) Q E s := by
  obtain ⟨a, vs, n, e, hV, hA⟩ := hv.lst_inv
  cases e
  obtain ⟨_, ha, _⟩ := vw_some.mp hV
  have hlen : vs.length = xs.length := by have := hA.length; simpa using this
  have hj : xs.idxOf x < xs.length := List.idxOf_lt_length_iff.mpr hx
  have hat : ∀ j (h1 : j < vs.length) (h2 : j < xs.length), ∃ t', vs[j] = .str xs[j] t' := fun j h1 h2 => by
    obtain ⟨v, hv, hh⟩ := hA.at (k := j) (d := .str xs[j]) (by rw [List.getElem?_map, List.getElem?_eq_getElem h2]; rfl)
    obtain ⟨t', rfl⟩ := hh.str_inv
    rw [List.getElem?_eq_getElem h1] at hv
    exact ⟨t', Option.some.inj hv⟩
  refine call_meets PySem.F.slot_list_index ⟨_, ha, rfl⟩ PySem.F.entry_list_index (PySem.F.args_list_index_2 _ _)
    (MeetsSeq.list_index l vs.toArray n (.str x t) (fun y => match y with | .str z _ => z == x | _ => false) (fun y hy => ?_) (xs.idxOf x) (by simpa [hlen] using hj) (by omega) ?_ ?_) ⟨ha, h⟩
  · obtain ⟨i, hi, rfl⟩ := List.mem_iff_getElem.mp (show y ∈ vs by simpa using hy)
    obtain ⟨t', e⟩ := hat i hi (by omega)
    rw [e]
    exact eqGives_str _ _ _ _
  · obtain ⟨t', e⟩ := hat (xs.idxOf x) (by omega) hj
    have e' : vs.toArray[xs.idxOf x]'(by simpa [hlen] using hj) = .str xs[xs.idxOf x] t' := by simpa using e
    rw [e']
    simp [List.getElem_idxOf hj]
  · intro m hm hlt
    obtain ⟨t', e⟩ := hat m (by simpa using hm) (by omega)
    have e' : vs.toArray[m]'hm = .str xs[m] t' := by simpa using e
    rw [e']
    have := List.not_of_lt_findIdx (p := (· == x)) (xs := xs) (i := m) hlt
    simpa using this
theorem joinL {a : Addr} {x : Str} {ys : List Str} {t : Tok} (hv : Has (vw s.heap X) (.ref a) (.list (ys.map .str))) (hsep : x.length ≤ 16) (hw : (ys.map (·.length)).sum + ys.length ≤ 1048576)
    (h : ∀ t' k, Q (.str (Txt.join x ys) t') { s with toks := k }) : wpAny (model prog w) A (call (.builtin "str.join") [.str x t, .ref a]) Q E s := by
  obtain ⟨a', vs, n, e, hV, hA⟩ := hv.lst_inv
  cases e
  obtain ⟨_, ha, _⟩ := vw_some.mp hV
  exact join_listW (items := vs.toArray) ⟨_, ha, rfl, n, rfl⟩ (by simpa using hA.strs) hsep hw h
end
end Mine

end
section
-- C9
open PySem PySem.W PyProof.Rows PySem.Calls
namespace Mine
set_option maxRecDepth 100000
set_option maxHeartbeats 4000000

noncomputable def fd78 : FuncData := ({ val := _, property := fun _ => rfl } : { fd // ∀ P, fdOf (HX.hd.heap_39 P) 78 = fd }).val
noncomputable def body78 : List Stmt := match fd78.body with | .stmts b => b | _ => []
noncomputable def comp78 : Expr := match body78 with | [.Return (some e) _] => e | _ => default
noncomputable def sc78 : Scope := match comp78 with | .ListComp _ _ sc _ => sc | _ => default
noncomputable def elt78 : Expr := match comp78 with | .ListComp e _ _ _ => e | _ => default
noncomputable def inner78 : Expr := match elt78 with | .Call _ [.Call _ [e] _ _] _ _ => e | _ => default
noncomputable def sci78 : Scope := match inner78 with | .ListComp _ _ sc _ => sc | _ => default
/-- the environment of the outer clause -/
noncomputable def env78 (L C : Addr) : Env := compEnvC sc78 ((Str.ofString "cell", C + 1) :: [(Str.ofString "stock", L + 1), (Str.ofString "size", L + 2)]) C (callEnvC fd78 L 78)

noncomputable def piecesS (k : Nat) (x : Str) : List Str := (List.range (4 / k)).map fun i => revS (cutS (i * k) (i * k + k) x)
noncomputable def mateS (k : Nat) (x : Str) : Str := Txt.join ⟨#[]⟩ (piecesS k x)

theorem revS_length (x : Str) : (revS x).length = x.length := by show x.cps.toList.reverse.toArray.size = x.cps.size; simp
theorem cutS_length {i j : Nat} {x : Str} (hj : j ≤ x.length) : (cutS i j x).length = j - i := by
  show ((x.cps.toList.drop i).take (j - i)).toArray.size = _
  have : x.cps.toList.length = x.length := by simp; rfl
  simp [this]; omega

/-- the pieces of one cell -/
theorem mates_pieces {prog : Program} {w : World} {A : Around} {s st : Shared} {L C : Addr} {X : List Addr} {x : Str} {k : Nat} {t u : Tok} {Q : Value → Shared → Prop} (G : Glb (HK w) s.heap) (hh : A.handled = none) (hc : Chg [] s st) (hX : Dom X st.heap) (hk : k = 1 ∨ k = 2 ∨ k = 4) (hx : x.length = 4)
    (k1 : st.heap.IsCell (C + 1) (some (.str x t))) (k2 : st.heap.IsCell (L + 2) (some (.int k u)))
    (hQ : ∀ r s', Chg [] st s' → Has (vw s'.heap X) r (.list ((piecesS k x).map .str)) → Q r s') :
    wpAny (model prog w) A (eval inner78 (env78 L C)) Q No st := by
  have hk0 : 0 < k := by omega
  have h4 : 4 / k * k = 4 := by rcases hk with rfl | rfl | rfl <;> rfl
  have h4k : 4 / k ≤ 4 := Nat.div_le_self _ _
  refine listComp (H := X) (xs := List.range (4 / k)) (enc := fun (i : Nat) => .int (0 + (i : Int) * k)) (cl := [(Str.ofString "size", L + 2), (Str.ofString "cell", C + 1)]) (fun _ => true) (fun i => .str (revS (cutS (i * k) (i * k + k) x))) rfl (by decide) rfl (by decide) (fun _ => rfl) hX ?_ ?_ ?_ ?_
  · have := srcRange3 (target := .Name (Str.ofString "at") ⟨97, 62, 97, 64⟩) (prog := prog) (w := w) (A := A) (X := X) (s := st) (env := env78 L C) (rp := ⟨97, 68, 97, 73⟩) (p := ⟨97, 68, 97, 85⟩) (m := 4 / k) (k := k) (b := 4) (e1 := .Constant (.int 0) 0 ⟨97, 74, 97, 75⟩) (e2 := .Constant (.int 4) 0 ⟨97, 77, 97, 78⟩) (e3 := .Name (Str.ofString "size") ⟨97, 80, 97, 84⟩) hh hX (.bi (env := env78 L C) (G.on hc) rfl rfl (by decide)) .const .const (.name (.cell (env := env78 L C) k2)) hk0 (by omega) (by rw [h4]; rfl) (by omega) (by omega)
    rw [rng, List.map_map] at this
    exact this
  · intro C2 X' v s' m i hC2 hCX hHX hfr hd hi g hn hv
    obtain ⟨ti, rfl⟩ := hv.int_inv
    have hi4 : i < 4 / k := by simpa using hi
    have hik : i * k + k ≤ 4 := by
      have : (i + 1) * k ≤ 4 / k * k := Nat.mul_le_mul_right k hi4
      rw [Nat.add_mul, Nat.one_mul] at this; omega
    refine aN (env := compEnvC sci78 [(Str.ofString "size", L + 2), (Str.ofString "cell", C + 1)] C2 (env78 L C)) hn fun s2 g2 v2 hn2 => ?_
    have q1 : s2.heap.IsCell (C + 1) (some (.str x t)) := cell_ns (cell_on k1 g) hn g2
    have q2 : s2.heap.IsCell (L + 2) (some (.int k u)) := cell_ns (cell_on k2 g) hn g2
    refine wpAny_pure ⟨rfl, ?_⟩
    rw [if_pos rfl]
    have hat : ∀ {p : Pos}, IE prog w A (compEnvC sci78 [(Str.ofString "size", L + 2), (Str.ofString "cell", C + 1)] C2 (env78 L C)) s2.heap (.Name (Str.ofString "at") p) ((i * k : Nat) : Int) := by
      intro p
      refine (IE.name (.ns (env := compEnvC sci78 [(Str.ofString "size", L + 2), (Str.ofString "cell", C + 1)] C2 (env78 L C)) hn2 upd_eq)).cast ?_
      push_cast; omega
    refine revV (cutV (i := i * k) (j := i * k + k) (nC (env := compEnvC sci78 [(Str.ofString "size", L + 2), (Str.ofString "cell", C + 1)] C2 (env78 L C)) q1 ⟨x, t, rfl, by omega, by omega, by omega, hat, ?_, fun t' s3 g3 => ⟨_, t', rfl, ?_, fun t'' s4 g4 => ?_⟩⟩))
    · refine (IE.add hat (.name (.cell (env := compEnvC sci78 [(Str.ofString "size", L + 2), (Str.ofString "cell", C + 1)] C2 (env78 L C)) q2))).cast ?_
      push_cast; omega
    · rw [cutS_length (by omega)]; omega
    · exact ⟨.str _ _, (g2.trans (g3.trans g4).nil), _, hn2.keeps (g3.trans g4).kp⟩
  · rw [List.length_range]; exact Nat.le_trans (by omega : _ ≤ 1000) (by decide)
  · intro r s' g hr
    refine hQ r s' g ?_
    rw [List.filter_eq_self.mpr fun _ _ => rfl] at hr
    unfold piecesS
    rw [List.map_map]
    exact hr
end Mine

end
section
-- C9b
open PySem PySem.W PyProof.Rows PySem.Calls
namespace Mine
set_option maxRecDepth 100000
set_option maxHeartbeats 4000000

theorem piecesS_len {k : Nat} {x : Str} (hk : k = 1 ∨ k = 2 ∨ k = 4) (hx : x.length = 4) : (((piecesS k x).map (·.length)).sum + (piecesS k x).length) ≤ 1048576 := by
  have h : ∀ y ∈ (piecesS k x).map (·.length), y ≤ 4 := by
    intro y hy
    obtain ⟨z, hz, rfl⟩ := List.mem_map.mp hy
    obtain ⟨i, hi, rfl⟩ := List.mem_map.mp hz
    rw [revS_length]
    have hi4 : i < 4 / k := by simpa using hi
    have h4 : 4 / k * k = 4 := by rcases hk with rfl | rfl | rfl <;> rfl
    have hik : i * k + k ≤ 4 := by
      have : (i + 1) * k ≤ 4 / k * k := Nat.mul_le_mul_right k hi4
      rw [Nat.add_mul, Nat.one_mul] at this; omega
    rw [cutS_length (by omega)]; omega
  have hl : (piecesS k x).length ≤ 4 := by
    unfold piecesS; rw [List.length_map, List.length_range]; exact Nat.div_le_self _ _
  have hs : ∀ l : List Nat, (∀ y ∈ l, y ≤ 4) → l.sum ≤ l.length * 4 := fun l => by
    induction l with
    | nil => intro _; simp
    | cons a l ih =>
      intro h
      have h1 := h a (.head _)
      have h2 := ih fun y hy => h y (.tail _ hy)
      simp only [List.sum_cons, List.length_cons]; omega
  have := hs _ h
  rw [List.length_map] at this
  omega

theorem mates_spec {prog : Program} {w : World} {A : Around} {s : Shared} {X : List Addr} {vs : Value} {stock : List Str} {k : Nat} {u : Tok} (G : Glb (HK w) s.heap) (r : Rm A 1) (hX : Dom X s.heap) (hs : Has (vw s.heap X) vs (.list (stock.map .str)))
    (hl : stock.length ≤ 3) (hsl : ∀ x ∈ stock, x.length = 4) (hk : k = 1 ∨ k = 2 ∨ k = 4) (hm : ∀ x ∈ stock, mateS k x ∈ stock) :
    wpAny (model prog w) A (call (.ref 78) [vs, .int k u]) (fun r s' => Chg [] s s' ∧ Has (vw s'.heap X) r (.list (stock.map fun x => .int (stock.idxOf (mateS k x) : Nat)))) No s := by
  refine enter fd78 [(Str.ofString "stock", vs), (Str.ofString "size", .int k u)] (body := body78) G ⟨_, _, _, rfl⟩ rfl (by rfl) r rfl rfl (by rfl) (by rfl) ?_
  intro L s₁ A' hL r' c ce
  have hX1 : Dom X s₁.heap := hX.chg c.chg
  have k1 : s₁.heap.IsCell (L + 1) (some vs) := ce.is (Str.ofString "stock") (L + 1) rfl
  have k2 : s₁.heap.IsCell (L + 2) (some (.int k u)) := ce.is (Str.ofString "size") (L + 2) rfl
  refine wpAny_execs_cons (wpAny_Return_some ?_)
  refine ListCompC (H := X) (y := Str.ofString "cell") (cl := [(Str.ofString "stock", L + 1), (Str.ofString "size", L + 2)]) (xs := stock) (enc := .str) (fun x => .int (stock.idxOf (mateS k x) : Nat)) rfl (fun _ => rfl) (fun _ => rfl) rfl (by decide) (fun _ => rfl) hX1 ?_ ?_ (Nat.le_trans (Nat.le_trans hl (by decide : 3 ≤ 1000)) (by decide)) ?_
  · exact srcList r'.hd hX1 fun Q hQ => nC k1 (hQ vs _ (.refl _ _) (hs.mono c.chg.nil.vle))
  · intro C X' v s' m cv x hC hC1 hCX hC1X hHX hfr hd hx g hn hcv hv
    obtain ⟨tx, rfl⟩ := hv.str_inv
    have k1' := cell_on k1 g
    have k2' := cell_on k2 g
    show wpAny _ A' (assign _ (env78 L C) _) _ No s'
    refine assign_Name (sC (env := env78 L C) hcv fun s2 g2 v2 hc2 => ?_)
    have nL1 : L + 1 ∉ [C + 1] := fun q => by rw [List.mem_singleton.mp q] at k1; exact cell_dom k1 hC1
    have nL2 : L + 2 ∉ [C + 1] := fun q => by rw [List.mem_singleton.mp q] at k2; exact cell_dom k2 hC1
    have q1 := cell_go k1' g2.toChw nL1
    have q2 := cell_go k2' g2.toChw nL2
    have hn2 : s2.heap.Ns C m := hn.at' fun o e => g2.keep _ o (fun q => (cell_ne_ns hcv hn) (List.mem_singleton.mp q).symm) e
    have g02 : Chg [] s₁ s2 := (g.nil.trans g2).shrink fun b hb => .inr (by rw [List.mem_singleton.mp hb]; exact hC1)
    have hfr' : ∀ b ∈ X', b ∈ X ∨ s.heap.get? b = none := fun b hb => (hfr b hb).imp id fun q => back c.chg q
    have c02 := c.on g02
    have hs2 : Has (vw s2.heap X') vs (.list (stock.map .str)) := hs.past c02.chg hfr'
    have hd2 : Dom X' s2.heap := hd.chg g2
    obtain ⟨l, lv, n, rfl, hV, hA⟩ := hs2.lst_inv
    obtain ⟨_, hlo, _⟩ := vw_some.mp hV
    refine MethodCall_ (nC (env := env78 L C) q1 ?_)
    refine getMethod_list_of PySem.F.slot_list_index PySem.F.type_list_index (items := lv.toArray) ⟨_, hlo, rfl, n, rfl⟩ ⟨_, hlo, rfl⟩ ?_
    refine callWith_method1 (spliced_more (he := by kernel_rfl) ?_) (by kernel_rfl) (by kernel_rfl)
    refine MethodCall_ (wpAny_Constant_str ?_)
    refine GM.join (callWith_method1 (spliced_more (he := by kernel_rfl) ?_) (by kernel_rfl) (by kernel_rfl))
    refine mates_pieces (s := s) (L := L) (C := C) (X := X') (k := k) (u := u) G r'.hd (c02.on .toks).chg hd2 hk (hsl x hx) hc2 q2 fun r s3 g3 hr => ?_
    obtain ⟨ra, rvs, rn, rfl, _, _⟩ := hr.lst_inv
    refine spliced_none ?_
    refine joinL (x := ⟨#[]⟩) (s := s3) hr (show (⟨#[]⟩ : Str).length ≤ 16 by decide) (piecesS_len hk (hsl x hx)) ?_
    intro t' k'
    refine spliced_none ?_
    have g3' : Chg [] s2 { s3 with toks := k' } := (Chg.trans (Chg.toks (s := s2)) g3).trans .toks
    refine indexL (X := X') (hs2.mono g3'.nil.vle) (hm x hx) (by omega) ?_
    have g4 : Chg [] s2 { s3 with toks := k' + 1 } := (Chg.trans (Chg.toks (s := s2)) g3).trans .toks
    refine ⟨.int _ _, (g2.weaken (one_in (.tail _ (.head _)))).trans g4.nil, ⟨_, hn2.keeps g4.kp⟩, _, cell_on hc2 g4⟩
  · intro r s' g hr
    exact ⟨c.chg.trans g, hr⟩
end Mine

end
section
-- B16
open PySem PySem.W PyProof.Rows PySem.Calls
namespace Mine
set_option maxRecDepth 100000
section
variable {prog : Program} {w : World} {A : Around} {E : Value → Shared → Prop} {s : Shared} {X : List Addr} {Q : Value → Shared → Prop}
theorem sumL {v : Value} {ns : List Int} (hh : A.handled = none) (hv : Has (vw s.heap X) v (.list (ns.map .int))) (hQ : ∀ t' s', Chg [] s s' → Q (.int ns.sum t') s') : wpAny (model prog w) A (call (.builtin "sum") [v]) Q E s := by
  obtain ⟨l, vs, n, rfl, hV, hA⟩ := hv.lst_inv
  obtain ⟨_, hlo, _⟩ := vw_some.mp hV
  have hl : s.heap.IsList l vs.toArray := ⟨_, hlo, rfl, n, rfl⟩
  have hlen : vs.length = ns.length := by have := hA.length; simpa using this
  have hval : ∀ (i : Nat) (v : Value), vs.toArray[i]? = some v → ∃ t, v = Value.int (ns.getD i 0) t := fun i v e => by
    obtain ⟨d, hd, hh⟩ := hA.get (k := i) (v := v) (by simpa using e)
    rw [List.getElem?_map] at hd
    obtain ⟨x, hx, rfl⟩ := Option.map_eq_some_iff.mp hd
    obtain ⟨t, rfl⟩ := hh.int_inv
    exact ⟨t, by rw [List.getD_eq_getElem?_getD, hx]; rfl⟩
  have old : ∀ {b : Addr} {o : Obj}, s.heap.get? b = some o → b ≠ s.heap.objs.size := fun e => Nat.ne_of_lt (Heap.lt_size e)
  refine call_sum_walkG (wpAny_pyIter_list hl ⟨_, _, _, _, _, _, fun i => ns.getD i 0, rfl, Walks.list (prog := prog) (w := w) (A := A.in1) hh s.heap.objs.size l (old hlo) vs.toArray,
    ⟨⟨_, Heap.get?_push_size _ rfl, rfl, rfl⟩, hl.push _⟩, fun b hb => ?_, hval, fun h' tk t' k => ?_⟩)
  · rw [Heap.size_push]
    simp only [List.mem_cons, List.not_mem_nil, or_false] at hb
    rcases hb with rfl | rfl
    · exact Nat.lt_succ_self _
    · exact Nat.lt_succ_of_lt (Heap.lt_size hlo)
  · rw [preSum_getD, List.size_toArray, hlen, List.take_length]
    exact hQ t' _ (.of_le fun b o e => k b o (fun q => old e (List.mem_singleton.mp q)) (Heap.get?_push_of_some _ e))
end
end Mine

end
section
-- C10a
open PySem PySem.W PyProof.Rows PySem.Calls
namespace Mine
set_option maxRecDepth 100000
set_option maxHeartbeats 4000000

/-- under 2 to the power k -/
noncomputable def Bd (k : Nat) (a : Int) : Prop := a.natAbs < 2 ^ k
theorem Bd.more {k l : Nat} {a : Int} (h : Bd k a) (hl : k ≤ l) : Bd l a := Nat.lt_of_lt_of_le h (Nat.pow_le_pow_right (by decide) hl)
theorem Bd.zero (k : Nat) : Bd k 0 := Nat.pow_pos (by decide)
theorem Bd.one {k : Nat} (h : 1 ≤ k) : Bd k 1 := Nat.lt_of_lt_of_le (by decide : (1 : Nat) < 2 ^ 1) (Nat.pow_le_pow_right (by decide) h)
theorem Bd.mul {k l : Nat} {a b : Int} (ha : Bd k a) (hb : Bd l b) : Bd (k + l) (a * b) := by
  unfold Bd at *
  rw [Int.natAbs_mul, Nat.pow_add]
  exact Nat.mul_lt_mul'' ha hb
theorem Bd.add {k : Nat} {a b : Int} (ha : Bd k a) (hb : Bd k b) : Bd (k + 1) (a + b) := by
  unfold Bd at *
  rw [Nat.pow_succ]
  have := Int.natAbs_add_le a b
  omega
theorem Bd.neg {k : Nat} {a : Int} (ha : Bd k a) : Bd k (-a) := by unfold Bd at *; rwa [Int.natAbs_neg]
theorem Bd.sub {k : Nat} {a b : Int} (ha : Bd k a) (hb : Bd k b) : Bd (k + 1) (a - b) := by rw [Int.sub_eq_add_neg]; exact ha.add hb.neg
theorem Bd.pow {k : Nat} {a : Int} (ha : Bd k a) : ∀ n : Nat, Bd (k * n + 1) (a ^ n)
  | 0 => by rw [Int.pow_zero]; exact Bd.one (by omega)
  | n + 1 => by
    rw [Int.pow_succ]
    exact ((ha.pow n).mul ha).more (by rw [Nat.mul_succ]; omega)
theorem Bd.sum {k : Nat} : ∀ {l : List Int}, (∀ x ∈ l, Bd k x) → Bd (k + l.length) l.sum
  | [], _ => Bd.zero _
  | x :: l, h => by
    have h1 := (h x (.head _)).more (l := k + l.length) (by omega)
    have h2 := Bd.sum (l := l) fun y hy => h y (.tail _ hy)
    rw [List.sum_cons, List.length_cons]
    exact h1.add h2
theorem Bd.bits {k : Nat} {a : Int} (h : Bd k a) : Builtin.Int.intBits a ≤ k := by
  unfold Builtin.Int.intBits
  split
  · exact Nat.zero_le _
  · rename_i h0
    have hn : a.natAbs ≠ 0 := by simpa using h0
    exact (Nat.log2_lt hn).mpr h
theorem Bd.mulOk {k l : Nat} {a b : Int} (ha : Bd k a) (hb : Bd l b) (hk : k ≤ 1000) (hl : l ≤ 1000) : IntMulOk a b :=
  .of_bits (Nat.le_trans ha.bits (by omega)) (Nat.le_trans hb.bits (by omega))
theorem Bd.powOk {k : Nat} {a : Int} {n : Nat} (ha : Bd k a) (hk : k ≤ 100) (hn : n ≤ 10) : Builtin.Int.intTooBig (((Builtin.Int.intBits a : Nat) : Int) * (n : Int)) = false := by
  unfold Builtin.Int.intTooBig
  refine decide_eq_false ?_
  have h1 : Builtin.Int.intBits a * n ≤ 100 * 10 := Nat.mul_le_mul (Nat.le_trans ha.bits hk) hn
  have h2 : ((Builtin.Int.intBits a : Nat) : Int) * (n : Int) = ((Builtin.Int.intBits a * n : Nat) : Int) := by push_cast; rfl
  have h3 : (1000 : Int) ≤ bitsLine := by decide
  omega

noncomputable def worthF (W : List Int) (mate : List Nat) : List Int := (W.zip mate).map fun x => x.1 * W.getD x.2 0
noncomputable def pickF (m mate : List Nat) : List Nat := mate.map fun o => m.getD o 0
noncomputable def acrossF (worth : List Int) (first : List Nat) : List Int := (worth.zip first).map fun x => x.1 * worth.getD x.2 0
noncomputable def lostF (n : Nat) (worth : List Int) (first second : List Nat) : List Int := ((List.range n).filter fun i => first.getD i 0 != i).map fun i => worth.getD i 0 ^ 2 * worth.getD (second.getD i 0) 0
noncomputable def broughtF (W : List Int) (mates : List (List Nat)) (p : Nat) (mate : List Nat) : Int :=
  let worth := worthF W mate
  let first := pickF (mates.getD 0 []) mate
  if p = 1 then worth.sum ^ 2 - (acrossF worth first).sum
  else if p = 2 then worth.sum ^ 3 - worth.sum * (acrossF worth first).sum - (lostF W.length worth first (pickF (mates.getD 1 []) mate)).sum
  else worth.sum
noncomputable def dueF (W : List Int) (mates : List (List Nat)) (count : Nat) (j : Nat) : List Int :=
  (List.range j).foldl (fun acc p => acc.set p (broughtF W mates p (mates.getD p []) * W.sum ^ (count - 2 - 2 * p))) (List.replicate (count / 2) 0)
noncomputable def resF (W : List Int) (mates : List (List Nat)) (count : Nat) : List Int := (W.sum ^ count - (dueF W mates count mates.length).sum) :: dueF W mates count mates.length

theorem dueF_length {W : List Int} {mates : List (List Nat)} {count : Nat} : ∀ j, (dueF W mates count j).length = count / 2
  | 0 => by simp [dueF]
  | j + 1 => by
    unfold dueF
    rw [List.range_succ, List.foldl_append, List.foldl_cons, List.foldl_nil, List.length_set]
    exact dueF_length j
theorem dueF_succ {W : List Int} {mates : List (List Nat)} {count : Nat} (j : Nat) : dueF W mates count (j + 1) = (dueF W mates count j).set j (broughtF W mates j (mates.getD j []) * W.sum ^ (count - 2 - 2 * j)) := by
  unfold dueF
  rw [List.range_succ, List.foldl_append, List.foldl_cons, List.foldl_nil]

/-- what the weights and the mates are asked to be -/
structure MOk (W : List Int) (mates : List (List Nat)) : Prop where
  n : W.length ≤ 3
  w : ∀ x ∈ W, Bd 20 x
  m : ∀ mate ∈ mates, mate.length = W.length ∧ ∀ o ∈ mate, o < W.length
theorem Bd.getD {k : Nat} {l : List Int} (h : ∀ x ∈ l, Bd k x) (i : Nat) : Bd k (l.getD i 0) := by
  rw [List.getD_eq_getElem?_getD]
  cases e : l[i]? with
  | none => exact Bd.zero k
  | some x => exact h x (List.mem_of_getElem? e)
theorem worthF_length {W : List Int} {mate : List Nat} (h : mate.length = W.length) : (worthF W mate).length = W.length := by unfold worthF; rw [List.length_map, List.length_zip]; omega
theorem pickF_length {m mate : List Nat} : (pickF m mate).length = mate.length := by unfold pickF; rw [List.length_map]
theorem worthF_bd {W : List Int} {mate : List Nat} (h : ∀ x ∈ W, Bd 20 x) : ∀ x ∈ worthF W mate, Bd 40 x := fun x hx => by
  obtain ⟨y, hy, rfl⟩ := List.mem_map.mp hx
  exact (h _ (List.of_mem_zip (show (y.1, y.2) ∈ _ from hy)).1).mul (Bd.getD h _)
theorem acrossF_bd {worth : List Int} {first : List Nat} (h : ∀ x ∈ worth, Bd 40 x) : ∀ x ∈ acrossF worth first, Bd 80 x := fun x hx => by
  obtain ⟨y, hy, rfl⟩ := List.mem_map.mp hx
  exact (h _ (List.of_mem_zip (show (y.1, y.2) ∈ _ from hy)).1).mul (Bd.getD h _)
theorem pickF_lt {m mate : List Nat} {n : Nat} (hm : ∀ o ∈ m, o < n) (hl : m.length = n) (hmate : ∀ o ∈ mate, o < n) : ∀ o ∈ pickF m mate, o < n := fun o ho => by
  obtain ⟨y, hy, rfl⟩ := List.mem_map.mp ho
  have := hmate y hy
  rw [List.getD_eq_getElem?_getD, List.getElem?_eq_getElem (by omega)]
  exact hm _ (List.getElem_mem _)

section
variable {prog : Program} {w : World} {A : Around} {X : List Addr} {s : Shared} {env : Env}
theorem srcZip {x y : Str} {zp xp yp p tp : Pos} {elts : List Expr} {k : Nat} {v1 v2 : Value} {d1 d2 : List Dat} (hh : A.handled = none) (hX : Dom X s.heap) (rz : Rd prog w A env s.heap (Str.ofString "zip") (.type "zip")) (r1 : Rd prog w A env s.heap x v1) (r2 : Rd prog w A env s.heap y v2)
    (h1 : Has (vw s.heap X) v1 (.list d1)) (h2 : Has (vw s.heap X) v2 (.list d2))
    (hst : starEach [.Name x xp, .Name y yp] env = (false, eval (.Name x xp) env) :: starEach [.Name y yp] env := by rfl) (hst2 : starEach [.Name y yp] env = (false, eval (.Name y yp) env) :: starEach [] env := by rfl)
    (hpl : (backTo p (starEach [.Name y yp] env)).any (·.1) = false := by rfl) :
    Src prog w A X (.Tuple elts k tp) (.Call (.Name (Str.ofString "zip") zp) [.Name x xp, .Name y yp] [] p) env s ((d1.zip d2).map fun p => .tuple [p.1, p.2]) := by
  intro Q hQ
  exact wpAny_Call_NameR (rd rz rfl (Pv.callWith_type1 (spliced_more (rd r1 rfl (spliced_more (rd r2 rfl (spliced_none (iter_zip hh hX h1 h2 fun it s' hit => hQ it _ s' (.refl _ _) hit))) hst2)) hst) hst hpl))
/-- sum(x) -/
theorem sumE {x : Str} {sp xp p : Pos} {v : Value} {ns : List Int} {Q : Value → Shared → Prop} {E : Value → Shared → Prop} (hh : A.handled = none) (rs : Rd prog w A env s.heap (Str.ofString "sum") (.builtin "sum")) (rx : Rd prog w A env s.heap x v) (hv : Has (vw s.heap X) v (.list (ns.map .int)))
    (hQ : ∀ t' s', Chg [] s s' → Q (.int ns.sum t') s') (hst : starEach [.Name x xp] env = (false, eval (.Name x xp) env) :: starEach [] env := by rfl) : wpAny (model prog w) A (eval (.Call (.Name (Str.ofString "sum") sp) [.Name x xp] [] p) env) Q E s :=
  wpAny_Call_NameR (rd rs rfl (callWith_builtin1 (spliced_more (rd rx rfl (spliced_none (sumL hh hv hQ))) hst) hst))
end
theorem zipNat (W : List Int) (mate : List Nat) : ((W.map Dat.int).zip (mate.map natD)).map (fun p => Dat.tuple [p.1, p.2]) = (W.zip mate).map fun x => Dat.tuple [.int x.1, natD x.2] := by
  rw [List.zip_map, List.map_map]; rfl
end Mine

end
section
-- C10b
open PySem PySem.W PyProof.Rows PySem.Calls
namespace Mine
set_option maxRecDepth 100000
set_option maxHeartbeats 4000000

noncomputable def fd83 : FuncData := ({ val := _, property := fun _ => rfl } : { fd // ∀ P, fdOf (HX.hd.heap_39 P) 83 = fd }).val
noncomputable def body83 : List Stmt := match fd83.body with | .stmts b => b | _ => []
noncomputable def for83 : List Stmt := match body83 with | [_, _, .For _ _ b _ _, _] => b | _ => []
noncomputable abbrev e83 (L : Addr) : Env := callEnvC fd83 L 83

structure DS (s : Shared) (L : Addr) (X' : List Addr) (vs vw' vm : Value) (stock : List Str) (W : List Int) (mates : List (List Nat)) (m : Str → Option Value) (c4 c5 c6 : Option Value) (st : Shared) : Prop where
  cx : Cx s L m st
  k1 : st.heap.IsCell (L + 1) (some vs)
  k2 : st.heap.IsCell (L + 2) (some vw')
  k3 : st.heap.IsCell (L + 3) (some vm)
  k4 : st.heap.IsCell (L + 4) c4
  k5 : st.heap.IsCell (L + 5) c5
  k6 : st.heap.IsCell (L + 6) c6
  hs : Has (vw st.heap X') vs (.list (stock.map .str))
  hw : Has (vw st.heap X') vw' (.list (W.map .int))
  hm : Has (vw st.heap X') vm (.list (mates.map fun m => .list (m.map natD)))
  dm : Dom X' st.heap
  mL : L ∈ X'
  m4 : L + 4 ∈ X'
  m5 : L + 5 ∈ X'
  m6 : L + 6 ∈ X'
  n4 : s.heap.get? (L + 4) = none
  n5 : s.heap.get? (L + 5) = none
  n6 : s.heap.get? (L + 6) = none
theorem addr_ne {L i j : Nat} (h : i ≠ j) : L + i ≠ L + j := fun q => h (Nat.add_left_cancel q)
theorem addr_ne0 {L i : Nat} (h : 0 ≠ i) : L ≠ L + i := fun q => h (Nat.add_left_cancel (Eq.trans (Nat.add_zero L) q))
section
variable {prog : Program} {w : World} {A : Around} {s st s' : Shared} {L : Addr} {X' : List Addr} {vs vw' vm : Value} {stock : List Str} {W : List Int} {mates : List (List Nat)} {m m' : Str → Option Value} {c4 c5 c6 : Option Value} {Q : Flow → Shared → Prop}

theorem DS.on (D : DS s L X' vs vw' vm stock W mates m c4 c5 c6 st) (g : Chg [] st s') : DS s L X' vs vw' vm stock W mates m c4 c5 c6 s' :=
  ⟨D.cx.on g, cell_on D.k1 g, cell_on D.k2 g, cell_on D.k3 g, cell_on D.k4 g, cell_on D.k5 g, cell_on D.k6 g, D.hs.mono g.nil.vle, D.hw.mono g.nil.vle, D.hm.mono g.nil.vle, D.dm.chg g, D.mL, D.m4, D.m5, D.m6, D.n4, D.n5, D.n6⟩
theorem DS.loc (D : DS s L X' vs vw' vm stock W mates m c4 c5 c6 st) (g : Chg [L] st s') (c : Cx s L m' s') : DS s L X' vs vw' vm stock W mates m' c4 c5 c6 s' :=
  have q : VLe (vw st.heap X') (vw s'.heap X') := g.vle' (one_in D.mL)
  ⟨c, cell_ns D.k1 D.cx.ns g, cell_ns D.k2 D.cx.ns g, cell_ns D.k3 D.cx.ns g, cell_ns D.k4 D.cx.ns g, cell_ns D.k5 D.cx.ns g, cell_ns D.k6 D.cx.ns g, D.hs.mono q, D.hw.mono q, D.hm.mono q, D.dm.chg g, D.mL, D.m4, D.m5, D.m6, D.n4, D.n5, D.n6⟩
theorem DS.set4 {v : Option Value} (D : DS s L X' vs vw' vm stock W mates m c4 c5 c6 st) (g : Chg [L + 4] st s') (h : s'.heap.IsCell (L + 4) v) : DS s L X' vs vw' vm stock W mates m v c5 c6 s' :=
  have q : VLe (vw st.heap X') (vw s'.heap X') := g.vle' (one_in D.m4)
  ⟨D.cx.go g.toChw (notIn_one (addr_ne0 (by decide))) (new_one D.n4), cell_go D.k1 g.toChw (notIn_one (addr_ne (by decide))), cell_go D.k2 g.toChw (notIn_one (addr_ne (by decide))), cell_go D.k3 g.toChw (notIn_one (addr_ne (by decide))), h, cell_go D.k5 g.toChw (notIn_one (addr_ne (by decide))), cell_go D.k6 g.toChw (notIn_one (addr_ne (by decide))),
    D.hs.mono q, D.hw.mono q, D.hm.mono q, D.dm.chg g, D.mL, D.m4, D.m5, D.m6, D.n4, D.n5, D.n6⟩
theorem DS.set5 {v : Option Value} (D : DS s L X' vs vw' vm stock W mates m c4 c5 c6 st) (g : Chg [L + 5] st s') (h : s'.heap.IsCell (L + 5) v) : DS s L X' vs vw' vm stock W mates m c4 v c6 s' :=
  have q : VLe (vw st.heap X') (vw s'.heap X') := g.vle' (one_in D.m5)
  ⟨D.cx.go g.toChw (notIn_one (addr_ne0 (by decide))) (new_one D.n5), cell_go D.k1 g.toChw (notIn_one (addr_ne (by decide))), cell_go D.k2 g.toChw (notIn_one (addr_ne (by decide))), cell_go D.k3 g.toChw (notIn_one (addr_ne (by decide))), cell_go D.k4 g.toChw (notIn_one (addr_ne (by decide))), h, cell_go D.k6 g.toChw (notIn_one (addr_ne (by decide))),
    D.hs.mono q, D.hw.mono q, D.hm.mono q, D.dm.chg g, D.mL, D.m4, D.m5, D.m6, D.n4, D.n5, D.n6⟩
theorem DS.set6 {v : Option Value} (D : DS s L X' vs vw' vm stock W mates m c4 c5 c6 st) (g : Chg [L + 6] st s') (h : s'.heap.IsCell (L + 6) v) : DS s L X' vs vw' vm stock W mates m c4 c5 v s' :=
  have q : VLe (vw st.heap X') (vw s'.heap X') := g.vle' (one_in D.m6)
  ⟨D.cx.go g.toChw (notIn_one (addr_ne0 (by decide))) (new_one D.n6), cell_go D.k1 g.toChw (notIn_one (addr_ne (by decide))), cell_go D.k2 g.toChw (notIn_one (addr_ne (by decide))), cell_go D.k3 g.toChw (notIn_one (addr_ne (by decide))), cell_go D.k4 g.toChw (notIn_one (addr_ne (by decide))), cell_go D.k5 g.toChw (notIn_one (addr_ne (by decide))), h,
    D.hs.mono q, D.hw.mono q, D.hm.mono q, D.dm.chg g, D.mL, D.m4, D.m5, D.m6, D.n4, D.n5, D.n6⟩

theorem natD_at {l : List Nat} {i : Nat} (h : i < l.length) : (l.map natD)[i]? = some (.int (l.getD i 0 : Nat)) := by
  rw [List.getElem?_map, List.getD_eq_getElem?_getD, List.getElem?_eq_getElem h]; rfl
theorem int_at {l : List Int} {i : Nat} (h : i < l.length) : (l.map Dat.int)[i]? = some (.int (l.getD i 0)) := by
  rw [List.getElem?_map, List.getD_eq_getElem?_getD, List.getElem?_eq_getElem h]; rfl

/-- worth = [weight * weights[other] for weight, other in zip(weights, mate)] -/
theorem due_worth {mate : List Nat} {vmate : Value} (G : Glb (HK w) s.heap) (hh : A.handled = none) (D : DS s L X' vs vw' vm stock W mates m c4 c5 c6 st) (hW : ∀ x ∈ W, Bd 20 x) (hn : W.length ≤ 3) (hml : mate.length = W.length) (hmt : ∀ o ∈ mate, o < W.length)
    (e : m (Str.ofString "mate") = some vmate) (hmate : Has (vw st.heap X') vmate (.list (mate.map natD)))
    (hQ : ∀ s' v, Chg [L + 4] st s' → DS s L X' vs vw' vm stock W mates m (some v) c5 c6 s' → Has (vw s'.heap X') v (.list ((worthF W mate).map .int)) → Has (vw s'.heap X') vmate (.list (mate.map natD)) → Q .next s') :
    wpAny (model prog w) A (exec (for83.headD default) (e83 L)) Q No st := by
  refine wpAny_Assign_Name ?_
  refine listComp (H := X') (xs := W.zip mate) (enc := fun x => .tuple [.int x.1, natD x.2]) (cl := [(Str.ofString "weights", L + 2)]) (fun _ => true) (fun x => .int (x.1 * W.getD x.2 0)) rfl (by decide) rfl (by decide) (fun _ => rfl) D.dm ?_ ?_ ?_ ?_
  · rw [← zipNat]
    exact srcZip hh D.dm (.bi (env := e83 L) (G.cx D.cx) rfl rfl (by decide)) (.cell (env := e83 L) D.k2) (.loc (env := e83 L) D.cx e) D.hw hmate
  · intro C X2 v s2 m2 x hC hCX hHX hfr hd hx g hn2 hv
    have hmem := List.of_mem_zip (show (x.1, x.2) ∈ W.zip mate from hx)
    refine unpack2N hh hn2 hv fun s3 v1 v2 g3 w3 hn3 h1 h2 => ?_
    obtain ⟨t1, rfl⟩ := h1.int_inv
    obtain ⟨t2, rfl⟩ := Has.int_inv (i := (x.2 : Int)) h2
    have q2 := cell_ns (cell_on D.k2 g) hn2 g3
    have hw2 : Has (vw s3.heap X2) vw' (.list (W.map .int)) := (D.hw.past g hfr).mono (w3 X2)
    refine wpAny_pure ⟨rfl, ?_⟩
    rw [if_pos rfl]
    refine (IE.mul (.name (.ns hn3 (upd_ne (by decide) upd_eq))) (.item (.cell q2) hw2 (.name (.ns hn3 upd_eq)) (by omega) (by have := hmt _ hmem.2; omega) (int_at (by have := hmt _ hmem.2; simpa using this)) (fun _ _ => rfl)) ?_).run s3 _ _ rfl fun t k => ⟨.int _ _, g3.trans .toks, _, hn3⟩
    exact (hW _ hmem.1).mulOk (Bd.getD hW _) (by decide) (by decide)
  · rw [List.length_zip]; exact Nat.le_trans (by omega : _ ≤ 1000) (by decide)
  · intro r s1 g hr
    rw [List.filter_eq_self.mpr fun _ _ => rfl] at hr
    refine sC (env := e83 L) (c := L + 4) (cell_on D.k4 g) fun s3 g3 v3 h3 => ?_
    refine hQ s3 r (g.nil.trans g3) ((D.on g).set4 g3 h3) ?_ ?_
    · have := hr.mono (v3 X')
      unfold worthF
      rw [List.map_map]
      exact this
    · exact (hmate.mono g.nil.vle).mono (v3 X')
end
end Mine

end
section
-- C10c
open PySem PySem.W PyProof.Rows PySem.Calls
namespace Mine
set_option maxRecDepth 100000
set_option maxHeartbeats 4000000

section
variable {prog : Program} {w : World} {A : Around} {s : Shared} {env : Env} {h : Heap} {X : List Addr}
/-- x[i][j], an int -/
theorem IE.item2 {x : Str} {p1 p2 p3 : Pos} {e1 e2 : Expr} {v : Value} {ds es : List Dat} {i j n : Int} (r : Rd prog w A env h x v) (hv : Has (vw h X) v (.list ds)) (h1 : IE prog w A env h e1 i) (i0 : 0 ≤ i) (i1 : i < 2 ^ 63) (hd : ds[i.toNat]? = some (.list es))
    (h2 : IE prog w A env h e2 j) (j0 : 0 ≤ j) (j1 : j < 2 ^ 63) (he : es[j.toNat]? = some (.int n)) (hs1 : ∀ o i, subscripted e1 false o i = operate [o, i] (getItem o i)) (hs2 : ∀ o i, subscripted e2 false o i = operate [o, i] (getItem o i)) :
    IE prog w A env h (.Subscript (.Subscript (.Name x p1) e1 p2) e2 p3) n := by
  refine .of fun s Q E hs hQ => Subscript_ (itemV r hv h1 i0 i1 hd hs (fun u k hu => ?_) hs1)
  obtain ⟨a, vs, m, rfl, hV, hA⟩ := hu.lst_inv
  obtain ⟨_, ha, _⟩ := vw_some.mp hV
  obtain ⟨y, hy, hh⟩ := hA.at he
  obtain ⟨t, rfl⟩ := hh.int_inv
  have hl : s.heap.IsList a vs.toArray := by rw [hs]; exact ⟨_, ha, rfl, m, rfl⟩
  refine h2.run { s with toks := k } _ _ hs fun t' k' => ?_
  exact subscriptTail_builtin_flat (s := { s with toks := k' }) (T := "list") hl.typeIs F.slot_list_getitem.lookup (wpAny_getItem_list hl j0 j1 (by simpa using hy) ⟨fun a e => (by cases e), hQ _ _⟩) (hs2 _ _)
theorem tests1 {c : Expr} {Q : Bool → Shared → Prop} {E : Value → Shared → Prop} (h : wpAny (model prog w) A (isTrue c env (eval c env)) Q E s) : wpAny (model prog w) A (tests [c] env) Q E s := by
  unfold tests
  rw [List.forIn_cons]
  simp only [if_true]
  refine wpAny_bind (wpAny_bind (wpAny_mono h (fun b s1 q => wpAny_pure ?_) fun _ _ x => x))
  simp only [List.forIn_nil]
  exact wpAny_pure q
end
section
variable {prog : Program} {w : World} {A : Around} {s st s' : Shared} {L : Addr} {X' : List Addr} {vs vw' vm : Value} {stock : List Str} {W : List Int} {mates : List (List Nat)} {m m' : Str → Option Value} {c4 c5 c6 : Option Value} {Q : Flow → Shared → Prop}
theorem mate_at {i : Nat} (h : i < mates.length) : (mates.map fun m => Dat.list (m.map natD))[i]? = some (.list ((mates.getD i []).map natD)) := by
  rw [List.getElem?_map, List.getD_eq_getElem?_getD, List.getElem?_eq_getElem h]; rfl
theorem mate_ok (M : MOk W mates) {i : Nat} (h : i < mates.length) : (mates.getD i []).length = W.length ∧ ∀ o ∈ mates.getD i [], o < W.length := by
  rw [List.getD_eq_getElem?_getD, List.getElem?_eq_getElem h]
  exact M.m _ (List.getElem_mem h)

/-- first = [mates[0][other] for other in mate] -/
theorem due_first {mate : List Nat} {vmate : Value} (hh : A.handled = none) (D : DS s L X' vs vw' vm stock W mates m c4 c5 c6 st) (M : MOk W mates) (hm0 : 0 < mates.length) (hml : mate.length = W.length) (hmt : ∀ o ∈ mate, o < W.length)
    (e : m (Str.ofString "mate") = some vmate) (hmate : Has (vw st.heap X') vmate (.list (mate.map natD)))
    (hQ : ∀ s' v, Chg [L + 5] st s' → DS s L X' vs vw' vm stock W mates m c4 (some v) c6 s' → Has (vw s'.heap X') v (.list ((pickF (mates.getD 0 []) mate).map natD)) → Q .next s') :
    wpAny (model prog w) A (exec (match for83 with | [_, _, x, _, _, _, _, _] => x | _ => default) (e83 L)) Q No st := by
  refine wpAny_Assign_Name ?_
  refine listComp (H := X') (xs := mate) (enc := natD) (cl := [(Str.ofString "mates", L + 3)]) (fun _ => true) (fun o => natD ((mates.getD 0 []).getD o 0)) rfl (by decide) rfl (by decide) (fun _ => rfl) D.dm ?_ ?_ ?_ ?_
  · exact srcList hh D.dm fun Q hQ => nL (env := e83 L) D.cx e (hQ vmate _ (.refl _ _) hmate)
  · intro C X2 v s2 m2 x hC hCX hHX hfr hd hx g hn2 hv
    obtain ⟨t1, rfl⟩ := Has.int_inv (i := (x : Int)) hv
    refine aN hn2 fun s3 g3 w3 hn3 => ?_
    have q2 := cell_ns (cell_on D.k3 g) hn2 g3
    have hm2 := (D.hm.past g hfr).mono (w3 X2)
    refine wpAny_pure ⟨rfl, ?_⟩
    rw [if_pos rfl]
    have hxl : x < (mates.getD 0 []).length := by rw [(mate_ok M hm0).1]; exact hmt x hx
    refine (IE.item2 (i := 0) (j := (x : Int)) (.cell q2) hm2 .const (by decide) (by decide) (mate_at (i := 0) hm0) (.name (.ns hn3 upd_eq)) (by omega) (by have := hmt x hx; have := M.n; omega) (natD_at hxl) (fun _ _ => rfl) (fun _ _ => rfl)).run s3 _ _ rfl fun t k => ⟨.int _ _, g3.trans .toks, _, hn3⟩
  · exact Nat.le_trans (by have := M.n; omega : _ ≤ 1000) (by decide)
  · intro r s1 g hr
    rw [List.filter_eq_self.mpr fun _ _ => rfl] at hr
    refine sC (env := e83 L) (c := L + 5) (cell_on D.k5 g) fun s3 g3 v3 h3 => ?_
    refine hQ s3 r (g.nil.trans g3) ((D.on g).set5 g3 h3) ?_
    have := hr.mono (v3 X')
    unfold pickF
    rw [List.map_map]
    exact this

/-- second = [mates[1][other] for other in mate] -/
theorem due_second {mate : List Nat} {vmate : Value} (hh : A.handled = none) (D : DS s L X' vs vw' vm stock W mates m c4 c5 c6 st) (M : MOk W mates) (hm1 : 1 < mates.length) (hml : mate.length = W.length) (hmt : ∀ o ∈ mate, o < W.length)
    (e : m (Str.ofString "mate") = some vmate) (hmate : Has (vw st.heap X') vmate (.list (mate.map natD)))
    (hQ : ∀ s' v, Chg [L + 6] st s' → DS s L X' vs vw' vm stock W mates m c4 c5 (some v) s' → Has (vw s'.heap X') v (.list ((pickF (mates.getD 1 []) mate).map natD)) → Q .next s') :
    wpAny (model prog w) A (exec (match for83 with | [_, _, _, _, _, _, .If _ [x, _, _] _ _, _] => x | _ => default) (e83 L)) Q No st := by
  refine wpAny_Assign_Name ?_
  refine listComp (H := X') (xs := mate) (enc := natD) (cl := [(Str.ofString "mates", L + 3)]) (fun _ => true) (fun o => natD ((mates.getD 1 []).getD o 0)) rfl (by decide) rfl (by decide) (fun _ => rfl) D.dm ?_ ?_ ?_ ?_
  · exact srcList hh D.dm fun Q hQ => nL (env := e83 L) D.cx e (hQ vmate _ (.refl _ _) hmate)
  · intro C X2 v s2 m2 x hC hCX hHX hfr hd hx g hn2 hv
    obtain ⟨t1, rfl⟩ := Has.int_inv (i := (x : Int)) hv
    refine aN hn2 fun s3 g3 w3 hn3 => ?_
    have q2 := cell_ns (cell_on D.k3 g) hn2 g3
    have hm2 := (D.hm.past g hfr).mono (w3 X2)
    refine wpAny_pure ⟨rfl, ?_⟩
    rw [if_pos rfl]
    have hxl : x < (mates.getD 1 []).length := by rw [(mate_ok M hm1).1]; exact hmt x hx
    refine (IE.item2 (i := 1) (j := (x : Int)) (.cell q2) hm2 .const (by decide) (by decide) (mate_at (i := 1) hm1) (.name (.ns hn3 upd_eq)) (by omega) (by have := hmt x hx; have := M.n; omega) (natD_at hxl) (fun _ _ => rfl) (fun _ _ => rfl)).run s3 _ _ rfl fun t k => ⟨.int _ _, g3.trans .toks, _, hn3⟩
  · exact Nat.le_trans (by have := M.n; omega : _ ≤ 1000) (by decide)
  · intro r s1 g hr
    rw [List.filter_eq_self.mpr fun _ _ => rfl] at hr
    refine sC (env := e83 L) (c := L + 6) (cell_on D.k6 g) fun s3 g3 v3 h3 => ?_
    refine hQ s3 r (g.nil.trans g3) ((D.on g).set6 g3 h3) ?_
    have := hr.mono (v3 X')
    unfold pickF
    rw [List.map_map]
    exact this

/-- across = sum([here * worth[other] for here, other in zip(worth, first)]) -/
theorem due_across {worth : List Int} {first : List Nat} {vo vf : Value} (G : Glb (HK w) s.heap) (hh : A.handled = none) (D : DS s L X' vs vw' vm stock W mates m (some vo) (some vf) c6 st) (hB : ∀ x ∈ worth, Bd 40 x) (hn : worth.length ≤ 3) (hfl : first.length = worth.length) (hft : ∀ o ∈ first, o < worth.length)
    (hwo : Has (vw st.heap X') vo (.list (worth.map .int))) (hfi : Has (vw st.heap X') vf (.list (first.map natD)))
    (hQ : ∀ s' t, Chg [L] st s' → DS s L X' vs vw' vm stock W mates (upd m (Str.ofString "across") (.int (acrossF worth first).sum t)) (some vo) (some vf) c6 s' → Q .next s') :
    wpAny (model prog w) A (exec (match for83 with | [_, _, _, x, _, _, _, _] => x | _ => default) (e83 L)) Q No st := by
  refine wpAny_Assign_Name ?_
  refine wpAny_Call_NameR (nB (env := e83 L) (G.cx D.cx) rfl rfl (by decide) (callWith_builtin1 (spliced_more (he := by kernel_rfl) ?_) (by kernel_rfl)))
  refine listComp (H := X') (xs := worth.zip first) (enc := fun x => .tuple [.int x.1, natD x.2]) (cl := [(Str.ofString "worth", L + 4)]) (fun _ => true) (fun x => .int (x.1 * worth.getD x.2 0)) rfl (by decide) rfl (by decide) (fun _ => rfl) D.dm ?_ ?_ ?_ ?_
  · rw [← zipNat]
    exact srcZip hh D.dm (.bi (env := e83 L) (G.cx D.cx) rfl rfl (by decide)) (.cell (env := e83 L) D.k4) (.cell (env := e83 L) D.k5) hwo hfi
  · intro C X2 v s2 m2 x hC hCX hHX hfr hd hx g hn2 hv
    have hmem := List.of_mem_zip (show (x.1, x.2) ∈ worth.zip first from hx)
    refine unpack2N hh hn2 hv fun s3 v1 v2 g3 w3 hn3 h1 h2 => ?_
    obtain ⟨t1, rfl⟩ := h1.int_inv
    obtain ⟨t2, rfl⟩ := Has.int_inv (i := (x.2 : Int)) h2
    have q2 := cell_ns (cell_on D.k4 g) hn2 g3
    have hw2 : Has (vw s3.heap X2) vo (.list (worth.map .int)) := (hwo.past g hfr).mono (w3 X2)
    refine wpAny_pure ⟨rfl, ?_⟩
    rw [if_pos rfl]
    have hx2 := hft _ hmem.2
    refine (IE.mul (.name (.ns hn3 (upd_ne (by decide) upd_eq))) (.item (.cell q2) hw2 (.name (.ns hn3 upd_eq)) (by omega) (by omega) (int_at (by simpa using hx2)) (fun _ _ => rfl)) ?_).run s3 _ _ rfl fun t k => ⟨.int _ _, g3.trans .toks, _, hn3⟩
    exact (hB _ hmem.1).mulOk (Bd.getD hB _) (by decide) (by decide)
  · rw [List.length_zip]; exact Nat.le_trans (by omega : _ ≤ 1000) (by decide)
  · intro r s1 g hr
    rw [List.filter_eq_self.mpr fun _ _ => rfl] at hr
    refine spliced_none ?_
    have e : (worth.zip first).map (fun x => Dat.int (x.1 * worth.getD x.2 0)) = (acrossF worth first).map .int := by unfold acrossF; rw [List.map_map]; rfl
    rw [e] at hr
    refine sumL hh hr fun t' s3 g3 => ?_
    have D3 := D.on (g.trans g3)
    refine sL (env := e83 L) D3.cx fun s4 g4 w4 c4 => ?_
    exact hQ s4 t' ((g.trans g3).nil.trans g4) (D3.loc g4 c4)

/-- lost = [worth[at] ** 2 * worth[second[at]] for at in range(len(stock)) if first[at] != at] -/
theorem due_lost {worth : List Int} {first second : List Nat} {vo vf v2 : Value} (G : Glb (HK w) s.heap) (hh : A.handled = none) (D : DS s L X' vs vw' vm stock W mates m (some vo) (some vf) (some v2) st) (hB : ∀ x ∈ worth, Bd 40 x) (hst : stock.length = W.length) (hn : W.length ≤ 3) (hwl : worth.length = W.length) (hfl : first.length = W.length) (hsl : second.length = W.length) (hs2 : ∀ o ∈ second, o < W.length)
    (hwo : Has (vw st.heap X') vo (.list (worth.map .int))) (hfi : Has (vw st.heap X') vf (.list (first.map natD))) (hse : Has (vw st.heap X') v2 (.list (second.map natD)))
    (hQ : ∀ s' v, Chg [L] st s' → DS s L X' vs vw' vm stock W mates (upd m (Str.ofString "lost") v) (some vo) (some vf) (some v2) s' → Has (vw s'.heap X') v (.list ((lostF W.length worth first second).map .int)) → Q .next s') :
    wpAny (model prog w) A (exec (match for83 with | [_, _, _, _, _, _, .If _ [_, x, _] _ _, _] => x | _ => default) (e83 L)) Q No st := by
  refine assignComp (H := X') (xs := List.range W.length) (enc := fun (i : Nat) => .int (0 + (i : Int) * 1)) (cl := [(Str.ofString "worth", L + 4), (Str.ofString "second", L + 6), (Str.ofString "first", L + 5)]) (fun i => first.getD i 0 != i) (fun i => .int (worth.getD i 0 ^ 2 * worth.getD (second.getD i 0) 0)) (env := e83 L) D.cx rfl rfl (by decide) rfl (by decide) (fun _ => rfl) D.dm ?_ ?_ ?_ ?_
  · have e : (List.range W.length).map (fun (i : Nat) => Dat.int (0 + (i : Int) * 1)) = (rng 0 1 stock.length).map .int := by rw [rng, List.map_map, hst]; rfl
    rw [e]
    have hl : (stock.map Dat.str).length = stock.length := List.length_map ..
    rw [← hl]
    exact srcRange1 hh D.dm (.bi (env := e83 L) (G.cx D.cx) rfl rfl (by decide)) (IE.lenL (.bi (env := e83 L) (G.cx D.cx) rfl rfl (by decide)) (.cell (env := e83 L) D.k1) D.hs (by rw [List.length_map]; omega)) (by rw [List.length_map]; omega)
  · intro C X2 v s2 m2 i hC hCX hHX hfr hd hi g hn2 hv
    obtain ⟨t1, rfl⟩ := Has.int_inv (i := 0 + (i : Int) * 1) hv
    have ei : 0 + (i : Int) * 1 = (i : Int) := by omega
    rw [ei]
    have hin : i < W.length := by simpa using hi
    refine aN hn2 fun s3 g3 w3 hn3 => ?_
    have q4 := cell_ns (cell_on D.k4 g) hn2 g3
    have q5 := cell_ns (cell_on D.k5 g) hn2 g3
    have q6 := cell_ns (cell_on D.k6 g) hn2 g3
    have h4 := (hwo.past g hfr).mono (w3 X2)
    have h5 := (hfi.past g hfr).mono (w3 X2)
    have h6 := (hse.past g hfr).mono (w3 X2)
    refine tests1 (wpAny_isTrue_Compare1 ?_)
    refine (IE.item (i := (i : Int)) (.cell q5) h5 (.name (.ns hn3 upd_eq)) (by omega) (by omega) (natD_at (i := i) (by omega)) (fun _ _ => rfl)).run s3 _ _ rfl fun t k => ?_
    refine nN (s := { s3 with toks := k }) hn3 upd_eq ?_
    refine PySem.P.ne_int (wpAny_truthy_bool ?_)
    have en : (((first.getD i 0 : Nat) : Int) != (i : Int)) = (first.getD i 0 != i) := by
      by_cases q : first.getD i 0 = i
      · rw [q]; simp
      · have : ¬ ((first.getD i 0 : Nat) : Int) = (i : Int) := by omega
        simp only [bne, beq_eq_false_iff_ne.mpr q, beq_eq_false_iff_ne.mpr this]
    refine ⟨en, ?_⟩
    split
    · have hsi : second.getD i 0 < W.length := hs2 _ (by rw [List.getD_eq_getElem?_getD, List.getElem?_eq_getElem (by omega)]; exact List.getElem_mem _)
      have hb := Bd.getD hB i
      refine (IE.mul (.pow (.item (i := (i : Int)) (.cell q4) h4 (.name (.ns hn3 upd_eq)) (by omega) (by omega) (int_at (i := i) (by omega)) (fun _ _ => rfl)) .const (by decide) (hb.powOk (n := 2) (by decide) (by decide)))
        (.item (i := (second.getD i 0 : Nat)) (.cell q4) h4 (.item (i := (i : Int)) (.cell q6) h6 (.name (.ns hn3 upd_eq)) (by omega) (by omega) (natD_at (i := i) (by omega)) (fun _ _ => rfl)) (by omega) (by omega) (int_at (i := second.getD i 0) (by omega)) (fun _ _ => rfl)) ?_).run { s3 with toks := k } _ _ rfl fun t' k' => ⟨.int _ _, g3.trans (.toks (t := k')), _, hn3⟩
      exact (hb.pow 2).mulOk (Bd.getD hB _) (by decide) (by decide)
    · exact ⟨g3.trans (.toks (t := k)), _, hn3⟩
  · rw [List.length_range]; exact Nat.le_trans (by omega : _ ≤ 1000) (by decide)
  · intro r s1 g c1 hr
    refine hQ s1 r g (D.loc g c1) ?_
    unfold lostF
    rw [List.map_map]
    exact hr
end
end Mine

end
section
-- C10d
open PySem PySem.W PyProof.Rows PySem.Calls
namespace Mine
set_option maxRecDepth 100000
set_option maxHeartbeats 4000000

section
variable {prog : Program} {w : World} {A : Around} {s st s' : Shared} {L Dd : Addr} {X' : List Addr} {vs vw' vm : Value} {stock : List Str} {W : List Int} {mates : List (List Nat)} {m m' : Str → Option Value} {c4 c5 c6 : Option Value} {Q : Flow → Shared → Prop}

theorem DS.setD (D : DS s L X' vs vw' vm stock W mates m c4 c5 c6 st) (g : Chg [Dd] st s') (hm : Dd ∈ X') (hn : s.heap.get? Dd = none) (hne : Dd ≠ L ∧ Dd ≠ L + 1 ∧ Dd ≠ L + 2 ∧ Dd ≠ L + 3 ∧ Dd ≠ L + 4 ∧ Dd ≠ L + 5 ∧ Dd ≠ L + 6) : DS s L X' vs vw' vm stock W mates m c4 c5 c6 s' :=
  have q : VLe (vw st.heap X') (vw s'.heap X') := g.vle' (one_in hm)
  ⟨D.cx.go g.toChw (notIn_one (Ne.symm hne.1)) (new_one hn), cell_go D.k1 g.toChw (notIn_one (Ne.symm hne.2.1)), cell_go D.k2 g.toChw (notIn_one (Ne.symm hne.2.2.1)), cell_go D.k3 g.toChw (notIn_one (Ne.symm hne.2.2.2.1)), cell_go D.k4 g.toChw (notIn_one (Ne.symm hne.2.2.2.2.1)), cell_go D.k5 g.toChw (notIn_one (Ne.symm hne.2.2.2.2.2.1)), cell_go D.k6 g.toChw (notIn_one (Ne.symm hne.2.2.2.2.2.2)),
    D.hs.mono q, D.hw.mono q, D.hm.mono q, D.dm.chg g, D.mL, D.m4, D.m5, D.m6, D.n4, D.n5, D.n6⟩

/-- the names that a turn reads and leaves -/
structure NM (m : Str → Option Value) (Dd : Addr) (W : List Int) (count : Nat) (tw tc : Tok) : Prop where
  whole : m (Str.ofString "whole") = some (.int W.sum tw)
  count : m (Str.ofString "count") = some (.int count tc)
  due : m (Str.ofString "due") = some (.ref Dd)
theorem NM.upd {Dd : Addr} {count : Nat} {tw tc : Tok} {x : Str} {v : Value} (h : NM m Dd W count tw tc) (h1 : Str.ofString "whole" ≠ x := by decide) (h2 : Str.ofString "count" ≠ x := by decide) (h3 : Str.ofString "due" ≠ x := by decide) : NM (upd m x v) Dd W count tw tc :=
  ⟨upd_ne h1 h.whole, upd_ne h2 h.count, upd_ne h3 h.due⟩

/-- due[part] = brought * whole ** (count - 2 - 2 * part) -/
theorem due_store {p count : Nat} {b : Int} {acc : List Int} {tw tc tp tb : Tok} (D : DS s L X' vs vw' vm stock W mates m c4 c5 c6 st) (N : NM m Dd W count tw tc) (hp3 : p < 3) (hcount : 2 * p + 2 ≤ count) (hc6 : count ≤ 6) (hWs : Bd 23 W.sum) (hb : Bd 300 b)
    (e1 : m (Str.ofString "part") = some (.int p tp)) (e2 : m (Str.ofString "brought") = some (.int b tb)) (SI : LI st.heap Dd acc) (hacc : p < acc.length) (hm : Dd ∈ X') (hn : s.heap.get? Dd = none) (hne : Dd ≠ L ∧ Dd ≠ L + 1 ∧ Dd ≠ L + 2 ∧ Dd ≠ L + 3 ∧ Dd ≠ L + 4 ∧ Dd ≠ L + 5 ∧ Dd ≠ L + 6)
    (hQ : ∀ s', Chg [Dd] st s' → DS s L X' vs vw' vm stock W mates m c4 c5 c6 s' → LI s'.heap Dd (acc.set p (b * W.sum ^ (count - 2 - 2 * p))) → Q .next s') :
    wpAny (model prog w) A (execs (for83.drop 7) (e83 L)) Q No st := by
  refine wpAny_execs_cons (wpAny_Assign_Subscript ?_)
  have ee : (count : Int) - 2 - 2 * (p : Int) = ((count - 2 - 2 * p : Nat) : Int) := by omega
  refine (IE.mul (.name (.loc (env := e83 L) D.cx e2)) (.pow (.name (.loc (env := e83 L) D.cx N.whole)) (IE.cast (.sub (.sub (.name (.loc (env := e83 L) D.cx N.count)) .const) (.mul .const (.name (.loc (env := e83 L) D.cx e1)) (.of_left (by decide)))) ee) (by omega) (hWs.powOk (by decide) (by omega))) ?_).run st _ _ rfl fun t k => ?_
  · rw [Int.toNat_natCast]
    exact hb.mulOk (hWs.pow _) (by decide) (by omega)
  · rw [Int.toNat_natCast]
    have D2 := D.on (Chg.toks (s := st) (t := k))
    refine nL (env := e83 L) D2.cx N.due ?_
    refine nL (env := e83 L) D2.cx e1 ?_
    refine LI.set (s := { st with toks := k }) SI hacc (by omega) fun s6 g6 S6 => ?_
    have g6' : Chg [Dd] st s6 := (Chg.toks (s := st) (t := k)).trans g6
    exact wpAny_execs_nil (hQ s6 g6' (D.setD g6' hm hn hne) S6)

theorem due_turn {p count : Nat} {mate : List Nat} {vmate : Value} {acc : List Int} {tw tc tp : Tok} (G : Glb (HK w) s.heap) (hh : A.handled = none) (D : DS s L X' vs vw' vm stock W mates m c4 c5 c6 st) (M : MOk W mates) (hst : stock.length = W.length) (hp : mates[p]? = some mate) (N : NM m Dd W count tw tc) (hp3 : p < 3) (hcount : 2 * p + 2 ≤ count) (hc6 : count ≤ 6)
    (e1 : m (Str.ofString "part") = some (.int p tp)) (e2 : m (Str.ofString "mate") = some vmate) (hmate : Has (vw st.heap X') vmate (.list (mate.map natD))) (SI : LI st.heap Dd acc) (hacc : p < acc.length) (hm : Dd ∈ X') (hn : s.heap.get? Dd = none) (hne : Dd ≠ L ∧ Dd ≠ L + 1 ∧ Dd ≠ L + 2 ∧ Dd ≠ L + 3 ∧ Dd ≠ L + 4 ∧ Dd ≠ L + 5 ∧ Dd ≠ L + 6)
    (hQ : ∀ s' m' c4' c5' c6', Chg [L, L + 4, L + 5, L + 6, Dd] st s' → DS s L X' vs vw' vm stock W mates m' c4' c5' c6' s' → NM m' Dd W count tw tc → LI s'.heap Dd (acc.set p (broughtF W mates p mate * W.sum ^ (count - 2 - 2 * p))) → Q .next s') :
    wpAny (model prog w) A (execs for83 (e83 L)) Q No st := by
  have hpl : p < mates.length := (List.getElem?_eq_some_iff.mp hp).1
  have hm0 : 0 < mates.length := Nat.lt_of_le_of_lt (Nat.zero_le _) hpl
  obtain ⟨hml, hmt⟩ := M.m mate (List.mem_of_getElem? hp)
  have hWs : Bd 23 W.sum := (Bd.sum M.w).more (by have := M.n; omega)
  have hwl : (worthF W mate).length = W.length := worthF_length hml
  have hwB := worthF_bd (mate := mate) M.w
  obtain ⟨f0l, f0t⟩ := mate_ok M hm0
  have hfl : (pickF (mates.getD 0 []) mate).length = W.length := by rw [pickF_length, hml]
  have hft := pickF_lt f0t f0l hmt
  have nd : ∀ {b : Addr}, Dd ≠ b → Dd ∉ [b] := fun h => notIn_one h
  have htB : Bd 43 (worthF W mate).sum := (Bd.sum hwB).more (by have := M.n; omega)
  have haB : Bd 83 (acrossF (worthF W mate) (pickF (mates.getD 0 []) mate)).sum := (Bd.sum (acrossF_bd hwB)).more (by unfold acrossF; rw [List.length_map, List.length_zip]; have := M.n; omega)
  -- worth
  refine wpAny_execs_cons (due_worth G hh D M.w M.n hml hmt e2 hmate fun s1 v1 g1 D1 h1 hmate1 => ?_)
  have S1 := SI.go g1.toChw (nd hne.2.2.2.2.1)
  -- total
  refine wpAny_execs_cons (wpAny_Assign_Name ?_)
  refine sumE hh (.bi (env := e83 L) (G.cx D1.cx) rfl rfl (by decide)) (.cell (env := e83 L) D1.k4) h1 (fun t2 s2 g2 => ?_) (by kernel_rfl)
  refine sL (env := e83 L) (D1.on g2).cx fun s3 g3 w3 c3 => ?_
  have D3 := (D1.on g2).loc g3 c3
  have S3 := (S1.on g2).go g3.toChw (nd hne.1)
  have h3 := (h1.mono g2.nil.vle).mono (w3 X')
  have hmate3 := (hmate1.mono g2.nil.vle).mono (w3 X')
  have g03 : Chg [L, L + 4] st s3 := (g1.weaken (one_in (.tail _ (.head _)))).trans (g2.nil.trans (g3.weaken (one_in (.head _))))
  -- first
  refine wpAny_execs_cons (due_first hh D3 M hm0 hml hmt (upd_ne (by decide) e2) hmate3 fun s4 v4 g4 D4 h4 => ?_)
  have S4 := S3.go g4.toChw (nd hne.2.2.2.2.2.1)
  have hw4 := h3.mono (g4.vle' (one_in D3.m5))
  have hmate4 := hmate3.mono (g4.vle' (one_in D3.m5))
  -- across
  refine wpAny_execs_cons (due_across G hh D4 hwB (by have := M.n; omega) (by omega) (by rw [hwl]; exact hft) hw4 h4 fun s5 t5 g5 D5 => ?_)
  have S5 := S4.go g5.toChw (nd hne.1)
  have hw5 := hw4.mono (g5.vle' (one_in D4.mL))
  have hf5 := h4.mono (g5.vle' (one_in D4.mL))
  have hmate5 := hmate4.mono (g5.vle' (one_in D4.mL))
  have g05 : Chg [L, L + 4, L + 5] st s5 := (g03.weaken fun b hb => by simp only [List.mem_cons, List.not_mem_nil, or_false] at hb ⊢; rcases hb with h | h <;> simp [h]).trans ((g4.weaken (one_in (by simp))).trans (g5.weaken (one_in (by simp))))
  -- brought = total
  refine wpAny_execs_cons (wpAny_Assign_Name (nL (env := e83 L) D5.cx (upd_ne (by decide) upd_eq) ?_))
  refine sL (env := e83 L) D5.cx fun s6 g6 w6 c6' => ?_
  have D6 := D5.loc g6 c6'
  have S6 := S5.go g6.toChw (nd hne.1)
  have hw6 := hw5.mono (w6 X')
  have hf6 := hf5.mono (w6 X')
  have hmate6 := hmate5.mono (w6 X')
  have g06 : Chg [L, L + 4, L + 5] st s6 := g05.trans (g6.weaken (one_in (.head _)))
  have N6 : NM (upd (upd (upd m (Str.ofString "total") (.int (worthF W mate).sum t2)) (Str.ofString "across") (.int (acrossF (worthF W mate) (pickF (mates.getD 0 []) mate)).sum t5)) (Str.ofString "brought") (.int (worthF W mate).sum t2)) Dd W count tw tc := ((N.upd).upd).upd
  have p6 : upd (upd (upd m (Str.ofString "total") (.int (worthF W mate).sum t2)) (Str.ofString "across") (.int (acrossF (worthF W mate) (pickF (mates.getD 0 []) mate)).sum t5)) (Str.ofString "brought") (.int (worthF W mate).sum t2) (Str.ofString "part") = some (.int p tp) := upd_ne (by decide) (upd_ne (by decide) (upd_ne (by decide) e1))
  have m6' : upd (upd (upd m (Str.ofString "total") (.int (worthF W mate).sum t2)) (Str.ofString "across") (.int (acrossF (worthF W mate) (pickF (mates.getD 0 []) mate)).sum t5)) (Str.ofString "brought") (.int (worthF W mate).sum t2) (Str.ofString "mate") = some vmate := upd_ne (by decide) (upd_ne (by decide) (upd_ne (by decide) e2))
  have t6 : upd (upd (upd m (Str.ofString "total") (.int (worthF W mate).sum t2)) (Str.ofString "across") (.int (acrossF (worthF W mate) (pickF (mates.getD 0 []) mate)).sum t5)) (Str.ofString "brought") (.int (worthF W mate).sum t2) (Str.ofString "total") = some (.int (worthF W mate).sum t2) := upd_ne (by decide) (upd_ne (by decide) upd_eq)
  have a6 : upd (upd (upd m (Str.ofString "total") (.int (worthF W mate).sum t2)) (Str.ofString "across") (.int (acrossF (worthF W mate) (pickF (mates.getD 0 []) mate)).sum t5)) (Str.ofString "brought") (.int (worthF W mate).sum t2) (Str.ofString "across") = some (.int (acrossF (worthF W mate) (pickF (mates.getD 0 []) mate)).sum t5) := upd_ne (by decide) upd_eq
  have b6 : upd (upd (upd m (Str.ofString "total") (.int (worthF W mate).sum t2)) (Str.ofString "across") (.int (acrossF (worthF W mate) (pickF (mates.getD 0 []) mate)).sum t5)) (Str.ofString "brought") (.int (worthF W mate).sum t2) (Str.ofString "brought") = some (.int (worthF W mate).sum t2) := upd_eq
  generalize upd (upd (upd m (Str.ofString "total") (.int (worthF W mate).sum t2)) (Str.ofString "across") (.int (acrossF (worthF W mate) (pickF (mates.getD 0 []) mate)).sum t5)) (Str.ofString "brought") (.int (worthF W mate).sum t2) = m6 at D6 N6 p6 m6' t6 a6 b6
  clear g6 w6 c6' D5 S5 hw5 hf5 hmate5 g5 D4 S4 hw4 hmate4 h4 g4 D3 S3 h3 hmate3 c3 w3 g3 g03 g05 g2 D1 S1 h1 hmate1 g1
  -- the end
  have fin : ∀ {s7 : Shared} {m7 : Str → Option Value} {c4' c5' c6' : Option Value} {b : Int} {tb : Tok}, DS s L X' vs vw' vm stock W mates m7 c4' c5' c6' s7 → NM m7 Dd W count tw tc → m7 (Str.ofString "part") = some (.int p tp) → m7 (Str.ofString "brought") = some (.int b tb) → Bd 300 b → b = broughtF W mates p mate → LI s7.heap Dd acc → Chg [L, L + 4, L + 5, L + 6, Dd] st s7 →
      wpAny (model prog w) A (execs (for83.drop 7) (e83 L)) Q No s7 := fun {s7 m7 c4' c5' c6' b tb} D7 N7 p7 b7 hb7 eb S7 g7 => by
    subst eb
    exact due_store D7 N7 hp3 hcount hc6 hWs hb7 p7 b7 S7 hacc hm hn hne fun s8 g8 D8 S8 => hQ s8 m7 _ _ _ (g7.trans (g8.weaken (one_in (by simp)))) D8 N7 S8
  have g06' : Chg [L, L + 4, L + 5, L + 6, Dd] st s6 := g06.weaken fun b hb => by simp only [List.mem_cons, List.not_mem_nil, or_false] at hb ⊢; rcases hb with h | h | h <;> simp [h]
  -- if part == 1
  refine wpAny_execs_cons (wpAny_If (wpAny_isTrue_Compare1 (nL (env := e83 L) D6.cx p6 (wpAny_Constant_int (PySem.P.eq_int (wpAny_truthy_bool ?_))))))
  have D6' := D6.on (Chg.toks (s := s6) (t := s6.toks + 1))
  have S6' : LI { s6 with toks := s6.toks + 1 }.heap Dd acc := S6
  by_cases hp1 : p = 1
  · subst hp1
    refine wpAny_execs_cons (wpAny_Assign_Name ?_)
    refine (IE.sub (.pow (.name (.loc (env := e83 L) D6'.cx t6)) .const (by decide) (htB.powOk (n := 2) (by decide) (by decide))) (.name (.loc (env := e83 L) D6'.cx a6))).run _ _ _ rfl fun t7 k7 => ?_
    refine sL (env := e83 L) (D6'.on (Chg.toks (t := k7))).cx fun s7 g7 w7 c7 => ?_
    have D7 := (D6'.on (Chg.toks (t := k7))).loc g7 c7
    refine wpAny_execs_nil ?_
    refine wpAny_execs_cons (wpAny_If (wpAny_isTrue_Compare1 (nL (env := e83 L) D7.cx (upd_ne (by decide) p6) (wpAny_Constant_int (PySem.P.eq_int (wpAny_truthy_bool ?_))))))
    refine wpAny_execs_nil ?_
    have g7' : Chg [L] s6 s7 := (Chg.toks (s := s6) (t := k7)).nil.trans g7
    refine fin (D7.on (Chg.toks (t := s7.toks + 1))) (N6.upd) (upd_ne (by decide) p6) upd_eq ?_ ?_ (show LI s7.heap Dd acc from S6.go g7'.toChw (nd hne.1)) (g06'.trans ((g7'.weaken (one_in (.head _))).trans (Chg.toks (t := s7.toks + 1))))
    · exact (((htB.pow 2).more (l := 100) (by decide)).sub (haB.more (l := 100) (by decide))).more (by decide)
    · rfl
  · have hf1 : (((p : Nat) : Int) == 1) = false := beq_eq_false_iff_ne.mpr (by omega)
    rw [hf1]
    refine wpAny_execs_nil ?_
    refine wpAny_execs_cons (wpAny_If (wpAny_isTrue_Compare1 (nL (env := e83 L) D6'.cx p6 (wpAny_Constant_int (PySem.P.eq_int (wpAny_truthy_bool ?_))))))
    have D6'' := D6'.on (Chg.toks (t := s6.toks + 1 + 1))
    by_cases hp2 : p = 2
    · subst hp2
      have hm1 : 1 < mates.length := by omega
      obtain ⟨f1l, f1t⟩ := mate_ok M hm1
      refine wpAny_execs_cons (due_second hh D6'' M hm1 hml hmt m6' hmate6 fun s7 v7 g7 D7 h7 => ?_)
      have g7' : Chg [L + 6] s6 s7 := ((Chg.toks (s := s6) (t := s6.toks + 1)).nil.trans (Chg.toks (t := s6.toks + 1 + 1))).trans g7
      have S7 := S6.go g7'.toChw (nd hne.2.2.2.2.2.2)
      have hw7 := hw6.mono (g7'.vle' (one_in D6.m6))
      have hf7 := hf6.mono (g7'.vle' (one_in D6.m6))
      refine wpAny_execs_cons (due_lost G hh D7 hwB hst M.n hwl hfl (by rw [pickF_length, hml]) (pickF_lt f1t f1l hmt) hw7 hf7 h7 fun s8 v8 g8 D8 h8 => ?_)
      have S8 := S7.go g8.toChw (nd hne.1)
      have hlB : Bd 130 (lostF W.length (worthF W mate) (pickF (mates.getD 0 []) mate) (pickF (mates.getD 1 []) mate)).sum := by
        have hx : ∀ x ∈ lostF W.length (worthF W mate) (pickF (mates.getD 0 []) mate) (pickF (mates.getD 1 []) mate), Bd 121 x := fun x hx => by
          obtain ⟨i, hi, rfl⟩ := List.mem_map.mp hx
          exact ((Bd.getD hwB i).pow 2).mul (Bd.getD hwB _)
        refine (Bd.sum hx).more ?_
        have : (lostF W.length (worthF W mate) (pickF (mates.getD 0 []) mate) (pickF (mates.getD 1 []) mate)).length ≤ W.length := by
          unfold lostF; rw [List.length_map]; exact Nat.le_trans (List.length_filter_le _ _) (by simp)
        have := M.n; omega
      refine wpAny_execs_cons (wpAny_Assign_Name ?_)
      refine wpAny_BinOp ?_
      refine (IE.sub (.pow (.name (.loc (env := e83 L) D8.cx (upd_ne (by decide) t6))) .const (by decide) (htB.powOk (n := 3) (by decide) (by decide))) (.mul (.name (.loc (env := e83 L) D8.cx (upd_ne (by decide) t6))) (.name (.loc (env := e83 L) D8.cx (upd_ne (by decide) a6))) (htB.mulOk haB (by decide) (by decide)))).run s8 _ _ rfl fun t9 k9 => ?_
      have D9 := D8.on (Chg.toks (s := s8) (t := k9))
      refine sumE (s := { s8 with toks := k9 }) hh (.bi (env := e83 L) (G.cx D9.cx) rfl rfl (by decide)) (.loc (env := e83 L) D9.cx upd_eq) h8 (fun t10 s10 g10 => ?_) (by kernel_rfl)
      refine PySem.P.sub_int ?_
      have D10 := (D9.on g10).on (Chg.toks (s := s10) (t := s10.toks + 1))
      refine sL (env := e83 L) D10.cx fun s11 g11 w11 c11 => ?_
      have g8s : Chg [] s8 { s10 with toks := s10.toks + 1 } := ((Chg.toks (s := s8) (t := k9)).trans g10).trans (Chg.toks (t := s10.toks + 1))
      refine wpAny_execs_nil ?_
      refine fin (D10.loc g11 c11) (N6.upd.upd) (upd_ne (by decide) (upd_ne (by decide) p6)) upd_eq ?_ ?_ ((S8.on g8s).go g11.toChw (nd hne.1)) ?_
      · exact ((((htB.pow 3).more (l := 140) (by decide)).sub ((htB.mul haB).more (l := 140) (by decide))).sub (hlB.more (l := 141) (by decide))).more (by decide)
      · rfl
      · refine g06'.trans ((g7'.weaken (one_in (by simp))).trans ((g8.weaken (one_in (by simp))).trans (g8s.nil.trans (g11.weaken (one_in (.head _))))))
    · have hf2 : (((p : Nat) : Int) == 2) = false := beq_eq_false_iff_ne.mpr (by omega)
      rw [hf2]
      refine wpAny_execs_nil ?_
      refine fin D6'' N6 p6 b6 (htB.more (by decide)) ?_ S6 (g06'.trans (Chg.trans (Chg.toks (s := s6) (t := s6.toks + 1)) (Chg.toks (t := s6.toks + 1 + 1))))
      unfold broughtF
      rw [if_neg hp1, if_neg hp2]
end
end Mine

end
section
-- C10e
open PySem PySem.W PyProof.Rows PySem.Calls
namespace Mine
set_option maxRecDepth 100000
set_option maxHeartbeats 4000000

noncomputable def matesL (stock : List Str) (sizes : List Nat) : List (List Nat) := sizes.map fun k => stock.map fun x => stock.idxOf (mateS k x)
theorem matesD (stock : List Str) (sizes : List Nat) : (matesL stock sizes).map (fun m => Dat.list (m.map natD)) = sizes.map fun k => Dat.list (stock.map fun x => .int (stock.idxOf (mateS k x) : Nat)) := by
  unfold matesL
  rw [List.map_map]
  refine List.map_congr_left fun k _ => ?_
  show Dat.list (List.map natD (List.map _ _)) = _
  rw [List.map_map]; rfl
theorem matesL_ok {stock : List Str} {sizes : List Nat} {W : List Int} (hst : stock.length = W.length) (hn : W.length ≤ 3) (hW : ∀ x ∈ W, Bd 20 x) (hm : ∀ k ∈ sizes, ∀ x ∈ stock, mateS k x ∈ stock) : MOk W (matesL stock sizes) := by
  refine ⟨hn, hW, fun mate h => ?_⟩
  obtain ⟨k, hk, rfl⟩ := List.mem_map.mp h
  refine ⟨by rw [List.length_map, hst], fun o ho => ?_⟩
  obtain ⟨x, hx, rfl⟩ := List.mem_map.mp ho
  rw [← hst]
  exact List.idxOf_lt_length_iff.mpr (hm k hk x hx)

section
variable {prog : Program} {w : World} {A : Around} {s st : Shared} {L Dd : Addr} {X' X0 : List Addr} {vs vw' vm vz : Value} {stock : List Str} {W : List Int} {sizes : List Nat} {mates : List (List Nat)} {m m' : Str → Option Value} {c4 c5 c6 : Option Value} {Q : Flow → Shared → Prop} {Qf : Flow → Shared → Prop}

/-- mates = [_law_mates(stock, size) for size in sizes] -/
theorem due_mates (G : Glb (HK w) s.heap) (r : Rm A 1) (c : Cx s L m st) (k1 : st.heap.IsCell (L + 1) (some vs)) (k3 : st.heap.IsCell (L + 3) c4) (hX : Dom X' st.heap) (hs : Has (vw st.heap X') vs (.list (stock.map .str))) (hz : Has (vw st.heap X') vz (.list (sizes.map natD)))
    (hl : stock.length ≤ 3) (hsl : ∀ x ∈ stock, x.length = 4) (hk : ∀ k ∈ sizes, k = 1 ∨ k = 2 ∨ k = 4) (hm : ∀ k ∈ sizes, ∀ x ∈ stock, mateS k x ∈ stock) (hzl : sizes.length ≤ 3) (e : m (Str.ofString "sizes") = some vz)
    (hQ : ∀ s' v, Chg [L + 3] st s' → (∀ X, VLe (vw st.heap X) (vw s'.heap X)) → s'.heap.IsCell (L + 3) (some v) → Has (vw s'.heap X') v (.list ((matesL stock sizes).map fun m => .list (m.map natD))) → Q .next s') :
    wpAny (model prog w) A (exec (match body83 with | [_, x, _, _] => x | _ => default) (e83 L)) Q No st := by
  refine wpAny_Assign_Name ?_
  refine listComp (H := X') (xs := sizes) (enc := natD) (cl := [(Str.ofString "stock", L + 1)]) (fun _ => true) (fun k => .list (stock.map fun x => .int (stock.idxOf (mateS k x) : Nat))) rfl (by decide) rfl (by decide) (fun _ => rfl) hX ?_ ?_ ?_ ?_
  · exact srcList r.hd hX fun Q hQ => nL (env := e83 L) c e (hQ vz _ (.refl _ _) hz)
  · intro C X2 v s2 m2 k hC hCX hHX hfr hd hkm g hn2 hv
    obtain ⟨t1, rfl⟩ := Has.int_inv (i := (k : Int)) hv
    refine aN hn2 fun s3 g3 w3 hn3 => ?_
    have q1 := cell_ns (cell_on k1 g) hn2 g3
    have hs3 : Has (vw s3.heap X2) vs (.list (stock.map .str)) := (hs.past g hfr).mono (w3 X2)
    have g3' : Chg [C] s2 s3 := g3
    have G3 : Glb (HK w) s3.heap := (G.cx c).on ((g.nil.trans g3').shrink fun b hb => .inr (by rw [List.mem_singleton.mp hb]; exact hC))
    refine wpAny_pure ⟨rfl, ?_⟩
    rw [if_pos rfl]
    refine callDef (K := HK w) G3 (.glob G3 rfl) ⟨_, _, _, rfl⟩ ?_ (by kernel_rfl)
    refine spliced_more (he := by kernel_rfl) (nC q1 ?_)
    refine spliced_more (he := by kernel_rfl) (nN hn3 upd_eq (spliced_none ⟨.refl _ _, ?_⟩))
    refine wpAny_mono (mates_spec G3 r (hd.chg g3') hs3 hl hsl (hk k hkm) (hm k hkm)) (fun v s4 q => ⟨q.2, g3'.trans q.1.nil, _, hn3.keeps q.1.kp⟩) fun _ _ x => x
  · exact Nat.le_trans (by omega : _ ≤ 1000) (by decide)
  · intro r s1 g hr
    rw [List.filter_eq_self.mpr fun _ _ => rfl] at hr
    refine sC (env := e83 L) (c := L + 3) (cell_on k3 g) fun s3 g3 v3 h3 => ?_
    refine hQ s3 r (g.nil.trans g3) (fun X => g.nil.vle.trans (v3 X)) h3 ?_
    rw [matesD]
    exact hr.mono (v3 X')

/-- DS but for the room -/
structure DJ (s : Shared) (L : Addr) (X' : List Addr) (vs vw' vm : Value) (stock : List Str) (W : List Int) (mates : List (List Nat)) (m : Str → Option Value) (c4 c5 c6 : Option Value) (st : Shared) : Prop where
  cx : Cx s L m st
  k1 : st.heap.IsCell (L + 1) (some vs)
  k2 : st.heap.IsCell (L + 2) (some vw')
  k3 : st.heap.IsCell (L + 3) (some vm)
  k4 : st.heap.IsCell (L + 4) c4
  k5 : st.heap.IsCell (L + 5) c5
  k6 : st.heap.IsCell (L + 6) c6
  hs : Has (vw st.heap X') vs (.list (stock.map .str))
  hw : Has (vw st.heap X') vw' (.list (W.map .int))
  hm : Has (vw st.heap X') vm (.list (mates.map fun m => .list (m.map natD)))
theorem DS.toDJ (D : DS s L X' vs vw' vm stock W mates m c4 c5 c6 st) : DJ s L X' vs vw' vm stock W mates m c4 c5 c6 st := ⟨D.cx, D.k1, D.k2, D.k3, D.k4, D.k5, D.k6, D.hs, D.hw, D.hm⟩
theorem DJ.lift {s2 : Shared} (D : DJ s L X0 vs vw' vm stock W mates m c4 c5 c6 st) (g2 : Chg [] st s2) (h2 : ∀ b ∈ X', b ∈ X0 ∨ st.heap.get? b = none) : DJ s L X' vs vw' vm stock W mates m c4 c5 c6 s2 :=
  have q : VLe (vw st.heap X0) (vw s2.heap X') := Mine.vle (fun b hb => (h2 b hb).imp id NoSeq.of_none) fun b o _ e => g2.kp b o e
  ⟨D.cx.on g2, cell_on D.k1 g2, cell_on D.k2 g2, cell_on D.k3 g2, cell_on D.k4 g2, cell_on D.k5 g2, cell_on D.k6 g2, D.hs.mono q, D.hw.mono q, D.hm.mono q⟩
theorem DJ.stab {st0 st2 : Shared} {Z : List Addr} {m0 : Str → Option Value} {d4 d5 d6 : Option Value} (D0 : DJ s L X0 vs vw' vm stock W mates m0 d4 d5 d6 st0) (hL : L ∈ X0) (hz1 : ∀ b ∈ Z, b ∈ X') (hz2 : ∀ b ∈ Z, b ∉ X0) (hz3 : ∀ b ∈ Z, st0.heap.get? b = none) (D : DJ s L X' vs vw' vm stock W mates m c4 c5 c6 st) (a : Chw Z st st2) : DJ s L X' vs vw' vm stock W mates m c4 c5 c6 st2 :=
  have q : VLe (vw st.heap X') (vw st2.heap X') := a.vle' hz1
  have nz : ∀ {b : Addr}, st0.heap.get? b ≠ none → b ∉ Z := fun h q => h (hz3 _ q)
  ⟨D0.cx.stab hL hz2 hz3 D.cx a, cell_go D.k1 a (nz (cell_dom D0.k1)), cell_go D.k2 a (nz (cell_dom D0.k2)), cell_go D.k3 a (nz (cell_dom D0.k3)), cell_go D.k4 a (nz (cell_dom D0.k4)), cell_go D.k5 a (nz (cell_dom D0.k5)), cell_go D.k6 a (nz (cell_dom D0.k6)), D.hs.mono q, D.hw.mono q, D.hm.mono q⟩

/-- the last two statements -/
theorem due_loop {X : List Addr} {count : Nat} {tw tc : Tok} (G : Glb (HK w) s.heap) (hh : A.handled = none) (hX : Dom X s.heap) (D : DS s L (L :: (L + 4) :: (L + 5) :: (L + 6) :: Dd :: X) vs vw' vm stock W mates m c4 c5 c6 st) (M : MOk W mates) (hst : stock.length = W.length) (N : NM m Dd W count tw tc) (hcount : 2 * mates.length ≤ count) (hc6 : count ≤ 6) (hm3 : mates.length ≤ 3) (hcd : mates.length ≤ count / 2)
    (SI : LI st.heap Dd (dueF W mates count 0)) (hn : s.heap.get? Dd = none) (hne : Dd ≠ L ∧ Dd ≠ L + 1 ∧ Dd ≠ L + 2 ∧ Dd ≠ L + 3 ∧ Dd ≠ L + 4 ∧ Dd ≠ L + 5 ∧ Dd ≠ L + 6) :
    wpAny (model prog w) A (execs (body83.drop 2) (e83 L)) (fun fl s' => Chg [] s s' ∧ Has (vw s'.heap X) (match fl with | .ret v => v | _ => .none) (.list ((resF W mates count).map .int))) No st := by
  have hWs : Bd 23 W.sum := (Bd.sum M.w).more (by have := M.n; omega)
  refine wpAny_execs_cons ?_
  refine forI (X := L :: (L + 4) :: (L + 5) :: (L + 6) :: Dd :: X) (ds := numbered (mates.map fun m => .list (m.map natD))) (fun X' i st' => ∃ m' c4' c5' c6', DJ s L X' vs vw' vm stock W mates m' c4' c5' c6' st' ∧ NM m' Dd W count tw tc ∧ LI st'.heap Dd (dueF W mates count i)) ?_ D.dm ?_ ?_ ?_ ?_
  · exact srcEnum hh D.dm (.bi (env := e83 L) (G.cx D.cx) rfl rfl (by decide)) (.cell (env := e83 L) D.k3) D.hm
  · intro X' s2 g2 h1 h2
    exact ⟨m, c4, c5, c6, D.toDJ.lift g2 h2, N, SI.on g2⟩
  · rintro X' Z j st1 st2 hz1 hz2 hz3 ⟨m', c4', c5', c6', D', N', S'⟩ a
    exact ⟨m', c4', c5', c6', D.toDJ.stab (.head _) hz1 hz2 hz3 D' a, N', S'.go a fun q => SI.dom (hz3 _ q)⟩
  · intro X' i d v st1 T
    obtain ⟨m', c4', c5', c6', D', N', S'⟩ := T.inv
    obtain ⟨e, he, rfl⟩ := numbered_get T.item
    rw [List.getElem?_map] at he
    obtain ⟨mate, hmt, rfl⟩ := Option.map_eq_some_iff.mp he
    have hil : i < mates.length := (List.getElem?_eq_some_iff.mp hmt).1
    have D1 : DS s L X' vs vw' vm stock W mates m' c4' c5' c6' st1 := ⟨D'.cx, D'.k1, D'.k2, D'.k3, D'.k4, D'.k5, D'.k6, D'.hs, D'.hw, D'.hm, T.dom, T.sub _ (.head _), T.sub _ (by simp), T.sub _ (by simp), T.sub _ (by simp), D.n4, D.n5, D.n6⟩
    refine unpack2L (env := e83 L) hh D1.cx T.has fun st2 v1 v2 g2 w2 c2 h1 h2 => ?_
    obtain ⟨t1, rfl⟩ := h1.int_inv
    have D2 := D1.loc g2 c2
    refine due_turn (count := count) (mate := mate) (vmate := v2) (acc := dueF W mates count i) (tw := tw) (tc := tc) (tp := t1) G hh D2 M hst hmt ((N'.upd).upd) (by omega) (by omega) hc6 (upd_ne (by decide) upd_eq) upd_eq h2 (S'.go g2.toChw (notIn_one hne.1)) (by rw [dueF_length]; omega) (T.sub _ (by simp)) hn hne fun s3 m3 d4 d5 d6 g3 D3 N3 S3 => ?_
    refine ⟨⟨m3, d4, d5, d6, D3.toDJ, N3, ?_⟩, (g2.weaken (one_in (.head _))).trans (g3.weaken (Y := L :: (L + 4) :: (L + 5) :: (L + 6) :: Dd :: X) fun b hb => ?_)⟩
    · rw [dueF_succ, List.getD_eq_getElem?_getD, hmt]
      exact S3
    · simp only [List.mem_cons, List.not_mem_nil, or_false] at hb
      rcases hb with rfl | rfl | rfl | rfl | rfl
      · exact .head _
      · exact .tail _ (.head _)
      · exact .tail _ (.tail _ (.head _))
      · exact .tail _ (.tail _ (.tail _ (.head _)))
      · exact .tail _ (.tail _ (.tail _ (.tail _ (.head _))))
  · rintro X' st1 Lst
    obtain ⟨m', c4', c5', c6', D', N', S'⟩ := Lst.inv
    have hlen : (numbered (mates.map fun m => Dat.list (m.map natD))).length = mates.length := by simp [numbered]
    rw [hlen] at S'
    have hX1 : Dom X st1.heap := hX.chg D'.cx.chg
    have hDX : Dd ∉ X := fun q => hX Dd q hn
    refine wpAny_execs_cons (wpAny_Return_some (wpAny_BinOp (List_ (spliced_more (he := by kernel_rfl) (wpAny_BinOp ?_)))))
    refine (IE.pow (.name (.loc (env := e83 L) D'.cx N'.whole)) (.name (.loc (env := e83 L) D'.cx N'.count)) (by omega) (hWs.powOk (by decide) (by omega))).run st1 _ _ rfl fun t5 k5 => ?_
    have c5 := D'.cx.on (Chg.toks (s := st1) (t := k5))
    refine sumE (s := { st1 with toks := k5 }) (X := X) hh (.bi (env := e83 L) (G.cx c5) rfl rfl (by decide)) (.loc (env := e83 L) c5 N'.due) (S'.has hDX) (fun t6 s6 g6 => ?_) (by kernel_rfl)
    refine PySem.P.sub_int (spliced_none ?_)
    have g6' : Chg [] st1 { s6 with toks := s6.toks + 1 } := (Chg.trans (Chg.toks (s := st1) (t := k5)) g6).trans .toks
    refine listN (X := X) (hX1.chg g6') (.cons (.int _ _) .nil) (by simp) fun a s7 g7 _ ha => ?_
    have g7' := g6'.trans g7
    refine nL (env := e83 L) (D'.cx.on g7') N'.due ?_
    refine addL (X := X) (hX1.chg g7') ha ((S'.on g7').has hDX) ?_ fun b s8 g8 _ hb => ⟨(D'.cx.on (g7'.trans g8)).chg, ?_⟩
    · rw [List.length_map, dueF_length]; exact Nat.le_trans (by simp; omega : _ ≤ 1000) (by decide)
    · rw [Int.toNat_natCast] at hb
      exact hb
end
theorem due_spec {prog : Program} {w : World} {A : Around} {s : Shared} {X : List Addr} {vs vw' vz : Value} {stock : List Str} {W : List Int} {sizes : List Nat} {count : Nat} {t : Tok} (G : Glb (HK w) s.heap) (r : Rm A 2) (hX : Dom X s.heap)
    (hs : Has (vw s.heap X) vs (.list (stock.map .str))) (hw : Has (vw s.heap X) vw' (.list (W.map .int))) (hz : Has (vw s.heap X) vz (.list (sizes.map natD)))
    (hst : stock.length = W.length) (hn : W.length ≤ 3) (hW : ∀ x ∈ W, Bd 20 x) (hsl : ∀ x ∈ stock, x.length = 4) (hk : ∀ k ∈ sizes, k = 1 ∨ k = 2 ∨ k = 4) (hm : ∀ k ∈ sizes, ∀ x ∈ stock, mateS k x ∈ stock) (hcd : sizes.length ≤ count / 2) (hc6 : count ≤ 6) :
    wpAny (model prog w) A (call (.ref 83) [vs, vw', .int count t, vz]) (fun r s' => Chg [] s s' ∧ Has (vw s'.heap X) r (.list ((resF W (matesL stock sizes) count).map .int))) No s := by
  refine enter fd83 [(Str.ofString "stock", vs), (Str.ofString "weights", vw'), (Str.ofString "count", .int count t), (Str.ofString "sizes", vz)] (body := body83) G ⟨_, _, _, rfl⟩ rfl (by rfl) r rfl rfl (by rfl) (by rfl) ?_
  intro L s₁ A' hL r' c ce
  have hX1 : Dom X s₁.heap := hX.chg c.chg
  have k1 : s₁.heap.IsCell (L + 1) (some vs) := ce.is (Str.ofString "stock") (L + 1) rfl
  have k2 : s₁.heap.IsCell (L + 2) (some vw') := ce.is (Str.ofString "weights") (L + 2) rfl
  have k3 : s₁.heap.IsCell (L + 3) none := ce.is (Str.ofString "mates") (L + 3) rfl
  have k4 : s₁.heap.IsCell (L + 4) none := ce.is (Str.ofString "worth") (L + 4) rfl
  have k5 : s₁.heap.IsCell (L + 5) none := ce.is (Str.ofString "first") (L + 5) rfl
  have k6 : s₁.heap.IsCell (L + 6) none := ce.is (Str.ofString "second") (L + 6) rfl
  have n3 : s.heap.get? (L + 3) = none := ce.new (Str.ofString "mates") (L + 3) rfl
  have n4 : s.heap.get? (L + 4) = none := ce.new (Str.ofString "worth") (L + 4) rfl
  have n5 : s.heap.get? (L + 5) = none := ce.new (Str.ofString "first") (L + 5) rfl
  have n6 : s.heap.get? (L + 6) = none := ce.new (Str.ofString "second") (L + 6) rfl
  refine wpAny_execs_cons (swap2 (env := e83 L) (s₀ := s) (m := bindL (e83 L).kindOf [(Str.ofString "stock", vs), (Str.ofString "weights", vw'), (Str.ofString "count", .int count t), (Str.ofString "sizes", vz)] nones) r'.hd ?_)
  refine sumE (X := X) r'.hd (.bi (env := e83 L) (G.cx c) rfl rfl (by decide)) (.cell (env := e83 L) k2) (hw.mono c.chg.nil.vle) (fun t2 s2 g2 => ?_) (by kernel_rfl)
  refine wpAny_BinOp ?_
  refine listIE (X := X) (ns := [0]) (hX1.chg g2) (.cons .const .nil) (by simp) (by kernel_rfl) fun a s3 g3 _ h3 => ?_
  have c3 := c.on (g2.trans g3)
  refine (IE.ndiv (k := 2) (.name (.loc (env := e83 L) c3 rfl)) (by decide) (by decide)).run s3 _ _ rfl fun t4 k4' => ?_
  have g4 : Chg [] s₁ { s3 with toks := k4' } := (g2.trans g3).trans (Chg.toks (s := s3) (t := k4'))
  refine mulL (s := { s3 with toks := k4' }) (X := X) (hX1.chg g4) h3 (by omega) (by omega) (by simp; omega) fun Dd s5 g5 hD h5 => ?_
  have g5' : Chg [] s₁ s5 := g4.trans g5
  refine ⟨c.on g5', fun s6 g6 v6 c6 => ?_⟩
  have e0 : (List.replicate ((count / 2 : Nat) : Int).toNat ([0].map Dat.int)).flatten = (dueF W (matesL stock sizes) count 0).map .int := by
    rw [Int.toNat_natCast]
    show _ = (List.replicate (count / 2) (0 : Int)).map Dat.int
    generalize count / 2 = q
    induction q with
    | zero => rfl
    | succ q ih => rw [List.replicate_succ, List.flatten_cons, ih]; rfl
  rw [e0] at h5
  have SI := LI.of_has (V := fun _ => none) h5
  have hD1 : s₁.heap.get? Dd = none := back g4 hD
  have hDs : s.heap.get? Dd = none := back c.chg hD1
  have ne : ∀ {b : Addr}, s₁.heap.get? b ≠ none → Dd ≠ b := fun h q => h (q ▸ hD1)
  have hne : Dd ≠ L ∧ Dd ≠ L + 1 ∧ Dd ≠ L + 2 ∧ Dd ≠ L + 3 ∧ Dd ≠ L + 4 ∧ Dd ≠ L + 5 ∧ Dd ≠ L + 6 := ⟨ne (ns_dom c.ns), ne (cell_dom k1), ne (cell_dom k2), ne (cell_dom k3), ne (cell_dom k4), ne (cell_dom k5), ne (cell_dom k6)⟩
  have S6 := SI.go g6.toChw (notIn_one hne.1)
  have cn : ∀ {b : Addr} {v : Option Value}, s₁.heap.IsCell b v → s6.heap.IsCell b v := fun h => cell_ns (cell_on h g5') (c.on g5').ns g6
  have hfr : ∀ b ∈ L :: (L + 4) :: (L + 5) :: (L + 6) :: Dd :: X, b ∈ X ∨ s.heap.get? b = none := fun b hb => by
    simp only [List.mem_cons] at hb
    rcases hb with rfl | rfl | rfl | rfl | rfl | hb
    · exact .inr c.new
    · exact .inr n4
    · exact .inr n5
    · exact .inr n6
    · exact .inr hDs
    · exact .inl hb
  have hX6 : Dom (L :: (L + 4) :: (L + 5) :: (L + 6) :: Dd :: X) s6.heap :=
    (((((hX.chg c6.chg).cons S6.dom).cons (cell_dom (cn k6))).cons (cell_dom (cn k5))).cons (cell_dom (cn k4))).cons (ns_dom c6.ns)
  refine wpAny_execs_cons (due_mates (X' := L :: (L + 4) :: (L + 5) :: (L + 6) :: Dd :: X) G r' c6 (cn k1) (cn k3) hX6 (hs.past c6.chg hfr) (hz.past c6.chg hfr) (by omega) hsl hk hm (by omega) (upd_ne (by decide) (upd_ne (by decide) rfl)) fun s7 vm g7 w7 k3' hm7 => ?_)
  have c7 := c6.go g7.toChw (notIn_one (addr_ne0 (by decide))) (new_one n3)
  have D : DS s L (L :: (L + 4) :: (L + 5) :: (L + 6) :: Dd :: X) vs vw' vm stock W (matesL stock sizes) (upd (upd (bindL (e83 L).kindOf [(Str.ofString "stock", vs), (Str.ofString "weights", vw'), (Str.ofString "count", .int count t), (Str.ofString "sizes", vz)] nones) (Str.ofString "due") (.ref Dd)) (Str.ofString "whole") (.int W.sum t2)) none none none s7 :=
    ⟨c7, cell_go (cn k1) g7.toChw (notIn_one (addr_ne (by decide))), cell_go (cn k2) g7.toChw (notIn_one (addr_ne (by decide))), k3', cell_go (cn k4) g7.toChw (notIn_one (addr_ne (by decide))), cell_go (cn k5) g7.toChw (notIn_one (addr_ne (by decide))), cell_go (cn k6) g7.toChw (notIn_one (addr_ne (by decide))),
      hs.past c7.chg hfr, hw.past c7.chg hfr, hm7, hX6.chg g7, by simp, by simp, by simp, by simp, n4, n5, n6⟩
  have hml : (matesL stock sizes).length = sizes.length := List.length_map ..
  exact due_loop G r'.hd hX D (matesL_ok hst hn hW hm) hst ⟨upd_eq, upd_ne (by decide) (upd_ne (by decide) rfl), upd_ne (by decide) upd_eq⟩ (by omega) hc6 (by omega) (by omega) (S6.go g7.toChw (notIn_one hne.2.2.2.1)) hDs hne
end Mine

end
section
-- B17
open PySem PySem.W PyProof.Rows PySem.Calls
namespace Mine
set_option maxRecDepth 100000
section
variable {prog : Program} {w : World} {A : Around} {X : List Addr} {s : Shared} {Q : Value → Shared → Prop} {E : Value → Shared → Prop} {env : Env}
/-- x[:e] of a list -/
theorem sliceTo {value e : Expr} {p p' : Pos} {n : Nat} (hx : wpAny (model prog w) A (eval value env) (fun v s₁ => ∃ l vs, v = .ref l ∧ s₁.heap.IsList l (vs : List Value).toArray ∧ vs.length ≤ 1000 ∧ IE prog w A env s₁.heap e n ∧
      ∀ a s', Chg [] s₁ s' → s₁.heap.get? a = none → s'.heap.get? a = some (PySem.W.listOf (vs.take n).toArray 0) → Q (.ref a) s') E s)
    (hs : ∀ x r, subscripted (.Slice none (some e) none p) false x r = operate [r, x] (getItem x r) := by intro _ _; rfl) : wpAny (model prog w) A (eval (.Subscript value (.Slice none (some e) none p) p') env) Q E s := by
  refine Subscript_ (wpAny_mono hx (fun v s₁ hq => ?_) fun _ _ x => x)
  obtain ⟨l, vs, rfl, hl, hsz, he, hQ⟩ := hq
  refine wpAny_Slice (evalPart_none_step (evalPart_some_step (he.run s₁ _ _ rfl fun t1 k1 => evalPart_none_step ?_)))
  refine tail_any (T := "list") (Heap.IsList.typeIs (s := { s₁ with heap := s₁.heap.push _, toks := k1 }) (hl.push _)) list_getitem_lookup (wpAny_getItem_list_slice (hl.push _) (Heap.IsSliceOf.new ..) .none (.int _ _) .none (by simp) ?_ (Nat.le_trans (by simpa using hsz : _ ≤ 1000) (by decide))) (hs _ _)
  have g1 : Chg [] s₁ { s₁ with heap := s₁.heap.push { cls := .type "slice", data := .fields #[.none, .int n t1, .none] }, toks := k1 } := .push
  refine hQ _ _ (g1.trans (.push (t := k1))) (back g1 (get_size_none _)) ?_
  rw [slicePick_upto']
  exact Heap.get?_push_size _ rfl
theorem ints_has {V : Addr → Option Obj} {vs : List Value} {ns : List Int} (h : IntsAre vs ns) : HasAll V vs (ns.map .int) := by
  induction h with
  | nil => exact .nil
  | cons n t _ ih => exact .cons (.int n t) ih
/-- x[e::k] of a list of ints -/
theorem sliceStep {x : Str} {xp p p' : Pos} {e k : Expr} {ns : List Int} {i c : Int} {v : Value} (rx : Rd prog w A env s.heap x v) (hv : Has (vw s.heap X) v (.list (ns.map .int))) (hX : Dom X s.heap) (he : IE prog w A env s.heap e i) (hk : IE prog w A env s.heap k c) (hc : c ≠ 0) (hsz : ns.length ≤ 1000)
    (hQ : ∀ a s', Chg [] s s' → Has (vw s'.heap X) (.ref a) (.list ((pickNums ns (some i) none (some c)).map .int)) → Q (.ref a) s')
    (hs : ∀ x r, subscripted (.Slice (some e) none (some k) p) false x r = operate [x, r] (getItem x r) := by intro _ _; rfl) : wpAny (model prog w) A (eval (.Subscript (.Name x xp) (.Slice (some e) none (some k) p) p') env) Q E s := by
  obtain ⟨l, vs, n, rfl, hV, hA⟩ := hv.lst_inv
  obtain ⟨_, hlo, _⟩ := vw_some.mp hV
  have hl : s.heap.IsList l vs.toArray := ⟨_, hlo, rfl, n, rfl⟩
  have hlen : vs.length = ns.length := by have := hA.length; simpa using this
  refine Subscript_ (rd rx rfl ?_)
  refine wpAny_Slice (evalPart_some_step (he.run s _ _ rfl fun t1 k1 => evalPart_none_step (evalPart_some_step (hk.run _ _ _ rfl fun t2 k2 => ?_))))
  refine tail_any (T := "list") (Heap.IsList.typeIs (s := { s with heap := s.heap.push _, toks := k2 }) (hl.push _)) list_getitem_lookup (wpAny_getItem_list_slice (hl.push _) (Heap.IsSliceOf.new ..) (.int _ _) .none (.int _ _) (by simpa using hc) ?_ (Nat.le_trans (by simpa [hlen] using hsz : _ ≤ 1000) (by decide))) (hs _ _)
  have g1 : Chg [] s { s with heap := s.heap.push { cls := .type "slice", data := .fields #[.int i t1, .none, .int c t2] }, toks := k2 } := .push
  have hp := hA.ints.pick (some i) none (some c)
  generalize slicePick vs.toArray (some i) none (some c) = arr at hp ⊢
  obtain ⟨lst⟩ := arr
  refine hQ _ _ (g1.trans (.push (t := k2))) (.lst (n := 0) (vs := lst) (vw_some.mpr ⟨(hX.chg g1).fresh, Heap.get?_push_size _ rfl, rfl⟩) (ints_has hp))
theorem pickNums_mem {ns : List Int} {lo hi st : Option Int} {x : Int} (h : x ∈ pickNums ns lo hi st) : x ∈ ns := by
  unfold pickNums at h
  obtain ⟨i, _, hi⟩ := List.mem_filterMap.mp h
  exact List.mem_of_getElem? hi
theorem pickNums_step3 {ns : List Int} {i : Nat} (h : ns.length ≤ 9) : (pickNums ns (some (i : Int)) none (some 3)).length ≤ 3 := by
  unfold pickNums
  refine Nat.le_trans (List.length_filterMap_le _ _) ?_
  unfold sliceRange sliceBounds
  simp only [Option.getD_some, List.length_map, List.length_range]
  have h1 : ¬ ((i : Int) < 0) := by omega
  simp only [show (3 : Int) > 0 by decide, if_true, h1, if_false]
  split <;> omega
end
end Mine

end
section
-- C11a
open PySem PySem.W PyProof.Rows PySem.Calls
namespace Mine
set_option maxRecDepth 100000
set_option maxHeartbeats 4000000

noncomputable def fd88 : FuncData := ({ val := _, property := fun _ => rfl } : { fd // ∀ P, fdOf (HX.hd.heap_39 P) 88 = fd }).val
noncomputable def body88 : List Stmt := match fd88.body with | .stmts b => b | _ => []
noncomputable abbrev e88 (L : Addr) : Env := callEnvC fd88 L 88

noncomputable def pwN (n : Nat) : Nat := 2 ^ (n % 3)
noncomputable def dueN (kind a b c : Nat) : List Nat := match kind with
  | 0 => [a, a, a, a] | 1 => [a] | 2 => [a, b, b, b] | _ => [a, b, c]
theorem dueN_eq (kind a b c : Nat) : (dueL kind (a : Int) (b : Int) (c : Int)).map Dat.int = (dueN kind a b c).map natD := by
  match kind with
  | 0 => rfl
  | 1 => rfl
  | 2 => rfl
  | n + 3 => rfl
theorem pwN_eq (n : Nat) : pw n = (pwN n : Int) := by unfold pw pwN; push_cast; rfl
noncomputable def fewB (d0 : Nat) : Bool := d0 / 3 % 2 == 1
noncomputable def stkF (d0 : Nat) : List Str := stockL (d0 % 3) (fewB d0)
noncomputable def cntF (d0 : Nat) : Nat := if fewB d0 then 6 else 4
noncomputable def wtsF (d0 d1 d2 : Nat) : List Int := [((d0 / 24 : Nat) : Int) - 4, ((d1 / 3 : Nat) : Int) - 6, ((d2 / 9 : Nat) : Int) - 5].take (stkF d0).length
noncomputable def szsF (d0 d1 d2 : Nat) : List Nat := (dueN (d0 / 6 % 4) (pwN d1) (pwN d2) (pwN (d2 / 3))).take (cntF d0 / 2)

structure PureOk (stock : List Str) (W : List Int) (sizes : List Nat) (count : Nat) : Prop where
  hl : stock.length ≤ 3
  hsl : ∀ x ∈ stock, x.length = 4
  hsa : ∀ x ∈ stock, asciiS x
  hst : stock.length = W.length
  hW : ∀ x ∈ W, Bd 20 x
  hk : ∀ k ∈ sizes, k = 1 ∨ k = 2 ∨ k = 4
  hz : sizes.length ≤ count / 2
  hc : count ≤ 6
  hm : ∀ k ∈ sizes, ∀ x ∈ stock, mateS k x ∈ stock
  hem : ∀ x ∈ wordsL stock W count, ∀ i k, sizes[i]? = some k → EmOk (wantS k (takeS (4 * (i + 1)) x.1)) x.1
  htake : ∀ x ∈ wordsL stock W count, ∀ i, i < count → takeS (4 * (i + 1)) x.1 ∈ (wordsL stock W (i + 1)).map (·.1)
  hlaw : sumsL sizes (count / 2) sizes.length (wordsL stock W count) = resF W (matesL stock sizes) count

noncomputable def cellF (n : Int) : Int := n.fmod 1000000
theorem cellF_bd (n : Int) : 0 ≤ cellF n ∧ cellF n < 1000000 := by
  unfold cellF
  rw [Int.fmod_eq_emod_of_nonneg _ (by decide)]
  exact ⟨Int.emod_nonneg _ (by decide), Int.emod_lt_of_pos _ (by decide)⟩
section
variable {prog : Program} {w : World} {A : Around} {s st : Shared} {L : Addr} {m : Str → Option Value} {Q : Flow → Shared → Prop}
theorem LI.list {h : Heap} {l : Addr} {vs : List Value} {ns : List Int} (e : h.get? l = some (PySem.W.listOf vs.toArray 0)) (hi : IntsAre vs ns) : Has (vw h []) (.ref l) (.list (ns.map .int)) :=
  .lst (vw_some.mpr ⟨List.not_mem_nil, e, rfl⟩) (ints_has hi)

/-- cells = [int(cell) % 10 ** 6 for cell in script[:9]] -/
theorem law_cells {l : Addr} {vs : List Value} {ns : List Int} {c1 : Option Value} (G : Glb (HK w) s.heap) (hh : A.handled = none) (c : Cx s L m st) (e : m (Str.ofString "script") = some (.ref l)) (hl : st.heap.IsList l vs.toArray) (hi : IntsAre vs ns) (hn : ns.length ≤ 1000) (k1 : st.heap.IsCell (L + 1) c1)
    (hQ : ∀ s' v, Chg [L + 1] st s' → s'.heap.IsCell (L + 1) (some v) → Has (vw s'.heap []) v (.list (((ns.take 9).map cellF).map .int)) → Q .next s') :
    wpAny (model prog w) A (exec (body88.headD default) (e88 L)) Q No st := by
  refine wpAny_Assign_Name ?_
  refine listComp (H := []) (xs := ns.take 9) (enc := .int) (cl := []) (fun _ => true) (fun n => .int (cellF n)) rfl (by decide) rfl (by decide) (fun _ => rfl) (fun _ h => by cases h) ?_ ?_ ?_ ?_
  · refine srcList hh (fun _ h => by cases h) fun Q hQ => ?_
    refine sliceTo (n := 9) (nL (env := e88 L) c e ⟨l, vs, rfl, hl, by rw [hi.length]; exact hn, .const, fun a s' g _ ha => hQ _ s' g (LI.list ha (hi.take 9))⟩)
  · intro C X2 v s2 m2 x hC hCX hHX hfr hd hx g hn2 hv
    obtain ⟨t1, rfl⟩ := hv.int_inv
    refine aN hn2 fun s3 g3 w3 hn3 => ?_
    have g3' : Chg [C] s2 s3 := g3
    have G3 : Glb (HK w) s3.heap := (G.cx c).on ((g.nil.trans g3').shrink fun b hb => .inr (by rw [List.mem_singleton.mp hb]; exact hC))
    refine wpAny_pure ⟨rfl, ?_⟩
    rw [if_pos rfl]
    refine (IE.mod (a := x) (.of fun s5 Q E h5 hQ => ?_) (IE.cast (.pow .const .const (by decide) (by decide +kernel)) (show _ = (1000000 : Int) by decide)) (by decide)).run s3 _ _ rfl fun t k => ⟨.int _ _, g3'.trans .toks, _, hn3⟩
    refine wpAny_Call_NameR (rd (.bi (show Glb (HK w) s3.heap from G3) rfl rfl (by decide)) h5 (Pv.callWith_type1 (spliced_more (he := by kernel_rfl) ?_) (by kernel_rfl) (by kernel_rfl)))
    exact nN (h5 ▸ hn3) upd_eq (spliced_none (call_int_int (hQ _ s5.toks)))
  · exact Nat.le_trans (by rw [List.length_take]; omega : _ ≤ 1000) (by decide)
  · intro r s1 g hr
    rw [List.filter_eq_self.mpr fun _ _ => rfl] at hr
    refine sC (env := e88 L) (c := L + 1) (cell_on k1 g) fun s3 g3 v3 h3 => ?_
    refine hQ s3 r (g.nil.trans g3) h3 ?_
    rw [List.map_map]
    exact hr.mono (v3 [])

noncomputable def drawF (cells : List Int) (x : Nat × Int) : Int := x.2 + (pickNums cells (some (x.1 : Int)) none (some 3)).sum
/-- draws = [begun + sum(cells[place::3]) for place, begun in enumerate([160, 28, 42])] -/
theorem law_draws {cells : List Int} {vc : Value} (G : Glb (HK w) s.heap) (hh : A.handled = none) (c : Cx s L m st) (hn : cells.length ≤ 1000) (k1 : st.heap.IsCell (L + 1) (some vc)) (hv : Has (vw st.heap []) vc (.list (cells.map .int)))
    (hQ : ∀ s' v, Chg [L] st s' → Cx s L (upd m (Str.ofString "draws") v) s' → Has (vw s'.heap []) v (.list [.int (drawF cells (0, 160)), .int (drawF cells (1, 28)), .int (drawF cells (2, 42))]) → Q .next s') :
    wpAny (model prog w) A (exec ((body88.drop 1).headD default) (e88 L)) Q No st := by
  refine assignComp (H := []) (xs := [((0 : Nat), (160 : Int)), (1, 28), (2, 42)]) (enc := fun x => .tuple [.int x.1, .int x.2]) (cl := [(Str.ofString "cells", L + 1)]) (fun _ => true) (fun x => .int (drawF cells x)) (env := e88 L) c rfl rfl (by decide) rfl (by decide) (fun _ => rfl) (fun _ h => by cases h) ?_ ?_ (by decide) ?_
  · intro Q hQ
    refine wpAny_Call_NameR (nB (env := e88 L) (G.cx c) rfl rfl (by decide) (Pv.callWith_type1 (spliced_more (he := by kernel_rfl) ?_) (by kernel_rfl) (by kernel_rfl)))
    refine listIE (X := []) (ns := [160, 28, 42]) (fun _ h => by cases h) (.cons .const (.cons .const (.cons .const .nil))) (by simp) (by kernel_rfl) fun a s5 g5 _ h5 => spliced_none ?_
    exact iter_enum hh (fun _ h => by cases h) h5 fun it s6 hit => hQ it _ s6 g5 hit
  · intro C X2 v s2 m2 x hC hCX hHX hfr hd hx g hn2 hv2
    refine unpack2N hh hn2 hv2 fun s3 v1 v2 g3 w3 hn3 h1 h2 => ?_
    obtain ⟨t1, rfl⟩ := h1.int_inv
    obtain ⟨t2, rfl⟩ := h2.int_inv
    have g3' : Chg [C] s2 s3 := g3
    have G3 : Glb (HK w) s3.heap := (G.cx c).on ((g.nil.trans g3').shrink fun b hb => .inr (by rw [List.mem_singleton.mp hb]; exact hC))
    have q1 := cell_ns (cell_on k1 g) hn2 g3
    have hc3 : Has (vw s3.heap X2) vc (.list (cells.map .int)) := (hv.past g hfr).mono (w3 X2)
    refine wpAny_pure ⟨rfl, ?_⟩
    rw [if_pos rfl]
    refine wpAny_BinOp (nN hn3 upd_eq ?_)
    refine wpAny_Call_NameR (nB G3 rfl rfl (by decide) (callWith_builtin1 (spliced_more (he := by kernel_rfl) ?_) (by kernel_rfl)))
    refine sliceStep (X := X2) (i := (x.1 : Int)) (c := 3) (.cell q1) hc3 (hd.chg g3') (.name (.ns hn3 (upd_ne (by decide) upd_eq))) .const (by decide) hn fun a s4 g4 h4 => spliced_none ?_
    refine sumL hh h4 fun t' s5 g5 => PySem.P.add_int ⟨.int _ _, g3'.trans ((g4.trans g5).trans .toks).nil, _, hn3.keeps (g4.trans g5).kp⟩
  · intro r s1 g c1 hr
    rw [List.filter_eq_self.mpr fun _ _ => rfl] at hr
    exact hQ s1 r g c1 hr
end
end Mine

end
section
-- C11b
open PySem PySem.W PyProof.Rows PySem.Calls
namespace Mine
set_option maxRecDepth 100000
set_option maxHeartbeats 4000000

theorem natbeq (a b : Nat) : (((a : Nat) : Int) == ((b : Nat) : Int)) = (a == b) := by
  by_cases h : a = b
  · subst h; simp
  · rw [beq_eq_false_iff_ne.mpr h, beq_eq_false_iff_ne.mpr (by omega)]
theorem dueL_N (d0 d1 d2 : Nat) : (dueL (d0 / 6 % 4) (pw d1) (pw d2) (pw (d2 / 3))).map Dat.int = (dueN (d0 / 6 % 4) (pwN d1) (pwN d2) (pwN (d2 / 3))).map natD := by
  rw [pwN_eq, pwN_eq, pwN_eq]; exact dueN_eq _ _ _ _
theorem natD_ints {V : Addr → Option Obj} {vs : List Value} {l : List Nat} (h : HasAll V vs (l.map natD)) : IntsAre vs (l.map fun (k : Nat) => (k : Int)) := by
  have e : l.map natD = (l.map fun (k : Nat) => (k : Int)).map Dat.int := by rw [List.map_map]; rfl
  rw [e] at h
  exact h.ints
section
variable {prog : Program} {w : World} {A : Around} {s st : Shared} {L : Addr} {m : Str → Option Value} {d0 d1 d2 : Nat} {Qf : Flow → Shared → Prop}

/-- the statements behind sizes = .. -/
theorem law_end {stock : List Str} {W : List Int} {sizes : List Nat} {count : Nat} {vs vw' vz : Value} {tc : Tok} (G : Glb (HK w) s.heap) (r : Rm A 10) (c : Cx s L m st) (P : PureOk stock W sizes count) (hc3 : count / 2 ≤ 3)
    (e1 : m (Str.ofString "stock") = some vs) (e2 : m (Str.ofString "weights") = some vw') (e3 : m (Str.ofString "sizes") = some vz) (e4 : m (Str.ofString "count") = some (.int count tc))
    (hs : Has (vw st.heap []) vs (.list (stock.map .str))) (hw : Has (vw st.heap []) vw' (.list (W.map .int))) (hz : Has (vw st.heap []) vz (.list (sizes.map natD))) :
    wpX (model prog w) A (execs (body88.drop 9) (e88 L)) (fun fl s' => Chg [] s s' ∧ (match fl with | .ret v => v | _ => .none) = .bool true) st := by
  have hX : ∀ {h : Heap}, Dom [] h := fun _ h => by cases h
  have hbits : ∀ x ∈ W, Builtin.Int.intBits x ≤ 64 := fun x hx => Nat.le_trans (P.hW x hx).bits (by decide)
  -- wants
  refine xCons (xAssign ?_)
  refine callDefX (K := HK w) (G.cx c) (.glob (env := e88 L) (G.cx c) rfl) ⟨_, _, _, rfl⟩ ?_ (by kernel_rfl)
  refine spliced_more (he := by kernel_rfl) (nL (env := e88 L) c e1 ?_)
  refine spliced_more (he := by kernel_rfl) (nL (env := e88 L) c e2 ?_)
  refine spliced_more (he := by kernel_rfl) (nL (env := e88 L) c e3 (spliced_none ⟨.refl _ _, ?_⟩))
  refine wpX_mono (wants_spec (X := []) (G.cx c) (r.less (by decide)) hX hs hw hz P.hl P.hsl P.hsa hbits P.hk (Nat.le_trans P.hz hc3)) fun v s1 q => ?_
  obtain ⟨g1, D, rfl, hD, W1⟩ := q
  refine sL (env := e88 L) (c.on g1) fun s2 g2 v2 c2 => ?_
  have hDL : D ≠ L := fun q => by rw [q] at hD; exact ns_dom c.ns hD
  have W2 := W1.go g2.toChw (notIn_one hDL)
  have hs2 := (hs.mono g1.nil.vle).mono (v2 [])
  have hw2 := (hw.mono g1.nil.vle).mono (v2 [])
  have hz2 := (hz.mono g1.nil.vle).mono (v2 [])
  -- sums
  refine xStep (wpAny_Assign_Name ?_)
  refine callDef (K := HK w) (G.cx c2) (.glob (env := e88 L) (G.cx c2) rfl) ⟨_, _, _, rfl⟩ ?_ (by kernel_rfl)
  refine spliced_more (he := by kernel_rfl) ?_
  refine callDef (K := HK w) (G.cx c2) (.glob (env := e88 L) (G.cx c2) rfl) ⟨_, _, _, rfl⟩ ?_ (by kernel_rfl)
  refine spliced_more (he := by kernel_rfl) (nL (env := e88 L) c2 (upd_ne (by decide) e1) ?_)
  refine spliced_more (he := by kernel_rfl) (nL (env := e88 L) c2 (upd_ne (by decide) e2) ?_)
  refine spliced_more (he := by kernel_rfl) (nL (env := e88 L) c2 (upd_ne (by decide) e4) (spliced_none ⟨.refl _ _, ?_⟩))
  refine wpAny_mono (words_spec (X := []) (G.cx c2) (r.less (by decide)) hX hs2 hw2 P.hc P.hl (fun x hx => Nat.le_of_eq (P.hsl x hx)) hbits) (fun vws s3 q => ?_) fun _ _ x => x
  obtain ⟨g3, hws⟩ := q
  have c3 := c2.on g3
  refine spliced_more (he := by kernel_rfl) (nL (env := e88 L) c3 upd_eq ?_)
  refine spliced_more (he := by kernel_rfl) ((IE.ndiv (k := 2) (.name (.loc (env := e88 L) c3 (upd_ne (by decide) e4))) (by decide) (by decide)).run s3 _ _ rfl fun t4 k4 => ?_)
  have c4 := c3.on (Chg.toks (s := s3) (t := k4))
  have hz4 : Has (vw s3.heap []) vz (.list (sizes.map natD)) := hz2.mono g3.nil.vle
  refine spliced_more (he := by kernel_rfl) ((IE.lenL (X := []) (.bi (env := e88 L) (G.cx c4) rfl rfl (by decide)) (.loc (env := e88 L) c4 (upd_ne (by decide) e3)) hz4 (by have := P.hz; rw [List.length_map]; omega)).run _ _ _ rfl fun t5 k5 => spliced_none ⟨(g3.trans (Chg.toks (s := s3) (t := k4))).trans (.toks (t := k5)), ?_⟩)
  rw [List.length_map]
  have c5 := c4.on (Chg.toks (s := { s3 with toks := k4 }) (t := k5))
  have W5 : WantsOk prog w sizes (WP stock W sizes.length 0) s3.heap D 1000 := W2.on g3
  refine wpAny_mono (sums_spec (s := { s3 with toks := k5 }) (X := []) (parts := count / 2) (tried := sizes.length) (ws := wordsL stock W count) (G.cx c5) (r.less (by decide)) hX hws W5 (by omega) P.hz ?_ ?_) (fun v s6 q => ?_) fun _ _ x => x
  · intro x hx i hi
    have hik : sizes[i]? = some sizes[i] := List.getElem?_eq_getElem hi
    have hlen := wordsL_len4 (weights := W) P.hsl count x hx
    have := P.hz
    have h2 : 2 * (count / 2) ≤ count := by omega
    exact ⟨sizes[i], hik, .inl ⟨hi, P.htake x hx i (by omega)⟩, by rw [hlen]; omega, P.hem x hx i _ hik⟩
  · intro x hx
    rw [wordsL_len4 (weights := W) P.hsl count x hx]
    have := P.hc; omega
  · obtain ⟨g6, S, rfl, hS, S6⟩ := q
    have g26 : Chg [] s2 s6 := (g3.trans (Chg.toks (s := s3) (t := k5))).trans g6
    refine sL (env := e88 L) (c2.on g26) fun s7 g7 v7 c7 => ?_
    have hSL : S ≠ L := fun q => by
      have hS3 : s3.heap.get? S = none := hS
      rw [q] at hS3; exact ns_dom c3.ns hS3
    have S7 := S6.go g7.toChw (notIn_one hSL)
    have hs7 := (hs2.mono g26.nil.vle).mono (v7 [])
    have hw7 := (hw2.mono g26.nil.vle).mono (v7 [])
    have hz7 := (hz2.mono g26.nil.vle).mono (v7 [])
    -- return
    refine xStep (wpAny_Return_some (wpAny_Compare1 (nL (env := e88 L) c7 upd_eq ?_)))
    refine callDef (K := HK w) (G.cx c7) (.glob (env := e88 L) (G.cx c7) rfl) ⟨_, _, _, rfl⟩ ?_ (by kernel_rfl)
    refine spliced_more (he := by kernel_rfl) (nL (env := e88 L) c7 (upd_ne (by decide) (upd_ne (by decide) e1)) ?_)
    refine spliced_more (he := by kernel_rfl) (nL (env := e88 L) c7 (upd_ne (by decide) (upd_ne (by decide) e2)) ?_)
    refine spliced_more (he := by kernel_rfl) (nL (env := e88 L) c7 (upd_ne (by decide) (upd_ne (by decide) e4)) ?_)
    refine spliced_more (he := by kernel_rfl) (nL (env := e88 L) c7 (upd_ne (by decide) (upd_ne (by decide) e3)) (spliced_none ⟨.refl _ _, ?_⟩))
    refine wpAny_mono (due_spec (X := []) (G.cx c7) (r.less (by decide)) hX hs7 hw7 hz7 P.hst (by have := P.hst; have := P.hl; omega) P.hW P.hsl P.hk P.hm P.hz P.hc) (fun v s8 q => ?_) fun _ _ x => x
    obtain ⟨g8, hv⟩ := q
    obtain ⟨a, as, n, rfl, hV, hA⟩ := hv.lst_inv
    obtain ⟨_, hao, _⟩ := vw_some.mp hV
    obtain ⟨bs, nb, hb, hB⟩ := S7.on g8
    refine eq_intsK (s := s8) ⟨_, hb, rfl, nb, rfl⟩ (hB fun _ => none).ints ⟨_, hao, rfl, n, rfl⟩ hA.ints (by have := r.un; omega) ⟨(c7.on g8).chg, ?_⟩
    show Value.bool (decide (sumsL sizes (count / 2) sizes.length (wordsL stock W count) = _)) = _
    rw [P.hlaw, decide_eq_true rfl]
end
end Mine

end
section
-- C11c
open PySem PySem.W PyProof.Rows PySem.Calls
namespace Mine
set_option maxRecDepth 100000
set_option maxHeartbeats 4000000

section
variable {prog : Program} {w : World} {A : Around} {s st : Shared} {L : Addr} {m : Str → Option Value} {d0 d1 d2 : Nat}

theorem stkF_len (d0 : Nat) : (stkF d0).length ≤ 3 := by
  unfold stkF stockL
  have : ∀ k, (pairL k).length = 2 := fun k => by unfold pairL; split <;> rfl
  split
  · rw [this]; decide
  · rw [List.length_append, this]; decide

/-- told, due = _law_sizes(draws) and what stands behind it -/
theorem law_told {vs vw' dv : Value} {tc : Tok} (G : Glb (HK w) s.heap) (r : Rm A 10) (c : Cx s L m st) (P : PureOk (stkF d0) (wtsF d0 d1 d2) (szsF d0 d1 d2) (cntF d0))
    (e0 : m (Str.ofString "draws") = some dv) (e1 : m (Str.ofString "stock") = some vs) (e2 : m (Str.ofString "weights") = some vw') (e4 : m (Str.ofString "count") = some (.int (cntF d0) tc))
    (hd : Has (vw st.heap []) dv (.list [.int d0, .int d1, .int d2])) (hs : Has (vw st.heap []) vs (.list ((stkF d0).map .str))) (hw : Has (vw st.heap []) vw' (.list ((wtsF d0 d1 d2).map .int))) :
    wpX (model prog w) A (execs (body88.drop 6) (e88 L)) (fun fl s' => Chg [] s s' ∧ (match fl with | .ret v => v | _ => .none) = .bool true) st := by
  have hX : ∀ {h : Heap}, Dom [] h := fun _ h => by cases h
  have hc : cntF d0 = 6 ∨ cntF d0 = 4 := by unfold cntF; split <;> simp
  refine xStep (Assign_Tuple ?_)
  refine callDef (K := HK w) (G.cx c) (.glob (env := e88 L) (G.cx c) rfl) ⟨_, _, _, rfl⟩ ?_ (by kernel_rfl)
  refine spliced_more (he := by kernel_rfl) (nL (env := e88 L) c e0 (spliced_none ⟨.refl _ _, ?_⟩))
  refine wpAny_mono (sizes_spec (X := []) (G.cx c) (r.less (by decide)) hX hd) (fun v s1 q => ?_) fun _ _ x => x
  obtain ⟨g1, hv⟩ := q
  rw [dueL_N] at hv
  generalize hdl : dueN (d0 / 6 % 4) (pwN d1) (pwN d2) (pwN (d2 / 3)) = dl at hv
  have hdl4 : dl.length ≤ 4 := by
    rw [← hdl]; unfold dueN; split <;> simp
  refine unpack2L (env := e88 L) r.hd (c.on g1) hv fun s2 v1 v2 g2 w2 c2 h1 h2 => ?_
  have hs2 := (hs.mono g1.nil.vle).mono (w2 [])
  have hw2 := (hw.mono g1.nil.vle).mono (w2 [])
  refine xIf (wpAny_isTrue_Compare1 (nL (env := e88 L) c2 (upd_ne (by decide) upd_eq) (nL (env := e88 L) c2 upd_eq ?_))) |> xCons
  obtain ⟨a, as, n, rfl, hV, hA⟩ := h1.lst_inv
  obtain ⟨_, hao, _⟩ := vw_some.mp hV
  obtain ⟨b, bs, n2, rfl, hV2, hB⟩ := h2.lst_inv
  obtain ⟨_, hbo, _⟩ := vw_some.mp hV2
  refine ne_intsK (s := s2) ⟨_, hao, rfl, n, rfl⟩ (natD_ints hA) ⟨_, hbo, rfl, n2, rfl⟩ (natD_ints hB) (by have := r.un; omega) (wpAny_truthy_bool ?_)
  rw [decide_eq_true rfl]
  refine xNil ?_
  -- sizes
  refine xStep (wpAny_Assign_Name ?_)
  refine sliceTo (n := cntF d0 / 2) (nL (env := e88 L) c2 upd_eq ⟨b, bs, rfl, ⟨_, hbo, rfl, n2, rfl⟩, by have := hB.length; rw [List.length_map] at this; omega, .ndiv (k := 2) (.name (.loc (env := e88 L) c2 (upd_ne (by decide) (upd_ne (by decide) e4)))) (by decide) (by decide), fun z s3 g3 _ hz => ?_⟩)
  have hz3 : Has (vw s3.heap []) (.ref z) (.list ((szsF d0 d1 d2).map natD)) := by
    refine .lst (vw_some.mpr ⟨List.not_mem_nil, hz, rfl⟩) ?_
    unfold szsF
    rw [hdl, List.map_take]
    have hf : (dl.map natD).all Flat = true := by rw [List.all_eq_true]; intro x hx; obtain ⟨k, _, rfl⟩ := List.mem_map.mp hx; rfl
    exact (hB.flat hf).take _
  refine sL (env := e88 L) (c2.on g3) fun s4 g4 v4 c4 => ?_
  exact law_end (sizes := szsF d0 d1 d2) (count := cntF d0) G r c4 P (by rcases hc with h | h <;> rw [h] <;> decide) (upd_ne (by decide) (upd_ne (by decide) (upd_ne (by decide) e1))) (upd_ne (by decide) (upd_ne (by decide) (upd_ne (by decide) e2))) upd_eq (upd_ne (by decide) (upd_ne (by decide) (upd_ne (by decide) e4)))
    ((hs2.mono g3.nil.vle).mono (v4 [])) ((hw2.mono g3.nil.vle).mono (v4 [])) (hz3.mono (v4 []))

/-- few, stock, count, weights -/
theorem law_mid {dv : Value} (G : Glb (HK w) s.heap) (r : Rm A 10) (c : Cx s L m st) (P : PureOk (stkF d0) (wtsF d0 d1 d2) (szsF d0 d1 d2) (cntF d0))
    (e0 : m (Str.ofString "draws") = some dv) (hd : Has (vw st.heap []) dv (.list [.int d0, .int d1, .int d2])) :
    wpX (model prog w) A (execs (body88.drop 2) (e88 L)) (fun fl s' => Chg [] s s' ∧ (match fl with | .ret v => v | _ => .none) = .bool true) st := by
  have hX : ∀ {h : Heap}, Dom [] h := fun _ h => by cases h
  -- few
  refine xStep (wpAny_Assign_Name (wpAny_Compare1 ?_))
  refine (IE.nmod (k := 2) (.ndiv (k := 3) (.nth (i := 0) (n := d0) (.loc (env := e88 L) c e0) hd (by decide) rfl) (by decide) (by decide)) (by decide)).run st _ _ rfl fun t1 k1 => ?_
  refine wpAny_Constant_int (PySem.P.eq_int ?_)
  have eb : (((d0 / 3 % 2 : Nat) : Int) == 1) = fewB d0 := natbeq (d0 / 3 % 2) 1
  rw [eb]
  refine sL (env := e88 L) (c.on ((Chg.toks (s := st) (t := k1)).trans (.toks (t := k1 + 1)))) fun s2 g2 v2 c2 => ?_
  have hd2 : Has (vw s2.heap []) dv (.list [.int d0, .int d1, .int d2]) := Has.mono (v2 []) hd
  -- stock
  refine xStep (wpAny_Assign_Name ?_)
  refine callDef (K := HK w) (G.cx c2) (.glob (env := e88 L) (G.cx c2) rfl) ⟨_, _, _, rfl⟩ ?_ (by kernel_rfl)
  refine spliced_more (he := by kernel_rfl) ((IE.nmod (k := 3) (.nth (i := 0) (n := d0) (.loc (env := e88 L) c2 (upd_ne (by decide) e0)) hd2 (by decide) rfl) (by decide)).run s2 _ _ rfl fun t3 k3 => ?_)
  have c3 := c2.on (Chg.toks (s := s2) (t := k3))
  refine spliced_more (he := by kernel_rfl) (nL (env := e88 L) c3 upd_eq (spliced_none ⟨.toks, ?_⟩))
  refine wpAny_mono (stock_spec (s := { s2 with toks := k3 }) (X := []) (G.cx c3) (r.less (by decide)) (Nat.mod_lt _ (by decide)) hX) (fun v s4 q => ?_) fun _ _ x => x
  obtain ⟨g4, hs4⟩ := q
  have c4 := c3.on g4
  refine sL (env := e88 L) c4 fun s5 g5 v5 c5 => ?_
  have hs5 : Has (vw s5.heap []) v (.list ((stkF d0).map .str)) := hs4.mono (v5 [])
  have hd5 : Has (vw s5.heap []) dv (.list [.int d0, .int d1, .int d2]) := Has.mono (v5 []) (Has.mono (((Chg.toks (s := s2) (t := k3)).trans g4).nil.vle) hd2)
  -- count
  refine xStep (wpAny_Assign_Name (wpAny_IfExp (wpAny_isTrue_value (nL (env := e88 L) c5 (upd_ne (by decide) upd_eq) (wpAny_truthy_bool ?_)))))
  have hcnt : ∀ {Q : Value → Shared → Prop}, Q (.int (cntF d0) s5.toks) { s5 with toks := s5.toks + 1 } → if fewB d0 = true then wpAny (model prog w) A (eval (.Constant (.int 6) 0 ⟨120, 12, 120, 13⟩) (e88 L)) Q No s5 else wpAny (model prog w) A (eval (.Constant (.int 4) 0 ⟨120, 26, 120, 27⟩) (e88 L)) Q No s5 := fun {Q} h => by
    unfold cntF at h
    split
    · rename_i hf; rw [if_pos hf] at h; exact wpAny_Constant_int h
    · rename_i hf; rw [if_neg hf] at h; exact wpAny_Constant_int h
  refine hcnt ?_
  refine sL (env := e88 L) (c5.on .toks) fun s6 g6 v6 c6 => ?_
  have hs6 : Has (vw s6.heap []) v (.list ((stkF d0).map .str)) := Has.mono (v6 []) hs5
  have hd6 : Has (vw s6.heap []) dv (.list [.int d0, .int d1, .int d2]) := Has.mono (v6 []) hd5
  -- weights
  have rdr : Rd prog w A (e88 L) s6.heap (Str.ofString "draws") dv := .loc (env := e88 L) c6 (upd_ne (by decide) (upd_ne (by decide) (upd_ne (by decide) e0)))
  refine xStep (wpAny_Assign_Name ?_)
  refine sliceTo (n := (stkF d0).length) (listIE (X := []) (ns := [((d0 / 24 : Nat) : Int) - 4, ((d1 / 3 : Nat) : Int) - 6, ((d2 / 9 : Nat) : Int) - 5]) hX
    (.cons (.sub (.ndiv (k := 24) (.nth (i := 0) (n := d0) rdr hd6 (by decide) rfl) (by decide) (by decide)) .const) (.cons (.sub (.ndiv (k := 3) (.nth (i := 1) (n := d1) rdr hd6 (by decide) rfl) (by decide) (by decide)) .const) (.cons (.sub (.ndiv (k := 9) (.nth (i := 2) (n := d2) rdr hd6 (by decide) rfl) (by decide) (by decide)) .const) .nil)))
    (by simp) (by kernel_rfl) fun a s7 g7 _ h7 => ?_)
  obtain ⟨a', as, n, ea, hV, hA⟩ := h7.lst_inv
  cases ea
  obtain ⟨_, hao, _⟩ := vw_some.mp hV
  have c7 := c6.on g7
  have hs7 : Has (vw s7.heap []) v (.list ((stkF d0).map .str)) := hs6.mono g7.nil.vle
  have hl := stkF_len d0
  refine ⟨a, as, rfl, ⟨_, hao, rfl, n, rfl⟩, by have := hA.length; simp at this; omega, IE.cast (.lenL (X := []) (.bi (env := e88 L) (G.cx c7) rfl rfl (by decide)) (.loc (env := e88 L) c7 (upd_ne (by decide) upd_eq)) hs7 (by rw [List.length_map]; omega)) (by rw [List.length_map]), fun z s8 g8 _ hz => ?_⟩
  have hw8 : Has (vw s8.heap []) (.ref z) (.list ((wtsF d0 d1 d2).map .int)) := by
    refine .lst (vw_some.mpr ⟨List.not_mem_nil, hz, rfl⟩) ?_
    unfold wtsF
    rw [List.map_take]
    exact (hA.flat (flat_ints _)).take _
  refine sL (env := e88 L) (c7.on g8) fun s9 g9 v9 c9 => ?_
  have g68 := (g7.trans g8)
  exact law_told G r c9 P (upd_ne (by decide) (upd_ne (by decide) (upd_ne (by decide) (upd_ne (by decide) e0)))) (upd_ne (by decide) (upd_ne (by decide) upd_eq)) upd_eq (upd_ne (by decide) upd_eq)
    (Has.mono (v9 []) (hd6.mono g68.nil.vle)) (Has.mono (v9 []) (hs6.mono g68.nil.vle)) (Has.mono (v9 []) hw8)
end
end Mine

end
section
-- C11d
open PySem PySem.W PyProof.Rows PySem.Calls
namespace Mine
set_option maxRecDepth 100000
set_option maxHeartbeats 4000000

theorem sum_bd {l : List Int} (h : ∀ x ∈ l, 0 ≤ x ∧ x < 1000000) : 0 ≤ l.sum ∧ l.sum ≤ 1000000 * l.length := by
  induction l with
  | nil => simp
  | cons x l ih =>
    have h1 := h x (.head _)
    have h2 := ih fun y hy => h y (.tail _ hy)
    rw [List.sum_cons, List.length_cons]
    push_cast
    omega
theorem draw_nat (cells : List Int) (h : ∀ x ∈ cells, 0 ≤ x ∧ x < 1000000) (hn : cells.length ≤ 9) (i b : Nat) : ∃ d : Nat, drawF cells (i, (b : Int)) = d ∧ b ≤ d ∧ d ≤ b + 3000000 := by
  have h1 := sum_bd (l := pickNums cells (some (i : Int)) none (some 3)) fun x hx => h x (pickNums_mem hx)
  have h2 := pickNums_step3 (i := i) hn
  refine ⟨(drawF cells (i, (b : Int))).toNat, ?_, ?_, ?_⟩ <;> unfold drawF <;> dsimp only <;> omega

theorem law_spec {prog : Program} {w : World} {A : Around} {s : Shared} {l : Addr} {vs : List Value} {ns : List Int} (G : Glb (HK w) s.heap) (r : Rm A 11) (hl : s.heap.IsList l vs.toArray) (hi : IntsAre vs ns) (hn : ns.length ≤ 1000)
    (hp : ∀ d0 d1 d2 : Nat, 160 ≤ d0 → 28 ≤ d1 → 42 ≤ d2 → d0 ≤ 3000160 → d1 ≤ 3000028 → d2 ≤ 3000042 → PureOk (stkF d0) (wtsF d0 d1 d2) (szsF d0 d1 d2) (cntF d0)) :
    wpX (model prog w) A (call (.ref 88) [.ref l]) (fun v s' => Chg [] s s' ∧ v = .bool true) s := by
  refine enterX fd88 [(Str.ofString "script", .ref l)] (body := body88) G ⟨_, _, _, rfl⟩ rfl (by rfl) r rfl rfl (by rfl) (by rfl) ?_
  intro L s₁ A' hL r' c ce
  have k1 : s₁.heap.IsCell (L + 1) none := ce.is (Str.ofString "cells") (L + 1) rfl
  have n1 : s.heap.get? (L + 1) = none := ce.new (Str.ofString "cells") (L + 1) rfl
  refine xStep (law_cells G r'.hd c rfl (hl.at fun o e => c.chg.kp _ o e) hi hn k1 fun s2 v g2 k2 hv => ?_)
  have c2 := c.go g2.toChw (notIn_one (addr_ne0 (by decide))) (new_one n1)
  have hlen : ((ns.take 9).map cellF).length ≤ 9 := by rw [List.length_map, List.length_take]; omega
  refine xStep (law_draws G r'.hd c2 (Nat.le_trans hlen (by decide)) k2 hv fun s3 dv g3 c3 hd => ?_)
  have hb : ∀ x ∈ (ns.take 9).map cellF, 0 ≤ x ∧ x < 1000000 := fun x hx => by
    obtain ⟨y, _, rfl⟩ := List.mem_map.mp hx
    exact cellF_bd y
  obtain ⟨d0, h0, a0, b0⟩ := draw_nat _ hb hlen 0 160
  obtain ⟨d1, h1, a1, b1⟩ := draw_nat _ hb hlen 1 28
  obtain ⟨d2, h2, a2, b2⟩ := draw_nat _ hb hlen 2 42
  have e0 : drawF ((ns.take 9).map cellF) (0, 160) = d0 := h0
  have e1 : drawF ((ns.take 9).map cellF) (1, 28) = d1 := h1
  have e2 : drawF ((ns.take 9).map cellF) (2, 42) = d2 := h2
  rw [e0, e1, e2] at hd
  exact law_mid G r' c3 (hp d0 d1 d2 a0 a1 a2 b0 b1 b2) upd_eq hd

theorem holds_of (hp : ∀ d0 d1 d2 : Nat, 160 ≤ d0 → 28 ≤ d1 → 42 ≤ d2 → d0 ≤ 3000160 → d1 ≤ 3000028 → d2 ≤ 3000042 → PureOk (stkF d0) (wtsF d0 d1 d2) (szsF d0 d1 d2) (cntF d0)) : Challenge.rw_wo0021_02.Holds := HX.hd (by
  intro w s₀ s₁ mg mb args vals as G Y L low hpre hlay fa hmg
  have hrd := L.reads
  have hwl := L.well
  have hlo := L.low low
  have KX := kIn_of Y
  refine Ground.open G ?_
  intro T B D TE TW
  clear G Y
  wrow_args hpre hlay hrd hwl hlo
  rename IntsAre _ _ => hI
  rename Heap.IsList _ _ _ => hLl
  rename ¬ _ => hc63
  have GG : Glb (HK w) s₁.heap := ⟨KX, _, _, _, mg, mb, T⟩
  have hfa : mg (Str.ofString "law") = some (.ref 88) := mg_of KX T.g rfl
  have e88 : fa = 88 := by
    have q : some (Value.ref fa) = some (.ref 88) := hmg.symm.trans hfa
    cases q; rfl
  subst e88
  exact law_spec GG ⟨rfl, by decide, by decide⟩ hLl hI (by omega) hp)
end Mine

end
section
-- N2
open PySem PySem.W PyProof.Rows PySem.Calls PySem.Builtin PySem.Builtin.Str PySem.Txt PySem.StrLaws
namespace Mine
set_option maxRecDepth 100000

noncomputable def dots : Str := Str.ofString "..."
theorem dots_cps : dots.cps.toList = [46, 46, 46] := by decide +kernel
theorem dots_len : dots.length = 3 := by decide +kernel
noncomputable def glueL (p : List Nat) : List (List Nat) → List Nat
  | [] => p
  | q :: qs => p ++ [46, 46, 46] ++ glueL q qs
noncomputable def cutsL (a : Nat) (p : List Nat) : List (List Nat) → List Nat
  | [] => []
  | q :: qs => (a + p.length) :: cutsL (a + p.length + 3) q qs

section
variable {s : Str} {limit : Nat}
theorem occ_skip {st : Array Nat × Nat} : ∀ (k a n : Nat), (∀ j, j < k → ¬ ((st.snd ≤ a + j ∧ a + j + dots.length ≤ s.length) ∧ subAt s dots (a + j) = true)) →
    (forIn (List.range' a (k + n)) st (occBody s dots s.length limit)).run = (forIn (List.range' (a + k) n) st (occBody s dots s.length limit)).run
  | 0, a, n, _ => by rw [Nat.zero_add, Nat.add_zero]
  | k + 1, a, n, h => by
    rw [Nat.add_right_comm, List.range'_succ, List.forIn_cons]
    have h0 : ¬ (((st.fst.size < limit ∧ st.snd ≤ a) ∧ a + dots.length ≤ s.length) ∧ subAt s dots a = true) := fun q => h 0 (Nat.succ_pos k) ⟨⟨q.1.1.2, q.1.2⟩, q.2⟩
    have e : occBody s dots s.length limit a st = pure (ForInStep.yield (st.fst, st.snd)) := by unfold occBody; rw [if_neg h0]
    rw [e]
    have ih := occ_skip (st := st) k (a + 1) n fun j hj => by
      have := h (j + 1) (Nat.succ_lt_succ hj)
      rwa [show a + (j + 1) = a + 1 + j by omega] at this
    rw [show a + (k + 1) = a + 1 + k by omega, ← ih]
    rfl
theorem subAt_of_drop {a : Nat} {l : List Nat} (h : s.cps.toList.drop a = l) : subAt s dots a = (l.take 3 == [46, 46, 46]) := by
  rw [subAt_eq, dots_len, dots_cps, h]
theorem occ_run : ∀ (ps : List (List Nat)) (p : List Nat) (found : Array Nat) (a : Nat), s.cps.toList.drop a = glueL p ps → (∀ c ∈ p, c ≠ 46) → (∀ q ∈ ps, ∀ c ∈ q, c ≠ 46) → found.size + ps.length ≤ limit → a ≤ s.length →
    (forIn (List.range' a (s.length + 1 - a)) (found, a) (occBody s dots s.length limit)).run.fst = found ++ (cutsL a p ps).toArray := by
  intro ps
  induction ps with
  | nil =>
    intro p found a hd hp _ hl ha
    have hlen : s.length - a = p.length := by
      have := congrArg List.length hd
      rw [List.length_drop] at this
      exact this
    have := occ_skip (s := s) (limit := limit) (st := (found, a)) (s.length + 1 - a) a 0 fun j hj q => by
      have hd2 : s.cps.toList.drop (a + j) = p.drop j := by rw [← List.drop_drop, hd]; rfl
      rw [dots_len] at q
      rw [subAt_of_drop hd2] at q
      have hj2 : j < p.length := by omega
      have : (p.drop j).take 3 = [46, 46, 46] := by simpa using q.2
      rw [List.drop_eq_getElem_cons hj2] at this
      have h46 : p[j] = 46 := by simpa using (List.cons.inj this).1
      exact hp _ (List.getElem_mem hj2) h46
    rw [Nat.add_zero] at this
    rw [this]
    simp [cutsL]
  | cons q qs ih =>
    intro p found a hd hp hq hl ha
    have hglen : (glueL p (q :: qs)).length = p.length + 3 + (glueL q qs).length := by simp [glueL]; omega
    have hlen : s.length - a = p.length + 3 + (glueL q qs).length := by
      have := congrArg List.length hd
      rw [List.length_drop, hglen] at this
      exact this
    have hdp : ∀ j, j ≤ p.length → s.cps.toList.drop (a + j) = p.drop j ++ ([46, 46, 46] ++ glueL q qs) := fun j hj => by
      rw [← List.drop_drop, hd]
      show (p ++ [46, 46, 46] ++ glueL q qs).drop j = _
      rw [List.append_assoc, List.drop_append_of_le_length hj]
    have e1 := occ_skip (s := s) (limit := limit) (st := (found, a)) p.length a (s.length + 1 - a - p.length) fun j hj q => by
      rw [subAt_of_drop (hdp j (Nat.le_of_lt hj)), List.drop_eq_getElem_cons hj] at q
      have h46 : p[j] = 46 := by
        have := q.2
        simp only [List.cons_append, List.take_succ_cons, beq_iff_eq, List.cons.injEq] at this
        exact this.1
      exact hp _ (List.getElem_mem hj) h46
    rw [show p.length + (s.length + 1 - a - p.length) = s.length + 1 - a by omega] at e1
    rw [e1]
    have hcut : s.length + 1 - a - p.length = (s.length + 1 - (a + p.length + 3)) + 2 + 1 := by omega
    rw [hcut, List.range'_succ, List.forIn_cons]
    have hat : subAt s dots (a + p.length) = true := by
      rw [subAt_of_drop (hdp p.length (Nat.le_refl _)), List.drop_length]; rfl
    have eb : occBody s dots s.length limit (a + p.length) (found, a) = pure (ForInStep.yield (found.push (a + p.length), a + p.length + 3)) := by
      unfold occBody
      rw [if_pos ⟨⟨⟨by simp only [List.length_cons] at hl; show found.size < limit; omega, Nat.le_add_right _ _⟩, by rw [dots_len]; omega⟩, hat⟩, dots_len]
    rw [eb]
    have e2 := occ_skip (s := s) (limit := limit) (st := (found.push (a + p.length), a + p.length + 3)) 2 (a + p.length + 1) (s.length + 1 - (a + p.length + 3)) fun j hj q => by
      have := q.1.1
      dsimp only at this
      omega
    rw [show 2 + (s.length + 1 - (a + p.length + 3)) = s.length + 1 - (a + p.length + 3) + 2 by omega, show a + p.length + 1 + 2 = a + p.length + 3 by omega] at e2
    refine Eq.trans (congrArg Prod.fst e2) ?_
    have hd3 : s.cps.toList.drop (a + p.length + 3) = glueL q qs := by
      rw [← List.drop_drop, hdp p.length (Nat.le_refl _), List.drop_length]; rfl
    rw [ih q (found.push (a + p.length)) (a + p.length + 3) hd3 (hq q (.head _)) (fun r hr => hq r (.tail _ hr)) (by rw [Array.size_push]; simp only [List.length_cons] at hl; omega) (by omega)]
    simp [cutsL]
theorem parts_run : ∀ (ps : List (List Nat)) (p : List Nat) (a : Nat), s.cps.toList.drop a = glueL p ps → a ≤ s.length → partsFrom s 3 a (cutsL a p ps) = (p :: ps).map fun l => ⟨l.toArray⟩ := by
  intro ps
  induction ps with
  | nil =>
    intro p a hd ha
    show [strSub s a s.length] = [_]
    congr 1
    refine mk_of_toList ?_
    rw [strSub_toList, hd, List.take_of_length_le]
    · rfl
    · have := congrArg List.length hd
      rw [List.length_drop] at this
      exact Nat.le_of_eq this.symm
  | cons q qs ih =>
    intro p a hd ha
    have hlen : s.length - a = p.length + 3 + (glueL q qs).length := by
      have := congrArg List.length hd
      rw [List.length_drop] at this
      refine this.trans ?_
      simp [glueL]; omega
    show strSub s a (a + p.length) :: partsFrom s 3 (a + p.length + 3) _ = _
    rw [List.map_cons]
    congr 1
    · refine mk_of_toList ?_
      rw [strSub_toList, hd, Nat.add_sub_cancel_left]
      simp [glueL]
    · refine ih q (a + p.length + 3) ?_ (by omega)
      rw [Nat.add_assoc, ← List.drop_drop, hd]
      simp [glueL]
end
theorem glue_len : ∀ (ps : List (List Nat)) (p : List Nat), p.length + 3 * ps.length ≤ (glueL p ps).length
  | [], p => Nat.le_refl _
  | q :: qs, p => by
    have := glue_len qs q
    have e : (glueL p (q :: qs)).length = p.length + 3 + (glueL q qs).length := by simp [glueL]; omega
    rw [e, List.length_cons]; omega
theorem cuts_len : ∀ (ps : List (List Nat)) (p : List Nat) (a : Nat), (cutsL a p ps).length = ps.length
  | [], _, _ => rfl
  | q :: qs, p, a => by rw [cutsL, List.length_cons, List.length_cons, cuts_len]
/-- a text of pieces without dots, glued by three dots -/
theorem split_glue (p : List Nat) (ps : List (List Nat)) (hp : ∀ c ∈ p, c ≠ 46) (hps : ∀ q ∈ ps, ∀ c ∈ q, c ≠ 46) (h0 : ps ≠ []) :
    Txt.split ⟨(glueL p ps).toArray⟩ dots = (p :: ps).map (fun l => ⟨l.toArray⟩) ∧ Txt.contains ⟨(glueL p ps).toArray⟩ dots = true ∧
    (partsBetween ⟨(glueL p ps).toArray⟩ (occurrences ⟨(glueL p ps).toArray⟩ dots 0 (⟨(glueL p ps).toArray⟩ : Str).length ((⟨(glueL p ps).toArray⟩ : Str).length + 1)) dots.length).length = ps.length + 1 := by
  generalize hs : (⟨(glueL p ps).toArray⟩ : Str) = s
  have hd : s.cps.toList.drop 0 = glueL p ps := by rw [← hs]; rfl
  have hlen : s.length = (glueL p ps).length := by rw [← hs]; show (glueL p ps).toArray.size = _; simp
  have hge := glue_len ps p
  have hpl : 0 < ps.length := List.length_pos_iff.mpr h0
  have hocc : occurrences s dots 0 s.length (s.length + 1) = cutsL 0 p ps := by
    rw [occ_eq]
    have := occ_run (s := s) (limit := s.length + 1) ps p #[] 0 hd hp hps (by simp; omega) (Nat.zero_le _)
    rw [this]; simp
  have hparts : partsBetween s (cutsL 0 p ps) dots.length = (p :: ps).map (fun l => (⟨l.toArray⟩ : Str)) := by
    rw [partsBetween_eq, dots_len]
    exact parts_run ps p 0 hd (Nat.zero_le _)
  have hdk : strKind dots = 1 := by decide +kernel
  refine ⟨?_, ?_, ?_⟩
  · unfold Txt.split
    have h1 : ¬ ((decide (s.length < dots.length) || decide (strKind s < strKind dots)) = true) := by
      rw [dots_len, hdk]
      have := strKind_pos s
      simp; omega
    rw [if_neg h1, hocc]
    have h2 : ¬ ((cutsL 0 p ps).isEmpty = true) := by
      rw [List.isEmpty_iff]
      intro q
      have := cuts_len ps p 0
      rw [q] at this; simp at this; omega
    rw [if_neg h2, hparts]
  · unfold Txt.contains
    rw [found_iff]
    refine ⟨p.length, by rw [dots_len]; omega, ?_⟩
    have hd3 : s.cps.toList.drop p.length = ([46, 46, 46] : List Nat) ++ (match ps with | q :: qs => glueL q qs | [] => []) := by
      cases ps with
      | nil => exact absurd rfl h0
      | cons q qs =>
        have : s.cps.toList = p ++ [46, 46, 46] ++ glueL q qs := hd
        rw [this]; simp
    rw [subAt_of_drop hd3]; rfl
  · rw [hocc, hparts]; simp
end Mine

end
section
-- N3
open PySem PySem.W PyProof.Rows
namespace Mine
set_option maxRecDepth 100000

theorem swapRow_get {k : Nat} {l : List UInt8} {b : Array UInt8} {r i : Nat} (hi : i < b.size) : (swapRow k l b r)[i]? = some (if r * k ≤ i ∧ i < r * k + k then l.getD (r * k + (k - 1 - (i - r * k))) 0 else b[i]) := by
  have key : ∀ t, t ≤ k → ((List.range t).foldl (swapStep k l r) b)[i]? = some (if r * k + k - t ≤ i ∧ i < r * k + k then l.getD (r * k + (k - 1 - (i - r * k))) 0 else b[i]) := by
    intro t
    induction t with
    | zero => intro _; rw [if_neg (by omega)]; simp [hi]
    | succ t ih =>
      intro ht
      have ih := ih (by omega)
      rw [List.range_succ, List.foldl_append, List.foldl_cons, List.foldl_nil]
      show (Array.setIfInBounds ((List.range t).foldl (swapStep k l r) b) (r * k + k - 1 - t) (l.getD (r * k + t) 0))[i]? = _
      have hsz : ∀ (js : List Nat) (b : Array UInt8), (js.foldl (swapStep k l r) b).size = b.size := fun js => by
        induction js with
        | nil => intro b; rfl
        | cons x js ih => intro b; rw [List.foldl_cons, ih]; exact Array.size_setIfInBounds
      rw [Array.getElem?_setIfInBounds]
      by_cases he : r * k + k - 1 - t = i
      · rw [if_pos he, if_pos (by have := hsz (List.range t) b; omega), if_pos (by omega)]
        congr 2; omega
      · rw [if_neg he]
        refine ih.trans ?_
        by_cases hc : r * k + k - t ≤ i ∧ i < r * k + k
        · rw [if_pos hc, if_pos (by omega)]
        · rw [if_neg hc, if_neg (by omega)]
  have := key k (Nat.le_refl _)
  rw [Nat.add_sub_cancel] at this
  exact this
theorem swapB_get {k m : Nat} {l : List UInt8} {i : Nat} (hk : 0 < k) (hi : i < m * k) : (swapB k m l)[i]? = some (l.getD (i / k * k + (k - 1 - i % k)) 0) := by
  have key : ∀ t, t ≤ m → ((List.range t).foldl (swapRow k l) (Array.replicate (m * k) 0))[i]? = some (if i < t * k then l.getD (i / k * k + (k - 1 - i % k)) 0 else 0) := by
    intro t
    induction t with
    | zero => intro _; rw [if_neg (by omega)]; simp [hi]
    | succ t ih =>
      intro ht
      have ih := ih (by omega)
      rw [List.range_succ, List.foldl_append, List.foldl_cons, List.foldl_nil]
      have hsz := swapRows_size (k := k) (l := l) (List.range t) (Array.replicate (m * k) 0)
      rw [Array.size_replicate] at hsz
      have hi2 : i < ((List.range t).foldl (swapRow k l) (Array.replicate (m * k) 0)).size := by omega
      rw [swapRow_get hi2]
      rw [Array.getElem?_eq_getElem hi2] at ih
      have ih := Option.some.inj ih
      have e1 : (t + 1) * k = t * k + k := by rw [Nat.add_mul, Nat.one_mul]
      by_cases h1 : t * k ≤ i
      · by_cases h2 : i < t * k + k
        · rw [if_pos ⟨h1, h2⟩, if_pos (by omega)]
          have hd : i / k = t := Nat.div_eq_of_lt_le h1 (by rw [Nat.add_mul, Nat.one_mul]; exact h2)
          have hm := Nat.div_add_mod i k
          rw [hd, Nat.mul_comm] at hm
          rw [hd, show i - t * k = i % k by omega]
        · rw [if_neg (by omega), if_neg (by omega), ih, if_neg (by omega)]
      · rw [if_neg (by omega), if_pos (by omega), ih, if_pos (by omega)]
  have := key m (Nat.le_refl _)
  rw [if_pos hi] at this
  exact this
theorem swapB_append {k m1 m2 : Nat} {l1 l2 : List UInt8} (hk : 0 < k) (h1 : l1.length = m1 * k) : swapB k (m1 + m2) (l1 ++ l2) = swapB k m1 l1 ++ swapB k m2 l2 := by
  have s1 := swapB_size (k := k) (m := m1) (l := l1)
  have s2 := swapB_size (k := k) (m := m2) (l := l2)
  have s3 := swapB_size (k := k) (m := m1 + m2) (l := l1 ++ l2)
  rw [Nat.add_mul] at s3
  have hmod : ∀ i, i % k < k := fun i => Nat.mod_lt i hk
  refine Array.ext_getElem? fun i => ?_
  by_cases ha : i < m1 * k
  · rw [Array.getElem?_append_left (by omega), swapB_get hk (by rw [Nat.add_mul]; omega), swapB_get hk ha]
    have hdl : i / k < m1 := Nat.div_lt_of_lt_mul (by rw [Nat.mul_comm]; exact ha)
    have hlt : i / k * k + (k - 1 - i % k) < l1.length := by
      have : (i / k + 1) * k ≤ m1 * k := Nat.mul_le_mul_right k hdl
      rw [Nat.add_mul, Nat.one_mul] at this
      have := hmod i
      omega
    rw [List.getD_eq_getElem?_getD, List.getD_eq_getElem?_getD, List.getElem?_append_left hlt]
  · obtain ⟨i', rfl⟩ : ∃ i', i = i' + k * m1 := ⟨i - m1 * k, by rw [Nat.mul_comm k m1]; omega⟩
    have hkm : k * m1 = m1 * k := Nat.mul_comm k m1
    rw [Array.getElem?_append_right (by omega), s1, show i' + k * m1 - m1 * k = i' by omega]
    by_cases hb : i' < m2 * k
    · rw [swapB_get hk (by rw [Nat.add_mul]; omega), swapB_get hk hb]
      rw [Nat.add_mul_div_left _ _ hk, Nat.add_mul_mod_self_left, Nat.add_mul, Nat.add_right_comm, List.getD_eq_getElem?_getD, List.getD_eq_getElem?_getD, List.getElem?_append_right (by omega)]
      congr 3; omega
    · rw [Array.getElem?_eq_none (by omega), Array.getElem?_eq_none (by omega)]
theorem bytesOf_append (x y : Str) : bytesOf (x ++ y) = bytesOf x ++ bytesOf y := by
  unfold bytesOf
  show ((x.cps ++ y.cps).toList.map _) = _
  simp
theorem turnS_append {k : Nat} {x y : Str} (hk : 0 < k) (hx : k ∣ x.length) (hy : k ∣ y.length) : turnS k (x ++ y) = turnS k x ++ turnS k y := by
  obtain ⟨m1, h1⟩ := hx
  obtain ⟨m2, h2⟩ := hy
  unfold turnS
  have e : (x ++ y).length / k = m1 + m2 := by rw [Str.length_append, h1, h2, ← Nat.mul_add, Nat.mul_div_cancel_left _ hk]
  have e1 : x.length / k = m1 := by rw [h1, Nat.mul_div_cancel_left _ hk]
  have e2 : y.length / k = m2 := by rw [h2, Nat.mul_div_cancel_left _ hk]
  rw [e, e1, e2, bytesOf_append, swapB_append hk (by rw [bytesOf_length, h1, Nat.mul_comm])]
  rw [Array.toList_append, List.map_append]
  show _ = Str.mk (_ ++ _)
  congr 1
  simp
theorem swapStep_all {P : UInt8 → Prop} {k : Nat} {l : List UInt8} {r : Nat} {b : Array UInt8} {j : Nat} (hl : ∀ c ∈ l, P c) (h0 : P 0) (hb : ∀ c ∈ b, P c) : ∀ c ∈ swapStep k l r b j, P c := by
  intro c hc
  unfold swapStep at hc
  rcases Array.mem_or_eq_of_mem_setIfInBounds hc with q | rfl
  · exact hb c q
  · rw [List.getD_eq_getElem?_getD]
    cases e : l[r * k + j]? with
    | none => exact h0
    | some d => exact hl d (List.mem_of_getElem? e)
theorem swapB_all {P : UInt8 → Prop} {k m : Nat} {l : List UInt8} (hl : ∀ c ∈ l, P c) (h0 : P 0) : ∀ c ∈ swapB k m l, P c := by
  have row : ∀ (r : Nat) (js : List Nat) (b : Array UInt8), (∀ c ∈ b, P c) → ∀ c ∈ js.foldl (swapStep k l r) b, P c := fun r js => by
    induction js with
    | nil => intro b h; exact h
    | cons j js ih => intro b h; exact ih _ (swapStep_all hl h0 h)
  have rows : ∀ (rs : List Nat) (b : Array UInt8), (∀ c ∈ b, P c) → ∀ c ∈ rs.foldl (swapRow k l) b, P c := fun rs => by
    induction rs with
    | nil => intro b h; exact h
    | cons r rs ih => intro b h; exact ih _ (row r _ _ h)
  exact rows _ _ fun c hc => by rw [Array.mem_replicate] at hc; rw [hc.2]; exact h0
/-- no dot stands in it -/
noncomputable def nodot (x : Str) : Prop := ∀ c ∈ x.cps.toList, c ≠ 46
theorem turnS_nodot {k : Nat} {x : Str} (ha : asciiS x) (hx : nodot x) : nodot (turnS k x) := by
  intro c hc
  obtain ⟨b, hb, rfl⟩ := List.mem_map.mp (show c ∈ (swapB k (x.length / k) (bytesOf x)).toList.map (·.toNat) by simpa [turnS] using hc)
  refine swapB_all (P := fun b => b.toNat ≠ 46) (fun d hd => ?_) (by decide) b (by simpa using hb)
  obtain ⟨a, ha', rfl⟩ := List.mem_map.mp hd
  have h1 := ha a (by simpa using ha')
  have h2 := hx a ha'
  show (a.toUInt8).toNat ≠ 46
  rw [Nat.toUInt8_eq, UInt8.toNat_ofNat']
  omega
end Mine

end
section
-- N4
open PySem PySem.W PyProof.Rows PySem.Builtin PySem.Builtin.Str PySem.StrLaws
namespace Mine
set_option maxRecDepth 100000

noncomputable def iw (n : Nat) : Nat → List (List Nat)
  | 0 => [[]]
  | c + 1 => (iw n c).flatMap fun js => (List.range n).map fun j => js ++ [j]
noncomputable def cellAt (stock : List Str) (j : Nat) : List Nat := (stock.getD j ⟨#[]⟩).cps.toList
noncomputable def textF (stock : List Str) (js : List Nat) : Str := ⟨(js.flatMap (cellAt stock)).toArray⟩
noncomputable def prodF (W : List Int) (js : List Nat) : Int := js.foldl (fun t j => t * W.getD j 0) 1

theorem iw_mem {n : Nat} : ∀ c, ∀ js ∈ iw n c, js.length = c ∧ ∀ j ∈ js, j < n
  | 0, js, h => by rw [List.mem_singleton.mp h]; exact ⟨rfl, fun j h => by cases h⟩
  | c + 1, js, h => by
    obtain ⟨ks, hk, h⟩ := List.mem_flatMap.mp h
    obtain ⟨j, hj, rfl⟩ := List.mem_map.mp h
    obtain ⟨h1, h2⟩ := iw_mem c ks hk
    refine ⟨by rw [List.length_append, h1]; rfl, fun i hi => ?_⟩
    rcases List.mem_append.mp hi with q | q
    · exact h2 i q
    · rw [List.mem_singleton.mp q]; exact List.mem_range.mp hj
theorem zip_range {stock : List Str} {W : List Int} (h : stock.length = W.length) : stock.zip W = (List.range W.length).map fun j => (stock.getD j ⟨#[]⟩, W.getD j 0) := by
  refine List.ext_getElem (by simp [h]) fun i h1 h2 => ?_
  have hi : i < W.length := by simpa using h2
  have hi' : i < stock.length := by omega
  simp [List.getElem_zip, hi, hi']
theorem textF_snoc (stock : List Str) (js : List Nat) (j : Nat) : textF stock (js ++ [j]) = textF stock js ++ stock.getD j ⟨#[]⟩ := by
  unfold textF
  show _ = Str.mk (_ ++ _)
  congr 1
  simp [cellAt]
theorem words_iw {stock : List Str} {W : List Int} (h : stock.length = W.length) : ∀ c, wordsL stock W c = (iw W.length c).map fun js => (textF stock js, prodF W js)
  | 0 => rfl
  | c + 1 => by
    show (wordsL stock W c).flatMap _ = List.map _ (List.flatMap _ _)
    rw [words_iw h c, zip_range h, List.map_flatMap, List.flatMap_map]
    congr 1
    funext js
    rw [List.map_map, List.map_map]
    refine List.map_congr_left fun j _ => ?_
    show (textF stock js ++ stock.getD j ⟨#[]⟩, prodF W js * W.getD j 0) = _
    rw [← textF_snoc]
    show _ = (textF stock (js ++ [j]), prodF W (js ++ [j]))
    unfold prodF
    rw [List.foldl_append]
    rfl
section
variable {stock : List Str} {f : Nat → List Nat}
theorem flat_take {js : List Nat} (hf : ∀ j ∈ js, (f j).length = 4) : ∀ i, (js.flatMap f).take (4 * i) = (js.take i).flatMap f := by
  induction js with
  | nil => intro i; simp
  | cons j js ih =>
    intro i
    cases i with
    | zero => simp
    | succ i =>
      have hj := hf j (.head _)
      rw [List.flatMap_cons, List.take_succ_cons, List.flatMap_cons, List.take_append, ← ih (fun x hx => hf x (.tail _ hx)) i, hj]
      congr 1
      · exact List.take_of_length_le (by omega)
theorem flat_drop {js : List Nat} (hf : ∀ j ∈ js, (f j).length = 4) : ∀ i, (js.flatMap f).drop (4 * i) = (js.drop i).flatMap f := by
  induction js with
  | nil => intro i; simp
  | cons j js ih =>
    intro i
    cases i with
    | zero => simp
    | succ i =>
      have hj := hf j (.head _)
      rw [List.flatMap_cons, List.drop_succ_cons, List.drop_append, ← ih (fun x hx => hf x (.tail _ hx)) i, hj]
      rw [List.drop_of_length_le (by omega), List.nil_append]
      congr 1
theorem flat_len {js : List Nat} (hf : ∀ j ∈ js, (f j).length = 4) : (js.flatMap f).length = 4 * js.length := by
  induction js with
  | nil => rfl
  | cons j js ih =>
    rw [List.flatMap_cons, List.length_append, ih (fun x hx => hf x (.tail _ hx)), hf j (.head _), List.length_cons]; omega
theorem flat_inj {n : Nat} (hf : ∀ j, j < n → (f j).length = 4) (hi : ∀ i j, i < n → j < n → f i = f j → i = j) : ∀ {as bs : List Nat}, as.length = bs.length → (∀ a ∈ as, a < n) → (∀ b ∈ bs, b < n) → as.flatMap f = bs.flatMap f → as = bs
  | [], [], _, _, _, _ => rfl
  | a :: as, b :: bs, h, ha, hb, e => by
    rw [List.flatMap_cons, List.flatMap_cons] at e
    obtain ⟨e1, e2⟩ := List.append_inj e (by rw [hf a (ha a (.head _)), hf b (hb b (.head _))])
    rw [hi a b (ha a (.head _)) (hb b (.head _)) e1, flat_inj hf hi (Nat.succ.inj h) (fun x hx => ha x (.tail _ hx)) (fun x hx => hb x (.tail _ hx)) e2]
end

/-- what a stock and a size are asked to be -/
structure StOk (stock : List Str) (k : Nat) : Prop where
  sl : ∀ x ∈ stock, x.length = 4
  sa : ∀ x ∈ stock, asciiS x
  nd : ∀ x ∈ stock, nodot x
  nu : stock.Nodup
  k4 : k = 1 ∨ k = 2 ∨ k = 4
  tn : ∀ x ∈ stock, turnS k x = mateS k x ∧ mateS k x ∈ stock
section
variable {stock : List Str} {k : Nat}
theorem cell_len (S : StOk stock k) {j : Nat} (h : j < stock.length) : (cellAt stock j).length = 4 := by
  unfold cellAt
  rw [List.getD_eq_getElem?_getD, List.getElem?_eq_getElem h]
  exact (S.sl _ (List.getElem_mem h))
theorem cell_inj (S : StOk stock k) (i j : Nat) (hi : i < stock.length) (hj : j < stock.length) (e : cellAt stock i = cellAt stock j) : i = j := by
  unfold cellAt at e
  rw [List.getD_eq_getElem?_getD, List.getElem?_eq_getElem hi, List.getD_eq_getElem?_getD, List.getElem?_eq_getElem hj] at e
  have e2 : stock[i] = stock[j] := Str.ext' (Array.ext' e)
  exact (List.getElem_inj S.nu).mp e2
noncomputable def mateF (stock : List Str) (k : Nat) (j : Nat) : Nat := stock.idxOf (mateS k (stock.getD j ⟨#[]⟩))
theorem text_len (S : StOk stock k) {js : List Nat} (h : ∀ j ∈ js, j < stock.length) : (textF stock js).length = 4 * js.length := by
  show (js.flatMap (cellAt stock)).toArray.size = _
  rw [List.size_toArray]; exact flat_len fun j hj => cell_len S (h j hj)
theorem text_cons (j : Nat) (js : List Nat) : textF stock (j :: js) = stock.getD j ⟨#[]⟩ ++ textF stock js := by
  unfold textF
  show _ = Str.mk (_ ++ _)
  congr 1
  simp [cellAt]
theorem getD_mem {j : Nat} (h : j < stock.length) : stock.getD j ⟨#[]⟩ ∈ stock := by
  rw [List.getD_eq_getElem?_getD, List.getElem?_eq_getElem h]; exact List.getElem_mem h
theorem turn_text (S : StOk stock k) : ∀ {js : List Nat}, (∀ j ∈ js, j < stock.length) → turnS k (textF stock js) = textF stock (js.map (mateF stock k))
  | [], _ => by
    refine Str.ext' ?_
    show ((swapB k (0 / k) []).toList.map _).toArray = _
    rw [Nat.zero_div]
    have := swapB_size (k := k) (m := 0) (l := [])
    rw [Nat.zero_mul] at this
    rw [Array.eq_empty_of_size_eq_zero this]; rfl
  | j :: js, h => by
    have hj := h j (.head _)
    have hx := getD_mem hj
    have h4 : k ∣ 4 := by rcases S.k4 with rfl | rfl | rfl <;> decide
    have hk0 : 0 < k := by have := S.k4; omega
    have hjs : ∀ i ∈ js, i < stock.length := fun i hi => h i (.tail _ hi)
    rw [text_cons, turnS_append hk0 (by rw [S.sl _ hx]; exact h4) (by rw [text_len S hjs]; exact Nat.dvd_trans h4 (Nat.dvd_mul_right 4 _)), turn_text S hjs, List.map_cons, text_cons]
    congr 1
    obtain ⟨t1, t2⟩ := S.tn _ hx
    rw [t1]
    have hl := List.idxOf_lt_length_iff.mpr t2
    unfold mateF
    generalize mateS k (stock.getD j ⟨#[]⟩) = y at hl
    rw [List.getD_eq_getElem?_getD, List.getElem?_eq_getElem hl]
    exact (List.getElem_idxOf hl).symm
theorem mateF_lt (S : StOk stock k) {j : Nat} (h : j < stock.length) : mateF stock k j < stock.length := List.idxOf_lt_length_iff.mpr (S.tn _ (getD_mem h)).2
theorem take_text (S : StOk stock k) {js : List Nat} (h : ∀ j ∈ js, j < stock.length) (i : Nat) : takeS (4 * i) (textF stock js) = textF stock (js.take i) := by
  unfold takeS textF
  rw [List.toList_toArray, flat_take fun j hj => cell_len S (h j hj)]
theorem text_nodot (S : StOk stock k) {js : List Nat} (h : ∀ j ∈ js, j < stock.length) : nodot (textF stock js) := by
  intro c hc
  obtain ⟨j, hj, hc⟩ := List.mem_flatMap.mp (show c ∈ js.flatMap (cellAt stock) by simpa [textF] using hc)
  exact S.nd _ (getD_mem (h j hj)) c hc
theorem text_ascii (S : StOk stock k) {js : List Nat} (h : ∀ j ∈ js, j < stock.length) : asciiS (textF stock js) := by
  intro c hc
  obtain ⟨j, hj, hc⟩ := List.mem_flatMap.mp (show c ∈ js.flatMap (cellAt stock) by simpa [textF] using hc)
  exact S.sa _ (getD_mem (h j hj)) c (by simpa [cellAt] using hc)
theorem want_glue (x : Str) : wantS k x = ⟨(glueL x.cps.toList [(turnS k x).cps.toList]).toArray⟩ := by
  refine Str.ext' (Array.ext' ?_)
  show ((x.cps ++ (Str.ofString ".").cps) ++ ((Str.ofString "..").cps ++ (turnS k x).cps)).toList = _
  have e1 : (Str.ofString ".").cps = #[46] := by decide +kernel
  have e2 : (Str.ofString "..").cps = #[46, 46] := by decide +kernel
  rw [e1, e2]
  simp [glueL]
theorem want_len (S : StOk stock k) {x : Str} (hd : k ∣ x.length) : (wantS k x).length = 2 * x.length + 3 := by
  unfold wantS
  rw [Str.length_append, Str.length_append, Str.length_append, turnS_length hd]
  have e1 : (Str.ofString ".").length = 1 := by decide +kernel
  have e2 : (Str.ofString "..").length = 2 := by decide +kernel
  rw [e1, e2]; omega
theorem dvd4 (S : StOk stock k) (n : Nat) : k ∣ 4 * n := Nat.dvd_trans (by rcases S.k4 with rfl | rfl | rfl <;> decide) (Nat.dvd_mul_right 4 n)
theorem em_split (S : StOk stock k) {js : List Nat} (h : ∀ j ∈ js, j < stock.length) : Txt.split (wantS k (textF stock js)) (Str.ofString "...") = [textF stock js, turnS k (textF stock js)] ∧ Txt.contains (wantS k (textF stock js)) (Str.ofString "...") = true ∧
    (partsBetween (wantS k (textF stock js)) (occurrences (wantS k (textF stock js)) (Str.ofString "...") 0 (wantS k (textF stock js)).length ((wantS k (textF stock js)).length + 1)) (Str.ofString "...").length).length = 2 := by
  rw [want_glue]
  obtain ⟨h1, h2, h3⟩ := split_glue (textF stock js).cps.toList [(turnS k (textF stock js)).cps.toList] (text_nodot S h) (fun q hq => by rw [List.mem_singleton.mp hq]; exact turnS_nodot (text_ascii S h) (text_nodot S h)) (by simp)
  exact ⟨h1, h2, h3⟩
theorem em_ok (S : StOk stock k) {js : List Nat} {word : Str} (h : ∀ j ∈ js, j < stock.length) (hl : js.length ≤ 100) (hw : word.length ≤ 1000) : EmOk (wantS k (textF stock js)) word := by
  obtain ⟨h1, h2, h3⟩ := em_split S h
  have hlen := text_len S h
  have hd : k ∣ (textF stock js).length := by rw [hlen]; exact dvd4 S _
  refine ⟨h2, by rw [h1]; exact Nat.le_refl 2, by rw [h1]; show 2 ≤ 1000; decide, fun x hx => ?_, by rw [want_len S hd]; omega, hw, by rw [h3]; exact Nat.le_trans (by decide : 2 ≤ 1000) (by decide)⟩
  rw [h1] at hx
  simp only [List.mem_cons, List.not_mem_nil, or_false] at hx
  rcases hx with rfl | rfl
  · omega
  · rw [turnS_length hd]; omega
theorem starts_take (x : Str) (n : Nat) (h : n ≤ x.length) : Txt.startswith x (takeS n x) = true := by
  have hl : (takeS n x).length = n := by
    show ((x.cps.toList.take n).toArray).size = n
    have : x.cps.toList.length = x.length := by simp; rfl
    simp [this]; omega
  unfold Txt.startswith
  rw [subAt_eq, hl, Nat.zero_add, decide_eq_true h, List.drop_zero]
  show (true && (x.cps.toList.take n == x.cps.toList.take n)) = true
  simp
theorem ends_drop (x y : Str) (n : Nat) (hy : y.length = n) (h : n ≤ x.length) : Txt.endswith x y = (x.cps.toList.drop (x.length - n) == y.cps.toList) := by
  unfold Txt.endswith
  rw [subAt_eq, hy, Nat.zero_add, decide_eq_true h, Bool.true_and]
  have : x.cps.toList.length = x.length := by simp; rfl
  rw [List.take_of_length_le (by rw [List.length_drop]; omega)]
/-- the test of the law, told by places -/
theorem em_iw (S : StOk stock k) {js : List Nat} (h : ∀ j ∈ js, j < stock.length) {p : Nat} (hp : 0 < p) (h2 : 2 * p ≤ js.length) :
    emS (wantS k (textF stock (js.take p))) (textF stock js) = (js.drop (js.length - p) == (js.take p).map (mateF stock k)) := by
  have hT : ∀ j ∈ js.take p, j < stock.length := fun j hj => h j (List.mem_of_mem_take hj)
  have hM : ∀ j ∈ (js.take p).map (mateF stock k), j < stock.length := fun j hj => by
    obtain ⟨i, hi, rfl⟩ := List.mem_map.mp hj
    exact mateF_lt S (hT i hi)
  have hD : ∀ j ∈ js.drop (js.length - p), j < stock.length := fun j hj => h j (List.mem_of_mem_drop hj)
  have hlen := text_len S h
  have hfl : (textF stock (js.take p)).length = 4 * p := by rw [text_len S hT, List.length_take, Nat.min_eq_left (by omega)]
  have htl : (turnS k (textF stock (js.take p))).length = 4 * p := by rw [turnS_length (by rw [hfl]; exact dvd4 S _), hfl]
  unfold emS
  rw [(em_split S hT).1]
  unfold emB
  simp only [List.head?_cons, Option.getD_some, hfl]
  rw [if_pos (by omega)]
  have hst : Txt.startswith (textF stock js) (textF stock (js.take p)) = true := by
    rw [← take_text S h p]; exact starts_take _ _ (by omega)
  rw [hst, if_pos rfl]
  show emTail (textF stock js) [turnS k (textF stock (js.take p))] _ = _
  unfold emTail
  simp only [List.getLast?_singleton, Option.getD_some, htl]
  rw [if_pos (by omega)]
  have hen : Txt.endswith (textF stock js) (turnS k (textF stock (js.take p))) = (js.drop (js.length - p) == (js.take p).map (mateF stock k)) := by
    rw [ends_drop _ _ (4 * p) htl (by omega), turn_text S hT, hlen, show 4 * js.length - 4 * p = 4 * (js.length - p) by omega]
    show ((js.flatMap (cellAt stock)).toArray.toList.drop _ == ((js.take p).map (mateF stock k)).flatMap (cellAt stock)) = _
    rw [List.toList_toArray, flat_drop fun j hj => cell_len S (h j hj)]
    by_cases e : js.drop (js.length - p) = (js.take p).map (mateF stock k)
    · rw [e]; simp
    · rw [beq_eq_false_iff_ne.mpr e]
      refine beq_eq_false_iff_ne.mpr fun q => e ?_
      refine flat_inj (n := stock.length) (fun j hj => cell_len S hj) (cell_inj S) ?_ hD hM q
      rw [List.length_drop, List.length_map, List.length_take]; omega
  rw [hen]
  have hmid : ∀ sp ep : Int, sp ≤ ep → emMid (textF stock js) [] sp ep = true := fun sp ep hle => by
    unfold emMid
    rw [if_neg (by omega)]; rfl
  have h3 : ((4 * p : Nat) : Int) ≤ ((textF stock js).length : Int) - ((4 * p : Nat) : Int) := by omega
  cases hb : (js.drop (js.length - p) == (js.take p).map (mateF stock k)) with
  | false => rfl
  | true => exact hmid _ _ h3
end
end Mine

end
section
-- N5
namespace Mine
set_option maxRecDepth 100000

structure RI (R : Type) where
  zero : R
  one : R
  add : R → R → R
  mul : R → R → R
  neg : R → R
  isZ : R → Bool
structure RH {R : Type} (o : RI R) (φ : R → Int) : Prop where
  zero : φ o.zero = 0
  one : φ o.one = 1
  add : ∀ a b, φ (o.add a b) = φ a + φ b
  mul : ∀ a b, φ (o.mul a b) = φ a * φ b
  neg : ∀ a, φ (o.neg a) = -φ a
  isZ : ∀ a, o.isZ a = true → φ a = 0
noncomputable def intRI : RI Int := ⟨0, 1, (· + ·), (· * ·), (- ·), (· == 0)⟩
theorem intRH : RH intRI id := ⟨rfl, rfl, fun _ _ => rfl, fun _ _ => rfl, fun _ => rfl, fun a h => by simpa [intRI] using h⟩
section
variable {R : Type}
noncomputable def padd (o : RI R) : List R → List R → List R
  | [], q => q
  | p, [] => p
  | a :: p, b :: q => o.add a b :: padd o p q
noncomputable def pmul (o : RI R) : List R → List R → List R
  | [], _ => []
  | a :: p, q => padd o (q.map (o.mul a)) (o.zero :: pmul o p q)
noncomputable def polyRI (o : RI R) : RI (List R) := ⟨[], [o.one], padd o, pmul o, List.map o.neg, fun l => l.all o.isZ⟩
noncomputable def ev (φ : R → Int) (x : Int) : List R → Int
  | [] => 0
  | a :: p => φ a + x * ev φ x p
variable {o : RI R} {φ : R → Int} {x : Int}
theorem ev_add (h : RH o φ) : ∀ p q, ev φ x (padd o p q) = ev φ x p + ev φ x q
  | [], q => by simp [padd, ev]
  | a :: p, [] => by simp [padd, ev]
  | a :: p, b :: q => by
    simp only [padd, ev, h.add, ev_add h p q, Int.mul_add]; omega
theorem ev_map (h : RH o φ) (a : R) : ∀ q, ev φ x (q.map (o.mul a)) = φ a * ev φ x q
  | [] => by simp [ev]
  | b :: q => by
    rw [List.map_cons, ev, ev, ev_map h a q, h.mul, Int.mul_add, Int.mul_left_comm]
theorem ev_mul (h : RH o φ) : ∀ p q, ev φ x (pmul o p q) = ev φ x p * ev φ x q
  | [], q => by simp [pmul, ev]
  | a :: p, q => by
    simp only [pmul, ev_add h, ev_map h, ev, h.zero, ev_mul h p q, Int.add_mul, Int.zero_add, Int.mul_assoc]
theorem ev_neg (h : RH o φ) : ∀ p, ev φ x (p.map o.neg) = -ev φ x p
  | [] => rfl
  | a :: p => by
    rw [List.map_cons, ev, ev, ev_neg h p, h.neg, Int.neg_add, Int.mul_neg]
theorem ev_isZ (h : RH o φ) : ∀ p, p.all o.isZ = true → ev φ x p = 0
  | [], _ => rfl
  | a :: p, hp => by
    rw [List.all_cons, Bool.and_eq_true] at hp
    rw [ev, ev_isZ h p hp.2, h.isZ a hp.1]; simp
theorem polyRH (h : RH o φ) (x : Int) : RH (polyRI o) (ev φ x) :=
  ⟨rfl, by show φ o.one + x * 0 = 1; rw [h.one]; simp, ev_add h, ev_mul h, ev_neg h, ev_isZ h⟩

noncomputable def gpow (o : RI R) (a : R) : Nat → R
  | 0 => o.one
  | n + 1 => o.mul (gpow o a n) a
noncomputable def gsum (o : RI R) (l : List R) : R := l.foldr o.add o.zero
noncomputable def gsub (o : RI R) (a b : R) : R := o.add a (o.neg b)
noncomputable def gprod (o : RI R) (W : List R) (js : List Nat) : R := js.foldl (fun t j => o.mul t (W.getD j o.zero)) o.one
noncomputable def gsums (o : RI R) (W : List R) (least : List Nat → Nat) (parts : Nat) (ws : List (List Nat)) : List R :=
  ws.foldl (fun acc js => acc.set (least js) (o.add (acc.getD (least js) o.zero) (gprod o W js))) (List.replicate (parts + 1) o.zero)
noncomputable def gworth (o : RI R) (W : List R) (mate : List Nat) : List R := (W.zip mate).map fun x => o.mul x.1 (W.getD x.2 o.zero)
noncomputable def gacross (o : RI R) (worth : List R) (first : List Nat) : List R := (worth.zip first).map fun x => o.mul x.1 (worth.getD x.2 o.zero)
noncomputable def glost (o : RI R) (n : Nat) (worth : List R) (first second : List Nat) : List R := ((List.range n).filter fun i => first.getD i 0 != i).map fun i => o.mul (gpow o (worth.getD i o.zero) 2) (worth.getD (second.getD i 0) o.zero)
noncomputable def gbrought (o : RI R) (W : List R) (mates : List (List Nat)) (p : Nat) (mate : List Nat) : R :=
  let worth := gworth o W mate
  let first := pickF (mates.getD 0 []) mate
  if p = 1 then gsub o (gpow o (gsum o worth) 2) (gsum o (gacross o worth first))
  else if p = 2 then gsub o (gsub o (gpow o (gsum o worth) 3) (o.mul (gsum o worth) (gsum o (gacross o worth first)))) (gsum o (glost o W.length worth first (pickF (mates.getD 1 []) mate)))
  else gsum o worth
noncomputable def gdue (o : RI R) (W : List R) (mates : List (List Nat)) (count : Nat) (j : Nat) : List R :=
  (List.range j).foldl (fun acc p => acc.set p (o.mul (gbrought o W mates p (mates.getD p [])) (gpow o (gsum o W) (count - 2 - 2 * p)))) (List.replicate (count / 2) o.zero)
noncomputable def gres (o : RI R) (W : List R) (mates : List (List Nat)) (count : Nat) : List R := gsub o (gpow o (gsum o W) count) (gsum o (gdue o W mates count mates.length)) :: gdue o W mates count mates.length

theorem getD_map (h : RH o φ) (l : List R) (i : Nat) : φ (l.getD i o.zero) = (l.map φ).getD i 0 := by
  rw [List.getD_eq_getElem?_getD, List.getD_eq_getElem?_getD, List.getElem?_map]
  cases l[i]? with
  | none => exact h.zero
  | some a => rfl
theorem h_pow (h : RH o φ) (a : R) : ∀ n, φ (gpow o a n) = φ a ^ n
  | 0 => by rw [Int.pow_zero]; exact h.one
  | n + 1 => by rw [gpow, h.mul, h_pow h a n, Int.pow_succ]
theorem h_sum (h : RH o φ) : ∀ l : List R, φ (gsum o l) = (l.map φ).sum
  | [] => h.zero
  | a :: l => by
    show φ (o.add a (gsum o l)) = _
    rw [h.add, h_sum h l, List.map_cons, List.sum_cons]
theorem h_sub (h : RH o φ) (a b : R) : φ (gsub o a b) = φ a - φ b := by unfold gsub; rw [h.add, h.neg, Int.sub_eq_add_neg]
/-- the law's sums, told by places -/
noncomputable def isums (W : List Int) (least : List Nat → Nat) (parts : Nat) (ws : List (List Nat)) : List Int :=
  ws.foldl (fun acc js => acc.set (least js) (acc.getD (least js) 0 + js.foldl (fun t j => t * W.getD j 0) 1)) (List.replicate (parts + 1) 0)
theorem h_prod (h : RH o φ) (W : List R) (js : List Nat) : φ (gprod o W js) = js.foldl (fun t j => t * (W.map φ).getD j 0) 1 := by
  have : ∀ (js : List Nat) (t : R), φ (js.foldl (fun t j => o.mul t (W.getD j o.zero)) t) = js.foldl (fun t j => t * (W.map φ).getD j 0) (φ t) := fun js => by
    induction js with
    | nil => intro t; rfl
    | cons j js ih => intro t; rw [List.foldl_cons, List.foldl_cons, ih, h.mul, getD_map h]
  rw [gprod, this, h.one]
theorem h_sums (h : RH o φ) (W : List R) (least : List Nat → Nat) (parts : Nat) (ws : List (List Nat)) : (gsums o W least parts ws).map φ = isums (W.map φ) least parts ws := by
  have : ∀ (ws : List (List Nat)) (acc : List R), (ws.foldl (fun acc js => acc.set (least js) (o.add (acc.getD (least js) o.zero) (gprod o W js))) acc).map φ = ws.foldl (fun acc js => acc.set (least js) (acc.getD (least js) 0 + js.foldl (fun t j => t * (W.map φ).getD j 0) 1)) (acc.map φ) := fun ws => by
    induction ws with
    | nil => intro acc; rfl
    | cons js ws ih => intro acc; rw [List.foldl_cons, List.foldl_cons, ih, List.map_set, h.add, getD_map h, h_prod h]
  unfold gsums isums
  rw [this, List.map_replicate, h.zero]
theorem h_worth (h : RH o φ) (W : List R) (mate : List Nat) : (gworth o W mate).map φ = worthF (W.map φ) mate := by
  unfold gworth worthF
  rw [List.map_map, List.zip_map_left, List.map_map]
  refine List.map_congr_left fun x _ => ?_
  show φ (o.mul x.1 (W.getD x.2 o.zero)) = _
  rw [h.mul, getD_map h]; rfl
theorem h_across (h : RH o φ) (worth : List R) (first : List Nat) : (gacross o worth first).map φ = acrossF (worth.map φ) first := h_worth h worth first
theorem h_lost (h : RH o φ) (n : Nat) (worth : List R) (first second : List Nat) : (glost o n worth first second).map φ = lostF n (worth.map φ) first second := by
  unfold glost lostF
  rw [List.map_map]
  refine List.map_congr_left fun i _ => ?_
  show φ (o.mul _ _) = _
  rw [h.mul, h_pow h, getD_map h, getD_map h]
theorem h_brought (h : RH o φ) (W : List R) (mates : List (List Nat)) (p : Nat) (mate : List Nat) : φ (gbrought o W mates p mate) = broughtF (W.map φ) mates p mate := by
  unfold gbrought broughtF
  dsimp only
  split
  · rw [h_sub h, h_pow h, h_sum h, h_sum h, h_across h, h_worth h]
  · split
    · rw [h_sub h, h_sub h, h_pow h, h.mul, h_sum h, h_sum h, h_sum h, h_across h, h_lost h, h_worth h, List.length_map]
    · rw [h_sum h, h_worth h]
theorem h_due (h : RH o φ) (W : List R) (mates : List (List Nat)) (count : Nat) : ∀ j, (gdue o W mates count j).map φ = dueF (W.map φ) mates count j
  | 0 => by show (List.replicate _ _).map φ = List.replicate _ _; rw [List.map_replicate, h.zero]
  | j + 1 => by
    rw [dueF_succ, ← h_due h W mates count j]
    unfold gdue
    rw [List.range_succ, List.foldl_append, List.foldl_cons, List.foldl_nil, List.map_set, h.mul, h_brought h, h_pow h, h_sum h]
theorem h_res (h : RH o φ) (W : List R) (mates : List (List Nat)) (count : Nat) : (gres o W mates count).map φ = resF (W.map φ) mates count := by
  unfold gres resF
  rw [List.map_cons, h_sub h, h_pow h, h_sum h, h_sum h, h_due h]
end
/-- least, told by places -/
noncomputable def leastI (mates : List (List Nat)) (js : List Nat) : Nat :=
  leastG (fun part => js.drop (js.length - part) == (js.take part).map fun j => (mates.getD (part - 1) []).getD j 0) mates.length
noncomputable def p3 : RI (List (List (List Int))) := polyRI (polyRI (polyRI intRI))
noncomputable def vars3 (n : Nat) : List (List (List (List Int))) := [[[[0, 1]]], [[[], [1]]], [[], [[1]]]].take n
noncomputable def iwN (n : Nat) : Nat → List (List Nat)
  | 0 => [[]]
  | c + 1 => (iwN n c).flatMap fun js => (List.range n).map fun j => js ++ [j]
noncomputable def chk (n count : Nat) (mates : List (List Nat)) : Bool :=
  let a := gsums p3 (vars3 n) (leastI mates) (count / 2) (iwN n count)
  let b := gres p3 (vars3 n) mates count
  a.length == b.length && (a.zip b).all fun x => p3.isZ (gsub p3 x.1 x.2)
theorem chk_ok {n count : Nat} {mates : List (List Nat)} (h : chk n count mates = true) (hn : n ≤ 3) {W : List Int} (hW : W.length = n) : isums W (leastI mates) (count / 2) (iwN n count) = resF W mates count := by
  have base : RH p3 (ev (ev (ev id (W.getD 0 0)) (W.getD 1 0)) (W.getD 2 0)) := polyRH (polyRH (polyRH intRH _) _) _
  have hv : (vars3 n).map (ev (ev (ev id (W.getD 0 0)) (W.getD 1 0)) (W.getD 2 0)) = W := by
    have : n = 0 ∨ n = 1 ∨ n = 2 ∨ n = 3 := by omega
    rcases this with rfl | rfl | rfl | rfl
    · match W, hW with
      | [], _ => rfl
    · match W, hW with
      | [a], _ => simp [vars3, ev]
    · match W, hW with
      | [a, b], _ => simp [vars3, ev]
    · match W, hW with
      | [a, b, c], _ => simp [vars3, ev]
  have h1 := h_sums base (vars3 n) (leastI mates) (count / 2) (iwN n count)
  have h2 := h_res base (vars3 n) mates count
  rw [hv] at h1 h2
  rw [← h1, ← h2]
  unfold chk at h
  dsimp only at h
  obtain ⟨hl, ha⟩ := Bool.and_eq_true_iff.mp h
  have hl := eq_of_beq hl
  generalize gsums p3 (vars3 n) (leastI mates) (count / 2) (iwN n count) = as at hl ha
  generalize gres p3 (vars3 n) mates count = bs at hl ha
  clear h1 h2
  induction as generalizing bs with
  | nil => cases bs with
    | nil => rfl
    | cons b bs => simp at hl
  | cons a as ih => cases bs with
    | nil => simp at hl
    | cons b bs =>
      rw [List.zip_cons_cons, List.all_cons, Bool.and_eq_true] at ha
      rw [List.map_cons, List.map_cons, ih bs (by simpa using hl) ha.2]
      congr 1
      have := base.isZ _ ha.1
      rw [h_sub base] at this
      dsimp only at this
      omega
noncomputable def idM (n : Nat) : List Nat := [0, 1, 2].take n
noncomputable def swM (n : Nat) : List Nat := [1, 0, 2].take n
theorem few1 : ∀ a ∈ [idM 2, swM 2], chk 2 6 [a] = true := by decide +kernel
theorem few3 : ∀ a ∈ [idM 2, swM 2], ∀ b ∈ [idM 2, swM 2], ∀ c ∈ [idM 2, swM 2], chk 2 6 [a, b, c] = true := by decide +kernel
theorem many1 : ∀ a ∈ [idM 3, swM 3], chk 3 4 [a] = true := by decide +kernel
theorem many2 : ∀ a ∈ [idM 3, swM 3], ∀ b ∈ [idM 3, swM 3], chk 3 4 [a, b] = true := by decide +kernel
end Mine

end
section
-- N6
open PySem PySem.W PyProof.Rows
namespace Mine
set_option maxRecDepth 100000

noncomputable def mateL (stock : List Str) (k : Nat) : List Nat := stock.map fun x => stock.idxOf (mateS k x)
noncomputable def okB (kind : Nat) (few : Bool) (k : Nat) : Bool :=
  let stock := stockL kind few
  let n := if few then 2 else 3
  (stock.length == n) && (stock.all fun x => (x.length == 4) && (x.cps.toList.all fun c => decide (c < 128) && (c != 46)) && (turnS k x == mateS k x) && stock.contains (mateS k x)) && decide stock.Nodup && (mateL stock k == idM n || mateL stock k == swM n)
theorem okB_all : ∀ kind ∈ [0, 1, 2], ∀ few ∈ [true, false], ∀ k ∈ [1, 2, 4], okB kind few k = true := by decide +kernel
theorem stOk {kind k : Nat} {few : Bool} (hk : kind < 3) (h4 : k = 1 ∨ k = 2 ∨ k = 4) : StOk (stockL kind few) k ∧ (stockL kind few).length = (if few then 2 else 3) ∧ mateL (stockL kind few) k ∈ [idM (if few then 2 else 3), swM (if few then 2 else 3)] := by
  have h := okB_all kind (by simp; omega) few (by cases few <;> simp) k (by simp; omega)
  unfold okB at h
  simp only [Bool.and_eq_true] at h
  obtain ⟨⟨⟨h1, h2⟩, h3⟩, h5⟩ := h
  have h2 := List.all_eq_true.mp h2
  simp only [Bool.and_eq_true] at h2
  refine ⟨⟨fun x hx => eq_of_beq (h2 x hx).1.1.1, fun x hx c hc => ?_, fun x hx c hc => ?_, of_decide_eq_true h3, h4, fun x hx => ⟨eq_of_beq (h2 x hx).1.2, by simpa using (h2 x hx).2⟩⟩, eq_of_beq h1, ?_⟩
  · have := List.all_eq_true.mp (h2 x hx).1.1.2 c (by simpa using hc)
    rw [Bool.and_eq_true] at this
    exact of_decide_eq_true this.1
  · have := List.all_eq_true.mp (h2 x hx).1.1.2 c hc
    rw [Bool.and_eq_true] at this
    simpa using this.2
  · rcases Bool.or_eq_true_iff.mp h5 with q | q
    · rw [eq_of_beq q]; simp
    · rw [eq_of_beq q]; simp
theorem iw_eq (n : Nat) : ∀ c, iw n c = iwN n c
  | 0 => rfl
  | c + 1 => by rw [iw, iwN, iw_eq n c]
theorem mem_iw {n : Nat} : ∀ c (js : List Nat), js.length = c → (∀ j ∈ js, j < n) → js ∈ iw n c
  | 0, js, h, _ => by rw [List.length_eq_zero_iff.mp h]; exact .head _
  | c + 1, js, h, hj => by
    have hne : js ≠ [] := fun q => by rw [q] at h; cases h
    rw [iw]
    refine List.mem_flatMap.mpr ⟨js.dropLast, mem_iw c _ (by rw [List.length_dropLast, h]; rfl) fun j hh => hj j (List.dropLast_subset js hh), ?_⟩
    exact List.mem_map.mpr ⟨js.getLast hne, List.mem_range.mpr (hj _ (List.getLast_mem hne)), List.dropLast_concat_getLast hne⟩
theorem leastG_congr {g g' : Nat → Bool} {n : Nat} (h : ∀ i, i < n → g (i + 1) = g' (i + 1)) : leastG g n = leastG g' n := by
  unfold leastG
  have : (List.range n).find? (fun i => g (i + 1)) = (List.range n).find? (fun i => g' (i + 1)) := by
    have : ∀ l : List Nat, (∀ i ∈ l, i < n) → l.find? (fun i => g (i + 1)) = l.find? (fun i => g' (i + 1)) := fun l => by
      induction l with
      | nil => intro _; rfl
      | cons a l ih => intro hl; rw [List.find?_cons, List.find?_cons, h a (hl a (.head _)), ih fun i hi => hl i (.tail _ hi)]
    exact this _ fun i hi => List.mem_range.mp hi
  rw [this]
theorem foldl_congr {α β : Type} {f g : β → α → β} : ∀ (l : List α) (b : β), (∀ x ∈ l, ∀ b, f b x = g b x) → l.foldl f b = l.foldl g b
  | [], _, _ => rfl
  | x :: l, b, h => by rw [List.foldl_cons, List.foldl_cons, h x (.head _), foldl_congr l _ fun y hy => h y (.tail _ hy)]
theorem sums_iw {stock : List Str} {W : List Int} {sizes : List Nat} {count : Nat} (hst : stock.length = W.length) (S : ∀ k ∈ sizes, StOk stock k) (hz : 2 * sizes.length ≤ count) :
    sumsL sizes (count / 2) sizes.length (wordsL stock W count) = isums W (leastI (matesL stock sizes)) (count / 2) (iwN W.length count) := by
  unfold sumsL isums
  rw [words_iw hst, List.foldl_map, ← iw_eq]
  refine foldl_congr _ _ fun js hjs acc => ?_
  obtain ⟨hl, hlt⟩ := iw_mem count js hjs
  have hlt' : ∀ j ∈ js, j < stock.length := fun j hj => by rw [hst]; exact hlt j hj
  have hle : leastG (matchAt sizes (textF stock js)) sizes.length = leastI (matesL stock sizes) js := by
    unfold leastI
    have hml : (matesL stock sizes).length = sizes.length := List.length_map ..
    rw [hml]
    refine leastG_congr fun i hi => ?_
    have hk : sizes[i]? = some sizes[i] := List.getElem?_eq_getElem hi
    have Sk := S sizes[i] (List.getElem_mem hi)
    unfold matchAt
    rw [Nat.add_sub_cancel, List.getD_eq_getElem?_getD, hk, Option.getD_some, take_text Sk hlt', em_iw Sk hlt' (Nat.succ_pos i) (by omega)]
    congr 1
    refine List.map_congr_left fun j hj => ?_
    have hj' := hlt' j (List.mem_of_mem_take hj)
    have hmi : (matesL stock sizes).getD i [] = mateL stock sizes[i] := by
      unfold matesL mateL
      rw [List.getD_eq_getElem?_getD, List.getElem?_map, hk]; rfl
    show _ = ((matesL stock sizes).getD i []).getD j 0
    rw [hmi]
    unfold mateL mateF
    rw [List.getD_eq_getElem?_getD (l := List.map _ _), List.getElem?_map, List.getD_eq_getElem?_getD, List.getElem?_eq_getElem hj']; rfl
  show List.set acc (leastG (matchAt sizes (textF stock js)) sizes.length) (acc.getD (leastG (matchAt sizes (textF stock js)) sizes.length) 0 + prodF W js) = _
  rw [hle]; rfl
theorem pwN_cases (n : Nat) : pwN n = 1 ∨ pwN n = 2 ∨ pwN n = 4 := by
  unfold pwN
  have : n % 3 = 0 ∨ n % 3 = 1 ∨ n % 3 = 2 := by omega
  rcases this with h | h | h <;> rw [h] <;> simp
theorem dueN_mem {kind a b c k : Nat} (h : k ∈ dueN kind a b c) : k = a ∨ k = b ∨ k = c := by
  unfold dueN at h
  split at h <;> simp at h <;> omega

theorem pure_ok (d0 d1 d2 : Nat) (b0 : d0 ≤ 3000160) (b1 : d1 ≤ 3000028) (b2 : d2 ≤ 3000042) : PureOk (stkF d0) (wtsF d0 d1 d2) (szsF d0 d1 d2) (cntF d0) := by
  have hkd : d0 % 3 < 3 := Nat.mod_lt _ (by decide)
  have hk : ∀ k ∈ szsF d0 d1 d2, k = 1 ∨ k = 2 ∨ k = 4 := fun k h => by
    have := dueN_mem (List.mem_of_mem_take h)
    rcases this with rfl | rfl | rfl <;> exact pwN_cases _
  have hlen : (stkF d0).length = if fewB d0 then 2 else 3 := (stOk (few := fewB d0) hkd (.inl rfl)).2.1
  have S1 : StOk (stkF d0) 1 := (stOk (few := fewB d0) hkd (.inl rfl)).1
  have S : ∀ k ∈ szsF d0 d1 d2, StOk (stkF d0) k := fun k h => (stOk (few := fewB d0) hkd (hk k h)).1
  have hst : (stkF d0).length = (wtsF d0 d1 d2).length := by
    unfold wtsF
    rw [List.length_take, hlen]
    split <;> rfl
  have hc : cntF d0 = 6 ∨ cntF d0 = 4 := by unfold cntF; split <;> simp
  have hz : (szsF d0 d1 d2).length ≤ cntF d0 / 2 := by unfold szsF; rw [List.length_take]; omega
  have hz2 : 2 * (szsF d0 d1 d2).length ≤ cntF d0 := by omega
  refine ⟨by rw [hlen]; split <;> decide, S1.sl, S1.sa, hst, fun x hx => ?_, hk, hz, by omega, fun k h x hx => ((S k h).tn x hx).2, ?_, ?_, ?_⟩
  · have hx := List.mem_of_mem_take hx
    simp only [List.mem_cons, List.not_mem_nil, or_false] at hx
    have e : (2 : Nat) ^ 20 = 1048576 := rfl
    unfold Bd
    rw [e]
    rcases hx with rfl | rfl | rfl <;> omega
  · intro x hx i k hik
    rw [words_iw hst] at hx
    obtain ⟨js, hjs, rfl⟩ := List.mem_map.mp hx
    obtain ⟨hl, hlt⟩ := iw_mem _ js hjs
    have hlt' : ∀ j ∈ js, j < (stkF d0).length := fun j hj => by rw [hst]; exact hlt j hj
    have Sk := S k (List.mem_of_getElem? hik)
    dsimp only
    rw [take_text Sk hlt']
    refine em_ok Sk (fun j hj => hlt' j (List.mem_of_mem_take hj)) ?_ ?_
    · rw [List.length_take]; omega
    · rw [text_len Sk hlt', hl]; omega
  · intro x hx i hi
    rw [words_iw hst] at hx
    obtain ⟨js, hjs, rfl⟩ := List.mem_map.mp hx
    obtain ⟨hl, hlt⟩ := iw_mem _ js hjs
    have hlt' : ∀ j ∈ js, j < (stkF d0).length := fun j hj => by rw [hst]; exact hlt j hj
    dsimp only
    rw [take_text S1 hlt', words_iw hst, List.map_map]
    exact List.mem_map.mpr ⟨js.take (i + 1), mem_iw _ _ (by rw [List.length_take]; omega) (fun j hj => hlt j (List.mem_of_mem_take hj)), rfl⟩
  · rw [sums_iw hst S hz2]
    have M : ∀ k, (k = 1 ∨ k = 2 ∨ k = 4) → mateL (stkF d0) k ∈ [idM (if fewB d0 then 2 else 3), swM (if fewB d0 then 2 else 3)] := fun k h => (stOk (few := fewB d0) hkd h).2.2
    have Ma := M _ (pwN_cases d1)
    have Mb := M _ (pwN_cases d2)
    have Mc := M _ (pwN_cases (d2 / 3))
    have hWl : (wtsF d0 d1 d2).length = if fewB d0 then 2 else 3 := by rw [← hst, hlen]
    have hkind : d0 / 6 % 4 = 0 ∨ d0 / 6 % 4 = 1 ∨ d0 / 6 % 4 = 2 ∨ d0 / 6 % 4 = 3 := by omega
    have hm : matesL (stkF d0) (szsF d0 d1 d2) = (szsF d0 d1 d2).map (mateL (stkF d0)) := rfl
    rw [hm, hWl]
    cases hf : fewB d0 with
    | true =>
      have hcn : cntF d0 = 6 := by unfold cntF; rw [hf]; rfl
      rw [hf] at Ma Mb Mc hWl
      unfold szsF
      rw [hcn]
      rcases hkind with h | h | h | h <;> rw [h]
      · exact chk_ok (few3 _ Ma _ Ma _ Ma) (by decide) hWl
      · exact chk_ok (few1 _ Ma) (by decide) hWl
      · exact chk_ok (few3 _ Ma _ Mb _ Mb) (by decide) hWl
      · exact chk_ok (few3 _ Ma _ Mb _ Mc) (by decide) hWl
    | false =>
      have hcn : cntF d0 = 4 := by unfold cntF; rw [hf]; rfl
      rw [hf] at Ma Mb Mc hWl
      unfold szsF
      rw [hcn]
      rcases hkind with h | h | h | h <;> rw [h]
      · exact chk_ok (many2 _ Ma _ Ma) (by decide) hWl
      · exact chk_ok (many1 _ Ma) (by decide) hWl
      · exact chk_ok (many2 _ Ma _ Mb) (by decide) hWl
      · exact chk_ok (many2 _ Ma _ Mb) (by decide) hWl
end Mine

end
-- F2
open PySem PySem.W PyProof.Rows
set_option maxRecDepth 100000 in
set_option maxHeartbeats 8000000 in
theorem PySem.Challenge.cw_wo0021_02_holds : PySem.Challenge.rw_wo0021_02.Holds :=
  Mine.holds_of fun d0 d1 d2 _ _ _ b0 b1 b2 => Mine.pure_ok d0 d1 d2 b0 b1 b2


